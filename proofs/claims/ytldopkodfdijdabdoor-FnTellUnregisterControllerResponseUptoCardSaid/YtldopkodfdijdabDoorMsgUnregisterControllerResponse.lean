/- UnregisterControllerResponse: its fields, how it is read and told. -/
import Derived.Test.YtldopkodfdijdabDoorParts
namespace Go.Proofs.YtldopkodfdijdabDoor
open Go Go.Kf

def tysUnregisterControllerResponse : List Ty := [.num .i16, .num .i32, .num .i16, .ntext, .tags]
def lsUnregisterControllerResponse : List Nat := [1, 1, 1, 1, 1]
def zfUnregisterControllerResponse : List FV := [.one (.int .i16 0), .one (.int .i32 0), .one (.int .i16 0), .ntext none, .tags []]
def dfUnregisterControllerResponse : List FV := [.one (.int .i16 0), .one (.int .i32 0), .one (.int .i16 0), .ntext none, .tags []]
def dsUnregisterControllerResponse : List Dset := []
theorem dsokUnregisterControllerResponse : DsetsOk P 93 lsUnregisterControllerResponse dsUnregisterControllerResponse := trivial
theorem defUnregisterControllerResponse : DefSets P 52 lsUnregisterControllerResponse dsUnregisterControllerResponse := default_gives rdF.mix (by kernel_rfl) dsokUnregisterControllerResponse
theorem dokUnregisterControllerResponse : DefOk P 52 93 dfUnregisterControllerResponse := DefSets.ok (z := .agg ⟨[.int .i16 0, .int .i32 0, .int .i16 0, .pointer none, .map none]⟩) (zfs := zfUnregisterControllerResponse) (dc := [.int .i16 0, .int .i32 0, .int .i16 0, .pointer none, .map none]) defUnregisterControllerResponse (by kernel_rfl) (by kernel_rfl) rfl rfl rfl (by kernel_rfl)
def tfsUnregisterControllerResponse : List (List FV → PT) := [fun fs => tellPrim (fvGet fs 1), fun fs => tellPrim (fvGet fs 2), fun fs => tellPrim (fvGet fs 3)]
def tssUnregisterControllerResponse : List TStep := [.num 1 21 0, .num 2 46 1, .call 40 3 73 2]
theorem tsokUnregisterControllerResponse : StepsTell P N 93 tysUnregisterControllerResponse tssUnregisterControllerResponse tfsUnregisterControllerResponse 0 := ⟨told_num tyZ tellF ⟨by kernel_rfl, rfl, rfl⟩ (by kernel_rfl) (by kernel_rfl) fits_i32, told_num tyZ tellF ⟨by kernel_rfl, rfl, rfl⟩ (by kernel_rfl) (by kernel_rfl) fits_i16, told_call tyZ ⟨by kernel_rfl, rfl, rfl⟩ (by kernel_rfl) cText, trivial⟩
def gpUnregisterControllerResponse (fs : List FV) : PT := .mk 0 [] false (tfsUnregisterControllerResponse.map (· fs)) (tellTags (fvGet fs 4))
theorem toldUnregisterControllerResponse : TellOf P 36 tysUnregisterControllerResponse gpUnregisterControllerResponse := told_tags (S := 93) (N := 3) (g := 54) (ss := tssUnregisterControllerResponse) rdF tyZ tellF (closure_gives rdF tyZ octF rowTg tagPlan (by kernel_rfl)) hEach hSorted (by kernel_rfl) rfl (by decide) tsokUnregisterControllerResponse ⟨by kernel_rfl, rfl, rfl⟩

end Go.Proofs.YtldopkodfdijdabDoor
