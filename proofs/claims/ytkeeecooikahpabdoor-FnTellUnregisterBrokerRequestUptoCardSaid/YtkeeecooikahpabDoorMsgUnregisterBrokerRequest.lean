/- UnregisterBrokerRequest: its fields, how it is read and told. -/
import Derived.Test.YtkeeecooikahpabDoorParts
namespace Go.Proofs.YtkeeecooikahpabDoor
open Go Go.Kf

def tysUnregisterBrokerRequest : List Ty := [.num .i16, .num .i32, .tags]
def lsUnregisterBrokerRequest : List Nat := [1, 1, 1]
def zfUnregisterBrokerRequest : List FV := [.one (.int .i16 0), .one (.int .i32 0), .tags []]
def dfUnregisterBrokerRequest : List FV := [.one (.int .i16 0), .one (.int .i32 0), .tags []]
def dsUnregisterBrokerRequest : List Dset := []
theorem dsokUnregisterBrokerRequest : DsetsOk P 74 lsUnregisterBrokerRequest dsUnregisterBrokerRequest := trivial
theorem defUnregisterBrokerRequest : DefSets P 29 lsUnregisterBrokerRequest dsUnregisterBrokerRequest := default_gives rdF.mix (by kernel_rfl) dsokUnregisterBrokerRequest
theorem dokUnregisterBrokerRequest : DefOk P 29 74 dfUnregisterBrokerRequest := DefSets.ok (z := .agg ⟨[.int .i16 0, .int .i32 0, .map none]⟩) (zfs := zfUnregisterBrokerRequest) (dc := [.int .i16 0, .int .i32 0, .map none]) defUnregisterBrokerRequest (by kernel_rfl) (by kernel_rfl) rfl rfl rfl (by kernel_rfl)
def tfsUnregisterBrokerRequest : List (List FV → PT) := [fun fs => tellPrim (fvGet fs 1)]
def tssUnregisterBrokerRequest : List TStep := [.num 1 21 0]
theorem tsokUnregisterBrokerRequest : StepsTell P N 74 tysUnregisterBrokerRequest tssUnregisterBrokerRequest tfsUnregisterBrokerRequest 0 := ⟨told_num tyZ tellF ⟨by kernel_rfl, rfl, rfl⟩ (by kernel_rfl) (by kernel_rfl) fits_i32, trivial⟩
def gpUnregisterBrokerRequest (fs : List FV) : PT := .mk 0 [] false (tfsUnregisterBrokerRequest.map (· fs)) (tellTags (fvGet fs 2))
theorem toldUnregisterBrokerRequest : TellOf P 18 tysUnregisterBrokerRequest gpUnregisterBrokerRequest := told_tags (S := 74) (N := 1) (g := 32) (ss := tssUnregisterBrokerRequest) rdF tyZ tellF (closure_gives rdF tyZ octF rowTg tagPlan (by kernel_rfl)) hEach hSorted (by kernel_rfl) rfl (by decide) tsokUnregisterBrokerRequest ⟨by kernel_rfl, rfl, rfl⟩

end Go.Proofs.YtkeeecooikahpabDoor
