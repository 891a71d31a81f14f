/- InitProducerIDResponse: its fields, how it is read and told. -/
import Derived.Test.YtldopkodfdijdaaDoorParts
namespace Go.Proofs.YtldopkodfdijdaaDoor
open Go Go.Kf

def tysInitProducerIDResponse : List Ty := [.num .i16, .num .i32, .num .i16, .num .i64, .num .i16, .tags]
def lsInitProducerIDResponse : List Nat := [1, 1, 1, 1, 1, 1]
def zfInitProducerIDResponse : List FV := [.one (.int .i16 0), .one (.int .i32 0), .one (.int .i16 0), .one (.int .i64 0), .one (.int .i16 0), .tags []]
def dfInitProducerIDResponse : List FV := [.one (.int .i16 0), .one (.int .i32 0), .one (.int .i16 0), .one (.int .i64 (-1)), .one (.int .i16 0), .tags []]
def dsInitProducerIDResponse : List Dset := [.set 3 2 3 (.int .i64 (-1))]
theorem dsokInitProducerIDResponse : DsetsOk P 93 lsInitProducerIDResponse dsInitProducerIDResponse := ⟨⟨⟨by kernel_rfl, rfl, rfl⟩, by kernel_rfl, rfl⟩, trivial⟩
theorem defInitProducerIDResponse : DefSets P 52 lsInitProducerIDResponse dsInitProducerIDResponse := default_gives rdF.mix (by kernel_rfl) dsokInitProducerIDResponse
theorem dokInitProducerIDResponse : DefOk P 52 93 dfInitProducerIDResponse := DefSets.ok (z := .agg ⟨[.int .i16 0, .int .i32 0, .int .i16 0, .int .i64 0, .int .i16 0, .map none]⟩) (zfs := zfInitProducerIDResponse) (dc := [.int .i16 0, .int .i32 0, .int .i16 0, .int .i64 (-1), .int .i16 0, .map none]) defInitProducerIDResponse (by kernel_rfl) (by kernel_rfl) rfl rfl rfl (by kernel_rfl)
def tfsInitProducerIDResponse : List (List FV → PT) := [fun fs => tellPrim (fvGet fs 1), fun fs => tellPrim (fvGet fs 2), fun fs => tellPrim (fvGet fs 3), fun fs => tellPrim (fvGet fs 4)]
def tssInitProducerIDResponse : List TStep := [.num 1 21 0, .num 2 46 1, .num64 3 2, .num 4 46 3]
theorem tsokInitProducerIDResponse : StepsTell P N 93 tysInitProducerIDResponse tssInitProducerIDResponse tfsInitProducerIDResponse 0 := ⟨told_num tyZ tellF ⟨by kernel_rfl, rfl, rfl⟩ (by kernel_rfl) (by kernel_rfl) fits_i32, told_num tyZ tellF ⟨by kernel_rfl, rfl, rfl⟩ (by kernel_rfl) (by kernel_rfl) fits_i16, told_num64 tyZ tellF ⟨by kernel_rfl, rfl, rfl⟩, told_num tyZ tellF ⟨by kernel_rfl, rfl, rfl⟩ (by kernel_rfl) (by kernel_rfl) fits_i16, trivial⟩
def gpInitProducerIDResponse (fs : List FV) : PT := .mk 0 [] false (tfsInitProducerIDResponse.map (· fs)) (tellTags (fvGet fs 5))
theorem toldInitProducerIDResponse : TellOf P 36 tysInitProducerIDResponse gpInitProducerIDResponse := told_tags (S := 93) (N := 4) (g := 54) (ss := tssInitProducerIDResponse) rdF tyZ tellF (closure_gives rdF tyZ octF rowTg tagPlan (by kernel_rfl)) hEach hSorted (by kernel_rfl) rfl (by decide) tsokInitProducerIDResponse ⟨by kernel_rfl, rfl, rfl⟩

end Go.Proofs.YtldopkodfdijdaaDoor
