/- EndTxnResponse: its fields, how it is read and told. -/
import Derived.Test.YtnmoigejkmikhaaDoorParts
namespace Go.Proofs.YtnmoigejkmikhaaDoor
open Go Go.Kf

def tysEndTxnResponse : List Ty := [.num .i16, .num .i32, .num .i16, .num .i64, .num .i16, .tags]
def lsEndTxnResponse : List Nat := [1, 1, 1, 1, 1, 1]
def zfEndTxnResponse : List FV := [.one (.int .i16 0), .one (.int .i32 0), .one (.int .i16 0), .one (.int .i64 0), .one (.int .i16 0), .tags []]
def dfEndTxnResponse : List FV := [.one (.int .i16 0), .one (.int .i32 0), .one (.int .i16 0), .one (.int .i64 (-1)), .one (.int .i16 (-1)), .tags []]
def dsEndTxnResponse : List Dset := [.set 3 2 3 (.int .i64 (-1)), .set 4 38 4 (.int .i16 (-1))]
theorem dsokEndTxnResponse : DsetsOk P 90 lsEndTxnResponse dsEndTxnResponse := ⟨⟨⟨by kernel_rfl, rfl, rfl⟩, by kernel_rfl, rfl⟩, ⟨⟨by kernel_rfl, rfl, rfl⟩, by kernel_rfl, rfl⟩, trivial⟩
theorem defEndTxnResponse : DefSets P 49 lsEndTxnResponse dsEndTxnResponse := default_gives rdF.mix (by kernel_rfl) dsokEndTxnResponse
theorem dokEndTxnResponse : DefOk P 49 90 dfEndTxnResponse := DefSets.ok (z := .agg ⟨[.int .i16 0, .int .i32 0, .int .i16 0, .int .i64 0, .int .i16 0, .map none]⟩) (zfs := zfEndTxnResponse) (dc := [.int .i16 0, .int .i32 0, .int .i16 0, .int .i64 (-1), .int .i16 (-1), .map none]) defEndTxnResponse (by kernel_rfl) (by kernel_rfl) rfl rfl rfl (by kernel_rfl)
def tfsEndTxnResponse : List (List FV → PT) := [fun fs => tellPrim (fvGet fs 1), fun fs => tellPrim (fvGet fs 2), fun fs => tellPrim (fvGet fs 3), fun fs => tellPrim (fvGet fs 4)]
def tssEndTxnResponse : List TStep := [.num 1 21 0, .num 2 38 1, .num64 3 2, .num 4 38 3]
theorem tsokEndTxnResponse : StepsTell P N 90 tysEndTxnResponse tssEndTxnResponse tfsEndTxnResponse 0 := ⟨told_num tyZ tellF ⟨by kernel_rfl, rfl, rfl⟩ (by kernel_rfl) (by kernel_rfl) fits_i32, told_num tyZ tellF ⟨by kernel_rfl, rfl, rfl⟩ (by kernel_rfl) (by kernel_rfl) fits_i16, told_num64 tyZ tellF ⟨by kernel_rfl, rfl, rfl⟩, told_num tyZ tellF ⟨by kernel_rfl, rfl, rfl⟩ (by kernel_rfl) (by kernel_rfl) fits_i16, trivial⟩
def gpEndTxnResponse (fs : List FV) : PT := .mk 0 [] false (tfsEndTxnResponse.map (· fs)) (tellTags (fvGet fs 5))
theorem toldEndTxnResponse : TellOf P 35 tysEndTxnResponse gpEndTxnResponse := told_tags (S := 90) (N := 4) (g := 51) (ss := tssEndTxnResponse) rdF tyZ tellF (closure_gives rdF tyZ octF rowTg tagPlan (by kernel_rfl)) hEach hSorted (by kernel_rfl) rfl (by decide) tsokEndTxnResponse ⟨by kernel_rfl, rfl, rfl⟩

end Go.Proofs.YtnmoigejkmikhaaDoor
