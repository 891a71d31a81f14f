/- AddOffsetsToTxnRequest: its fields, how it is read and told. -/
import Derived.Test.YtbanlccechdemacDoorParts
namespace Go.Proofs.YtbanlccechdemacDoor
open Go Go.Kf

def tysAddOffsetsToTxnRequest : List Ty := [.num .i16, .text, .num .i64, .num .i16, .text, .tags]
def lsAddOffsetsToTxnRequest : List Nat := [1, 1, 1, 1, 1, 1]
def zfAddOffsetsToTxnRequest : List FV := [.one (.int .i16 0), .text [], .one (.int .i64 0), .one (.int .i16 0), .text [], .tags []]
def dfAddOffsetsToTxnRequest : List FV := [.one (.int .i16 0), .text [], .one (.int .i64 0), .one (.int .i16 0), .text [], .tags []]
def dsAddOffsetsToTxnRequest : List Dset := []
theorem dsokAddOffsetsToTxnRequest : DsetsOk P 56 lsAddOffsetsToTxnRequest dsAddOffsetsToTxnRequest := fun d hd => by cases hd
theorem defAddOffsetsToTxnRequest : DefSets P 17 lsAddOffsetsToTxnRequest dsAddOffsetsToTxnRequest := default_gives rdF.mix (by kernel_rfl) dsokAddOffsetsToTxnRequest
theorem dokAddOffsetsToTxnRequest : DefOk P 17 56 dfAddOffsetsToTxnRequest := DefSets.ok (z := .agg ⟨[.int .i16 0, .string (strOf []), .int .i64 0, .int .i16 0, .string (strOf []), .map none]⟩) (zfs := zfAddOffsetsToTxnRequest) (dc := [.int .i16 0, .string (strOf []), .int .i64 0, .int .i16 0, .string (strOf []), .map none]) defAddOffsetsToTxnRequest (by kernel_rfl) (by kernel_rfl) rfl rfl (by kernel_rfl)
def tfsAddOffsetsToTxnRequest : List (List FV → PT) := [fun fs => tellPrim (fvGet fs 1), fun fs => tellPrim (fvGet fs 2), fun fs => tellPrim (fvGet fs 3), fun fs => tellPrim (fvGet fs 4)]
def tssAddOffsetsToTxnRequest : List TStep := [.text 1 0, .num64 2 1, .num 3 38 2, .text 4 3]
theorem tsokAddOffsetsToTxnRequest : StepsTell P N 56 tysAddOffsetsToTxnRequest tssAddOffsetsToTxnRequest tfsAddOffsetsToTxnRequest 0 := ⟨told_text rdF tyZ tellF oneStr ⟨by kernel_rfl, rfl, rfl⟩, told_num64 tyZ tellF ⟨by kernel_rfl, rfl, rfl⟩, told_num tyZ tellF ⟨by kernel_rfl, rfl, rfl⟩ (by kernel_rfl) (by kernel_rfl) fits_i16, told_text rdF tyZ tellF oneStr ⟨by kernel_rfl, rfl, rfl⟩, trivial⟩
def gpAddOffsetsToTxnRequest (fs : List FV) : PT := .mk 0 [] false (tfsAddOffsetsToTxnRequest.map (· fs)) (tellTags (fvGet fs 5))
theorem toldAddOffsetsToTxnRequest : TellOf P 14 tysAddOffsetsToTxnRequest gpAddOffsetsToTxnRequest := told_tags (S := 56) (N := 4) (g := 20) (ss := tssAddOffsetsToTxnRequest) rdF tyZ tellF (closure_gives rdF tyZ octF rowTg tagPlan (by kernel_rfl)) hEach hSorted (by kernel_rfl) rfl (by decide) tsokAddOffsetsToTxnRequest ⟨by kernel_rfl, rfl, rfl⟩

end Go.Proofs.YtbanlccechdemacDoor
