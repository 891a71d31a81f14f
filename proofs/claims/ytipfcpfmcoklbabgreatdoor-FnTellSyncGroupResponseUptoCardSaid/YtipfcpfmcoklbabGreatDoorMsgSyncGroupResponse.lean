/- SyncGroupResponse: its fields, how it is read and told. -/
import Derived.Test.YtipfcpfmcoklbabGreatDoorParts
namespace Go.Proofs.YtipfcpfmcoklbabGreatDoor
open Go Go.Kf

def tysSyncGroupResponse : List Ty := [.num .i16, .num .i32, .num .i16, .ntext, .ntext, .octs, .tags]
def lsSyncGroupResponse : List Nat := [1, 1, 1, 1, 1, 1, 1]
def zfSyncGroupResponse : List FV := [.one (.int .i16 0), .one (.int .i32 0), .one (.int .i16 0), .ntext none, .ntext none, .octs true [], .tags []]
def dfSyncGroupResponse : List FV := [.one (.int .i16 0), .one (.int .i32 0), .one (.int .i16 0), .ntext none, .ntext none, .octs true [], .tags []]
def dsSyncGroupResponse : List Dset := []
theorem dsokSyncGroupResponse : DsetsOk P 79 lsSyncGroupResponse dsSyncGroupResponse := trivial
theorem defSyncGroupResponse : DefSets P 39 lsSyncGroupResponse dsSyncGroupResponse := default_gives rdF.mix (by kernel_rfl) dsokSyncGroupResponse
theorem dokSyncGroupResponse : DefOk P 39 79 dfSyncGroupResponse := DefSets.ok (z := .agg ⟨[.int .i16 0, .int .i32 0, .int .i16 0, .pointer none, .pointer none, .slice none 0 0, .map none]⟩) (zfs := zfSyncGroupResponse) (dc := [.int .i16 0, .int .i32 0, .int .i16 0, .pointer none, .pointer none, .slice none 0 0, .map none]) defSyncGroupResponse (by kernel_rfl) (by kernel_rfl) rfl rfl rfl (by kernel_rfl)
def tfsSyncGroupResponse : List (List FV → PT) := [fun fs => tellPrim (fvGet fs 1), fun fs => tellPrim (fvGet fs 2), fun fs => tellPrim (fvGet fs 3), fun fs => tellPrim (fvGet fs 4), fun fs => tellPrim (fvGet fs 5)]
def tssSyncGroupResponse : List TStep := [.num 1 21 0, .num 2 46 1, .call 41 3 74 2, .call 41 4 74 3, .call 42 5 22 4]
theorem tsokSyncGroupResponse : StepsTell P N 79 tysSyncGroupResponse tssSyncGroupResponse tfsSyncGroupResponse 0 := ⟨told_num tyZ tellF ⟨by kernel_rfl, rfl, rfl⟩ (by kernel_rfl) (by kernel_rfl) fits_i32, told_num tyZ tellF ⟨by kernel_rfl, rfl, rfl⟩ (by kernel_rfl) (by kernel_rfl) fits_i16, told_call tyZ ⟨by kernel_rfl, rfl, rfl⟩ (by kernel_rfl) cText, told_call tyZ ⟨by kernel_rfl, rfl, rfl⟩ (by kernel_rfl) cText, told_call tyZ ⟨by kernel_rfl, rfl, rfl⟩ (by kernel_rfl) cOcts, trivial⟩
def gpSyncGroupResponse (fs : List FV) : PT := .mk 0 [] false (tfsSyncGroupResponse.map (· fs)) (tellTags (fvGet fs 6))
theorem toldSyncGroupResponse : TellOf P 22 tysSyncGroupResponse gpSyncGroupResponse := told_tags (S := 79) (N := 5) (g := 44) (ss := tssSyncGroupResponse) rdF tyZ tellF (closure_gives rdF tyZ octF rowTg tagPlan (by kernel_rfl)) hEach hSorted (by kernel_rfl) rfl (by decide) tsokSyncGroupResponse ⟨by kernel_rfl, rfl, rfl⟩

end Go.Proofs.YtipfcpfmcoklbabGreatDoor
