/- RemoveRaftVoterResponse: its fields, how it is read and told. -/
import Derived.Test.YtldopkodfdijdabDoorParts
namespace Go.Proofs.YtldopkodfdijdabDoor
open Go Go.Kf

def tysRemoveRaftVoterResponse : List Ty := [.num .i16, .num .i32, .num .i16, .ntext, .tags]
def lsRemoveRaftVoterResponse : List Nat := [1, 1, 1, 1, 1]
def zfRemoveRaftVoterResponse : List FV := [.one (.int .i16 0), .one (.int .i32 0), .one (.int .i16 0), .ntext none, .tags []]
def dfRemoveRaftVoterResponse : List FV := [.one (.int .i16 0), .one (.int .i32 0), .one (.int .i16 0), .ntext none, .tags []]
def dsRemoveRaftVoterResponse : List Dset := []
theorem dsokRemoveRaftVoterResponse : DsetsOk P 78 lsRemoveRaftVoterResponse dsRemoveRaftVoterResponse := trivial
theorem defRemoveRaftVoterResponse : DefSets P 38 lsRemoveRaftVoterResponse dsRemoveRaftVoterResponse := default_gives rdF.mix (by kernel_rfl) dsokRemoveRaftVoterResponse
theorem dokRemoveRaftVoterResponse : DefOk P 38 78 dfRemoveRaftVoterResponse := DefSets.ok (z := .agg ⟨[.int .i16 0, .int .i32 0, .int .i16 0, .pointer none, .map none]⟩) (zfs := zfRemoveRaftVoterResponse) (dc := [.int .i16 0, .int .i32 0, .int .i16 0, .pointer none, .map none]) defRemoveRaftVoterResponse (by kernel_rfl) (by kernel_rfl) rfl rfl rfl (by kernel_rfl)
def tfsRemoveRaftVoterResponse : List (List FV → PT) := [fun fs => tellPrim (fvGet fs 1), fun fs => tellPrim (fvGet fs 2), fun fs => tellPrim (fvGet fs 3)]
def tssRemoveRaftVoterResponse : List TStep := [.num 1 21 0, .num 2 46 1, .call 40 3 73 2]
theorem tsokRemoveRaftVoterResponse : StepsTell P N 78 tysRemoveRaftVoterResponse tssRemoveRaftVoterResponse tfsRemoveRaftVoterResponse 0 := ⟨told_num tyZ tellF ⟨by kernel_rfl, rfl, rfl⟩ (by kernel_rfl) (by kernel_rfl) fits_i32, told_num tyZ tellF ⟨by kernel_rfl, rfl, rfl⟩ (by kernel_rfl) (by kernel_rfl) fits_i16, told_call tyZ ⟨by kernel_rfl, rfl, rfl⟩ (by kernel_rfl) cText, trivial⟩
def gpRemoveRaftVoterResponse (fs : List FV) : PT := .mk 0 [] false (tfsRemoveRaftVoterResponse.map (· fs)) (tellTags (fvGet fs 4))
theorem toldRemoveRaftVoterResponse : TellOf P 22 tysRemoveRaftVoterResponse gpRemoveRaftVoterResponse := told_tags (S := 78) (N := 3) (g := 42) (ss := tssRemoveRaftVoterResponse) rdF tyZ tellF (closure_gives rdF tyZ octF rowTg tagPlan (by kernel_rfl)) hEach hSorted (by kernel_rfl) rfl (by decide) tsokRemoveRaftVoterResponse ⟨by kernel_rfl, rfl, rfl⟩

end Go.Proofs.YtldopkodfdijdabDoor
