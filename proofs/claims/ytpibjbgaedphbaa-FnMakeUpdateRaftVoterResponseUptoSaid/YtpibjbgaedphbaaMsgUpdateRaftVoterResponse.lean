/- UpdateRaftVoterResponse: its fields, how it is read and told. -/
import Derived.Test.YtpibjbgaedphbaaParts
namespace Go.Proofs.Ytpibjbgaedphbaa
open Go Go.Kf

def tysUpdateRaftVoterResponseCurrentLeader : List Ty := [.num .i32, .num .i32, .text, .num .i32, .tags]
def lsUpdateRaftVoterResponseCurrentLeader : List Nat := [1, 1, 1, 1, 1]
def zfUpdateRaftVoterResponseCurrentLeader : List FV := [.one (.int .i32 0), .one (.int .i32 0), .text [], .one (.int .i32 0), .tags []]
def dfUpdateRaftVoterResponseCurrentLeader : List FV := [.one (.int .i32 (-1)), .one (.int .i32 (-1)), .text [], .one (.int .i32 0), .tags []]
def dsUpdateRaftVoterResponseCurrentLeader : List Dset := [.set 0 21 0 (.int .i32 (-1)), .set 1 21 1 (.int .i32 (-1))]
theorem dsokUpdateRaftVoterResponseCurrentLeader : DsetsOk P 56 lsUpdateRaftVoterResponseCurrentLeader dsUpdateRaftVoterResponseCurrentLeader := ⟨⟨⟨by kernel_rfl, rfl, rfl⟩, by kernel_rfl, rfl⟩, ⟨⟨by kernel_rfl, rfl, rfl⟩, by kernel_rfl, rfl⟩, trivial⟩
theorem defUpdateRaftVoterResponseCurrentLeader : DefSets P 34 lsUpdateRaftVoterResponseCurrentLeader dsUpdateRaftVoterResponseCurrentLeader := default_gives rdF.mix (by kernel_rfl) dsokUpdateRaftVoterResponseCurrentLeader
theorem dokUpdateRaftVoterResponseCurrentLeader : DefOk P 34 56 dfUpdateRaftVoterResponseCurrentLeader := DefSets.ok (z := .agg ⟨[.int .i32 0, .int .i32 0, .string (strOf []), .int .i32 0, .map none]⟩) (zfs := zfUpdateRaftVoterResponseCurrentLeader) (dc := [.int .i32 (-1), .int .i32 (-1), .string (strOf []), .int .i32 0, .map none]) defUpdateRaftVoterResponseCurrentLeader (by kernel_rfl) (by kernel_rfl) rfl rfl rfl (by kernel_rfl)
def tysUpdateRaftVoterResponse : List Ty := [.num .i16, .num .i32, .num .i16, .sub tysUpdateRaftVoterResponseCurrentLeader, .tags]
def lsUpdateRaftVoterResponse : List Nat := [1, 1, 1, 5, 1]
def zfUpdateRaftVoterResponse : List FV := [.one (.int .i16 0), .one (.int .i32 0), .one (.int .i16 0), .sub zfUpdateRaftVoterResponseCurrentLeader, .tags []]
def dfUpdateRaftVoterResponse : List FV := [.one (.int .i16 0), .one (.int .i32 0), .one (.int .i16 0), .sub [.one (.int .i32 (-1)), .one (.int .i32 (-1)), .text [], .one (.int .i32 0), .tags []], .tags []]
def dsUpdateRaftVoterResponse : List Dset := [.sub 3 3 56 lsUpdateRaftVoterResponseCurrentLeader [.set 0 21 0 (.int .i32 (-1)), .set 1 21 1 (.int .i32 (-1))]]
theorem dsokUpdateRaftVoterResponse : DsetsOk P 58 lsUpdateRaftVoterResponse dsUpdateRaftVoterResponse := ⟨⟨⟨by kernel_rfl, rfl, rfl⟩, ⟨⟨⟨by kernel_rfl, rfl, rfl⟩, by kernel_rfl, rfl⟩, ⟨⟨by kernel_rfl, rfl, rfl⟩, by kernel_rfl, rfl⟩, trivial⟩⟩, trivial⟩
theorem defUpdateRaftVoterResponse : DefSets P 26 lsUpdateRaftVoterResponse dsUpdateRaftVoterResponse := default_gives rdF.mix (by kernel_rfl) dsokUpdateRaftVoterResponse
theorem dokUpdateRaftVoterResponse : DefOk P 26 58 dfUpdateRaftVoterResponse := DefSets.ok (z := .agg ⟨[.int .i16 0, .int .i32 0, .int .i16 0, .int .i32 0, .int .i32 0, .string (strOf []), .int .i32 0, .map none, .map none]⟩) (zfs := zfUpdateRaftVoterResponse) (dc := [.int .i16 0, .int .i32 0, .int .i16 0, .int .i32 (-1), .int .i32 (-1), .string (strOf []), .int .i32 0, .map none, .map none]) defUpdateRaftVoterResponse (by kernel_rfl) (by kernel_rfl) rfl rfl rfl (by kernel_rfl)
end Go.Proofs.Ytpibjbgaedphbaa
