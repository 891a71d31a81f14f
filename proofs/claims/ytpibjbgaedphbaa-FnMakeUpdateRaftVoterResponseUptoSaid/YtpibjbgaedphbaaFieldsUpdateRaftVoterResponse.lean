/- UpdateRaftVoterResponse: the reference's fields. -/
import Derived.Test.YtpibjbgaedphbaaSpec
namespace Go.Proofs.Ytpibjbgaedphbaa
open Go Go.Kf

def fb_sUpdateRaftVoterResponseCurrentLeader : List FB := [⟨[(0, 3), (2, (-1)), (3, (-1)), (4, (-1)), (5, (-1))], none⟩, ⟨[(0, 3), (2, (-1)), (3, (-1)), (4, (-1)), (5, (-1))], none⟩, ⟨[(0, 8), (2, (-1)), (3, (-1)), (4, (-1))], none⟩, ⟨[(0, 3), (2, (-1)), (3, (-1)), (4, (-1))], none⟩]
def pf_sUpdateRaftVoterResponseCurrentLeader : List PF := [.mk 3 0 (-1) (-1) (-1) (-1) 0 [], .mk 3 0 (-1) (-1) (-1) (-1) 0 [], .mk 8 0 (-1) (-1) (-1) 0 0 [], .mk 3 0 (-1) (-1) (-1) 0 0 []]
theorem ok_sUpdateRaftVoterResponseCurrentLeader : FieldsFn P 16 pf_sUpdateRaftVoterResponseCurrentLeader := fieldsFn_gives (fbs := fb_sUpdateRaftVoterResponseCurrentLeader) spF fbF (by kernel_rfl) ⟨_, _, rfl, rfl, rfl, ⟨_, _, rfl, rfl, rfl, ⟨_, _, rfl, rfl, rfl, ⟨_, _, rfl, rfl, rfl, rfl⟩⟩⟩⟩ rfl rfl

def fb_ : List FB := [⟨[(0, 3), (2, (-1)), (3, (-1)), (4, (-1))], none⟩, ⟨[(0, 2), (2, (-1)), (3, (-1)), (4, (-1))], none⟩, ⟨[(0, 10), (2, (-1)), (3, (-1)), (4, 0)], some 16⟩]
def pf : List PF := [.mk 3 0 (-1) (-1) (-1) 0 0 [], .mk 2 0 (-1) (-1) (-1) 0 0 [], .mk 10 0 (-1) (-1) 0 0 0 pf_sUpdateRaftVoterResponseCurrentLeader]
theorem msgOk : MsgFn P 6 pf 0 := msgFn_gives (fbs := fb_) spF fbF (by kernel_rfl) ⟨_, _, rfl, rfl, rfl, ⟨_, _, rfl, rfl, rfl, ⟨_, _, rfl, rfl, ⟨_, ok_sUpdateRaftVoterResponseCurrentLeader, rfl⟩, rfl⟩⟩⟩ rfl rfl
theorem fineOk : PF.fines pf = true := by kernel_rfl
theorem kOk : kPartT pf ≤ 1024 := of_decide_eq_true (by kernel_rfl)
end Go.Proofs.Ytpibjbgaedphbaa
