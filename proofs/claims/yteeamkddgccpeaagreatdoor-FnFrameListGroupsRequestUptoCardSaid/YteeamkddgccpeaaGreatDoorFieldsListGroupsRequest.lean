/- ListGroupsRequest: the reference's fields. -/
import Derived.Test.YteeamkddgccpeaaGreatDoorSpec
namespace Go.Proofs.YteeamkddgccpeaaGreatDoor
open Go Go.Kf

def fb_ : List FB := [⟨[(0, 11), (1, 4), (2, (-1)), (3, (-1)), (4, (-1)), (6, 8)], none⟩, ⟨[(0, 11), (1, 5), (2, (-1)), (3, (-1)), (4, (-1)), (6, 8)], none⟩]
def pf : List PF := [.mk 11 4 (-1) (-1) (-1) 0 8 [], .mk 11 5 (-1) (-1) (-1) 0 8 []]
theorem msgOk : MsgFn P 7 pf 3 := msgFn_gives (fbs := fb_) spF fbF (by kernel_rfl) ⟨_, _, rfl, rfl, rfl, ⟨_, _, rfl, rfl, rfl, rfl⟩⟩ rfl rfl
theorem plainOk : PF.plains pf = true := by kernel_rfl
theorem kOk : kPart pf ≤ 1024 := of_decide_eq_true (by kernel_rfl)
end Go.Proofs.YteeamkddgccpeaaGreatDoor
