/- ListTransactionsRequest: the reference's fields. -/
import Derived.Test.YtecjdkhklbcebaaGreatDoorSpec
namespace Go.Proofs.YtecjdkhklbcebaaGreatDoor
open Go Go.Kf

def fb_ : List FB := [⟨[(0, 11), (2, (-1)), (3, (-1)), (4, (-1)), (6, 8)], none⟩, ⟨[(0, 11), (2, (-1)), (3, (-1)), (4, (-1)), (6, 4)], none⟩, ⟨[(0, 4), (1, 1), (2, (-1)), (3, (-1)), (4, (-1)), (5, (-1))], none⟩, ⟨[(0, 8), (1, 2), (2, (-1)), (3, 2), (4, (-1))], none⟩]
def pf : List PF := [.mk 11 0 (-1) (-1) (-1) 0 8 [], .mk 11 0 (-1) (-1) (-1) 0 4 [], .mk 4 1 (-1) (-1) (-1) (-1) 0 [], .mk 8 2 (-1) 2 (-1) 0 0 []]
theorem msgOk : MsgFn P 13 pf 0 := msgFn_gives (fbs := fb_) spF fbF (by kernel_rfl) ⟨_, _, rfl, rfl, rfl, ⟨_, _, rfl, rfl, rfl, ⟨_, _, rfl, rfl, rfl, ⟨_, _, rfl, rfl, rfl, rfl⟩⟩⟩⟩ rfl rfl
theorem plainOk : PF.plains pf = true := by kernel_rfl
theorem kOk : kPart pf ≤ 1024 := of_decide_eq_true (by kernel_rfl)
end Go.Proofs.YtecjdkhklbcebaaGreatDoor
