/- CreateACLsRequest: the reference's fields. -/
import Derived.Test.YtbgdfbfecdanbaaGreatDoorSpec
namespace Go.Proofs.YtbgdfbfecdanbaaGreatDoor
open Go Go.Kf

def fb_sCreateACLsRequestCreation : List FB := [⟨[(0, 1), (2, (-1)), (3, (-1)), (4, (-1))], none⟩, ⟨[(0, 8), (2, (-1)), (3, (-1)), (4, (-1))], none⟩, ⟨[(0, 1), (1, 1), (2, (-1)), (3, (-1)), (4, (-1)), (5, 3)], none⟩, ⟨[(0, 8), (2, (-1)), (3, (-1)), (4, (-1))], none⟩, ⟨[(0, 8), (2, (-1)), (3, (-1)), (4, (-1))], none⟩, ⟨[(0, 1), (2, (-1)), (3, (-1)), (4, (-1))], none⟩, ⟨[(0, 1), (2, (-1)), (3, (-1)), (4, (-1))], none⟩]
def pf_sCreateACLsRequestCreation : List PF := [.mk 1 0 (-1) (-1) (-1) 0 0 [], .mk 8 0 (-1) (-1) (-1) 0 0 [], .mk 1 1 (-1) (-1) (-1) 3 0 [], .mk 8 0 (-1) (-1) (-1) 0 0 [], .mk 8 0 (-1) (-1) (-1) 0 0 [], .mk 1 0 (-1) (-1) (-1) 0 0 [], .mk 1 0 (-1) (-1) (-1) 0 0 []]
theorem ok_sCreateACLsRequestCreation : FieldsFn P 25 pf_sCreateACLsRequestCreation := fieldsFn_gives (fbs := fb_sCreateACLsRequestCreation) spF fbF (by kernel_rfl) ⟨_, _, rfl, rfl, rfl, ⟨_, _, rfl, rfl, rfl, ⟨_, _, rfl, rfl, rfl, ⟨_, _, rfl, rfl, rfl, ⟨_, _, rfl, rfl, rfl, ⟨_, _, rfl, rfl, rfl, ⟨_, _, rfl, rfl, rfl, rfl⟩⟩⟩⟩⟩⟩⟩ rfl rfl

def fb_ : List FB := [⟨[(0, 11), (2, (-1)), (3, (-1)), (4, (-1)), (6, 10)], some 25⟩]
def pf : List PF := [.mk 11 0 (-1) (-1) (-1) 0 10 pf_sCreateACLsRequestCreation]
theorem msgOk : MsgFn P 13 pf 2 := msgFn_gives (fbs := fb_) spF fbF (by kernel_rfl) ⟨_, _, rfl, rfl, ⟨_, ok_sCreateACLsRequestCreation, rfl⟩, rfl⟩ rfl rfl
theorem plainOk : PF.plains pf = true := by kernel_rfl
theorem kOk : kPart pf ≤ 1024 := of_decide_eq_true (by kernel_rfl)
end Go.Proofs.YtbgdfbfecdanbaaGreatDoor
