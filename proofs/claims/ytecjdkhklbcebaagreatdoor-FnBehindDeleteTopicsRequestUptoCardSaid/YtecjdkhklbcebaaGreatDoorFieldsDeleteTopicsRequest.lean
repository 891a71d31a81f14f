/- DeleteTopicsRequest: the reference's fields. -/
import Derived.Test.YtecjdkhklbcebaaGreatDoorSpec
namespace Go.Proofs.YtecjdkhklbcebaaGreatDoor
open Go Go.Kf

def fb_sDeleteTopicsRequestTopic : List FB := [⟨[(0, 8), (2, (-1)), (3, 0), (4, (-1))], none⟩, ⟨[(0, 7), (2, (-1)), (3, (-1)), (4, (-1))], none⟩]
def pf_sDeleteTopicsRequestTopic : List PF := [.mk 8 0 (-1) 0 (-1) 0 0 [], .mk 7 0 (-1) (-1) (-1) 0 0 []]
theorem ok_sDeleteTopicsRequestTopic : FieldsFn P 18 pf_sDeleteTopicsRequestTopic := fieldsFn_gives (fbs := fb_sDeleteTopicsRequestTopic) spF fbF (by kernel_rfl) ⟨_, _, rfl, rfl, rfl, ⟨_, _, rfl, rfl, rfl, rfl⟩⟩ rfl rfl

def fb_ : List FB := [⟨[(0, 11), (2, 5), (3, (-1)), (4, (-1)), (6, 8)], none⟩, ⟨[(0, 11), (1, 6), (2, (-1)), (3, (-1)), (4, (-1)), (6, 10)], some 18⟩, ⟨[(0, 3), (2, (-1)), (3, (-1)), (4, (-1)), (5, 15000)], none⟩]
def pf : List PF := [.mk 11 0 5 (-1) (-1) 0 8 [], .mk 11 6 (-1) (-1) (-1) 0 10 pf_sDeleteTopicsRequestTopic, .mk 3 0 (-1) (-1) (-1) 15000 0 []]
theorem msgOk : MsgFn P 7 pf 4 := msgFn_gives (fbs := fb_) spF fbF (by kernel_rfl) ⟨_, _, rfl, rfl, rfl, ⟨_, _, rfl, rfl, ⟨_, ok_sDeleteTopicsRequestTopic, rfl⟩, ⟨_, _, rfl, rfl, rfl, rfl⟩⟩⟩ rfl rfl
theorem plainOk : PF.plains pf = true := by kernel_rfl
theorem kOk : kPart pf ≤ 1024 := of_decide_eq_true (by kernel_rfl)
end Go.Proofs.YtecjdkhklbcebaaGreatDoor
