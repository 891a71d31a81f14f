/- ListOffsetsResponse: the reference's fields. -/
import Derived.Test.YtecjdkhklbcebabGreatDoorSpec
namespace Go.Proofs.YtecjdkhklbcebabGreatDoor
open Go Go.Kf

def fb_sListOffsetsResponseTopicPartition : List FB := [⟨[(0, 3), (2, (-1)), (3, (-1)), (4, (-1))], none⟩, ⟨[(0, 2), (2, (-1)), (3, (-1)), (4, (-1))], none⟩, ⟨[(0, 11), (2, 0), (3, (-1)), (4, (-1)), (6, 4)], none⟩, ⟨[(0, 4), (1, 1), (2, (-1)), (3, (-1)), (4, (-1)), (5, (-1))], none⟩, ⟨[(0, 4), (1, 1), (2, (-1)), (3, (-1)), (4, (-1)), (5, (-1))], none⟩, ⟨[(0, 3), (1, 4), (2, (-1)), (3, (-1)), (4, (-1)), (5, (-1))], none⟩]
def pf_sListOffsetsResponseTopicPartition : List PF := [.mk 3 0 (-1) (-1) (-1) 0 0 [], .mk 2 0 (-1) (-1) (-1) 0 0 [], .mk 11 0 0 (-1) (-1) 0 4 [], .mk 4 1 (-1) (-1) (-1) (-1) 0 [], .mk 4 1 (-1) (-1) (-1) (-1) 0 [], .mk 3 4 (-1) (-1) (-1) (-1) 0 []]
theorem ok_sListOffsetsResponseTopicPartition : FieldsFn P 50 pf_sListOffsetsResponseTopicPartition := fieldsFn_gives (fbs := fb_sListOffsetsResponseTopicPartition) spF fbF (by kernel_rfl) ⟨_, _, rfl, rfl, rfl, ⟨_, _, rfl, rfl, rfl, ⟨_, _, rfl, rfl, rfl, ⟨_, _, rfl, rfl, rfl, ⟨_, _, rfl, rfl, rfl, ⟨_, _, rfl, rfl, rfl, rfl⟩⟩⟩⟩⟩⟩ rfl rfl

def fb_sListOffsetsResponseTopic : List FB := [⟨[(0, 8), (2, (-1)), (3, (-1)), (4, (-1))], none⟩, ⟨[(0, 11), (2, (-1)), (3, (-1)), (4, (-1)), (6, 10)], some 50⟩]
def pf_sListOffsetsResponseTopic : List PF := [.mk 8 0 (-1) (-1) (-1) 0 0 [], .mk 11 0 (-1) (-1) (-1) 0 10 pf_sListOffsetsResponseTopicPartition]
theorem ok_sListOffsetsResponseTopic : FieldsFn P 24 pf_sListOffsetsResponseTopic := fieldsFn_gives (fbs := fb_sListOffsetsResponseTopic) spF fbF (by kernel_rfl) ⟨_, _, rfl, rfl, rfl, ⟨_, _, rfl, rfl, ⟨_, ok_sListOffsetsResponseTopicPartition, rfl⟩, rfl⟩⟩ rfl rfl

def fb_ : List FB := [⟨[(0, 3), (1, 2), (2, (-1)), (3, (-1)), (4, (-1))], none⟩, ⟨[(0, 11), (2, (-1)), (3, (-1)), (4, (-1)), (6, 10)], some 24⟩]
def pf : List PF := [.mk 3 2 (-1) (-1) (-1) 0 0 [], .mk 11 0 (-1) (-1) (-1) 0 10 pf_sListOffsetsResponseTopic]
theorem msgOk : MsgFn P 13 pf 6 := msgFn_gives (fbs := fb_) spF fbF (by kernel_rfl) ⟨_, _, rfl, rfl, rfl, ⟨_, _, rfl, rfl, ⟨_, ok_sListOffsetsResponseTopic, rfl⟩, rfl⟩⟩ rfl rfl
theorem plainOk : PF.plains pf = true := by kernel_rfl
theorem kOk : kPart pf ≤ 1024 := of_decide_eq_true (by kernel_rfl)
end Go.Proofs.YtecjdkhklbcebabGreatDoor
