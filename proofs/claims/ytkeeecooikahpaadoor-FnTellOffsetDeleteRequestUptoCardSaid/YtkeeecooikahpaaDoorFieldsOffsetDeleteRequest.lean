/- OffsetDeleteRequest: the reference's fields. -/
import Derived.Test.YtkeeecooikahpaaDoorSpec
namespace Go.Proofs.YtkeeecooikahpaaDoor
open Go Go.Kf

def fb_sOffsetDeleteRequestTopicPartition : List FB := [⟨[(0, 3), (2, (-1)), (3, (-1)), (4, (-1))], none⟩]
def pf_sOffsetDeleteRequestTopicPartition : List PF := [.mk 3 0 (-1) (-1) (-1) 0 0 []]
theorem ok_sOffsetDeleteRequestTopicPartition : FieldsFn P 31 pf_sOffsetDeleteRequestTopicPartition := fieldsFn_gives (fbs := fb_sOffsetDeleteRequestTopicPartition) spF fbF (by kernel_rfl) ⟨_, _, rfl, rfl, rfl, rfl⟩ rfl rfl

def fb_sOffsetDeleteRequestTopic : List FB := [⟨[(0, 8), (2, (-1)), (3, (-1)), (4, (-1))], none⟩, ⟨[(0, 11), (2, (-1)), (3, (-1)), (4, (-1)), (6, 10)], some 31⟩]
def pf_sOffsetDeleteRequestTopic : List PF := [.mk 8 0 (-1) (-1) (-1) 0 0 [], .mk 11 0 (-1) (-1) (-1) 0 10 pf_sOffsetDeleteRequestTopicPartition]
theorem ok_sOffsetDeleteRequestTopic : FieldsFn P 16 pf_sOffsetDeleteRequestTopic := fieldsFn_gives (fbs := fb_sOffsetDeleteRequestTopic) spF fbF (by kernel_rfl) ⟨_, _, rfl, rfl, rfl, ⟨_, _, rfl, rfl, ⟨_, ok_sOffsetDeleteRequestTopicPartition, rfl⟩, rfl⟩⟩ rfl rfl

def fb_ : List FB := [⟨[(0, 8), (2, (-1)), (3, (-1)), (4, (-1))], none⟩, ⟨[(0, 11), (2, (-1)), (3, (-1)), (4, (-1)), (6, 10)], some 16⟩]
def pf : List PF := [.mk 8 0 (-1) (-1) (-1) 0 0 [], .mk 11 0 (-1) (-1) (-1) 0 10 pf_sOffsetDeleteRequestTopic]
theorem msgOk : MsgFn P 6 pf (-1) := msgFn_gives (fbs := fb_) spF fbF (by kernel_rfl) ⟨_, _, rfl, rfl, rfl, ⟨_, _, rfl, rfl, ⟨_, ok_sOffsetDeleteRequestTopic, rfl⟩, rfl⟩⟩ rfl rfl
theorem plainOk : PF.plains pf = true := by kernel_rfl
theorem kOk : kPart pf ≤ 1024 := of_decide_eq_true (by kernel_rfl)
end Go.Proofs.YtkeeecooikahpaaDoor
