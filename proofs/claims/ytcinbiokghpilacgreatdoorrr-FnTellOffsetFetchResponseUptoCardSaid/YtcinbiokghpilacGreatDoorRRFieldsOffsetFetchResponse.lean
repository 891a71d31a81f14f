/- OffsetFetchResponse: the reference's fields. -/
import Derived.Test.YtcinbiokghpilacGreatDoorRRSpec
namespace Go.Proofs.YtcinbiokghpilacGreatDoorRR
open Go Go.Kf

def fb_sOffsetFetchResponseTopicPartition : List FB := [⟨[(0, 3), (2, (-1)), (3, (-1)), (4, (-1))], none⟩, ⟨[(0, 4), (2, (-1)), (3, (-1)), (4, (-1))], none⟩, ⟨[(0, 3), (1, 5), (2, (-1)), (3, (-1)), (4, (-1)), (5, (-1))], none⟩, ⟨[(0, 8), (2, (-1)), (3, 0), (4, (-1))], none⟩, ⟨[(0, 2), (2, (-1)), (3, (-1)), (4, (-1))], none⟩]
def pf_sOffsetFetchResponseTopicPartition : List PF := [.mk 3 0 (-1) (-1) (-1) 0 0 [], .mk 4 0 (-1) (-1) (-1) 0 0 [], .mk 3 5 (-1) (-1) (-1) (-1) 0 [], .mk 8 0 (-1) 0 (-1) 0 0 [], .mk 2 0 (-1) (-1) (-1) 0 0 []]
theorem ok_sOffsetFetchResponseTopicPartition : FieldsFn P 32 pf_sOffsetFetchResponseTopicPartition := fieldsFn_gives (fbs := fb_sOffsetFetchResponseTopicPartition) spF fbF (by kernel_rfl) ⟨_, _, rfl, rfl, rfl, ⟨_, _, rfl, rfl, rfl, ⟨_, _, rfl, rfl, rfl, ⟨_, _, rfl, rfl, rfl, ⟨_, _, rfl, rfl, rfl, rfl⟩⟩⟩⟩⟩ rfl rfl

def fb_sOffsetFetchResponseTopic : List FB := [⟨[(0, 8), (2, (-1)), (3, (-1)), (4, (-1))], none⟩, ⟨[(0, 11), (2, (-1)), (3, (-1)), (4, (-1)), (6, 10)], some 32⟩]
def pf_sOffsetFetchResponseTopic : List PF := [.mk 8 0 (-1) (-1) (-1) 0 0 [], .mk 11 0 (-1) (-1) (-1) 0 10 pf_sOffsetFetchResponseTopicPartition]
theorem ok_sOffsetFetchResponseTopic : FieldsFn P 16 pf_sOffsetFetchResponseTopic := fieldsFn_gives (fbs := fb_sOffsetFetchResponseTopic) spF fbF (by kernel_rfl) ⟨_, _, rfl, rfl, rfl, ⟨_, _, rfl, rfl, ⟨_, ok_sOffsetFetchResponseTopicPartition, rfl⟩, rfl⟩⟩ rfl rfl

def fb_sOffsetFetchResponseGroupTopicPartition : List FB := [⟨[(0, 3), (2, (-1)), (3, (-1)), (4, (-1))], none⟩, ⟨[(0, 4), (2, (-1)), (3, (-1)), (4, (-1))], none⟩, ⟨[(0, 3), (2, (-1)), (3, (-1)), (4, (-1)), (5, (-1))], none⟩, ⟨[(0, 8), (2, (-1)), (3, 0), (4, (-1))], none⟩, ⟨[(0, 2), (2, (-1)), (3, (-1)), (4, (-1))], none⟩]
def pf_sOffsetFetchResponseGroupTopicPartition : List PF := [.mk 3 0 (-1) (-1) (-1) 0 0 [], .mk 4 0 (-1) (-1) (-1) 0 0 [], .mk 3 0 (-1) (-1) (-1) (-1) 0 [], .mk 8 0 (-1) 0 (-1) 0 0 [], .mk 2 0 (-1) (-1) (-1) 0 0 []]
theorem ok_sOffsetFetchResponseGroupTopicPartition : FieldsFn P 48 pf_sOffsetFetchResponseGroupTopicPartition := fieldsFn_gives (fbs := fb_sOffsetFetchResponseGroupTopicPartition) spF fbF (by kernel_rfl) ⟨_, _, rfl, rfl, rfl, ⟨_, _, rfl, rfl, rfl, ⟨_, _, rfl, rfl, rfl, ⟨_, _, rfl, rfl, rfl, ⟨_, _, rfl, rfl, rfl, rfl⟩⟩⟩⟩⟩ rfl rfl

def fb_sOffsetFetchResponseGroupTopic : List FB := [⟨[(0, 8), (1, 8), (2, 9), (3, (-1)), (4, (-1))], none⟩, ⟨[(0, 7), (1, 10), (2, (-1)), (3, (-1)), (4, (-1))], none⟩, ⟨[(0, 11), (2, (-1)), (3, (-1)), (4, (-1)), (6, 10)], some 48⟩]
def pf_sOffsetFetchResponseGroupTopic : List PF := [.mk 8 8 9 (-1) (-1) 0 0 [], .mk 7 10 (-1) (-1) (-1) 0 0 [], .mk 11 0 (-1) (-1) (-1) 0 10 pf_sOffsetFetchResponseGroupTopicPartition]
theorem ok_sOffsetFetchResponseGroupTopic : FieldsFn P 33 pf_sOffsetFetchResponseGroupTopic := fieldsFn_gives (fbs := fb_sOffsetFetchResponseGroupTopic) spF fbF (by kernel_rfl) ⟨_, _, rfl, rfl, rfl, ⟨_, _, rfl, rfl, rfl, ⟨_, _, rfl, rfl, ⟨_, ok_sOffsetFetchResponseGroupTopicPartition, rfl⟩, rfl⟩⟩⟩ rfl rfl

def fb_sOffsetFetchResponseGroup : List FB := [⟨[(0, 8), (2, (-1)), (3, (-1)), (4, (-1))], none⟩, ⟨[(0, 11), (2, (-1)), (3, (-1)), (4, (-1)), (6, 10)], some 33⟩, ⟨[(0, 2), (2, (-1)), (3, (-1)), (4, (-1))], none⟩]
def pf_sOffsetFetchResponseGroup : List PF := [.mk 8 0 (-1) (-1) (-1) 0 0 [], .mk 11 0 (-1) (-1) (-1) 0 10 pf_sOffsetFetchResponseGroupTopic, .mk 2 0 (-1) (-1) (-1) 0 0 []]
theorem ok_sOffsetFetchResponseGroup : FieldsFn P 17 pf_sOffsetFetchResponseGroup := fieldsFn_gives (fbs := fb_sOffsetFetchResponseGroup) spF fbF (by kernel_rfl) ⟨_, _, rfl, rfl, rfl, ⟨_, _, rfl, rfl, ⟨_, ok_sOffsetFetchResponseGroupTopic, rfl⟩, ⟨_, _, rfl, rfl, rfl, rfl⟩⟩⟩ rfl rfl

def fb_ : List FB := [⟨[(0, 3), (1, 3), (2, (-1)), (3, (-1)), (4, (-1))], none⟩, ⟨[(0, 11), (2, 7), (3, (-1)), (4, (-1)), (6, 10)], some 16⟩, ⟨[(0, 2), (1, 2), (2, 7), (3, (-1)), (4, (-1))], none⟩, ⟨[(0, 11), (1, 8), (2, (-1)), (3, (-1)), (4, (-1)), (6, 10)], some 17⟩]
def pf : List PF := [.mk 3 3 (-1) (-1) (-1) 0 0 [], .mk 11 0 7 (-1) (-1) 0 10 pf_sOffsetFetchResponseTopic, .mk 2 2 7 (-1) (-1) 0 0 [], .mk 11 8 (-1) (-1) (-1) 0 10 pf_sOffsetFetchResponseGroup]
theorem msgOk : MsgFn P 6 pf 6 := msgFn_gives (fbs := fb_) spF fbF (by kernel_rfl) ⟨_, _, rfl, rfl, rfl, ⟨_, _, rfl, rfl, ⟨_, ok_sOffsetFetchResponseTopic, rfl⟩, ⟨_, _, rfl, rfl, rfl, ⟨_, _, rfl, rfl, ⟨_, ok_sOffsetFetchResponseGroup, rfl⟩, rfl⟩⟩⟩⟩ rfl rfl
theorem plainOk : PF.plains pf = true := by kernel_rfl
theorem kOk : kPart pf ≤ 1024 := of_decide_eq_true (by kernel_rfl)
end Go.Proofs.YtcinbiokghpilacGreatDoorRR
