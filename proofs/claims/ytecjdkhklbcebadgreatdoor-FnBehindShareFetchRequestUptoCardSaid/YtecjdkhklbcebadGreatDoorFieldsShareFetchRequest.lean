/- ShareFetchRequest: the reference's fields. -/
import Derived.Test.YtecjdkhklbcebadGreatDoorSpec
namespace Go.Proofs.YtecjdkhklbcebadGreatDoor
open Go Go.Kf

def fb_sShareFetchRequestTopicPartitionAcknowledgementBatch : List FB := [⟨[(0, 4), (2, (-1)), (3, (-1)), (4, (-1))], none⟩, ⟨[(0, 4), (2, (-1)), (3, (-1)), (4, (-1))], none⟩, ⟨[(0, 11), (2, (-1)), (3, (-1)), (4, (-1)), (6, 1)], none⟩]
def pf_sShareFetchRequestTopicPartitionAcknowledgementBatch : List PF := [.mk 4 0 (-1) (-1) (-1) 0 0 [], .mk 4 0 (-1) (-1) (-1) 0 0 [], .mk 11 0 (-1) (-1) (-1) 0 1 []]
theorem ok_sShareFetchRequestTopicPartitionAcknowledgementBatch : FieldsFn P 91 pf_sShareFetchRequestTopicPartitionAcknowledgementBatch := fieldsFn_gives (fbs := fb_sShareFetchRequestTopicPartitionAcknowledgementBatch) spF fbF (by kernel_rfl) ⟨_, _, rfl, rfl, rfl, ⟨_, _, rfl, rfl, rfl, ⟨_, _, rfl, rfl, rfl, rfl⟩⟩⟩ rfl rfl

def fb_sShareFetchRequestTopicPartition : List FB := [⟨[(0, 3), (2, (-1)), (3, (-1)), (4, (-1))], none⟩, ⟨[(0, 3), (2, 0), (3, (-1)), (4, (-1))], none⟩, ⟨[(0, 11), (2, (-1)), (3, (-1)), (4, (-1)), (6, 10)], some 91⟩]
def pf_sShareFetchRequestTopicPartition : List PF := [.mk 3 0 (-1) (-1) (-1) 0 0 [], .mk 3 0 0 (-1) (-1) 0 0 [], .mk 11 0 (-1) (-1) (-1) 0 10 pf_sShareFetchRequestTopicPartitionAcknowledgementBatch]
theorem ok_sShareFetchRequestTopicPartition : FieldsFn P 56 pf_sShareFetchRequestTopicPartition := fieldsFn_gives (fbs := fb_sShareFetchRequestTopicPartition) spF fbF (by kernel_rfl) ⟨_, _, rfl, rfl, rfl, ⟨_, _, rfl, rfl, rfl, ⟨_, _, rfl, rfl, ⟨_, ok_sShareFetchRequestTopicPartitionAcknowledgementBatch, rfl⟩, rfl⟩⟩⟩ rfl rfl

def fb_sShareFetchRequestTopic : List FB := [⟨[(0, 7), (2, (-1)), (3, (-1)), (4, (-1))], none⟩, ⟨[(0, 11), (2, (-1)), (3, (-1)), (4, (-1)), (6, 10)], some 56⟩]
def pf_sShareFetchRequestTopic : List PF := [.mk 7 0 (-1) (-1) (-1) 0 0 [], .mk 11 0 (-1) (-1) (-1) 0 10 pf_sShareFetchRequestTopicPartition]
theorem ok_sShareFetchRequestTopic : FieldsFn P 26 pf_sShareFetchRequestTopic := fieldsFn_gives (fbs := fb_sShareFetchRequestTopic) spF fbF (by kernel_rfl) ⟨_, _, rfl, rfl, rfl, ⟨_, _, rfl, rfl, ⟨_, ok_sShareFetchRequestTopicPartition, rfl⟩, rfl⟩⟩ rfl rfl

def fb_sShareFetchRequestForgottenTopicsData : List FB := [⟨[(0, 7), (2, (-1)), (3, (-1)), (4, (-1))], none⟩, ⟨[(0, 11), (2, (-1)), (3, (-1)), (4, (-1)), (6, 3)], none⟩]
def pf_sShareFetchRequestForgottenTopicsData : List PF := [.mk 7 0 (-1) (-1) (-1) 0 0 [], .mk 11 0 (-1) (-1) (-1) 0 3 []]
theorem ok_sShareFetchRequestForgottenTopicsData : FieldsFn P 27 pf_sShareFetchRequestForgottenTopicsData := fieldsFn_gives (fbs := fb_sShareFetchRequestForgottenTopicsData) spF fbF (by kernel_rfl) ⟨_, _, rfl, rfl, rfl, ⟨_, _, rfl, rfl, rfl, rfl⟩⟩ rfl rfl

def fb_ : List FB := [⟨[(0, 8), (2, (-1)), (3, 0), (4, (-1))], none⟩, ⟨[(0, 8), (2, (-1)), (3, 0), (4, (-1))], none⟩, ⟨[(0, 3), (2, (-1)), (3, (-1)), (4, (-1))], none⟩, ⟨[(0, 3), (2, (-1)), (3, (-1)), (4, (-1))], none⟩, ⟨[(0, 3), (2, (-1)), (3, (-1)), (4, (-1))], none⟩, ⟨[(0, 3), (2, (-1)), (3, (-1)), (4, (-1)), (5, 2147483647)], none⟩, ⟨[(0, 3), (1, 1), (2, (-1)), (3, (-1)), (4, (-1))], none⟩, ⟨[(0, 3), (1, 1), (2, (-1)), (3, (-1)), (4, (-1))], none⟩, ⟨[(0, 1), (1, 2), (2, (-1)), (3, (-1)), (4, (-1))], none⟩, ⟨[(0, 0), (1, 2), (2, (-1)), (3, (-1)), (4, (-1))], none⟩, ⟨[(0, 11), (2, (-1)), (3, (-1)), (4, (-1)), (6, 10)], some 26⟩, ⟨[(0, 11), (2, (-1)), (3, (-1)), (4, (-1)), (6, 10)], some 27⟩]
def pf : List PF := [.mk 8 0 (-1) 0 (-1) 0 0 [], .mk 8 0 (-1) 0 (-1) 0 0 [], .mk 3 0 (-1) (-1) (-1) 0 0 [], .mk 3 0 (-1) (-1) (-1) 0 0 [], .mk 3 0 (-1) (-1) (-1) 0 0 [], .mk 3 0 (-1) (-1) (-1) 2147483647 0 [], .mk 3 1 (-1) (-1) (-1) 0 0 [], .mk 3 1 (-1) (-1) (-1) 0 0 [], .mk 1 2 (-1) (-1) (-1) 0 0 [], .mk 0 2 (-1) (-1) (-1) 0 0 [], .mk 11 0 (-1) (-1) (-1) 0 10 pf_sShareFetchRequestTopic, .mk 11 0 (-1) (-1) (-1) 0 10 pf_sShareFetchRequestForgottenTopicsData]
theorem msgOk : MsgFn P 13 pf 0 := msgFn_gives (fbs := fb_) spF fbF (by kernel_rfl) ⟨_, _, rfl, rfl, rfl, ⟨_, _, rfl, rfl, rfl, ⟨_, _, rfl, rfl, rfl, ⟨_, _, rfl, rfl, rfl, ⟨_, _, rfl, rfl, rfl, ⟨_, _, rfl, rfl, rfl, ⟨_, _, rfl, rfl, rfl, ⟨_, _, rfl, rfl, rfl, ⟨_, _, rfl, rfl, rfl, ⟨_, _, rfl, rfl, rfl, ⟨_, _, rfl, rfl, ⟨_, ok_sShareFetchRequestTopic, rfl⟩, ⟨_, _, rfl, rfl, ⟨_, ok_sShareFetchRequestForgottenTopicsData, rfl⟩, rfl⟩⟩⟩⟩⟩⟩⟩⟩⟩⟩⟩⟩ rfl rfl
theorem plainOk : PF.plains pf = true := by kernel_rfl
theorem kOk : kPart pf ≤ 1024 := of_decide_eq_true (by kernel_rfl)
end Go.Proofs.YtecjdkhklbcebadGreatDoor
