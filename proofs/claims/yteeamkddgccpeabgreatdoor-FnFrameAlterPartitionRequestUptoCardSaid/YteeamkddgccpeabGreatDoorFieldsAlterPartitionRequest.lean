/- AlterPartitionRequest: the reference's fields. -/
import Derived.Test.YteeamkddgccpeabGreatDoorSpec
namespace Go.Proofs.YteeamkddgccpeabGreatDoor
open Go Go.Kf

def fb_sAlterPartitionRequestTopicPartitionNewEpochISR : List FB := [⟨[(0, 3), (2, (-1)), (3, (-1)), (4, (-1))], none⟩, ⟨[(0, 4), (2, (-1)), (3, (-1)), (4, (-1)), (5, (-1))], none⟩]
def pf_sAlterPartitionRequestTopicPartitionNewEpochISR : List PF := [.mk 3 0 (-1) (-1) (-1) 0 0 [], .mk 4 0 (-1) (-1) (-1) (-1) 0 []]
theorem ok_sAlterPartitionRequestTopicPartitionNewEpochISR : FieldsFn P 38 pf_sAlterPartitionRequestTopicPartitionNewEpochISR := fieldsFn_gives (fbs := fb_sAlterPartitionRequestTopicPartitionNewEpochISR) spF fbF (by kernel_rfl) ⟨_, _, rfl, rfl, rfl, ⟨_, _, rfl, rfl, rfl, rfl⟩⟩ rfl rfl

def fb_sAlterPartitionRequestTopicPartition : List FB := [⟨[(0, 3), (2, (-1)), (3, (-1)), (4, (-1))], none⟩, ⟨[(0, 3), (2, (-1)), (3, (-1)), (4, (-1))], none⟩, ⟨[(0, 11), (2, 2), (3, (-1)), (4, (-1)), (6, 3)], none⟩, ⟨[(0, 11), (1, 3), (2, (-1)), (3, (-1)), (4, (-1)), (6, 10)], some 38⟩, ⟨[(0, 1), (1, 1), (2, (-1)), (3, (-1)), (4, (-1))], none⟩, ⟨[(0, 3), (2, (-1)), (3, (-1)), (4, (-1))], none⟩]
def pf_sAlterPartitionRequestTopicPartition : List PF := [.mk 3 0 (-1) (-1) (-1) 0 0 [], .mk 3 0 (-1) (-1) (-1) 0 0 [], .mk 11 0 2 (-1) (-1) 0 3 [], .mk 11 3 (-1) (-1) (-1) 0 10 pf_sAlterPartitionRequestTopicPartitionNewEpochISR, .mk 1 1 (-1) (-1) (-1) 0 0 [], .mk 3 0 (-1) (-1) (-1) 0 0 []]
theorem ok_sAlterPartitionRequestTopicPartition : FieldsFn P 25 pf_sAlterPartitionRequestTopicPartition := fieldsFn_gives (fbs := fb_sAlterPartitionRequestTopicPartition) spF fbF (by kernel_rfl) ⟨_, _, rfl, rfl, rfl, ⟨_, _, rfl, rfl, rfl, ⟨_, _, rfl, rfl, rfl, ⟨_, _, rfl, rfl, ⟨_, ok_sAlterPartitionRequestTopicPartitionNewEpochISR, rfl⟩, ⟨_, _, rfl, rfl, rfl, ⟨_, _, rfl, rfl, rfl, rfl⟩⟩⟩⟩⟩⟩ rfl rfl

def fb_sAlterPartitionRequestTopic : List FB := [⟨[(0, 8), (2, 1), (3, (-1)), (4, (-1))], none⟩, ⟨[(0, 7), (1, 2), (2, (-1)), (3, (-1)), (4, (-1))], none⟩, ⟨[(0, 11), (2, (-1)), (3, (-1)), (4, (-1)), (6, 10)], some 25⟩]
def pf_sAlterPartitionRequestTopic : List PF := [.mk 8 0 1 (-1) (-1) 0 0 [], .mk 7 2 (-1) (-1) (-1) 0 0 [], .mk 11 0 (-1) (-1) (-1) 0 10 pf_sAlterPartitionRequestTopicPartition]
theorem ok_sAlterPartitionRequestTopic : FieldsFn P 17 pf_sAlterPartitionRequestTopic := fieldsFn_gives (fbs := fb_sAlterPartitionRequestTopic) spF fbF (by kernel_rfl) ⟨_, _, rfl, rfl, rfl, ⟨_, _, rfl, rfl, rfl, ⟨_, _, rfl, rfl, ⟨_, ok_sAlterPartitionRequestTopicPartition, rfl⟩, rfl⟩⟩⟩ rfl rfl

def fb_ : List FB := [⟨[(0, 3), (2, (-1)), (3, (-1)), (4, (-1))], none⟩, ⟨[(0, 4), (2, (-1)), (3, (-1)), (4, (-1)), (5, (-1))], none⟩, ⟨[(0, 11), (2, (-1)), (3, (-1)), (4, (-1)), (6, 10)], some 17⟩]
def pf : List PF := [.mk 3 0 (-1) (-1) (-1) 0 0 [], .mk 4 0 (-1) (-1) (-1) (-1) 0 [], .mk 11 0 (-1) (-1) (-1) 0 10 pf_sAlterPartitionRequestTopic]
theorem msgOk : MsgFn P 7 pf 0 := msgFn_gives (fbs := fb_) spF fbF (by kernel_rfl) ⟨_, _, rfl, rfl, rfl, ⟨_, _, rfl, rfl, rfl, ⟨_, _, rfl, rfl, ⟨_, ok_sAlterPartitionRequestTopic, rfl⟩, rfl⟩⟩⟩ rfl rfl
theorem plainOk : PF.plains pf = true := by kernel_rfl
theorem kOk : kPart pf ≤ 1024 := of_decide_eq_true (by kernel_rfl)
end Go.Proofs.YteeamkddgccpeabGreatDoor
