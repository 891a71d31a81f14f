/- WriteShareGroupStateRequest: the reference's fields. -/
import Derived.Test.YtgodapplcokkjaaSpec
namespace Go.Proofs.Ytgodapplcokkjaa
open Go Go.Kf

def fb_sWriteShareGroupStateRequestTopicPartitionStateBatch : List FB := [⟨[(0, 4), (2, (-1)), (3, (-1)), (4, (-1))], none⟩, ⟨[(0, 4), (2, (-1)), (3, (-1)), (4, (-1))], none⟩, ⟨[(0, 1), (2, (-1)), (3, (-1)), (4, (-1))], none⟩, ⟨[(0, 2), (2, (-1)), (3, (-1)), (4, (-1))], none⟩]
def pf_sWriteShareGroupStateRequestTopicPartitionStateBatch : List PF := [.mk 4 0 (-1) (-1) (-1) 0 0 [], .mk 4 0 (-1) (-1) (-1) 0 0 [], .mk 1 0 (-1) (-1) (-1) 0 0 [], .mk 2 0 (-1) (-1) (-1) 0 0 []]
theorem ok_sWriteShareGroupStateRequestTopicPartitionStateBatch : FieldsFn P 50 pf_sWriteShareGroupStateRequestTopicPartitionStateBatch := fieldsFn_gives (fbs := fb_sWriteShareGroupStateRequestTopicPartitionStateBatch) spF fbF (by kernel_rfl) ⟨_, _, rfl, rfl, rfl, ⟨_, _, rfl, rfl, rfl, ⟨_, _, rfl, rfl, rfl, ⟨_, _, rfl, rfl, rfl, rfl⟩⟩⟩⟩ rfl rfl

def fb_sWriteShareGroupStateRequestTopicPartition : List FB := [⟨[(0, 3), (2, (-1)), (3, (-1)), (4, (-1))], none⟩, ⟨[(0, 3), (2, (-1)), (3, (-1)), (4, (-1))], none⟩, ⟨[(0, 3), (2, (-1)), (3, (-1)), (4, (-1))], none⟩, ⟨[(0, 4), (2, (-1)), (3, (-1)), (4, (-1))], none⟩, ⟨[(0, 3), (1, 1), (2, (-1)), (3, (-1)), (4, (-1)), (5, (-1))], none⟩, ⟨[(0, 11), (2, (-1)), (3, (-1)), (4, (-1)), (6, 10)], some 50⟩]
def pf_sWriteShareGroupStateRequestTopicPartition : List PF := [.mk 3 0 (-1) (-1) (-1) 0 0 [], .mk 3 0 (-1) (-1) (-1) 0 0 [], .mk 3 0 (-1) (-1) (-1) 0 0 [], .mk 4 0 (-1) (-1) (-1) 0 0 [], .mk 3 1 (-1) (-1) (-1) (-1) 0 [], .mk 11 0 (-1) (-1) (-1) 0 10 pf_sWriteShareGroupStateRequestTopicPartitionStateBatch]
theorem ok_sWriteShareGroupStateRequestTopicPartition : FieldsFn P 27 pf_sWriteShareGroupStateRequestTopicPartition := fieldsFn_gives (fbs := fb_sWriteShareGroupStateRequestTopicPartition) spF fbF (by kernel_rfl) ⟨_, _, rfl, rfl, rfl, ⟨_, _, rfl, rfl, rfl, ⟨_, _, rfl, rfl, rfl, ⟨_, _, rfl, rfl, rfl, ⟨_, _, rfl, rfl, rfl, ⟨_, _, rfl, rfl, ⟨_, ok_sWriteShareGroupStateRequestTopicPartitionStateBatch, rfl⟩, rfl⟩⟩⟩⟩⟩⟩ rfl rfl

def fb_sWriteShareGroupStateRequestTopic : List FB := [⟨[(0, 7), (2, (-1)), (3, (-1)), (4, (-1))], none⟩, ⟨[(0, 11), (2, (-1)), (3, (-1)), (4, (-1)), (6, 10)], some 27⟩]
def pf_sWriteShareGroupStateRequestTopic : List PF := [.mk 7 0 (-1) (-1) (-1) 0 0 [], .mk 11 0 (-1) (-1) (-1) 0 10 pf_sWriteShareGroupStateRequestTopicPartition]
theorem ok_sWriteShareGroupStateRequestTopic : FieldsFn P 16 pf_sWriteShareGroupStateRequestTopic := fieldsFn_gives (fbs := fb_sWriteShareGroupStateRequestTopic) spF fbF (by kernel_rfl) ⟨_, _, rfl, rfl, rfl, ⟨_, _, rfl, rfl, ⟨_, ok_sWriteShareGroupStateRequestTopicPartition, rfl⟩, rfl⟩⟩ rfl rfl

def fb_ : List FB := [⟨[(0, 8), (2, (-1)), (3, (-1)), (4, (-1))], none⟩, ⟨[(0, 11), (2, (-1)), (3, (-1)), (4, (-1)), (6, 10)], some 16⟩]
def pf : List PF := [.mk 8 0 (-1) (-1) (-1) 0 0 [], .mk 11 0 (-1) (-1) (-1) 0 10 pf_sWriteShareGroupStateRequestTopic]
theorem msgOk : MsgFn P 6 pf 0 := msgFn_gives (fbs := fb_) spF fbF (by kernel_rfl) ⟨_, _, rfl, rfl, rfl, ⟨_, _, rfl, rfl, ⟨_, ok_sWriteShareGroupStateRequestTopic, rfl⟩, rfl⟩⟩ rfl rfl
theorem plainOk : PF.plains pf = true := by kernel_rfl
theorem kOk : kPart pf ≤ 1024 := of_decide_eq_true (by kernel_rfl)
end Go.Proofs.Ytgodapplcokkjaa
