/- ProduceRequest: the reference's fields. -/
import Derived.Test.YtcinbiokghpilaaGreatDoorSpec
namespace Go.Proofs.YtcinbiokghpilaaGreatDoor
open Go Go.Kf

def fb_sProduceRequestTopicPartition : List FB := [⟨[(0, 3), (2, (-1)), (3, (-1)), (4, (-1))], none⟩, ⟨[(0, 9), (2, (-1)), (3, 0), (4, (-1))], none⟩]
def pf_sProduceRequestTopicPartition : List PF := [.mk 3 0 (-1) (-1) (-1) 0 0 [], .mk 9 0 (-1) 0 (-1) 0 0 []]
theorem ok_sProduceRequestTopicPartition : FieldsFn P 69 pf_sProduceRequestTopicPartition := fieldsFn_gives (fbs := fb_sProduceRequestTopicPartition) spF fbF (by kernel_rfl) ⟨_, _, rfl, rfl, rfl, ⟨_, _, rfl, rfl, rfl, rfl⟩⟩ rfl rfl

def fb_sProduceRequestTopic : List FB := [⟨[(0, 8), (2, 12), (3, (-1)), (4, (-1))], none⟩, ⟨[(0, 7), (1, 13), (2, (-1)), (3, (-1)), (4, (-1))], none⟩, ⟨[(0, 11), (2, (-1)), (3, (-1)), (4, (-1)), (6, 10)], some 69⟩]
def pf_sProduceRequestTopic : List PF := [.mk 8 0 12 (-1) (-1) 0 0 [], .mk 7 13 (-1) (-1) (-1) 0 0 [], .mk 11 0 (-1) (-1) (-1) 0 10 pf_sProduceRequestTopicPartition]
theorem ok_sProduceRequestTopic : FieldsFn P 44 pf_sProduceRequestTopic := fieldsFn_gives (fbs := fb_sProduceRequestTopic) spF fbF (by kernel_rfl) ⟨_, _, rfl, rfl, rfl, ⟨_, _, rfl, rfl, rfl, ⟨_, _, rfl, rfl, ⟨_, ok_sProduceRequestTopicPartition, rfl⟩, rfl⟩⟩⟩ rfl rfl

def fb_ : List FB := [⟨[(0, 8), (1, 3), (2, (-1)), (3, 3), (4, (-1))], none⟩, ⟨[(0, 2), (2, (-1)), (3, (-1)), (4, (-1))], none⟩, ⟨[(0, 3), (2, (-1)), (3, (-1)), (4, (-1)), (5, 15000)], none⟩, ⟨[(0, 11), (2, (-1)), (3, (-1)), (4, (-1)), (6, 10)], some 44⟩]
def pf : List PF := [.mk 8 3 (-1) 3 (-1) 0 0 [], .mk 2 0 (-1) (-1) (-1) 0 0 [], .mk 3 0 (-1) (-1) (-1) 15000 0 [], .mk 11 0 (-1) (-1) (-1) 0 10 pf_sProduceRequestTopic]
theorem msgOk : MsgFn P 19 pf 9 := msgFn_gives (fbs := fb_) spF fbF (by kernel_rfl) ⟨_, _, rfl, rfl, rfl, ⟨_, _, rfl, rfl, rfl, ⟨_, _, rfl, rfl, rfl, ⟨_, _, rfl, rfl, ⟨_, ok_sProduceRequestTopic, rfl⟩, rfl⟩⟩⟩⟩ rfl rfl
theorem plainOk : PF.plains pf = true := by kernel_rfl
theorem kOk : kPart pf ≤ 1024 := of_decide_eq_true (by kernel_rfl)
end Go.Proofs.YtcinbiokghpilaaGreatDoor
