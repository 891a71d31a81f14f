/- DeleteRecordsRequest: the reference's fields. -/
import Derived.Test.YtmficcifapfkdacGreatDoorSpec
namespace Go.Proofs.YtmficcifapfkdacGreatDoor
open Go Go.Kf

def fb_sDeleteRecordsRequestTopicPartition : List FB := [⟨[(0, 3), (2, (-1)), (3, (-1)), (4, (-1))], none⟩, ⟨[(0, 4), (2, (-1)), (3, (-1)), (4, (-1))], none⟩]
def pf_sDeleteRecordsRequestTopicPartition : List PF := [.mk 3 0 (-1) (-1) (-1) 0 0 [], .mk 4 0 (-1) (-1) (-1) 0 0 []]
theorem ok_sDeleteRecordsRequestTopicPartition : FieldsFn P 21 pf_sDeleteRecordsRequestTopicPartition := fieldsFn_gives (fbs := fb_sDeleteRecordsRequestTopicPartition) spF fbF (by kernel_rfl) ⟨_, _, rfl, rfl, rfl, ⟨_, _, rfl, rfl, rfl, rfl⟩⟩ rfl rfl

def fb_sDeleteRecordsRequestTopic : List FB := [⟨[(0, 8), (2, (-1)), (3, (-1)), (4, (-1))], none⟩, ⟨[(0, 11), (2, (-1)), (3, (-1)), (4, (-1)), (6, 10)], some 21⟩]
def pf_sDeleteRecordsRequestTopic : List PF := [.mk 8 0 (-1) (-1) (-1) 0 0 [], .mk 11 0 (-1) (-1) (-1) 0 10 pf_sDeleteRecordsRequestTopicPartition]
theorem ok_sDeleteRecordsRequestTopic : FieldsFn P 14 pf_sDeleteRecordsRequestTopic := fieldsFn_gives (fbs := fb_sDeleteRecordsRequestTopic) spF fbF (by kernel_rfl) ⟨_, _, rfl, rfl, rfl, ⟨_, _, rfl, rfl, ⟨_, ok_sDeleteRecordsRequestTopicPartition, rfl⟩, rfl⟩⟩ rfl rfl

def fb_ : List FB := [⟨[(0, 11), (2, (-1)), (3, (-1)), (4, (-1)), (6, 10)], some 14⟩, ⟨[(0, 3), (2, (-1)), (3, (-1)), (4, (-1)), (5, 15000)], none⟩]
def pf : List PF := [.mk 11 0 (-1) (-1) (-1) 0 10 pf_sDeleteRecordsRequestTopic, .mk 3 0 (-1) (-1) (-1) 15000 0 []]
theorem msgOk : MsgFn P 6 pf 2 := msgFn_gives (fbs := fb_) spF fbF (by kernel_rfl) ⟨_, _, rfl, rfl, ⟨_, ok_sDeleteRecordsRequestTopic, rfl⟩, ⟨_, _, rfl, rfl, rfl, rfl⟩⟩ rfl rfl
theorem plainOk : PF.plains pf = true := by kernel_rfl
theorem kOk : kPart pf ≤ 1024 := of_decide_eq_true (by kernel_rfl)
end Go.Proofs.YtmficcifapfkdacGreatDoor
