/- ReadShareGroupStateSummaryRequest: the reference's fields. -/
import Derived.Test.YtipfcpfmcoklbabGreatDoorSpec
namespace Go.Proofs.YtipfcpfmcoklbabGreatDoor
open Go Go.Kf

def fb_sReadShareGroupStateSummaryRequestTopicPartition : List FB := [⟨[(0, 3), (2, (-1)), (3, (-1)), (4, (-1))], none⟩, ⟨[(0, 3), (2, (-1)), (3, (-1)), (4, (-1))], none⟩]
def pf_sReadShareGroupStateSummaryRequestTopicPartition : List PF := [.mk 3 0 (-1) (-1) (-1) 0 0 [], .mk 3 0 (-1) (-1) (-1) 0 0 []]
theorem ok_sReadShareGroupStateSummaryRequestTopicPartition : FieldsFn P 55 pf_sReadShareGroupStateSummaryRequestTopicPartition := fieldsFn_gives (fbs := fb_sReadShareGroupStateSummaryRequestTopicPartition) spF fbF (by kernel_rfl) ⟨_, _, rfl, rfl, rfl, ⟨_, _, rfl, rfl, rfl, rfl⟩⟩ rfl rfl

def fb_sReadShareGroupStateSummaryRequestTopic : List FB := [⟨[(0, 7), (2, (-1)), (3, (-1)), (4, (-1))], none⟩, ⟨[(0, 11), (2, (-1)), (3, (-1)), (4, (-1)), (6, 10)], some 55⟩]
def pf_sReadShareGroupStateSummaryRequestTopic : List PF := [.mk 7 0 (-1) (-1) (-1) 0 0 [], .mk 11 0 (-1) (-1) (-1) 0 10 pf_sReadShareGroupStateSummaryRequestTopicPartition]
theorem ok_sReadShareGroupStateSummaryRequestTopic : FieldsFn P 34 pf_sReadShareGroupStateSummaryRequestTopic := fieldsFn_gives (fbs := fb_sReadShareGroupStateSummaryRequestTopic) spF fbF (by kernel_rfl) ⟨_, _, rfl, rfl, rfl, ⟨_, _, rfl, rfl, ⟨_, ok_sReadShareGroupStateSummaryRequestTopicPartition, rfl⟩, rfl⟩⟩ rfl rfl

def fb_ : List FB := [⟨[(0, 8), (2, (-1)), (3, (-1)), (4, (-1))], none⟩, ⟨[(0, 11), (2, (-1)), (3, (-1)), (4, (-1)), (6, 10)], some 34⟩]
def pf : List PF := [.mk 8 0 (-1) (-1) (-1) 0 0 [], .mk 11 0 (-1) (-1) (-1) 0 10 pf_sReadShareGroupStateSummaryRequestTopic]
theorem msgOk : MsgFn P 15 pf 0 := msgFn_gives (fbs := fb_) spF fbF (by kernel_rfl) ⟨_, _, rfl, rfl, rfl, ⟨_, _, rfl, rfl, ⟨_, ok_sReadShareGroupStateSummaryRequestTopic, rfl⟩, rfl⟩⟩ rfl rfl
theorem plainOk : PF.plains pf = true := by kernel_rfl
theorem kOk : kPart pf ≤ 1024 := of_decide_eq_true (by kernel_rfl)
end Go.Proofs.YtipfcpfmcoklbabGreatDoor
