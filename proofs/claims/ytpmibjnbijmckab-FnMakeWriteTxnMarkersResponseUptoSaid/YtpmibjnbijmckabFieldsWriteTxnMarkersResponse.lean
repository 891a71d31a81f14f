/- WriteTxnMarkersResponse: the reference's fields. -/
import Derived.Test.YtpmibjnbijmckabSpec
namespace Go.Proofs.Ytpmibjnbijmckab
open Go Go.Kf

def fb_sWriteTxnMarkersResponseMarkerTopicPartition : List FB := [⟨[(0, 3), (2, (-1)), (3, (-1)), (4, (-1))], none⟩, ⟨[(0, 2), (2, (-1)), (3, (-1)), (4, (-1))], none⟩]
def pf_sWriteTxnMarkersResponseMarkerTopicPartition : List PF := [.mk 3 0 (-1) (-1) (-1) 0 0 [], .mk 2 0 (-1) (-1) (-1) 0 0 []]
theorem ok_sWriteTxnMarkersResponseMarkerTopicPartition : FieldsFn P 48 pf_sWriteTxnMarkersResponseMarkerTopicPartition := fieldsFn_gives (fbs := fb_sWriteTxnMarkersResponseMarkerTopicPartition) spF fbF (by kernel_rfl) ⟨_, _, rfl, rfl, rfl, ⟨_, _, rfl, rfl, rfl, rfl⟩⟩ rfl rfl

def fb_sWriteTxnMarkersResponseMarkerTopic : List FB := [⟨[(0, 8), (2, (-1)), (3, (-1)), (4, (-1))], none⟩, ⟨[(0, 11), (2, (-1)), (3, (-1)), (4, (-1)), (6, 10)], some 48⟩]
def pf_sWriteTxnMarkersResponseMarkerTopic : List PF := [.mk 8 0 (-1) (-1) (-1) 0 0 [], .mk 11 0 (-1) (-1) (-1) 0 10 pf_sWriteTxnMarkersResponseMarkerTopicPartition]
theorem ok_sWriteTxnMarkersResponseMarkerTopic : FieldsFn P 27 pf_sWriteTxnMarkersResponseMarkerTopic := fieldsFn_gives (fbs := fb_sWriteTxnMarkersResponseMarkerTopic) spF fbF (by kernel_rfl) ⟨_, _, rfl, rfl, rfl, ⟨_, _, rfl, rfl, ⟨_, ok_sWriteTxnMarkersResponseMarkerTopicPartition, rfl⟩, rfl⟩⟩ rfl rfl

def fb_sWriteTxnMarkersResponseMarker : List FB := [⟨[(0, 4), (2, (-1)), (3, (-1)), (4, (-1))], none⟩, ⟨[(0, 11), (2, (-1)), (3, (-1)), (4, (-1)), (6, 10)], some 27⟩]
def pf_sWriteTxnMarkersResponseMarker : List PF := [.mk 4 0 (-1) (-1) (-1) 0 0 [], .mk 11 0 (-1) (-1) (-1) 0 10 pf_sWriteTxnMarkersResponseMarkerTopic]
theorem ok_sWriteTxnMarkersResponseMarker : FieldsFn P 16 pf_sWriteTxnMarkersResponseMarker := fieldsFn_gives (fbs := fb_sWriteTxnMarkersResponseMarker) spF fbF (by kernel_rfl) ⟨_, _, rfl, rfl, rfl, ⟨_, _, rfl, rfl, ⟨_, ok_sWriteTxnMarkersResponseMarkerTopic, rfl⟩, rfl⟩⟩ rfl rfl

def fb_ : List FB := [⟨[(0, 11), (2, (-1)), (3, (-1)), (4, (-1)), (6, 10)], some 16⟩]
def pf : List PF := [.mk 11 0 (-1) (-1) (-1) 0 10 pf_sWriteTxnMarkersResponseMarker]
theorem msgOk : MsgFn P 6 pf 1 := msgFn_gives (fbs := fb_) spF fbF (by kernel_rfl) ⟨_, _, rfl, rfl, ⟨_, ok_sWriteTxnMarkersResponseMarker, rfl⟩, rfl⟩ rfl rfl
theorem plainOk : PF.plains pf = true := by kernel_rfl
theorem kOk : kPart pf ≤ 1024 := of_decide_eq_true (by kernel_rfl)
end Go.Proofs.Ytpmibjnbijmckab
