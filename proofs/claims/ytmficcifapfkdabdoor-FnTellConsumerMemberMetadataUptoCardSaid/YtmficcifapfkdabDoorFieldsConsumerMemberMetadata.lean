/- ConsumerMemberMetadata: the reference's fields. -/
import Derived.Test.YtmficcifapfkdabDoorSpec
namespace Go.Proofs.YtmficcifapfkdabDoor
open Go Go.Kf

def fb_sConsumerMemberMetadataOwnedPartition : List FB := [⟨[(0, 8), (2, (-1)), (3, (-1)), (4, (-1))], none⟩, ⟨[(0, 11), (2, (-1)), (3, (-1)), (4, (-1)), (6, 3)], none⟩]
def pf_sConsumerMemberMetadataOwnedPartition : List PF := [.mk 8 0 (-1) (-1) (-1) 0 0 [], .mk 11 0 (-1) (-1) (-1) 0 3 []]
theorem ok_sConsumerMemberMetadataOwnedPartition : FieldsFn P 12 pf_sConsumerMemberMetadataOwnedPartition := fieldsFn_gives (fbs := fb_sConsumerMemberMetadataOwnedPartition) spF fbF (by kernel_rfl) ⟨_, _, rfl, rfl, rfl, ⟨_, _, rfl, rfl, rfl, rfl⟩⟩ rfl rfl

def fb_ : List FB := [⟨[(0, 11), (2, (-1)), (3, (-1)), (4, (-1)), (6, 8)], none⟩, ⟨[(0, 9), (2, (-1)), (3, (-1)), (4, (-1))], none⟩, ⟨[(0, 11), (1, 1), (2, (-1)), (3, (-1)), (4, (-1)), (6, 10)], some 12⟩, ⟨[(0, 3), (1, 2), (2, (-1)), (3, (-1)), (4, (-1)), (5, (-1))], none⟩, ⟨[(0, 8), (1, 3), (2, (-1)), (3, 3), (4, (-1))], none⟩]
def pf : List PF := [.mk 11 0 (-1) (-1) (-1) 0 8 [], .mk 9 0 (-1) (-1) (-1) 0 0 [], .mk 11 1 (-1) (-1) (-1) 0 10 pf_sConsumerMemberMetadataOwnedPartition, .mk 3 2 (-1) (-1) (-1) (-1) 0 [], .mk 8 3 (-1) 3 (-1) 0 0 []]
theorem msgOk : MsgFn P 5 pf (-1) := msgFn_gives (fbs := fb_) spF fbF (by kernel_rfl) ⟨_, _, rfl, rfl, rfl, ⟨_, _, rfl, rfl, rfl, ⟨_, _, rfl, rfl, ⟨_, ok_sConsumerMemberMetadataOwnedPartition, rfl⟩, ⟨_, _, rfl, rfl, rfl, ⟨_, _, rfl, rfl, rfl, rfl⟩⟩⟩⟩⟩ rfl rfl
theorem plainOk : PF.plains pf = true := by kernel_rfl
theorem kOk : kPart pf ≤ 1024 := of_decide_eq_true (by kernel_rfl)
end Go.Proofs.YtmficcifapfkdabDoor
