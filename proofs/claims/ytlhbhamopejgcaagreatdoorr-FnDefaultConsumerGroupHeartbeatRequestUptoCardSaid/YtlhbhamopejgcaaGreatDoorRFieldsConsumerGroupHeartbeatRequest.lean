/- ConsumerGroupHeartbeatRequest: the reference's fields. -/
import Derived.Test.YtlhbhamopejgcaaGreatDoorRSpec
namespace Go.Proofs.YtlhbhamopejgcaaGreatDoorR
open Go Go.Kf

def fb_sConsumerGroupHeartbeatRequestTopic : List FB := [⟨[(0, 7), (2, (-1)), (3, (-1)), (4, (-1))], none⟩, ⟨[(0, 11), (2, (-1)), (3, (-1)), (4, (-1)), (6, 3)], none⟩]
def pf_sConsumerGroupHeartbeatRequestTopic : List PF := [.mk 7 0 (-1) (-1) (-1) 0 0 [], .mk 11 0 (-1) (-1) (-1) 0 3 []]
theorem ok_sConsumerGroupHeartbeatRequestTopic : FieldsFn P 15 pf_sConsumerGroupHeartbeatRequestTopic := fieldsFn_gives (fbs := fb_sConsumerGroupHeartbeatRequestTopic) spF fbF (by kernel_rfl) ⟨_, _, rfl, rfl, rfl, ⟨_, _, rfl, rfl, rfl, rfl⟩⟩ rfl rfl

def fb_ : List FB := [⟨[(0, 8), (2, (-1)), (3, (-1)), (4, (-1))], none⟩, ⟨[(0, 8), (2, (-1)), (3, (-1)), (4, (-1))], none⟩, ⟨[(0, 3), (2, (-1)), (3, (-1)), (4, (-1))], none⟩, ⟨[(0, 8), (2, (-1)), (3, 0), (4, (-1))], none⟩, ⟨[(0, 8), (2, (-1)), (3, 0), (4, (-1))], none⟩, ⟨[(0, 3), (2, (-1)), (3, (-1)), (4, (-1)), (5, (-1))], none⟩, ⟨[(0, 11), (2, (-1)), (3, 0), (4, (-1)), (6, 8)], none⟩, ⟨[(0, 8), (1, 1), (2, (-1)), (3, 1), (4, (-1))], none⟩, ⟨[(0, 8), (2, (-1)), (3, 0), (4, (-1))], none⟩, ⟨[(0, 11), (2, (-1)), (3, 0), (4, (-1)), (6, 10)], some 15⟩]
def pf : List PF := [.mk 8 0 (-1) (-1) (-1) 0 0 [], .mk 8 0 (-1) (-1) (-1) 0 0 [], .mk 3 0 (-1) (-1) (-1) 0 0 [], .mk 8 0 (-1) 0 (-1) 0 0 [], .mk 8 0 (-1) 0 (-1) 0 0 [], .mk 3 0 (-1) (-1) (-1) (-1) 0 [], .mk 11 0 (-1) 0 (-1) 0 8 [], .mk 8 1 (-1) 1 (-1) 0 0 [], .mk 8 0 (-1) 0 (-1) 0 0 [], .mk 11 0 (-1) 0 (-1) 0 10 pf_sConsumerGroupHeartbeatRequestTopic]
theorem msgOk : MsgFn P 6 pf 0 := msgFn_gives (fbs := fb_) spF fbF (by kernel_rfl) ⟨_, _, rfl, rfl, rfl, ⟨_, _, rfl, rfl, rfl, ⟨_, _, rfl, rfl, rfl, ⟨_, _, rfl, rfl, rfl, ⟨_, _, rfl, rfl, rfl, ⟨_, _, rfl, rfl, rfl, ⟨_, _, rfl, rfl, rfl, ⟨_, _, rfl, rfl, rfl, ⟨_, _, rfl, rfl, rfl, ⟨_, _, rfl, rfl, ⟨_, ok_sConsumerGroupHeartbeatRequestTopic, rfl⟩, rfl⟩⟩⟩⟩⟩⟩⟩⟩⟩⟩ rfl rfl
theorem plainOk : PF.plains pf = true := by kernel_rfl
theorem kOk : kPart pf ≤ 1024 := of_decide_eq_true (by kernel_rfl)
end Go.Proofs.YtlhbhamopejgcaaGreatDoorR
