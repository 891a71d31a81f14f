/- BeginQuorumEpochRequest: the reference's fields. -/
import Derived.Test.YtecjdkhklbcebadGreatDoorSpec
namespace Go.Proofs.YtecjdkhklbcebadGreatDoor
open Go Go.Kf

def fb_sBeginQuorumEpochRequestTopicPartition : List FB := [⟨[(0, 3), (2, (-1)), (3, (-1)), (4, (-1))], none⟩, ⟨[(0, 7), (1, 1), (2, (-1)), (3, (-1)), (4, (-1))], none⟩, ⟨[(0, 3), (2, (-1)), (3, (-1)), (4, (-1))], none⟩, ⟨[(0, 3), (2, (-1)), (3, (-1)), (4, (-1))], none⟩]
def pf_sBeginQuorumEpochRequestTopicPartition : List PF := [.mk 3 0 (-1) (-1) (-1) 0 0 [], .mk 7 1 (-1) (-1) (-1) 0 0 [], .mk 3 0 (-1) (-1) (-1) 0 0 [], .mk 3 0 (-1) (-1) (-1) 0 0 []]
theorem ok_sBeginQuorumEpochRequestTopicPartition : FieldsFn P 33 pf_sBeginQuorumEpochRequestTopicPartition := fieldsFn_gives (fbs := fb_sBeginQuorumEpochRequestTopicPartition) spF fbF (by kernel_rfl) ⟨_, _, rfl, rfl, rfl, ⟨_, _, rfl, rfl, rfl, ⟨_, _, rfl, rfl, rfl, ⟨_, _, rfl, rfl, rfl, rfl⟩⟩⟩⟩ rfl rfl

def fb_sBeginQuorumEpochRequestTopic : List FB := [⟨[(0, 8), (2, (-1)), (3, (-1)), (4, (-1))], none⟩, ⟨[(0, 11), (2, (-1)), (3, (-1)), (4, (-1)), (6, 10)], some 33⟩]
def pf_sBeginQuorumEpochRequestTopic : List PF := [.mk 8 0 (-1) (-1) (-1) 0 0 [], .mk 11 0 (-1) (-1) (-1) 0 10 pf_sBeginQuorumEpochRequestTopicPartition]
theorem ok_sBeginQuorumEpochRequestTopic : FieldsFn P 18 pf_sBeginQuorumEpochRequestTopic := fieldsFn_gives (fbs := fb_sBeginQuorumEpochRequestTopic) spF fbF (by kernel_rfl) ⟨_, _, rfl, rfl, rfl, ⟨_, _, rfl, rfl, ⟨_, ok_sBeginQuorumEpochRequestTopicPartition, rfl⟩, rfl⟩⟩ rfl rfl

def fb_sBeginQuorumEpochRequestLeaderEndpoint : List FB := [⟨[(0, 8), (2, (-1)), (3, (-1)), (4, (-1))], none⟩, ⟨[(0, 8), (2, (-1)), (3, (-1)), (4, (-1))], none⟩, ⟨[(0, 5), (2, (-1)), (3, (-1)), (4, (-1))], none⟩]
def pf_sBeginQuorumEpochRequestLeaderEndpoint : List PF := [.mk 8 0 (-1) (-1) (-1) 0 0 [], .mk 8 0 (-1) (-1) (-1) 0 0 [], .mk 5 0 (-1) (-1) (-1) 0 0 []]
theorem ok_sBeginQuorumEpochRequestLeaderEndpoint : FieldsFn P 19 pf_sBeginQuorumEpochRequestLeaderEndpoint := fieldsFn_gives (fbs := fb_sBeginQuorumEpochRequestLeaderEndpoint) spF fbF (by kernel_rfl) ⟨_, _, rfl, rfl, rfl, ⟨_, _, rfl, rfl, rfl, ⟨_, _, rfl, rfl, rfl, rfl⟩⟩⟩ rfl rfl

def fb_ : List FB := [⟨[(0, 8), (2, (-1)), (3, 0), (4, (-1))], none⟩, ⟨[(0, 3), (1, 1), (2, (-1)), (3, (-1)), (4, (-1)), (5, (-1))], none⟩, ⟨[(0, 11), (2, (-1)), (3, (-1)), (4, (-1)), (6, 10)], some 18⟩, ⟨[(0, 11), (1, 1), (2, (-1)), (3, (-1)), (4, (-1)), (6, 10)], some 19⟩]
def pf : List PF := [.mk 8 0 (-1) 0 (-1) 0 0 [], .mk 3 1 (-1) (-1) (-1) (-1) 0 [], .mk 11 0 (-1) (-1) (-1) 0 10 pf_sBeginQuorumEpochRequestTopic, .mk 11 1 (-1) (-1) (-1) 0 10 pf_sBeginQuorumEpochRequestLeaderEndpoint]
theorem msgOk : MsgFn P 7 pf 1 := msgFn_gives (fbs := fb_) spF fbF (by kernel_rfl) ⟨_, _, rfl, rfl, rfl, ⟨_, _, rfl, rfl, rfl, ⟨_, _, rfl, rfl, ⟨_, ok_sBeginQuorumEpochRequestTopic, rfl⟩, ⟨_, _, rfl, rfl, ⟨_, ok_sBeginQuorumEpochRequestLeaderEndpoint, rfl⟩, rfl⟩⟩⟩⟩ rfl rfl
theorem plainOk : PF.plains pf = true := by kernel_rfl
theorem kOk : kPart pf ≤ 1024 := of_decide_eq_true (by kernel_rfl)
end Go.Proofs.YtecjdkhklbcebadGreatDoor
