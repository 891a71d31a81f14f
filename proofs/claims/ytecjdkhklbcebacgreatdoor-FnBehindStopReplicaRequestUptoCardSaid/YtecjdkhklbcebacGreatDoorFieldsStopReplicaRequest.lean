/- StopReplicaRequest: the reference's fields. -/
import Derived.Test.YtecjdkhklbcebacGreatDoorSpec
namespace Go.Proofs.YtecjdkhklbcebacGreatDoor
open Go Go.Kf

def fb_sStopReplicaRequestTopicPartitionState : List FB := [⟨[(0, 3), (2, (-1)), (3, (-1)), (4, (-1))], none⟩, ⟨[(0, 3), (2, (-1)), (3, (-1)), (4, (-1)), (5, (-1))], none⟩, ⟨[(0, 0), (2, (-1)), (3, (-1)), (4, (-1))], none⟩]
def pf_sStopReplicaRequestTopicPartitionState : List PF := [.mk 3 0 (-1) (-1) (-1) 0 0 [], .mk 3 0 (-1) (-1) (-1) (-1) 0 [], .mk 0 0 (-1) (-1) (-1) 0 0 []]
theorem ok_sStopReplicaRequestTopicPartitionState : FieldsFn P 31 pf_sStopReplicaRequestTopicPartitionState := fieldsFn_gives (fbs := fb_sStopReplicaRequestTopicPartitionState) spF fbF (by kernel_rfl) ⟨_, _, rfl, rfl, rfl, ⟨_, _, rfl, rfl, rfl, ⟨_, _, rfl, rfl, rfl, rfl⟩⟩⟩ rfl rfl

def fb_sStopReplicaRequestTopic : List FB := [⟨[(0, 8), (2, (-1)), (3, (-1)), (4, (-1))], none⟩, ⟨[(0, 3), (2, 0), (3, (-1)), (4, (-1))], none⟩, ⟨[(0, 11), (1, 1), (2, 2), (3, (-1)), (4, (-1)), (6, 3)], none⟩, ⟨[(0, 11), (1, 3), (2, (-1)), (3, (-1)), (4, (-1)), (6, 10)], some 31⟩]
def pf_sStopReplicaRequestTopic : List PF := [.mk 8 0 (-1) (-1) (-1) 0 0 [], .mk 3 0 0 (-1) (-1) 0 0 [], .mk 11 1 2 (-1) (-1) 0 3 [], .mk 11 3 (-1) (-1) (-1) 0 10 pf_sStopReplicaRequestTopicPartitionState]
theorem ok_sStopReplicaRequestTopic : FieldsFn P 18 pf_sStopReplicaRequestTopic := fieldsFn_gives (fbs := fb_sStopReplicaRequestTopic) spF fbF (by kernel_rfl) ⟨_, _, rfl, rfl, rfl, ⟨_, _, rfl, rfl, rfl, ⟨_, _, rfl, rfl, rfl, ⟨_, _, rfl, rfl, ⟨_, ok_sStopReplicaRequestTopicPartitionState, rfl⟩, rfl⟩⟩⟩⟩ rfl rfl

def fb_ : List FB := [⟨[(0, 3), (2, (-1)), (3, (-1)), (4, (-1))], none⟩, ⟨[(0, 3), (2, (-1)), (3, (-1)), (4, (-1))], none⟩, ⟨[(0, 0), (1, 4), (2, (-1)), (3, (-1)), (4, (-1))], none⟩, ⟨[(0, 4), (1, 1), (2, (-1)), (3, (-1)), (4, (-1)), (5, (-1))], none⟩, ⟨[(0, 0), (2, 2), (3, (-1)), (4, (-1))], none⟩, ⟨[(0, 11), (2, (-1)), (3, (-1)), (4, (-1)), (6, 10)], some 18⟩]
def pf : List PF := [.mk 3 0 (-1) (-1) (-1) 0 0 [], .mk 3 0 (-1) (-1) (-1) 0 0 [], .mk 0 4 (-1) (-1) (-1) 0 0 [], .mk 4 1 (-1) (-1) (-1) (-1) 0 [], .mk 0 0 2 (-1) (-1) 0 0 [], .mk 11 0 (-1) (-1) (-1) 0 10 pf_sStopReplicaRequestTopic]
theorem msgOk : MsgFn P 7 pf 2 := msgFn_gives (fbs := fb_) spF fbF (by kernel_rfl) ⟨_, _, rfl, rfl, rfl, ⟨_, _, rfl, rfl, rfl, ⟨_, _, rfl, rfl, rfl, ⟨_, _, rfl, rfl, rfl, ⟨_, _, rfl, rfl, rfl, ⟨_, _, rfl, rfl, ⟨_, ok_sStopReplicaRequestTopic, rfl⟩, rfl⟩⟩⟩⟩⟩⟩ rfl rfl
theorem plainOk : PF.plains pf = true := by kernel_rfl
theorem kOk : kPart pf ≤ 1024 := of_decide_eq_true (by kernel_rfl)
end Go.Proofs.YtecjdkhklbcebacGreatDoor
