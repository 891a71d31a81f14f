/- CreateTopicsRequest: the reference's fields. -/
import Derived.Test.YtecjdkhklbcebacGreatDoorSpec
namespace Go.Proofs.YtecjdkhklbcebacGreatDoor
open Go Go.Kf

def fb_sCreateTopicsRequestTopicReplicaAssignment : List FB := [⟨[(0, 3), (2, (-1)), (3, (-1)), (4, (-1))], none⟩, ⟨[(0, 11), (2, (-1)), (3, (-1)), (4, (-1)), (6, 3)], none⟩]
def pf_sCreateTopicsRequestTopicReplicaAssignment : List PF := [.mk 3 0 (-1) (-1) (-1) 0 0 [], .mk 11 0 (-1) (-1) (-1) 0 3 []]
theorem ok_sCreateTopicsRequestTopicReplicaAssignment : FieldsFn P 52 pf_sCreateTopicsRequestTopicReplicaAssignment := fieldsFn_gives (fbs := fb_sCreateTopicsRequestTopicReplicaAssignment) spF fbF (by kernel_rfl) ⟨_, _, rfl, rfl, rfl, ⟨_, _, rfl, rfl, rfl, rfl⟩⟩ rfl rfl

def fb_sCreateTopicsRequestTopicConfig : List FB := [⟨[(0, 8), (2, (-1)), (3, (-1)), (4, (-1))], none⟩, ⟨[(0, 8), (2, (-1)), (3, 0), (4, (-1))], none⟩]
def pf_sCreateTopicsRequestTopicConfig : List PF := [.mk 8 0 (-1) (-1) (-1) 0 0 [], .mk 8 0 (-1) 0 (-1) 0 0 []]
theorem ok_sCreateTopicsRequestTopicConfig : FieldsFn P 53 pf_sCreateTopicsRequestTopicConfig := fieldsFn_gives (fbs := fb_sCreateTopicsRequestTopicConfig) spF fbF (by kernel_rfl) ⟨_, _, rfl, rfl, rfl, ⟨_, _, rfl, rfl, rfl, rfl⟩⟩ rfl rfl

def fb_sCreateTopicsRequestTopic : List FB := [⟨[(0, 8), (2, (-1)), (3, (-1)), (4, (-1))], none⟩, ⟨[(0, 3), (2, (-1)), (3, (-1)), (4, (-1))], none⟩, ⟨[(0, 2), (2, (-1)), (3, (-1)), (4, (-1))], none⟩, ⟨[(0, 11), (2, (-1)), (3, (-1)), (4, (-1)), (6, 10)], some 52⟩, ⟨[(0, 11), (2, (-1)), (3, (-1)), (4, (-1)), (6, 10)], some 53⟩]
def pf_sCreateTopicsRequestTopic : List PF := [.mk 8 0 (-1) (-1) (-1) 0 0 [], .mk 3 0 (-1) (-1) (-1) 0 0 [], .mk 2 0 (-1) (-1) (-1) 0 0 [], .mk 11 0 (-1) (-1) (-1) 0 10 pf_sCreateTopicsRequestTopicReplicaAssignment, .mk 11 0 (-1) (-1) (-1) 0 10 pf_sCreateTopicsRequestTopicConfig]
theorem ok_sCreateTopicsRequestTopic : FieldsFn P 25 pf_sCreateTopicsRequestTopic := fieldsFn_gives (fbs := fb_sCreateTopicsRequestTopic) spF fbF (by kernel_rfl) ⟨_, _, rfl, rfl, rfl, ⟨_, _, rfl, rfl, rfl, ⟨_, _, rfl, rfl, rfl, ⟨_, _, rfl, rfl, ⟨_, ok_sCreateTopicsRequestTopicReplicaAssignment, rfl⟩, ⟨_, _, rfl, rfl, ⟨_, ok_sCreateTopicsRequestTopicConfig, rfl⟩, rfl⟩⟩⟩⟩⟩ rfl rfl

def fb_ : List FB := [⟨[(0, 11), (2, (-1)), (3, (-1)), (4, (-1)), (6, 10)], some 25⟩, ⟨[(0, 3), (2, (-1)), (3, (-1)), (4, (-1)), (5, 60000)], none⟩, ⟨[(0, 0), (1, 1), (2, (-1)), (3, (-1)), (4, (-1))], none⟩]
def pf : List PF := [.mk 11 0 (-1) (-1) (-1) 0 10 pf_sCreateTopicsRequestTopic, .mk 3 0 (-1) (-1) (-1) 60000 0 [], .mk 0 1 (-1) (-1) (-1) 0 0 []]
theorem msgOk : MsgFn P 13 pf 5 := msgFn_gives (fbs := fb_) spF fbF (by kernel_rfl) ⟨_, _, rfl, rfl, ⟨_, ok_sCreateTopicsRequestTopic, rfl⟩, ⟨_, _, rfl, rfl, rfl, ⟨_, _, rfl, rfl, rfl, rfl⟩⟩⟩ rfl rfl
theorem plainOk : PF.plains pf = true := by kernel_rfl
theorem kOk : kPart pf ≤ 1024 := of_decide_eq_true (by kernel_rfl)
end Go.Proofs.YtecjdkhklbcebacGreatDoor
