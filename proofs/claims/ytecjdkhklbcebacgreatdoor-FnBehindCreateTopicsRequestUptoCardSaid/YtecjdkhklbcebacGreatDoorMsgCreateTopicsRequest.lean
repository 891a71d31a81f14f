/- CreateTopicsRequest: its fields, how it is read and told. -/
import Derived.Test.YtecjdkhklbcebacGreatDoorParts
namespace Go.Proofs.YtecjdkhklbcebacGreatDoor
open Go Go.Kf

def tysCreateTopicsRequestTopicReplicaAssignment : List Ty := [.num .i32, .list [.num .i32], .tags]
def lsCreateTopicsRequestTopicReplicaAssignment : List Nat := [1, 1, 1]
def zfCreateTopicsRequestTopicReplicaAssignment : List FV := [.one (.int .i32 0), .list true [], .tags []]
def dfCreateTopicsRequestTopicReplicaAssignment : List FV := [.one (.int .i32 0), .list true [], .tags []]
def dsCreateTopicsRequestTopicReplicaAssignment : List Dset := []
theorem dsokCreateTopicsRequestTopicReplicaAssignment : DsetsOk P 99 lsCreateTopicsRequestTopicReplicaAssignment dsCreateTopicsRequestTopicReplicaAssignment := trivial
theorem defCreateTopicsRequestTopicReplicaAssignment : DefSets P 85 lsCreateTopicsRequestTopicReplicaAssignment dsCreateTopicsRequestTopicReplicaAssignment := default_gives rdF.mix (by kernel_rfl) dsokCreateTopicsRequestTopicReplicaAssignment
theorem dokCreateTopicsRequestTopicReplicaAssignment : DefOk P 85 99 dfCreateTopicsRequestTopicReplicaAssignment := DefSets.ok (z := .agg ⟨[.int .i32 0, .slice none 0 0, .map none]⟩) (zfs := zfCreateTopicsRequestTopicReplicaAssignment) (dc := [.int .i32 0, .slice none 0 0, .map none]) defCreateTopicsRequestTopicReplicaAssignment (by kernel_rfl) (by kernel_rfl) rfl rfl rfl (by kernel_rfl)
def tysCreateTopicsRequestTopicConfig : List Ty := [.text, .ntext, .tags]
def lsCreateTopicsRequestTopicConfig : List Nat := [1, 1, 1]
def zfCreateTopicsRequestTopicConfig : List FV := [.text [], .ntext none, .tags []]
def dfCreateTopicsRequestTopicConfig : List FV := [.text [], .ntext none, .tags []]
def dsCreateTopicsRequestTopicConfig : List Dset := []
theorem dsokCreateTopicsRequestTopicConfig : DsetsOk P 103 lsCreateTopicsRequestTopicConfig dsCreateTopicsRequestTopicConfig := trivial
theorem defCreateTopicsRequestTopicConfig : DefSets P 86 lsCreateTopicsRequestTopicConfig dsCreateTopicsRequestTopicConfig := default_gives rdF.mix (by kernel_rfl) dsokCreateTopicsRequestTopicConfig
theorem dokCreateTopicsRequestTopicConfig : DefOk P 86 103 dfCreateTopicsRequestTopicConfig := DefSets.ok (z := .agg ⟨[.string (strOf []), .pointer none, .map none]⟩) (zfs := zfCreateTopicsRequestTopicConfig) (dc := [.string (strOf []), .pointer none, .map none]) defCreateTopicsRequestTopicConfig (by kernel_rfl) (by kernel_rfl) rfl rfl rfl (by kernel_rfl)
def tysCreateTopicsRequestTopic : List Ty := [.text, .num .i32, .num .i16, .list (tysCreateTopicsRequestTopicReplicaAssignment), .list (tysCreateTopicsRequestTopicConfig), .tags]
def lsCreateTopicsRequestTopic : List Nat := [1, 1, 1, 1, 1, 1]
def zfCreateTopicsRequestTopic : List FV := [.text [], .one (.int .i32 0), .one (.int .i16 0), .list true [], .list true [], .tags []]
def dfCreateTopicsRequestTopic : List FV := [.text [], .one (.int .i32 0), .one (.int .i16 0), .list true [], .list true [], .tags []]
def dsCreateTopicsRequestTopic : List Dset := []
theorem dsokCreateTopicsRequestTopic : DsetsOk P 95 lsCreateTopicsRequestTopic dsCreateTopicsRequestTopic := trivial
theorem defCreateTopicsRequestTopic : DefSets P 83 lsCreateTopicsRequestTopic dsCreateTopicsRequestTopic := default_gives rdF.mix (by kernel_rfl) dsokCreateTopicsRequestTopic
theorem dokCreateTopicsRequestTopic : DefOk P 83 95 dfCreateTopicsRequestTopic := DefSets.ok (z := .agg ⟨[.string (strOf []), .int .i32 0, .int .i16 0, .slice none 0 0, .slice none 0 0, .map none]⟩) (zfs := zfCreateTopicsRequestTopic) (dc := [.string (strOf []), .int .i32 0, .int .i16 0, .slice none 0 0, .slice none 0 0, .map none]) defCreateTopicsRequestTopic (by kernel_rfl) (by kernel_rfl) rfl rfl rfl (by kernel_rfl)
def tysCreateTopicsRequest : List Ty := [.num .i16, .list (tysCreateTopicsRequestTopic), .num .i32, .bool, .tags]
def lsCreateTopicsRequest : List Nat := [1, 1, 1, 1, 1]
def zfCreateTopicsRequest : List FV := [.one (.int .i16 0), .list true [], .one (.int .i32 0), .one (.bool false), .tags []]
def dfCreateTopicsRequest : List FV := [.one (.int .i16 0), .list true [], .one (.int .i32 60000), .one (.bool false), .tags []]
def dsCreateTopicsRequest : List Dset := [.set 2 21 2 (.int .i32 60000)]
theorem dsokCreateTopicsRequest : DsetsOk P 90 lsCreateTopicsRequest dsCreateTopicsRequest := ⟨⟨⟨by kernel_rfl, rfl, rfl⟩, by kernel_rfl, rfl⟩, trivial⟩
theorem defCreateTopicsRequest : DefSets P 51 lsCreateTopicsRequest dsCreateTopicsRequest := default_gives rdF.mix (by kernel_rfl) dsokCreateTopicsRequest
theorem dokCreateTopicsRequest : DefOk P 51 90 dfCreateTopicsRequest := DefSets.ok (z := .agg ⟨[.int .i16 0, .slice none 0 0, .int .i32 0, .bool false, .map none]⟩) (zfs := zfCreateTopicsRequest) (dc := [.int .i16 0, .slice none 0 0, .int .i32 60000, .bool false, .map none]) defCreateTopicsRequest (by kernel_rfl) (by kernel_rfl) rfl rfl rfl (by kernel_rfl)
end Go.Proofs.YtecjdkhklbcebacGreatDoor
