/- StopReplicaRequest: its fields, how it is read and told. -/
import Derived.Test.YtecjdkhklbcebacGreatDoorParts
namespace Go.Proofs.YtecjdkhklbcebacGreatDoor
open Go Go.Kf

def tysStopReplicaRequestTopicPartitionState : List Ty := [.num .i32, .num .i32, .bool, .tags]
def lsStopReplicaRequestTopicPartitionState : List Nat := [1, 1, 1, 1]
def zfStopReplicaRequestTopicPartitionState : List FV := [.one (.int .i32 0), .one (.int .i32 0), .one (.bool false), .tags []]
def dfStopReplicaRequestTopicPartitionState : List FV := [.one (.int .i32 0), .one (.int .i32 (-1)), .one (.bool false), .tags []]
def dsStopReplicaRequestTopicPartitionState : List Dset := [.set 1 21 1 (.int .i32 (-1))]
theorem dsokStopReplicaRequestTopicPartitionState : DsetsOk P 86 lsStopReplicaRequestTopicPartitionState dsStopReplicaRequestTopicPartitionState := ⟨⟨⟨by kernel_rfl, rfl, rfl⟩, by kernel_rfl, rfl⟩, trivial⟩
theorem defStopReplicaRequestTopicPartitionState : DefSets P 76 lsStopReplicaRequestTopicPartitionState dsStopReplicaRequestTopicPartitionState := default_gives rdF.mix (by kernel_rfl) dsokStopReplicaRequestTopicPartitionState
theorem dokStopReplicaRequestTopicPartitionState : DefOk P 76 86 dfStopReplicaRequestTopicPartitionState := DefSets.ok (z := .agg ⟨[.int .i32 0, .int .i32 0, .bool false, .map none]⟩) (zfs := zfStopReplicaRequestTopicPartitionState) (dc := [.int .i32 0, .int .i32 (-1), .bool false, .map none]) defStopReplicaRequestTopicPartitionState (by kernel_rfl) (by kernel_rfl) rfl rfl rfl (by kernel_rfl)
def tysStopReplicaRequestTopic : List Ty := [.text, .num .i32, .list [.num .i32], .list (tysStopReplicaRequestTopicPartitionState), .tags]
def lsStopReplicaRequestTopic : List Nat := [1, 1, 1, 1, 1]
def zfStopReplicaRequestTopic : List FV := [.text [], .one (.int .i32 0), .list true [], .list true [], .tags []]
def dfStopReplicaRequestTopic : List FV := [.text [], .one (.int .i32 0), .list true [], .list true [], .tags []]
def dsStopReplicaRequestTopic : List Dset := []
theorem dsokStopReplicaRequestTopic : DsetsOk P 82 lsStopReplicaRequestTopic dsStopReplicaRequestTopic := trivial
theorem defStopReplicaRequestTopic : DefSets P 71 lsStopReplicaRequestTopic dsStopReplicaRequestTopic := default_gives rdF.mix (by kernel_rfl) dsokStopReplicaRequestTopic
theorem dokStopReplicaRequestTopic : DefOk P 71 82 dfStopReplicaRequestTopic := DefSets.ok (z := .agg ⟨[.string (strOf []), .int .i32 0, .slice none 0 0, .slice none 0 0, .map none]⟩) (zfs := zfStopReplicaRequestTopic) (dc := [.string (strOf []), .int .i32 0, .slice none 0 0, .slice none 0 0, .map none]) defStopReplicaRequestTopic (by kernel_rfl) (by kernel_rfl) rfl rfl rfl (by kernel_rfl)
def tysStopReplicaRequest : List Ty := [.num .i16, .num .i32, .num .i32, .bool, .num .i64, .bool, .list (tysStopReplicaRequestTopic), .tags]
def lsStopReplicaRequest : List Nat := [1, 1, 1, 1, 1, 1, 1, 1]
def zfStopReplicaRequest : List FV := [.one (.int .i16 0), .one (.int .i32 0), .one (.int .i32 0), .one (.bool false), .one (.int .i64 0), .one (.bool false), .list true [], .tags []]
def dfStopReplicaRequest : List FV := [.one (.int .i16 0), .one (.int .i32 0), .one (.int .i32 0), .one (.bool false), .one (.int .i64 (-1)), .one (.bool false), .list true [], .tags []]
def dsStopReplicaRequest : List Dset := [.set 4 2 4 (.int .i64 (-1))]
theorem dsokStopReplicaRequest : DsetsOk P 64 lsStopReplicaRequest dsStopReplicaRequest := ⟨⟨⟨by kernel_rfl, rfl, rfl⟩, by kernel_rfl, rfl⟩, trivial⟩
theorem defStopReplicaRequest : DefSets P 30 lsStopReplicaRequest dsStopReplicaRequest := default_gives rdF.mix (by kernel_rfl) dsokStopReplicaRequest
theorem dokStopReplicaRequest : DefOk P 30 64 dfStopReplicaRequest := DefSets.ok (z := .agg ⟨[.int .i16 0, .int .i32 0, .int .i32 0, .bool false, .int .i64 0, .bool false, .slice none 0 0, .map none]⟩) (zfs := zfStopReplicaRequest) (dc := [.int .i16 0, .int .i32 0, .int .i32 0, .bool false, .int .i64 (-1), .bool false, .slice none 0 0, .map none]) defStopReplicaRequest (by kernel_rfl) (by kernel_rfl) rfl rfl rfl (by kernel_rfl)
end Go.Proofs.YtecjdkhklbcebacGreatDoor
