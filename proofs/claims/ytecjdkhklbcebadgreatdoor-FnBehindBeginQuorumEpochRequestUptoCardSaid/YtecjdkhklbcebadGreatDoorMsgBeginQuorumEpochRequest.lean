/- BeginQuorumEpochRequest: its fields, how it is read and told. -/
import Derived.Test.YtecjdkhklbcebadGreatDoorParts
namespace Go.Proofs.YtecjdkhklbcebadGreatDoor
open Go Go.Kf

def tysBeginQuorumEpochRequestTopicPartition : List Ty := [.num .i32, .uuid, .num .i32, .num .i32, .tags]
def lsBeginQuorumEpochRequestTopicPartition : List Nat := [1, 16, 1, 1, 1]
def zfBeginQuorumEpochRequestTopicPartition : List FV := [.one (.int .i32 0), .uuid (List.replicate 16 0), .one (.int .i32 0), .one (.int .i32 0), .tags []]
def dfBeginQuorumEpochRequestTopicPartition : List FV := [.one (.int .i32 0), .uuid (List.replicate 16 0), .one (.int .i32 0), .one (.int .i32 0), .tags []]
def dsBeginQuorumEpochRequestTopicPartition : List Dset := []
theorem dsokBeginQuorumEpochRequestTopicPartition : DsetsOk P 87 lsBeginQuorumEpochRequestTopicPartition dsBeginQuorumEpochRequestTopicPartition := trivial
theorem defBeginQuorumEpochRequestTopicPartition : DefSets P 81 lsBeginQuorumEpochRequestTopicPartition dsBeginQuorumEpochRequestTopicPartition := default_gives rdF.mix (by kernel_rfl) dsokBeginQuorumEpochRequestTopicPartition
theorem dokBeginQuorumEpochRequestTopicPartition : DefOk P 81 87 dfBeginQuorumEpochRequestTopicPartition := DefSets.ok (z := .agg ⟨[.int .i32 0, .int .u8 0, .int .u8 0, .int .u8 0, .int .u8 0, .int .u8 0, .int .u8 0, .int .u8 0, .int .u8 0, .int .u8 0, .int .u8 0, .int .u8 0, .int .u8 0, .int .u8 0, .int .u8 0, .int .u8 0, .int .u8 0, .int .i32 0, .int .i32 0, .map none]⟩) (zfs := zfBeginQuorumEpochRequestTopicPartition) (dc := [.int .i32 0, .int .u8 0, .int .u8 0, .int .u8 0, .int .u8 0, .int .u8 0, .int .u8 0, .int .u8 0, .int .u8 0, .int .u8 0, .int .u8 0, .int .u8 0, .int .u8 0, .int .u8 0, .int .u8 0, .int .u8 0, .int .u8 0, .int .i32 0, .int .i32 0, .map none]) defBeginQuorumEpochRequestTopicPartition (by kernel_rfl) (by kernel_rfl) rfl rfl rfl (by kernel_rfl)
def tysBeginQuorumEpochRequestTopic : List Ty := [.text, .list (tysBeginQuorumEpochRequestTopicPartition), .tags]
def lsBeginQuorumEpochRequestTopic : List Nat := [1, 1, 1]
def zfBeginQuorumEpochRequestTopic : List FV := [.text [], .list true [], .tags []]
def dfBeginQuorumEpochRequestTopic : List FV := [.text [], .list true [], .tags []]
def dsBeginQuorumEpochRequestTopic : List Dset := []
theorem dsokBeginQuorumEpochRequestTopic : DsetsOk P 82 lsBeginQuorumEpochRequestTopic dsBeginQuorumEpochRequestTopic := trivial
theorem defBeginQuorumEpochRequestTopic : DefSets P 76 lsBeginQuorumEpochRequestTopic dsBeginQuorumEpochRequestTopic := default_gives rdF.mix (by kernel_rfl) dsokBeginQuorumEpochRequestTopic
theorem dokBeginQuorumEpochRequestTopic : DefOk P 76 82 dfBeginQuorumEpochRequestTopic := DefSets.ok (z := .agg ⟨[.string (strOf []), .slice none 0 0, .map none]⟩) (zfs := zfBeginQuorumEpochRequestTopic) (dc := [.string (strOf []), .slice none 0 0, .map none]) defBeginQuorumEpochRequestTopic (by kernel_rfl) (by kernel_rfl) rfl rfl rfl (by kernel_rfl)
def tysBeginQuorumEpochRequestLeaderEndpoint : List Ty := [.text, .text, .num .u16, .tags]
def lsBeginQuorumEpochRequestLeaderEndpoint : List Nat := [1, 1, 1, 1]
def zfBeginQuorumEpochRequestLeaderEndpoint : List FV := [.text [], .text [], .one (.int .u16 0), .tags []]
def dfBeginQuorumEpochRequestLeaderEndpoint : List FV := [.text [], .text [], .one (.int .u16 0), .tags []]
def dsBeginQuorumEpochRequestLeaderEndpoint : List Dset := []
theorem dsokBeginQuorumEpochRequestLeaderEndpoint : DsetsOk P 93 lsBeginQuorumEpochRequestLeaderEndpoint dsBeginQuorumEpochRequestLeaderEndpoint := trivial
theorem defBeginQuorumEpochRequestLeaderEndpoint : DefSets P 84 lsBeginQuorumEpochRequestLeaderEndpoint dsBeginQuorumEpochRequestLeaderEndpoint := default_gives rdF.mix (by kernel_rfl) dsokBeginQuorumEpochRequestLeaderEndpoint
theorem dokBeginQuorumEpochRequestLeaderEndpoint : DefOk P 84 93 dfBeginQuorumEpochRequestLeaderEndpoint := DefSets.ok (z := .agg ⟨[.string (strOf []), .string (strOf []), .int .u16 0, .map none]⟩) (zfs := zfBeginQuorumEpochRequestLeaderEndpoint) (dc := [.string (strOf []), .string (strOf []), .int .u16 0, .map none]) defBeginQuorumEpochRequestLeaderEndpoint (by kernel_rfl) (by kernel_rfl) rfl rfl rfl (by kernel_rfl)
def tysBeginQuorumEpochRequest : List Ty := [.num .i16, .ntext, .num .i32, .list (tysBeginQuorumEpochRequestTopic), .list (tysBeginQuorumEpochRequestLeaderEndpoint), .tags]
def lsBeginQuorumEpochRequest : List Nat := [1, 1, 1, 1, 1, 1]
def zfBeginQuorumEpochRequest : List FV := [.one (.int .i16 0), .ntext none, .one (.int .i32 0), .list true [], .list true [], .tags []]
def dfBeginQuorumEpochRequest : List FV := [.one (.int .i16 0), .ntext none, .one (.int .i32 (-1)), .list true [], .list true [], .tags []]
def dsBeginQuorumEpochRequest : List Dset := [.set 2 21 2 (.int .i32 (-1))]
theorem dsokBeginQuorumEpochRequest : DsetsOk P 66 lsBeginQuorumEpochRequest dsBeginQuorumEpochRequest := ⟨⟨⟨by kernel_rfl, rfl, rfl⟩, by kernel_rfl, rfl⟩, trivial⟩
theorem defBeginQuorumEpochRequest : DefSets P 32 lsBeginQuorumEpochRequest dsBeginQuorumEpochRequest := default_gives rdF.mix (by kernel_rfl) dsokBeginQuorumEpochRequest
theorem dokBeginQuorumEpochRequest : DefOk P 32 66 dfBeginQuorumEpochRequest := DefSets.ok (z := .agg ⟨[.int .i16 0, .pointer none, .int .i32 0, .slice none 0 0, .slice none 0 0, .map none]⟩) (zfs := zfBeginQuorumEpochRequest) (dc := [.int .i16 0, .pointer none, .int .i32 (-1), .slice none 0 0, .slice none 0 0, .map none]) defBeginQuorumEpochRequest (by kernel_rfl) (by kernel_rfl) rfl rfl rfl (by kernel_rfl)
end Go.Proofs.YtecjdkhklbcebadGreatDoor
