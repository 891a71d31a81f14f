/- ShareFetchRequest: its fields, how it is read and told. -/
import Derived.Test.YtecjdkhklbcebadGreatDoorParts
namespace Go.Proofs.YtecjdkhklbcebadGreatDoor
open Go Go.Kf

def tysShareFetchRequestTopicPartitionAcknowledgementBatch : List Ty := [.num .i64, .num .i64, .list [.num .i8], .tags]
def lsShareFetchRequestTopicPartitionAcknowledgementBatch : List Nat := [1, 1, 1, 1]
def zfShareFetchRequestTopicPartitionAcknowledgementBatch : List FV := [.one (.int .i64 0), .one (.int .i64 0), .list true [], .tags []]
def dfShareFetchRequestTopicPartitionAcknowledgementBatch : List FV := [.one (.int .i64 0), .one (.int .i64 0), .list true [], .tags []]
def dsShareFetchRequestTopicPartitionAcknowledgementBatch : List Dset := []
theorem dsokShareFetchRequestTopicPartitionAcknowledgementBatch : DsetsOk P 113 lsShareFetchRequestTopicPartitionAcknowledgementBatch dsShareFetchRequestTopicPartitionAcknowledgementBatch := trivial
theorem defShareFetchRequestTopicPartitionAcknowledgementBatch : DefSets P 96 lsShareFetchRequestTopicPartitionAcknowledgementBatch dsShareFetchRequestTopicPartitionAcknowledgementBatch := default_gives rdF.mix (by kernel_rfl) dsokShareFetchRequestTopicPartitionAcknowledgementBatch
theorem dokShareFetchRequestTopicPartitionAcknowledgementBatch : DefOk P 96 113 dfShareFetchRequestTopicPartitionAcknowledgementBatch := DefSets.ok (z := .agg ⟨[.int .i64 0, .int .i64 0, .slice none 0 0, .map none]⟩) (zfs := zfShareFetchRequestTopicPartitionAcknowledgementBatch) (dc := [.int .i64 0, .int .i64 0, .slice none 0 0, .map none]) defShareFetchRequestTopicPartitionAcknowledgementBatch (by kernel_rfl) (by kernel_rfl) rfl rfl rfl (by kernel_rfl)
def tysShareFetchRequestTopicPartition : List Ty := [.num .i32, .num .i32, .list (tysShareFetchRequestTopicPartitionAcknowledgementBatch), .tags]
def lsShareFetchRequestTopicPartition : List Nat := [1, 1, 1, 1]
def zfShareFetchRequestTopicPartition : List FV := [.one (.int .i32 0), .one (.int .i32 0), .list true [], .tags []]
def dfShareFetchRequestTopicPartition : List FV := [.one (.int .i32 0), .one (.int .i32 0), .list true [], .tags []]
def dsShareFetchRequestTopicPartition : List Dset := []
theorem dsokShareFetchRequestTopicPartition : DsetsOk P 109 lsShareFetchRequestTopicPartition dsShareFetchRequestTopicPartition := trivial
theorem defShareFetchRequestTopicPartition : DefSets P 95 lsShareFetchRequestTopicPartition dsShareFetchRequestTopicPartition := default_gives rdF.mix (by kernel_rfl) dsokShareFetchRequestTopicPartition
theorem dokShareFetchRequestTopicPartition : DefOk P 95 109 dfShareFetchRequestTopicPartition := DefSets.ok (z := .agg ⟨[.int .i32 0, .int .i32 0, .slice none 0 0, .map none]⟩) (zfs := zfShareFetchRequestTopicPartition) (dc := [.int .i32 0, .int .i32 0, .slice none 0 0, .map none]) defShareFetchRequestTopicPartition (by kernel_rfl) (by kernel_rfl) rfl rfl rfl (by kernel_rfl)
def tysShareFetchRequestTopic : List Ty := [.uuid, .list (tysShareFetchRequestTopicPartition), .tags]
def lsShareFetchRequestTopic : List Nat := [16, 1, 1]
def zfShareFetchRequestTopic : List FV := [.uuid (List.replicate 16 0), .list true [], .tags []]
def dfShareFetchRequestTopic : List FV := [.uuid (List.replicate 16 0), .list true [], .tags []]
def dsShareFetchRequestTopic : List Dset := []
theorem dsokShareFetchRequestTopic : DsetsOk P 105 lsShareFetchRequestTopic dsShareFetchRequestTopic := trivial
theorem defShareFetchRequestTopic : DefSets P 94 lsShareFetchRequestTopic dsShareFetchRequestTopic := default_gives rdF.mix (by kernel_rfl) dsokShareFetchRequestTopic
theorem dokShareFetchRequestTopic : DefOk P 94 105 dfShareFetchRequestTopic := DefSets.ok (z := .agg ⟨[.int .u8 0, .int .u8 0, .int .u8 0, .int .u8 0, .int .u8 0, .int .u8 0, .int .u8 0, .int .u8 0, .int .u8 0, .int .u8 0, .int .u8 0, .int .u8 0, .int .u8 0, .int .u8 0, .int .u8 0, .int .u8 0, .slice none 0 0, .map none]⟩) (zfs := zfShareFetchRequestTopic) (dc := [.int .u8 0, .int .u8 0, .int .u8 0, .int .u8 0, .int .u8 0, .int .u8 0, .int .u8 0, .int .u8 0, .int .u8 0, .int .u8 0, .int .u8 0, .int .u8 0, .int .u8 0, .int .u8 0, .int .u8 0, .int .u8 0, .slice none 0 0, .map none]) defShareFetchRequestTopic (by kernel_rfl) (by kernel_rfl) rfl rfl rfl (by kernel_rfl)
def tysShareFetchRequestForgottenTopicsData : List Ty := [.uuid, .list [.num .i32], .tags]
def lsShareFetchRequestForgottenTopicsData : List Nat := [16, 1, 1]
def zfShareFetchRequestForgottenTopicsData : List FV := [.uuid (List.replicate 16 0), .list true [], .tags []]
def dfShareFetchRequestForgottenTopicsData : List FV := [.uuid (List.replicate 16 0), .list true [], .tags []]
def dsShareFetchRequestForgottenTopicsData : List Dset := []
theorem dsokShareFetchRequestForgottenTopicsData : DsetsOk P 118 lsShareFetchRequestForgottenTopicsData dsShareFetchRequestForgottenTopicsData := trivial
theorem defShareFetchRequestForgottenTopicsData : DefSets P 98 lsShareFetchRequestForgottenTopicsData dsShareFetchRequestForgottenTopicsData := default_gives rdF.mix (by kernel_rfl) dsokShareFetchRequestForgottenTopicsData
theorem dokShareFetchRequestForgottenTopicsData : DefOk P 98 118 dfShareFetchRequestForgottenTopicsData := DefSets.ok (z := .agg ⟨[.int .u8 0, .int .u8 0, .int .u8 0, .int .u8 0, .int .u8 0, .int .u8 0, .int .u8 0, .int .u8 0, .int .u8 0, .int .u8 0, .int .u8 0, .int .u8 0, .int .u8 0, .int .u8 0, .int .u8 0, .int .u8 0, .slice none 0 0, .map none]⟩) (zfs := zfShareFetchRequestForgottenTopicsData) (dc := [.int .u8 0, .int .u8 0, .int .u8 0, .int .u8 0, .int .u8 0, .int .u8 0, .int .u8 0, .int .u8 0, .int .u8 0, .int .u8 0, .int .u8 0, .int .u8 0, .int .u8 0, .int .u8 0, .int .u8 0, .int .u8 0, .slice none 0 0, .map none]) defShareFetchRequestForgottenTopicsData (by kernel_rfl) (by kernel_rfl) rfl rfl rfl (by kernel_rfl)
def tysShareFetchRequest : List Ty := [.num .i16, .ntext, .ntext, .num .i32, .num .i32, .num .i32, .num .i32, .num .i32, .num .i32, .num .i8, .bool, .list (tysShareFetchRequestTopic), .list (tysShareFetchRequestForgottenTopicsData), .tags]
def lsShareFetchRequest : List Nat := [1, 1, 1, 1, 1, 1, 1, 1, 1, 1, 1, 1, 1, 1]
def zfShareFetchRequest : List FV := [.one (.int .i16 0), .ntext none, .ntext none, .one (.int .i32 0), .one (.int .i32 0), .one (.int .i32 0), .one (.int .i32 0), .one (.int .i32 0), .one (.int .i32 0), .one (.int .i8 0), .one (.bool false), .list true [], .list true [], .tags []]
def dfShareFetchRequest : List FV := [.one (.int .i16 0), .ntext none, .ntext none, .one (.int .i32 0), .one (.int .i32 0), .one (.int .i32 0), .one (.int .i32 2147483647), .one (.int .i32 0), .one (.int .i32 0), .one (.int .i8 0), .one (.bool false), .list true [], .list true [], .tags []]
def dsShareFetchRequest : List Dset := [.set 6 21 6 (.int .i32 2147483647)]
theorem dsokShareFetchRequest : DsetsOk P 99 lsShareFetchRequest dsShareFetchRequest := ⟨⟨⟨by kernel_rfl, rfl, rfl⟩, by kernel_rfl, rfl⟩, trivial⟩
theorem defShareFetchRequest : DefSets P 55 lsShareFetchRequest dsShareFetchRequest := default_gives rdF.mix (by kernel_rfl) dsokShareFetchRequest
theorem dokShareFetchRequest : DefOk P 55 99 dfShareFetchRequest := DefSets.ok (z := .agg ⟨[.int .i16 0, .pointer none, .pointer none, .int .i32 0, .int .i32 0, .int .i32 0, .int .i32 0, .int .i32 0, .int .i32 0, .int .i8 0, .bool false, .slice none 0 0, .slice none 0 0, .map none]⟩) (zfs := zfShareFetchRequest) (dc := [.int .i16 0, .pointer none, .pointer none, .int .i32 0, .int .i32 0, .int .i32 0, .int .i32 2147483647, .int .i32 0, .int .i32 0, .int .i8 0, .bool false, .slice none 0 0, .slice none 0 0, .map none]) defShareFetchRequest (by kernel_rfl) (by kernel_rfl) rfl rfl rfl (by kernel_rfl)
end Go.Proofs.YtecjdkhklbcebadGreatDoor
