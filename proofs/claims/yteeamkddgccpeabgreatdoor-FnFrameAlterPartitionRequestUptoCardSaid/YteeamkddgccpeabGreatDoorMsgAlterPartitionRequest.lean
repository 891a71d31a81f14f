/- AlterPartitionRequest: its fields, how it is read and told. -/
import Derived.Test.YteeamkddgccpeabGreatDoorParts
namespace Go.Proofs.YteeamkddgccpeabGreatDoor
open Go Go.Kf

def tysAlterPartitionRequestTopicPartitionNewEpochISR : List Ty := [.num .i32, .num .i64, .tags]
def lsAlterPartitionRequestTopicPartitionNewEpochISR : List Nat := [1, 1, 1]
def zfAlterPartitionRequestTopicPartitionNewEpochISR : List FV := [.one (.int .i32 0), .one (.int .i64 0), .tags []]
def dfAlterPartitionRequestTopicPartitionNewEpochISR : List FV := [.one (.int .i32 0), .one (.int .i64 (-1)), .tags []]
def dsAlterPartitionRequestTopicPartitionNewEpochISR : List Dset := [.set 1 2 1 (.int .i64 (-1))]
theorem dsokAlterPartitionRequestTopicPartitionNewEpochISR : DsetsOk P 113 lsAlterPartitionRequestTopicPartitionNewEpochISR dsAlterPartitionRequestTopicPartitionNewEpochISR := ⟨⟨⟨by kernel_rfl, rfl, rfl⟩, by kernel_rfl, rfl⟩, trivial⟩
theorem defAlterPartitionRequestTopicPartitionNewEpochISR : DefSets P 57 lsAlterPartitionRequestTopicPartitionNewEpochISR dsAlterPartitionRequestTopicPartitionNewEpochISR := default_gives rdF.mix (by kernel_rfl) dsokAlterPartitionRequestTopicPartitionNewEpochISR
theorem dokAlterPartitionRequestTopicPartitionNewEpochISR : DefOk P 57 113 dfAlterPartitionRequestTopicPartitionNewEpochISR := DefSets.ok (z := .agg ⟨[.int .i32 0, .int .i64 0, .map none]⟩) (zfs := zfAlterPartitionRequestTopicPartitionNewEpochISR) (dc := [.int .i32 0, .int .i64 (-1), .map none]) defAlterPartitionRequestTopicPartitionNewEpochISR (by kernel_rfl) (by kernel_rfl) rfl rfl rfl (by kernel_rfl)
def tysAlterPartitionRequestTopicPartition : List Ty := [.num .i32, .num .i32, .list [.num .i32], .list (tysAlterPartitionRequestTopicPartitionNewEpochISR), .num .i8, .num .i32, .tags]
def lsAlterPartitionRequestTopicPartition : List Nat := [1, 1, 1, 1, 1, 1, 1]
def zfAlterPartitionRequestTopicPartition : List FV := [.one (.int .i32 0), .one (.int .i32 0), .list true [], .list true [], .one (.int .i8 0), .one (.int .i32 0), .tags []]
def dfAlterPartitionRequestTopicPartition : List FV := [.one (.int .i32 0), .one (.int .i32 0), .list true [], .list true [], .one (.int .i8 0), .one (.int .i32 0), .tags []]
def dsAlterPartitionRequestTopicPartition : List Dset := []
theorem dsokAlterPartitionRequestTopicPartition : DsetsOk P 110 lsAlterPartitionRequestTopicPartition dsAlterPartitionRequestTopicPartition := trivial
theorem defAlterPartitionRequestTopicPartition : DefSets P 56 lsAlterPartitionRequestTopicPartition dsAlterPartitionRequestTopicPartition := default_gives rdF.mix (by kernel_rfl) dsokAlterPartitionRequestTopicPartition
theorem dokAlterPartitionRequestTopicPartition : DefOk P 56 110 dfAlterPartitionRequestTopicPartition := DefSets.ok (z := .agg ⟨[.int .i32 0, .int .i32 0, .slice none 0 0, .slice none 0 0, .int .i8 0, .int .i32 0, .map none]⟩) (zfs := zfAlterPartitionRequestTopicPartition) (dc := [.int .i32 0, .int .i32 0, .slice none 0 0, .slice none 0 0, .int .i8 0, .int .i32 0, .map none]) defAlterPartitionRequestTopicPartition (by kernel_rfl) (by kernel_rfl) rfl rfl rfl (by kernel_rfl)
def tysAlterPartitionRequestTopic : List Ty := [.text, .uuid, .list (tysAlterPartitionRequestTopicPartition), .tags]
def lsAlterPartitionRequestTopic : List Nat := [1, 16, 1, 1]
def zfAlterPartitionRequestTopic : List FV := [.text [], .uuid (List.replicate 16 0), .list true [], .tags []]
def dfAlterPartitionRequestTopic : List FV := [.text [], .uuid (List.replicate 16 0), .list true [], .tags []]
def dsAlterPartitionRequestTopic : List Dset := []
theorem dsokAlterPartitionRequestTopic : DsetsOk P 102 lsAlterPartitionRequestTopic dsAlterPartitionRequestTopic := trivial
theorem defAlterPartitionRequestTopic : DefSets P 50 lsAlterPartitionRequestTopic dsAlterPartitionRequestTopic := default_gives rdF.mix (by kernel_rfl) dsokAlterPartitionRequestTopic
theorem dokAlterPartitionRequestTopic : DefOk P 50 102 dfAlterPartitionRequestTopic := DefSets.ok (z := .agg ⟨[.string (strOf []), .int .u8 0, .int .u8 0, .int .u8 0, .int .u8 0, .int .u8 0, .int .u8 0, .int .u8 0, .int .u8 0, .int .u8 0, .int .u8 0, .int .u8 0, .int .u8 0, .int .u8 0, .int .u8 0, .int .u8 0, .int .u8 0, .slice none 0 0, .map none]⟩) (zfs := zfAlterPartitionRequestTopic) (dc := [.string (strOf []), .int .u8 0, .int .u8 0, .int .u8 0, .int .u8 0, .int .u8 0, .int .u8 0, .int .u8 0, .int .u8 0, .int .u8 0, .int .u8 0, .int .u8 0, .int .u8 0, .int .u8 0, .int .u8 0, .int .u8 0, .int .u8 0, .slice none 0 0, .map none]) defAlterPartitionRequestTopic (by kernel_rfl) (by kernel_rfl) rfl rfl rfl (by kernel_rfl)
def tysAlterPartitionRequest : List Ty := [.num .i16, .num .i32, .num .i64, .list (tysAlterPartitionRequestTopic), .tags]
def lsAlterPartitionRequest : List Nat := [1, 1, 1, 1, 1]
def zfAlterPartitionRequest : List FV := [.one (.int .i16 0), .one (.int .i32 0), .one (.int .i64 0), .list true [], .tags []]
def dfAlterPartitionRequest : List FV := [.one (.int .i16 0), .one (.int .i32 0), .one (.int .i64 (-1)), .list true [], .tags []]
def dsAlterPartitionRequest : List Dset := [.set 2 2 2 (.int .i64 (-1))]
theorem dsokAlterPartitionRequest : DsetsOk P 68 lsAlterPartitionRequest dsAlterPartitionRequest := ⟨⟨⟨by kernel_rfl, rfl, rfl⟩, by kernel_rfl, rfl⟩, trivial⟩
theorem defAlterPartitionRequest : DefSets P 24 lsAlterPartitionRequest dsAlterPartitionRequest := default_gives rdF.mix (by kernel_rfl) dsokAlterPartitionRequest
theorem dokAlterPartitionRequest : DefOk P 24 68 dfAlterPartitionRequest := DefSets.ok (z := .agg ⟨[.int .i16 0, .int .i32 0, .int .i64 0, .slice none 0 0, .map none]⟩) (zfs := zfAlterPartitionRequest) (dc := [.int .i16 0, .int .i32 0, .int .i64 (-1), .slice none 0 0, .map none]) defAlterPartitionRequest (by kernel_rfl) (by kernel_rfl) rfl rfl rfl (by kernel_rfl)
end Go.Proofs.YteeamkddgccpeabGreatDoor
