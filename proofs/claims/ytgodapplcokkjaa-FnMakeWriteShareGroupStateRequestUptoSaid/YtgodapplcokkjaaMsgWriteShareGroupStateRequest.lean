/- WriteShareGroupStateRequest: its fields, how it is read and told. -/
import Derived.Test.YtgodapplcokkjaaParts
namespace Go.Proofs.Ytgodapplcokkjaa
open Go Go.Kf

def tysWriteShareGroupStateRequestTopicPartitionStateBatch : List Ty := [.num .i64, .num .i64, .num .i8, .num .i16, .tags]
def lsWriteShareGroupStateRequestTopicPartitionStateBatch : List Nat := [1, 1, 1, 1, 1]
def zfWriteShareGroupStateRequestTopicPartitionStateBatch : List FV := [.one (.int .i64 0), .one (.int .i64 0), .one (.int .i8 0), .one (.int .i16 0), .tags []]
def tysWriteShareGroupStateRequestTopicPartition : List Ty := [.num .i32, .num .i32, .num .i32, .num .i64, .num .i32, .list (tysWriteShareGroupStateRequestTopicPartitionStateBatch), .tags]
def lsWriteShareGroupStateRequestTopicPartition : List Nat := [1, 1, 1, 1, 1, 1, 1]
def zfWriteShareGroupStateRequestTopicPartition : List FV := [.one (.int .i32 0), .one (.int .i32 0), .one (.int .i32 0), .one (.int .i64 0), .one (.int .i32 0), .list true [], .tags []]
def tysWriteShareGroupStateRequestTopic : List Ty := [.uuid, .list (tysWriteShareGroupStateRequestTopicPartition), .tags]
def lsWriteShareGroupStateRequestTopic : List Nat := [16, 1, 1]
def zfWriteShareGroupStateRequestTopic : List FV := [.uuid (List.replicate 16 0), .list true [], .tags []]
def tysWriteShareGroupStateRequest : List Ty := [.num .i16, .text, .list (tysWriteShareGroupStateRequestTopic), .tags]
def lsWriteShareGroupStateRequest : List Nat := [1, 1, 1, 1]
def zfWriteShareGroupStateRequest : List FV := [.one (.int .i16 0), .text [], .list true [], .tags []]
def dfWriteShareGroupStateRequest : List FV := [.one (.int .i16 0), .text [], .list true [], .tags []]
def dsWriteShareGroupStateRequest : List Dset := []
theorem dsokWriteShareGroupStateRequest : DsetsOk P 57 lsWriteShareGroupStateRequest dsWriteShareGroupStateRequest := trivial
theorem defWriteShareGroupStateRequest : DefSets P 26 lsWriteShareGroupStateRequest dsWriteShareGroupStateRequest := default_gives rdF.mix (by kernel_rfl) dsokWriteShareGroupStateRequest
theorem dokWriteShareGroupStateRequest : DefOk P 26 57 dfWriteShareGroupStateRequest := DefSets.ok (z := .agg ⟨[.int .i16 0, .string (strOf []), .slice none 0 0, .map none]⟩) (zfs := zfWriteShareGroupStateRequest) (dc := [.int .i16 0, .string (strOf []), .slice none 0 0, .map none]) defWriteShareGroupStateRequest (by kernel_rfl) (by kernel_rfl) rfl rfl rfl (by kernel_rfl)
end Go.Proofs.Ytgodapplcokkjaa
