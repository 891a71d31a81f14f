/- DeleteRecordsRequest: its fields, how it is read and told. -/
import Derived.Test.YtmficcifapfkdacGreatDoorParts
namespace Go.Proofs.YtmficcifapfkdacGreatDoor
open Go Go.Kf

def tysDeleteRecordsRequestTopicPartition : List Ty := [.num .i32, .num .i64, .tags]
def lsDeleteRecordsRequestTopicPartition : List Nat := [1, 1, 1]
def zfDeleteRecordsRequestTopicPartition : List FV := [.one (.int .i32 0), .one (.int .i64 0), .tags []]
def dfDeleteRecordsRequestTopicPartition : List FV := [.one (.int .i32 0), .one (.int .i64 0), .tags []]
def dsDeleteRecordsRequestTopicPartition : List Dset := []
theorem dsokDeleteRecordsRequestTopicPartition : DsetsOk P 80 lsDeleteRecordsRequestTopicPartition dsDeleteRecordsRequestTopicPartition := trivial
theorem defDeleteRecordsRequestTopicPartition : DefSets P 55 lsDeleteRecordsRequestTopicPartition dsDeleteRecordsRequestTopicPartition := default_gives rdF.mix (by kernel_rfl) dsokDeleteRecordsRequestTopicPartition
theorem dokDeleteRecordsRequestTopicPartition : DefOk P 55 80 dfDeleteRecordsRequestTopicPartition := DefSets.ok (z := .agg ⟨[.int .i32 0, .int .i64 0, .map none]⟩) (zfs := zfDeleteRecordsRequestTopicPartition) (dc := [.int .i32 0, .int .i64 0, .map none]) defDeleteRecordsRequestTopicPartition (by kernel_rfl) (by kernel_rfl) rfl rfl rfl (by kernel_rfl)
def tysDeleteRecordsRequestTopic : List Ty := [.text, .list (tysDeleteRecordsRequestTopicPartition), .tags]
def lsDeleteRecordsRequestTopic : List Nat := [1, 1, 1]
def zfDeleteRecordsRequestTopic : List FV := [.text [], .list true [], .tags []]
def dfDeleteRecordsRequestTopic : List FV := [.text [], .list true [], .tags []]
def dsDeleteRecordsRequestTopic : List Dset := []
theorem dsokDeleteRecordsRequestTopic : DsetsOk P 76 lsDeleteRecordsRequestTopic dsDeleteRecordsRequestTopic := trivial
theorem defDeleteRecordsRequestTopic : DefSets P 50 lsDeleteRecordsRequestTopic dsDeleteRecordsRequestTopic := default_gives rdF.mix (by kernel_rfl) dsokDeleteRecordsRequestTopic
theorem dokDeleteRecordsRequestTopic : DefOk P 50 76 dfDeleteRecordsRequestTopic := DefSets.ok (z := .agg ⟨[.string (strOf []), .slice none 0 0, .map none]⟩) (zfs := zfDeleteRecordsRequestTopic) (dc := [.string (strOf []), .slice none 0 0, .map none]) defDeleteRecordsRequestTopic (by kernel_rfl) (by kernel_rfl) rfl rfl rfl (by kernel_rfl)
def tysDeleteRecordsRequest : List Ty := [.num .i16, .list (tysDeleteRecordsRequestTopic), .num .i32, .tags]
def lsDeleteRecordsRequest : List Nat := [1, 1, 1, 1]
def zfDeleteRecordsRequest : List FV := [.one (.int .i16 0), .list true [], .one (.int .i32 0), .tags []]
def dfDeleteRecordsRequest : List FV := [.one (.int .i16 0), .list true [], .one (.int .i32 15000), .tags []]
def dsDeleteRecordsRequest : List Dset := [.set 2 21 2 (.int .i32 15000)]
theorem dsokDeleteRecordsRequest : DsetsOk P 62 lsDeleteRecordsRequest dsDeleteRecordsRequest := ⟨⟨⟨by kernel_rfl, rfl, rfl⟩, by kernel_rfl, rfl⟩, trivial⟩
theorem defDeleteRecordsRequest : DefSets P 20 lsDeleteRecordsRequest dsDeleteRecordsRequest := default_gives rdF.mix (by kernel_rfl) dsokDeleteRecordsRequest
theorem dokDeleteRecordsRequest : DefOk P 20 62 dfDeleteRecordsRequest := DefSets.ok (z := .agg ⟨[.int .i16 0, .slice none 0 0, .int .i32 0, .map none]⟩) (zfs := zfDeleteRecordsRequest) (dc := [.int .i16 0, .slice none 0 0, .int .i32 15000, .map none]) defDeleteRecordsRequest (by kernel_rfl) (by kernel_rfl) rfl rfl rfl (by kernel_rfl)
end Go.Proofs.YtmficcifapfkdacGreatDoor
