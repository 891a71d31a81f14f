/- ListOffsetsResponse: its fields, how it is read and told. -/
import Derived.Test.YtecjdkhklbcebabGreatDoorParts
namespace Go.Proofs.YtecjdkhklbcebabGreatDoor
open Go Go.Kf

def tysListOffsetsResponseTopicPartition : List Ty := [.num .i32, .num .i16, .list [.num .i64], .num .i64, .num .i64, .num .i32, .tags]
def lsListOffsetsResponseTopicPartition : List Nat := [1, 1, 1, 1, 1, 1, 1]
def zfListOffsetsResponseTopicPartition : List FV := [.one (.int .i32 0), .one (.int .i16 0), .list true [], .one (.int .i64 0), .one (.int .i64 0), .one (.int .i32 0), .tags []]
def dfListOffsetsResponseTopicPartition : List FV := [.one (.int .i32 0), .one (.int .i16 0), .list true [], .one (.int .i64 (-1)), .one (.int .i64 (-1)), .one (.int .i32 (-1)), .tags []]
def dsListOffsetsResponseTopicPartition : List Dset := [.set 3 2 3 (.int .i64 (-1)), .set 4 2 4 (.int .i64 (-1)), .set 5 21 5 (.int .i32 (-1))]
theorem dsokListOffsetsResponseTopicPartition : DsetsOk P 90 lsListOffsetsResponseTopicPartition dsListOffsetsResponseTopicPartition := ⟨⟨⟨by kernel_rfl, rfl, rfl⟩, by kernel_rfl, rfl⟩, ⟨⟨by kernel_rfl, rfl, rfl⟩, by kernel_rfl, rfl⟩, ⟨⟨by kernel_rfl, rfl, rfl⟩, by kernel_rfl, rfl⟩, trivial⟩
theorem defListOffsetsResponseTopicPartition : DefSets P 81 lsListOffsetsResponseTopicPartition dsListOffsetsResponseTopicPartition := default_gives rdF.mix (by kernel_rfl) dsokListOffsetsResponseTopicPartition
theorem dokListOffsetsResponseTopicPartition : DefOk P 81 90 dfListOffsetsResponseTopicPartition := DefSets.ok (z := .agg ⟨[.int .i32 0, .int .i16 0, .slice none 0 0, .int .i64 0, .int .i64 0, .int .i32 0, .map none]⟩) (zfs := zfListOffsetsResponseTopicPartition) (dc := [.int .i32 0, .int .i16 0, .slice none 0 0, .int .i64 (-1), .int .i64 (-1), .int .i32 (-1), .map none]) defListOffsetsResponseTopicPartition (by kernel_rfl) (by kernel_rfl) rfl rfl rfl (by kernel_rfl)
def tysListOffsetsResponseTopic : List Ty := [.text, .list (tysListOffsetsResponseTopicPartition), .tags]
def lsListOffsetsResponseTopic : List Nat := [1, 1, 1]
def zfListOffsetsResponseTopic : List FV := [.text [], .list true [], .tags []]
def dfListOffsetsResponseTopic : List FV := [.text [], .list true [], .tags []]
def dsListOffsetsResponseTopic : List Dset := []
theorem dsokListOffsetsResponseTopic : DsetsOk P 86 lsListOffsetsResponseTopic dsListOffsetsResponseTopic := trivial
theorem defListOffsetsResponseTopic : DefSets P 80 lsListOffsetsResponseTopic dsListOffsetsResponseTopic := default_gives rdF.mix (by kernel_rfl) dsokListOffsetsResponseTopic
theorem dokListOffsetsResponseTopic : DefOk P 80 86 dfListOffsetsResponseTopic := DefSets.ok (z := .agg ⟨[.string (strOf []), .slice none 0 0, .map none]⟩) (zfs := zfListOffsetsResponseTopic) (dc := [.string (strOf []), .slice none 0 0, .map none]) defListOffsetsResponseTopic (by kernel_rfl) (by kernel_rfl) rfl rfl rfl (by kernel_rfl)
def tysListOffsetsResponse : List Ty := [.num .i16, .num .i32, .list (tysListOffsetsResponseTopic), .tags]
def lsListOffsetsResponse : List Nat := [1, 1, 1, 1]
def zfListOffsetsResponse : List FV := [.one (.int .i16 0), .one (.int .i32 0), .list true [], .tags []]
def dfListOffsetsResponse : List FV := [.one (.int .i16 0), .one (.int .i32 0), .list true [], .tags []]
def dsListOffsetsResponse : List Dset := []
theorem dsokListOffsetsResponse : DsetsOk P 81 lsListOffsetsResponse dsListOffsetsResponse := trivial
theorem defListOffsetsResponse : DefSets P 49 lsListOffsetsResponse dsListOffsetsResponse := default_gives rdF.mix (by kernel_rfl) dsokListOffsetsResponse
theorem dokListOffsetsResponse : DefOk P 49 81 dfListOffsetsResponse := DefSets.ok (z := .agg ⟨[.int .i16 0, .int .i32 0, .slice none 0 0, .map none]⟩) (zfs := zfListOffsetsResponse) (dc := [.int .i16 0, .int .i32 0, .slice none 0 0, .map none]) defListOffsetsResponse (by kernel_rfl) (by kernel_rfl) rfl rfl rfl (by kernel_rfl)
end Go.Proofs.YtecjdkhklbcebabGreatDoor
