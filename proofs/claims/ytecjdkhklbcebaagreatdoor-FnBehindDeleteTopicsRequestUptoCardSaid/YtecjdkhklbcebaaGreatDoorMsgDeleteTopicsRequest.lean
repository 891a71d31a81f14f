/- DeleteTopicsRequest: its fields, how it is read and told. -/
import Derived.Test.YtecjdkhklbcebaaGreatDoorParts
namespace Go.Proofs.YtecjdkhklbcebaaGreatDoor
open Go Go.Kf

def tysDeleteTopicsRequestTopic : List Ty := [.ntext, .uuid, .tags]
def lsDeleteTopicsRequestTopic : List Nat := [1, 16, 1]
def zfDeleteTopicsRequestTopic : List FV := [.ntext none, .uuid (List.replicate 16 0), .tags []]
def dfDeleteTopicsRequestTopic : List FV := [.ntext none, .uuid (List.replicate 16 0), .tags []]
def dsDeleteTopicsRequestTopic : List Dset := []
theorem dsokDeleteTopicsRequestTopic : DsetsOk P 81 lsDeleteTopicsRequestTopic dsDeleteTopicsRequestTopic := trivial
theorem defDeleteTopicsRequestTopic : DefSets P 67 lsDeleteTopicsRequestTopic dsDeleteTopicsRequestTopic := default_gives rdF.mix (by kernel_rfl) dsokDeleteTopicsRequestTopic
theorem dokDeleteTopicsRequestTopic : DefOk P 67 81 dfDeleteTopicsRequestTopic := DefSets.ok (z := .agg ⟨[.pointer none, .int .u8 0, .int .u8 0, .int .u8 0, .int .u8 0, .int .u8 0, .int .u8 0, .int .u8 0, .int .u8 0, .int .u8 0, .int .u8 0, .int .u8 0, .int .u8 0, .int .u8 0, .int .u8 0, .int .u8 0, .int .u8 0, .map none]⟩) (zfs := zfDeleteTopicsRequestTopic) (dc := [.pointer none, .int .u8 0, .int .u8 0, .int .u8 0, .int .u8 0, .int .u8 0, .int .u8 0, .int .u8 0, .int .u8 0, .int .u8 0, .int .u8 0, .int .u8 0, .int .u8 0, .int .u8 0, .int .u8 0, .int .u8 0, .int .u8 0, .map none]) defDeleteTopicsRequestTopic (by kernel_rfl) (by kernel_rfl) rfl rfl rfl (by kernel_rfl)
def tysDeleteTopicsRequest : List Ty := [.num .i16, .list [.text], .list (tysDeleteTopicsRequestTopic), .num .i32, .tags]
def lsDeleteTopicsRequest : List Nat := [1, 1, 1, 1, 1]
def zfDeleteTopicsRequest : List FV := [.one (.int .i16 0), .list true [], .list true [], .one (.int .i32 0), .tags []]
def dfDeleteTopicsRequest : List FV := [.one (.int .i16 0), .list true [], .list true [], .one (.int .i32 15000), .tags []]
def dsDeleteTopicsRequest : List Dset := [.set 3 21 3 (.int .i32 15000)]
theorem dsokDeleteTopicsRequest : DsetsOk P 65 lsDeleteTopicsRequest dsDeleteTopicsRequest := ⟨⟨⟨by kernel_rfl, rfl, rfl⟩, by kernel_rfl, rfl⟩, trivial⟩
theorem defDeleteTopicsRequest : DefSets P 29 lsDeleteTopicsRequest dsDeleteTopicsRequest := default_gives rdF.mix (by kernel_rfl) dsokDeleteTopicsRequest
theorem dokDeleteTopicsRequest : DefOk P 29 65 dfDeleteTopicsRequest := DefSets.ok (z := .agg ⟨[.int .i16 0, .slice none 0 0, .slice none 0 0, .int .i32 0, .map none]⟩) (zfs := zfDeleteTopicsRequest) (dc := [.int .i16 0, .slice none 0 0, .slice none 0 0, .int .i32 15000, .map none]) defDeleteTopicsRequest (by kernel_rfl) (by kernel_rfl) rfl rfl rfl (by kernel_rfl)
end Go.Proofs.YtecjdkhklbcebaaGreatDoor
