/- ListTransactionsRequest: its fields, how it is read and told. -/
import Derived.Test.YtecjdkhklbcebaaGreatDoorParts
namespace Go.Proofs.YtecjdkhklbcebaaGreatDoor
open Go Go.Kf

def tysListTransactionsRequest : List Ty := [.num .i16, .list [.text], .list [.num .i64], .num .i64, .ntext, .tags]
def lsListTransactionsRequest : List Nat := [1, 1, 1, 1, 1, 1]
def zfListTransactionsRequest : List FV := [.one (.int .i16 0), .list true [], .list true [], .one (.int .i64 0), .ntext none, .tags []]
def dfListTransactionsRequest : List FV := [.one (.int .i16 0), .list true [], .list true [], .one (.int .i64 (-1)), .ntext none, .tags []]
def dsListTransactionsRequest : List Dset := [.set 3 2 3 (.int .i64 (-1))]
theorem dsokListTransactionsRequest : DsetsOk P 88 lsListTransactionsRequest dsListTransactionsRequest := ⟨⟨⟨by kernel_rfl, rfl, rfl⟩, by kernel_rfl, rfl⟩, trivial⟩
theorem defListTransactionsRequest : DefSets P 50 lsListTransactionsRequest dsListTransactionsRequest := default_gives rdF.mix (by kernel_rfl) dsokListTransactionsRequest
theorem dokListTransactionsRequest : DefOk P 50 88 dfListTransactionsRequest := DefSets.ok (z := .agg ⟨[.int .i16 0, .slice none 0 0, .slice none 0 0, .int .i64 0, .pointer none, .map none]⟩) (zfs := zfListTransactionsRequest) (dc := [.int .i16 0, .slice none 0 0, .slice none 0 0, .int .i64 (-1), .pointer none, .map none]) defListTransactionsRequest (by kernel_rfl) (by kernel_rfl) rfl rfl rfl (by kernel_rfl)
end Go.Proofs.YtecjdkhklbcebaaGreatDoor
