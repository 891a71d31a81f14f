/- ListGroupsRequest: its fields, how it is read and told. -/
import Derived.Test.YteeamkddgccpeaaGreatDoorParts
namespace Go.Proofs.YteeamkddgccpeaaGreatDoor
open Go Go.Kf

def tysListGroupsRequest : List Ty := [.num .i16, .list [.text], .list [.text], .tags]
def lsListGroupsRequest : List Nat := [1, 1, 1, 1]
def zfListGroupsRequest : List FV := [.one (.int .i16 0), .list true [], .list true [], .tags []]
def dfListGroupsRequest : List FV := [.one (.int .i16 0), .list true [], .list true [], .tags []]
def dsListGroupsRequest : List Dset := []
theorem dsokListGroupsRequest : DsetsOk P 67 lsListGroupsRequest dsListGroupsRequest := trivial
theorem defListGroupsRequest : DefSets P 23 lsListGroupsRequest dsListGroupsRequest := default_gives rdF.mix (by kernel_rfl) dsokListGroupsRequest
theorem dokListGroupsRequest : DefOk P 23 67 dfListGroupsRequest := DefSets.ok (z := .agg ⟨[.int .i16 0, .slice none 0 0, .slice none 0 0, .map none]⟩) (zfs := zfListGroupsRequest) (dc := [.int .i16 0, .slice none 0 0, .slice none 0 0, .map none]) defListGroupsRequest (by kernel_rfl) (by kernel_rfl) rfl rfl rfl (by kernel_rfl)
end Go.Proofs.YteeamkddgccpeaaGreatDoor
