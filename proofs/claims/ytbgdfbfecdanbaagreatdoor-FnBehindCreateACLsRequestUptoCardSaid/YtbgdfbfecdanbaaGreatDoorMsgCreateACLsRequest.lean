/- CreateACLsRequest: its fields, how it is read and told. -/
import Derived.Test.YtbgdfbfecdanbaaGreatDoorParts
namespace Go.Proofs.YtbgdfbfecdanbaaGreatDoor
open Go Go.Kf

def tysCreateACLsRequestCreation : List Ty := [.num .i8, .text, .num .i8, .text, .text, .num .i8, .num .i8, .tags]
def lsCreateACLsRequestCreation : List Nat := [1, 1, 1, 1, 1, 1, 1, 1]
def zfCreateACLsRequestCreation : List FV := [.one (.int .i8 0), .text [], .one (.int .i8 0), .text [], .text [], .one (.int .i8 0), .one (.int .i8 0), .tags []]
def dfCreateACLsRequestCreation : List FV := [.one (.int .i8 0), .text [], .one (.int .i8 3), .text [], .text [], .one (.int .i8 0), .one (.int .i8 0), .tags []]
def dsCreateACLsRequestCreation : List Dset := [.set 2 90 2 (.int .i8 3)]
theorem dsokCreateACLsRequestCreation : DsetsOk P 94 lsCreateACLsRequestCreation dsCreateACLsRequestCreation := ⟨⟨⟨by kernel_rfl, rfl, rfl⟩, by kernel_rfl, rfl⟩, trivial⟩
theorem defCreateACLsRequestCreation : DefSets P 81 lsCreateACLsRequestCreation dsCreateACLsRequestCreation := default_gives rdF.mix (by kernel_rfl) dsokCreateACLsRequestCreation
theorem dokCreateACLsRequestCreation : DefOk P 81 94 dfCreateACLsRequestCreation := DefSets.ok (z := .agg ⟨[.int .i8 0, .string (strOf []), .int .i8 0, .string (strOf []), .string (strOf []), .int .i8 0, .int .i8 0, .map none]⟩) (zfs := zfCreateACLsRequestCreation) (dc := [.int .i8 0, .string (strOf []), .int .i8 3, .string (strOf []), .string (strOf []), .int .i8 0, .int .i8 0, .map none]) defCreateACLsRequestCreation (by kernel_rfl) (by kernel_rfl) rfl rfl rfl (by kernel_rfl)
def tysCreateACLsRequest : List Ty := [.num .i16, .list (tysCreateACLsRequestCreation), .tags]
def lsCreateACLsRequest : List Nat := [1, 1, 1]
def zfCreateACLsRequest : List FV := [.one (.int .i16 0), .list true [], .tags []]
def dfCreateACLsRequest : List FV := [.one (.int .i16 0), .list true [], .tags []]
def dsCreateACLsRequest : List Dset := []
theorem dsokCreateACLsRequest : DsetsOk P 86 lsCreateACLsRequest dsCreateACLsRequest := trivial
theorem defCreateACLsRequest : DefSets P 51 lsCreateACLsRequest dsCreateACLsRequest := default_gives rdF.mix (by kernel_rfl) dsokCreateACLsRequest
theorem dokCreateACLsRequest : DefOk P 51 86 dfCreateACLsRequest := DefSets.ok (z := .agg ⟨[.int .i16 0, .slice none 0 0, .map none]⟩) (zfs := zfCreateACLsRequest) (dc := [.int .i16 0, .slice none 0 0, .map none]) defCreateACLsRequest (by kernel_rfl) (by kernel_rfl) rfl rfl rfl (by kernel_rfl)
end Go.Proofs.YtbgdfbfecdanbaaGreatDoor
