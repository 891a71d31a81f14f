/- CreateDelegationTokenResponse: its fields, how it is read and told. -/
import Derived.Test.YtecjdkhklbcebabGreatDoorParts
namespace Go.Proofs.YtecjdkhklbcebabGreatDoor
open Go Go.Kf

def tysCreateDelegationTokenResponse : List Ty := [.num .i16, .num .i16, .text, .text, .text, .text, .num .i64, .num .i64, .num .i64, .text, .octs, .num .i32, .tags]
def lsCreateDelegationTokenResponse : List Nat := [1, 1, 1, 1, 1, 1, 1, 1, 1, 1, 1, 1, 1]
def zfCreateDelegationTokenResponse : List FV := [.one (.int .i16 0), .one (.int .i16 0), .text [], .text [], .text [], .text [], .one (.int .i64 0), .one (.int .i64 0), .one (.int .i64 0), .text [], .octs true [], .one (.int .i32 0), .tags []]
def dfCreateDelegationTokenResponse : List FV := [.one (.int .i16 0), .one (.int .i16 0), .text [], .text [], .text [], .text [], .one (.int .i64 0), .one (.int .i64 0), .one (.int .i64 0), .text [], .octs true [], .one (.int .i32 0), .tags []]
def dsCreateDelegationTokenResponse : List Dset := []
theorem dsokCreateDelegationTokenResponse : DsetsOk P 63 lsCreateDelegationTokenResponse dsCreateDelegationTokenResponse := trivial
theorem defCreateDelegationTokenResponse : DefSets P 29 lsCreateDelegationTokenResponse dsCreateDelegationTokenResponse := default_gives rdF.mix (by kernel_rfl) dsokCreateDelegationTokenResponse
theorem dokCreateDelegationTokenResponse : DefOk P 29 63 dfCreateDelegationTokenResponse := DefSets.ok (z := .agg ⟨[.int .i16 0, .int .i16 0, .string (strOf []), .string (strOf []), .string (strOf []), .string (strOf []), .int .i64 0, .int .i64 0, .int .i64 0, .string (strOf []), .slice none 0 0, .int .i32 0, .map none]⟩) (zfs := zfCreateDelegationTokenResponse) (dc := [.int .i16 0, .int .i16 0, .string (strOf []), .string (strOf []), .string (strOf []), .string (strOf []), .int .i64 0, .int .i64 0, .int .i64 0, .string (strOf []), .slice none 0 0, .int .i32 0, .map none]) defCreateDelegationTokenResponse (by kernel_rfl) (by kernel_rfl) rfl rfl rfl (by kernel_rfl)
end Go.Proofs.YtecjdkhklbcebabGreatDoor
