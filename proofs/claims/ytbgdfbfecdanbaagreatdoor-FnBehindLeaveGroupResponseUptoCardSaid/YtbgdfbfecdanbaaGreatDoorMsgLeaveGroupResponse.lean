/- LeaveGroupResponse: its fields, how it is read and told. -/
import Derived.Test.YtbgdfbfecdanbaaGreatDoorParts
namespace Go.Proofs.YtbgdfbfecdanbaaGreatDoor
open Go Go.Kf

def tysLeaveGroupResponseMember : List Ty := [.text, .ntext, .num .i16, .tags]
def lsLeaveGroupResponseMember : List Nat := [1, 1, 1, 1]
def zfLeaveGroupResponseMember : List FV := [.text [], .ntext none, .one (.int .i16 0), .tags []]
def dfLeaveGroupResponseMember : List FV := [.text [], .ntext none, .one (.int .i16 0), .tags []]
def dsLeaveGroupResponseMember : List Dset := []
theorem dsokLeaveGroupResponseMember : DsetsOk P 80 lsLeaveGroupResponseMember dsLeaveGroupResponseMember := trivial
theorem defLeaveGroupResponseMember : DefSets P 66 lsLeaveGroupResponseMember dsLeaveGroupResponseMember := default_gives rdF.mix (by kernel_rfl) dsokLeaveGroupResponseMember
theorem dokLeaveGroupResponseMember : DefOk P 66 80 dfLeaveGroupResponseMember := DefSets.ok (z := .agg ⟨[.string (strOf []), .pointer none, .int .i16 0, .map none]⟩) (zfs := zfLeaveGroupResponseMember) (dc := [.string (strOf []), .pointer none, .int .i16 0, .map none]) defLeaveGroupResponseMember (by kernel_rfl) (by kernel_rfl) rfl rfl rfl (by kernel_rfl)
def tysLeaveGroupResponse : List Ty := [.num .i16, .num .i32, .num .i16, .list (tysLeaveGroupResponseMember), .tags]
def lsLeaveGroupResponse : List Nat := [1, 1, 1, 1, 1]
def zfLeaveGroupResponse : List FV := [.one (.int .i16 0), .one (.int .i32 0), .one (.int .i16 0), .list true [], .tags []]
def dfLeaveGroupResponse : List FV := [.one (.int .i16 0), .one (.int .i32 0), .one (.int .i16 0), .list true [], .tags []]
def dsLeaveGroupResponse : List Dset := []
theorem dsokLeaveGroupResponse : DsetsOk P 64 lsLeaveGroupResponse dsLeaveGroupResponse := trivial
theorem defLeaveGroupResponse : DefSets P 30 lsLeaveGroupResponse dsLeaveGroupResponse := default_gives rdF.mix (by kernel_rfl) dsokLeaveGroupResponse
theorem dokLeaveGroupResponse : DefOk P 30 64 dfLeaveGroupResponse := DefSets.ok (z := .agg ⟨[.int .i16 0, .int .i32 0, .int .i16 0, .slice none 0 0, .map none]⟩) (zfs := zfLeaveGroupResponse) (dc := [.int .i16 0, .int .i32 0, .int .i16 0, .slice none 0 0, .map none]) defLeaveGroupResponse (by kernel_rfl) (by kernel_rfl) rfl rfl rfl (by kernel_rfl)
end Go.Proofs.YtbgdfbfecdanbaaGreatDoor
