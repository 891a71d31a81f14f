/- JoinGroupRequest: its fields, how it is read and told. -/
import Derived.Test.YtcinbiokghpilabGreatDoorParts
namespace Go.Proofs.YtcinbiokghpilabGreatDoor
open Go Go.Kf

def tysJoinGroupRequestProtocol : List Ty := [.text, .octs, .tags]
def lsJoinGroupRequestProtocol : List Nat := [1, 1, 1]
def zfJoinGroupRequestProtocol : List FV := [.text [], .octs true [], .tags []]
def dfJoinGroupRequestProtocol : List FV := [.text [], .octs true [], .tags []]
def dsJoinGroupRequestProtocol : List Dset := []
theorem dsokJoinGroupRequestProtocol : DsetsOk P 89 lsJoinGroupRequestProtocol dsJoinGroupRequestProtocol := trivial
theorem defJoinGroupRequestProtocol : DefSets P 88 lsJoinGroupRequestProtocol dsJoinGroupRequestProtocol := default_gives rdF.mix (by kernel_rfl) dsokJoinGroupRequestProtocol
theorem dokJoinGroupRequestProtocol : DefOk P 88 89 dfJoinGroupRequestProtocol := DefSets.ok (z := .agg ⟨[.string (strOf []), .slice none 0 0, .map none]⟩) (zfs := zfJoinGroupRequestProtocol) (dc := [.string (strOf []), .slice none 0 0, .map none]) defJoinGroupRequestProtocol (by kernel_rfl) (by kernel_rfl) rfl rfl rfl (by kernel_rfl)
def tfsJoinGroupRequestProtocol : List (List FV → PT) := [fun fs => tellPrim (fvGet fs 0), fun fs => tellPrim (fvGet fs 1)]
def tssJoinGroupRequestProtocol : List TStep := [.text 0 0, .call 92 1 22 1]
theorem tsokJoinGroupRequestProtocol : StepsTell P N 89 tysJoinGroupRequestProtocol tssJoinGroupRequestProtocol tfsJoinGroupRequestProtocol 0 := ⟨told_text rdF tyZ tellF oneStr ⟨by kernel_rfl, rfl, rfl⟩, told_call tyZ ⟨by kernel_rfl, rfl, rfl⟩ (by kernel_rfl) cOcts, trivial⟩
def gpJoinGroupRequestProtocol (fs : List FV) : PT := .mk 0 [] false (tfsJoinGroupRequestProtocol.map (· fs)) (tellTags (fvGet fs 2))
theorem toldJoinGroupRequestProtocol : TellOf P 53 tysJoinGroupRequestProtocol gpJoinGroupRequestProtocol := told_tags (S := 89) (N := 2) (g := 93) (ss := tssJoinGroupRequestProtocol) rdF tyZ tellF (closure_gives rdF tyZ octF rowTg tagPlan (by kernel_rfl)) hEach hSorted (by kernel_rfl) rfl (by decide) tsokJoinGroupRequestProtocol ⟨by kernel_rfl, rfl, rfl⟩

def tysJoinGroupRequest : List Ty := [.num .i16, .text, .num .i32, .num .i32, .text, .ntext, .text, .list (tysJoinGroupRequestProtocol), .ntext, .tags]
def lsJoinGroupRequest : List Nat := [1, 1, 1, 1, 1, 1, 1, 1, 1, 1]
def zfJoinGroupRequest : List FV := [.one (.int .i16 0), .text [], .one (.int .i32 0), .one (.int .i32 0), .text [], .ntext none, .text [], .list true [], .ntext none, .tags []]
def dfJoinGroupRequest : List FV := [.one (.int .i16 0), .text [], .one (.int .i32 0), .one (.int .i32 (-1)), .text [], .ntext none, .text [], .list true [], .ntext none, .tags []]
def dsJoinGroupRequest : List Dset := [.set 3 21 3 (.int .i32 (-1))]
theorem dsokJoinGroupRequest : DsetsOk P 83 lsJoinGroupRequest dsJoinGroupRequest := ⟨⟨⟨by kernel_rfl, rfl, rfl⟩, by kernel_rfl, rfl⟩, trivial⟩
theorem defJoinGroupRequest : DefSets P 50 lsJoinGroupRequest dsJoinGroupRequest := default_gives rdF.mix (by kernel_rfl) dsokJoinGroupRequest
theorem dokJoinGroupRequest : DefOk P 50 83 dfJoinGroupRequest := DefSets.ok (z := .agg ⟨[.int .i16 0, .string (strOf []), .int .i32 0, .int .i32 0, .string (strOf []), .pointer none, .string (strOf []), .slice none 0 0, .pointer none, .map none]⟩) (zfs := zfJoinGroupRequest) (dc := [.int .i16 0, .string (strOf []), .int .i32 0, .int .i32 (-1), .string (strOf []), .pointer none, .string (strOf []), .slice none 0 0, .pointer none, .map none]) defJoinGroupRequest (by kernel_rfl) (by kernel_rfl) rfl rfl rfl (by kernel_rfl)
def tfsJoinGroupRequest : List (List FV → PT) := [fun fs => tellPrim (fvGet fs 1), fun fs => tellPrim (fvGet fs 2), fun fs => tellPrim (fvGet fs 3), fun fs => tellPrim (fvGet fs 4), fun fs => tellPrim (fvGet fs 5), fun fs => tellPrim (fvGet fs 6), fun fs => tellList gpJoinGroupRequestProtocol (fvGet fs 7), fun fs => tellPrim (fvGet fs 8)]
def tssJoinGroupRequest : List TStep := [.text 1 0, .num 2 21 1, .num 3 21 2, .text 4 3, .call 52 5 77 4, .text 6 5, .list 7 78 6 (.sub 53), .call 52 8 77 7]
theorem tsokJoinGroupRequest : StepsTell P N 83 tysJoinGroupRequest tssJoinGroupRequest tfsJoinGroupRequest 0 := ⟨told_text rdF tyZ tellF oneStr ⟨by kernel_rfl, rfl, rfl⟩, told_num tyZ tellF ⟨by kernel_rfl, rfl, rfl⟩ (by kernel_rfl) (by kernel_rfl) fits_i32, told_num tyZ tellF ⟨by kernel_rfl, rfl, rfl⟩ (by kernel_rfl) (by kernel_rfl) fits_i32, told_text rdF tyZ tellF oneStr ⟨by kernel_rfl, rfl, rfl⟩, told_call tyZ ⟨by kernel_rfl, rfl, rfl⟩ (by kernel_rfl) cText, told_text rdF tyZ tellF oneStr ⟨by kernel_rfl, rfl, rfl⟩, told_list (T := 89) rdF tyZ tellF ⟨by kernel_rfl, rfl, rfl⟩ (by kernel_rfl) (by kernel_rfl) (by kernel_rfl) rfl (el_sub toldJoinGroupRequestProtocol), told_call tyZ ⟨by kernel_rfl, rfl, rfl⟩ (by kernel_rfl) cText, trivial⟩
def gpJoinGroupRequest (fs : List FV) : PT := .mk 0 [] false (tfsJoinGroupRequest.map (· fs)) (tellTags (fvGet fs 9))
theorem toldJoinGroupRequest : TellOf P 27 tysJoinGroupRequest gpJoinGroupRequest := told_tags (S := 83) (N := 8) (g := 55) (ss := tssJoinGroupRequest) rdF tyZ tellF (closure_gives rdF tyZ octF rowTg tagPlan (by kernel_rfl)) hEach hSorted (by kernel_rfl) rfl (by decide) tsokJoinGroupRequest ⟨by kernel_rfl, rfl, rfl⟩

end Go.Proofs.YtcinbiokghpilabGreatDoor
