/- DeleteACLsResponse: its fields, how it is read and told. -/
import Derived.Test.YtpcgbjddoodeiaaDoorParts
namespace Go.Proofs.YtpcgbjddoodeiaaDoor
open Go Go.Kf

def tysDeleteACLsResponseResultMatchingACL : List Ty := [.num .i16, .ntext, .num .i8, .text, .num .i8, .text, .text, .num .i8, .num .i8, .tags]
def lsDeleteACLsResponseResultMatchingACL : List Nat := [1, 1, 1, 1, 1, 1, 1, 1, 1, 1]
def zfDeleteACLsResponseResultMatchingACL : List FV := [.one (.int .i16 0), .ntext none, .one (.int .i8 0), .text [], .one (.int .i8 0), .text [], .text [], .one (.int .i8 0), .one (.int .i8 0), .tags []]
def dfDeleteACLsResponseResultMatchingACL : List FV := [.one (.int .i16 0), .ntext none, .one (.int .i8 0), .text [], .one (.int .i8 3), .text [], .text [], .one (.int .i8 0), .one (.int .i8 0), .tags []]
def dsDeleteACLsResponseResultMatchingACL : List Dset := [.set 4 119 4 (.int .i8 3)]
theorem dsokDeleteACLsResponseResultMatchingACL : DsetsOk P 123 lsDeleteACLsResponseResultMatchingACL dsDeleteACLsResponseResultMatchingACL := ⟨⟨⟨by kernel_rfl, rfl, rfl⟩, by kernel_rfl, rfl⟩, trivial⟩
theorem defDeleteACLsResponseResultMatchingACL : DefSets P 78 lsDeleteACLsResponseResultMatchingACL dsDeleteACLsResponseResultMatchingACL := default_gives rdF.mix (by kernel_rfl) dsokDeleteACLsResponseResultMatchingACL
theorem dokDeleteACLsResponseResultMatchingACL : DefOk P 78 123 dfDeleteACLsResponseResultMatchingACL := DefSets.ok (z := .agg ⟨[.int .i16 0, .pointer none, .int .i8 0, .string (strOf []), .int .i8 0, .string (strOf []), .string (strOf []), .int .i8 0, .int .i8 0, .map none]⟩) (zfs := zfDeleteACLsResponseResultMatchingACL) (dc := [.int .i16 0, .pointer none, .int .i8 0, .string (strOf []), .int .i8 3, .string (strOf []), .string (strOf []), .int .i8 0, .int .i8 0, .map none]) defDeleteACLsResponseResultMatchingACL (by kernel_rfl) (by kernel_rfl) rfl rfl rfl (by kernel_rfl)
def tfsDeleteACLsResponseResultMatchingACL : List (List FV → PT) := [fun fs => tellPrim (fvGet fs 0), fun fs => tellPrim (fvGet fs 1), fun fs => tellPrim (fvGet fs 2), fun fs => tellPrim (fvGet fs 3), fun fs => tellPrim (fvGet fs 4), fun fs => tellPrim (fvGet fs 5), fun fs => tellPrim (fvGet fs 6), fun fs => tellPrim (fvGet fs 7), fun fs => tellPrim (fvGet fs 8)]
def tssDeleteACLsResponseResultMatchingACL : List TStep := [.num 0 38 0, .call 73 1 68 1, .num 2 118 2, .text 3 3, .num 4 119 4, .text 5 5, .text 6 6, .num 7 120 7, .num 8 121 8]
theorem tsokDeleteACLsResponseResultMatchingACL : StepsTell P N 123 tysDeleteACLsResponseResultMatchingACL tssDeleteACLsResponseResultMatchingACL tfsDeleteACLsResponseResultMatchingACL 0 := ⟨told_num tyZ tellF ⟨by kernel_rfl, rfl, rfl⟩ (by kernel_rfl) (by kernel_rfl) fits_i16, told_call tyZ ⟨by kernel_rfl, rfl, rfl⟩ (by kernel_rfl) cText, told_num tyZ tellF ⟨by kernel_rfl, rfl, rfl⟩ (by kernel_rfl) (by kernel_rfl) fits_i8, told_text rdF tyZ tellF oneStr ⟨by kernel_rfl, rfl, rfl⟩, told_num tyZ tellF ⟨by kernel_rfl, rfl, rfl⟩ (by kernel_rfl) (by kernel_rfl) fits_i8, told_text rdF tyZ tellF oneStr ⟨by kernel_rfl, rfl, rfl⟩, told_text rdF tyZ tellF oneStr ⟨by kernel_rfl, rfl, rfl⟩, told_num tyZ tellF ⟨by kernel_rfl, rfl, rfl⟩ (by kernel_rfl) (by kernel_rfl) fits_i8, told_num tyZ tellF ⟨by kernel_rfl, rfl, rfl⟩ (by kernel_rfl) (by kernel_rfl) fits_i8, trivial⟩
def gpDeleteACLsResponseResultMatchingACL (fs : List FV) : PT := .mk 0 [] false (tfsDeleteACLsResponseResultMatchingACL.map (· fs)) (tellTags (fvGet fs 9))
theorem toldDeleteACLsResponseResultMatchingACL : TellOf P 80 tysDeleteACLsResponseResultMatchingACL gpDeleteACLsResponseResultMatchingACL := told_tags (S := 123) (N := 9) (g := 101) (ss := tssDeleteACLsResponseResultMatchingACL) rdF tyZ tellF (closure_gives rdF tyZ octF rowTg tagPlan (by kernel_rfl)) hEach hSorted (by kernel_rfl) rfl (by decide) tsokDeleteACLsResponseResultMatchingACL ⟨by kernel_rfl, rfl, rfl⟩

def tysDeleteACLsResponseResult : List Ty := [.num .i16, .ntext, .list (tysDeleteACLsResponseResultMatchingACL), .tags]
def lsDeleteACLsResponseResult : List Nat := [1, 1, 1, 1]
def zfDeleteACLsResponseResult : List FV := [.one (.int .i16 0), .ntext none, .list true [], .tags []]
def dfDeleteACLsResponseResult : List FV := [.one (.int .i16 0), .ntext none, .list true [], .tags []]
def dsDeleteACLsResponseResult : List Dset := []
theorem dsokDeleteACLsResponseResult : DsetsOk P 81 lsDeleteACLsResponseResult dsDeleteACLsResponseResult := trivial
theorem defDeleteACLsResponseResult : DefSets P 77 lsDeleteACLsResponseResult dsDeleteACLsResponseResult := default_gives rdF.mix (by kernel_rfl) dsokDeleteACLsResponseResult
theorem dokDeleteACLsResponseResult : DefOk P 77 81 dfDeleteACLsResponseResult := DefSets.ok (z := .agg ⟨[.int .i16 0, .pointer none, .slice none 0 0, .map none]⟩) (zfs := zfDeleteACLsResponseResult) (dc := [.int .i16 0, .pointer none, .slice none 0 0, .map none]) defDeleteACLsResponseResult (by kernel_rfl) (by kernel_rfl) rfl rfl rfl (by kernel_rfl)
def tfsDeleteACLsResponseResult : List (List FV → PT) := [fun fs => tellPrim (fvGet fs 0), fun fs => tellPrim (fvGet fs 1), fun fs => tellList gpDeleteACLsResponseResultMatchingACL (fvGet fs 2)]
def tssDeleteACLsResponseResult : List TStep := [.num 0 38 0, .call 73 1 68 1, .list 2 79 2 (.sub 80)]
theorem tsokDeleteACLsResponseResult : StepsTell P N 81 tysDeleteACLsResponseResult tssDeleteACLsResponseResult tfsDeleteACLsResponseResult 0 := ⟨told_num tyZ tellF ⟨by kernel_rfl, rfl, rfl⟩ (by kernel_rfl) (by kernel_rfl) fits_i16, told_call tyZ ⟨by kernel_rfl, rfl, rfl⟩ (by kernel_rfl) cText, told_list (T := 123) rdF tyZ tellF ⟨by kernel_rfl, rfl, rfl⟩ (by kernel_rfl) (by kernel_rfl) (by kernel_rfl) rfl (el_sub toldDeleteACLsResponseResultMatchingACL), trivial⟩
def gpDeleteACLsResponseResult (fs : List FV) : PT := .mk 0 [] false (tfsDeleteACLsResponseResult.map (· fs)) (tellTags (fvGet fs 3))
theorem toldDeleteACLsResponseResult : TellOf P 45 tysDeleteACLsResponseResult gpDeleteACLsResponseResult := told_tags (S := 81) (N := 3) (g := 81) (ss := tssDeleteACLsResponseResult) rdF tyZ tellF (closure_gives rdF tyZ octF rowTg tagPlan (by kernel_rfl)) hEach hSorted (by kernel_rfl) rfl (by decide) tsokDeleteACLsResponseResult ⟨by kernel_rfl, rfl, rfl⟩

def tysDeleteACLsResponse : List Ty := [.num .i16, .num .i32, .list (tysDeleteACLsResponseResult), .tags]
def lsDeleteACLsResponse : List Nat := [1, 1, 1, 1]
def zfDeleteACLsResponse : List FV := [.one (.int .i16 0), .one (.int .i32 0), .list true [], .tags []]
def dfDeleteACLsResponse : List FV := [.one (.int .i16 0), .one (.int .i32 0), .list true [], .tags []]
def dsDeleteACLsResponse : List Dset := []
theorem dsokDeleteACLsResponse : DsetsOk P 76 lsDeleteACLsResponse dsDeleteACLsResponse := trivial
theorem defDeleteACLsResponse : DefSets P 43 lsDeleteACLsResponse dsDeleteACLsResponse := default_gives rdF.mix (by kernel_rfl) dsokDeleteACLsResponse
theorem dokDeleteACLsResponse : DefOk P 43 76 dfDeleteACLsResponse := DefSets.ok (z := .agg ⟨[.int .i16 0, .int .i32 0, .slice none 0 0, .map none]⟩) (zfs := zfDeleteACLsResponse) (dc := [.int .i16 0, .int .i32 0, .slice none 0 0, .map none]) defDeleteACLsResponse (by kernel_rfl) (by kernel_rfl) rfl rfl rfl (by kernel_rfl)
def tfsDeleteACLsResponse : List (List FV → PT) := [fun fs => tellPrim (fvGet fs 1), fun fs => tellList gpDeleteACLsResponseResult (fvGet fs 2)]
def tssDeleteACLsResponse : List TStep := [.num 1 21 0, .list 2 74 1 (.sub 45)]
theorem tsokDeleteACLsResponse : StepsTell P N 76 tysDeleteACLsResponse tssDeleteACLsResponse tfsDeleteACLsResponse 0 := ⟨told_num tyZ tellF ⟨by kernel_rfl, rfl, rfl⟩ (by kernel_rfl) (by kernel_rfl) fits_i32, told_list (T := 81) rdF tyZ tellF ⟨by kernel_rfl, rfl, rfl⟩ (by kernel_rfl) (by kernel_rfl) (by kernel_rfl) rfl (el_sub toldDeleteACLsResponseResult), trivial⟩
def gpDeleteACLsResponse (fs : List FV) : PT := .mk 0 [] false (tfsDeleteACLsResponse.map (· fs)) (tellTags (fvGet fs 3))
theorem toldDeleteACLsResponse : TellOf P 29 tysDeleteACLsResponse gpDeleteACLsResponse := told_tags (S := 76) (N := 2) (g := 46) (ss := tssDeleteACLsResponse) rdF tyZ tellF (closure_gives rdF tyZ octF rowTg tagPlan (by kernel_rfl)) hEach hSorted (by kernel_rfl) rfl (by decide) tsokDeleteACLsResponse ⟨by kernel_rfl, rfl, rfl⟩

end Go.Proofs.YtpcgbjddoodeiaaDoor
