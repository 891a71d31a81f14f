/- DescribeUserSCRAMCredentialsResponse: its fields, how it is read and told. -/
import Derived.Test.YtinimlbgpacpfaaDoorParts
namespace Go.Proofs.YtinimlbgpacpfaaDoor
open Go Go.Kf

def tysDescribeUserSCRAMCredentialsResponseResultCredentialInfo : List Ty := [.num .i8, .num .i32, .tags]
def lsDescribeUserSCRAMCredentialsResponseResultCredentialInfo : List Nat := [1, 1, 1]
def zfDescribeUserSCRAMCredentialsResponseResultCredentialInfo : List FV := [.one (.int .i8 0), .one (.int .i32 0), .tags []]
def dfDescribeUserSCRAMCredentialsResponseResultCredentialInfo : List FV := [.one (.int .i8 0), .one (.int .i32 0), .tags []]
def dsDescribeUserSCRAMCredentialsResponseResultCredentialInfo : List Dset := []
theorem dsokDescribeUserSCRAMCredentialsResponseResultCredentialInfo : DsetsOk P 125 lsDescribeUserSCRAMCredentialsResponseResultCredentialInfo dsDescribeUserSCRAMCredentialsResponseResultCredentialInfo := fun d hd => by cases hd
theorem defDescribeUserSCRAMCredentialsResponseResultCredentialInfo : DefSets P 83 lsDescribeUserSCRAMCredentialsResponseResultCredentialInfo dsDescribeUserSCRAMCredentialsResponseResultCredentialInfo := default_gives rdF.mix (by kernel_rfl) dsokDescribeUserSCRAMCredentialsResponseResultCredentialInfo
theorem dokDescribeUserSCRAMCredentialsResponseResultCredentialInfo : DefOk P 83 125 dfDescribeUserSCRAMCredentialsResponseResultCredentialInfo := DefSets.ok (z := .agg ⟨[.int .i8 0, .int .i32 0, .map none]⟩) (zfs := zfDescribeUserSCRAMCredentialsResponseResultCredentialInfo) (dc := [.int .i8 0, .int .i32 0, .map none]) defDescribeUserSCRAMCredentialsResponseResultCredentialInfo (by kernel_rfl) (by kernel_rfl) rfl rfl (by kernel_rfl)
def tfsDescribeUserSCRAMCredentialsResponseResultCredentialInfo : List (List FV → PT) := [fun fs => tellPrim (fvGet fs 0), fun fs => tellPrim (fvGet fs 1)]
def tssDescribeUserSCRAMCredentialsResponseResultCredentialInfo : List TStep := [.num 0 123 0, .num 1 21 1]
theorem tsokDescribeUserSCRAMCredentialsResponseResultCredentialInfo : StepsTell P N 125 tysDescribeUserSCRAMCredentialsResponseResultCredentialInfo tssDescribeUserSCRAMCredentialsResponseResultCredentialInfo tfsDescribeUserSCRAMCredentialsResponseResultCredentialInfo 0 := ⟨told_num tyZ tellF ⟨by kernel_rfl, rfl, rfl⟩ (by kernel_rfl) (by kernel_rfl) fits_i8, told_num tyZ tellF ⟨by kernel_rfl, rfl, rfl⟩ (by kernel_rfl) (by kernel_rfl) fits_i32, trivial⟩
def gpDescribeUserSCRAMCredentialsResponseResultCredentialInfo (fs : List FV) : PT := .mk 0 [] false (tfsDescribeUserSCRAMCredentialsResponseResultCredentialInfo.map (· fs)) (tellTags (fvGet fs 2))
theorem toldDescribeUserSCRAMCredentialsResponseResultCredentialInfo : TellOf P 85 tysDescribeUserSCRAMCredentialsResponseResultCredentialInfo gpDescribeUserSCRAMCredentialsResponseResultCredentialInfo := told_tags (S := 125) (N := 2) (g := 101) (ss := tssDescribeUserSCRAMCredentialsResponseResultCredentialInfo) rdF tyZ tellF (closure_gives rdF tyZ octF rowTg tagPlan (by kernel_rfl)) hEach hSorted (by kernel_rfl) rfl (by decide) tsokDescribeUserSCRAMCredentialsResponseResultCredentialInfo ⟨by kernel_rfl, rfl, rfl⟩

def tysDescribeUserSCRAMCredentialsResponseResult : List Ty := [.text, .num .i16, .ntext, .list (tysDescribeUserSCRAMCredentialsResponseResultCredentialInfo), .tags]
def lsDescribeUserSCRAMCredentialsResponseResult : List Nat := [1, 1, 1, 1, 1]
def zfDescribeUserSCRAMCredentialsResponseResult : List FV := [.text [], .one (.int .i16 0), .ntext none, .list true [], .tags []]
def dfDescribeUserSCRAMCredentialsResponseResult : List FV := [.text [], .one (.int .i16 0), .ntext none, .list true [], .tags []]
def dsDescribeUserSCRAMCredentialsResponseResult : List Dset := []
theorem dsokDescribeUserSCRAMCredentialsResponseResult : DsetsOk P 96 lsDescribeUserSCRAMCredentialsResponseResult dsDescribeUserSCRAMCredentialsResponseResult := fun d hd => by cases hd
theorem defDescribeUserSCRAMCredentialsResponseResult : DefSets P 82 lsDescribeUserSCRAMCredentialsResponseResult dsDescribeUserSCRAMCredentialsResponseResult := default_gives rdF.mix (by kernel_rfl) dsokDescribeUserSCRAMCredentialsResponseResult
theorem dokDescribeUserSCRAMCredentialsResponseResult : DefOk P 82 96 dfDescribeUserSCRAMCredentialsResponseResult := DefSets.ok (z := .agg ⟨[.string (strOf []), .int .i16 0, .pointer none, .slice none 0 0, .map none]⟩) (zfs := zfDescribeUserSCRAMCredentialsResponseResult) (dc := [.string (strOf []), .int .i16 0, .pointer none, .slice none 0 0, .map none]) defDescribeUserSCRAMCredentialsResponseResult (by kernel_rfl) (by kernel_rfl) rfl rfl (by kernel_rfl)
def tfsDescribeUserSCRAMCredentialsResponseResult : List (List FV → PT) := [fun fs => tellPrim (fvGet fs 0), fun fs => tellPrim (fvGet fs 1), fun fs => tellPrim (fvGet fs 2), fun fs => tellList gpDescribeUserSCRAMCredentialsResponseResultCredentialInfo (fvGet fs 3)]
def tssDescribeUserSCRAMCredentialsResponseResult : List TStep := [.text 0 0, .num 1 38 1, .call 39 2 58 2, .list 3 94 3 (.sub 85)]
theorem tsokDescribeUserSCRAMCredentialsResponseResult : StepsTell P N 96 tysDescribeUserSCRAMCredentialsResponseResult tssDescribeUserSCRAMCredentialsResponseResult tfsDescribeUserSCRAMCredentialsResponseResult 0 := ⟨told_text rdF tyZ tellF oneStr ⟨by kernel_rfl, rfl, rfl⟩, told_num tyZ tellF ⟨by kernel_rfl, rfl, rfl⟩ (by kernel_rfl) (by kernel_rfl) fits_i16, told_call tyZ ⟨by kernel_rfl, rfl, rfl⟩ (by kernel_rfl) cText, told_list (T := 125) rdF tyZ tellF ⟨by kernel_rfl, rfl, rfl⟩ (by kernel_rfl) (by kernel_rfl) (by kernel_rfl) rfl (el_sub toldDescribeUserSCRAMCredentialsResponseResultCredentialInfo), trivial⟩
def gpDescribeUserSCRAMCredentialsResponseResult (fs : List FV) : PT := .mk 0 [] false (tfsDescribeUserSCRAMCredentialsResponseResult.map (· fs)) (tellTags (fvGet fs 4))
theorem toldDescribeUserSCRAMCredentialsResponseResult : TellOf P 51 tysDescribeUserSCRAMCredentialsResponseResult gpDescribeUserSCRAMCredentialsResponseResult := told_tags (S := 96) (N := 4) (g := 86) (ss := tssDescribeUserSCRAMCredentialsResponseResult) rdF tyZ tellF (closure_gives rdF tyZ octF rowTg tagPlan (by kernel_rfl)) hEach hSorted (by kernel_rfl) rfl (by decide) tsokDescribeUserSCRAMCredentialsResponseResult ⟨by kernel_rfl, rfl, rfl⟩

def tysDescribeUserSCRAMCredentialsResponse : List Ty := [.num .i16, .num .i32, .num .i16, .ntext, .list (tysDescribeUserSCRAMCredentialsResponseResult), .tags]
def lsDescribeUserSCRAMCredentialsResponse : List Nat := [1, 1, 1, 1, 1, 1]
def zfDescribeUserSCRAMCredentialsResponse : List FV := [.one (.int .i16 0), .one (.int .i32 0), .one (.int .i16 0), .ntext none, .list true [], .tags []]
def dfDescribeUserSCRAMCredentialsResponse : List FV := [.one (.int .i16 0), .one (.int .i32 0), .one (.int .i16 0), .ntext none, .list true [], .tags []]
def dsDescribeUserSCRAMCredentialsResponse : List Dset := []
theorem dsokDescribeUserSCRAMCredentialsResponse : DsetsOk P 91 lsDescribeUserSCRAMCredentialsResponse dsDescribeUserSCRAMCredentialsResponse := fun d hd => by cases hd
theorem defDescribeUserSCRAMCredentialsResponse : DefSets P 49 lsDescribeUserSCRAMCredentialsResponse dsDescribeUserSCRAMCredentialsResponse := default_gives rdF.mix (by kernel_rfl) dsokDescribeUserSCRAMCredentialsResponse
theorem dokDescribeUserSCRAMCredentialsResponse : DefOk P 49 91 dfDescribeUserSCRAMCredentialsResponse := DefSets.ok (z := .agg ⟨[.int .i16 0, .int .i32 0, .int .i16 0, .pointer none, .slice none 0 0, .map none]⟩) (zfs := zfDescribeUserSCRAMCredentialsResponse) (dc := [.int .i16 0, .int .i32 0, .int .i16 0, .pointer none, .slice none 0 0, .map none]) defDescribeUserSCRAMCredentialsResponse (by kernel_rfl) (by kernel_rfl) rfl rfl (by kernel_rfl)
def tfsDescribeUserSCRAMCredentialsResponse : List (List FV → PT) := [fun fs => tellPrim (fvGet fs 1), fun fs => tellPrim (fvGet fs 2), fun fs => tellPrim (fvGet fs 3), fun fs => tellList gpDescribeUserSCRAMCredentialsResponseResult (fvGet fs 4)]
def tssDescribeUserSCRAMCredentialsResponse : List TStep := [.num 1 21 0, .num 2 38 1, .call 39 3 58 2, .list 4 89 3 (.sub 51)]
theorem tsokDescribeUserSCRAMCredentialsResponse : StepsTell P N 91 tysDescribeUserSCRAMCredentialsResponse tssDescribeUserSCRAMCredentialsResponse tfsDescribeUserSCRAMCredentialsResponse 0 := ⟨told_num tyZ tellF ⟨by kernel_rfl, rfl, rfl⟩ (by kernel_rfl) (by kernel_rfl) fits_i32, told_num tyZ tellF ⟨by kernel_rfl, rfl, rfl⟩ (by kernel_rfl) (by kernel_rfl) fits_i16, told_call tyZ ⟨by kernel_rfl, rfl, rfl⟩ (by kernel_rfl) cText, told_list (T := 96) rdF tyZ tellF ⟨by kernel_rfl, rfl, rfl⟩ (by kernel_rfl) (by kernel_rfl) (by kernel_rfl) rfl (el_sub toldDescribeUserSCRAMCredentialsResponseResult), trivial⟩
def gpDescribeUserSCRAMCredentialsResponse (fs : List FV) : PT := .mk 0 [] false (tfsDescribeUserSCRAMCredentialsResponse.map (· fs)) (tellTags (fvGet fs 5))
theorem toldDescribeUserSCRAMCredentialsResponse : TellOf P 35 tysDescribeUserSCRAMCredentialsResponse gpDescribeUserSCRAMCredentialsResponse := told_tags (S := 91) (N := 4) (g := 52) (ss := tssDescribeUserSCRAMCredentialsResponse) rdF tyZ tellF (closure_gives rdF tyZ octF rowTg tagPlan (by kernel_rfl)) hEach hSorted (by kernel_rfl) rfl (by decide) tsokDescribeUserSCRAMCredentialsResponse ⟨by kernel_rfl, rfl, rfl⟩

end Go.Proofs.YtinimlbgpacpfaaDoor
