/- DescribeACLsResponse: its fields, how it is read and told. -/
import Derived.Test.YtcinbiokghpilabGreatDoorParts
namespace Go.Proofs.YtcinbiokghpilabGreatDoor
open Go Go.Kf

def tysDescribeACLsResponseResourceACL : List Ty := [.text, .text, .num .i8, .num .i8, .tags]
def lsDescribeACLsResponseResourceACL : List Nat := [1, 1, 1, 1, 1]
def zfDescribeACLsResponseResourceACL : List FV := [.text [], .text [], .one (.int .i8 0), .one (.int .i8 0), .tags []]
def dfDescribeACLsResponseResourceACL : List FV := [.text [], .text [], .one (.int .i8 0), .one (.int .i8 0), .tags []]
def dsDescribeACLsResponseResourceACL : List Dset := []
theorem dsokDescribeACLsResponseResourceACL : DsetsOk P 155 lsDescribeACLsResponseResourceACL dsDescribeACLsResponseResourceACL := trivial
theorem defDescribeACLsResponseResourceACL : DefSets P 110 lsDescribeACLsResponseResourceACL dsDescribeACLsResponseResourceACL := default_gives rdF.mix (by kernel_rfl) dsokDescribeACLsResponseResourceACL
theorem dokDescribeACLsResponseResourceACL : DefOk P 110 155 dfDescribeACLsResponseResourceACL := DefSets.ok (z := .agg ⟨[.string (strOf []), .string (strOf []), .int .i8 0, .int .i8 0, .map none]⟩) (zfs := zfDescribeACLsResponseResourceACL) (dc := [.string (strOf []), .string (strOf []), .int .i8 0, .int .i8 0, .map none]) defDescribeACLsResponseResourceACL (by kernel_rfl) (by kernel_rfl) rfl rfl rfl (by kernel_rfl)
def tfsDescribeACLsResponseResourceACL : List (List FV → PT) := [fun fs => tellPrim (fvGet fs 0), fun fs => tellPrim (fvGet fs 1), fun fs => tellPrim (fvGet fs 2), fun fs => tellPrim (fvGet fs 3)]
def tssDescribeACLsResponseResourceACL : List TStep := [.text 0 0, .text 1 1, .num 2 152 2, .num 3 153 3]
theorem tsokDescribeACLsResponseResourceACL : StepsTell P N 155 tysDescribeACLsResponseResourceACL tssDescribeACLsResponseResourceACL tfsDescribeACLsResponseResourceACL 0 := ⟨told_text rdF tyZ tellF oneStr ⟨by kernel_rfl, rfl, rfl⟩, told_text rdF tyZ tellF oneStr ⟨by kernel_rfl, rfl, rfl⟩, told_num tyZ tellF ⟨by kernel_rfl, rfl, rfl⟩ (by kernel_rfl) (by kernel_rfl) fits_i8, told_num tyZ tellF ⟨by kernel_rfl, rfl, rfl⟩ (by kernel_rfl) (by kernel_rfl) fits_i8, trivial⟩
def gpDescribeACLsResponseResourceACL (fs : List FV) : PT := .mk 0 [] false (tfsDescribeACLsResponseResourceACL.map (· fs)) (tellTags (fvGet fs 4))
theorem toldDescribeACLsResponseResourceACL : TellOf P 111 tysDescribeACLsResponseResourceACL gpDescribeACLsResponseResourceACL := told_tags (S := 155) (N := 4) (g := 127) (ss := tssDescribeACLsResponseResourceACL) rdF tyZ tellF (closure_gives rdF tyZ octF rowTg tagPlan (by kernel_rfl)) hEach hSorted (by kernel_rfl) rfl (by decide) tsokDescribeACLsResponseResourceACL ⟨by kernel_rfl, rfl, rfl⟩

def tysDescribeACLsResponseResource : List Ty := [.num .i8, .text, .num .i8, .list (tysDescribeACLsResponseResourceACL), .tags]
def lsDescribeACLsResponseResource : List Nat := [1, 1, 1, 1, 1]
def zfDescribeACLsResponseResource : List FV := [.one (.int .i8 0), .text [], .one (.int .i8 0), .list true [], .tags []]
def dfDescribeACLsResponseResource : List FV := [.one (.int .i8 0), .text [], .one (.int .i8 3), .list true [], .tags []]
def dsDescribeACLsResponseResource : List Dset := [.set 2 117 2 (.int .i8 3)]
theorem dsokDescribeACLsResponseResource : DsetsOk P 120 lsDescribeACLsResponseResource dsDescribeACLsResponseResource := ⟨⟨⟨by kernel_rfl, rfl, rfl⟩, by kernel_rfl, rfl⟩, trivial⟩
theorem defDescribeACLsResponseResource : DefSets P 108 lsDescribeACLsResponseResource dsDescribeACLsResponseResource := default_gives rdF.mix (by kernel_rfl) dsokDescribeACLsResponseResource
theorem dokDescribeACLsResponseResource : DefOk P 108 120 dfDescribeACLsResponseResource := DefSets.ok (z := .agg ⟨[.int .i8 0, .string (strOf []), .int .i8 0, .slice none 0 0, .map none]⟩) (zfs := zfDescribeACLsResponseResource) (dc := [.int .i8 0, .string (strOf []), .int .i8 3, .slice none 0 0, .map none]) defDescribeACLsResponseResource (by kernel_rfl) (by kernel_rfl) rfl rfl rfl (by kernel_rfl)
def tfsDescribeACLsResponseResource : List (List FV → PT) := [fun fs => tellPrim (fvGet fs 0), fun fs => tellPrim (fvGet fs 1), fun fs => tellPrim (fvGet fs 2), fun fs => tellList gpDescribeACLsResponseResourceACL (fvGet fs 3)]
def tssDescribeACLsResponseResource : List TStep := [.num 0 116 0, .text 1 1, .num 2 117 2, .list 3 118 3 (.sub 111)]
theorem tsokDescribeACLsResponseResource : StepsTell P N 120 tysDescribeACLsResponseResource tssDescribeACLsResponseResource tfsDescribeACLsResponseResource 0 := ⟨told_num tyZ tellF ⟨by kernel_rfl, rfl, rfl⟩ (by kernel_rfl) (by kernel_rfl) fits_i8, told_text rdF tyZ tellF oneStr ⟨by kernel_rfl, rfl, rfl⟩, told_num tyZ tellF ⟨by kernel_rfl, rfl, rfl⟩ (by kernel_rfl) (by kernel_rfl) fits_i8, told_list (T := 155) rdF tyZ tellF ⟨by kernel_rfl, rfl, rfl⟩ (by kernel_rfl) (by kernel_rfl) (by kernel_rfl) rfl (el_sub toldDescribeACLsResponseResourceACL), trivial⟩
def gpDescribeACLsResponseResource (fs : List FV) : PT := .mk 0 [] false (tfsDescribeACLsResponseResource.map (· fs)) (tellTags (fvGet fs 4))
theorem toldDescribeACLsResponseResource : TellOf P 73 tysDescribeACLsResponseResource gpDescribeACLsResponseResource := told_tags (S := 120) (N := 4) (g := 112) (ss := tssDescribeACLsResponseResource) rdF tyZ tellF (closure_gives rdF tyZ octF rowTg tagPlan (by kernel_rfl)) hEach hSorted (by kernel_rfl) rfl (by decide) tsokDescribeACLsResponseResource ⟨by kernel_rfl, rfl, rfl⟩

def tysDescribeACLsResponse : List Ty := [.num .i16, .num .i32, .num .i16, .ntext, .list (tysDescribeACLsResponseResource), .tags]
def lsDescribeACLsResponse : List Nat := [1, 1, 1, 1, 1, 1]
def zfDescribeACLsResponse : List FV := [.one (.int .i16 0), .one (.int .i32 0), .one (.int .i16 0), .ntext none, .list true [], .tags []]
def dfDescribeACLsResponse : List FV := [.one (.int .i16 0), .one (.int .i32 0), .one (.int .i16 0), .ntext none, .list true [], .tags []]
def dsDescribeACLsResponse : List Dset := []
theorem dsokDescribeACLsResponse : DsetsOk P 112 lsDescribeACLsResponse dsDescribeACLsResponse := trivial
theorem defDescribeACLsResponse : DefSets P 70 lsDescribeACLsResponse dsDescribeACLsResponse := default_gives rdF.mix (by kernel_rfl) dsokDescribeACLsResponse
theorem dokDescribeACLsResponse : DefOk P 70 112 dfDescribeACLsResponse := DefSets.ok (z := .agg ⟨[.int .i16 0, .int .i32 0, .int .i16 0, .pointer none, .slice none 0 0, .map none]⟩) (zfs := zfDescribeACLsResponse) (dc := [.int .i16 0, .int .i32 0, .int .i16 0, .pointer none, .slice none 0 0, .map none]) defDescribeACLsResponse (by kernel_rfl) (by kernel_rfl) rfl rfl rfl (by kernel_rfl)
def tfsDescribeACLsResponse : List (List FV → PT) := [fun fs => tellPrim (fvGet fs 1), fun fs => tellPrim (fvGet fs 2), fun fs => tellPrim (fvGet fs 3), fun fs => tellList gpDescribeACLsResponseResource (fvGet fs 4)]
def tssDescribeACLsResponse : List TStep := [.num 1 21 0, .num 2 46 1, .call 52 3 77 2, .list 4 110 3 (.sub 73)]
theorem tsokDescribeACLsResponse : StepsTell P N 112 tysDescribeACLsResponse tssDescribeACLsResponse tfsDescribeACLsResponse 0 := ⟨told_num tyZ tellF ⟨by kernel_rfl, rfl, rfl⟩ (by kernel_rfl) (by kernel_rfl) fits_i32, told_num tyZ tellF ⟨by kernel_rfl, rfl, rfl⟩ (by kernel_rfl) (by kernel_rfl) fits_i16, told_call tyZ ⟨by kernel_rfl, rfl, rfl⟩ (by kernel_rfl) cText, told_list (T := 120) rdF tyZ tellF ⟨by kernel_rfl, rfl, rfl⟩ (by kernel_rfl) (by kernel_rfl) (by kernel_rfl) rfl (el_sub toldDescribeACLsResponseResource), trivial⟩
def gpDescribeACLsResponse (fs : List FV) : PT := .mk 0 [] false (tfsDescribeACLsResponse.map (· fs)) (tellTags (fvGet fs 5))
theorem toldDescribeACLsResponse : TellOf P 48 tysDescribeACLsResponse gpDescribeACLsResponse := told_tags (S := 112) (N := 4) (g := 74) (ss := tssDescribeACLsResponse) rdF tyZ tellF (closure_gives rdF tyZ octF rowTg tagPlan (by kernel_rfl)) hEach hSorted (by kernel_rfl) rfl (by decide) tsokDescribeACLsResponse ⟨by kernel_rfl, rfl, rfl⟩

end Go.Proofs.YtcinbiokghpilabGreatDoor
