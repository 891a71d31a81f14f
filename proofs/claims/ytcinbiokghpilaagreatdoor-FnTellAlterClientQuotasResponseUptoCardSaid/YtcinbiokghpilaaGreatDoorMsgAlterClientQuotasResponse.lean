/- AlterClientQuotasResponse: its fields, how it is read and told. -/
import Derived.Test.YtcinbiokghpilaaGreatDoorParts
namespace Go.Proofs.YtcinbiokghpilaaGreatDoor
open Go Go.Kf

def tysAlterClientQuotasResponseEntryEntity : List Ty := [.text, .ntext, .tags]
def lsAlterClientQuotasResponseEntryEntity : List Nat := [1, 1, 1]
def zfAlterClientQuotasResponseEntryEntity : List FV := [.text [], .ntext none, .tags []]
def dfAlterClientQuotasResponseEntryEntity : List FV := [.text [], .ntext none, .tags []]
def dsAlterClientQuotasResponseEntryEntity : List Dset := []
theorem dsokAlterClientQuotasResponseEntryEntity : DsetsOk P 139 lsAlterClientQuotasResponseEntryEntity dsAlterClientQuotasResponseEntryEntity := trivial
theorem defAlterClientQuotasResponseEntryEntity : DefSets P 97 lsAlterClientQuotasResponseEntryEntity dsAlterClientQuotasResponseEntryEntity := default_gives rdF.mix (by kernel_rfl) dsokAlterClientQuotasResponseEntryEntity
theorem dokAlterClientQuotasResponseEntryEntity : DefOk P 97 139 dfAlterClientQuotasResponseEntryEntity := DefSets.ok (z := .agg ⟨[.string (strOf []), .pointer none, .map none]⟩) (zfs := zfAlterClientQuotasResponseEntryEntity) (dc := [.string (strOf []), .pointer none, .map none]) defAlterClientQuotasResponseEntryEntity (by kernel_rfl) (by kernel_rfl) rfl rfl rfl (by kernel_rfl)
def tfsAlterClientQuotasResponseEntryEntity : List (List FV → PT) := [fun fs => tellPrim (fvGet fs 0), fun fs => tellPrim (fvGet fs 1)]
def tssAlterClientQuotasResponseEntryEntity : List TStep := [.text 0 0, .call 71 1 105 1]
theorem tsokAlterClientQuotasResponseEntryEntity : StepsTell P N 139 tysAlterClientQuotasResponseEntryEntity tssAlterClientQuotasResponseEntryEntity tfsAlterClientQuotasResponseEntryEntity 0 := ⟨told_text rdF tyZ tellF oneStr ⟨by kernel_rfl, rfl, rfl⟩, told_call tyZ ⟨by kernel_rfl, rfl, rfl⟩ (by kernel_rfl) cText, trivial⟩
def gpAlterClientQuotasResponseEntryEntity (fs : List FV) : PT := .mk 0 [] false (tfsAlterClientQuotasResponseEntryEntity.map (· fs)) (tellTags (fvGet fs 2))
theorem toldAlterClientQuotasResponseEntryEntity : TellOf P 98 tysAlterClientQuotasResponseEntryEntity gpAlterClientQuotasResponseEntryEntity := told_tags (S := 139) (N := 2) (g := 117) (ss := tssAlterClientQuotasResponseEntryEntity) rdF tyZ tellF (closure_gives rdF tyZ octF rowTg tagPlan (by kernel_rfl)) hEach hSorted (by kernel_rfl) rfl (by decide) tsokAlterClientQuotasResponseEntryEntity ⟨by kernel_rfl, rfl, rfl⟩

def tysAlterClientQuotasResponseEntry : List Ty := [.num .i16, .ntext, .list (tysAlterClientQuotasResponseEntryEntity), .tags]
def lsAlterClientQuotasResponseEntry : List Nat := [1, 1, 1, 1]
def zfAlterClientQuotasResponseEntry : List FV := [.one (.int .i16 0), .ntext none, .list true [], .tags []]
def dfAlterClientQuotasResponseEntry : List FV := [.one (.int .i16 0), .ntext none, .list true [], .tags []]
def dsAlterClientQuotasResponseEntry : List Dset := []
theorem dsokAlterClientQuotasResponseEntry : DsetsOk P 108 lsAlterClientQuotasResponseEntry dsAlterClientQuotasResponseEntry := trivial
theorem defAlterClientQuotasResponseEntry : DefSets P 92 lsAlterClientQuotasResponseEntry dsAlterClientQuotasResponseEntry := default_gives rdF.mix (by kernel_rfl) dsokAlterClientQuotasResponseEntry
theorem dokAlterClientQuotasResponseEntry : DefOk P 92 108 dfAlterClientQuotasResponseEntry := DefSets.ok (z := .agg ⟨[.int .i16 0, .pointer none, .slice none 0 0, .map none]⟩) (zfs := zfAlterClientQuotasResponseEntry) (dc := [.int .i16 0, .pointer none, .slice none 0 0, .map none]) defAlterClientQuotasResponseEntry (by kernel_rfl) (by kernel_rfl) rfl rfl rfl (by kernel_rfl)
def tfsAlterClientQuotasResponseEntry : List (List FV → PT) := [fun fs => tellPrim (fvGet fs 0), fun fs => tellPrim (fvGet fs 1), fun fs => tellList gpAlterClientQuotasResponseEntryEntity (fvGet fs 2)]
def tssAlterClientQuotasResponseEntry : List TStep := [.num 0 46 0, .call 71 1 105 1, .list 2 106 2 (.sub 98)]
theorem tsokAlterClientQuotasResponseEntry : StepsTell P N 108 tysAlterClientQuotasResponseEntry tssAlterClientQuotasResponseEntry tfsAlterClientQuotasResponseEntry 0 := ⟨told_num tyZ tellF ⟨by kernel_rfl, rfl, rfl⟩ (by kernel_rfl) (by kernel_rfl) fits_i16, told_call tyZ ⟨by kernel_rfl, rfl, rfl⟩ (by kernel_rfl) cText, told_list (T := 139) rdF tyZ tellF ⟨by kernel_rfl, rfl, rfl⟩ (by kernel_rfl) (by kernel_rfl) (by kernel_rfl) rfl (el_sub toldAlterClientQuotasResponseEntryEntity), trivial⟩
def gpAlterClientQuotasResponseEntry (fs : List FV) : PT := .mk 0 [] false (tfsAlterClientQuotasResponseEntry.map (· fs)) (tellTags (fvGet fs 3))
theorem toldAlterClientQuotasResponseEntry : TellOf P 66 tysAlterClientQuotasResponseEntry gpAlterClientQuotasResponseEntry := told_tags (S := 108) (N := 3) (g := 99) (ss := tssAlterClientQuotasResponseEntry) rdF tyZ tellF (closure_gives rdF tyZ octF rowTg tagPlan (by kernel_rfl)) hEach hSorted (by kernel_rfl) rfl (by decide) tsokAlterClientQuotasResponseEntry ⟨by kernel_rfl, rfl, rfl⟩

def tysAlterClientQuotasResponse : List Ty := [.num .i16, .num .i32, .list (tysAlterClientQuotasResponseEntry), .tags]
def lsAlterClientQuotasResponse : List Nat := [1, 1, 1, 1]
def zfAlterClientQuotasResponse : List FV := [.one (.int .i16 0), .one (.int .i32 0), .list true [], .tags []]
def dfAlterClientQuotasResponse : List FV := [.one (.int .i16 0), .one (.int .i32 0), .list true [], .tags []]
def dsAlterClientQuotasResponse : List Dset := []
theorem dsokAlterClientQuotasResponse : DsetsOk P 102 lsAlterClientQuotasResponse dsAlterClientQuotasResponse := trivial
theorem defAlterClientQuotasResponse : DefSets P 63 lsAlterClientQuotasResponse dsAlterClientQuotasResponse := default_gives rdF.mix (by kernel_rfl) dsokAlterClientQuotasResponse
theorem dokAlterClientQuotasResponse : DefOk P 63 102 dfAlterClientQuotasResponse := DefSets.ok (z := .agg ⟨[.int .i16 0, .int .i32 0, .slice none 0 0, .map none]⟩) (zfs := zfAlterClientQuotasResponse) (dc := [.int .i16 0, .int .i32 0, .slice none 0 0, .map none]) defAlterClientQuotasResponse (by kernel_rfl) (by kernel_rfl) rfl rfl rfl (by kernel_rfl)
def tfsAlterClientQuotasResponse : List (List FV → PT) := [fun fs => tellPrim (fvGet fs 1), fun fs => tellList gpAlterClientQuotasResponseEntry (fvGet fs 2)]
def tssAlterClientQuotasResponse : List TStep := [.num 1 21 0, .list 2 100 1 (.sub 66)]
theorem tsokAlterClientQuotasResponse : StepsTell P N 102 tysAlterClientQuotasResponse tssAlterClientQuotasResponse tfsAlterClientQuotasResponse 0 := ⟨told_num tyZ tellF ⟨by kernel_rfl, rfl, rfl⟩ (by kernel_rfl) (by kernel_rfl) fits_i32, told_list (T := 108) rdF tyZ tellF ⟨by kernel_rfl, rfl, rfl⟩ (by kernel_rfl) (by kernel_rfl) (by kernel_rfl) rfl (el_sub toldAlterClientQuotasResponseEntry), trivial⟩
def gpAlterClientQuotasResponse (fs : List FV) : PT := .mk 0 [] false (tfsAlterClientQuotasResponse.map (· fs)) (tellTags (fvGet fs 3))
theorem toldAlterClientQuotasResponse : TellOf P 41 tysAlterClientQuotasResponse gpAlterClientQuotasResponse := told_tags (S := 102) (N := 2) (g := 67) (ss := tssAlterClientQuotasResponse) rdF tyZ tellF (closure_gives rdF tyZ octF rowTg tagPlan (by kernel_rfl)) hEach hSorted (by kernel_rfl) rfl (by decide) tsokAlterClientQuotasResponse ⟨by kernel_rfl, rfl, rfl⟩

end Go.Proofs.YtcinbiokghpilaaGreatDoor
