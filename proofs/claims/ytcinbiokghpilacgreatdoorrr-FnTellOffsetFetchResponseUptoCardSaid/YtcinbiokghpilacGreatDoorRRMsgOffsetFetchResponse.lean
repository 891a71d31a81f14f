/- OffsetFetchResponse: its fields, how it is read and told. -/
import Derived.Test.YtcinbiokghpilacGreatDoorRRParts
namespace Go.Proofs.YtcinbiokghpilacGreatDoorRR
open Go Go.Kf

def tysOffsetFetchResponseTopicPartition : List Ty := [.num .i32, .num .i64, .num .i32, .ntext, .num .i16, .tags]
def lsOffsetFetchResponseTopicPartition : List Nat := [1, 1, 1, 1, 1, 1]
def zfOffsetFetchResponseTopicPartition : List FV := [.one (.int .i32 0), .one (.int .i64 0), .one (.int .i32 0), .ntext none, .one (.int .i16 0), .tags []]
def dfOffsetFetchResponseTopicPartition : List FV := [.one (.int .i32 0), .one (.int .i64 0), .one (.int .i32 (-1)), .ntext none, .one (.int .i16 0), .tags []]
def dsOffsetFetchResponseTopicPartition : List Dset := [.set 2 21 2 (.int .i32 (-1))]
theorem dsokOffsetFetchResponseTopicPartition : DsetsOk P 110 lsOffsetFetchResponseTopicPartition dsOffsetFetchResponseTopicPartition := ⟨⟨⟨by kernel_rfl, rfl, rfl⟩, by kernel_rfl, rfl⟩, trivial⟩
theorem defOffsetFetchResponseTopicPartition : DefSets P 59 lsOffsetFetchResponseTopicPartition dsOffsetFetchResponseTopicPartition := default_gives rdF.mix (by kernel_rfl) dsokOffsetFetchResponseTopicPartition
theorem dokOffsetFetchResponseTopicPartition : DefOk P 59 110 dfOffsetFetchResponseTopicPartition := DefSets.ok (z := .agg ⟨[.int .i32 0, .int .i64 0, .int .i32 0, .pointer none, .int .i16 0, .map none]⟩) (zfs := zfOffsetFetchResponseTopicPartition) (dc := [.int .i32 0, .int .i64 0, .int .i32 (-1), .pointer none, .int .i16 0, .map none]) defOffsetFetchResponseTopicPartition (by kernel_rfl) (by kernel_rfl) rfl rfl rfl (by kernel_rfl)
def tfsOffsetFetchResponseTopicPartition : List (List FV → PT) := [fun fs => tellPrim (fvGet fs 0), fun fs => tellPrim (fvGet fs 1), fun fs => tellPrim (fvGet fs 2), fun fs => tellPrim (fvGet fs 3), fun fs => tellPrim (fvGet fs 4)]
def tssOffsetFetchResponseTopicPartition : List TStep := [.num 0 21 0, .num64 1 1, .num 2 21 2, .call 86 3 108 3, .num 4 46 4]
theorem tsokOffsetFetchResponseTopicPartition : StepsTell P N 110 tysOffsetFetchResponseTopicPartition tssOffsetFetchResponseTopicPartition tfsOffsetFetchResponseTopicPartition 0 := ⟨told_num tyZ tellF ⟨by kernel_rfl, rfl, rfl⟩ (by kernel_rfl) (by kernel_rfl) fits_i32, told_num64 tyZ tellF ⟨by kernel_rfl, rfl, rfl⟩, told_num tyZ tellF ⟨by kernel_rfl, rfl, rfl⟩ (by kernel_rfl) (by kernel_rfl) fits_i32, told_call tyZ ⟨by kernel_rfl, rfl, rfl⟩ (by kernel_rfl) cText, told_num tyZ tellF ⟨by kernel_rfl, rfl, rfl⟩ (by kernel_rfl) (by kernel_rfl) fits_i16, trivial⟩
def gpOffsetFetchResponseTopicPartition (fs : List FV) : PT := .mk 0 [] false (tfsOffsetFetchResponseTopicPartition.map (· fs)) (tellTags (fvGet fs 5))
theorem toldOffsetFetchResponseTopicPartition : TellOf P 71 tysOffsetFetchResponseTopicPartition gpOffsetFetchResponseTopicPartition := told_tags (S := 110) (N := 5) (g := 87) (ss := tssOffsetFetchResponseTopicPartition) rdF tyZ tellF (closure_gives rdF tyZ octF rowTg tagPlan (by kernel_rfl)) hEach hSorted (by kernel_rfl) rfl (by decide) tsokOffsetFetchResponseTopicPartition ⟨by kernel_rfl, rfl, rfl⟩

def tysOffsetFetchResponseTopic : List Ty := [.text, .list (tysOffsetFetchResponseTopicPartition), .tags]
def lsOffsetFetchResponseTopic : List Nat := [1, 1, 1]
def zfOffsetFetchResponseTopic : List FV := [.text [], .list true [], .tags []]
def dfOffsetFetchResponseTopic : List FV := [.text [], .list true [], .tags []]
def dsOffsetFetchResponseTopic : List Dset := []
theorem dsokOffsetFetchResponseTopic : DsetsOk P 83 lsOffsetFetchResponseTopic dsOffsetFetchResponseTopic := trivial
theorem defOffsetFetchResponseTopic : DefSets P 54 lsOffsetFetchResponseTopic dsOffsetFetchResponseTopic := default_gives rdF.mix (by kernel_rfl) dsokOffsetFetchResponseTopic
theorem dokOffsetFetchResponseTopic : DefOk P 54 83 dfOffsetFetchResponseTopic := DefSets.ok (z := .agg ⟨[.string (strOf []), .slice none 0 0, .map none]⟩) (zfs := zfOffsetFetchResponseTopic) (dc := [.string (strOf []), .slice none 0 0, .map none]) defOffsetFetchResponseTopic (by kernel_rfl) (by kernel_rfl) rfl rfl rfl (by kernel_rfl)
def tfsOffsetFetchResponseTopic : List (List FV → PT) := [fun fs => tellPrim (fvGet fs 0), fun fs => tellList gpOffsetFetchResponseTopicPartition (fvGet fs 1)]
def tssOffsetFetchResponseTopic : List TStep := [.text 0 0, .list 1 81 1 (.sub 71)]
theorem tsokOffsetFetchResponseTopic : StepsTell P N 83 tysOffsetFetchResponseTopic tssOffsetFetchResponseTopic tfsOffsetFetchResponseTopic 0 := ⟨told_text rdF tyZ tellF oneStr ⟨by kernel_rfl, rfl, rfl⟩, told_list (T := 110) rdF tyZ tellF ⟨by kernel_rfl, rfl, rfl⟩ (by kernel_rfl) (by kernel_rfl) (by kernel_rfl) rfl (el_sub toldOffsetFetchResponseTopicPartition), trivial⟩
def gpOffsetFetchResponseTopic (fs : List FV) : PT := .mk 0 [] false (tfsOffsetFetchResponseTopic.map (· fs)) (tellTags (fvGet fs 2))
theorem toldOffsetFetchResponseTopic : TellOf P 35 tysOffsetFetchResponseTopic gpOffsetFetchResponseTopic := told_tags (S := 83) (N := 2) (g := 72) (ss := tssOffsetFetchResponseTopic) rdF tyZ tellF (closure_gives rdF tyZ octF rowTg tagPlan (by kernel_rfl)) hEach hSorted (by kernel_rfl) rfl (by decide) tsokOffsetFetchResponseTopic ⟨by kernel_rfl, rfl, rfl⟩

def tysOffsetFetchResponseGroupTopicPartition : List Ty := [.num .i32, .num .i64, .num .i32, .ntext, .num .i16, .tags]
def lsOffsetFetchResponseGroupTopicPartition : List Nat := [1, 1, 1, 1, 1, 1]
def zfOffsetFetchResponseGroupTopicPartition : List FV := [.one (.int .i32 0), .one (.int .i64 0), .one (.int .i32 0), .ntext none, .one (.int .i16 0), .tags []]
def dfOffsetFetchResponseGroupTopicPartition : List FV := [.one (.int .i32 0), .one (.int .i64 0), .one (.int .i32 (-1)), .ntext none, .one (.int .i16 0), .tags []]
def dsOffsetFetchResponseGroupTopicPartition : List Dset := [.set 2 21 2 (.int .i32 (-1))]
theorem dsokOffsetFetchResponseGroupTopicPartition : DsetsOk P 122 lsOffsetFetchResponseGroupTopicPartition dsOffsetFetchResponseGroupTopicPartition := ⟨⟨⟨by kernel_rfl, rfl, rfl⟩, by kernel_rfl, rfl⟩, trivial⟩
theorem defOffsetFetchResponseGroupTopicPartition : DefSets P 70 lsOffsetFetchResponseGroupTopicPartition dsOffsetFetchResponseGroupTopicPartition := default_gives rdF.mix (by kernel_rfl) dsokOffsetFetchResponseGroupTopicPartition
theorem dokOffsetFetchResponseGroupTopicPartition : DefOk P 70 122 dfOffsetFetchResponseGroupTopicPartition := DefSets.ok (z := .agg ⟨[.int .i32 0, .int .i64 0, .int .i32 0, .pointer none, .int .i16 0, .map none]⟩) (zfs := zfOffsetFetchResponseGroupTopicPartition) (dc := [.int .i32 0, .int .i64 0, .int .i32 (-1), .pointer none, .int .i16 0, .map none]) defOffsetFetchResponseGroupTopicPartition (by kernel_rfl) (by kernel_rfl) rfl rfl rfl (by kernel_rfl)
def tfsOffsetFetchResponseGroupTopicPartition : List (List FV → PT) := [fun fs => tellPrim (fvGet fs 0), fun fs => tellPrim (fvGet fs 1), fun fs => tellPrim (fvGet fs 2), fun fs => tellPrim (fvGet fs 3), fun fs => tellPrim (fvGet fs 4)]
def tssOffsetFetchResponseGroupTopicPartition : List TStep := [.num 0 21 0, .num64 1 1, .num 2 21 2, .call 86 3 108 3, .num 4 46 4]
theorem tsokOffsetFetchResponseGroupTopicPartition : StepsTell P N 122 tysOffsetFetchResponseGroupTopicPartition tssOffsetFetchResponseGroupTopicPartition tfsOffsetFetchResponseGroupTopicPartition 0 := ⟨told_num tyZ tellF ⟨by kernel_rfl, rfl, rfl⟩ (by kernel_rfl) (by kernel_rfl) fits_i32, told_num64 tyZ tellF ⟨by kernel_rfl, rfl, rfl⟩, told_num tyZ tellF ⟨by kernel_rfl, rfl, rfl⟩ (by kernel_rfl) (by kernel_rfl) fits_i32, told_call tyZ ⟨by kernel_rfl, rfl, rfl⟩ (by kernel_rfl) cText, told_num tyZ tellF ⟨by kernel_rfl, rfl, rfl⟩ (by kernel_rfl) (by kernel_rfl) fits_i16, trivial⟩
def gpOffsetFetchResponseGroupTopicPartition (fs : List FV) : PT := .mk 0 [] false (tfsOffsetFetchResponseGroupTopicPartition.map (· fs)) (tellTags (fvGet fs 5))
theorem toldOffsetFetchResponseGroupTopicPartition : TellOf P 88 tysOffsetFetchResponseGroupTopicPartition gpOffsetFetchResponseGroupTopicPartition := told_tags (S := 122) (N := 5) (g := 97) (ss := tssOffsetFetchResponseGroupTopicPartition) rdF tyZ tellF (closure_gives rdF tyZ octF rowTg tagPlan (by kernel_rfl)) hEach hSorted (by kernel_rfl) rfl (by decide) tsokOffsetFetchResponseGroupTopicPartition ⟨by kernel_rfl, rfl, rfl⟩

def tysOffsetFetchResponseGroupTopic : List Ty := [.text, .uuid, .list (tysOffsetFetchResponseGroupTopicPartition), .tags]
def lsOffsetFetchResponseGroupTopic : List Nat := [1, 16, 1, 1]
def zfOffsetFetchResponseGroupTopic : List FV := [.text [], .uuid (List.replicate 16 0), .list true [], .tags []]
def dfOffsetFetchResponseGroupTopic : List FV := [.text [], .uuid (List.replicate 16 0), .list true [], .tags []]
def dsOffsetFetchResponseGroupTopic : List Dset := []
theorem dsokOffsetFetchResponseGroupTopic : DsetsOk P 119 lsOffsetFetchResponseGroupTopic dsOffsetFetchResponseGroupTopic := trivial
theorem defOffsetFetchResponseGroupTopic : DefSets P 68 lsOffsetFetchResponseGroupTopic dsOffsetFetchResponseGroupTopic := default_gives rdF.mix (by kernel_rfl) dsokOffsetFetchResponseGroupTopic
theorem dokOffsetFetchResponseGroupTopic : DefOk P 68 119 dfOffsetFetchResponseGroupTopic := DefSets.ok (z := .agg ⟨[.string (strOf []), .int .u8 0, .int .u8 0, .int .u8 0, .int .u8 0, .int .u8 0, .int .u8 0, .int .u8 0, .int .u8 0, .int .u8 0, .int .u8 0, .int .u8 0, .int .u8 0, .int .u8 0, .int .u8 0, .int .u8 0, .int .u8 0, .slice none 0 0, .map none]⟩) (zfs := zfOffsetFetchResponseGroupTopic) (dc := [.string (strOf []), .int .u8 0, .int .u8 0, .int .u8 0, .int .u8 0, .int .u8 0, .int .u8 0, .int .u8 0, .int .u8 0, .int .u8 0, .int .u8 0, .int .u8 0, .int .u8 0, .int .u8 0, .int .u8 0, .int .u8 0, .int .u8 0, .slice none 0 0, .map none]) defOffsetFetchResponseGroupTopic (by kernel_rfl) (by kernel_rfl) rfl rfl rfl (by kernel_rfl)
def tfsOffsetFetchResponseGroupTopic : List (List FV → PT) := [fun fs => tellPrim (fvGet fs 0), fun fs => tellPrim (fvGet fs 1), fun fs => tellList gpOffsetFetchResponseGroupTopicPartition (fvGet fs 2)]
def tssOffsetFetchResponseGroupTopic : List TStep := [.text 0 0, .uuid 1 1, .list 2 117 2 (.sub 88)]
theorem tsokOffsetFetchResponseGroupTopic : StepsTell P N 119 tysOffsetFetchResponseGroupTopic tssOffsetFetchResponseGroupTopic tfsOffsetFetchResponseGroupTopic 0 := ⟨told_text rdF tyZ tellF oneStr ⟨by kernel_rfl, rfl, rfl⟩, told_uuid rdF tyZ tellF octF uuidF ⟨by kernel_rfl, rfl, rfl⟩, told_list (T := 122) rdF tyZ tellF ⟨by kernel_rfl, rfl, rfl⟩ (by kernel_rfl) (by kernel_rfl) (by kernel_rfl) rfl (el_sub toldOffsetFetchResponseGroupTopicPartition), trivial⟩
def gpOffsetFetchResponseGroupTopic (fs : List FV) : PT := .mk 0 [] false (tfsOffsetFetchResponseGroupTopic.map (· fs)) (tellTags (fvGet fs 3))
theorem toldOffsetFetchResponseGroupTopic : TellOf P 73 tysOffsetFetchResponseGroupTopic gpOffsetFetchResponseGroupTopic := told_tags (S := 119) (N := 3) (g := 89) (ss := tssOffsetFetchResponseGroupTopic) rdF tyZ tellF (closure_gives rdF tyZ octF rowTg tagPlan (by kernel_rfl)) hEach hSorted (by kernel_rfl) rfl (by decide) tsokOffsetFetchResponseGroupTopic ⟨by kernel_rfl, rfl, rfl⟩

def tysOffsetFetchResponseGroup : List Ty := [.text, .list (tysOffsetFetchResponseGroupTopic), .num .i16, .tags]
def lsOffsetFetchResponseGroup : List Nat := [1, 1, 1, 1]
def zfOffsetFetchResponseGroup : List FV := [.text [], .list true [], .one (.int .i16 0), .tags []]
def dfOffsetFetchResponseGroup : List FV := [.text [], .list true [], .one (.int .i16 0), .tags []]
def dsOffsetFetchResponseGroup : List Dset := []
theorem dsokOffsetFetchResponseGroup : DsetsOk P 88 lsOffsetFetchResponseGroup dsOffsetFetchResponseGroup := trivial
theorem defOffsetFetchResponseGroup : DefSets P 67 lsOffsetFetchResponseGroup dsOffsetFetchResponseGroup := default_gives rdF.mix (by kernel_rfl) dsokOffsetFetchResponseGroup
theorem dokOffsetFetchResponseGroup : DefOk P 67 88 dfOffsetFetchResponseGroup := DefSets.ok (z := .agg ⟨[.string (strOf []), .slice none 0 0, .int .i16 0, .map none]⟩) (zfs := zfOffsetFetchResponseGroup) (dc := [.string (strOf []), .slice none 0 0, .int .i16 0, .map none]) defOffsetFetchResponseGroup (by kernel_rfl) (by kernel_rfl) rfl rfl rfl (by kernel_rfl)
def tfsOffsetFetchResponseGroup : List (List FV → PT) := [fun fs => tellPrim (fvGet fs 0), fun fs => tellList gpOffsetFetchResponseGroupTopic (fvGet fs 1), fun fs => tellPrim (fvGet fs 2)]
def tssOffsetFetchResponseGroup : List TStep := [.text 0 0, .list 1 86 1 (.sub 73), .num 2 46 2]
theorem tsokOffsetFetchResponseGroup : StepsTell P N 88 tysOffsetFetchResponseGroup tssOffsetFetchResponseGroup tfsOffsetFetchResponseGroup 0 := ⟨told_text rdF tyZ tellF oneStr ⟨by kernel_rfl, rfl, rfl⟩, told_list (T := 119) rdF tyZ tellF ⟨by kernel_rfl, rfl, rfl⟩ (by kernel_rfl) (by kernel_rfl) (by kernel_rfl) rfl (el_sub toldOffsetFetchResponseGroupTopic), told_num tyZ tellF ⟨by kernel_rfl, rfl, rfl⟩ (by kernel_rfl) (by kernel_rfl) fits_i16, trivial⟩
def gpOffsetFetchResponseGroup (fs : List FV) : PT := .mk 0 [] false (tfsOffsetFetchResponseGroup.map (· fs)) (tellTags (fvGet fs 3))
theorem toldOffsetFetchResponseGroup : TellOf P 36 tysOffsetFetchResponseGroup gpOffsetFetchResponseGroup := told_tags (S := 88) (N := 3) (g := 74) (ss := tssOffsetFetchResponseGroup) rdF tyZ tellF (closure_gives rdF tyZ octF rowTg tagPlan (by kernel_rfl)) hEach hSorted (by kernel_rfl) rfl (by decide) tsokOffsetFetchResponseGroup ⟨by kernel_rfl, rfl, rfl⟩

def tysOffsetFetchResponse : List Ty := [.num .i16, .num .i32, .list (tysOffsetFetchResponseTopic), .num .i16, .list (tysOffsetFetchResponseGroup), .tags]
def lsOffsetFetchResponse : List Nat := [1, 1, 1, 1, 1, 1]
def zfOffsetFetchResponse : List FV := [.one (.int .i16 0), .one (.int .i32 0), .list true [], .one (.int .i16 0), .list true [], .tags []]
def dfOffsetFetchResponse : List FV := [.one (.int .i16 0), .one (.int .i32 0), .list true [], .one (.int .i16 0), .list true [], .tags []]
def dsOffsetFetchResponse : List Dset := []
theorem dsokOffsetFetchResponse : DsetsOk P 77 lsOffsetFetchResponse dsOffsetFetchResponse := trivial
theorem defOffsetFetchResponse : DefSets P 31 lsOffsetFetchResponse dsOffsetFetchResponse := default_gives rdF.mix (by kernel_rfl) dsokOffsetFetchResponse
theorem dokOffsetFetchResponse : DefOk P 31 77 dfOffsetFetchResponse := DefSets.ok (z := .agg ⟨[.int .i16 0, .int .i32 0, .slice none 0 0, .int .i16 0, .slice none 0 0, .map none]⟩) (zfs := zfOffsetFetchResponse) (dc := [.int .i16 0, .int .i32 0, .slice none 0 0, .int .i16 0, .slice none 0 0, .map none]) defOffsetFetchResponse (by kernel_rfl) (by kernel_rfl) rfl rfl rfl (by kernel_rfl)
def tfsOffsetFetchResponse : List (List FV → PT) := [fun fs => tellPrim (fvGet fs 1), fun fs => tellList gpOffsetFetchResponseTopic (fvGet fs 2), fun fs => tellPrim (fvGet fs 3), fun fs => tellList gpOffsetFetchResponseGroup (fvGet fs 4)]
def tssOffsetFetchResponse : List TStep := [.num 1 21 0, .list 2 71 1 (.sub 35), .num 3 46 2, .list 4 72 3 (.sub 36)]
theorem tsokOffsetFetchResponse : StepsTell P N 77 tysOffsetFetchResponse tssOffsetFetchResponse tfsOffsetFetchResponse 0 := ⟨told_num tyZ tellF ⟨by kernel_rfl, rfl, rfl⟩ (by kernel_rfl) (by kernel_rfl) fits_i32, told_list (T := 83) rdF tyZ tellF ⟨by kernel_rfl, rfl, rfl⟩ (by kernel_rfl) (by kernel_rfl) (by kernel_rfl) rfl (el_sub toldOffsetFetchResponseTopic), told_num tyZ tellF ⟨by kernel_rfl, rfl, rfl⟩ (by kernel_rfl) (by kernel_rfl) fits_i16, told_list (T := 88) rdF tyZ tellF ⟨by kernel_rfl, rfl, rfl⟩ (by kernel_rfl) (by kernel_rfl) (by kernel_rfl) rfl (el_sub toldOffsetFetchResponseGroup), trivial⟩
def gpOffsetFetchResponse (fs : List FV) : PT := .mk 0 [] false (tfsOffsetFetchResponse.map (· fs)) (tellTags (fvGet fs 5))
theorem toldOffsetFetchResponse : TellOf P 20 tysOffsetFetchResponse gpOffsetFetchResponse := told_tags (S := 77) (N := 4) (g := 38) (ss := tssOffsetFetchResponse) rdF tyZ tellF (closure_gives rdF tyZ octF rowTg tagPlan (by kernel_rfl)) hEach hSorted (by kernel_rfl) rfl (by decide) tsokOffsetFetchResponse ⟨by kernel_rfl, rfl, rfl⟩

end Go.Proofs.YtcinbiokghpilacGreatDoorRR
