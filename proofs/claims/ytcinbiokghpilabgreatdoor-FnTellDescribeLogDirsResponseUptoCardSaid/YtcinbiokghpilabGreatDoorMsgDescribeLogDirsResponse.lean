/- DescribeLogDirsResponse: its fields, how it is read and told. -/
import Derived.Test.YtcinbiokghpilabGreatDoorParts
namespace Go.Proofs.YtcinbiokghpilabGreatDoor
open Go Go.Kf

def tysDescribeLogDirsResponseDirTopicPartition : List Ty := [.num .i32, .num .i64, .num .i64, .bool, .tags]
def lsDescribeLogDirsResponseDirTopicPartition : List Nat := [1, 1, 1, 1, 1]
def zfDescribeLogDirsResponseDirTopicPartition : List FV := [.one (.int .i32 0), .one (.int .i64 0), .one (.int .i64 0), .one (.bool false), .tags []]
def dfDescribeLogDirsResponseDirTopicPartition : List FV := [.one (.int .i32 0), .one (.int .i64 0), .one (.int .i64 0), .one (.bool false), .tags []]
def dsDescribeLogDirsResponseDirTopicPartition : List Dset := []
theorem dsokDescribeLogDirsResponseDirTopicPartition : DsetsOk P 146 lsDescribeLogDirsResponseDirTopicPartition dsDescribeLogDirsResponseDirTopicPartition := trivial
theorem defDescribeLogDirsResponseDirTopicPartition : DefSets P 102 lsDescribeLogDirsResponseDirTopicPartition dsDescribeLogDirsResponseDirTopicPartition := default_gives rdF.mix (by kernel_rfl) dsokDescribeLogDirsResponseDirTopicPartition
theorem dokDescribeLogDirsResponseDirTopicPartition : DefOk P 102 146 dfDescribeLogDirsResponseDirTopicPartition := DefSets.ok (z := .agg ⟨[.int .i32 0, .int .i64 0, .int .i64 0, .bool false, .map none]⟩) (zfs := zfDescribeLogDirsResponseDirTopicPartition) (dc := [.int .i32 0, .int .i64 0, .int .i64 0, .bool false, .map none]) defDescribeLogDirsResponseDirTopicPartition (by kernel_rfl) (by kernel_rfl) rfl rfl rfl (by kernel_rfl)
def tfsDescribeLogDirsResponseDirTopicPartition : List (List FV → PT) := [fun fs => tellPrim (fvGet fs 0), fun fs => tellPrim (fvGet fs 1), fun fs => tellPrim (fvGet fs 2), fun fs => tellPrim (fvGet fs 3)]
def tssDescribeLogDirsResponseDirTopicPartition : List TStep := [.num 0 21 0, .num64 1 1, .num64 2 2, .call 106 3 4 3]
theorem tsokDescribeLogDirsResponseDirTopicPartition : StepsTell P N 146 tysDescribeLogDirsResponseDirTopicPartition tssDescribeLogDirsResponseDirTopicPartition tfsDescribeLogDirsResponseDirTopicPartition 0 := ⟨told_num tyZ tellF ⟨by kernel_rfl, rfl, rfl⟩ (by kernel_rfl) (by kernel_rfl) fits_i32, told_num64 tyZ tellF ⟨by kernel_rfl, rfl, rfl⟩, told_num64 tyZ tellF ⟨by kernel_rfl, rfl, rfl⟩, told_call tyZ ⟨by kernel_rfl, rfl, rfl⟩ (by kernel_rfl) cBool, trivial⟩
def gpDescribeLogDirsResponseDirTopicPartition (fs : List FV) : PT := .mk 0 [] false (tfsDescribeLogDirsResponseDirTopicPartition.map (· fs)) (tellTags (fvGet fs 4))
theorem toldDescribeLogDirsResponseDirTopicPartition : TellOf P 125 tysDescribeLogDirsResponseDirTopicPartition gpDescribeLogDirsResponseDirTopicPartition := told_tags (S := 146) (N := 4) (g := 149) (ss := tssDescribeLogDirsResponseDirTopicPartition) rdF tyZ tellF (closure_gives rdF tyZ octF rowTg tagPlan (by kernel_rfl)) hEach hSorted (by kernel_rfl) rfl (by decide) tsokDescribeLogDirsResponseDirTopicPartition ⟨by kernel_rfl, rfl, rfl⟩

def tysDescribeLogDirsResponseDirTopic : List Ty := [.text, .list (tysDescribeLogDirsResponseDirTopicPartition), .tags]
def lsDescribeLogDirsResponseDirTopic : List Nat := [1, 1, 1]
def zfDescribeLogDirsResponseDirTopic : List FV := [.text [], .list true [], .tags []]
def dfDescribeLogDirsResponseDirTopic : List FV := [.text [], .list true [], .tags []]
def dsDescribeLogDirsResponseDirTopic : List Dset := []
theorem dsokDescribeLogDirsResponseDirTopic : DsetsOk P 143 lsDescribeLogDirsResponseDirTopic dsDescribeLogDirsResponseDirTopic := trivial
theorem defDescribeLogDirsResponseDirTopic : DefSets P 101 lsDescribeLogDirsResponseDirTopic dsDescribeLogDirsResponseDirTopic := default_gives rdF.mix (by kernel_rfl) dsokDescribeLogDirsResponseDirTopic
theorem dokDescribeLogDirsResponseDirTopic : DefOk P 101 143 dfDescribeLogDirsResponseDirTopic := DefSets.ok (z := .agg ⟨[.string (strOf []), .slice none 0 0, .map none]⟩) (zfs := zfDescribeLogDirsResponseDirTopic) (dc := [.string (strOf []), .slice none 0 0, .map none]) defDescribeLogDirsResponseDirTopic (by kernel_rfl) (by kernel_rfl) rfl rfl rfl (by kernel_rfl)
def tfsDescribeLogDirsResponseDirTopic : List (List FV → PT) := [fun fs => tellPrim (fvGet fs 0), fun fs => tellList gpDescribeLogDirsResponseDirTopicPartition (fvGet fs 1)]
def tssDescribeLogDirsResponseDirTopic : List TStep := [.text 0 0, .list 1 141 1 (.sub 125)]
theorem tsokDescribeLogDirsResponseDirTopic : StepsTell P N 143 tysDescribeLogDirsResponseDirTopic tssDescribeLogDirsResponseDirTopic tfsDescribeLogDirsResponseDirTopic 0 := ⟨told_text rdF tyZ tellF oneStr ⟨by kernel_rfl, rfl, rfl⟩, told_list (T := 146) rdF tyZ tellF ⟨by kernel_rfl, rfl, rfl⟩ (by kernel_rfl) (by kernel_rfl) (by kernel_rfl) rfl (el_sub toldDescribeLogDirsResponseDirTopicPartition), trivial⟩
def gpDescribeLogDirsResponseDirTopic (fs : List FV) : PT := .mk 0 [] false (tfsDescribeLogDirsResponseDirTopic.map (· fs)) (tellTags (fvGet fs 2))
theorem toldDescribeLogDirsResponseDirTopic : TellOf P 105 tysDescribeLogDirsResponseDirTopic gpDescribeLogDirsResponseDirTopic := told_tags (S := 143) (N := 2) (g := 126) (ss := tssDescribeLogDirsResponseDirTopic) rdF tyZ tellF (closure_gives rdF tyZ octF rowTg tagPlan (by kernel_rfl)) hEach hSorted (by kernel_rfl) rfl (by decide) tsokDescribeLogDirsResponseDirTopic ⟨by kernel_rfl, rfl, rfl⟩

def tysDescribeLogDirsResponseDir : List Ty := [.num .i16, .text, .list (tysDescribeLogDirsResponseDirTopic), .num .i64, .num .i64, .bool, .tags]
def lsDescribeLogDirsResponseDir : List Nat := [1, 1, 1, 1, 1, 1, 1]
def zfDescribeLogDirsResponseDir : List FV := [.one (.int .i16 0), .text [], .list true [], .one (.int .i64 0), .one (.int .i64 0), .one (.bool false), .tags []]
def dfDescribeLogDirsResponseDir : List FV := [.one (.int .i16 0), .text [], .list true [], .one (.int .i64 (-1)), .one (.int .i64 (-1)), .one (.bool false), .tags []]
def dsDescribeLogDirsResponseDir : List Dset := [.set 3 2 3 (.int .i64 (-1)), .set 4 2 4 (.int .i64 (-1))]
theorem dsokDescribeLogDirsResponseDir : DsetsOk P 109 lsDescribeLogDirsResponseDir dsDescribeLogDirsResponseDir := ⟨⟨⟨by kernel_rfl, rfl, rfl⟩, by kernel_rfl, rfl⟩, ⟨⟨by kernel_rfl, rfl, rfl⟩, by kernel_rfl, rfl⟩, trivial⟩
theorem defDescribeLogDirsResponseDir : DefSets P 100 lsDescribeLogDirsResponseDir dsDescribeLogDirsResponseDir := default_gives rdF.mix (by kernel_rfl) dsokDescribeLogDirsResponseDir
theorem dokDescribeLogDirsResponseDir : DefOk P 100 109 dfDescribeLogDirsResponseDir := DefSets.ok (z := .agg ⟨[.int .i16 0, .string (strOf []), .slice none 0 0, .int .i64 0, .int .i64 0, .bool false, .map none]⟩) (zfs := zfDescribeLogDirsResponseDir) (dc := [.int .i16 0, .string (strOf []), .slice none 0 0, .int .i64 (-1), .int .i64 (-1), .bool false, .map none]) defDescribeLogDirsResponseDir (by kernel_rfl) (by kernel_rfl) rfl rfl rfl (by kernel_rfl)
def tfsDescribeLogDirsResponseDir : List (List FV → PT) := [fun fs => tellPrim (fvGet fs 0), fun fs => tellPrim (fvGet fs 1), fun fs => tellList gpDescribeLogDirsResponseDirTopic (fvGet fs 2), fun fs => tellPrim (fvGet fs 3), fun fs => tellPrim (fvGet fs 4), fun fs => tellPrim (fvGet fs 5)]
def tssDescribeLogDirsResponseDir : List TStep := [.num 0 46 0, .text 1 1, .list 2 107 2 (.sub 105), .num64 3 3, .num64 4 4, .call 106 5 4 5]
theorem tsokDescribeLogDirsResponseDir : StepsTell P N 109 tysDescribeLogDirsResponseDir tssDescribeLogDirsResponseDir tfsDescribeLogDirsResponseDir 0 := ⟨told_num tyZ tellF ⟨by kernel_rfl, rfl, rfl⟩ (by kernel_rfl) (by kernel_rfl) fits_i16, told_text rdF tyZ tellF oneStr ⟨by kernel_rfl, rfl, rfl⟩, told_list (T := 143) rdF tyZ tellF ⟨by kernel_rfl, rfl, rfl⟩ (by kernel_rfl) (by kernel_rfl) (by kernel_rfl) rfl (el_sub toldDescribeLogDirsResponseDirTopic), told_num64 tyZ tellF ⟨by kernel_rfl, rfl, rfl⟩, told_num64 tyZ tellF ⟨by kernel_rfl, rfl, rfl⟩, told_call tyZ ⟨by kernel_rfl, rfl, rfl⟩ (by kernel_rfl) cBool, trivial⟩
def gpDescribeLogDirsResponseDir (fs : List FV) : PT := .mk 0 [] false (tfsDescribeLogDirsResponseDir.map (· fs)) (tellTags (fvGet fs 6))
theorem toldDescribeLogDirsResponseDir : TellOf P 68 tysDescribeLogDirsResponseDir gpDescribeLogDirsResponseDir := told_tags (S := 109) (N := 6) (g := 107) (ss := tssDescribeLogDirsResponseDir) rdF tyZ tellF (closure_gives rdF tyZ octF rowTg tagPlan (by kernel_rfl)) hEach hSorted (by kernel_rfl) rfl (by decide) tsokDescribeLogDirsResponseDir ⟨by kernel_rfl, rfl, rfl⟩

def tysDescribeLogDirsResponse : List Ty := [.num .i16, .num .i32, .num .i16, .list (tysDescribeLogDirsResponseDir), .tags]
def lsDescribeLogDirsResponse : List Nat := [1, 1, 1, 1, 1]
def zfDescribeLogDirsResponse : List FV := [.one (.int .i16 0), .one (.int .i32 0), .one (.int .i16 0), .list true [], .tags []]
def dfDescribeLogDirsResponse : List FV := [.one (.int .i16 0), .one (.int .i32 0), .one (.int .i16 0), .list true [], .tags []]
def dsDescribeLogDirsResponse : List Dset := []
theorem dsokDescribeLogDirsResponse : DsetsOk P 104 lsDescribeLogDirsResponse dsDescribeLogDirsResponse := trivial
theorem defDescribeLogDirsResponse : DefSets P 65 lsDescribeLogDirsResponse dsDescribeLogDirsResponse := default_gives rdF.mix (by kernel_rfl) dsokDescribeLogDirsResponse
theorem dokDescribeLogDirsResponse : DefOk P 65 104 dfDescribeLogDirsResponse := DefSets.ok (z := .agg ⟨[.int .i16 0, .int .i32 0, .int .i16 0, .slice none 0 0, .map none]⟩) (zfs := zfDescribeLogDirsResponse) (dc := [.int .i16 0, .int .i32 0, .int .i16 0, .slice none 0 0, .map none]) defDescribeLogDirsResponse (by kernel_rfl) (by kernel_rfl) rfl rfl rfl (by kernel_rfl)
def tfsDescribeLogDirsResponse : List (List FV → PT) := [fun fs => tellPrim (fvGet fs 1), fun fs => tellPrim (fvGet fs 2), fun fs => tellList gpDescribeLogDirsResponseDir (fvGet fs 3)]
def tssDescribeLogDirsResponse : List TStep := [.num 1 21 0, .num 2 46 1, .list 3 102 2 (.sub 68)]
theorem tsokDescribeLogDirsResponse : StepsTell P N 104 tysDescribeLogDirsResponse tssDescribeLogDirsResponse tfsDescribeLogDirsResponse 0 := ⟨told_num tyZ tellF ⟨by kernel_rfl, rfl, rfl⟩ (by kernel_rfl) (by kernel_rfl) fits_i32, told_num tyZ tellF ⟨by kernel_rfl, rfl, rfl⟩ (by kernel_rfl) (by kernel_rfl) fits_i16, told_list (T := 109) rdF tyZ tellF ⟨by kernel_rfl, rfl, rfl⟩ (by kernel_rfl) (by kernel_rfl) (by kernel_rfl) rfl (el_sub toldDescribeLogDirsResponseDir), trivial⟩
def gpDescribeLogDirsResponse (fs : List FV) : PT := .mk 0 [] false (tfsDescribeLogDirsResponse.map (· fs)) (tellTags (fvGet fs 4))
theorem toldDescribeLogDirsResponse : TellOf P 42 tysDescribeLogDirsResponse gpDescribeLogDirsResponse := told_tags (S := 104) (N := 3) (g := 69) (ss := tssDescribeLogDirsResponse) rdF tyZ tellF (closure_gives rdF tyZ octF rowTg tagPlan (by kernel_rfl)) hEach hSorted (by kernel_rfl) rfl (by decide) tsokDescribeLogDirsResponse ⟨by kernel_rfl, rfl, rfl⟩

end Go.Proofs.YtcinbiokghpilabGreatDoor
