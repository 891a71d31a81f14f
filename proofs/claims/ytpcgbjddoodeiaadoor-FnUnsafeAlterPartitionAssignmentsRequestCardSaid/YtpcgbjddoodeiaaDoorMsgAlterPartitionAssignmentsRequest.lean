/- AlterPartitionAssignmentsRequest: its fields, how it is read and told. -/
import Derived.Test.YtpcgbjddoodeiaaDoorParts
namespace Go.Proofs.YtpcgbjddoodeiaaDoor
open Go Go.Kf

def tysAlterPartitionAssignmentsRequestTopicPartition : List Ty := [.num .i32, .list [.num .i32], .tags]
def lsAlterPartitionAssignmentsRequestTopicPartition : List Nat := [1, 1, 1]
def zfAlterPartitionAssignmentsRequestTopicPartition : List FV := [.one (.int .i32 0), .list true [], .tags []]
def dfAlterPartitionAssignmentsRequestTopicPartition : List FV := [.one (.int .i32 0), .list true [], .tags []]
def dsAlterPartitionAssignmentsRequestTopicPartition : List Dset := []
theorem dsokAlterPartitionAssignmentsRequestTopicPartition : DsetsOk P 129 lsAlterPartitionAssignmentsRequestTopicPartition dsAlterPartitionAssignmentsRequestTopicPartition := trivial
theorem defAlterPartitionAssignmentsRequestTopicPartition : DefSets P 84 lsAlterPartitionAssignmentsRequestTopicPartition dsAlterPartitionAssignmentsRequestTopicPartition := default_gives rdF.mix (by kernel_rfl) dsokAlterPartitionAssignmentsRequestTopicPartition
theorem dokAlterPartitionAssignmentsRequestTopicPartition : DefOk P 84 129 dfAlterPartitionAssignmentsRequestTopicPartition := DefSets.ok (z := .agg ⟨[.int .i32 0, .slice none 0 0, .map none]⟩) (zfs := zfAlterPartitionAssignmentsRequestTopicPartition) (dc := [.int .i32 0, .slice none 0 0, .map none]) defAlterPartitionAssignmentsRequestTopicPartition (by kernel_rfl) (by kernel_rfl) rfl rfl rfl (by kernel_rfl)
def tfsAlterPartitionAssignmentsRequestTopicPartition : List (List FV → PT) := [fun fs => tellPrim (fvGet fs 0), fun fs => tellList (fun r => tellPrim (fvGet r 0)) (fvGet fs 1)]
def tssAlterPartitionAssignmentsRequestTopicPartition : List TStep := [.num 0 21 0, .list 1 127 1 (.num 21)]
theorem tsokAlterPartitionAssignmentsRequestTopicPartition : StepsTell P N 129 tysAlterPartitionAssignmentsRequestTopicPartition tssAlterPartitionAssignmentsRequestTopicPartition tfsAlterPartitionAssignmentsRequestTopicPartition 0 := ⟨told_num tyZ tellF ⟨by kernel_rfl, rfl, rfl⟩ (by kernel_rfl) (by kernel_rfl) fits_i32, told_list (T := 21) rdF tyZ tellF ⟨by kernel_rfl, rfl, rfl⟩ (by kernel_rfl) (by kernel_rfl) (by kernel_rfl) rfl (el_num (by kernel_rfl) (by kernel_rfl) fits_i32), trivial⟩
def gpAlterPartitionAssignmentsRequestTopicPartition (fs : List FV) : PT := .mk 0 [] false (tfsAlterPartitionAssignmentsRequestTopicPartition.map (· fs)) (tellTags (fvGet fs 2))
theorem toldAlterPartitionAssignmentsRequestTopicPartition : TellOf P 85 tysAlterPartitionAssignmentsRequestTopicPartition gpAlterPartitionAssignmentsRequestTopicPartition := told_tags (S := 129) (N := 2) (g := 102) (ss := tssAlterPartitionAssignmentsRequestTopicPartition) rdF tyZ tellF (closure_gives rdF tyZ octF rowTg tagPlan (by kernel_rfl)) hEach hSorted (by kernel_rfl) rfl (by decide) tsokAlterPartitionAssignmentsRequestTopicPartition ⟨by kernel_rfl, rfl, rfl⟩

def tysAlterPartitionAssignmentsRequestTopic : List Ty := [.text, .list (tysAlterPartitionAssignmentsRequestTopicPartition), .tags]
def lsAlterPartitionAssignmentsRequestTopic : List Nat := [1, 1, 1]
def zfAlterPartitionAssignmentsRequestTopic : List FV := [.text [], .list true [], .tags []]
def dfAlterPartitionAssignmentsRequestTopic : List FV := [.text [], .list true [], .tags []]
def dsAlterPartitionAssignmentsRequestTopic : List Dset := []
theorem dsokAlterPartitionAssignmentsRequestTopic : DsetsOk P 90 lsAlterPartitionAssignmentsRequestTopic dsAlterPartitionAssignmentsRequestTopic := trivial
theorem defAlterPartitionAssignmentsRequestTopic : DefSets P 83 lsAlterPartitionAssignmentsRequestTopic dsAlterPartitionAssignmentsRequestTopic := default_gives rdF.mix (by kernel_rfl) dsokAlterPartitionAssignmentsRequestTopic
theorem dokAlterPartitionAssignmentsRequestTopic : DefOk P 83 90 dfAlterPartitionAssignmentsRequestTopic := DefSets.ok (z := .agg ⟨[.string (strOf []), .slice none 0 0, .map none]⟩) (zfs := zfAlterPartitionAssignmentsRequestTopic) (dc := [.string (strOf []), .slice none 0 0, .map none]) defAlterPartitionAssignmentsRequestTopic (by kernel_rfl) (by kernel_rfl) rfl rfl rfl (by kernel_rfl)
def tfsAlterPartitionAssignmentsRequestTopic : List (List FV → PT) := [fun fs => tellPrim (fvGet fs 0), fun fs => tellList gpAlterPartitionAssignmentsRequestTopicPartition (fvGet fs 1)]
def tssAlterPartitionAssignmentsRequestTopic : List TStep := [.text 0 0, .list 1 88 1 (.sub 85)]
theorem tsokAlterPartitionAssignmentsRequestTopic : StepsTell P N 90 tysAlterPartitionAssignmentsRequestTopic tssAlterPartitionAssignmentsRequestTopic tfsAlterPartitionAssignmentsRequestTopic 0 := ⟨told_text rdF tyZ tellF oneStr ⟨by kernel_rfl, rfl, rfl⟩, told_list (T := 129) rdF tyZ tellF ⟨by kernel_rfl, rfl, rfl⟩ (by kernel_rfl) (by kernel_rfl) (by kernel_rfl) rfl (el_sub toldAlterPartitionAssignmentsRequestTopicPartition), trivial⟩
def gpAlterPartitionAssignmentsRequestTopic (fs : List FV) : PT := .mk 0 [] false (tfsAlterPartitionAssignmentsRequestTopic.map (· fs)) (tellTags (fvGet fs 2))
theorem toldAlterPartitionAssignmentsRequestTopic : TellOf P 50 tysAlterPartitionAssignmentsRequestTopic gpAlterPartitionAssignmentsRequestTopic := told_tags (S := 90) (N := 2) (g := 86) (ss := tssAlterPartitionAssignmentsRequestTopic) rdF tyZ tellF (closure_gives rdF tyZ octF rowTg tagPlan (by kernel_rfl)) hEach hSorted (by kernel_rfl) rfl (by decide) tsokAlterPartitionAssignmentsRequestTopic ⟨by kernel_rfl, rfl, rfl⟩

def tysAlterPartitionAssignmentsRequest : List Ty := [.num .i16, .num .i32, .bool, .list (tysAlterPartitionAssignmentsRequestTopic), .tags]
def lsAlterPartitionAssignmentsRequest : List Nat := [1, 1, 1, 1, 1]
def zfAlterPartitionAssignmentsRequest : List FV := [.one (.int .i16 0), .one (.int .i32 0), .one (.bool false), .list true [], .tags []]
def dfAlterPartitionAssignmentsRequest : List FV := [.one (.int .i16 0), .one (.int .i32 60000), .one (.bool true), .list true [], .tags []]
def dsAlterPartitionAssignmentsRequest : List Dset := [.set 1 21 1 (.int .i32 60000), .set 2 4 2 (.bool true)]
theorem dsokAlterPartitionAssignmentsRequest : DsetsOk P 84 lsAlterPartitionAssignmentsRequest dsAlterPartitionAssignmentsRequest := ⟨⟨⟨by kernel_rfl, rfl, rfl⟩, by kernel_rfl, rfl⟩, ⟨⟨by kernel_rfl, rfl, rfl⟩, by kernel_rfl, rfl⟩, trivial⟩
theorem defAlterPartitionAssignmentsRequest : DefSets P 47 lsAlterPartitionAssignmentsRequest dsAlterPartitionAssignmentsRequest := default_gives rdF.mix (by kernel_rfl) dsokAlterPartitionAssignmentsRequest
theorem dokAlterPartitionAssignmentsRequest : DefOk P 47 84 dfAlterPartitionAssignmentsRequest := DefSets.ok (z := .agg ⟨[.int .i16 0, .int .i32 0, .bool false, .slice none 0 0, .map none]⟩) (zfs := zfAlterPartitionAssignmentsRequest) (dc := [.int .i16 0, .int .i32 60000, .bool true, .slice none 0 0, .map none]) defAlterPartitionAssignmentsRequest (by kernel_rfl) (by kernel_rfl) rfl rfl rfl (by kernel_rfl)
def tfsAlterPartitionAssignmentsRequest : List (List FV → PT) := [fun fs => tellPrim (fvGet fs 1), fun fs => tellPrim (fvGet fs 2), fun fs => tellList gpAlterPartitionAssignmentsRequestTopic (fvGet fs 3)]
def tssAlterPartitionAssignmentsRequest : List TStep := [.num 1 21 0, .call 49 2 4 1, .list 3 82 2 (.sub 50)]
theorem tsokAlterPartitionAssignmentsRequest : StepsTell P N 84 tysAlterPartitionAssignmentsRequest tssAlterPartitionAssignmentsRequest tfsAlterPartitionAssignmentsRequest 0 := ⟨told_num tyZ tellF ⟨by kernel_rfl, rfl, rfl⟩ (by kernel_rfl) (by kernel_rfl) fits_i32, told_call tyZ ⟨by kernel_rfl, rfl, rfl⟩ (by kernel_rfl) cBool, told_list (T := 90) rdF tyZ tellF ⟨by kernel_rfl, rfl, rfl⟩ (by kernel_rfl) (by kernel_rfl) (by kernel_rfl) rfl (el_sub toldAlterPartitionAssignmentsRequestTopic), trivial⟩
def gpAlterPartitionAssignmentsRequest (fs : List FV) : PT := .mk 0 [] false (tfsAlterPartitionAssignmentsRequest.map (· fs)) (tellTags (fvGet fs 4))
theorem toldAlterPartitionAssignmentsRequest : TellOf P 35 tysAlterPartitionAssignmentsRequest gpAlterPartitionAssignmentsRequest := told_tags (S := 84) (N := 3) (g := 51) (ss := tssAlterPartitionAssignmentsRequest) rdF tyZ tellF (closure_gives rdF tyZ octF rowTg tagPlan (by kernel_rfl)) hEach hSorted (by kernel_rfl) rfl (by decide) tsokAlterPartitionAssignmentsRequest ⟨by kernel_rfl, rfl, rfl⟩

end Go.Proofs.YtpcgbjddoodeiaaDoor
