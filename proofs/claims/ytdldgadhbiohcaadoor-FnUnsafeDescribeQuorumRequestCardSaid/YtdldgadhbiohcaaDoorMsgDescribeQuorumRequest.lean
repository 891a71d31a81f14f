/- DescribeQuorumRequest: its fields, how it is read and told. -/
import Derived.Test.YtdldgadhbiohcaaDoorParts
namespace Go.Proofs.YtdldgadhbiohcaaDoor
open Go Go.Kf

def tysDescribeQuorumRequestTopicPartition : List Ty := [.num .i32, .tags]
def lsDescribeQuorumRequestTopicPartition : List Nat := [1, 1]
def zfDescribeQuorumRequestTopicPartition : List FV := [.one (.int .i32 0), .tags []]
def dfDescribeQuorumRequestTopicPartition : List FV := [.one (.int .i32 0), .tags []]
def dsDescribeQuorumRequestTopicPartition : List Dset := []
theorem dsokDescribeQuorumRequestTopicPartition : DsetsOk P 87 lsDescribeQuorumRequestTopicPartition dsDescribeQuorumRequestTopicPartition := fun d hd => by cases hd
theorem defDescribeQuorumRequestTopicPartition : DefSets P 48 lsDescribeQuorumRequestTopicPartition dsDescribeQuorumRequestTopicPartition := default_gives rdF.mix (by kernel_rfl) dsokDescribeQuorumRequestTopicPartition
theorem dokDescribeQuorumRequestTopicPartition : DefOk P 48 87 dfDescribeQuorumRequestTopicPartition := DefSets.ok (z := .agg ⟨[.int .i32 0, .map none]⟩) (zfs := zfDescribeQuorumRequestTopicPartition) (dc := [.int .i32 0, .map none]) defDescribeQuorumRequestTopicPartition (by kernel_rfl) (by kernel_rfl) rfl rfl (by kernel_rfl)
def tfsDescribeQuorumRequestTopicPartition : List (List FV → PT) := [fun fs => tellPrim (fvGet fs 0)]
def tssDescribeQuorumRequestTopicPartition : List TStep := [.num 0 21 0]
theorem tsokDescribeQuorumRequestTopicPartition : StepsTell P N 87 tysDescribeQuorumRequestTopicPartition tssDescribeQuorumRequestTopicPartition tfsDescribeQuorumRequestTopicPartition 0 := ⟨told_num tyZ tellF ⟨by kernel_rfl, rfl, rfl⟩ (by kernel_rfl) (by kernel_rfl) fits_i32, trivial⟩
def gpDescribeQuorumRequestTopicPartition (fs : List FV) : PT := .mk 0 [] false (tfsDescribeQuorumRequestTopicPartition.map (· fs)) (tellTags (fvGet fs 1))
theorem toldDescribeQuorumRequestTopicPartition : TellOf P 50 tysDescribeQuorumRequestTopicPartition gpDescribeQuorumRequestTopicPartition := told_tags (S := 87) (N := 1) (g := 63) (ss := tssDescribeQuorumRequestTopicPartition) rdF tyZ tellF (closure_gives rdF tyZ octF rowTg tagPlan (by kernel_rfl)) hEach hSorted (by kernel_rfl) rfl (by decide) tsokDescribeQuorumRequestTopicPartition ⟨by kernel_rfl, rfl, rfl⟩

def tysDescribeQuorumRequestTopic : List Ty := [.text, .list (tysDescribeQuorumRequestTopicPartition), .tags]
def lsDescribeQuorumRequestTopic : List Nat := [1, 1, 1]
def zfDescribeQuorumRequestTopic : List FV := [.text [], .list true [], .tags []]
def dfDescribeQuorumRequestTopic : List FV := [.text [], .list true [], .tags []]
def dsDescribeQuorumRequestTopic : List Dset := []
theorem dsokDescribeQuorumRequestTopic : DsetsOk P 72 lsDescribeQuorumRequestTopic dsDescribeQuorumRequestTopic := fun d hd => by cases hd
theorem defDescribeQuorumRequestTopic : DefSets P 47 lsDescribeQuorumRequestTopic dsDescribeQuorumRequestTopic := default_gives rdF.mix (by kernel_rfl) dsokDescribeQuorumRequestTopic
theorem dokDescribeQuorumRequestTopic : DefOk P 47 72 dfDescribeQuorumRequestTopic := DefSets.ok (z := .agg ⟨[.string (strOf []), .slice none 0 0, .map none]⟩) (zfs := zfDescribeQuorumRequestTopic) (dc := [.string (strOf []), .slice none 0 0, .map none]) defDescribeQuorumRequestTopic (by kernel_rfl) (by kernel_rfl) rfl rfl (by kernel_rfl)
def tfsDescribeQuorumRequestTopic : List (List FV → PT) := [fun fs => tellPrim (fvGet fs 0), fun fs => tellList gpDescribeQuorumRequestTopicPartition (fvGet fs 1)]
def tssDescribeQuorumRequestTopic : List TStep := [.text 0 0, .list 1 70 1 (.sub 50)]
theorem tsokDescribeQuorumRequestTopic : StepsTell P N 72 tysDescribeQuorumRequestTopic tssDescribeQuorumRequestTopic tfsDescribeQuorumRequestTopic 0 := ⟨told_text rdF tyZ tellF oneStr ⟨by kernel_rfl, rfl, rfl⟩, told_list (T := 87) rdF tyZ tellF ⟨by kernel_rfl, rfl, rfl⟩ (by kernel_rfl) (by kernel_rfl) (by kernel_rfl) rfl (el_sub toldDescribeQuorumRequestTopicPartition), trivial⟩
def gpDescribeQuorumRequestTopic (fs : List FV) : PT := .mk 0 [] false (tfsDescribeQuorumRequestTopic.map (· fs)) (tellTags (fvGet fs 2))
theorem toldDescribeQuorumRequestTopic : TellOf P 34 tysDescribeQuorumRequestTopic gpDescribeQuorumRequestTopic := told_tags (S := 72) (N := 2) (g := 51) (ss := tssDescribeQuorumRequestTopic) rdF tyZ tellF (closure_gives rdF tyZ octF rowTg tagPlan (by kernel_rfl)) hEach hSorted (by kernel_rfl) rfl (by decide) tsokDescribeQuorumRequestTopic ⟨by kernel_rfl, rfl, rfl⟩

def tysDescribeQuorumRequest : List Ty := [.num .i16, .list (tysDescribeQuorumRequestTopic), .tags]
def lsDescribeQuorumRequest : List Nat := [1, 1, 1]
def zfDescribeQuorumRequest : List FV := [.one (.int .i16 0), .list true [], .tags []]
def dfDescribeQuorumRequest : List FV := [.one (.int .i16 0), .list true [], .tags []]
def dsDescribeQuorumRequest : List Dset := []
theorem dsokDescribeQuorumRequest : DsetsOk P 67 lsDescribeQuorumRequest dsDescribeQuorumRequest := fun d hd => by cases hd
theorem defDescribeQuorumRequest : DefSets P 32 lsDescribeQuorumRequest dsDescribeQuorumRequest := default_gives rdF.mix (by kernel_rfl) dsokDescribeQuorumRequest
theorem dokDescribeQuorumRequest : DefOk P 32 67 dfDescribeQuorumRequest := DefSets.ok (z := .agg ⟨[.int .i16 0, .slice none 0 0, .map none]⟩) (zfs := zfDescribeQuorumRequest) (dc := [.int .i16 0, .slice none 0 0, .map none]) defDescribeQuorumRequest (by kernel_rfl) (by kernel_rfl) rfl rfl (by kernel_rfl)
def tfsDescribeQuorumRequest : List (List FV → PT) := [fun fs => tellList gpDescribeQuorumRequestTopic (fvGet fs 1)]
def tssDescribeQuorumRequest : List TStep := [.list 1 65 0 (.sub 34)]
theorem tsokDescribeQuorumRequest : StepsTell P N 67 tysDescribeQuorumRequest tssDescribeQuorumRequest tfsDescribeQuorumRequest 0 := ⟨told_list (T := 72) rdF tyZ tellF ⟨by kernel_rfl, rfl, rfl⟩ (by kernel_rfl) (by kernel_rfl) (by kernel_rfl) rfl (el_sub toldDescribeQuorumRequestTopic), trivial⟩
def gpDescribeQuorumRequest (fs : List FV) : PT := .mk 0 [] false (tfsDescribeQuorumRequest.map (· fs)) (tellTags (fvGet fs 2))
theorem toldDescribeQuorumRequest : TellOf P 25 tysDescribeQuorumRequest gpDescribeQuorumRequest := told_tags (S := 67) (N := 1) (g := 35) (ss := tssDescribeQuorumRequest) rdF tyZ tellF (closure_gives rdF tyZ octF rowTg tagPlan (by kernel_rfl)) hEach hSorted (by kernel_rfl) rfl (by decide) tsokDescribeQuorumRequest ⟨by kernel_rfl, rfl, rfl⟩

end Go.Proofs.YtdldgadhbiohcaaDoor
