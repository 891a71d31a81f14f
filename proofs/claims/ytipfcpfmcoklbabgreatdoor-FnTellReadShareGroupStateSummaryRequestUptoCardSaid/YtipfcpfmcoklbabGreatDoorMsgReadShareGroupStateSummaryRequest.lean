/- ReadShareGroupStateSummaryRequest: its fields, how it is read and told. -/
import Derived.Test.YtipfcpfmcoklbabGreatDoorParts
namespace Go.Proofs.YtipfcpfmcoklbabGreatDoor
open Go Go.Kf

def tysReadShareGroupStateSummaryRequestTopicPartition : List Ty := [.num .i32, .num .i32, .tags]
def lsReadShareGroupStateSummaryRequestTopicPartition : List Nat := [1, 1, 1]
def zfReadShareGroupStateSummaryRequestTopicPartition : List FV := [.one (.int .i32 0), .one (.int .i32 0), .tags []]
def dfReadShareGroupStateSummaryRequestTopicPartition : List FV := [.one (.int .i32 0), .one (.int .i32 0), .tags []]
def dsReadShareGroupStateSummaryRequestTopicPartition : List Dset := []
theorem dsokReadShareGroupStateSummaryRequestTopicPartition : DsetsOk P 126 lsReadShareGroupStateSummaryRequestTopicPartition dsReadShareGroupStateSummaryRequestTopicPartition := trivial
theorem defReadShareGroupStateSummaryRequestTopicPartition : DefSets P 82 lsReadShareGroupStateSummaryRequestTopicPartition dsReadShareGroupStateSummaryRequestTopicPartition := default_gives rdF.mix (by kernel_rfl) dsokReadShareGroupStateSummaryRequestTopicPartition
theorem dokReadShareGroupStateSummaryRequestTopicPartition : DefOk P 82 126 dfReadShareGroupStateSummaryRequestTopicPartition := DefSets.ok (z := .agg ⟨[.int .i32 0, .int .i32 0, .map none]⟩) (zfs := zfReadShareGroupStateSummaryRequestTopicPartition) (dc := [.int .i32 0, .int .i32 0, .map none]) defReadShareGroupStateSummaryRequestTopicPartition (by kernel_rfl) (by kernel_rfl) rfl rfl rfl (by kernel_rfl)
def tfsReadShareGroupStateSummaryRequestTopicPartition : List (List FV → PT) := [fun fs => tellPrim (fvGet fs 0), fun fs => tellPrim (fvGet fs 1)]
def tssReadShareGroupStateSummaryRequestTopicPartition : List TStep := [.num 0 21 0, .num 1 21 1]
theorem tsokReadShareGroupStateSummaryRequestTopicPartition : StepsTell P N 126 tysReadShareGroupStateSummaryRequestTopicPartition tssReadShareGroupStateSummaryRequestTopicPartition tfsReadShareGroupStateSummaryRequestTopicPartition 0 := ⟨told_num tyZ tellF ⟨by kernel_rfl, rfl, rfl⟩ (by kernel_rfl) (by kernel_rfl) fits_i32, told_num tyZ tellF ⟨by kernel_rfl, rfl, rfl⟩ (by kernel_rfl) (by kernel_rfl) fits_i32, trivial⟩
def gpReadShareGroupStateSummaryRequestTopicPartition (fs : List FV) : PT := .mk 0 [] false (tfsReadShareGroupStateSummaryRequestTopicPartition.map (· fs)) (tellTags (fvGet fs 2))
theorem toldReadShareGroupStateSummaryRequestTopicPartition : TellOf P 83 tysReadShareGroupStateSummaryRequestTopicPartition gpReadShareGroupStateSummaryRequestTopicPartition := told_tags (S := 126) (N := 2) (g := 96) (ss := tssReadShareGroupStateSummaryRequestTopicPartition) rdF tyZ tellF (closure_gives rdF tyZ octF rowTg tagPlan (by kernel_rfl)) hEach hSorted (by kernel_rfl) rfl (by decide) tsokReadShareGroupStateSummaryRequestTopicPartition ⟨by kernel_rfl, rfl, rfl⟩

def tysReadShareGroupStateSummaryRequestTopic : List Ty := [.uuid, .list (tysReadShareGroupStateSummaryRequestTopicPartition), .tags]
def lsReadShareGroupStateSummaryRequestTopic : List Nat := [16, 1, 1]
def zfReadShareGroupStateSummaryRequestTopic : List FV := [.uuid (List.replicate 16 0), .list true [], .tags []]
def dfReadShareGroupStateSummaryRequestTopic : List FV := [.uuid (List.replicate 16 0), .list true [], .tags []]
def dsReadShareGroupStateSummaryRequestTopic : List Dset := []
theorem dsokReadShareGroupStateSummaryRequestTopic : DsetsOk P 103 lsReadShareGroupStateSummaryRequestTopic dsReadShareGroupStateSummaryRequestTopic := trivial
theorem defReadShareGroupStateSummaryRequestTopic : DefSets P 80 lsReadShareGroupStateSummaryRequestTopic dsReadShareGroupStateSummaryRequestTopic := default_gives rdF.mix (by kernel_rfl) dsokReadShareGroupStateSummaryRequestTopic
theorem dokReadShareGroupStateSummaryRequestTopic : DefOk P 80 103 dfReadShareGroupStateSummaryRequestTopic := DefSets.ok (z := .agg ⟨[.int .u8 0, .int .u8 0, .int .u8 0, .int .u8 0, .int .u8 0, .int .u8 0, .int .u8 0, .int .u8 0, .int .u8 0, .int .u8 0, .int .u8 0, .int .u8 0, .int .u8 0, .int .u8 0, .int .u8 0, .int .u8 0, .slice none 0 0, .map none]⟩) (zfs := zfReadShareGroupStateSummaryRequestTopic) (dc := [.int .u8 0, .int .u8 0, .int .u8 0, .int .u8 0, .int .u8 0, .int .u8 0, .int .u8 0, .int .u8 0, .int .u8 0, .int .u8 0, .int .u8 0, .int .u8 0, .int .u8 0, .int .u8 0, .int .u8 0, .int .u8 0, .slice none 0 0, .map none]) defReadShareGroupStateSummaryRequestTopic (by kernel_rfl) (by kernel_rfl) rfl rfl rfl (by kernel_rfl)
def tfsReadShareGroupStateSummaryRequestTopic : List (List FV → PT) := [fun fs => tellPrim (fvGet fs 0), fun fs => tellList gpReadShareGroupStateSummaryRequestTopicPartition (fvGet fs 1)]
def tssReadShareGroupStateSummaryRequestTopic : List TStep := [.uuid 0 0, .list 1 101 1 (.sub 83)]
theorem tsokReadShareGroupStateSummaryRequestTopic : StepsTell P N 103 tysReadShareGroupStateSummaryRequestTopic tssReadShareGroupStateSummaryRequestTopic tfsReadShareGroupStateSummaryRequestTopic 0 := ⟨told_uuid rdF tyZ tellF octF uuidF ⟨by kernel_rfl, rfl, rfl⟩, told_list (T := 126) rdF tyZ tellF ⟨by kernel_rfl, rfl, rfl⟩ (by kernel_rfl) (by kernel_rfl) (by kernel_rfl) rfl (el_sub toldReadShareGroupStateSummaryRequestTopicPartition), trivial⟩
def gpReadShareGroupStateSummaryRequestTopic (fs : List FV) : PT := .mk 0 [] false (tfsReadShareGroupStateSummaryRequestTopic.map (· fs)) (tellTags (fvGet fs 2))
theorem toldReadShareGroupStateSummaryRequestTopic : TellOf P 57 tysReadShareGroupStateSummaryRequestTopic gpReadShareGroupStateSummaryRequestTopic := told_tags (S := 103) (N := 2) (g := 84) (ss := tssReadShareGroupStateSummaryRequestTopic) rdF tyZ tellF (closure_gives rdF tyZ octF rowTg tagPlan (by kernel_rfl)) hEach hSorted (by kernel_rfl) rfl (by decide) tsokReadShareGroupStateSummaryRequestTopic ⟨by kernel_rfl, rfl, rfl⟩

def tysReadShareGroupStateSummaryRequest : List Ty := [.num .i16, .text, .list (tysReadShareGroupStateSummaryRequestTopic), .tags]
def lsReadShareGroupStateSummaryRequest : List Nat := [1, 1, 1, 1]
def zfReadShareGroupStateSummaryRequest : List FV := [.one (.int .i16 0), .text [], .list true [], .tags []]
def dfReadShareGroupStateSummaryRequest : List FV := [.one (.int .i16 0), .text [], .list true [], .tags []]
def dsReadShareGroupStateSummaryRequest : List Dset := []
theorem dsokReadShareGroupStateSummaryRequest : DsetsOk P 97 lsReadShareGroupStateSummaryRequest dsReadShareGroupStateSummaryRequest := trivial
theorem defReadShareGroupStateSummaryRequest : DefSets P 54 lsReadShareGroupStateSummaryRequest dsReadShareGroupStateSummaryRequest := default_gives rdF.mix (by kernel_rfl) dsokReadShareGroupStateSummaryRequest
theorem dokReadShareGroupStateSummaryRequest : DefOk P 54 97 dfReadShareGroupStateSummaryRequest := DefSets.ok (z := .agg ⟨[.int .i16 0, .string (strOf []), .slice none 0 0, .map none]⟩) (zfs := zfReadShareGroupStateSummaryRequest) (dc := [.int .i16 0, .string (strOf []), .slice none 0 0, .map none]) defReadShareGroupStateSummaryRequest (by kernel_rfl) (by kernel_rfl) rfl rfl rfl (by kernel_rfl)
def tfsReadShareGroupStateSummaryRequest : List (List FV → PT) := [fun fs => tellPrim (fvGet fs 1), fun fs => tellList gpReadShareGroupStateSummaryRequestTopic (fvGet fs 2)]
def tssReadShareGroupStateSummaryRequest : List TStep := [.text 1 0, .list 2 95 1 (.sub 57)]
theorem tsokReadShareGroupStateSummaryRequest : StepsTell P N 97 tysReadShareGroupStateSummaryRequest tssReadShareGroupStateSummaryRequest tfsReadShareGroupStateSummaryRequest 0 := ⟨told_text rdF tyZ tellF oneStr ⟨by kernel_rfl, rfl, rfl⟩, told_list (T := 103) rdF tyZ tellF ⟨by kernel_rfl, rfl, rfl⟩ (by kernel_rfl) (by kernel_rfl) (by kernel_rfl) rfl (el_sub toldReadShareGroupStateSummaryRequestTopic), trivial⟩
def gpReadShareGroupStateSummaryRequest (fs : List FV) : PT := .mk 0 [] false (tfsReadShareGroupStateSummaryRequest.map (· fs)) (tellTags (fvGet fs 3))
theorem toldReadShareGroupStateSummaryRequest : TellOf P 37 tysReadShareGroupStateSummaryRequest gpReadShareGroupStateSummaryRequest := told_tags (S := 97) (N := 2) (g := 58) (ss := tssReadShareGroupStateSummaryRequest) rdF tyZ tellF (closure_gives rdF tyZ octF rowTg tagPlan (by kernel_rfl)) hEach hSorted (by kernel_rfl) rfl (by decide) tsokReadShareGroupStateSummaryRequest ⟨by kernel_rfl, rfl, rfl⟩

end Go.Proofs.YtipfcpfmcoklbabGreatDoor
