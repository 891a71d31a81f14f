/- EndQuorumEpochRequest: its fields, how it is read and told. -/
import Derived.Test.YthmaobileilnmaaDoorParts
namespace Go.Proofs.YthmaobileilnmaaDoor
open Go Go.Kf

def tysEndQuorumEpochRequestTopicPartitionPreferredCandidate : List Ty := [.num .i32, .uuid, .tags]
def lsEndQuorumEpochRequestTopicPartitionPreferredCandidate : List Nat := [1, 16, 1]
def zfEndQuorumEpochRequestTopicPartitionPreferredCandidate : List FV := [.one (.int .i32 0), .uuid (List.replicate 16 0), .tags []]
def dfEndQuorumEpochRequestTopicPartitionPreferredCandidate : List FV := [.one (.int .i32 0), .uuid (List.replicate 16 0), .tags []]
def dsEndQuorumEpochRequestTopicPartitionPreferredCandidate : List Dset := []
theorem dsokEndQuorumEpochRequestTopicPartitionPreferredCandidate : DsetsOk P 90 lsEndQuorumEpochRequestTopicPartitionPreferredCandidate dsEndQuorumEpochRequestTopicPartitionPreferredCandidate := trivial
theorem defEndQuorumEpochRequestTopicPartitionPreferredCandidate : DefSets P 40 lsEndQuorumEpochRequestTopicPartitionPreferredCandidate dsEndQuorumEpochRequestTopicPartitionPreferredCandidate := default_gives rdF.mix (by kernel_rfl) dsokEndQuorumEpochRequestTopicPartitionPreferredCandidate
theorem dokEndQuorumEpochRequestTopicPartitionPreferredCandidate : DefOk P 40 90 dfEndQuorumEpochRequestTopicPartitionPreferredCandidate := DefSets.ok (z := .agg ⟨[.int .i32 0, .int .u8 0, .int .u8 0, .int .u8 0, .int .u8 0, .int .u8 0, .int .u8 0, .int .u8 0, .int .u8 0, .int .u8 0, .int .u8 0, .int .u8 0, .int .u8 0, .int .u8 0, .int .u8 0, .int .u8 0, .int .u8 0, .map none]⟩) (zfs := zfEndQuorumEpochRequestTopicPartitionPreferredCandidate) (dc := [.int .i32 0, .int .u8 0, .int .u8 0, .int .u8 0, .int .u8 0, .int .u8 0, .int .u8 0, .int .u8 0, .int .u8 0, .int .u8 0, .int .u8 0, .int .u8 0, .int .u8 0, .int .u8 0, .int .u8 0, .int .u8 0, .int .u8 0, .map none]) defEndQuorumEpochRequestTopicPartitionPreferredCandidate (by kernel_rfl) (by kernel_rfl) rfl rfl rfl (by kernel_rfl)
def tfsEndQuorumEpochRequestTopicPartitionPreferredCandidate : List (List FV → PT) := [fun fs => tellPrim (fvGet fs 0), fun fs => tellPrim (fvGet fs 1)]
def tssEndQuorumEpochRequestTopicPartitionPreferredCandidate : List TStep := [.num 0 21 0, .uuid 1 1]
theorem tsokEndQuorumEpochRequestTopicPartitionPreferredCandidate : StepsTell P N 90 tysEndQuorumEpochRequestTopicPartitionPreferredCandidate tssEndQuorumEpochRequestTopicPartitionPreferredCandidate tfsEndQuorumEpochRequestTopicPartitionPreferredCandidate 0 := ⟨told_num tyZ tellF ⟨by kernel_rfl, rfl, rfl⟩ (by kernel_rfl) (by kernel_rfl) fits_i32, told_uuid rdF tyZ tellF octF uuidF ⟨by kernel_rfl, rfl, rfl⟩, trivial⟩
def gpEndQuorumEpochRequestTopicPartitionPreferredCandidate (fs : List FV) : PT := .mk 0 [] false (tfsEndQuorumEpochRequestTopicPartitionPreferredCandidate.map (· fs)) (tellTags (fvGet fs 2))
theorem toldEndQuorumEpochRequestTopicPartitionPreferredCandidate : TellOf P 57 tysEndQuorumEpochRequestTopicPartitionPreferredCandidate gpEndQuorumEpochRequestTopicPartitionPreferredCandidate := told_tags (S := 90) (N := 2) (g := 65) (ss := tssEndQuorumEpochRequestTopicPartitionPreferredCandidate) rdF tyZ tellF (closure_gives rdF tyZ octF rowTg tagPlan (by kernel_rfl)) hEach hSorted (by kernel_rfl) rfl (by decide) tsokEndQuorumEpochRequestTopicPartitionPreferredCandidate ⟨by kernel_rfl, rfl, rfl⟩

def tysEndQuorumEpochRequestTopicPartition : List Ty := [.num .i32, .num .i32, .num .i32, .list [.num .i32], .list (tysEndQuorumEpochRequestTopicPartitionPreferredCandidate), .tags]
def lsEndQuorumEpochRequestTopicPartition : List Nat := [1, 1, 1, 1, 1, 1]
def zfEndQuorumEpochRequestTopicPartition : List FV := [.one (.int .i32 0), .one (.int .i32 0), .one (.int .i32 0), .list true [], .list true [], .tags []]
def dfEndQuorumEpochRequestTopicPartition : List FV := [.one (.int .i32 0), .one (.int .i32 0), .one (.int .i32 0), .list true [], .list true [], .tags []]
def dsEndQuorumEpochRequestTopicPartition : List Dset := []
theorem dsokEndQuorumEpochRequestTopicPartition : DsetsOk P 86 lsEndQuorumEpochRequestTopicPartition dsEndQuorumEpochRequestTopicPartition := trivial
theorem defEndQuorumEpochRequestTopicPartition : DefSets P 38 lsEndQuorumEpochRequestTopicPartition dsEndQuorumEpochRequestTopicPartition := default_gives rdF.mix (by kernel_rfl) dsokEndQuorumEpochRequestTopicPartition
theorem dokEndQuorumEpochRequestTopicPartition : DefOk P 38 86 dfEndQuorumEpochRequestTopicPartition := DefSets.ok (z := .agg ⟨[.int .i32 0, .int .i32 0, .int .i32 0, .slice none 0 0, .slice none 0 0, .map none]⟩) (zfs := zfEndQuorumEpochRequestTopicPartition) (dc := [.int .i32 0, .int .i32 0, .int .i32 0, .slice none 0 0, .slice none 0 0, .map none]) defEndQuorumEpochRequestTopicPartition (by kernel_rfl) (by kernel_rfl) rfl rfl rfl (by kernel_rfl)
def tfsEndQuorumEpochRequestTopicPartition : List (List FV → PT) := [fun fs => tellPrim (fvGet fs 0), fun fs => tellPrim (fvGet fs 1), fun fs => tellPrim (fvGet fs 2), fun fs => tellList (fun r => tellPrim (fvGet r 0)) (fvGet fs 3), fun fs => tellList gpEndQuorumEpochRequestTopicPartitionPreferredCandidate (fvGet fs 4)]
def tssEndQuorumEpochRequestTopicPartition : List TStep := [.num 0 21 0, .num 1 21 1, .num 2 21 2, .list 3 83 3 (.num 21), .list 4 84 4 (.sub 57)]
theorem tsokEndQuorumEpochRequestTopicPartition : StepsTell P N 86 tysEndQuorumEpochRequestTopicPartition tssEndQuorumEpochRequestTopicPartition tfsEndQuorumEpochRequestTopicPartition 0 := ⟨told_num tyZ tellF ⟨by kernel_rfl, rfl, rfl⟩ (by kernel_rfl) (by kernel_rfl) fits_i32, told_num tyZ tellF ⟨by kernel_rfl, rfl, rfl⟩ (by kernel_rfl) (by kernel_rfl) fits_i32, told_num tyZ tellF ⟨by kernel_rfl, rfl, rfl⟩ (by kernel_rfl) (by kernel_rfl) fits_i32, told_list (T := 21) rdF tyZ tellF ⟨by kernel_rfl, rfl, rfl⟩ (by kernel_rfl) (by kernel_rfl) (by kernel_rfl) rfl (el_num (by kernel_rfl) (by kernel_rfl) fits_i32), told_list (T := 90) rdF tyZ tellF ⟨by kernel_rfl, rfl, rfl⟩ (by kernel_rfl) (by kernel_rfl) (by kernel_rfl) rfl (el_sub toldEndQuorumEpochRequestTopicPartitionPreferredCandidate), trivial⟩
def gpEndQuorumEpochRequestTopicPartition (fs : List FV) : PT := .mk 0 [] false (tfsEndQuorumEpochRequestTopicPartition.map (· fs)) (tellTags (fvGet fs 5))
theorem toldEndQuorumEpochRequestTopicPartition : TellOf P 45 tysEndQuorumEpochRequestTopicPartition gpEndQuorumEpochRequestTopicPartition := told_tags (S := 86) (N := 5) (g := 58) (ss := tssEndQuorumEpochRequestTopicPartition) rdF tyZ tellF (closure_gives rdF tyZ octF rowTg tagPlan (by kernel_rfl)) hEach hSorted (by kernel_rfl) rfl (by decide) tsokEndQuorumEpochRequestTopicPartition ⟨by kernel_rfl, rfl, rfl⟩

def tysEndQuorumEpochRequestTopic : List Ty := [.text, .list (tysEndQuorumEpochRequestTopicPartition), .tags]
def lsEndQuorumEpochRequestTopic : List Nat := [1, 1, 1]
def zfEndQuorumEpochRequestTopic : List FV := [.text [], .list true [], .tags []]
def dfEndQuorumEpochRequestTopic : List FV := [.text [], .list true [], .tags []]
def dsEndQuorumEpochRequestTopic : List Dset := []
theorem dsokEndQuorumEpochRequestTopic : DsetsOk P 66 lsEndQuorumEpochRequestTopic dsEndQuorumEpochRequestTopic := trivial
theorem defEndQuorumEpochRequestTopic : DefSets P 33 lsEndQuorumEpochRequestTopic dsEndQuorumEpochRequestTopic := default_gives rdF.mix (by kernel_rfl) dsokEndQuorumEpochRequestTopic
theorem dokEndQuorumEpochRequestTopic : DefOk P 33 66 dfEndQuorumEpochRequestTopic := DefSets.ok (z := .agg ⟨[.string (strOf []), .slice none 0 0, .map none]⟩) (zfs := zfEndQuorumEpochRequestTopic) (dc := [.string (strOf []), .slice none 0 0, .map none]) defEndQuorumEpochRequestTopic (by kernel_rfl) (by kernel_rfl) rfl rfl rfl (by kernel_rfl)
def tfsEndQuorumEpochRequestTopic : List (List FV → PT) := [fun fs => tellPrim (fvGet fs 0), fun fs => tellList gpEndQuorumEpochRequestTopicPartition (fvGet fs 1)]
def tssEndQuorumEpochRequestTopic : List TStep := [.text 0 0, .list 1 64 1 (.sub 45)]
theorem tsokEndQuorumEpochRequestTopic : StepsTell P N 66 tysEndQuorumEpochRequestTopic tssEndQuorumEpochRequestTopic tfsEndQuorumEpochRequestTopic 0 := ⟨told_text rdF tyZ tellF oneStr ⟨by kernel_rfl, rfl, rfl⟩, told_list (T := 86) rdF tyZ tellF ⟨by kernel_rfl, rfl, rfl⟩ (by kernel_rfl) (by kernel_rfl) (by kernel_rfl) rfl (el_sub toldEndQuorumEpochRequestTopicPartition), trivial⟩
def gpEndQuorumEpochRequestTopic (fs : List FV) : PT := .mk 0 [] false (tfsEndQuorumEpochRequestTopic.map (· fs)) (tellTags (fvGet fs 2))
theorem toldEndQuorumEpochRequestTopic : TellOf P 20 tysEndQuorumEpochRequestTopic gpEndQuorumEpochRequestTopic := told_tags (S := 66) (N := 2) (g := 46) (ss := tssEndQuorumEpochRequestTopic) rdF tyZ tellF (closure_gives rdF tyZ octF rowTg tagPlan (by kernel_rfl)) hEach hSorted (by kernel_rfl) rfl (by decide) tsokEndQuorumEpochRequestTopic ⟨by kernel_rfl, rfl, rfl⟩

def tysEndQuorumEpochRequestLeaderEndpoint : List Ty := [.text, .text, .num .u16, .tags]
def lsEndQuorumEpochRequestLeaderEndpoint : List Nat := [1, 1, 1, 1]
def zfEndQuorumEpochRequestLeaderEndpoint : List FV := [.text [], .text [], .one (.int .u16 0), .tags []]
def dfEndQuorumEpochRequestLeaderEndpoint : List FV := [.text [], .text [], .one (.int .u16 0), .tags []]
def dsEndQuorumEpochRequestLeaderEndpoint : List Dset := []
theorem dsokEndQuorumEpochRequestLeaderEndpoint : DsetsOk P 71 lsEndQuorumEpochRequestLeaderEndpoint dsEndQuorumEpochRequestLeaderEndpoint := trivial
theorem defEndQuorumEpochRequestLeaderEndpoint : DefSets P 43 lsEndQuorumEpochRequestLeaderEndpoint dsEndQuorumEpochRequestLeaderEndpoint := default_gives rdF.mix (by kernel_rfl) dsokEndQuorumEpochRequestLeaderEndpoint
theorem dokEndQuorumEpochRequestLeaderEndpoint : DefOk P 43 71 dfEndQuorumEpochRequestLeaderEndpoint := DefSets.ok (z := .agg ⟨[.string (strOf []), .string (strOf []), .int .u16 0, .map none]⟩) (zfs := zfEndQuorumEpochRequestLeaderEndpoint) (dc := [.string (strOf []), .string (strOf []), .int .u16 0, .map none]) defEndQuorumEpochRequestLeaderEndpoint (by kernel_rfl) (by kernel_rfl) rfl rfl rfl (by kernel_rfl)
def tfsEndQuorumEpochRequestLeaderEndpoint : List (List FV → PT) := [fun fs => tellPrim (fvGet fs 0), fun fs => tellPrim (fvGet fs 1), fun fs => tellPrim (fvGet fs 2)]
def tssEndQuorumEpochRequestLeaderEndpoint : List TStep := [.text 0 0, .text 1 1, .num 2 69 2]
theorem tsokEndQuorumEpochRequestLeaderEndpoint : StepsTell P N 71 tysEndQuorumEpochRequestLeaderEndpoint tssEndQuorumEpochRequestLeaderEndpoint tfsEndQuorumEpochRequestLeaderEndpoint 0 := ⟨told_text rdF tyZ tellF oneStr ⟨by kernel_rfl, rfl, rfl⟩, told_text rdF tyZ tellF oneStr ⟨by kernel_rfl, rfl, rfl⟩, told_num tyZ tellF ⟨by kernel_rfl, rfl, rfl⟩ (by kernel_rfl) (by kernel_rfl) fits_u16, trivial⟩
def gpEndQuorumEpochRequestLeaderEndpoint (fs : List FV) : PT := .mk 0 [] false (tfsEndQuorumEpochRequestLeaderEndpoint.map (· fs)) (tellTags (fvGet fs 3))
theorem toldEndQuorumEpochRequestLeaderEndpoint : TellOf P 21 tysEndQuorumEpochRequestLeaderEndpoint gpEndQuorumEpochRequestLeaderEndpoint := told_tags (S := 71) (N := 3) (g := 47) (ss := tssEndQuorumEpochRequestLeaderEndpoint) rdF tyZ tellF (closure_gives rdF tyZ octF rowTg tagPlan (by kernel_rfl)) hEach hSorted (by kernel_rfl) rfl (by decide) tsokEndQuorumEpochRequestLeaderEndpoint ⟨by kernel_rfl, rfl, rfl⟩

def tysEndQuorumEpochRequest : List Ty := [.num .i16, .ntext, .list (tysEndQuorumEpochRequestTopic), .list (tysEndQuorumEpochRequestLeaderEndpoint), .tags]
def lsEndQuorumEpochRequest : List Nat := [1, 1, 1, 1, 1]
def zfEndQuorumEpochRequest : List FV := [.one (.int .i16 0), .ntext none, .list true [], .list true [], .tags []]
def dfEndQuorumEpochRequest : List FV := [.one (.int .i16 0), .ntext none, .list true [], .list true [], .tags []]
def dsEndQuorumEpochRequest : List Dset := []
theorem dsokEndQuorumEpochRequest : DsetsOk P 59 lsEndQuorumEpochRequest dsEndQuorumEpochRequest := trivial
theorem defEndQuorumEpochRequest : DefSets P 17 lsEndQuorumEpochRequest dsEndQuorumEpochRequest := default_gives rdF.mix (by kernel_rfl) dsokEndQuorumEpochRequest
theorem dokEndQuorumEpochRequest : DefOk P 17 59 dfEndQuorumEpochRequest := DefSets.ok (z := .agg ⟨[.int .i16 0, .pointer none, .slice none 0 0, .slice none 0 0, .map none]⟩) (zfs := zfEndQuorumEpochRequest) (dc := [.int .i16 0, .pointer none, .slice none 0 0, .slice none 0 0, .map none]) defEndQuorumEpochRequest (by kernel_rfl) (by kernel_rfl) rfl rfl rfl (by kernel_rfl)
def tfsEndQuorumEpochRequest : List (List FV → PT) := [fun fs => tellPrim (fvGet fs 1), fun fs => tellList gpEndQuorumEpochRequestTopic (fvGet fs 2), fun fs => tellList gpEndQuorumEpochRequestLeaderEndpoint (fvGet fs 3)]
def tssEndQuorumEpochRequest : List TStep := [.call 19 1 52 0, .list 2 53 1 (.sub 20), .list 3 54 2 (.sub 21)]
theorem tsokEndQuorumEpochRequest : StepsTell P N 59 tysEndQuorumEpochRequest tssEndQuorumEpochRequest tfsEndQuorumEpochRequest 0 := ⟨told_call tyZ ⟨by kernel_rfl, rfl, rfl⟩ (by kernel_rfl) cText, told_list (T := 66) rdF tyZ tellF ⟨by kernel_rfl, rfl, rfl⟩ (by kernel_rfl) (by kernel_rfl) (by kernel_rfl) rfl (el_sub toldEndQuorumEpochRequestTopic), told_list (T := 71) rdF tyZ tellF ⟨by kernel_rfl, rfl, rfl⟩ (by kernel_rfl) (by kernel_rfl) (by kernel_rfl) rfl (el_sub toldEndQuorumEpochRequestLeaderEndpoint), trivial⟩
def gpEndQuorumEpochRequest (fs : List FV) : PT := .mk 0 [] false (tfsEndQuorumEpochRequest.map (· fs)) (tellTags (fvGet fs 4))
theorem toldEndQuorumEpochRequest : TellOf P 14 tysEndQuorumEpochRequest gpEndQuorumEpochRequest := told_tags (S := 59) (N := 3) (g := 23) (ss := tssEndQuorumEpochRequest) rdF tyZ tellF (closure_gives rdF tyZ octF rowTg tagPlan (by kernel_rfl)) hEach hSorted (by kernel_rfl) rfl (by decide) tsokEndQuorumEpochRequest ⟨by kernel_rfl, rfl, rfl⟩

end Go.Proofs.YthmaobileilnmaaDoor
