/- ProduceRequest: its fields, how it is read and told. -/
import Derived.Test.YtcinbiokghpilaaGreatDoorParts
namespace Go.Proofs.YtcinbiokghpilaaGreatDoor
open Go Go.Kf

def tysProduceRequestTopicPartition : List Ty := [.num .i32, .octs, .tags]
def lsProduceRequestTopicPartition : List Nat := [1, 1, 1]
def zfProduceRequestTopicPartition : List FV := [.one (.int .i32 0), .octs true [], .tags []]
def dfProduceRequestTopicPartition : List FV := [.one (.int .i32 0), .octs true [], .tags []]
def dsProduceRequestTopicPartition : List Dset := []
theorem dsokProduceRequestTopicPartition : DsetsOk P 143 lsProduceRequestTopicPartition dsProduceRequestTopicPartition := trivial
theorem defProduceRequestTopicPartition : DefSets P 101 lsProduceRequestTopicPartition dsProduceRequestTopicPartition := default_gives rdF.mix (by kernel_rfl) dsokProduceRequestTopicPartition
theorem dokProduceRequestTopicPartition : DefOk P 101 143 dfProduceRequestTopicPartition := DefSets.ok (z := .agg ⟨[.int .i32 0, .slice none 0 0, .map none]⟩) (zfs := zfProduceRequestTopicPartition) (dc := [.int .i32 0, .slice none 0 0, .map none]) defProduceRequestTopicPartition (by kernel_rfl) (by kernel_rfl) rfl rfl rfl (by kernel_rfl)
def tfsProduceRequestTopicPartition : List (List FV → PT) := [fun fs => tellPrim (fvGet fs 0), fun fs => tellPrim (fvGet fs 1)]
def tssProduceRequestTopicPartition : List TStep := [.num 0 21 0, .call 118 1 22 1]
theorem tsokProduceRequestTopicPartition : StepsTell P N 143 tysProduceRequestTopicPartition tssProduceRequestTopicPartition tfsProduceRequestTopicPartition 0 := ⟨told_num tyZ tellF ⟨by kernel_rfl, rfl, rfl⟩ (by kernel_rfl) (by kernel_rfl) fits_i32, told_call tyZ ⟨by kernel_rfl, rfl, rfl⟩ (by kernel_rfl) cOcts, trivial⟩
def gpProduceRequestTopicPartition (fs : List FV) : PT := .mk 0 [] false (tfsProduceRequestTopicPartition.map (· fs)) (tellTags (fvGet fs 2))
theorem toldProduceRequestTopicPartition : TellOf P 104 tysProduceRequestTopicPartition gpProduceRequestTopicPartition := told_tags (S := 143) (N := 2) (g := 119) (ss := tssProduceRequestTopicPartition) rdF tyZ tellF (closure_gives rdF tyZ octF rowTg tagPlan (by kernel_rfl)) hEach hSorted (by kernel_rfl) rfl (by decide) tsokProduceRequestTopicPartition ⟨by kernel_rfl, rfl, rfl⟩

def tysProduceRequestTopic : List Ty := [.text, .uuid, .list (tysProduceRequestTopicPartition), .tags]
def lsProduceRequestTopic : List Nat := [1, 16, 1, 1]
def zfProduceRequestTopic : List FV := [.text [], .uuid (List.replicate 16 0), .list true [], .tags []]
def dfProduceRequestTopic : List FV := [.text [], .uuid (List.replicate 16 0), .list true [], .tags []]
def dsProduceRequestTopic : List Dset := []
theorem dsokProduceRequestTopic : DsetsOk P 117 lsProduceRequestTopic dsProduceRequestTopic := trivial
theorem defProduceRequestTopic : DefSets P 100 lsProduceRequestTopic dsProduceRequestTopic := default_gives rdF.mix (by kernel_rfl) dsokProduceRequestTopic
theorem dokProduceRequestTopic : DefOk P 100 117 dfProduceRequestTopic := DefSets.ok (z := .agg ⟨[.string (strOf []), .int .u8 0, .int .u8 0, .int .u8 0, .int .u8 0, .int .u8 0, .int .u8 0, .int .u8 0, .int .u8 0, .int .u8 0, .int .u8 0, .int .u8 0, .int .u8 0, .int .u8 0, .int .u8 0, .int .u8 0, .int .u8 0, .slice none 0 0, .map none]⟩) (zfs := zfProduceRequestTopic) (dc := [.string (strOf []), .int .u8 0, .int .u8 0, .int .u8 0, .int .u8 0, .int .u8 0, .int .u8 0, .int .u8 0, .int .u8 0, .int .u8 0, .int .u8 0, .int .u8 0, .int .u8 0, .int .u8 0, .int .u8 0, .int .u8 0, .int .u8 0, .slice none 0 0, .map none]) defProduceRequestTopic (by kernel_rfl) (by kernel_rfl) rfl rfl rfl (by kernel_rfl)
def tfsProduceRequestTopic : List (List FV → PT) := [fun fs => tellPrim (fvGet fs 0), fun fs => tellPrim (fvGet fs 1), fun fs => tellList gpProduceRequestTopicPartition (fvGet fs 2)]
def tssProduceRequestTopic : List TStep := [.text 0 0, .uuid 1 1, .list 2 115 2 (.sub 104)]
theorem tsokProduceRequestTopic : StepsTell P N 117 tysProduceRequestTopic tssProduceRequestTopic tfsProduceRequestTopic 0 := ⟨told_text rdF tyZ tellF oneStr ⟨by kernel_rfl, rfl, rfl⟩, told_uuid rdF tyZ tellF octF uuidF ⟨by kernel_rfl, rfl, rfl⟩, told_list (T := 143) rdF tyZ tellF ⟨by kernel_rfl, rfl, rfl⟩ (by kernel_rfl) (by kernel_rfl) (by kernel_rfl) rfl (el_sub toldProduceRequestTopicPartition), trivial⟩
def gpProduceRequestTopic (fs : List FV) : PT := .mk 0 [] false (tfsProduceRequestTopic.map (· fs)) (tellTags (fvGet fs 3))
theorem toldProduceRequestTopic : TellOf P 72 tysProduceRequestTopic gpProduceRequestTopic := told_tags (S := 117) (N := 3) (g := 105) (ss := tssProduceRequestTopic) rdF tyZ tellF (closure_gives rdF tyZ octF rowTg tagPlan (by kernel_rfl)) hEach hSorted (by kernel_rfl) rfl (by decide) tsokProduceRequestTopic ⟨by kernel_rfl, rfl, rfl⟩

def tysProduceRequest : List Ty := [.num .i16, .ntext, .num .i16, .num .i32, .list (tysProduceRequestTopic), .tags]
def lsProduceRequest : List Nat := [1, 1, 1, 1, 1, 1]
def zfProduceRequest : List FV := [.one (.int .i16 0), .ntext none, .one (.int .i16 0), .one (.int .i32 0), .list true [], .tags []]
def dfProduceRequest : List FV := [.one (.int .i16 0), .ntext none, .one (.int .i16 0), .one (.int .i32 15000), .list true [], .tags []]
def dsProduceRequest : List Dset := [.set 3 21 3 (.int .i32 15000)]
theorem dsokProduceRequest : DsetsOk P 111 lsProduceRequest dsProduceRequest := ⟨⟨⟨by kernel_rfl, rfl, rfl⟩, by kernel_rfl, rfl⟩, trivial⟩
theorem defProduceRequest : DefSets P 68 lsProduceRequest dsProduceRequest := default_gives rdF.mix (by kernel_rfl) dsokProduceRequest
theorem dokProduceRequest : DefOk P 68 111 dfProduceRequest := DefSets.ok (z := .agg ⟨[.int .i16 0, .pointer none, .int .i16 0, .int .i32 0, .slice none 0 0, .map none]⟩) (zfs := zfProduceRequest) (dc := [.int .i16 0, .pointer none, .int .i16 0, .int .i32 15000, .slice none 0 0, .map none]) defProduceRequest (by kernel_rfl) (by kernel_rfl) rfl rfl rfl (by kernel_rfl)
def tfsProduceRequest : List (List FV → PT) := [fun fs => tellPrim (fvGet fs 1), fun fs => tellPrim (fvGet fs 2), fun fs => tellPrim (fvGet fs 3), fun fs => tellList gpProduceRequestTopic (fvGet fs 4)]
def tssProduceRequest : List TStep := [.call 71 1 105 0, .num 2 46 1, .num 3 21 2, .list 4 109 3 (.sub 72)]
theorem tsokProduceRequest : StepsTell P N 111 tysProduceRequest tssProduceRequest tfsProduceRequest 0 := ⟨told_call tyZ ⟨by kernel_rfl, rfl, rfl⟩ (by kernel_rfl) cText, told_num tyZ tellF ⟨by kernel_rfl, rfl, rfl⟩ (by kernel_rfl) (by kernel_rfl) fits_i16, told_num tyZ tellF ⟨by kernel_rfl, rfl, rfl⟩ (by kernel_rfl) (by kernel_rfl) fits_i32, told_list (T := 117) rdF tyZ tellF ⟨by kernel_rfl, rfl, rfl⟩ (by kernel_rfl) (by kernel_rfl) (by kernel_rfl) rfl (el_sub toldProduceRequestTopic), trivial⟩
def gpProduceRequest (fs : List FV) : PT := .mk 0 [] false (tfsProduceRequest.map (· fs)) (tellTags (fvGet fs 5))
theorem toldProduceRequest : TellOf P 47 tysProduceRequest gpProduceRequest := told_tags (S := 111) (N := 4) (g := 73) (ss := tssProduceRequest) rdF tyZ tellF (closure_gives rdF tyZ octF rowTg tagPlan (by kernel_rfl)) hEach hSorted (by kernel_rfl) rfl (by decide) tsokProduceRequest ⟨by kernel_rfl, rfl, rfl⟩

end Go.Proofs.YtcinbiokghpilaaGreatDoor
