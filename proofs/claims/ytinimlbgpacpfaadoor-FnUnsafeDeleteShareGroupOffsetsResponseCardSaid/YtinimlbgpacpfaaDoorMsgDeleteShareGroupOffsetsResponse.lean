/- DeleteShareGroupOffsetsResponse: its fields, how it is read and told. -/
import Derived.Test.YtinimlbgpacpfaaDoorParts
namespace Go.Proofs.YtinimlbgpacpfaaDoor
open Go Go.Kf

def tysDeleteShareGroupOffsetsResponseTopic : List Ty := [.text, .uuid, .num .i16, .ntext, .tags]
def lsDeleteShareGroupOffsetsResponseTopic : List Nat := [1, 16, 1, 1, 1]
def zfDeleteShareGroupOffsetsResponseTopic : List FV := [.text [], .uuid (List.replicate 16 0), .one (.int .i16 0), .ntext none, .tags []]
def dfDeleteShareGroupOffsetsResponseTopic : List FV := [.text [], .uuid (List.replicate 16 0), .one (.int .i16 0), .ntext none, .tags []]
def dsDeleteShareGroupOffsetsResponseTopic : List Dset := []
theorem dsokDeleteShareGroupOffsetsResponseTopic : DsetsOk P 71 lsDeleteShareGroupOffsetsResponseTopic dsDeleteShareGroupOffsetsResponseTopic := fun d hd => by cases hd
theorem defDeleteShareGroupOffsetsResponseTopic : DefSets P 63 lsDeleteShareGroupOffsetsResponseTopic dsDeleteShareGroupOffsetsResponseTopic := default_gives rdF.mix (by kernel_rfl) dsokDeleteShareGroupOffsetsResponseTopic
theorem dokDeleteShareGroupOffsetsResponseTopic : DefOk P 63 71 dfDeleteShareGroupOffsetsResponseTopic := DefSets.ok (z := .agg ⟨[.string (strOf []), .int .u8 0, .int .u8 0, .int .u8 0, .int .u8 0, .int .u8 0, .int .u8 0, .int .u8 0, .int .u8 0, .int .u8 0, .int .u8 0, .int .u8 0, .int .u8 0, .int .u8 0, .int .u8 0, .int .u8 0, .int .u8 0, .int .i16 0, .pointer none, .map none]⟩) (zfs := zfDeleteShareGroupOffsetsResponseTopic) (dc := [.string (strOf []), .int .u8 0, .int .u8 0, .int .u8 0, .int .u8 0, .int .u8 0, .int .u8 0, .int .u8 0, .int .u8 0, .int .u8 0, .int .u8 0, .int .u8 0, .int .u8 0, .int .u8 0, .int .u8 0, .int .u8 0, .int .u8 0, .int .i16 0, .pointer none, .map none]) defDeleteShareGroupOffsetsResponseTopic (by kernel_rfl) (by kernel_rfl) rfl rfl (by kernel_rfl)
def tfsDeleteShareGroupOffsetsResponseTopic : List (List FV → PT) := [fun fs => tellPrim (fvGet fs 0), fun fs => tellPrim (fvGet fs 1), fun fs => tellPrim (fvGet fs 2), fun fs => tellPrim (fvGet fs 3)]
def tssDeleteShareGroupOffsetsResponseTopic : List TStep := [.text 0 0, .uuid 1 1, .num 2 38 2, .call 39 3 58 3]
theorem tsokDeleteShareGroupOffsetsResponseTopic : StepsTell P N 71 tysDeleteShareGroupOffsetsResponseTopic tssDeleteShareGroupOffsetsResponseTopic tfsDeleteShareGroupOffsetsResponseTopic 0 := ⟨told_text rdF tyZ tellF oneStr ⟨by kernel_rfl, rfl, rfl⟩, told_uuid rdF tyZ tellF octF uuidF ⟨by kernel_rfl, rfl, rfl⟩, told_num tyZ tellF ⟨by kernel_rfl, rfl, rfl⟩ (by kernel_rfl) (by kernel_rfl) fits_i16, told_call tyZ ⟨by kernel_rfl, rfl, rfl⟩ (by kernel_rfl) cText, trivial⟩
def gpDeleteShareGroupOffsetsResponseTopic (fs : List FV) : PT := .mk 0 [] false (tfsDeleteShareGroupOffsetsResponseTopic.map (· fs)) (tellTags (fvGet fs 4))
theorem toldDeleteShareGroupOffsetsResponseTopic : TellOf P 40 tysDeleteShareGroupOffsetsResponseTopic gpDeleteShareGroupOffsetsResponseTopic := told_tags (S := 71) (N := 4) (g := 70) (ss := tssDeleteShareGroupOffsetsResponseTopic) rdF tyZ tellF (closure_gives rdF tyZ octF rowTg tagPlan (by kernel_rfl)) hEach hSorted (by kernel_rfl) rfl (by decide) tsokDeleteShareGroupOffsetsResponseTopic ⟨by kernel_rfl, rfl, rfl⟩

def tysDeleteShareGroupOffsetsResponse : List Ty := [.num .i16, .num .i32, .num .i16, .ntext, .list (tysDeleteShareGroupOffsetsResponseTopic), .tags]
def lsDeleteShareGroupOffsetsResponse : List Nat := [1, 1, 1, 1, 1, 1]
def zfDeleteShareGroupOffsetsResponse : List FV := [.one (.int .i16 0), .one (.int .i32 0), .one (.int .i16 0), .ntext none, .list true [], .tags []]
def dfDeleteShareGroupOffsetsResponse : List FV := [.one (.int .i16 0), .one (.int .i32 0), .one (.int .i16 0), .ntext none, .list true [], .tags []]
def dsDeleteShareGroupOffsetsResponse : List Dset := []
theorem dsokDeleteShareGroupOffsetsResponse : DsetsOk P 64 lsDeleteShareGroupOffsetsResponse dsDeleteShareGroupOffsetsResponse := fun d hd => by cases hd
theorem defDeleteShareGroupOffsetsResponse : DefSets P 37 lsDeleteShareGroupOffsetsResponse dsDeleteShareGroupOffsetsResponse := default_gives rdF.mix (by kernel_rfl) dsokDeleteShareGroupOffsetsResponse
theorem dokDeleteShareGroupOffsetsResponse : DefOk P 37 64 dfDeleteShareGroupOffsetsResponse := DefSets.ok (z := .agg ⟨[.int .i16 0, .int .i32 0, .int .i16 0, .pointer none, .slice none 0 0, .map none]⟩) (zfs := zfDeleteShareGroupOffsetsResponse) (dc := [.int .i16 0, .int .i32 0, .int .i16 0, .pointer none, .slice none 0 0, .map none]) defDeleteShareGroupOffsetsResponse (by kernel_rfl) (by kernel_rfl) rfl rfl (by kernel_rfl)
def tfsDeleteShareGroupOffsetsResponse : List (List FV → PT) := [fun fs => tellPrim (fvGet fs 1), fun fs => tellPrim (fvGet fs 2), fun fs => tellPrim (fvGet fs 3), fun fs => tellList gpDeleteShareGroupOffsetsResponseTopic (fvGet fs 4)]
def tssDeleteShareGroupOffsetsResponse : List TStep := [.num 1 21 0, .num 2 38 1, .call 39 3 58 2, .list 4 59 3 (.sub 40)]
theorem tsokDeleteShareGroupOffsetsResponse : StepsTell P N 64 tysDeleteShareGroupOffsetsResponse tssDeleteShareGroupOffsetsResponse tfsDeleteShareGroupOffsetsResponse 0 := ⟨told_num tyZ tellF ⟨by kernel_rfl, rfl, rfl⟩ (by kernel_rfl) (by kernel_rfl) fits_i32, told_num tyZ tellF ⟨by kernel_rfl, rfl, rfl⟩ (by kernel_rfl) (by kernel_rfl) fits_i16, told_call tyZ ⟨by kernel_rfl, rfl, rfl⟩ (by kernel_rfl) cText, told_list (T := 71) rdF tyZ tellF ⟨by kernel_rfl, rfl, rfl⟩ (by kernel_rfl) (by kernel_rfl) (by kernel_rfl) rfl (el_sub toldDeleteShareGroupOffsetsResponseTopic), trivial⟩
def gpDeleteShareGroupOffsetsResponse (fs : List FV) : PT := .mk 0 [] false (tfsDeleteShareGroupOffsetsResponse.map (· fs)) (tellTags (fvGet fs 5))
theorem toldDeleteShareGroupOffsetsResponse : TellOf P 22 tysDeleteShareGroupOffsetsResponse gpDeleteShareGroupOffsetsResponse := told_tags (S := 64) (N := 4) (g := 42) (ss := tssDeleteShareGroupOffsetsResponse) rdF tyZ tellF (closure_gives rdF tyZ octF rowTg tagPlan (by kernel_rfl)) hEach hSorted (by kernel_rfl) rfl (by decide) tsokDeleteShareGroupOffsetsResponse ⟨by kernel_rfl, rfl, rfl⟩

end Go.Proofs.YtinimlbgpacpfaaDoor
