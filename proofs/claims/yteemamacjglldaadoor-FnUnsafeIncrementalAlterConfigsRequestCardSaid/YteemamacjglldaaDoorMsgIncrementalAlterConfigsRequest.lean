/- IncrementalAlterConfigsRequest: its fields, how it is read and told. -/
import Derived.Test.YteemamacjglldaaDoorParts
namespace Go.Proofs.YteemamacjglldaaDoor
open Go Go.Kf

def tysIncrementalAlterConfigsRequestResourceConfig : List Ty := [.text, .num .i8, .ntext, .tags]
def lsIncrementalAlterConfigsRequestResourceConfig : List Nat := [1, 1, 1, 1]
def zfIncrementalAlterConfigsRequestResourceConfig : List FV := [.text [], .one (.int .i8 0), .ntext none, .tags []]
def dfIncrementalAlterConfigsRequestResourceConfig : List FV := [.text [], .one (.int .i8 0), .ntext none, .tags []]
def dsIncrementalAlterConfigsRequestResourceConfig : List Dset := []
theorem dsokIncrementalAlterConfigsRequestResourceConfig : DsetsOk P 86 lsIncrementalAlterConfigsRequestResourceConfig dsIncrementalAlterConfigsRequestResourceConfig := trivial
theorem defIncrementalAlterConfigsRequestResourceConfig : DefSets P 47 lsIncrementalAlterConfigsRequestResourceConfig dsIncrementalAlterConfigsRequestResourceConfig := default_gives rdF.mix (by kernel_rfl) dsokIncrementalAlterConfigsRequestResourceConfig
theorem dokIncrementalAlterConfigsRequestResourceConfig : DefOk P 47 86 dfIncrementalAlterConfigsRequestResourceConfig := DefSets.ok (z := .agg ⟨[.string (strOf []), .int .i8 0, .pointer none, .map none]⟩) (zfs := zfIncrementalAlterConfigsRequestResourceConfig) (dc := [.string (strOf []), .int .i8 0, .pointer none, .map none]) defIncrementalAlterConfigsRequestResourceConfig (by kernel_rfl) (by kernel_rfl) rfl rfl rfl (by kernel_rfl)
def tfsIncrementalAlterConfigsRequestResourceConfig : List (List FV → PT) := [fun fs => tellPrim (fvGet fs 0), fun fs => tellPrim (fvGet fs 1), fun fs => tellPrim (fvGet fs 2)]
def tssIncrementalAlterConfigsRequestResourceConfig : List TStep := [.text 0 0, .num 1 83 1, .call 65 2 84 2]
theorem tsokIncrementalAlterConfigsRequestResourceConfig : StepsTell P N 86 tysIncrementalAlterConfigsRequestResourceConfig tssIncrementalAlterConfigsRequestResourceConfig tfsIncrementalAlterConfigsRequestResourceConfig 0 := ⟨told_text rdF tyZ tellF oneStr ⟨by kernel_rfl, rfl, rfl⟩, told_num tyZ tellF ⟨by kernel_rfl, rfl, rfl⟩ (by kernel_rfl) (by kernel_rfl) fits_i8, told_call tyZ ⟨by kernel_rfl, rfl, rfl⟩ (by kernel_rfl) cText, trivial⟩
def gpIncrementalAlterConfigsRequestResourceConfig (fs : List FV) : PT := .mk 0 [] false (tfsIncrementalAlterConfigsRequestResourceConfig.map (· fs)) (tellTags (fvGet fs 3))
theorem toldIncrementalAlterConfigsRequestResourceConfig : TellOf P 54 tysIncrementalAlterConfigsRequestResourceConfig gpIncrementalAlterConfigsRequestResourceConfig := told_tags (S := 86) (N := 3) (g := 66) (ss := tssIncrementalAlterConfigsRequestResourceConfig) rdF tyZ tellF (closure_gives rdF tyZ octF rowTg tagPlan (by kernel_rfl)) hEach hSorted (by kernel_rfl) rfl (by decide) tsokIncrementalAlterConfigsRequestResourceConfig ⟨by kernel_rfl, rfl, rfl⟩

def tysIncrementalAlterConfigsRequestResource : List Ty := [.num .i8, .text, .list (tysIncrementalAlterConfigsRequestResourceConfig), .tags]
def lsIncrementalAlterConfigsRequestResource : List Nat := [1, 1, 1, 1]
def zfIncrementalAlterConfigsRequestResource : List FV := [.one (.int .i8 0), .text [], .list true [], .tags []]
def dfIncrementalAlterConfigsRequestResource : List FV := [.one (.int .i8 0), .text [], .list true [], .tags []]
def dsIncrementalAlterConfigsRequestResource : List Dset := []
theorem dsokIncrementalAlterConfigsRequestResource : DsetsOk P 68 lsIncrementalAlterConfigsRequestResource dsIncrementalAlterConfigsRequestResource := trivial
theorem defIncrementalAlterConfigsRequestResource : DefSets P 41 lsIncrementalAlterConfigsRequestResource dsIncrementalAlterConfigsRequestResource := default_gives rdF.mix (by kernel_rfl) dsokIncrementalAlterConfigsRequestResource
theorem dokIncrementalAlterConfigsRequestResource : DefOk P 41 68 dfIncrementalAlterConfigsRequestResource := DefSets.ok (z := .agg ⟨[.int .i8 0, .string (strOf []), .slice none 0 0, .map none]⟩) (zfs := zfIncrementalAlterConfigsRequestResource) (dc := [.int .i8 0, .string (strOf []), .slice none 0 0, .map none]) defIncrementalAlterConfigsRequestResource (by kernel_rfl) (by kernel_rfl) rfl rfl rfl (by kernel_rfl)
def tfsIncrementalAlterConfigsRequestResource : List (List FV → PT) := [fun fs => tellPrim (fvGet fs 0), fun fs => tellPrim (fvGet fs 1), fun fs => tellList gpIncrementalAlterConfigsRequestResourceConfig (fvGet fs 2)]
def tssIncrementalAlterConfigsRequestResource : List TStep := [.num 0 65 0, .text 1 1, .list 2 66 2 (.sub 54)]
theorem tsokIncrementalAlterConfigsRequestResource : StepsTell P N 68 tysIncrementalAlterConfigsRequestResource tssIncrementalAlterConfigsRequestResource tfsIncrementalAlterConfigsRequestResource 0 := ⟨told_num tyZ tellF ⟨by kernel_rfl, rfl, rfl⟩ (by kernel_rfl) (by kernel_rfl) fits_i8, told_text rdF tyZ tellF oneStr ⟨by kernel_rfl, rfl, rfl⟩, told_list (T := 86) rdF tyZ tellF ⟨by kernel_rfl, rfl, rfl⟩ (by kernel_rfl) (by kernel_rfl) (by kernel_rfl) rfl (el_sub toldIncrementalAlterConfigsRequestResourceConfig), trivial⟩
def gpIncrementalAlterConfigsRequestResource (fs : List FV) : PT := .mk 0 [] false (tfsIncrementalAlterConfigsRequestResource.map (· fs)) (tellTags (fvGet fs 3))
theorem toldIncrementalAlterConfigsRequestResource : TellOf P 29 tysIncrementalAlterConfigsRequestResource gpIncrementalAlterConfigsRequestResource := told_tags (S := 68) (N := 3) (g := 55) (ss := tssIncrementalAlterConfigsRequestResource) rdF tyZ tellF (closure_gives rdF tyZ octF rowTg tagPlan (by kernel_rfl)) hEach hSorted (by kernel_rfl) rfl (by decide) tsokIncrementalAlterConfigsRequestResource ⟨by kernel_rfl, rfl, rfl⟩

def tysIncrementalAlterConfigsRequest : List Ty := [.num .i16, .list (tysIncrementalAlterConfigsRequestResource), .bool, .tags]
def lsIncrementalAlterConfigsRequest : List Nat := [1, 1, 1, 1]
def zfIncrementalAlterConfigsRequest : List FV := [.one (.int .i16 0), .list true [], .one (.bool false), .tags []]
def dfIncrementalAlterConfigsRequest : List FV := [.one (.int .i16 0), .list true [], .one (.bool false), .tags []]
def dsIncrementalAlterConfigsRequest : List Dset := []
theorem dsokIncrementalAlterConfigsRequest : DsetsOk P 60 lsIncrementalAlterConfigsRequest dsIncrementalAlterConfigsRequest := trivial
theorem defIncrementalAlterConfigsRequest : DefSets P 27 lsIncrementalAlterConfigsRequest dsIncrementalAlterConfigsRequest := default_gives rdF.mix (by kernel_rfl) dsokIncrementalAlterConfigsRequest
theorem dokIncrementalAlterConfigsRequest : DefOk P 27 60 dfIncrementalAlterConfigsRequest := DefSets.ok (z := .agg ⟨[.int .i16 0, .slice none 0 0, .bool false, .map none]⟩) (zfs := zfIncrementalAlterConfigsRequest) (dc := [.int .i16 0, .slice none 0 0, .bool false, .map none]) defIncrementalAlterConfigsRequest (by kernel_rfl) (by kernel_rfl) rfl rfl rfl (by kernel_rfl)
def tfsIncrementalAlterConfigsRequest : List (List FV → PT) := [fun fs => tellList gpIncrementalAlterConfigsRequestResource (fvGet fs 1), fun fs => tellPrim (fvGet fs 2)]
def tssIncrementalAlterConfigsRequest : List TStep := [.list 1 55 0 (.sub 29), .call 30 2 4 1]
theorem tsokIncrementalAlterConfigsRequest : StepsTell P N 60 tysIncrementalAlterConfigsRequest tssIncrementalAlterConfigsRequest tfsIncrementalAlterConfigsRequest 0 := ⟨told_list (T := 68) rdF tyZ tellF ⟨by kernel_rfl, rfl, rfl⟩ (by kernel_rfl) (by kernel_rfl) (by kernel_rfl) rfl (el_sub toldIncrementalAlterConfigsRequestResource), told_call tyZ ⟨by kernel_rfl, rfl, rfl⟩ (by kernel_rfl) cBool, trivial⟩
def gpIncrementalAlterConfigsRequest (fs : List FV) : PT := .mk 0 [] false (tfsIncrementalAlterConfigsRequest.map (· fs)) (tellTags (fvGet fs 3))
theorem toldIncrementalAlterConfigsRequest : TellOf P 18 tysIncrementalAlterConfigsRequest gpIncrementalAlterConfigsRequest := told_tags (S := 60) (N := 2) (g := 32) (ss := tssIncrementalAlterConfigsRequest) rdF tyZ tellF (closure_gives rdF tyZ octF rowTg tagPlan (by kernel_rfl)) hEach hSorted (by kernel_rfl) rfl (by decide) tsokIncrementalAlterConfigsRequest ⟨by kernel_rfl, rfl, rfl⟩

end Go.Proofs.YteemamacjglldaaDoor
