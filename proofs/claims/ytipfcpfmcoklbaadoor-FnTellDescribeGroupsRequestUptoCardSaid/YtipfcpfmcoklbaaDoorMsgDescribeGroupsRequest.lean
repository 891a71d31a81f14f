/- DescribeGroupsRequest: its fields, how it is read and told. -/
import Derived.Test.YtipfcpfmcoklbaaDoorParts
namespace Go.Proofs.YtipfcpfmcoklbaaDoor
open Go Go.Kf

def tysDescribeGroupsRequest : List Ty := [.num .i16, .list [.text], .bool, .tags]
def lsDescribeGroupsRequest : List Nat := [1, 1, 1, 1]
def zfDescribeGroupsRequest : List FV := [.one (.int .i16 0), .list true [], .one (.bool false), .tags []]
def dfDescribeGroupsRequest : List FV := [.one (.int .i16 0), .list true [], .one (.bool false), .tags []]
def dsDescribeGroupsRequest : List Dset := []
theorem dsokDescribeGroupsRequest : DsetsOk P 78 lsDescribeGroupsRequest dsDescribeGroupsRequest := trivial
theorem defDescribeGroupsRequest : DefSets P 38 lsDescribeGroupsRequest dsDescribeGroupsRequest := default_gives rdF.mix (by kernel_rfl) dsokDescribeGroupsRequest
theorem dokDescribeGroupsRequest : DefOk P 38 78 dfDescribeGroupsRequest := DefSets.ok (z := .agg ⟨[.int .i16 0, .slice none 0 0, .bool false, .map none]⟩) (zfs := zfDescribeGroupsRequest) (dc := [.int .i16 0, .slice none 0 0, .bool false, .map none]) defDescribeGroupsRequest (by kernel_rfl) (by kernel_rfl) rfl rfl rfl (by kernel_rfl)
def tfsDescribeGroupsRequest : List (List FV → PT) := [fun fs => tellList (fun r => tellPrim (fvGet r 0)) (fvGet fs 1), fun fs => tellPrim (fvGet fs 2)]
def tssDescribeGroupsRequest : List TStep := [.list 1 73 0 (.text), .call 40 2 4 1]
theorem tsokDescribeGroupsRequest : StepsTell P N 78 tysDescribeGroupsRequest tssDescribeGroupsRequest tfsDescribeGroupsRequest 0 := ⟨told_list (T := 9) rdF tyZ tellF ⟨by kernel_rfl, rfl, rfl⟩ (by kernel_rfl) (by kernel_rfl) (by kernel_rfl) rfl (el_text oneStr), told_call tyZ ⟨by kernel_rfl, rfl, rfl⟩ (by kernel_rfl) cBool, trivial⟩
def gpDescribeGroupsRequest (fs : List FV) : PT := .mk 0 [] false (tfsDescribeGroupsRequest.map (· fs)) (tellTags (fvGet fs 3))
theorem toldDescribeGroupsRequest : TellOf P 22 tysDescribeGroupsRequest gpDescribeGroupsRequest := told_tags (S := 78) (N := 2) (g := 42) (ss := tssDescribeGroupsRequest) rdF tyZ tellF (closure_gives rdF tyZ octF rowTg tagPlan (by kernel_rfl)) hEach hSorted (by kernel_rfl) rfl (by decide) tsokDescribeGroupsRequest ⟨by kernel_rfl, rfl, rfl⟩

end Go.Proofs.YtipfcpfmcoklbaaDoor
