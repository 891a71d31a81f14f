/- DescribeClusterRequest: its fields, how it is read and told. -/
import Derived.Test.YtlhbhamopejgcaaDoorParts
namespace Go.Proofs.YtlhbhamopejgcaaDoor
open Go Go.Kf

def tysDescribeClusterRequest : List Ty := [.num .i16, .bool, .num .i8, .bool, .tags]
def lsDescribeClusterRequest : List Nat := [1, 1, 1, 1, 1]
def zfDescribeClusterRequest : List FV := [.one (.int .i16 0), .one (.bool false), .one (.int .i8 0), .one (.bool false), .tags []]
def dfDescribeClusterRequest : List FV := [.one (.int .i16 0), .one (.bool false), .one (.int .i8 1), .one (.bool false), .tags []]
def dsDescribeClusterRequest : List Dset := [.set 2 87 2 (.int .i8 1)]
theorem dsokDescribeClusterRequest : DsetsOk P 90 lsDescribeClusterRequest dsDescribeClusterRequest := ⟨⟨⟨by kernel_rfl, rfl, rfl⟩, by kernel_rfl, rfl⟩, trivial⟩
theorem defDescribeClusterRequest : DefSets P 46 lsDescribeClusterRequest dsDescribeClusterRequest := default_gives rdF.mix (by kernel_rfl) dsokDescribeClusterRequest
theorem dokDescribeClusterRequest : DefOk P 46 90 dfDescribeClusterRequest := DefSets.ok (z := .agg ⟨[.int .i16 0, .bool false, .int .i8 0, .bool false, .map none]⟩) (zfs := zfDescribeClusterRequest) (dc := [.int .i16 0, .bool false, .int .i8 1, .bool false, .map none]) defDescribeClusterRequest (by kernel_rfl) (by kernel_rfl) rfl rfl rfl (by kernel_rfl)
def tfsDescribeClusterRequest : List (List FV → PT) := [fun fs => tellPrim (fvGet fs 1), fun fs => tellPrim (fvGet fs 2), fun fs => tellPrim (fvGet fs 3)]
def tssDescribeClusterRequest : List TStep := [.call 48 1 4 0, .num 2 87 1, .call 48 3 4 2]
theorem tsokDescribeClusterRequest : StepsTell P N 90 tysDescribeClusterRequest tssDescribeClusterRequest tfsDescribeClusterRequest 0 := ⟨told_call tyZ ⟨by kernel_rfl, rfl, rfl⟩ (by kernel_rfl) cBool, told_num tyZ tellF ⟨by kernel_rfl, rfl, rfl⟩ (by kernel_rfl) (by kernel_rfl) fits_i8, told_call tyZ ⟨by kernel_rfl, rfl, rfl⟩ (by kernel_rfl) cBool, trivial⟩
def gpDescribeClusterRequest (fs : List FV) : PT := .mk 0 [] false (tfsDescribeClusterRequest.map (· fs)) (tellTags (fvGet fs 4))
theorem toldDescribeClusterRequest : TellOf P 31 tysDescribeClusterRequest gpDescribeClusterRequest := told_tags (S := 90) (N := 3) (g := 49) (ss := tssDescribeClusterRequest) rdF tyZ tellF (closure_gives rdF tyZ octF rowTg tagPlan (by kernel_rfl)) hEach hSorted (by kernel_rfl) rfl (by decide) tsokDescribeClusterRequest ⟨by kernel_rfl, rfl, rfl⟩

end Go.Proofs.YtlhbhamopejgcaaDoor
