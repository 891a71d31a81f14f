/- DescribeTransactionsRequest: its fields, how it is read and told. -/
import Derived.Test.YtdldgadhbiohcaaDoorParts
namespace Go.Proofs.YtdldgadhbiohcaaDoor
open Go Go.Kf

def tysDescribeTransactionsRequest : List Ty := [.num .i16, .list [.text], .tags]
def lsDescribeTransactionsRequest : List Nat := [1, 1, 1]
def zfDescribeTransactionsRequest : List FV := [.one (.int .i16 0), .list true [], .tags []]
def dfDescribeTransactionsRequest : List FV := [.one (.int .i16 0), .list true [], .tags []]
def dsDescribeTransactionsRequest : List Dset := []
theorem dsokDescribeTransactionsRequest : DsetsOk P 60 lsDescribeTransactionsRequest dsDescribeTransactionsRequest := fun d hd => by cases hd
theorem defDescribeTransactionsRequest : DefSets P 27 lsDescribeTransactionsRequest dsDescribeTransactionsRequest := default_gives rdF.mix (by kernel_rfl) dsokDescribeTransactionsRequest
theorem dokDescribeTransactionsRequest : DefOk P 27 60 dfDescribeTransactionsRequest := DefSets.ok (z := .agg ⟨[.int .i16 0, .slice none 0 0, .map none]⟩) (zfs := zfDescribeTransactionsRequest) (dc := [.int .i16 0, .slice none 0 0, .map none]) defDescribeTransactionsRequest (by kernel_rfl) (by kernel_rfl) rfl rfl (by kernel_rfl)
def tfsDescribeTransactionsRequest : List (List FV → PT) := [fun fs => tellList (fun r => tellPrim (fvGet r 0)) (fvGet fs 1)]
def tssDescribeTransactionsRequest : List TStep := [.list 1 55 0 (.text)]
theorem tsokDescribeTransactionsRequest : StepsTell P N 60 tysDescribeTransactionsRequest tssDescribeTransactionsRequest tfsDescribeTransactionsRequest 0 := ⟨told_list (T := 9) rdF tyZ tellF ⟨by kernel_rfl, rfl, rfl⟩ (by kernel_rfl) (by kernel_rfl) (by kernel_rfl) rfl (el_text oneStr), trivial⟩
def gpDescribeTransactionsRequest (fs : List FV) : PT := .mk 0 [] false (tfsDescribeTransactionsRequest.map (· fs)) (tellTags (fvGet fs 2))
theorem toldDescribeTransactionsRequest : TellOf P 18 tysDescribeTransactionsRequest gpDescribeTransactionsRequest := told_tags (S := 60) (N := 1) (g := 30) (ss := tssDescribeTransactionsRequest) rdF tyZ tellF (closure_gives rdF tyZ octF rowTg tagPlan (by kernel_rfl)) hEach hSorted (by kernel_rfl) rfl (by decide) tsokDescribeTransactionsRequest ⟨by kernel_rfl, rfl, rfl⟩

end Go.Proofs.YtdldgadhbiohcaaDoor
