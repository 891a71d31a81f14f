/- AllocateProducerIDsRequest: its fields, how it is read and told. -/
import Derived.Test.YteemamacjglldaaDoorParts
namespace Go.Proofs.YteemamacjglldaaDoor
open Go Go.Kf

def tysAllocateProducerIDsRequest : List Ty := [.num .i16, .num .i32, .num .i64, .tags]
def lsAllocateProducerIDsRequest : List Nat := [1, 1, 1, 1]
def zfAllocateProducerIDsRequest : List FV := [.one (.int .i16 0), .one (.int .i32 0), .one (.int .i64 0), .tags []]
def dfAllocateProducerIDsRequest : List FV := [.one (.int .i16 0), .one (.int .i32 0), .one (.int .i64 (-1)), .tags []]
def dsAllocateProducerIDsRequest : List Dset := [.set 2 2 2 (.int .i64 (-1))]
theorem dsokAllocateProducerIDsRequest : DsetsOk P 74 lsAllocateProducerIDsRequest dsAllocateProducerIDsRequest := ⟨⟨⟨by kernel_rfl, rfl, rfl⟩, by kernel_rfl, rfl⟩, trivial⟩
theorem defAllocateProducerIDsRequest : DefSets P 34 lsAllocateProducerIDsRequest dsAllocateProducerIDsRequest := default_gives rdF.mix (by kernel_rfl) dsokAllocateProducerIDsRequest
theorem dokAllocateProducerIDsRequest : DefOk P 34 74 dfAllocateProducerIDsRequest := DefSets.ok (z := .agg ⟨[.int .i16 0, .int .i32 0, .int .i64 0, .map none]⟩) (zfs := zfAllocateProducerIDsRequest) (dc := [.int .i16 0, .int .i32 0, .int .i64 (-1), .map none]) defAllocateProducerIDsRequest (by kernel_rfl) (by kernel_rfl) rfl rfl rfl (by kernel_rfl)
def tfsAllocateProducerIDsRequest : List (List FV → PT) := [fun fs => tellPrim (fvGet fs 1), fun fs => tellPrim (fvGet fs 2)]
def tssAllocateProducerIDsRequest : List TStep := [.num 1 21 0, .num64 2 1]
theorem tsokAllocateProducerIDsRequest : StepsTell P N 74 tysAllocateProducerIDsRequest tssAllocateProducerIDsRequest tfsAllocateProducerIDsRequest 0 := ⟨told_num tyZ tellF ⟨by kernel_rfl, rfl, rfl⟩ (by kernel_rfl) (by kernel_rfl) fits_i32, told_num64 tyZ tellF ⟨by kernel_rfl, rfl, rfl⟩, trivial⟩
def gpAllocateProducerIDsRequest (fs : List FV) : PT := .mk 0 [] false (tfsAllocateProducerIDsRequest.map (· fs)) (tellTags (fvGet fs 3))
theorem toldAllocateProducerIDsRequest : TellOf P 25 tysAllocateProducerIDsRequest gpAllocateProducerIDsRequest := told_tags (S := 74) (N := 2) (g := 36) (ss := tssAllocateProducerIDsRequest) rdF tyZ tellF (closure_gives rdF tyZ octF rowTg tagPlan (by kernel_rfl)) hEach hSorted (by kernel_rfl) rfl (by decide) tsokAllocateProducerIDsRequest ⟨by kernel_rfl, rfl, rfl⟩

end Go.Proofs.YteemamacjglldaaDoor
