/- ExpireDelegationTokenRequest: its fields, how it is read and told. -/
import Derived.Test.YtlpjcjdmhdcfpaaDoorParts
namespace Go.Proofs.YtlpjcjdmhdcfpaaDoor
open Go Go.Kf

def tysExpireDelegationTokenRequest : List Ty := [.num .i16, .octs, .num .i64, .tags]
def lsExpireDelegationTokenRequest : List Nat := [1, 1, 1, 1]
def zfExpireDelegationTokenRequest : List FV := [.one (.int .i16 0), .octs true [], .one (.int .i64 0), .tags []]
def dfExpireDelegationTokenRequest : List FV := [.one (.int .i16 0), .octs true [], .one (.int .i64 0), .tags []]
def dsExpireDelegationTokenRequest : List Dset := []
theorem dsokExpireDelegationTokenRequest : DsetsOk P 56 lsExpireDelegationTokenRequest dsExpireDelegationTokenRequest := fun d hd => by cases hd
theorem defExpireDelegationTokenRequest : DefSets P 17 lsExpireDelegationTokenRequest dsExpireDelegationTokenRequest := default_gives rdF.mix (by kernel_rfl) dsokExpireDelegationTokenRequest
theorem dokExpireDelegationTokenRequest : DefOk P 17 56 dfExpireDelegationTokenRequest := DefSets.ok (z := .agg ⟨[.int .i16 0, .slice none 0 0, .int .i64 0, .map none]⟩) (zfs := zfExpireDelegationTokenRequest) (dc := [.int .i16 0, .slice none 0 0, .int .i64 0, .map none]) defExpireDelegationTokenRequest (by kernel_rfl) (by kernel_rfl) rfl rfl (by kernel_rfl)
def tfsExpireDelegationTokenRequest : List (List FV → PT) := [fun fs => tellPrim (fvGet fs 1), fun fs => tellPrim (fvGet fs 2)]
def tssExpireDelegationTokenRequest : List TStep := [.call 19 1 22 0, .num64 2 1]
theorem tsokExpireDelegationTokenRequest : StepsTell P N 56 tysExpireDelegationTokenRequest tssExpireDelegationTokenRequest tfsExpireDelegationTokenRequest 0 := ⟨told_call tyZ ⟨by kernel_rfl, rfl, rfl⟩ (by kernel_rfl) cOcts, told_num64 tyZ tellF ⟨by kernel_rfl, rfl, rfl⟩, trivial⟩
def gpExpireDelegationTokenRequest (fs : List FV) : PT := .mk 0 [] false (tfsExpireDelegationTokenRequest.map (· fs)) (tellTags (fvGet fs 3))
theorem toldExpireDelegationTokenRequest : TellOf P 14 tysExpireDelegationTokenRequest gpExpireDelegationTokenRequest := told_tags (S := 56) (N := 2) (g := 21) (ss := tssExpireDelegationTokenRequest) rdF tyZ tellF (closure_gives rdF tyZ octF rowTg tagPlan (by kernel_rfl)) hEach hSorted (by kernel_rfl) rfl (by decide) tsokExpireDelegationTokenRequest ⟨by kernel_rfl, rfl, rfl⟩

end Go.Proofs.YtlpjcjdmhdcfpaaDoor
