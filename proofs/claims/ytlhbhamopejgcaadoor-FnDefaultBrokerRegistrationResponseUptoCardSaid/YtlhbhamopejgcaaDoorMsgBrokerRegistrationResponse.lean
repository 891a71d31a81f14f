/- BrokerRegistrationResponse: its fields, how it is read and told. -/
import Derived.Test.YtlhbhamopejgcaaDoorParts
namespace Go.Proofs.YtlhbhamopejgcaaDoor
open Go Go.Kf

def tysBrokerRegistrationResponse : List Ty := [.num .i16, .num .i32, .num .i16, .num .i64, .tags]
def lsBrokerRegistrationResponse : List Nat := [1, 1, 1, 1, 1]
def zfBrokerRegistrationResponse : List FV := [.one (.int .i16 0), .one (.int .i32 0), .one (.int .i16 0), .one (.int .i64 0), .tags []]
def dfBrokerRegistrationResponse : List FV := [.one (.int .i16 0), .one (.int .i32 0), .one (.int .i16 0), .one (.int .i64 (-1)), .tags []]
def dsBrokerRegistrationResponse : List Dset := [.set 3 2 3 (.int .i64 (-1))]
theorem dsokBrokerRegistrationResponse : DsetsOk P 74 lsBrokerRegistrationResponse dsBrokerRegistrationResponse := ⟨⟨⟨by kernel_rfl, rfl, rfl⟩, by kernel_rfl, rfl⟩, trivial⟩
theorem defBrokerRegistrationResponse : DefSets P 22 lsBrokerRegistrationResponse dsBrokerRegistrationResponse := default_gives rdF.mix (by kernel_rfl) dsokBrokerRegistrationResponse
theorem dokBrokerRegistrationResponse : DefOk P 22 74 dfBrokerRegistrationResponse := DefSets.ok (z := .agg ⟨[.int .i16 0, .int .i32 0, .int .i16 0, .int .i64 0, .map none]⟩) (zfs := zfBrokerRegistrationResponse) (dc := [.int .i16 0, .int .i32 0, .int .i16 0, .int .i64 (-1), .map none]) defBrokerRegistrationResponse (by kernel_rfl) (by kernel_rfl) rfl rfl rfl (by kernel_rfl)
def tfsBrokerRegistrationResponse : List (List FV → PT) := [fun fs => tellPrim (fvGet fs 1), fun fs => tellPrim (fvGet fs 2), fun fs => tellPrim (fvGet fs 3)]
def tssBrokerRegistrationResponse : List TStep := [.num 1 21 0, .num 2 47 1, .num64 3 2]
theorem tsokBrokerRegistrationResponse : StepsTell P N 74 tysBrokerRegistrationResponse tssBrokerRegistrationResponse tfsBrokerRegistrationResponse 0 := ⟨told_num tyZ tellF ⟨by kernel_rfl, rfl, rfl⟩ (by kernel_rfl) (by kernel_rfl) fits_i32, told_num tyZ tellF ⟨by kernel_rfl, rfl, rfl⟩ (by kernel_rfl) (by kernel_rfl) fits_i16, told_num64 tyZ tellF ⟨by kernel_rfl, rfl, rfl⟩, trivial⟩
def gpBrokerRegistrationResponse (fs : List FV) : PT := .mk 0 [] false (tfsBrokerRegistrationResponse.map (· fs)) (tellTags (fvGet fs 4))
theorem toldBrokerRegistrationResponse : TellOf P 23 tysBrokerRegistrationResponse gpBrokerRegistrationResponse := told_tags (S := 74) (N := 3) (g := 37) (ss := tssBrokerRegistrationResponse) rdF tyZ tellF (closure_gives rdF tyZ octF rowTg tagPlan (by kernel_rfl)) hEach hSorted (by kernel_rfl) rfl (by decide) tsokBrokerRegistrationResponse ⟨by kernel_rfl, rfl, rfl⟩

end Go.Proofs.YtlhbhamopejgcaaDoor
