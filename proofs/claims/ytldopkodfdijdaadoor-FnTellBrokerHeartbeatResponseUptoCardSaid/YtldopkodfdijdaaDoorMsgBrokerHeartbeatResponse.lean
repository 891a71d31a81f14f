/- BrokerHeartbeatResponse: its fields, how it is read and told. -/
import Derived.Test.YtldopkodfdijdaaDoorParts
namespace Go.Proofs.YtldopkodfdijdaaDoor
open Go Go.Kf

def tysBrokerHeartbeatResponse : List Ty := [.num .i16, .num .i32, .num .i16, .bool, .bool, .bool, .tags]
def lsBrokerHeartbeatResponse : List Nat := [1, 1, 1, 1, 1, 1, 1]
def zfBrokerHeartbeatResponse : List FV := [.one (.int .i16 0), .one (.int .i32 0), .one (.int .i16 0), .one (.bool false), .one (.bool false), .one (.bool false), .tags []]
def dfBrokerHeartbeatResponse : List FV := [.one (.int .i16 0), .one (.int .i32 0), .one (.int .i16 0), .one (.bool false), .one (.bool true), .one (.bool false), .tags []]
def dsBrokerHeartbeatResponse : List Dset := [.set 4 4 4 (.bool true)]
theorem dsokBrokerHeartbeatResponse : DsetsOk P 77 lsBrokerHeartbeatResponse dsBrokerHeartbeatResponse := ⟨⟨⟨by kernel_rfl, rfl, rfl⟩, by kernel_rfl, rfl⟩, trivial⟩
theorem defBrokerHeartbeatResponse : DefSets P 38 lsBrokerHeartbeatResponse dsBrokerHeartbeatResponse := default_gives rdF.mix (by kernel_rfl) dsokBrokerHeartbeatResponse
theorem dokBrokerHeartbeatResponse : DefOk P 38 77 dfBrokerHeartbeatResponse := DefSets.ok (z := .agg ⟨[.int .i16 0, .int .i32 0, .int .i16 0, .bool false, .bool false, .bool false, .map none]⟩) (zfs := zfBrokerHeartbeatResponse) (dc := [.int .i16 0, .int .i32 0, .int .i16 0, .bool false, .bool true, .bool false, .map none]) defBrokerHeartbeatResponse (by kernel_rfl) (by kernel_rfl) rfl rfl rfl (by kernel_rfl)
def tfsBrokerHeartbeatResponse : List (List FV → PT) := [fun fs => tellPrim (fvGet fs 1), fun fs => tellPrim (fvGet fs 2), fun fs => tellPrim (fvGet fs 3), fun fs => tellPrim (fvGet fs 4), fun fs => tellPrim (fvGet fs 5)]
def tssBrokerHeartbeatResponse : List TStep := [.num 1 21 0, .num 2 46 1, .call 40 3 4 2, .call 40 4 4 3, .call 40 5 4 4]
theorem tsokBrokerHeartbeatResponse : StepsTell P N 77 tysBrokerHeartbeatResponse tssBrokerHeartbeatResponse tfsBrokerHeartbeatResponse 0 := ⟨told_num tyZ tellF ⟨by kernel_rfl, rfl, rfl⟩ (by kernel_rfl) (by kernel_rfl) fits_i32, told_num tyZ tellF ⟨by kernel_rfl, rfl, rfl⟩ (by kernel_rfl) (by kernel_rfl) fits_i16, told_call tyZ ⟨by kernel_rfl, rfl, rfl⟩ (by kernel_rfl) cBool, told_call tyZ ⟨by kernel_rfl, rfl, rfl⟩ (by kernel_rfl) cBool, told_call tyZ ⟨by kernel_rfl, rfl, rfl⟩ (by kernel_rfl) cBool, trivial⟩
def gpBrokerHeartbeatResponse (fs : List FV) : PT := .mk 0 [] false (tfsBrokerHeartbeatResponse.map (· fs)) (tellTags (fvGet fs 6))
theorem toldBrokerHeartbeatResponse : TellOf P 22 tysBrokerHeartbeatResponse gpBrokerHeartbeatResponse := told_tags (S := 77) (N := 5) (g := 42) (ss := tssBrokerHeartbeatResponse) rdF tyZ tellF (closure_gives rdF tyZ octF rowTg tagPlan (by kernel_rfl)) hEach hSorted (by kernel_rfl) rfl (by decide) tsokBrokerHeartbeatResponse ⟨by kernel_rfl, rfl, rfl⟩

end Go.Proofs.YtldopkodfdijdaaDoor
