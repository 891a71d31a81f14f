/- BrokerHeartbeatResponse: what is written is told as it was. -/
import Derived.Test.YtldopkodfdijdaaDoorDoorsBrokerHeartbeatResponse
import Derived.Test.YtldopkodfdijdaaDoorFieldsBrokerHeartbeatResponse
namespace Go.Proofs.YtldopkodfdijdaaDoor
open Go Go.Kf

def tdBrokerHeartbeatResponse : List TD := [.prim 1, .prim 2, .prim 3, .prim 4, .prim 5]
def tgBrokerHeartbeatResponse : Option Nat := some 6
theorem gpTd : gpBrokerHeartbeatResponse = tdGp tdBrokerHeartbeatResponse tgBrokerHeartbeatResponse := by kernel_rfl
theorem rt0 (t : PT) (hok : t.ok) : ∃ g, outOf (pWrite pf 0 0 t) 0 = some g ∧ pTold pf 0 (pFlex 0 0) t g = true := by
  rw [out0, gpTd]
  exact rt_message (p := 1) plainOk (by kernel_rfl : rtPlain 0 (pFlex 0 0) pf ss0s tdBrokerHeartbeatResponse (fsAt 0) 1 tgBrokerHeartbeatResponse = true) t hok
theorem rt1 (t : PT) (hok : t.ok) : ∃ g, outOf (pWrite pf 0 1 t) 1 = some g ∧ pTold pf 1 (pFlex 0 1) t g = true := by
  rw [out1, gpTd]
  exact rt_message (p := 1) plainOk (by kernel_rfl : rtPlain 1 (pFlex 0 1) pf ss1s tdBrokerHeartbeatResponse (fsAt 1) 1 tgBrokerHeartbeatResponse = true) t hok
theorem rt2 (t : PT) (hok : t.ok) : ∃ g, outOf (pWrite pf 0 2 t) 2 = some g ∧ pTold pf 2 (pFlex 0 2) t g = true := by
  rw [out2, gpTd]
  exact rt_message (p := 1) plainOk (by kernel_rfl : rtPlain 2 (pFlex 0 2) pf ss2s tdBrokerHeartbeatResponse (fsAt 2) 1 tgBrokerHeartbeatResponse = true) t hok
theorem allOut (v : Nat) (hv : v ≤ 2) (t : PT) (hok : t.ok) : ∃ g, outOf (pWrite pf 0 v t) v = some g ∧ pTold pf v (pFlex 0 v) t g = true := by
  have h : v = 0 ∨ v = 1 ∨ v = 2 := by omega
  rcases h with rfl | rfl | rfl
  · exact rt0 t hok
  · exact rt1 t hok
  · exact rt2 t hok
/-- The law: whatever the tree. -/
theorem lawOk (w : World) (n : Nat) (hn : n < 256) (t : PT) (ts : List Value) (e0 : Value) (ht : TreeC w t ts) (hok : t.ok) (hwt : t.wt ≤ 1048576) (he : ErrAt w N.gErr e0) (he0 : ∃ d y, e0 = .iface d y) : Gives P 3 [.int .u8 n, .agg ⟨ts⟩] w fun v w' => v = .bool true ∧ Keeps [] w w' :=
  have hv : n % (2 + 1) ≤ 2 := Nat.le_of_lt_succ (Nat.mod_lt _ (by decide))
  tellLaw_gives (m := 2) (fs := pf) (x := 0) (out := fun v l => outOf l v) (e0 := e0) spF spT tlT fitT tellF tyZ (by kernel_rfl) plainOk (by decide) ⟨_, fbF.zero, rfl⟩ maxOk (verOk n hn) msgOk (fun w l data hl hd he => allTell w _ l data e0 hv hl hd he he0) (allOut _ hv t hok)
    (Nat.le_trans (pWrite_len plainOk _ _ t) (Nat.mul_le_mul kOk hwt)) hGot ht hok he
end Go.Proofs.YtldopkodfdijdaaDoor
