/- GetTelemetrySubscriptionsResponse: what is written is told as it was. -/
import Derived.Test.YtcinbiokghpilaaGreatDoorDoorsGetTelemetrySubscriptionsResponse
import Derived.Test.YtcinbiokghpilaaGreatDoorFieldsGetTelemetrySubscriptionsResponse
namespace Go.Proofs.YtcinbiokghpilaaGreatDoor
open Go Go.Kf

def tdGetTelemetrySubscriptionsResponse : List TD := [.prim 1, .prim 2, .prim 3, .prim 4, .lprim 5, .prim 6, .prim 7, .prim 8, .lprim 9]
def tgGetTelemetrySubscriptionsResponse : Option Nat := some 10
theorem gpTd : gpGetTelemetrySubscriptionsResponse = tdGp tdGetTelemetrySubscriptionsResponse tgGetTelemetrySubscriptionsResponse := by kernel_rfl
theorem rt0 (t : PT) (hok : t.ok) : ∃ g, outOf (pWrite pf 0 0 t) 0 = some g ∧ pTold pf 0 (pFlex 0 0) t g = true := by
  rw [out0, gpTd]
  exact rt_message (p := 1) plainOk (by kernel_rfl : rtPlain 0 (pFlex 0 0) pf ss0s tdGetTelemetrySubscriptionsResponse (fsAt 0) 1 tgGetTelemetrySubscriptionsResponse = true) t hok
theorem allOut (v : Nat) (hv : v ≤ 0) (t : PT) (hok : t.ok) : ∃ g, outOf (pWrite pf 0 v t) v = some g ∧ pTold pf v (pFlex 0 v) t g = true := by
  have h : v = 0 := by omega
  rcases h with rfl
  · exact rt0 t hok
/-- The law: whatever the tree. -/
theorem lawOk (w : World) (n : Nat) (hn : n < 256) (t : PT) (ts : List Value) (e0 : Value) (ht : TreeC w t ts) (hok : t.ok) (hwt : t.wt ≤ 1048576) (he : ErrAt w N.gErr e0) (he0 : ∃ d y, e0 = .iface d y) : Gives P 3 [.int .u8 n, .agg ⟨ts⟩] w fun v w' => v = .bool true ∧ Keeps [] w w' :=
  have hv : n % (0 + 1) ≤ 0 := Nat.le_of_lt_succ (Nat.mod_lt _ (by decide))
  tellLaw_gives (m := 0) (fs := pf) (x := 0) (out := fun v l => outOf l v) (e0 := e0) spF spT tlT fitT tellF tyZ (by kernel_rfl) plainOk (by decide) ⟨_, fbF.zero, rfl⟩ maxOk (verOk n hn) msgOk (fun w l data hl hd he => allTell w _ l data e0 hv hl hd he he0) (allOut _ hv t hok)
    (Nat.le_trans (pWrite_len plainOk _ _ t) (Nat.mul_le_mul kOk hwt)) hGot ht hok he
end Go.Proofs.YtcinbiokghpilaaGreatDoor
