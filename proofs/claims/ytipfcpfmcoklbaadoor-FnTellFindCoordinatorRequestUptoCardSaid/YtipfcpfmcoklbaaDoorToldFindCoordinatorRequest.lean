/- FindCoordinatorRequest: what is written is told as it was. -/
import Derived.Test.YtipfcpfmcoklbaaDoorDoorsFindCoordinatorRequest
import Derived.Test.YtipfcpfmcoklbaaDoorFieldsFindCoordinatorRequest
namespace Go.Proofs.YtipfcpfmcoklbaaDoor
open Go Go.Kf

def tdFindCoordinatorRequest : List TD := [.prim 1, .prim 2, .lprim 3]
def tgFindCoordinatorRequest : Option Nat := some 4
theorem gpTd : gpFindCoordinatorRequest = tdGp tdFindCoordinatorRequest tgFindCoordinatorRequest := by kernel_rfl
theorem rt0 (t : PT) (hok : t.ok) : ∃ g, outOf (pWrite pf 3 0 t) 0 = some g ∧ pTold pf 0 (pFlex 3 0) t g = true := by
  rw [out0, gpTd]
  exact rt_message (p := 1) plainOk (by kernel_rfl : rtPlain 0 (pFlex 3 0) pf ss0s tdFindCoordinatorRequest (fsAt 0) 1 tgFindCoordinatorRequest = true) t hok
theorem rt1 (t : PT) (hok : t.ok) : ∃ g, outOf (pWrite pf 3 1 t) 1 = some g ∧ pTold pf 1 (pFlex 3 1) t g = true := by
  rw [out1, gpTd]
  exact rt_message (p := 1) plainOk (by kernel_rfl : rtPlain 1 (pFlex 3 1) pf ss1s tdFindCoordinatorRequest (fsAt 1) 1 tgFindCoordinatorRequest = true) t hok
theorem rt2 (t : PT) (hok : t.ok) : ∃ g, outOf (pWrite pf 3 2 t) 2 = some g ∧ pTold pf 2 (pFlex 3 2) t g = true := by
  rw [out2, gpTd]
  exact rt_message (p := 1) plainOk (by kernel_rfl : rtPlain 2 (pFlex 3 2) pf ss2s tdFindCoordinatorRequest (fsAt 2) 1 tgFindCoordinatorRequest = true) t hok
theorem rt3 (t : PT) (hok : t.ok) : ∃ g, outOf (pWrite pf 3 3 t) 3 = some g ∧ pTold pf 3 (pFlex 3 3) t g = true := by
  rw [out3, gpTd]
  exact rt_message (p := 1) plainOk (by kernel_rfl : rtPlain 3 (pFlex 3 3) pf ss3s tdFindCoordinatorRequest (fsAt 3) 1 tgFindCoordinatorRequest = true) t hok
theorem rt4 (t : PT) (hok : t.ok) : ∃ g, outOf (pWrite pf 3 4 t) 4 = some g ∧ pTold pf 4 (pFlex 3 4) t g = true := by
  rw [out4, gpTd]
  exact rt_message (p := 1) plainOk (by kernel_rfl : rtPlain 4 (pFlex 3 4) pf ss4s tdFindCoordinatorRequest (fsAt 4) 1 tgFindCoordinatorRequest = true) t hok
theorem rt5 (t : PT) (hok : t.ok) : ∃ g, outOf (pWrite pf 3 5 t) 5 = some g ∧ pTold pf 5 (pFlex 3 5) t g = true := by
  rw [out5, gpTd]
  exact rt_message (p := 1) plainOk (by kernel_rfl : rtPlain 5 (pFlex 3 5) pf ss5s tdFindCoordinatorRequest (fsAt 5) 1 tgFindCoordinatorRequest = true) t hok
theorem rt6 (t : PT) (hok : t.ok) : ∃ g, outOf (pWrite pf 3 6 t) 6 = some g ∧ pTold pf 6 (pFlex 3 6) t g = true := by
  rw [out6, gpTd]
  exact rt_message (p := 1) plainOk (by kernel_rfl : rtPlain 6 (pFlex 3 6) pf ss6s tdFindCoordinatorRequest (fsAt 6) 1 tgFindCoordinatorRequest = true) t hok
theorem allOut (v : Nat) (hv : v ≤ 6) (t : PT) (hok : t.ok) : ∃ g, outOf (pWrite pf 3 v t) v = some g ∧ pTold pf v (pFlex 3 v) t g = true := by
  have h : v = 0 ∨ v = 1 ∨ v = 2 ∨ v = 3 ∨ v = 4 ∨ v = 5 ∨ v = 6 := by omega
  rcases h with rfl | rfl | rfl | rfl | rfl | rfl | rfl
  · exact rt0 t hok
  · exact rt1 t hok
  · exact rt2 t hok
  · exact rt3 t hok
  · exact rt4 t hok
  · exact rt5 t hok
  · exact rt6 t hok
/-- The law: whatever the tree. -/
theorem lawOk (w : World) (n : Nat) (hn : n < 256) (t : PT) (ts : List Value) (e0 : Value) (ht : TreeC w t ts) (hok : t.ok) (hwt : t.wt ≤ 1048576) (he : ErrAt w N.gErr e0) (he0 : ∃ d y, e0 = .iface d y) : Gives P 4 [.int .u8 n, .agg ⟨ts⟩] w fun v w' => v = .bool true ∧ Keeps [] w w' :=
  have hv : n % (6 + 1) ≤ 6 := Nat.le_of_lt_succ (Nat.mod_lt _ (by decide))
  tellLaw_gives (m := 6) (fs := pf) (x := 3) (out := fun v l => outOf l v) (e0 := e0) spF spT tlT fitT tellF tyZ (by kernel_rfl) plainOk (by decide) ⟨_, fbF.zero, rfl⟩ maxOk (verOk n hn) msgOk (fun w l data hl hd he => allTell w _ l data e0 hv hl hd he he0) (allOut _ hv t hok)
    (Nat.le_trans (pWrite_len plainOk _ _ t) (Nat.mul_le_mul kOk hwt)) hGot ht hok he
end Go.Proofs.YtipfcpfmcoklbaaDoor
