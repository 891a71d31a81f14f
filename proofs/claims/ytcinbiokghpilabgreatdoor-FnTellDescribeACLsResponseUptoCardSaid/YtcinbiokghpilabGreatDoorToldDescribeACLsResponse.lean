/- DescribeACLsResponse: what is written is told as it was. -/
import Derived.Test.YtcinbiokghpilabGreatDoorDoorsDescribeACLsResponse
import Derived.Test.YtcinbiokghpilabGreatDoorFieldsDescribeACLsResponse
namespace Go.Proofs.YtcinbiokghpilabGreatDoor
open Go Go.Kf

def tdDescribeACLsResponseResourceACL : List TD := [.prim 0, .prim 1, .prim 2, .prim 3]
def tgDescribeACLsResponseResourceACL : Option Nat := some 4
def tdDescribeACLsResponseResource : List TD := [.prim 0, .prim 1, .prim 2, .lsub 3 tdDescribeACLsResponseResourceACL tgDescribeACLsResponseResourceACL]
def tgDescribeACLsResponseResource : Option Nat := some 4
def tdDescribeACLsResponse : List TD := [.prim 1, .prim 2, .prim 3, .lsub 4 tdDescribeACLsResponseResource tgDescribeACLsResponseResource]
def tgDescribeACLsResponse : Option Nat := some 5
theorem gpTd : gpDescribeACLsResponse = tdGp tdDescribeACLsResponse tgDescribeACLsResponse := by kernel_rfl
theorem rt0 (t : PT) (hok : t.ok) : ∃ g, outOf (pWrite pf 2 0 t) 0 = some g ∧ pTold pf 0 (pFlex 2 0) t g = true := by
  rw [out0, gpTd]
  exact rt_message (p := 1) plainOk (by kernel_rfl : rtPlain 0 (pFlex 2 0) pf ss0s tdDescribeACLsResponse (fsAt 0) 1 tgDescribeACLsResponse = true) t hok
theorem rt1 (t : PT) (hok : t.ok) : ∃ g, outOf (pWrite pf 2 1 t) 1 = some g ∧ pTold pf 1 (pFlex 2 1) t g = true := by
  rw [out1, gpTd]
  exact rt_message (p := 1) plainOk (by kernel_rfl : rtPlain 1 (pFlex 2 1) pf ss1s tdDescribeACLsResponse (fsAt 1) 1 tgDescribeACLsResponse = true) t hok
theorem rt2 (t : PT) (hok : t.ok) : ∃ g, outOf (pWrite pf 2 2 t) 2 = some g ∧ pTold pf 2 (pFlex 2 2) t g = true := by
  rw [out2, gpTd]
  exact rt_message (p := 1) plainOk (by kernel_rfl : rtPlain 2 (pFlex 2 2) pf ss2s tdDescribeACLsResponse (fsAt 2) 1 tgDescribeACLsResponse = true) t hok
theorem rt3 (t : PT) (hok : t.ok) : ∃ g, outOf (pWrite pf 2 3 t) 3 = some g ∧ pTold pf 3 (pFlex 2 3) t g = true := by
  rw [out3, gpTd]
  exact rt_message (p := 1) plainOk (by kernel_rfl : rtPlain 3 (pFlex 2 3) pf ss3s tdDescribeACLsResponse (fsAt 3) 1 tgDescribeACLsResponse = true) t hok
theorem allOut (v : Nat) (hv : v ≤ 3) (t : PT) (hok : t.ok) : ∃ g, outOf (pWrite pf 2 v t) v = some g ∧ pTold pf v (pFlex 2 v) t g = true := by
  have h : v = 0 ∨ v = 1 ∨ v = 2 ∨ v = 3 := by omega
  rcases h with rfl | rfl | rfl | rfl
  · exact rt0 t hok
  · exact rt1 t hok
  · exact rt2 t hok
  · exact rt3 t hok
/-- The law: whatever the tree. -/
theorem lawOk (w : World) (n : Nat) (hn : n < 256) (t : PT) (ts : List Value) (e0 : Value) (ht : TreeC w t ts) (hok : t.ok) (hwt : t.wt ≤ 1048576) (he : ErrAt w N.gErr e0) (he0 : ∃ d y, e0 = .iface d y) : Gives P 5 [.int .u8 n, .agg ⟨ts⟩] w fun v w' => v = .bool true ∧ Keeps [] w w' :=
  have hv : n % (3 + 1) ≤ 3 := Nat.le_of_lt_succ (Nat.mod_lt _ (by decide))
  tellLaw_gives (m := 3) (fs := pf) (x := 2) (out := fun v l => outOf l v) (e0 := e0) spF spT tlT fitT tellF tyZ (by kernel_rfl) plainOk (by decide) ⟨_, fbF.zero, rfl⟩ maxOk (verOk n hn) msgOk (fun w l data hl hd he => allTell w _ l data e0 hv hl hd he he0) (allOut _ hv t hok)
    (Nat.le_trans (pWrite_len plainOk _ _ t) (Nat.mul_le_mul kOk hwt)) hGot ht hok he
end Go.Proofs.YtcinbiokghpilabGreatDoor
