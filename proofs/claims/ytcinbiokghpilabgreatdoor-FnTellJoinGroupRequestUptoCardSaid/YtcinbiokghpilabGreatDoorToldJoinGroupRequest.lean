/- JoinGroupRequest: what is written is told as it was. -/
import Derived.Test.YtcinbiokghpilabGreatDoorDoorsJoinGroupRequest
import Derived.Test.YtcinbiokghpilabGreatDoorFieldsJoinGroupRequest
namespace Go.Proofs.YtcinbiokghpilabGreatDoor
open Go Go.Kf

def tdJoinGroupRequestProtocol : List TD := [.prim 0, .prim 1]
def tgJoinGroupRequestProtocol : Option Nat := some 2
def tdJoinGroupRequest : List TD := [.prim 1, .prim 2, .prim 3, .prim 4, .prim 5, .prim 6, .lsub 7 tdJoinGroupRequestProtocol tgJoinGroupRequestProtocol, .prim 8]
def tgJoinGroupRequest : Option Nat := some 9
theorem gpTd : gpJoinGroupRequest = tdGp tdJoinGroupRequest tgJoinGroupRequest := by kernel_rfl
theorem rt0 (t : PT) (hok : t.ok) : ∃ g, outOf (pWrite pf 6 0 t) 0 = some g ∧ pTold pf 0 (pFlex 6 0) t g = true := by
  rw [out0, gpTd]
  exact rt_message (p := 1) plainOk (by kernel_rfl : rtPlain 0 (pFlex 6 0) pf ss0s tdJoinGroupRequest (fsAt 0) 1 tgJoinGroupRequest = true) t hok
theorem rt1 (t : PT) (hok : t.ok) : ∃ g, outOf (pWrite pf 6 1 t) 1 = some g ∧ pTold pf 1 (pFlex 6 1) t g = true := by
  rw [out1, gpTd]
  exact rt_message (p := 1) plainOk (by kernel_rfl : rtPlain 1 (pFlex 6 1) pf ss1s tdJoinGroupRequest (fsAt 1) 1 tgJoinGroupRequest = true) t hok
theorem rt2 (t : PT) (hok : t.ok) : ∃ g, outOf (pWrite pf 6 2 t) 2 = some g ∧ pTold pf 2 (pFlex 6 2) t g = true := by
  rw [out2, gpTd]
  exact rt_message (p := 1) plainOk (by kernel_rfl : rtPlain 2 (pFlex 6 2) pf ss2s tdJoinGroupRequest (fsAt 2) 1 tgJoinGroupRequest = true) t hok
theorem rt3 (t : PT) (hok : t.ok) : ∃ g, outOf (pWrite pf 6 3 t) 3 = some g ∧ pTold pf 3 (pFlex 6 3) t g = true := by
  rw [out3, gpTd]
  exact rt_message (p := 1) plainOk (by kernel_rfl : rtPlain 3 (pFlex 6 3) pf ss3s tdJoinGroupRequest (fsAt 3) 1 tgJoinGroupRequest = true) t hok
theorem rt4 (t : PT) (hok : t.ok) : ∃ g, outOf (pWrite pf 6 4 t) 4 = some g ∧ pTold pf 4 (pFlex 6 4) t g = true := by
  rw [out4, gpTd]
  exact rt_message (p := 1) plainOk (by kernel_rfl : rtPlain 4 (pFlex 6 4) pf ss4s tdJoinGroupRequest (fsAt 4) 1 tgJoinGroupRequest = true) t hok
theorem rt5 (t : PT) (hok : t.ok) : ∃ g, outOf (pWrite pf 6 5 t) 5 = some g ∧ pTold pf 5 (pFlex 6 5) t g = true := by
  rw [out5, gpTd]
  exact rt_message (p := 1) plainOk (by kernel_rfl : rtPlain 5 (pFlex 6 5) pf ss5s tdJoinGroupRequest (fsAt 5) 1 tgJoinGroupRequest = true) t hok
theorem rt6 (t : PT) (hok : t.ok) : ∃ g, outOf (pWrite pf 6 6 t) 6 = some g ∧ pTold pf 6 (pFlex 6 6) t g = true := by
  rw [out6, gpTd]
  exact rt_message (p := 1) plainOk (by kernel_rfl : rtPlain 6 (pFlex 6 6) pf ss6s tdJoinGroupRequest (fsAt 6) 1 tgJoinGroupRequest = true) t hok
theorem rt7 (t : PT) (hok : t.ok) : ∃ g, outOf (pWrite pf 6 7 t) 7 = some g ∧ pTold pf 7 (pFlex 6 7) t g = true := by
  rw [out7, gpTd]
  exact rt_message (p := 1) plainOk (by kernel_rfl : rtPlain 7 (pFlex 6 7) pf ss7s tdJoinGroupRequest (fsAt 7) 1 tgJoinGroupRequest = true) t hok
theorem rt8 (t : PT) (hok : t.ok) : ∃ g, outOf (pWrite pf 6 8 t) 8 = some g ∧ pTold pf 8 (pFlex 6 8) t g = true := by
  rw [out8, gpTd]
  exact rt_message (p := 1) plainOk (by kernel_rfl : rtPlain 8 (pFlex 6 8) pf ss8s tdJoinGroupRequest (fsAt 8) 1 tgJoinGroupRequest = true) t hok
theorem rt9 (t : PT) (hok : t.ok) : ∃ g, outOf (pWrite pf 6 9 t) 9 = some g ∧ pTold pf 9 (pFlex 6 9) t g = true := by
  rw [out9, gpTd]
  exact rt_message (p := 1) plainOk (by kernel_rfl : rtPlain 9 (pFlex 6 9) pf ss9s tdJoinGroupRequest (fsAt 9) 1 tgJoinGroupRequest = true) t hok
theorem allOut (v : Nat) (hv : v ≤ 9) (t : PT) (hok : t.ok) : ∃ g, outOf (pWrite pf 6 v t) v = some g ∧ pTold pf v (pFlex 6 v) t g = true := by
  have h : v = 0 ∨ v = 1 ∨ v = 2 ∨ v = 3 ∨ v = 4 ∨ v = 5 ∨ v = 6 ∨ v = 7 ∨ v = 8 ∨ v = 9 := by omega
  rcases h with rfl | rfl | rfl | rfl | rfl | rfl | rfl | rfl | rfl | rfl
  · exact rt0 t hok
  · exact rt1 t hok
  · exact rt2 t hok
  · exact rt3 t hok
  · exact rt4 t hok
  · exact rt5 t hok
  · exact rt6 t hok
  · exact rt7 t hok
  · exact rt8 t hok
  · exact rt9 t hok
/-- The law: whatever the tree. -/
theorem lawOk (w : World) (n : Nat) (hn : n < 256) (t : PT) (ts : List Value) (e0 : Value) (ht : TreeC w t ts) (hok : t.ok) (hwt : t.wt ≤ 1048576) (he : ErrAt w N.gErr e0) (he0 : ∃ d y, e0 = .iface d y) : Gives P 3 [.int .u8 n, .agg ⟨ts⟩] w fun v w' => v = .bool true ∧ Keeps [] w w' :=
  have hv : n % (9 + 1) ≤ 9 := Nat.le_of_lt_succ (Nat.mod_lt _ (by decide))
  tellLaw_gives (m := 9) (fs := pf) (x := 6) (out := fun v l => outOf l v) (e0 := e0) spF spT tlT fitT tellF tyZ (by kernel_rfl) plainOk (by decide) ⟨_, fbF.zero, rfl⟩ maxOk (verOk n hn) msgOk (fun w l data hl hd he => allTell w _ l data e0 hv hl hd he he0) (allOut _ hv t hok)
    (Nat.le_trans (pWrite_len plainOk _ _ t) (Nat.mul_le_mul kOk hwt)) hGot ht hok he
end Go.Proofs.YtcinbiokghpilabGreatDoor
