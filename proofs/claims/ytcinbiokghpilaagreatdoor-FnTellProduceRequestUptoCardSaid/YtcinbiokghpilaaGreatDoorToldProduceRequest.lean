/- ProduceRequest: what is written is told as it was. -/
import Derived.Test.YtcinbiokghpilaaGreatDoorDoorsProduceRequest
import Derived.Test.YtcinbiokghpilaaGreatDoorFieldsProduceRequest
namespace Go.Proofs.YtcinbiokghpilaaGreatDoor
open Go Go.Kf

def tdProduceRequestTopicPartition : List TD := [.prim 0, .prim 1]
def tgProduceRequestTopicPartition : Option Nat := some 2
def tdProduceRequestTopic : List TD := [.prim 0, .prim 1, .lsub 2 tdProduceRequestTopicPartition tgProduceRequestTopicPartition]
def tgProduceRequestTopic : Option Nat := some 3
def tdProduceRequest : List TD := [.prim 1, .prim 2, .prim 3, .lsub 4 tdProduceRequestTopic tgProduceRequestTopic]
def tgProduceRequest : Option Nat := some 5
theorem gpTd : gpProduceRequest = tdGp tdProduceRequest tgProduceRequest := by kernel_rfl
theorem rt0 (t : PT) (hok : t.ok) : ∃ g, outOf (pWrite pf 9 0 t) 0 = some g ∧ pTold pf 0 (pFlex 9 0) t g = true := by
  rw [out0, gpTd]
  exact rt_message (p := 1) plainOk (by kernel_rfl : rtPlain 0 (pFlex 9 0) pf ss0s tdProduceRequest (fsAt 0) 1 tgProduceRequest = true) t hok
theorem rt1 (t : PT) (hok : t.ok) : ∃ g, outOf (pWrite pf 9 1 t) 1 = some g ∧ pTold pf 1 (pFlex 9 1) t g = true := by
  rw [out1, gpTd]
  exact rt_message (p := 1) plainOk (by kernel_rfl : rtPlain 1 (pFlex 9 1) pf ss1s tdProduceRequest (fsAt 1) 1 tgProduceRequest = true) t hok
theorem rt2 (t : PT) (hok : t.ok) : ∃ g, outOf (pWrite pf 9 2 t) 2 = some g ∧ pTold pf 2 (pFlex 9 2) t g = true := by
  rw [out2, gpTd]
  exact rt_message (p := 1) plainOk (by kernel_rfl : rtPlain 2 (pFlex 9 2) pf ss2s tdProduceRequest (fsAt 2) 1 tgProduceRequest = true) t hok
theorem rt3 (t : PT) (hok : t.ok) : ∃ g, outOf (pWrite pf 9 3 t) 3 = some g ∧ pTold pf 3 (pFlex 9 3) t g = true := by
  rw [out3, gpTd]
  exact rt_message (p := 1) plainOk (by kernel_rfl : rtPlain 3 (pFlex 9 3) pf ss3s tdProduceRequest (fsAt 3) 1 tgProduceRequest = true) t hok
theorem rt4 (t : PT) (hok : t.ok) : ∃ g, outOf (pWrite pf 9 4 t) 4 = some g ∧ pTold pf 4 (pFlex 9 4) t g = true := by
  rw [out4, gpTd]
  exact rt_message (p := 1) plainOk (by kernel_rfl : rtPlain 4 (pFlex 9 4) pf ss4s tdProduceRequest (fsAt 4) 1 tgProduceRequest = true) t hok
theorem rt5 (t : PT) (hok : t.ok) : ∃ g, outOf (pWrite pf 9 5 t) 5 = some g ∧ pTold pf 5 (pFlex 9 5) t g = true := by
  rw [out5, gpTd]
  exact rt_message (p := 1) plainOk (by kernel_rfl : rtPlain 5 (pFlex 9 5) pf ss5s tdProduceRequest (fsAt 5) 1 tgProduceRequest = true) t hok
theorem rt6 (t : PT) (hok : t.ok) : ∃ g, outOf (pWrite pf 9 6 t) 6 = some g ∧ pTold pf 6 (pFlex 9 6) t g = true := by
  rw [out6, gpTd]
  exact rt_message (p := 1) plainOk (by kernel_rfl : rtPlain 6 (pFlex 9 6) pf ss6s tdProduceRequest (fsAt 6) 1 tgProduceRequest = true) t hok
theorem rt7 (t : PT) (hok : t.ok) : ∃ g, outOf (pWrite pf 9 7 t) 7 = some g ∧ pTold pf 7 (pFlex 9 7) t g = true := by
  rw [out7, gpTd]
  exact rt_message (p := 1) plainOk (by kernel_rfl : rtPlain 7 (pFlex 9 7) pf ss7s tdProduceRequest (fsAt 7) 1 tgProduceRequest = true) t hok
theorem rt8 (t : PT) (hok : t.ok) : ∃ g, outOf (pWrite pf 9 8 t) 8 = some g ∧ pTold pf 8 (pFlex 9 8) t g = true := by
  rw [out8, gpTd]
  exact rt_message (p := 1) plainOk (by kernel_rfl : rtPlain 8 (pFlex 9 8) pf ss8s tdProduceRequest (fsAt 8) 1 tgProduceRequest = true) t hok
theorem rt9 (t : PT) (hok : t.ok) : ∃ g, outOf (pWrite pf 9 9 t) 9 = some g ∧ pTold pf 9 (pFlex 9 9) t g = true := by
  rw [out9, gpTd]
  exact rt_message (p := 1) plainOk (by kernel_rfl : rtPlain 9 (pFlex 9 9) pf ss9s tdProduceRequest (fsAt 9) 1 tgProduceRequest = true) t hok
theorem rt10 (t : PT) (hok : t.ok) : ∃ g, outOf (pWrite pf 9 10 t) 10 = some g ∧ pTold pf 10 (pFlex 9 10) t g = true := by
  rw [out10, gpTd]
  exact rt_message (p := 1) plainOk (by kernel_rfl : rtPlain 10 (pFlex 9 10) pf ss10s tdProduceRequest (fsAt 10) 1 tgProduceRequest = true) t hok
theorem rt11 (t : PT) (hok : t.ok) : ∃ g, outOf (pWrite pf 9 11 t) 11 = some g ∧ pTold pf 11 (pFlex 9 11) t g = true := by
  rw [out11, gpTd]
  exact rt_message (p := 1) plainOk (by kernel_rfl : rtPlain 11 (pFlex 9 11) pf ss11s tdProduceRequest (fsAt 11) 1 tgProduceRequest = true) t hok
theorem rt12 (t : PT) (hok : t.ok) : ∃ g, outOf (pWrite pf 9 12 t) 12 = some g ∧ pTold pf 12 (pFlex 9 12) t g = true := by
  rw [out12, gpTd]
  exact rt_message (p := 1) plainOk (by kernel_rfl : rtPlain 12 (pFlex 9 12) pf ss12s tdProduceRequest (fsAt 12) 1 tgProduceRequest = true) t hok
theorem rt13 (t : PT) (hok : t.ok) : ∃ g, outOf (pWrite pf 9 13 t) 13 = some g ∧ pTold pf 13 (pFlex 9 13) t g = true := by
  rw [out13, gpTd]
  exact rt_message (p := 1) plainOk (by kernel_rfl : rtPlain 13 (pFlex 9 13) pf ss13s tdProduceRequest (fsAt 13) 1 tgProduceRequest = true) t hok
theorem allOut (v : Nat) (hv : v ≤ 13) (t : PT) (hok : t.ok) : ∃ g, outOf (pWrite pf 9 v t) v = some g ∧ pTold pf v (pFlex 9 v) t g = true := by
  have h : v = 0 ∨ v = 1 ∨ v = 2 ∨ v = 3 ∨ v = 4 ∨ v = 5 ∨ v = 6 ∨ v = 7 ∨ v = 8 ∨ v = 9 ∨ v = 10 ∨ v = 11 ∨ v = 12 ∨ v = 13 := by omega
  rcases h with rfl | rfl | rfl | rfl | rfl | rfl | rfl | rfl | rfl | rfl | rfl | rfl | rfl | rfl
  · exact rt0 t hok
  · exact rt1 t hok
  · exact rt2 t hok
  · exact rt3 t hok
  · exact rt4 t hok
  · exact rt5 t hok
  · exact rt6 t hok
  · exact rt7 t hok
  · exact rt8 t hok
  · exact rt9 t hok
  · exact rt10 t hok
  · exact rt11 t hok
  · exact rt12 t hok
  · exact rt13 t hok
/-- The law: whatever the tree. -/
theorem lawOk (w : World) (n : Nat) (hn : n < 256) (t : PT) (ts : List Value) (e0 : Value) (ht : TreeC w t ts) (hok : t.ok) (hwt : t.wt ≤ 1048576) (he : ErrAt w N.gErr e0) (he0 : ∃ d y, e0 = .iface d y) : Gives P 5 [.int .u8 n, .agg ⟨ts⟩] w fun v w' => v = .bool true ∧ Keeps [] w w' :=
  have hv : n % (13 + 1) ≤ 13 := Nat.le_of_lt_succ (Nat.mod_lt _ (by decide))
  tellLaw_gives (m := 13) (fs := pf) (x := 9) (out := fun v l => outOf l v) (e0 := e0) spF spT tlT fitT tellF tyZ (by kernel_rfl) plainOk (by decide) ⟨_, fbF.zero, rfl⟩ maxOk (verOk n hn) msgOk (fun w l data hl hd he => allTell w _ l data e0 hv hl hd he he0) (allOut _ hv t hok)
    (Nat.le_trans (pWrite_len plainOk _ _ t) (Nat.mul_le_mul kOk hwt)) hGot ht hok he
end Go.Proofs.YtcinbiokghpilaaGreatDoor
