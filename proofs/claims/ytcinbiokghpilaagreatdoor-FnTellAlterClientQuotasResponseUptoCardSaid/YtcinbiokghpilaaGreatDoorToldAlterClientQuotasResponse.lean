/- AlterClientQuotasResponse: what is written is told as it was. -/
import Derived.Test.YtcinbiokghpilaaGreatDoorDoorsAlterClientQuotasResponse
import Derived.Test.YtcinbiokghpilaaGreatDoorFieldsAlterClientQuotasResponse
namespace Go.Proofs.YtcinbiokghpilaaGreatDoor
open Go Go.Kf

def tdAlterClientQuotasResponseEntryEntity : List TD := [.prim 0, .prim 1]
def tgAlterClientQuotasResponseEntryEntity : Option Nat := some 2
def tdAlterClientQuotasResponseEntry : List TD := [.prim 0, .prim 1, .lsub 2 tdAlterClientQuotasResponseEntryEntity tgAlterClientQuotasResponseEntryEntity]
def tgAlterClientQuotasResponseEntry : Option Nat := some 3
def tdAlterClientQuotasResponse : List TD := [.prim 1, .lsub 2 tdAlterClientQuotasResponseEntry tgAlterClientQuotasResponseEntry]
def tgAlterClientQuotasResponse : Option Nat := some 3
theorem gpTd : gpAlterClientQuotasResponse = tdGp tdAlterClientQuotasResponse tgAlterClientQuotasResponse := by kernel_rfl
theorem rt0 (t : PT) (hok : t.ok) : ∃ g, outOf (pWrite pf 1 0 t) 0 = some g ∧ pTold pf 0 (pFlex 1 0) t g = true := by
  rw [out0, gpTd]
  exact rt_message (p := 1) plainOk (by kernel_rfl : rtPlain 0 (pFlex 1 0) pf ss0s tdAlterClientQuotasResponse (fsAt 0) 1 tgAlterClientQuotasResponse = true) t hok
theorem rt1 (t : PT) (hok : t.ok) : ∃ g, outOf (pWrite pf 1 1 t) 1 = some g ∧ pTold pf 1 (pFlex 1 1) t g = true := by
  rw [out1, gpTd]
  exact rt_message (p := 1) plainOk (by kernel_rfl : rtPlain 1 (pFlex 1 1) pf ss1s tdAlterClientQuotasResponse (fsAt 1) 1 tgAlterClientQuotasResponse = true) t hok
theorem allOut (v : Nat) (hv : v ≤ 1) (t : PT) (hok : t.ok) : ∃ g, outOf (pWrite pf 1 v t) v = some g ∧ pTold pf v (pFlex 1 v) t g = true := by
  have h : v = 0 ∨ v = 1 := by omega
  rcases h with rfl | rfl
  · exact rt0 t hok
  · exact rt1 t hok
/-- The law: whatever the tree. -/
theorem lawOk (w : World) (n : Nat) (hn : n < 256) (t : PT) (ts : List Value) (e0 : Value) (ht : TreeC w t ts) (hok : t.ok) (hwt : t.wt ≤ 1048576) (he : ErrAt w N.gErr e0) (he0 : ∃ d y, e0 = .iface d y) : Gives P 4 [.int .u8 n, .agg ⟨ts⟩] w fun v w' => v = .bool true ∧ Keeps [] w w' :=
  have hv : n % (1 + 1) ≤ 1 := Nat.le_of_lt_succ (Nat.mod_lt _ (by decide))
  tellLaw_gives (m := 1) (fs := pf) (x := 1) (out := fun v l => outOf l v) (e0 := e0) spF spT tlT fitT tellF tyZ (by kernel_rfl) plainOk (by decide) ⟨_, fbF.zero, rfl⟩ maxOk (verOk n hn) msgOk (fun w l data hl hd he => allTell w _ l data e0 hv hl hd he he0) (allOut _ hv t hok)
    (Nat.le_trans (pWrite_len plainOk _ _ t) (Nat.mul_le_mul kOk hwt)) hGot ht hok he
end Go.Proofs.YtcinbiokghpilaaGreatDoor
