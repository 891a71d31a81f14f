/-
  The law FnMakeGroupMetadataValue holds: the octets of a GroupMetadataValue whose fields are set to anything are, at every version, those of the protocol.
  Conditions: what the law reads is of bulk at most 1048576, as the statement says.
-/
import Derived.Test.YtlofojpaihnegabRows
import Derived.WalkKit
import Derived.ProofKit
import Derived.OpenShut
import Derived.JoinedCond
import Derived.Test.YtlofojpaihnegabMkeGroupMetadataValue
namespace Go.Proofs.Ytlofojpaihnegab
open Go Go.Kf Go.ChangeShapes Go.WideShapes Go.ChangeAt Go.RowKit

theorem own : ownKnob Try.prog.godebug = none := by kernel_rfl
theorem bulkL (H : Type) : BulkLaws (Rows.uptoBulk (H := H)) Rows.uptoBulkAll :=
  ⟨fun _ => rfl, fun _ _ => rfl, fun d => (by cases d with
    | lit l => cases l <;> simp only [Rows.uptoBulk] <;> omega
    | _ => simp only [Rows.uptoBulk] <;> omega), rfl, fun _ _ => rfl⟩

set_option maxRecDepth 100000 in
theorem contract (H : Type) (enc : TypeId × Value → H) (W : World) (base : Nat) (args : Array Value) (ds gs : List (DataW H)) (before : List MemPlace)
    (hval : ∀ (j : Nat) t v, Try.f3.params[j]? = some t → args[j]? = some v → Value.okWide Try.prog W .any base t v)
    (hW : DataW.Whole enc Try.prog Try.f3.params.toList Rows.fnMakeGroupMetadataValueSpec.vars false W args.toList ds gs before) (hB : Rows.uptoBulkAll (ds ++ gs) ≤ 1048576) :
    Calls Try.prog 3 args W fun e W' => ∃ v, e = .returned v ∧ Rows.fnMakeGroupMetadataValueSpec.post enc Try.prog Try.f3 false true false false W args v W' := by
  obtain ⟨n, t, ts, hn, rfl, ht, hok, hwt, hpost⟩ := law_rowT (P := Try.prog) (c := N) (fn := Try.f3) (s := Rows.fnMakeGroupMetadataValueSpec) (tU := N.tU8) (tB := N.tBool) spF rowTy (bulkL H) rfl (by kernel_rfl) rdF.u8 tyY.bool (fun _ _ _ => rfl) rfl hval hW hB
  obtain ⟨_, hc⟩ := lawOk W n hn t ts ht hok hwt
  refine hc.mono fun e W' h => ?_
  match e, h with
  | .returned r, ⟨hr, hk⟩ =>
    subst hr
    exact ⟨_, rfl, hpost W' hk⟩

set_option maxRecDepth 100000 in
theorem lifted (os : Os) (started : os.Started) (H : Type) (enc : TypeId × Value → H) (F : Stop.Interp) :
    ReturnsInHanded {} Try.checked os 3 .any ((Rows.OpenSpec.upto Rows.fnMakeGroupMetadataValueSpec).pre6 enc Try.prog Try.f3 Rows.fnMakeGroupMetadataValueUptoRow.domain false) (((Rows.OpenSpec.upto Rows.fnMakeGroupMetadataValueSpec).at F).post enc Try.prog Try.f3 false true false false) := by
  refine returnsInHanded_of_cond (C := Try.checked) (s := (Rows.OpenSpec.upto Rows.fnMakeGroupMetadataValueSpec)) (k := Rows.uptoSmall) rfl own started (by kernel_rfl) Try.func3
    (OpenSpec.witness (enc := enc) (C := Try.checked) (s := (Rows.OpenSpec.upto Rows.fnMakeGroupMetadataValueSpec)) (k := Rows.uptoSmall) rfl false ⟨#[], #[.int .u8 0, .agg #[.int .i64 0, .slice none 0 0, .bool false, .slice none 0 0, .slice none 0 0]], []⟩ 8 (by kernel_rfl) (by kernel_rfl) (by kernel_rfl)
      (x := ([.lit (.int .u8 0), .agg [.lit (.int .i64 0), .nil, .lit (.bool false), .nil, .nil]], [], [])) (by kernel_rfl) rfl (by kernel_rfl)) ?_
  intro W base args ds gs before hval hW _ hk _
  exact contract H enc W base args ds gs before hval hW (of_decide_eq_true hk)

theorem said : Rows.FnMakeGroupMetadataValueUptoSaid :=
  OpenClaim.holds_of_cond 3 Try.f3 rfl rfl rfl rfl rfl rfl rfl ⟨rfl, rfl, rfl, rfl, rfl⟩ rfl rfl rfl rfl rfl (by kernel_rfl) Try.func3 (by kernel_rfl)
    (of_decide_eq_true (by kernel_rfl)) (by unfold Func.isWrapper; first | (rw [if_pos (by decide +kernel)]; kernel_rfl) | (rw [if_neg (by decide +kernel)]; exact ⟨rfl, rfl⟩))
    (fun os started H enc _ F => lifted os started H enc F)
end Go.Proofs.Ytlofojpaihnegab
