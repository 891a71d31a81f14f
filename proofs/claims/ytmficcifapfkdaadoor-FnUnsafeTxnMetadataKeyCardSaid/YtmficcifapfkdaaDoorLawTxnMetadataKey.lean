/-
  The law FnUnsafeTxnMetadataKey holds: both ways of reading tell the same of any octets as a TxnMetadataKey (of at most 1000 octets).
  Conditions: none beyond those of the statement; the listed error reads as its text lays it.
-/
import Derived.Test.YtmficcifapfkdaaDoorCards
import Derived.Test.YtmficcifapfkdaaDoorTie
import Derived.WalkKit
import Derived.ProofKit
import Derived.OpenShut
import Derived.Deep.DeepHandedRow
import Derived.Test.YtmficcifapfkdaaDoorToldTxnMetadataKey
namespace Go.Proofs.YtmficcifapfkdaaDoor
open Go Go.Kf Go.ChangeShapes Go.WideShapes Go.ChangeAt Go.RowKit

theorem own : ownKnob Tryd.prog.godebug = none := by kernel_rfl

set_option maxRecDepth 100000 in
theorem contract (H : Type) (enc : TypeId × Value → H) (W : World) (base : Nat) (args : Array Value) (ds gs : List (DataW H)) (before : List MemPlace)
    (hval : ∀ (j : Nat) t v, Tryd.f3.params[j]? = some t → args[j]? = some v → Value.okWide Tryd.prog W .any base t v)
    (hW : DataW.Whole enc Tryd.prog Tryd.f3.params.toList Rows.fnUnsafeTxnMetadataKeySpec.vars false W args.toList ds gs before) (hL : laidMetH Tryd.prog Rows.fnUnsafeTxnMetadataKeyRow.laid W) :
    Calls Tryd.prog 3 args W fun e W' => ∃ v, e = .returned v ∧ Rows.fnUnsafeTxnMetadataKeySpec.post enc Tryd.prog Tryd.f3 false true false false W args v W' := by
  obtain ⟨data, l, rfl, hd, hpost⟩ := law_rowD (P := Tryd.prog) (fn := Tryd.f3) (s := Rows.fnUnsafeTxnMetadataKeySpec) (tU := N.tU8) (tBy := N.tBytes) (tB := N.tBool) rfl (by kernel_rfl) rdF.u8 rdF.bytes (by kernel_rfl) tyY.bool (fun _ _ => rfl) rfl hval hW
  obtain ⟨u, v, he⟩ := err_at (g := N.gErr) (t := N.tErr) (by kernel_rfl) (by kernel_rfl) errI (by kernel_rfl) hL
  obtain ⟨_, hc⟩ := lawOk W data _ l hd he ⟨u, v, rfl⟩
  refine hc.mono fun e W' h => ?_
  match e, h with
  | .returned r, ⟨hr, hk⟩ =>
    subst hr
    exact ⟨_, rfl, hpost W' hk⟩

abbrev errText : ByteArray := { data := #[114, 101, 115, 112, 111, 110, 115, 101, 32, 100, 105, 100, 32, 110, 111, 116, 32, 99, 111, 110, 116, 97, 105, 110, 32, 101, 110, 111, 117, 103, 104, 32, 100, 97, 116, 97, 32, 116, 111, 32, 98, 101, 32, 118, 97, 108, 105, 100] }
noncomputable def low : Nat := (World.holding Tryd.prog default ⟨#[], #[], []⟩).heap.size
noncomputable def laidWorld (os : Os) : World :=
  let w0 := World.holding Tryd.prog os ⟨#[.cells #[.string errText] 104], #[], []⟩
  { w0 with heap := w0.heap.modify 1 fun
      | .cells _ t frozen => .cells #[.iface 87 (.pointer (some ⟨low, 0, none⟩))] t frozen
      | o => o }
abbrev wArgs : Array Value := #[.slice none 0 0]
theorem laid_met (os : Os) : laidMet Tryd.prog Rows.fnUnsafeTxnMetadataKeyRow.laid ((laidWorld os).forCall (fun _ _ => 0) ⟨#[], wArgs, []⟩).memory :=
  laidMet_of_run (ps := [.cell 1 0, .cell low 0]) 8 (by kernel_rfl) (by kernel_rfl) (by kernel_rfl)
theorem reads (os : Os) {H : Type} (enc : TypeId × Value → H) : ∃ places, DataW.whole enc Tryd.prog ((laidWorld os).forCall (fun _ _ => 0) ⟨#[], wArgs, []⟩).memory Tryd.f3.params.toList Rows.fnUnsafeTxnMetadataKeySpec.vars false wArgs.toList 8 = some ([.nil], [], places) :=
  ⟨[], by kernel_rfl⟩

set_option maxRecDepth 100000 in
theorem lifted (os : Os) (started : os.Started) (H : Type) (enc : TypeId × Value → H) (F : Stop.Interp) :
    ReturnsInHanded {} Tryd.checked os 3 .any ((OpenSpec.ofChange Rows.fnUnsafeTxnMetadataKeySpec).preRow enc Tryd.prog Tryd.f3 Rows.fnUnsafeTxnMetadataKeyRow.domain false Rows.fnUnsafeTxnMetadataKeyRow.laid) (((OpenSpec.ofChange Rows.fnUnsafeTxnMetadataKeySpec).at F).post enc Tryd.prog Tryd.f3 false true false false) := by
  obtain ⟨places, hx⟩ := reads os enc
  refine returnsInHanded_of_row (C := Tryd.checked) (s := OpenSpec.ofChange Rows.fnUnsafeTxnMetadataKeySpec) own started (by kernel_rfl) Tryd.func3
    (witness_row_at (enc := enc) (C := Tryd.checked) false (laidWorld os) wArgs rfl (by kernel_rfl) (by kernel_rfl) (by kernel_rfl)
      (OpenSpec.preRow_of_cond 8 hx (by kernel_rfl) (fun k hk => by cases hk) (by kernel_rfl) (laid_met os))) ?_
  intro W base args ds gs before hval hW _ _ _ hL _ _
  exact contract H enc W base args ds gs before hval hW hL

theorem said : Rows.FnUnsafeTxnMetadataKeySaid :=
  OpenClaim.holds_of_cond 3 Tryd.f3 rfl rfl rfl rfl rfl rfl rfl ⟨rfl, rfl, rfl, rfl, rfl⟩ rfl rfl rfl rfl rfl (by kernel_rfl) Tryd.func3 (by kernel_rfl)
    (of_decide_eq_true (by kernel_rfl)) (by unfold Func.isWrapper; first | (rw [if_pos (by decide +kernel)]; kernel_rfl) | (rw [if_neg (by decide +kernel)]; exact ⟨rfl, rfl⟩))
    (fun os started H enc _ F => by rw [OpenClaim.pre_eq_preRow]; exact lifted os started H enc F)

theorem plain (f : FuncId) (fn : Func) (hf : Tryd.pinned.checked.prog.funcNamed "pub-mailsack/laws.FnUnsafeTxnMetadataKey" = some f) (hfn : Tryd.pinned.checked.prog.funcs[f]? = some fn) :
    false = Tryd.pinned.checked.prog.looks [] ∧ ∀ (j : Nat) t, fn.params[j]? = some t → Tryd.pinned.checked.prog.wantsStandIn t = false := by
  obtain rfl : f = 3 := Option.some.inj ((show Tryd.prog.funcNamed "pub-mailsack/laws.FnUnsafeTxnMetadataKey" = some 3 by kernel_rfl).symm.trans hf) |>.symm
  obtain rfl : fn = Tryd.f3 := (Option.some.inj (Tryd.func3.symm.trans hfn)).symm
  refine ⟨by kernel_rfl, fun j t ht => ?_⟩
  rw [Tryd.params3] at ht
  rcases j with _ | j
  · obtain rfl : 22 = t := by simpa using ht
    exact (show Tryd.prog.wantsStandIn 22 = false by kernel_rfl)
  · simp at ht

/-- The card. -/
theorem card : Rows.FnUnsafeTxnMetadataKeyCardSaid :=
  Claim7.holds_tied_plain_at .later [] _ _ _ _ said (fun _ h => by cases h) (by kernel_rfl) (fun _ h => by cases h) fnUnsafeTxnMetadataKey_row_tie rfl ⟨rfl, rfl⟩ (by kernel_rfl) rfl plain (by kernel_rfl)
end Go.Proofs.YtmficcifapfkdaaDoor
