/-
  The law FnTellConsumerMemberMetadata holds: of a ConsumerMemberMetadata that is written by the protocol its version and just its fields are told, each in its place.
  Conditions: what the law reads is of bulk at most 1048576, as the statement says; the listed error reads as its text lays it.
-/
import Derived.Test.YtmficcifapfkdabDoorCards
import Derived.Test.YtmficcifapfkdabDoorTie
import Derived.WalkKit
import Derived.ProofKit
import Derived.OpenShut
import Derived.Deep.DeepHandedRow
import Derived.Test.YtmficcifapfkdabDoorToldConsumerMemberMetadata
namespace Go.Proofs.YtmficcifapfkdabDoor
open Go Go.Kf Go.ChangeShapes Go.WideShapes Go.ChangeAt Go.RowKit

theorem own : ownKnob Tryd.prog.godebug = none := by kernel_rfl
theorem bulkL (H : Type) : BulkLaws (Rows.uptoBulk (H := H)) Rows.uptoBulkAll :=
  ⟨fun _ => rfl, fun _ _ => rfl, fun d => (by cases d with
    | lit l => cases l <;> simp only [Rows.uptoBulk] <;> omega
    | _ => simp only [Rows.uptoBulk] <;> omega), rfl, fun _ _ => rfl⟩

set_option maxRecDepth 100000 in
theorem contract (H : Type) (enc : TypeId × Value → H) (W : World) (base : Nat) (args : Array Value) (ds gs : List (DataW H)) (before : List MemPlace)
    (hval : ∀ (j : Nat) t v, Tryd.f3.params[j]? = some t → args[j]? = some v → Value.okWide Tryd.prog W .any base t v)
    (hW : DataW.Whole enc Tryd.prog Tryd.f3.params.toList Rows.fnTellConsumerMemberMetadataSpec.vars false W args.toList ds gs before) (hB : Rows.uptoBulkAll (ds ++ gs) ≤ 1048576) (hL : laidMetH Tryd.prog Rows.fnTellConsumerMemberMetadataUptoRow.laid W) :
    Calls Tryd.prog 3 args W fun e W' => ∃ v, e = .returned v ∧ Rows.fnTellConsumerMemberMetadataSpec.post enc Tryd.prog Tryd.f3 false true false false W args v W' := by
  obtain ⟨n, t, ts, hn, rfl, ht, hok, hwt, hpost⟩ := law_rowT (P := Tryd.prog) (c := N) (fn := Tryd.f3) (s := Rows.fnTellConsumerMemberMetadataSpec) (tU := N.tU8) (tB := N.tBool) spF rowTy (bulkL H) rfl (by kernel_rfl) rdF.u8 tyY.bool (fun _ _ _ => rfl) rfl hval hW hB
  obtain ⟨u, v, he⟩ := err_at (g := N.gErr) (t := N.tErr) (by kernel_rfl) (by kernel_rfl) errI (by kernel_rfl) hL
  obtain ⟨_, hc⟩ := lawOk W n hn t ts _ ht hok hwt he ⟨u, v, rfl⟩
  refine hc.mono fun e W' h => ?_
  match e, h with
  | .returned r, ⟨hr, hk⟩ =>
    subst hr
    exact ⟨_, rfl, hpost W' hk⟩

abbrev errText : ByteArray := { data := #[114, 101, 115, 112, 111, 110, 115, 101, 32, 100, 105, 100, 32, 110, 111, 116, 32, 99, 111, 110, 116, 97, 105, 110, 32, 101, 110, 111, 117, 103, 104, 32, 100, 97, 116, 97, 32, 116, 111, 32, 98, 101, 32, 118, 97, 108, 105, 100] }
noncomputable def low : Nat := (World.holding Tryd.prog default ⟨#[], #[], []⟩).heap.size
noncomputable def laidWorld (os : Os) : World :=
  let w0 := World.holding Tryd.prog os ⟨#[.cells #[.string errText] 126], #[], []⟩
  { w0 with heap := w0.heap.modify 1 fun
      | .cells _ t frozen => .cells #[.iface 110 (.pointer (some ⟨low, 0, none⟩))] t frozen
      | o => o }
abbrev wArgs : Array Value := #[.int .u8 0, .agg #[.int .i64 0, .slice none 0 0, .bool false, .slice none 0 0, .slice none 0 0]]
theorem laid_met (os : Os) : laidMet Tryd.prog Rows.fnTellConsumerMemberMetadataUptoRow.laid ((laidWorld os).forCall (fun _ _ => 0) ⟨#[], wArgs, []⟩).memory :=
  laidMet_of_run (ps := [.cell 1 0, .cell low 0]) 8 (by kernel_rfl) (by kernel_rfl) (by kernel_rfl)
theorem reads (os : Os) {H : Type} (enc : TypeId × Value → H) : ∃ places, DataW.whole enc Tryd.prog ((laidWorld os).forCall (fun _ _ => 0) ⟨#[], wArgs, []⟩).memory Tryd.f3.params.toList Rows.fnTellConsumerMemberMetadataSpec.vars false wArgs.toList 8 = some ([.lit (.int .u8 0), .agg [.lit (.int .i64 0), .nil, .lit (.bool false), .nil, .nil]], [], places) :=
  ⟨[], by kernel_rfl⟩

set_option maxRecDepth 100000 in
theorem lifted (os : Os) (started : os.Started) (H : Type) (enc : TypeId × Value → H) (F : Stop.Interp) :
    ReturnsInHanded {} Tryd.checked os 3 .any ((Rows.OpenSpec.upto Rows.fnTellConsumerMemberMetadataSpec).preRow enc Tryd.prog Tryd.f3 Rows.fnTellConsumerMemberMetadataUptoRow.domain false Rows.fnTellConsumerMemberMetadataUptoRow.laid) (((Rows.OpenSpec.upto Rows.fnTellConsumerMemberMetadataSpec).at F).post enc Tryd.prog Tryd.f3 false true false false) := by
  obtain ⟨places, hx⟩ := reads os enc
  refine returnsInHanded_of_row (C := Tryd.checked) (s := Rows.OpenSpec.upto Rows.fnTellConsumerMemberMetadataSpec) own started (by kernel_rfl) Tryd.func3
    (witness_row_at (enc := enc) (C := Tryd.checked) false (laidWorld os) wArgs rfl (by kernel_rfl) (by kernel_rfl) (by kernel_rfl)
      (OpenSpec.preRow_of_cond 8 hx (by kernel_rfl) (fun k hk => by cases hk; kernel_rfl) (by kernel_rfl) (laid_met os))) ?_
  intro W base args ds gs before hval hW _ hcond _ hL _ _
  exact contract H enc W base args ds gs before hval hW (of_decide_eq_true (hcond _ rfl)) hL

theorem said : Rows.FnTellConsumerMemberMetadataUptoSaid :=
  OpenClaim.holds_of_cond 3 Tryd.f3 rfl rfl rfl rfl rfl rfl rfl ⟨rfl, rfl, rfl, rfl, rfl⟩ rfl rfl rfl rfl rfl (by kernel_rfl) Tryd.func3 (by kernel_rfl)
    (of_decide_eq_true (by kernel_rfl)) (by unfold Func.isWrapper; first | (rw [if_pos (by decide +kernel)]; kernel_rfl) | (rw [if_neg (by decide +kernel)]; exact ⟨rfl, rfl⟩))
    (fun os started H enc _ F => by rw [OpenClaim.pre_eq_preRow]; exact lifted os started H enc F)

theorem plain (f : FuncId) (fn : Func) (hf : Tryd.pinned.checked.prog.funcNamed "pub-mailsack/laws.FnTellConsumerMemberMetadata" = some f) (hfn : Tryd.pinned.checked.prog.funcs[f]? = some fn) :
    false = Tryd.pinned.checked.prog.looks [] ∧ ∀ (j : Nat) t, fn.params[j]? = some t → Tryd.pinned.checked.prog.wantsStandIn t = false := by
  obtain rfl : f = 3 := Option.some.inj ((show Tryd.prog.funcNamed "pub-mailsack/laws.FnTellConsumerMemberMetadata" = some 3 by kernel_rfl).symm.trans hf) |>.symm
  obtain rfl : fn = Tryd.f3 := (Option.some.inj (Tryd.func3.symm.trans hfn)).symm
  refine ⟨by kernel_rfl, fun j t ht => ?_⟩
  rw [Tryd.params3] at ht
  rcases j with _ | _ | j
  · obtain rfl : 5 = t := by simpa using ht
    exact (show Tryd.prog.wantsStandIn 5 = false by kernel_rfl)
  · obtain rfl : 26 = t := by simpa using ht
    exact (show Tryd.prog.wantsStandIn 26 = false by kernel_rfl)
  · simp at ht

/-- The card. -/
theorem card : Rows.FnTellConsumerMemberMetadataUptoCardSaid :=
  Claim7.holds_tied_plain_at .later [] _ _ _ _ said (fun _ h => by cases h) (by kernel_rfl) (fun _ h => by cases h) fnTellConsumerMemberMetadataUpto_row_tie rfl ⟨rfl, rfl⟩ (by kernel_rfl) rfl plain (by kernel_rfl)
end Go.Proofs.YtmficcifapfkdabDoor
