/- The library for this proof, part 3: trees of function bodies, and what the package's functions do. -/
import Derived.Test.YtmficcifapfkdaaDoorKf2
import Derived.OpenShut
import Derived.ChangeSlices
import Derived.LaidSub
import Derived.Shelf.Bin.BEUint16
import Derived.Shelf.Bin.BEUint32
import Derived.Shelf.Bin.BEUint64
import Derived.MapKept
import Derived.Shelf.GgSortFunc.Whole
import Derived.Shelf.GgSortFunc.Tiny
import Derived.Sort.LotA
import Derived.Carry

namespace Go.Kf

open Go

def tPart (c : Nums) (s : SN) : Tr :=
  .op (.box c.sTree (.tmp 3)) none [] <|
  .op (.call { callee := (.builtin .len), args := ⟨[(.tmp 0)]⟩, argTypes := ⟨[s.fields]⟩ }) none [] <|
  .loop 0 [(.const (.slice none 0 0)), (.const (.int .i64 0))] <|
  .op (.binOp .lss c.tInt (.tmp 7) (.tmp 5) c.tInt) none [] <|
  .cond (.tmp 8) (
    .op (.indexAddr s.fields (.tmp 0) (.tmp 7)) none [] <|
    .op (.load s.field (.tmp 9)) none [] <|
    .op (.alloc s.field) none [] <|
    .op (.store s.field (.tmp 11) (.tmp 10)) none [] <|
    .op (.fieldAddr s.field (.tmp 11) 4) none [] <|
    .op (.load c.tInt (.tmp 13)) none [] <|
    .op (.binOp .lss c.tInt (.tmp 14) (.const (.int .i64 0)) c.tInt) none [] <|
    .cond (.tmp 15) (
      .op (.load s.field (.tmp 11)) none [] <|
      .op (callOp s.has [(.tmp 16), (.tmp 1)]) none [] <|
      .join 1 (
        .cond (.tmp 17) (
          .draw <|
          .lok (.load s.field (.tmp 11)) none <|
          .lok (.load c.sTree (.tmp 4)) none <|
          .op (callOp s.at_ [(.tmp 19), (.tmp 7)]) none [((.load s.field (.tmp 11)), 18)] <|
          .op (callOp s.fld [(.tmp 18), (.tmp 1), (.tmp 2), (.tmp 20)]) none [] <|
          .op (.call { callee := (.builtin .append), args := ⟨[(.tmp 6), (.tmp 21)]⟩, argTypes := ⟨[c.tBytes, c.tBytes]⟩ }) none [] <|
          .to 1 [(.tmp 22)]
        ) (
          .to 1 [(.tmp 6)]
        )
      ) 1 <|
      .op (.binOp .add c.tInt (.tmp 7) (.const (.int .i64 1)) c.tInt) none [] <|
      .to 0 [(.tmp 18), (.tmp 19)]
    ) (
      .op (.binOp .add c.tInt (.tmp 7) (.const (.int .i64 1)) c.tInt) none [] <|
      .to 0 [(.tmp 6), (.tmp 16)]
    )
  ) (
    .op (.unOp .not c.tBool (.tmp 2)) none [] <|
    .cond (.tmp 9) (
      .ret [((.tmp 6), none)]
    ) (
      .op (callOp s.known [(.tmp 0)]) none [] <|
      .op (.convert c.tU32 c.tInt (.tmp 10)) none [] <|
      .loop 1 [(.const (.slice none 0 0)), (.const (.int .i64 0)), (.const (.int .i64 0))] <|
      .op (.binOp .lss c.tInt (.tmp 14) (.tmp 11) c.tInt) none [] <|
      .cond (.tmp 15) (
        .op (.call { callee := (.builtin .len), args := ⟨[(.tmp 0)]⟩, argTypes := ⟨[s.fields]⟩ }) none [] <|
        .loop 2 [(.tmp 12), (.tmp 13), (.const (.int .i64 0))] <|
        .op (.binOp .lss c.tInt (.tmp 19) (.tmp 16) c.tInt) none [] <|
        .cond (.tmp 20) (
          .op (.indexAddr s.fields (.tmp 0) (.tmp 19)) none [] <|
          .op (.load s.field (.tmp 21)) none [] <|
          .op (.alloc s.field) none [] <|
          .op (.store s.field (.tmp 23) (.tmp 22)) none [] <|
          .draw <|
          .pur (.fieldAddr s.field (.tmp 23) 4) none <|
          .lok (.load c.tInt (.tmp 25)) none <|
          .pur (.binOp .eql c.tInt (.tmp 26) (.tmp 14) c.tInt) none <|
          .cond (.tmp 27) (
            .lok (.load s.field (.tmp 23)) none <|
            .lok (.load c.sTree (.tmp 4)) none <|
            .op (callOp s.at_ [(.tmp 29), (.tmp 19)]) none [((.load s.field (.tmp 23)), 28), ((.load c.tInt (.tmp 25)), 26)] <|
            .op (callOp s.usual [(.tmp 28), (.tmp 30)]) none [((.load c.tInt (.tmp 25)), 26)] <|
            .pur (.unOp .not c.tBool (.tmp 31)) none <|
            .join 3 (
              .cond (.tmp 32) (
                .draw <|
                .lok (.load s.field (.tmp 23)) none <|
                .lok (.load c.sTree (.tmp 4)) none <|
                .op (callOp s.at_ [(.tmp 34), (.tmp 19)]) none [((.load s.field (.tmp 23)), 33)] <|
                .op (callOp s.fld [(.tmp 33), (.tmp 1), (.tmp 2), (.tmp 35)]) none [] <|
                .op (.convert c.tInt c.tU64 (.tmp 14)) none [] <|
                .op (callOp s.uv [(.tmp 37)]) none [] <|
                .op (.call { callee := (.builtin .append), args := ⟨[(.tmp 17), (.tmp 38)]⟩, argTypes := ⟨[c.tBytes, c.tBytes]⟩ }) none [] <|
                .op (.call { callee := (.builtin .len), args := ⟨[(.tmp 36)]⟩, argTypes := ⟨[c.tBytes]⟩ }) none [] <|
                .op (.convert c.tInt c.tU64 (.tmp 40)) none [] <|
                .op (callOp s.uv [(.tmp 41)]) none [] <|
                .op (.call { callee := (.builtin .append), args := ⟨[(.tmp 39), (.tmp 42)]⟩, argTypes := ⟨[c.tBytes, c.tBytes]⟩ }) none [] <|
                .op (.call { callee := (.builtin .append), args := ⟨[(.tmp 43), (.tmp 36)]⟩, argTypes := ⟨[c.tBytes, c.tBytes]⟩ }) none [] <|
                .op (.binOp .add c.tInt (.tmp 18) (.const (.int .i64 1)) c.tInt) none [] <|
                .to 3 [(.tmp 44), (.tmp 45)]
              ) (
                .to 3 [(.tmp 17), (.tmp 18)]
              )
            ) 2 <|
            .op (.binOp .add c.tInt (.tmp 19) (.const (.int .i64 1)) c.tInt) none [] <|
            .to 2 [(.tmp 33), (.tmp 34), (.tmp 35)]
          ) (
            .op (.binOp .add c.tInt (.tmp 19) (.const (.int .i64 1)) c.tInt) none [] <|
            .to 2 [(.tmp 17), (.tmp 18), (.tmp 28)]
          )
        ) (
          .op (.binOp .add c.tInt (.tmp 14) (.const (.int .i64 1)) c.tInt) none [] <|
          .to 1 [(.tmp 17), (.tmp 18), (.tmp 21)]
        )
      ) (
        .op (.fieldAddr c.sTree (.tmp 4) 4) none [] <|
        .op (.load c.sTagL (.tmp 16)) none [] <|
        .op (callOp s.unknown [(.tmp 0), (.tmp 17)]) none [] <|
        .op (.call { callee := (.builtin .len), args := ⟨[(.tmp 18)]⟩, argTypes := ⟨[c.sTagL]⟩ }) none [] <|
        .loop 2 [(.tmp 12), (.tmp 13), (.const (.int .i64 0))] <|
        .op (.binOp .lss c.tInt (.tmp 22) (.tmp 19) c.tInt) none [] <|
        .cond (.tmp 23) (
          .op (.indexAddr c.sTagL (.tmp 18) (.tmp 22)) none [] <|
          .op (.load c.sTag (.tmp 24)) none [] <|
          .op (.alloc c.sTag) none [] <|
          .op (.store c.sTag (.tmp 26) (.tmp 25)) none [] <|
          .op (.fieldAddr c.sTag (.tmp 26) 1) none [] <|
          .op (.load c.tBytes (.tmp 28)) none [] <|
          .op (callOp s.whole [(.tmp 29)]) none [] <|
          .op (.fieldAddr c.sTag (.tmp 26) 0) none [] <|
          .op (.load c.tU32 (.tmp 31)) none [] <|
          .op (.convert c.tU32 c.tU64 (.tmp 32)) none [] <|
          .op (callOp s.uv [(.tmp 33)]) none [] <|
          .op (.call { callee := (.builtin .append), args := ⟨[(.tmp 20), (.tmp 34)]⟩, argTypes := ⟨[c.tBytes, c.tBytes]⟩ }) none [] <|
          .op (.call { callee := (.builtin .len), args := ⟨[(.tmp 30)]⟩, argTypes := ⟨[c.tBytes]⟩ }) none [] <|
          .op (.convert c.tInt c.tU64 (.tmp 36)) none [] <|
          .op (callOp s.uv [(.tmp 37)]) none [] <|
          .op (.call { callee := (.builtin .append), args := ⟨[(.tmp 35), (.tmp 38)]⟩, argTypes := ⟨[c.tBytes, c.tBytes]⟩ }) none [] <|
          .op (.call { callee := (.builtin .append), args := ⟨[(.tmp 39), (.tmp 30)]⟩, argTypes := ⟨[c.tBytes, c.tBytes]⟩ }) none [] <|
          .op (.binOp .add c.tInt (.tmp 21) (.const (.int .i64 1)) c.tInt) none [] <|
          .op (.binOp .add c.tInt (.tmp 22) (.const (.int .i64 1)) c.tInt) none [] <|
          .to 2 [(.tmp 40), (.tmp 41), (.tmp 42)]
        ) (
          .op (.convert c.tInt c.tU64 (.tmp 21)) none [] <|
          .op (callOp s.uv [(.tmp 24)]) none [] <|
          .op (.call { callee := (.builtin .append), args := ⟨[(.tmp 6), (.tmp 25)]⟩, argTypes := ⟨[c.tBytes, c.tBytes]⟩ }) none [] <|
          .op (.call { callee := (.builtin .append), args := ⟨[(.tmp 26), (.tmp 20)]⟩, argTypes := ⟨[c.tBytes, c.tBytes]⟩ }) none [] <|
          .ret [((.tmp 27), none)]
        )
      )
    )
  )

def tKnown (c : Nums) (s : SN) : Tr :=
  .op (.call { callee := (.builtin .len), args := ⟨[(.tmp 0)]⟩, argTypes := ⟨[s.fields]⟩ }) none [] <|
  .loop 0 [(.const (.int .u32 0)), (.const (.int .i64 0))] <|
  .op (.binOp .lss c.tInt (.tmp 3) (.tmp 1) c.tInt) none [] <|
  .cond (.tmp 4) (
    .op (.indexAddr s.fields (.tmp 0) (.tmp 3)) none [] <|
    .op (.load s.field (.tmp 5)) none [] <|
    .op (.alloc s.field) none [] <|
    .op (.store s.field (.tmp 7) (.tmp 6)) none [] <|
    .op (.fieldAddr s.field (.tmp 7) 4) none [] <|
    .op (.load c.tInt (.tmp 9)) none [] <|
    .op (.binOp .geq c.tInt (.tmp 10) (.const (.int .i64 0)) c.tInt) none [] <|
    .join 1 (
      .cond (.tmp 11) (
        .op (.fieldAddr s.field (.tmp 7) 4) none [] <|
        .op (.load c.tInt (.tmp 12)) none [] <|
        .op (.convert c.tInt c.tU32 (.tmp 13)) none [] <|
        .op (.binOp .add c.tU32 (.tmp 14) (.const (.int .u32 1)) c.tU32) none [] <|
        .op (.call { callee := (.builtin .max), args := ⟨[(.tmp 2), (.tmp 15)]⟩, argTypes := ⟨[c.tU32, c.tU32]⟩ }) none [] <|
        .to 1 [(.tmp 16)]
      ) (
        .to 1 [(.tmp 2)]
      )
    ) 1 <|
    .op (.binOp .add c.tInt (.tmp 3) (.const (.int .i64 1)) c.tInt) none [] <|
    .to 0 [(.tmp 12), (.tmp 13)]
  ) (
    .ret [((.tmp 2), none)]
  )

mutual
/-- No field has a tag, nor has one within. -/
def PF.plain : PF → Bool
  | .mk k _ _ _ g _ e sub => decide (g < 0) && decide (sub.length < 65536) && (!decide (k = 11) || !decide (e = 11)) && PF.plains sub
def PF.plains : List PF → Bool
  | [] => true
  | f :: r => f.plain && PF.plains r
end

theorem PF.plains_mem : ∀ {l : List PF}, PF.plains l = true → ∀ f ∈ l, f.plain = true
  | [], _, f, h => by cases h
  | x :: l, hl, f, h => by
    simp only [PF.plains, Bool.and_eq_true] at hl
    rcases List.mem_cons.1 h with rfl | h
    · exact hl.1
    · exact PF.plains_mem hl.2 f h

theorem PF.plain_tag {f : PF} (h : f.plain = true) : f.tag < 0 := by
  cases f
  simp only [PF.plain, Bool.and_eq_true, decide_eq_true_eq] at h
  exact h.1.1.1

theorem PF.plain_sub {f : PF} (h : f.plain = true) : PF.plains f.sub = true := by
  cases f
  simp only [PF.plain, Bool.and_eq_true] at h
  exact h.2

theorem PF.plain_len {f : PF} (h : f.plain = true) : f.sub.length < 65536 := by
  cases f
  simp only [PF.plain, Bool.and_eq_true, decide_eq_true_eq] at h
  exact h.1.1.2

theorem pKnown_plain : ∀ {fs : List PF} (n : Nat), (∀ f ∈ fs, f.tag < 0) → pKnown fs n = n
  | [], _, _ => rfl
  | f :: r, n, h => by
    have := h f (by simp)
    rw [pKnown, if_neg (by omega)]
    exact pKnown_plain n fun g hg => h g (by simp [hg])

theorem pTagged_plain : ∀ {fs : List PF} (v : Int) (fl : Bool) (t : PT) (i : Nat), (∀ f ∈ fs, f.tag < 0) → pTagged fs v fl t i = []
  | [], _, _, _, _, _ => by rw [pTagged]
  | f :: r, v, fl, t, i, h => by
    have := h f (by simp)
    rw [pTagged, if_neg (by omega), List.nil_append]
    exact pTagged_plain v fl t (i + 1) fun g hg => h g (by simp [hg])

/-- What is written of a part without tags. -/
theorem pPart_plain {fs : List PF} (h : ∀ f ∈ fs, f.tag < 0) (v : Int) (fl : Bool) (t : PT) : pPart fs v fl t = pPlain fs v fl t 0 ++ if fl then pUv (pUnknown fs t.u).length ++ pTags (pUnknown fs t.u) else [] := by
  unfold pPart
  rw [pTagged_plain v fl t 0 h, pEnd]
  cases fl
  · rfl
  · have : ((List.range (pKnown fs 0)).flatMap fun (k : Nat) => ([] : List (Int × List UInt8)).filter fun p => p.1 == (k : Int)) = [] := by simp
    simp only [this, if_true]
    simp

def pOne (f : PF) (v : Int) (fl : Bool) (t : PT) : List UInt8 := if decide (f.tag < 0) && pHas f v then pField f v fl t else []

theorem pPlain_cons (f : PF) (r : List PF) (v : Int) (fl : Bool) (t : PT) (i : Nat) : pPlain (f :: r) v fl t i = pOne f v fl (pAt t i) ++ pPlain r v fl t (i + 1) := by rw [pPlain]; rfl

theorem pPlain_take : ∀ {fs : List PF} {j : Nat} (v : Int) (fl : Bool) (t : PT) (i : Nat) (hj : j < fs.length), pPlain (fs.take (j + 1)) v fl t i = pPlain (fs.take j) v fl t i ++ pOne fs[j] v fl (pAt t (i + j))
  | f :: r, 0, v, fl, t, i, _ => by
    simp only [List.take_succ_cons, List.take_zero, pPlain_cons, List.getElem_cons_zero, Nat.add_zero]
    rw [pPlain, pPlain]; simp
  | f :: r, j + 1, v, fl, t, i, hj => by
    rw [List.take_succ_cons, pPlain_cons, pPlain_take v fl t (i + 1) (by simpa using hj), List.take_succ_cons, pPlain_cons, List.append_assoc, List.getElem_cons_succ, show i + 1 + j = i + (j + 1) by omega]

theorem pPlain_append : ∀ (a b : List PF) (v : Int) (fl : Bool) (t : PT) (i : Nat), pPlain (a ++ b) v fl t i = pPlain a v fl t i ++ pPlain b v fl t (i + a.length)
  | [], b, v, fl, t, i => by simp [pPlain]
  | f :: r, b, v, fl, t, i => by rw [List.cons_append, pPlain_cons, pPlain_cons, pPlain_append r b, List.append_assoc, List.length_cons, show i + 1 + r.length = i + (r.length + 1) by omega]

theorem pPlain_le (fs : List PF) (j : Nat) (v : Int) (fl : Bool) (t : PT) : (pPlain (fs.take j) v fl t 0).length ≤ (pPlain fs v fl t 0).length := by
  conv => rhs; rw [← List.take_append_drop j fs, pPlain_append, List.length_append]
  omega

theorem pTags_take {m : TM} {j : Nat} (hj : j < m.length) : pTags (m.take (j + 1)) = pTags (m.take j) ++ pTag1 m[j].1 (pWhole m[j].2) := by
  unfold pTags
  rw [List.take_succ_eq_append_getElem hj, List.map_append, List.flatten_append]
  simp

theorem pTags_le (m : TM) (j : Nat) : (pTags (m.take j)).length ≤ (pTags m).length := by
  have h : pTags m = pTags (m.take j) ++ pTags (m.drop j) := by
    unfold pTags
    rw [← List.flatten_append, ← List.map_append, List.take_append_drop]
  rw [h, List.length_append]
  omega

section

variable {P : Program} {c : Nums} {s : SN} {R : Value → World → Prop} {Γ : List (List Value → World → Prop)} {n : Nat} {ρ : Nat → Value} {w : World} {k : Tr}

/-- A field of a list, in a variable of its own. -/
theorem s_eachF {x i : Operand} {fv : Value} {fs : List PF} {j : Nat} (S : SpFacts P c s) (hfv : FieldsV w fs fv) (hx : ev ρ x = fv) (hi : ev ρ i = .int .i64 j) (hj : j < fs.length)
    (hk : ∀ (w' : World) (a : Value) (b : Nat) (cs : List Value), Has w' b cs → FieldC w' fs[j] cs → Keeps [] w w' → w.heap.size ≤ b → k.sem P R Γ (n + 4) (ext (ext (ext (ext ρ n [a]) (n + 1) [.agg ⟨cs⟩]) (n + 2) [ptr b]) (n + 3) [undef]) w') :
    (Tr.op (.indexAddr s.fields x i) none [] <| Tr.op (.load s.field (.tmp n)) none [] <| Tr.op (.alloc s.field) none [] <| Tr.op (.store s.field (.tmp (n + 2)) (.tmp (n + 1))) none [] k).sem P R Γ n ρ w := by
  obtain ⟨fcs, hr, hfc⟩ := hfv
  obtain ⟨b, o, cap, e, hbl, hel, hcell⟩ := hr.elem hj (by omega)
  refine s_val (v_indexAddr (b := b) (o := o) (l := fs.length) (c := cap) (j := j) (kk := .i64) S.sl S.szF (hx.trans e) hi (by omega) (by omega)) ?_
  rw [Int.toNat_natCast]
  refine s_lok (l_cellN (b := b) (o := o + j * 8) S.agg ext_at hel hcell) ?_
  obtain ⟨z, hz, hzc⟩ := S.zField
  refine s_alloc hz fun w1 h1 k1 z1 => ?_
  have hf := FieldsC.get hfc hj
  have e1 : ev (ext (ext (ext ρ n [ptr b (o + j * 8)]) (n + 1) [.agg ⟨(fcs.drop (j * 8)).take 8⟩]) (n + 2) [ptr w.heap.size]) (.tmp (n + 1)) = .agg ⟨(fcs.drop (j * 8)).take 8⟩ := by show ext _ _ _ (n + 1) = _; rw [ext_lt (by omega)]; exact ext_at
  refine s_storeAll (b := w.heap.size) (cs := (fcs.drop (j * 8)).take 8) (by rw [hel]; exact S.agg) ext_at (congrArg Value.cells e1) h1 (by rw [hel]; simpa using hzc) hf.ones fun w2 h2 k2 => ?_
  have k02 : Keeps [] w w2 := ((k1.mono (by simp)).trans k2).less fun x hx => .inr (by simp only [List.mem_singleton] at hx; omega)
  exact hk w2 _ _ _ h2 (FieldC.keep k02 _ _ hf) k02 (Nat.le_refl _)

/-- A tag of a list, in a variable of its own. -/
theorem s_eachT {x i : Operand} {tv : Value} {m : TM} {tcs : List Value} {j : Nat} {w0 : World} (S : SpFacts P c s) (hr : Ro w tv 2 m.length tcs) (ht : TagsC w0 m tcs) (hx : ev ρ x = tv) (hi : ev ρ i = .int .i64 j) (hj : j < m.length)
    (hk : ∀ (w' : World) (a : Value) (b : Nat) (vv : Value), Has w' b [.int .u32 m[j].1, vv] → Ro w0 vv 1 m[j].2.length (bcells m[j].2) → Keeps [] w w' → w.heap.size ≤ b → k.sem P R Γ (n + 4) (ext (ext (ext (ext ρ n [a]) (n + 1) [.agg ⟨[.int .u32 m[j].1, vv]⟩]) (n + 2) [ptr b]) (n + 3) [undef]) w') :
    (Tr.op (.indexAddr c.sTagL x i) none [] <| Tr.op (.load c.sTag (.tmp n)) none [] <| Tr.op (.alloc c.sTag) none [] <| Tr.op (.store c.sTag (.tmp (n + 2)) (.tmp (n + 1))) none [] k).sem P R Γ n ρ w := by
  obtain ⟨b, o, cap, e, hbl, hel, hcell⟩ := hr.elem hj (by omega)
  refine s_val (v_indexAddr (b := b) (o := o) (l := m.length) (c := cap) (j := j) (kk := .i64) S.ty.slTag S.szG (hx.trans e) hi (by omega) (by omega)) ?_
  rw [Int.toNat_natCast]
  refine s_lok (l_cellN (b := b) (o := o + j * 2) S.ty.aggTag ext_at hel hcell) ?_
  obtain ⟨z, hz, hzc⟩ := S.zTag
  refine s_alloc hz fun w1 h1 k1 z1 => ?_
  obtain ⟨vv, hc2, hvv⟩ := ht.get hj
  have h1v := hvv.one
  rw [hc2]
  have e1 : ev (ext (ext (ext ρ n [ptr b (o + j * 2)]) (n + 1) [.agg ⟨[.int .u32 m[j].1, vv]⟩]) (n + 2) [ptr w.heap.size]) (.tmp (n + 1)) = .agg ⟨[.int .u32 m[j].1, vv]⟩ := by show ext _ _ _ (n + 1) = _; rw [ext_lt (by omega)]; exact ext_at
  refine s_storeAll (b := w.heap.size) (cs := [.int .u32 m[j].1, vv]) S.ty.aggTag ext_at (congrArg Value.cells e1) h1 (by simpa using hzc) (fun q hq => by
    simp only [List.mem_cons, List.not_mem_nil, or_false] at hq
    rcases hq with rfl | rfl
    · rfl
    · exact h1v) fun w2 h2 k2 => ?_
  have k02 : Keeps [] w w2 := ((k1.mono (by simp)).trans k2).less fun x hx => .inr (by simp only [List.mem_singleton] at hx; omega)
  exact hk w2 _ _ _ h2 hvv k02 (Nat.le_refl _)

theorem known_plain (S : SpFacts P c s) (hT : treeIn P s.known noOrc [.tmp 0] 1 = tKnown c s) {fs : List PF} {fv : Value} (hp : ∀ f ∈ fs, f.tag < 0) (hfv : FieldsV w fs fv) (hlen : fs.length < 2 ^ 31) : Yields P s.known [fv] w (.int .u32 0) := by
  refine gives_in (ρ := en [fv]) S.rd.mix hT (Nat.le_refl _) rfl (by simp [opBelow]) ?_
  have hfv0 := hfv
  obtain ⟨fcs, hr, hfc⟩ := hfv
  obtain ⟨a, cp, e⟩ := hr.form
  refine s_val (v_len (a := a) (l := fs.length) (c := cp) S.sl e) ?_
  refine s_countV (n := 2) (q := 1) (kk := .i64) (m := fs.length) (ri := [.const (.int .u32 0)]) (Γ := []) (fun j vr w' => vr = [.int .u32 0] ∧ Keeps [] w w') (by omega) rfl ⟨rfl, .refl⟩ ?_ ?_
  · rintro j hj w1 vr ⟨rfl, k1⟩ hvr J hJ
    have hj' : j < fs.length := by omega
    refine s_eachF (fv := fv) (fs := fs) (j := j) S (hfv0.keep k1) rfl rfl hj' fun w2 a b cs hh hf k2 hb => ?_
    obtain ⟨sv, rfl, _⟩ := hf.cells
    have hneg := hp _ (List.getElem_mem hj')
    refine s_fl S.f4 S.oneInt rfl rfl hh rfl ?_
    refine s_val (v_cmp (kk := .i64) (a := (fs[j]'hj').tag) (b := 0) (r := decide ((fs[j]'hj').tag ≥ 0)) rfl rfl rfl) ?_
    refine ⟨rfl, fun vs w' => vs = [.int .u32 0] ∧ w' = w2, ?_, ?_⟩
    · refine s_cond (b := decide ((fs[j]'hj').tag ≥ 0)) rfl (fun hb => ?_) fun hb => ⟨_, rfl, rfl, rfl⟩
      simp at hb
      omega
    · rintro vs w' _ ⟨rfl, rfl⟩
      refine s_val (v_arith (kk := .i64) (a := j) (b := 1) (r := ((j + 1 : Nat) : Int)) rfl rfl ?_) ?_
      · simp only [arithOf, Option.some.injEq]; rw [IntKind.wrap_i64]; omega
      exact ⟨J, rfl, hJ [_] _ rfl ⟨rfl, k1.trans k2⟩⟩
  · rintro w1 vr J ⟨rfl, k1⟩ hvr
    exact s_ret1 ⟨rfl, k1⟩

/-- The unknown tags. -/
def UnknownOf (P : Program) (s : SN) (fs : List PF) : Prop := ∀ (w0 w : World) (fv uv : Value) (u : TM) (ucs : List Value), FieldsV w fs fv → Ro w uv 2 u.length ucs → TagsC w0 u ucs → (∀ p ∈ u, p.1 < 4294967296) →
  Gives P s.unknown [fv, uv] w fun r w' => ∃ cs, Own w' r 2 (pUnknown fs u).length cs ∧ TagsC w0 (pUnknown fs u) cs ∧ (∀ b ∈ blkOf r, w.heap.size ≤ b) ∧ Keeps [] w w'

theorem pPut_mem {q : Nat × List UInt8} : ∀ {m : TM} {p : Nat × List UInt8}, p ∈ pPut q m → p = q ∨ p ∈ m
  | [], p, h => by simpa [pPut] using h
  | x :: m, p, h => by
    unfold pPut at h
    split at h
    · rcases List.mem_cons.1 h with rfl | h
      · exact .inr (by simp)
      · exact (pPut_mem h).imp id fun h => by simp [h]
    · split at h
      · exact .inr h
      · rcases List.mem_cons.1 h with rfl | h
        · exact .inl rfl
        · exact .inr h

theorem pUnknownN_mem (least : Nat) : ∀ {u out : TM} {p : Nat × List UInt8}, p ∈ pUnknownN least u out → p ∈ u ∨ p ∈ out
  | [], out, p, h => .inr h
  | q :: u, out, p, h => by
    rcases pUnknownN_mem least (u := u) h with h | h
    · exact .inl (by simp [h])
    · split at h
      · exact .inr h
      · rcases pPut_mem h with rfl | h
        · exact .inl (by simp)
        · exact .inr h

theorem pUnknown_mem {fs : List PF} {u : TM} {p : Nat × List UInt8} (h : p ∈ pUnknown fs u) : p ∈ u := by
  rcases pUnknownN_mem _ h with h | h
  · exact List.mem_of_mem_take h
  · cases h

theorem pPut_length (q : Nat × List UInt8) : ∀ m : TM, (pPut q m).length ≤ m.length + 1
  | [] => by simp [pPut]
  | x :: m => by
    unfold pPut
    split
    · have := pPut_length q m; simp; omega
    · split <;> simp

theorem pUnknownN_length (least : Nat) : ∀ (u out : TM), (pUnknownN least u out).length ≤ out.length + u.length
  | [], out => by simp [pUnknownN]
  | q :: u, out => by
    rw [pUnknownN]
    refine Nat.le_trans (pUnknownN_length least u _) ?_
    rw [List.length_cons]
    split
    · omega
    · have := pPut_length q out
      omega

theorem pUnknown_length (fs : List PF) (u : TM) : (pUnknown fs u).length ≤ 32767 := by
  have h := pUnknownN_length (pKnown fs 0) (u.take 32767) []
  unfold pUnknown
  rw [List.length_take] at h
  simp at h
  omega

end

end Go.Kf

namespace Go.Kf

open Go

section

variable {P : Program} {c : Nums} {s : SN} {R : Value → World → Prop} {Γ : List (List Value → World → Prop)} {n : Nat} {ρ : Nat → Value} {w : World} {k : Tr}

theorem pTag1_length (k : Nat) (b : List UInt8) : (pTag1 k b).length = (pUv k).length + (pUv b.length).length + b.length := by
  unfold pTag1
  simp only [List.length_append]

theorem part_step (S : SpFacts P c s) (Q : Smalls P s) (hK : treeIn P s.known noOrc [.tmp 0] 1 = tKnown c s) (hT : treeIn P s.part noOrc [.tmp 0, .tmp 1, .tmp 2, .tmp 3] 4 = tPart c s) {fs : List PF} (hp : ∀ f ∈ fs, f.tag < 0) (hlen : fs.length < 2 ^ 31) (hF : ∀ f ∈ fs, FieldOf P s f) (hU : UnknownOf P s fs) : PartOf P s fs := by
  intro w fv v fl t ts hfv ht hok hl
  rw [pPart_plain hp] at hl ⊢
  have htc := ht
  have hfv0 := hfv
  obtain ⟨fcs, hr, hfc⟩ := hfv
  obtain ⟨sv, lv, uv, lcs, ucs, rfl, h1, h2, h3, h4, h5⟩ := ht.cells
  rw [List.length_append] at hl
  refine gives_in (ρ := en [_, _, _, _]) S.rd.mix hT (Nat.le_refl _) rfl (by simp [opBelow]) ?_
  refine s_box rfl fun w1 hx1 k1 z1 => ?_
  obtain ⟨a, cp, e⟩ := hr.form
  refine s_val (v_len (a := a) (l := fs.length) (c := cp) S.sl e) ?_
  refine s_countV (n := 6) (q := 5) (kk := .i64) (m := fs.length) (ri := [.const (.slice none 0 0)]) (Γ := []) (fun j vr w' => ∃ acc, vr = [acc] ∧ MadeO w1 w' acc (pPlain (fs.take j) v fl t 0)) (by omega) rfl ⟨_, rfl, by rw [List.take_zero, pPlain]; exact MadeO.nil w1⟩ ?_ ?_
  · rintro j hj w2 vr ⟨acc, rfl, hA⟩ hvr J hJ
    have hj' : j < fs.length := by omega
    have k02 := k1.trans hA.2.2
    refine s_eachF (fv := fv) (fs := fs) (j := j) S (hfv0.keep k02) rfl rfl hj' fun w3 a3 b cs hh hf k3 hb => ?_
    have hf0 := hf
    obtain ⟨sv3, rfl, _⟩ := hf.cells
    have hneg := hp _ (List.getElem_mem hj')
    have k13 := hA.2.2.trans k3
    have hle := pPlain_le fs (j + 1) v fl t
    rw [pPlain_take v fl t 0 hj', Nat.zero_add, List.length_append] at hle
    refine s_fl S.f4 S.oneInt rfl rfl hh rfl ?_
    refine s_val (v_cmp (kk := .i64) (a := (fs[j]'hj').tag) (b := 0) (r := decide ((fs[j]'hj').tag < 0)) rfl rfl rfl) ?_
    refine s_cond (b := decide ((fs[j]'hj').tag < 0)) rfl (fun hb1 => ?_) fun hb1 => (by simp at hb1; omega)
    refine s_lok (l_loadN (b := b) (o := 0) S.agg rfl hh (show 0 + 8 ≤ 8 by omega)) ?_
    refine s_callx (Q.has w3 fs[j] _ v hf0) rfl fun u w4 ⟨hu, k4⟩ => ?_
    subst hu
    have hf4 := FieldC.keep k4 _ _ hf0
    have hh4 := hh.keep k4 (by simp)
    have hA4 := (hA.more k3).more k4
    have k14 := k13.trans k4
    refine ⟨rfl, fun vs w' => ∃ acc', vs = [acc'] ∧ MadeO w1 w' acc' (pPlain (fs.take (j + 1)) v fl t 0), ?_, ?_⟩
    · refine s_cond (b := pHas fs[j] v) rfl (fun hb2 => ?_) fun hb2 => ⟨_, rfl, acc, rfl, ?_⟩
      · show Tr.sem _ _ _ _ _ _ { w4 with drawn := w4.drawn + 1 }
        have hd : Keeps [] w4 { w4 with drawn := w4.drawn + 1 } := keeps_drawn w4 _ _
        have hA5 := hA4.drawn (w4.drawn + 1)
        generalize ({ w4 with drawn := w4.drawn + 1 } : World) = w5 at hd hA5 ⊢
        have hh5 := hh4.keep hd (by simp)
        have hx5 := (hx1.keep k14 (by simp)).keep hd (by simp)
        have k15 := k14.trans hd
        refine l_lok (l_loadN (b := b) (o := 0) S.agg rfl hh5 (show 0 + 8 ≤ 8 by omega)) ?_
        refine l_lok (l_loadN (b := w.heap.size) (o := 0) S.ty.agg rfl hx5 (show 0 + 5 ≤ 5 by omega)) ?_
        refine s_call (xs := [.tmp 19, .tmp 7]) (Q.at_ w5 t _ j (TreeC.keep (k1.trans k15) _ _ htc)) fun u w6 ⟨k6, tcs, hu, htj⟩ => ⟨?_, ?_⟩
        · intro p hp
          simp only [List.mem_singleton] at hp
          subst hp
          exact l_loadN (b := b) (o := 0) S.agg rfl (hh5.keep k6 (by simp)) (show 0 + 8 ≤ 8 by omega)
        subst hu
        have hone : pOne fs[j] v fl (pAt t j) = pField fs[j] v fl (pAt t j) := by
          unfold pOne
          rw [if_pos (by rw [Bool.and_eq_true]; exact ⟨hb1, hb2⟩)]
        rw [hone] at hle
        refine s_callO (hF fs[j] (List.getElem_mem hj') w6 v fl (pAt t j) _ tcs (FieldC.keep (hd.trans k6) _ _ hf4) htj (hok.at j) (by omega)) rfl fun v3 w7 hM7 => ⟨fun p hp => (by cases hp), ?_⟩
        refine s_appendO (v := acc) (u := v3) (l2 := pField fs[j] v fl (pAt t j)) S rfl rfl ((hA5.more k6).more hM7.2.2) (hM7.1.reads.src S.rd.bytes (bcells_one _)) (by rw [List.length_append]; unfold maxW at hl; omega) fun v4 w8 hM8 _ => ⟨fun p hp => (by cases hp), ?_⟩
        refine ⟨_, rfl, v4, rfl, ?_⟩
        rw [pPlain_take v fl t 0 hj', Nat.zero_add, hone]
        exact hM8
      · have hone : pOne fs[j] v fl (pAt t j) = [] := by
          unfold pOne
          rw [if_neg (by rw [hb2, Bool.and_false]; simp)]
        rw [pPlain_take v fl t 0 hj', Nat.zero_add, hone, List.append_nil]
        exact hA4
    · rintro vs w' _ ⟨acc', rfl, hA'⟩
      refine s_val (v_arith (kk := .i64) (a := j) (b := 1) (r := ((j + 1 : Nat) : Int)) rfl rfl ?_) ?_
      · simp only [arithOf, Option.some.injEq]; rw [IntKind.wrap_i64]; omega
      exact ⟨J, rfl, hJ [_] _ rfl ⟨acc', rfl, hA'⟩⟩
  · rintro w2 vr J ⟨acc, rfl, hA⟩ hvr
    rw [Int.toNat_natCast, List.take_length] at hA
    refine s_val (v_not (b := fl) rfl) ?_
    refine s_cond (b := !fl) rfl (fun hb => ?_) fun hb => ?_
    · have : fl = false := by simpa using hb
      subst this
      refine s_ret1 ?_
      rw [if_neg (by simp), List.append_nil]
      exact hA.under k1
    · have : fl = true := by simpa using hb
      subst this
      simp only [if_true] at hl ⊢
      have k02 := k1.trans hA.2.2
      refine s_callx (known_plain S hK hp (hfv0.keep k02) hlen) rfl fun u w3 ⟨hu, k3⟩ => ?_
      subst hu
      refine s_val (v_conv (k1 := .u32) (k2 := .i64) (a := 0) S.rd.u32 S.rd.int rfl) ?_
      have k13 := hA.2.2.trans k3
      refine s_countV (n := 12) (q := 11) (kk := .i64) (m := 0) (ri := [.const (.slice none 0 0), .const (.int .i64 0)]) (Γ := [J]) (fun j vr w' => vr = [.slice none 0 0, .int .i64 0] ∧ w' = w3) (by omega) rfl ⟨rfl, rfl⟩ (fun j hj => by simp at hj) ?_
      rintro w' vr J1 ⟨rfl, rfl⟩ hvr
      have hx3 := hx1.keep k13 (by simp)
      refine s_fl S.ty.f4 S.ty.oneTagL rfl rfl hx3 rfl ?_
      have k03 := k1.trans k13
      refine s_callx (hU w' w' fv uv t.u ucs (hfv0.keep k03) (h4.keep k03) (TagsC.keep k03 _ _ h5) hok.u) rfl fun tv w4 ⟨tcs, hown, htg', _, k4⟩ => ?_
      have htg := TagsC.keep k4 _ _ htg'
      generalize hun : pUnknown fs t.u = un at hl hown htg ⊢
      have hun7 : un.length ≤ 32767 := by rw [← hun]; exact pUnknown_length fs t.u
      have hkeys : ∀ p ∈ un, p.1 < 4294967296 := fun p hp => hok.u p (pUnknown_mem (hun ▸ hp))
      have hrt := Ro.of_reads hown.reads
      obtain ⟨a4, c4, e4⟩ := hrt.form
      refine s_val (v_len (a := a4) (l := un.length) (c := c4) S.ty.slTag e4) ?_
      have k14 := k13.trans k4
      rw [List.length_append] at hl
      refine s_countV (n := 20) (q := 19) (kk := .i64) (m := un.length) (ri := [.tmp 12, .tmp 13]) (Γ := [J, J1]) (fun j vr w' => ∃ acc', vr = [acc', .int .i64 j] ∧ MadeO w4 w' acc' (pTags (un.take j))) (by omega) rfl ⟨_, rfl, MadeO.nil w4⟩ ?_ ?_
      · rintro j hj w5 vr ⟨acc', rfl, hB⟩ hvr J2 hJ2
        have hj' : j < un.length := by omega
        have hle := pTags_le un (j + 1)
        rw [pTags_take hj', List.length_append, pTag1_length] at hle
        have hkey := hkeys _ (List.getElem_mem hj')
        refine s_eachT (tv := tv) (m := un) (j := j) S (hrt.keep hB.2.2) htg rfl rfl hj' fun w6 a6 b vv hh hvv k6 hb => ?_
        refine s_fl S.ty.g1 S.rd.oneBytes rfl rfl hh rfl ?_
        refine s_callx (Q.whole w6 vv un[j].2 (hvv.keep (hB.2.2.trans k6))) rfl fun u w7 ⟨hw, hu⟩ => ?_
        subst hw
        replace hu := hu w4 hvv
        refine s_fl S.ty.g0 S.ty.oneU32 rfl rfl hh rfl ?_
        refine s_val (v_conv (k1 := .u32) (k2 := .u64) (a := ((un[j]'hj').1 : Int)) S.rd.u32 S.u64 rfl) ?_
        rw [wraps_u64 _ (by omega) (by omega)]
        have hw7 : (pWhole (un[j]'hj').2).length ≤ 32767 := by unfold pWhole; rw [List.length_take]; omega
        refine s_callO (Q.uv w7 (un[j]'hj').1 (by omega)) rfl fun v8 w8 hM8 => ⟨fun p hp => (by cases hp), ?_⟩
        refine s_appendO (v := acc') (u := v8) (l2 := pUv (un[j]'hj').1) S rfl rfl ((hB.more k6).more hM8.2.2) (hM8.1.reads.src S.rd.bytes (bcells_one _)) (by rw [List.length_append]; unfold maxW at hl; omega) fun v9 w9 hM9 kk9 => ⟨fun p hp => (by cases hp), ?_⟩
        obtain ⟨au, cu, eu⟩ := hu.form
        refine s_val (v_len (a := au) (l := (pWhole (un[j]'hj').2).length) (c := cu) S.rd.bytes eu) ?_
        refine s_val (v_conv (k1 := .i64) (k2 := .u64) (a := ((pWhole (un[j]'hj').2).length : Int)) S.rd.int S.u64 rfl) ?_
        rw [wraps_u64 _ (by omega) (by omega)]
        refine s_callO (Q.uv w9 (pWhole (un[j]'hj').2).length (by omega)) rfl fun v10 w10 hM10 => ⟨fun p hp => (by cases hp), ?_⟩
        refine s_appendO (v := v9) (u := v10) (l2 := pUv (pWhole (un[j]'hj').2).length) S rfl rfl (hM9.more hM10.2.2) (hM10.1.reads.src S.rd.bytes (bcells_one _)) (by simp only [List.length_append]; unfold maxW at hl; omega) fun v11 w11 hM11 kk11 => ⟨fun p hp => (by cases hp), ?_⟩
        refine s_appendO (v := v11) (u := u) (l2 := pWhole (un[j]'hj').2) S rfl rfl hM11 ((hu.keep hM11.2.2).src S.rd.bytes (bcells_one _)) (by simp only [List.length_append]; unfold maxW at hl; omega) fun v12 w12 hM12 kk12 => ⟨fun p hp => (by cases hp), ?_⟩
        refine s_val (v_arith (kk := .i64) (a := j) (b := 1) (r := ((j + 1 : Nat) : Int)) rfl rfl ?_) ?_
        · simp only [arithOf, Option.some.injEq]; rw [IntKind.wrap_i64]; omega
        refine s_val (v_arith (kk := .i64) (a := j) (b := 1) (r := ((j + 1 : Nat) : Int)) rfl rfl ?_) ?_
        · simp only [arithOf, Option.some.injEq]; rw [IntKind.wrap_i64]; omega
        refine ⟨J2, rfl, hJ2 [_, _] _ rfl ⟨v12, rfl, ?_⟩⟩
        rw [pTags_take hj', pTag1, ← List.append_assoc, ← List.append_assoc]
        exact hM12
      · rintro w5 vr J2 ⟨acc', rfl, hB⟩ hvr
        rw [Int.toNat_natCast, List.take_length] at hB
        refine s_val (v_conv (k1 := .i64) (k2 := .u64) (a := (un.length : Int)) S.rd.int S.u64 rfl) ?_
        rw [wraps_u64 _ (by omega) (by omega)]
        refine s_callO (Q.uv w5 un.length (by omega)) rfl fun v6 w6 hM6 => ⟨fun p hp => (by cases hp), ?_⟩
        have k36 := (k4.trans hB.2.2).trans hM6.2.2
        refine s_appendO (v := acc) (u := v6) (l2 := pUv un.length) S rfl rfl ((hA.more k3).more k36) (hM6.1.reads.src S.rd.bytes (bcells_one _)) (by rw [List.length_append]; unfold maxW at hl; omega) fun v7 w7 hM7 kk7 => ⟨fun p hp => (by cases hp), ?_⟩
        have hown7 : Own w7 acc' 1 (pTags un).length (bcells (pTags un)) := (hB.more hM6.2.2).1.keep kk7 fun b hb hb' => by
          have h5 := hB.2.1 b hb
          have h6 := hA.1.lt b hb'
          have h7 := k3.size
          have h8 := k4.size
          omega
        refine s_appendO (v := v7) (u := acc') (l2 := pTags un) S rfl rfl hM7 (hown7.reads.src S.rd.bytes (bcells_one _)) (by simp only [List.length_append]; unfold maxW at hl; omega) fun v8 w8 hM8 kk8 => ⟨fun p hp => (by cases hp), s_ret1 ?_⟩
        rw [List.append_assoc] at hM8
        exact hM8.under k1

end

end Go.Kf

namespace Go.Kf

open Go

/-- Room is made at t14 for the tag that t12 points to. -/
def gIns (c : Nums) (n : Nat) : Tr :=
  .op (.build c.sTag ⟨[]⟩) none [] <|
  .op (.buildSlice c.sTagL 1 ⟨[(0, (.tmp n))]⟩) none [] <|
  .op (.call { callee := (.builtin .append), args := ⟨[(.tmp 7), (.tmp (n + 1))]⟩, argTypes := ⟨[c.sTagL, c.sTagL]⟩ }) none [] <|
  .op (.call { callee := (.builtin .len), args := ⟨[(.tmp (n + 2))]⟩, argTypes := ⟨[c.sTagL]⟩ }) none [] <|
  .op (.binOp .sub c.tInt (.tmp (n + 3)) (.const (.int .i64 1)) c.tInt) none [] <|
  .loop 2 [(.tmp (n + 4))] <|
  .op (.binOp .gtr c.tInt (.tmp (n + 5)) (.tmp 14) c.tInt) none [] <|
  .cond (.tmp (n + 6)) (
    .op (.binOp .sub c.tInt (.tmp (n + 5)) (.const (.int .i64 1)) c.tInt) none [] <|
    .op (.indexAddr c.sTagL (.tmp (n + 2)) (.tmp (n + 7))) none [] <|
    .op (.load c.sTag (.tmp (n + 8))) none [] <|
    .op (.indexAddr c.sTagL (.tmp (n + 2)) (.tmp (n + 5))) none [] <|
    .op (.store c.sTag (.tmp (n + 10)) (.tmp (n + 9))) none [] <|
    .op (.binOp .sub c.tInt (.tmp (n + 5)) (.const (.int .i64 1)) c.tInt) none [] <|
    .to 2 [(.tmp (n + 12))]
  ) (
    .op (.load c.sTag (.tmp 12)) none [] <|
    .op (.indexAddr c.sTagL (.tmp (n + 2)) (.tmp 14)) none [] <|
    .op (.store c.sTag (.tmp (n + 8)) (.tmp (n + 7))) none [] <|
    .op (.binOp .add c.tInt (.tmp 8) (.const (.int .i64 1)) c.tInt) none [] <|
    .to 0 [(.tmp (n + 2)), (.tmp (n + 10))]
  )

def gSkip (c : Nums) (n : Nat) : Tr := .op (.binOp .add c.tInt (.tmp 8) (.const (.int .i64 1)) c.tInt) none [] <| .to 0 [(.tmp 7), (.tmp n)]

/-- The tag's key held against the one at t14. -/
def gSame (c : Nums) (n : Nat) : Tr :=
  .draw <|
  .pur (.fieldAddr c.sTag (.tmp 12) 0) none <|
  .lok (.load c.tU32 (.tmp n)) none <|
  .pur (.binOp .lss c.tU32 (.tmp (n + 1)) (.tmp 2) c.tU32) none <|
  .cond (.tmp (n + 2)) (gSkip c (n + 3)) (
    .pur (.call { callee := (.builtin .len), args := ⟨[(.tmp 7)]⟩, argTypes := ⟨[c.sTagL]⟩ }) none <|
    .pur (.binOp .lss c.tInt (.tmp 14) (.tmp (n + 3)) c.tInt) none <|
    .cond (.tmp (n + 4)) (
      .pur (.indexAddr c.sTagL (.tmp 7) (.tmp 14)) none <|
      .pur (.fieldAddr c.sTag (.tmp (n + 5)) 0) none <|
      .lok (.load c.tU32 (.tmp (n + 6))) none <|
      .pur (.fieldAddr c.sTag (.tmp 12) 0) none <|
      .lok (.load c.tU32 (.tmp (n + 8))) none <|
      .pur (.binOp .eql c.tU32 (.tmp (n + 7)) (.tmp (n + 9)) c.tU32) none <|
      .cond (.tmp (n + 10)) (gSkip c (n + 11)) (gIns c (n + 11))
    ) (gIns c (n + 5))
  )

def tUnknown (c : Nums) (s : SN) : Tr :=
  .op (callOp s.known [(.tmp 0)]) none [] <|
  .op (.call { callee := (.builtin .len), args := ⟨[(.tmp 1)]⟩, argTypes := ⟨[c.sTagL]⟩ }) none [] <|
  .op (.call { callee := (.builtin .min), args := ⟨[(.tmp 3), (.const (.int .i64 32767))]⟩, argTypes := ⟨[c.tInt, c.tInt]⟩ }) none [] <|
  .op (.slice c.sTagL (.tmp 1) none (some (.tmp 4)) none) none [] <|
  .op (.call { callee := (.builtin .len), args := ⟨[(.tmp 5)]⟩, argTypes := ⟨[c.sTagL]⟩ }) none [] <|
  .loop 0 [(.const (.slice none 0 0)), (.const (.int .i64 0))] <|
  .op (.binOp .lss c.tInt (.tmp 8) (.tmp 6) c.tInt) none [] <|
  .cond (.tmp 9) (
    .op (.indexAddr c.sTagL (.tmp 5) (.tmp 8)) none [] <|
    .op (.load c.sTag (.tmp 10)) none [] <|
    .op (.alloc c.sTag) none [] <|
    .op (.store c.sTag (.tmp 12) (.tmp 11)) none [] <|
    .loop 1 [(.const (.int .i64 0))] <|
    .draw <|
    .pur (.call { callee := (.builtin .len), args := ⟨[(.tmp 7)]⟩, argTypes := ⟨[c.sTagL]⟩ }) none <|
    .pur (.binOp .lss c.tInt (.tmp 14) (.tmp 15) c.tInt) none <|
    .cond (.tmp 16) (
      .pur (.indexAddr c.sTagL (.tmp 7) (.tmp 14)) none <|
      .pur (.fieldAddr c.sTag (.tmp 17) 0) none <|
      .lok (.load c.tU32 (.tmp 18)) none <|
      .pur (.fieldAddr c.sTag (.tmp 12) 0) none <|
      .lok (.load c.tU32 (.tmp 20)) none <|
      .pur (.binOp .lss c.tU32 (.tmp 19) (.tmp 21) c.tU32) none <|
      .cond (.tmp 22) (
        .op (.binOp .add c.tInt (.tmp 14) (.const (.int .i64 1)) c.tInt) none [] <|
        .to 1 [(.tmp 23)]
      ) (gSame c 23)
    ) (gSame c 17)
  ) (.ret [((.tmp 7), none)])

theorem pPut_at {q : Nat × List UInt8} : ∀ {m : TM} {i : Nat}, (∀ p ∈ m.take i, p.1 < q.1) → (hi : i ≤ m.length) → (∀ h : i < m.length, ¬ m[i].1 < q.1) → pPut q m = if h : i < m.length then (if m[i].1 = q.1 then m else m.take i ++ q :: m.drop i) else m ++ [q]
  | [], i, _, hi, _ => by
    simp at hi
    subst hi
    simp [pPut]
  | x :: m, 0, _, _, h2 => by
    have h3 := h2 (by simp)
    simp only [List.getElem_cons_zero] at h3
    unfold pPut
    rw [if_neg h3]
    simp
  | x :: m, i + 1, h1, hi, h2 => by
    have h3 : x.1 < q.1 := h1 x (by simp)
    unfold pPut
    rw [if_pos h3, pPut_at (m := m) (i := i) (fun p hp => h1 p (by simp [hp])) (by simpa using hi) fun h => h2 (by simpa using h)]
    by_cases hlt : i < m.length
    · rw [dif_pos hlt, dif_pos (by simpa using hlt)]
      simp only [List.getElem_cons_succ]
      split
      · rfl
      · simp
    · rw [dif_neg hlt, dif_neg (by simpa using hlt)]
      rfl

theorem pUnknownN_snoc (least : Nat) (q : Nat × List UInt8) : ∀ (a out : TM), pUnknownN least (a ++ [q]) out = if q.1 < least then pUnknownN least a out else pPut q (pUnknownN least a out)
  | [], out => by simp [pUnknownN]
  | x :: a, out => by rw [List.cons_append, pUnknownN, pUnknownN_snoc least q a]; rfl

theorem TagsC.append {w : World} : ∀ {a b : TM} {x y : List Value}, TagsC w a x → TagsC w b y → TagsC w (a ++ b) (x ++ y)
  | [], b, x, y, h1, h2 => by simp only [TagsC] at h1; subst h1; exact h2
  | p :: a, b, x, y, ⟨v, r, e, h1, h3⟩, h2 => ⟨v, r ++ y, by rw [e]; rfl, h1, h3.append h2⟩

theorem TagsC.drop {w : World} : ∀ {m : TM} {cs : List Value} (k : Nat), TagsC w m cs → TagsC w (m.drop k) (cs.drop (k * 2))
  | _, _, 0, h => by simpa using h
  | [], _, k + 1, h => by simp only [TagsC] at h; subst h; simp [TagsC]
  | p :: m, _, k + 1, ⟨v, r, e, h1, h2⟩ => by
    subst e
    rw [show (k + 1) * 2 = k * 2 + 1 + 1 by omega]
    exact TagsC.drop k h2

section

variable {P : Program} {c : Nums} {s : SN} {R : Value → World → Prop} {Γ : List (List Value → World → Prop)} {n : Nat} {ρ : Nat → Value} {w : World} {k : Tr}

theorem splice_mid {a g z v : List Value} (h : g.length = v.length) : splice (a ++ g ++ z) a.length v = a ++ v ++ z := by
  have h1 : (a ++ g ++ z).take a.length = a := by rw [List.append_assoc, List.take_left' rfl]
  have h2 : (a ++ g ++ z).drop (a.length + v.length) = z := by rw [← h, ← List.length_append, List.drop_left' rfl]
  unfold splice
  rw [h1, h2]

theorem pair_eq' {a b x y : Value} (h1 : a = x) (h2 : b = y) : [a, b] = [x, y] := by rw [h1, h2]

theorem sem_ins {acc : Value} {tb i j m : Nat} {cs : List Value} {kv vv : Value} {w1 : World} {J I1 : List Value → World → Prop} (S : SpFacts P c s) (h7 : ρ 7 = acc) (h8 : ρ 8 = .int .i64 j) (h12 : ρ 12 = ptr tb) (h14 : ρ 14 = .int .i64 i) (hn : 15 ≤ n)
    (hown : Own w acc 2 m cs) (hfr : ∀ b ∈ blkOf acc, w1.heap.size ≤ b) (htag : Has w tb [kv, vv]) (hcs : ∀ u ∈ cs, u.oneCell' = true) (hkv : kv.oneCell' = true) (hvv : vv.oneCell' = true) (htb : tb ∉ blkOf acc) (hi : i ≤ m) (hm : m < 2147483648) (hj : j < 2147483648) (hk1 : Keeps [] w1 w)
    (hJ : ∀ acc' w', Own w' acc' 2 (m + 1) (cs.take (i * 2) ++ [kv, vv] ++ cs.drop (i * 2)) → (∀ b ∈ blkOf acc', w1.heap.size ≤ b) → Keeps [] w1 w' → J [acc', .int .i64 ((j + 1 : Nat) : Int)] w') : (gIns c n).sem P R [J, I1] n ρ w := by
  have hcl : cs.length = m * 2 := hown.1
  refine s_val (v_build (cells := [.int .u32 0, .slice none 0 0]) S.planTag (fun p hp => by cases hp) rfl) ?_
  refine s_oneSlice (sz := 2) (cs := [.int .u32 0, .slice none 0 0]) S.got.rowTag S.ty.slTag (by show (ext _ _ _ n).cells = _; rw [ext_at]; rfl) rfl fun w2 hsl k2 z2 => ⟨fun p hp => (by cases hp), ?_⟩
  have lt : ∀ {ρ : Nat → Value} {a q : Nat} {v : Value}, q < a → ext ρ a [v] q = ρ q := fun h => ext_lt h
  refine s_appendOne (v := acc) (u := .slice (some ⟨w.heap.size, 0, none⟩) 1 1) S.got.rowTag S.ty.slTag (by show ext _ _ _ 7 = _; rw [lt (by omega), lt (by omega)]; exact h7) ext_at (hown.keep k2 (by simp)) hsl (fun q hq => by
    simp only [List.mem_cons, List.not_mem_nil, or_false] at hq
    rcases hq with rfl | rfl <;> rfl) (by omega) fun acc' w3 hown3 k3 hb3 => ⟨fun p hp => (by cases hp), ?_⟩
  generalize hρ : ext (ext (ext ρ n [.agg ⟨[.int .u32 0, .slice none 0 0]⟩]) (n + 1) [.slice (some ⟨w.heap.size, 0, none⟩) 1 1]) (n + 2) [acc'] = ρ3
  have p8 : ρ3 8 = .int .i64 j := by subst hρ; rw [lt (by omega), lt (by omega), lt (by omega)]; exact h8
  have p12 : ρ3 12 = ptr tb := by subst hρ; rw [lt (by omega), lt (by omega), lt (by omega)]; exact h12
  have p14 : ρ3 14 = .int .i64 i := by subst hρ; rw [lt (by omega), lt (by omega), lt (by omega)]; exact h14
  have pa : ρ3 (n + 2) = acc' := by subst hρ; exact ext_at
  have hfr3 : ∀ b ∈ blkOf acc', w1.heap.size ≤ b := fun b hb => (hb3 b hb).elim (hfr b) fun h => by have := hk1.size; have := k2.size; omega
  have k13 : Keeps [] w1 w3 := ((hk1.trans k2).mono (by simp) |>.trans k3).less fun x hx => .inr (hfr x hx)
  have htag3 : Has w3 tb [kv, vv] := (htag.keep k2 (by simp)).keep k3 htb
  have htl := htag.lt
  rcases hown3.2 with ⟨_, h0⟩ | ⟨b, cap, spare, e3, hh3, hc3, hc63, hlen3⟩
  · omega
  have htb3 : tb ≠ b := fun h => by
    subst h
    have := hb3 tb (by rw [e3]; simp [blkOf])
    rcases this with h | h
    · exact htb h
    · have := k2.size; omega
  refine s_val (v_len (a := some ⟨b, 0, none⟩) (l := m + 1) (c := cap) S.ty.slTag (by show ρ3 (n + 2) = _; rw [pa, e3])) ?_
  refine s_val (v_arith (kk := .i64) (a := ((m + 1 : Nat) : Int)) (b := 1) (r := (m : Int)) ext_at rfl (by simp only [arithOf, Option.some.injEq]; rw [IntKind.wrap_i64]; omega)) ?_
  generalize hρ5 : ext (ext ρ3 (n + 3) [.int .i64 ((m + 1 : Nat) : Int)]) (n + 4) [.int .i64 (m : Int)] = ρ5
  have r8 : ρ5 8 = .int .i64 j := by subst hρ5; rw [lt (by omega), lt (by omega)]; exact p8
  have r12 : ρ5 12 = ptr tb := by subst hρ5; rw [lt (by omega), lt (by omega)]; exact p12
  have r14 : ρ5 14 = .int .i64 i := by subst hρ5; rw [lt (by omega), lt (by omega)]; exact p14
  have ra : ρ5 (n + 2) = acc' := by subst hρ5; rw [lt (by omega), lt (by omega)]; exact pa
  have rm : ρ5 (n + 4) = .int .i64 (m : Int) := by subst hρ5; exact ext_at
  refine ⟨rfl, fun vs w' => ∃ q : Nat, vs = [.int .i64 q] ∧ i ≤ q ∧ q ≤ m ∧ ∃ g : List Value, g.length = 2 ∧ Has w' b (cs.take (q * 2) ++ g ++ (cs.drop (q * 2) ++ spare)) ∧ Keeps [b] w3 w', fun vs _ => match vs with
    | [.int _ q] => q.toNat
    | _ => 0, ⟨m, by show [ρ5 (n + 4)] = _; rw [rm], hi, Nat.le_refl _, [.int .u32 0, .slice none 0 0], rfl, ?_, .refl⟩, ?_⟩
  · rw [List.take_of_length_le (by omega), List.drop_eq_nil_of_le (by omega), List.nil_append]
    exact hh3
  rintro _ w4 _ ⟨q, rfl, hiq, hqm, g, hg, hh4, k4⟩
  show Tr.sem _ _ _ _ (n + 6) (ext ρ5 (n + 5) [.int .i64 (q : Int)]) w4
  have hx5 : ext ρ5 (n + 5) [.int .i64 (q : Int)] (n + 5) = .int .i64 q := ext_at
  refine s_val (v_cmp (kk := .i64) (a := q) (b := i) (r := decide ((q : Int) > i)) hx5 (by show ext _ _ _ 14 = _; rw [lt (by omega)]; exact r14) rfl) ?_
  refine s_cond (b := decide ((q : Int) > i)) ext_at (fun hb => ?_) fun hb => ?_
  · have hgt : i < q := by
      have : (q : Int) > i := by simpa using hb
      omega
    obtain ⟨p, rfl⟩ : ∃ p, q = p + 1 := ⟨q - 1, by omega⟩
    refine s_val (v_arith (kk := .i64) (a := ((p + 1 : Nat) : Int)) (b := 1) (r := (p : Int)) (by show ext _ _ _ (n + 5) = _; rw [lt (by omega)]; exact ext_at) rfl (by simp only [arithOf, Option.some.injEq]; rw [IntKind.wrap_i64]; omega)) ?_
    refine s_val (v_indexAddr (b := b) (o := 0) (l := m + 1) (c := cap) (j := p) (kk := .i64) S.ty.slTag S.szG (by show ext _ _ _ (n + 2) = _; rw [lt (by omega), lt (by omega), lt (by omega), ra, e3]) ext_at (by omega) (by omega)) ?_
    rw [Int.toNat_natCast]
    have hold : (cs.take ((p + 1) * 2)).length = (p + 1) * 2 := by rw [List.length_take]; omega
    refine s_lok (l_loadN (b := b) (o := 0 + p * 2) S.ty.aggTag ext_at hh4 (by simp only [List.length_append, hold]; omega)) ?_
    have hcell : ((cs.take ((p + 1) * 2) ++ g ++ (cs.drop ((p + 1) * 2) ++ spare)).drop (0 + p * 2)).take 2 = (cs.drop (p * 2)).take 2 := by
      rw [Nat.zero_add, List.append_assoc, List.drop_append_of_le_length (by omega), List.take_append_of_le_length (by rw [List.length_drop, hold]; omega), List.drop_take]
      rw [List.take_take]
      congr 1
      omega
    rw [hcell]
    have hcl2 : ((cs.drop (p * 2)).take 2).length = 2 := by rw [List.length_take, List.length_drop]; omega
    refine s_val (v_indexAddr (b := b) (o := 0) (l := m + 1) (c := cap) (j := ((p + 1 : Nat) : Int)) (kk := .i64) S.ty.slTag S.szG (by show ext _ _ _ (n + 2) = _; rw [lt (by omega), lt (by omega), lt (by omega), lt (by omega), lt (by omega), ra, e3]) (by show ext _ _ _ (n + 5) = _; rw [lt (by omega), lt (by omega), lt (by omega), lt (by omega)]; exact ext_at) (by omega) (by omega)) ?_
    rw [Int.toNat_natCast]
    obtain ⟨w5, e5, h5, k5⟩ := a_storeCells (P := P) (w := w4) (t := c.sTag) (x := .tmp (n + 10)) (y := .tmp (n + 9)) (b := b) (o := 0 + (p + 1) * 2) (vs := (cs.drop (p * 2)).take 2) (ρ := ext (ext (ext (ext (ext (ext ρ5 (n + 5) [.int .i64 ((p + 1 : Nat) : Int)]) (n + 6) [.bool (decide (((p + 1 : Nat) : Int) > i))]) (n + 7) [.int .i64 (p : Int)]) (n + 8) [ptr b (0 + p * 2)]) (n + 9) [.agg ⟨(cs.drop (p * 2)).take 2⟩]) (n + 10) [ptr b (0 + (p + 1) * 2)]) (by rw [hcl2]; exact (aggTy_spec (w := w) S.ty.aggTag).2) ext_at (by show (ext _ _ _ (n + 9)).cells = _; rw [lt (by omega), ext_at]; rfl) hh4 (by simp only [List.length_append, hold]; omega) fun u hu => hcs u (List.mem_of_mem_drop (List.mem_of_mem_take hu))
    refine s_unit e5 (fun p hp => (by cases hp)) ?_
    refine s_val (v_arith (kk := .i64) (a := ((p + 1 : Nat) : Int)) (b := 1) (r := (p : Int)) (by show ext _ _ _ (n + 5) = _; rw [lt (by omega), lt (by omega), lt (by omega), lt (by omega), lt (by omega), lt (by omega)]; exact ext_at) rfl (by simp only [arithOf, Option.some.injEq]; rw [IntKind.wrap_i64]; omega)) ?_
    refine ⟨_, rfl, ?_⟩
    generalize hvs : List.map (ev _) [Operand.tmp (n + 12)] = vs
    obtain rfl : vs = [.int .i64 (p : Int)] := by rw [← hvs]; exact congrArg (fun x => [x]) ext_at
    refine ⟨⟨p, rfl, by omega, by omega, (cs.drop (p * 2)).take 2, hcl2, ?_, k4.trans k5⟩, by show (p : Int).toNat < ((p + 1 : Nat) : Int).toNat; omega⟩
    have hs : splice (cs.take ((p + 1) * 2) ++ g ++ (cs.drop ((p + 1) * 2) ++ spare)) (0 + (p + 1) * 2) ((cs.drop (p * 2)).take 2) = cs.take (p * 2) ++ (cs.drop (p * 2)).take 2 ++ (cs.drop (p * 2) ++ spare) := by
      have h1 := splice_mid (a := cs.take ((p + 1) * 2)) (g := g) (z := cs.drop ((p + 1) * 2) ++ spare) (v := (cs.drop (p * 2)).take 2) (by omega)
      rw [hold] at h1
      rw [Nat.zero_add, h1]
      have e1 : cs.take ((p + 1) * 2) = cs.take (p * 2) ++ (cs.drop (p * 2)).take 2 := by rw [show (p + 1) * 2 = p * 2 + 2 by omega, List.take_add]
      have e2 : (cs.drop (p * 2)).take 2 ++ cs.drop ((p + 1) * 2) = cs.drop (p * 2) := by rw [show (p + 1) * 2 = p * 2 + 2 by omega, ← List.drop_drop, List.take_append_drop]
      rw [e1, List.append_assoc, List.append_assoc, List.append_assoc, ← List.append_assoc ((cs.drop (p * 2)).take 2) (cs.drop _) spare, e2]
    rw [hs] at h5
    exact h5
  · obtain rfl : q = i := by
      have : ¬ (q : Int) > i := by simpa using hb
      omega
    refine s_lok (l_loadN (b := tb) (o := 0) S.ty.aggTag (by show ext _ _ _ 12 = _; rw [lt (by omega), lt (by omega)]; exact r12) (htag3.keep k4 (by simp only [List.mem_singleton]; exact htb3)) (show 0 + 2 ≤ 2 by omega)) ?_
    refine s_val (v_indexAddr (b := b) (o := 0) (l := m + 1) (c := cap) (j := (q : Int)) (kk := .i64) S.ty.slTag S.szG (by show ext _ _ _ (n + 2) = _; rw [lt (by omega), lt (by omega), lt (by omega), ra, e3]) (by show ext _ _ _ 14 = _; rw [lt (by omega), lt (by omega), lt (by omega)]; exact r14) (by omega) (by omega)) ?_
    rw [Int.toNat_natCast]
    have hold : (cs.take (q * 2)).length = q * 2 := by rw [List.length_take]; omega
    obtain ⟨w5, e5, h5, k5⟩ := a_storeCells (P := P) (w := w4) (t := c.sTag) (x := .tmp (n + 8)) (y := .tmp (n + 7)) (b := b) (o := 0 + q * 2) (vs := [kv, vv]) (ρ := ext (ext (ext (ext ρ5 (n + 5) [.int .i64 (q : Int)]) (n + 6) [.bool (decide ((q : Int) > q))]) (n + 7) [.agg ⟨[kv, vv]⟩]) (n + 8) [ptr b (0 + q * 2)]) (aggTy_spec (w := w) S.ty.aggTag).2 ext_at (by show (ext _ _ _ (n + 7)).cells = _; rw [lt (by omega), ext_at]; rfl) hh4 (by simp only [List.length_append, hold, List.length_cons, List.length_nil]; omega) (fun u hu => by
      simp only [List.mem_cons, List.not_mem_nil, or_false] at hu
      rcases hu with rfl | rfl
      · exact hkv
      · exact hvv)
    refine s_unit e5 (fun p hp => (by cases hp)) ?_
    refine s_val (v_arith (kk := .i64) (a := (j : Int)) (b := 1) (r := ((j + 1 : Nat) : Int)) (by show ext _ _ _ 8 = _; rw [lt (by omega), lt (by omega), lt (by omega), lt (by omega), lt (by omega)]; exact r8) rfl (by simp only [arithOf, Option.some.injEq]; rw [IntKind.wrap_i64]; omega)) ?_
    refine ⟨J, rfl, ?_⟩
    generalize hvs : List.map (ev _) [Operand.tmp (n + 2), Operand.tmp (n + 10)] = vs
    obtain rfl : vs = [acc', .int .i64 ((j + 1 : Nat) : Int)] := by
      rw [← hvs]
      exact pair_eq' (by show ext _ _ _ (n + 2) = _; rw [lt (by omega), lt (by omega), lt (by omega), lt (by omega), lt (by omega), lt (by omega)]; exact ra) ext_at
    have hs : splice (cs.take (q * 2) ++ g ++ (cs.drop (q * 2) ++ spare)) (0 + q * 2) [kv, vv] = cs.take (q * 2) ++ [kv, vv] ++ (cs.drop (q * 2) ++ spare) := by
      have h1 := splice_mid (a := cs.take (q * 2)) (g := g) (z := cs.drop (q * 2) ++ spare) (v := [kv, vv]) (by simpa using hg)
      rw [hold] at h1
      rw [Nat.zero_add, h1]
    rw [hs, ← List.append_assoc] at h5
    have hll : (cs.take (q * 2) ++ [kv, vv] ++ cs.drop (q * 2)).length = (m + 1) * 2 := by simp only [List.length_append, hold, List.length_drop, List.length_cons, List.length_nil]; omega
    refine hJ acc' w5 ⟨hll, .inr ⟨b, cap, spare, e3, h5, hc3, hc63, ?_⟩⟩ hfr3 ((k13.mono (by simp)).trans (k4.trans k5) |>.less fun x hx => .inr ?_)
    · rw [List.length_append, hll]
      rw [List.length_append, List.length_append, hcl] at hlen3
      simp only [List.length_cons, List.length_nil] at hlen3
      omega
    · simp only [List.mem_singleton] at hx
      subst hx
      exact hfr3 x (by rw [e3]; simp [blkOf])

theorem TagsC.ones : ∀ {m : TM} {cs : List Value}, TagsC w m cs → ∀ u ∈ cs, u.oneCell' = true
  | [], _, h, u, hu => by simp only [TagsC] at h; subst h; cases hu
  | p :: m, _, ⟨v, r, e, h1, h2⟩, u, hu => by
    subst e
    simp only [List.mem_cons] at hu
    rcases hu with rfl | rfl | hu
    · rfl
    · exact h1.one
    · exact TagsC.ones h2 u hu

/-- The key of a tag in an own row. -/
theorem own_key {w1 : World} {acc : Value} {m : TM} {cs : List Value} {i : Nat} (ho : Own w acc 2 m.length cs) (ht : TagsC w1 m cs) (hi : i < m.length) : ∃ b cap spare, acc = .slice (some ⟨b, 0, none⟩) m.length cap ∧ Has w b (cs ++ spare) ∧ (cs ++ spare)[0 + i * 2 + 0]? = some (.int .u32 m[i].1) := by
  rcases ho.2 with ⟨_, h0⟩ | ⟨b, cap, spare, e, hh, _⟩
  · omega
  · obtain ⟨v, h1, _⟩ := ht.get hi
    have hl := ho.1
    refine ⟨b, cap, spare, e, hh, ?_⟩
    rw [List.getElem?_append_left (by omega), Nat.zero_add, Nat.add_zero]
    have := congrArg (fun x => x[0]?) h1
    simpa [List.getElem?_take, List.getElem?_drop] using this

theorem own_form {acc : Value} {sz m : Nat} {cs : List Value} (ho : Own w acc sz m cs) : ∃ a cp, acc = .slice a m cp := by
  rcases ho.2 with ⟨rfl, rfl⟩ | ⟨b, cap, spare, e, _⟩
  · exact ⟨_, _, rfl⟩
  · exact ⟨_, _, e⟩

def pStep (least : Nat) (q : Nat × List UInt8) (out : TM) : TM := if q.1 < least then out else pPut q out

theorem sem_same {acc vv : Value} {tb i j least : Nat} {q : Nat × List UInt8} {out : TM} {cs : List Value} {w0 w1 : World} {J I1 : List Value → World → Prop} (S : SpFacts P c s) (h2 : ρ 2 = .int .u32 least) (h7 : ρ 7 = acc) (h8 : ρ 8 = .int .i64 j) (h12 : ρ 12 = ptr tb) (h14 : ρ 14 = .int .i64 i) (hn : 15 ≤ n)
    (hown : Own w acc 2 out.length cs) (hfr : ∀ b ∈ blkOf acc, w1.heap.size ≤ b) (ht : TagsC w0 out cs) (htag : Has w tb [.int .u32 q.1, vv]) (hvv : Ro w0 vv 1 q.2.length (bcells q.2)) (htb : tb ∉ blkOf acc) (hi : i ≤ out.length) (hbelow : ∀ p ∈ out.take i, p.1 < q.1) (hat : ∀ h : i < out.length, ¬ out[i].1 < q.1)
    (hm : out.length < 2147483647) (hj : j < 2147483647) (hk1 : Keeps [] w1 w)
    (hJ : ∀ acc' w' cs', Own w' acc' 2 (pStep least q out).length cs' → (∀ b ∈ blkOf acc', w1.heap.size ≤ b) → TagsC w0 (pStep least q out) cs' → Keeps [] w1 w' → J [acc', .int .i64 ((j + 1 : Nat) : Int)] w') : (gSame c n).sem P R [J, I1] n ρ w := by
  have lt : ∀ {ρ : Nat → Value} {a q : Nat} {v : Value}, q < a → ext ρ a [v] q = ρ q := fun h => ext_lt h
  show Tr.sem _ _ _ _ _ _ { w with drawn := w.drawn + 1 }
  have hd : Keeps [] w { w with drawn := w.drawn + 1 } := keeps_drawn w _ _
  generalize ({ w with drawn := w.drawn + 1 } : World) = w2 at hd ⊢
  have hown2 := hown.keep hd (by simp)
  have htag2 := htag.keep hd (by simp)
  have k12 := hk1.trans hd
  have hvo := hvv.one
  have ins : ∀ (n' : Nat) (ρ' : Nat → Value), 15 ≤ n' → (∀ x, x < 15 → ρ' x = ρ x) → pStep least q out = out.take i ++ q :: out.drop i → (gIns c n').sem P R [J, I1] n' ρ' w2 := by
    intro n' ρ' hn' hρ' hst
    refine sem_ins (acc := acc) (tb := tb) (i := i) (j := j) (m := out.length) (cs := cs) (kv := .int .u32 q.1) (vv := vv) (w1 := w1) S ((hρ' 7 (by omega)).trans h7) ((hρ' 8 (by omega)).trans h8) ((hρ' 12 (by omega)).trans h12) ((hρ' 14 (by omega)).trans h14) hn' hown2 hfr htag2 ht.ones rfl hvo htb hi (by omega) (by omega) k12 fun acc' w' ho' hf' kk => ?_
    have hlen : (pStep least q out).length = out.length + 1 := by rw [hst, List.length_append, List.length_take, List.length_cons, List.length_drop]; omega
    refine hJ acc' w' _ (by rw [hlen]; exact ho') hf' ?_ kk
    rw [hst, List.append_assoc]
    exact (TagsC.take i ht).append (show TagsC w0 (q :: out.drop i) ([.int .u32 q.1, vv] ++ cs.drop (i * 2)) from ⟨vv, _, rfl, hvv, TagsC.drop i ht⟩)
  have skip : ∀ (n' : Nat) (ρ' : Nat → Value), 15 ≤ n' → (∀ x, x < 15 → ρ' x = ρ x) → pStep least q out = out → (gSkip c n').sem P R [J, I1] n' ρ' w2 := by
    intro n' ρ' hn' hρ' hst
    refine s_val (v_arith (kk := .i64) (a := (j : Int)) (b := 1) (r := ((j + 1 : Nat) : Int)) ((hρ' 8 (by omega)).trans h8) rfl (by simp only [arithOf, Option.some.injEq]; rw [IntKind.wrap_i64]; omega)) ?_
    refine ⟨J, rfl, ?_⟩
    generalize hvs : List.map (ev _) [Operand.tmp 7, Operand.tmp n'] = vs
    obtain rfl : vs = [acc, .int .i64 ((j + 1 : Nat) : Int)] := by
      rw [← hvs]
      exact pair_eq' (by show ext _ _ _ 7 = _; rw [lt (by omega)]; exact (hρ' 7 (by omega)).trans h7) ext_at
    exact hJ acc w2 cs (by rw [hst]; exact hown2) hfr (by rw [hst]; exact ht) k12
  refine p_fl S.ty.g0 S.ty.oneU32 (show ev ρ (.tmp 12) = ptr tb from h12) rfl htag2 rfl ?_
  refine p_val (v_cmp (kk := .u32) (a := q.1) (b := least) (r := decide ((q.1 : Int) < least)) ext_at (by show ext _ _ _ 2 = _; rw [lt (by omega), lt (by omega)]; exact h2) rfl) ?_
  refine s_cond (b := decide ((q.1 : Int) < least)) ext_at (fun hb => ?_) fun hb => ?_
  · refine skip _ _ (by omega) (fun x hx => by rw [lt (by omega), lt (by omega), lt (by omega)]) ?_
    unfold pStep
    rw [if_pos (by
      have : (q.1 : Int) < least := by simpa using hb
      omega)]
  have hst : pStep least q out = pPut q out := by
    unfold pStep
    rw [if_neg (by
      have : ¬ (q.1 : Int) < least := by simpa using hb
      omega)]
  have hput := pPut_at hbelow hi hat
  obtain ⟨a, cp, e⟩ := own_form hown2
  refine p_val (v_len (a := a) (l := out.length) (c := cp) S.ty.slTag (by show ext _ _ _ 7 = _; rw [lt (by omega), lt (by omega), lt (by omega), h7, e])) ?_
  refine p_val (v_cmp (kk := .i64) (a := i) (b := out.length) (r := decide ((i : Int) < out.length)) (by show ext _ _ _ 14 = _; rw [lt (by omega), lt (by omega), lt (by omega), lt (by omega)]; exact h14) ext_at rfl) ?_
  refine s_cond (b := decide ((i : Int) < out.length)) ext_at (fun hb2 => ?_) fun hb2 => ?_
  · have hlt : i < out.length := by
      have : (i : Int) < out.length := by simpa using hb2
      omega
    obtain ⟨b, cap, spare, e2, hh, hkey⟩ := own_key hown2 ht hlt
    refine p_val (v_indexAddr (b := b) (o := 0) (l := out.length) (c := cap) (j := (i : Int)) (kk := .i64) S.ty.slTag S.szG (by show ext _ _ _ 7 = _; rw [lt (by omega), lt (by omega), lt (by omega), lt (by omega), lt (by omega), h7, e2]) (by show ext _ _ _ 14 = _; rw [lt (by omega), lt (by omega), lt (by omega), lt (by omega), lt (by omega)]; exact h14) (by omega) (by omega)) ?_
    rw [Int.toNat_natCast]
    refine p_fl S.ty.g0 S.ty.oneU32 ext_at rfl hh hkey ?_
    refine p_fl S.ty.g0 S.ty.oneU32 (by show ext _ _ _ 12 = _; rw [lt (by omega), lt (by omega), lt (by omega), lt (by omega), lt (by omega), lt (by omega), lt (by omega), lt (by omega)]; exact h12) rfl htag2 rfl ?_
    refine p_val (v_cmp (kk := .u32) (a := (out[i]'hlt).1) (b := q.1) (r := (((out[i]'hlt).1 : Int) == q.1)) (by show ext _ _ _ (n + 7) = _; rw [lt (by omega), lt (by omega)]; exact ext_at) ext_at rfl) ?_
    rw [dif_pos hlt] at hput
    refine s_cond (b := (((out[i]'hlt).1 : Int) == q.1)) ext_at (fun hb3 => ?_) fun hb3 => ?_
    · refine skip _ _ (by omega) (fun x hx => by rw [lt (by omega), lt (by omega), lt (by omega), lt (by omega), lt (by omega), lt (by omega), lt (by omega), lt (by omega), lt (by omega), lt (by omega), lt (by omega)]) ?_
      rw [hst, hput, if_pos (by
        have : ((out[i]'hlt).1 : Int) = q.1 := by simpa using hb3
        omega)]
    · refine ins _ _ (by omega) (fun x hx => by rw [lt (by omega), lt (by omega), lt (by omega), lt (by omega), lt (by omega), lt (by omega), lt (by omega), lt (by omega), lt (by omega), lt (by omega), lt (by omega)]) ?_
      rw [hst, hput, if_neg (by
        have : ¬ ((out[i]'hlt).1 : Int) = q.1 := by simpa using hb3
        omega)]
  · have hge : ¬ i < out.length := by
      have : ¬ (i : Int) < out.length := by simpa using hb2
      omega
    refine ins _ _ (by omega) (fun x hx => by rw [lt (by omega), lt (by omega), lt (by omega), lt (by omega), lt (by omega)]) ?_
    rw [hst, hput, dif_neg hge, List.take_of_length_le (by omega), List.drop_eq_nil_of_le (by omega)]

theorem unknown_gives (S : SpFacts P c s) {fs : List PF} (hK : ∀ (w : World) (fv : Value), FieldsV w fs fv → Yields P s.known [fv] w (.int .u32 (pKnown fs 0))) (hT : treeIn P s.unknown noOrc [.tmp 0, .tmp 1] 2 = tUnknown c s) : UnknownOf P s fs := by
  intro w0 w fv uv u ucs hfv hr ht hkey
  refine gives_in (ρ := en [_, _]) S.rd.mix hT (Nat.le_refl _) rfl (by simp [opBelow]) ?_
  refine s_callx (hK w fv hfv) rfl fun x w1 ⟨hx, k1⟩ => ?_
  subst hx
  obtain ⟨a, cp, rfl⟩ := hr.form
  refine s_val (v_len (a := a) (l := u.length) (c := cp) S.ty.slTag rfl) ?_
  refine s_val (v_min (kk := .i64) (a := u.length) (b := 32767) rfl rfl) ?_
  have hcap : u.length ≤ cp := by
    rcases hr.2 with ⟨h0, _⟩ | ⟨_, _, _, e, _, hc, _⟩
    · omega
    · simp only [Value.slice.injEq] at e; omega
  refine s_val (v_sliceTo (a := a) (l := u.length) (c := cp) (k := .i64) (h := if (32767 : Int) < (u.length : Int) then (32767 : Int) else (u.length : Int)) S.ty.slTag S.szG rfl rfl (by split <;> omega) (by split <;> omega)) ?_
  have e : (u.take 32767).length = (if (32767 : Int) < (u.length : Int) then (32767 : Int) else (u.length : Int)).toNat := by
    rw [take_min, List.length_take]
    split <;> omega
  have h2 := (hr.to (m := (u.take 32767).length) (by rw [e]; split <;> omega)).keep k1
  have h3 := ht.take (u.take 32767).length
  have htk : u.take (u.take 32767).length = u.take 32767 := by rw [List.length_take, List.take_eq_take_min]; simp
  rw [htk] at h3
  rw [← e]
  generalize hl : u.take 32767 = l at h2 h3 e ⊢
  have hl7 : l.length ≤ 32767 := by rw [← hl, List.length_take]; omega
  have hkl : ∀ p ∈ l, p.1 < 4294967296 := fun p hp => hkey p (List.mem_of_mem_take (by rw [hl]; exact hp))
  refine s_val (v_len (a := a) (l := l.length) (c := cp) S.ty.slTag rfl) ?_
  refine s_countV (n := 7) (q := 6) (kk := .i64) (m := l.length) (ri := [.const (.slice none 0 0)]) (Γ := []) (fun j vr w' => ∃ acc cs, vr = [acc] ∧ Own w' acc 2 (pUnknownN (pKnown fs 0) (l.take j) []).length cs ∧ (∀ b ∈ blkOf acc, w1.heap.size ≤ b) ∧ TagsC w0 (pUnknownN (pKnown fs 0) (l.take j) []) cs ∧ Keeps [] w1 w') (by omega) rfl
    ⟨_, [], rfl, Own.nil w1 2, (fun b hb => by cases hb), rfl, .refl⟩ ?_ ?_
  · rintro j hj w2 vr ⟨acc, cs, rfl, hown, hfr, htc, k2⟩ hvr J hJ
    have hj' : j < l.length := by omega
    have hsn : pUnknownN (pKnown fs 0) (l.take (j + 1)) [] = pStep (pKnown fs 0) l[j] (pUnknownN (pKnown fs 0) (l.take j) []) := by
      rw [List.take_succ_eq_append_getElem hj', pUnknownN_snoc]
      rfl
    have hol : (pUnknownN (pKnown fs 0) (l.take j) []).length ≤ j := by
      have := pUnknownN_length (pKnown fs 0) (l.take j) []
      rw [List.length_take] at this
      simp at this
      omega
    generalize hout : pUnknownN (pKnown fs 0) (l.take j) [] = out at hown htc hsn hol
    refine s_eachT (w0 := w0) (tv := .slice a l.length cp) (m := l) (j := j) S (h2.keep k2) h3 rfl rfl hj' fun w3 a3 tb vv hh hvv k3 hb => ?_
    have hown3 := hown.keep k3 (by simp)
    have k13 := k2.trans k3
    have htb : tb ∉ blkOf acc := fun h => by have := hown.lt tb h; omega
    refine ⟨rfl, fun vs w' => ∃ i : Nat, vs = [.int .i64 i] ∧ i ≤ out.length ∧ (∀ p ∈ out.take i, p.1 < (l[j]'hj').1) ∧ Keeps [] w3 w', fun vs _ => match vs with
      | [.int _ i] => (out.length : Int).toNat - i.toNat
      | _ => 0, ⟨0, rfl, by omega, (fun p hp => by simp at hp), .refl⟩, ?_⟩
    rintro _ w4 _ ⟨i, rfl, hi, hbelow, k34⟩
    have k14 := k13.trans k34
    show Tr.sem _ _ _ _ _ _ { w4 with drawn := w4.drawn + 1 }
    have hd : Keeps [] w4 { w4 with drawn := w4.drawn + 1 } := keeps_drawn w4 _ _
    generalize ({ w4 with drawn := w4.drawn + 1 } : World) = w5 at hd ⊢
    have hown5 := (hown3.keep k34 (by simp)).keep hd (by simp)
    have htag5 := (hh.keep k34 (by simp)).keep hd (by simp)
    obtain ⟨a5, c5, e5⟩ := own_form hown5
    have fin : ∀ acc' w' cs', Own w' acc' 2 (pStep (pKnown fs 0) l[j] out).length cs' → (∀ b ∈ blkOf acc', w1.heap.size ≤ b) → TagsC w0 (pStep (pKnown fs 0) l[j] out) cs' → Keeps [] w1 w' → J [acc', .int .i64 ((j + 1 : Nat) : Int)] w' := fun acc' w' cs' h4 h5 h6 h7 => hJ [acc'] w' rfl ⟨acc', cs', rfl, by rw [hsn]; exact h4, h5, by rw [hsn]; exact h6, h7⟩
    refine p_val (v_len (a := a5) (l := out.length) (c := c5) S.ty.slTag e5) ?_
    refine p_val (v_cmp (kk := .i64) (a := i) (b := out.length) (r := decide ((i : Int) < out.length)) rfl rfl rfl) ?_
    refine s_cond (b := decide ((i : Int) < out.length)) rfl (fun hb2 => ?_) fun hb2 => ?_
    · have hlt : i < out.length := by
        have : (i : Int) < out.length := by simpa using hb2
        omega
      obtain ⟨b, cap, spare, e2, hh2, hkey2⟩ := own_key hown5 htc hlt
      refine p_val (v_indexAddr (b := b) (o := 0) (l := out.length) (c := cap) (j := (i : Int)) (kk := .i64) S.ty.slTag S.szG e2 rfl (by omega) (by omega)) ?_
      rw [Int.toNat_natCast]
      refine p_fl S.ty.g0 S.ty.oneU32 rfl rfl hh2 hkey2 ?_
      refine p_fl S.ty.g0 S.ty.oneU32 rfl rfl htag5 rfl ?_
      refine p_val (v_cmp (kk := .u32) (a := (out[i]'hlt).1) (b := (l[j]'hj').1) (r := decide (((out[i]'hlt).1 : Int) < (l[j]'hj').1)) rfl rfl rfl) ?_
      refine s_cond (b := decide (((out[i]'hlt).1 : Int) < (l[j]'hj').1)) rfl (fun hb3 => ?_) fun hb3 => ?_
      · have hlt3 : (out[i]'hlt).1 < (l[j]'hj').1 := by
          have : ((out[i]'hlt).1 : Int) < (l[j]'hj').1 := by simpa using hb3
          omega
        refine s_val (v_arith (kk := .i64) (a := i) (b := 1) (r := ((i + 1 : Nat) : Int)) rfl rfl (by simp only [arithOf, Option.some.injEq]; rw [IntKind.wrap_i64]; omega)) ?_
        refine ⟨_, rfl, ⟨i + 1, rfl, by omega, ?_, k34.trans hd⟩, ?_⟩
        · intro p hp
          rw [List.take_succ_eq_append_getElem hlt, List.mem_append] at hp
          rcases hp with hp | hp
          · exact hbelow p hp
          · simp only [List.mem_singleton] at hp
            subst hp
            exact hlt3
        · show (out.length : Int).toNat - ((i + 1 : Nat) : Int).toNat < (out.length : Int).toNat - (i : Int).toNat
          omega
      · refine sem_same (acc := acc) (vv := vv) (tb := tb) (i := i) (j := j) (least := pKnown fs 0) (q := l[j]) (out := out) (cs := cs) (w0 := w0) (w1 := w1) S rfl rfl rfl rfl rfl (by omega) hown5 hfr htc htag5 hvv htb hi hbelow (fun h => ?_) (by omega) (by omega) (k14.trans hd) fin
        have : ¬ ((out[i]'hlt).1 : Int) < (l[j]'hj').1 := by simpa using hb3
        omega
    · refine sem_same (acc := acc) (vv := vv) (tb := tb) (i := i) (j := j) (least := pKnown fs 0) (q := l[j]) (out := out) (cs := cs) (w0 := w0) (w1 := w1) S rfl rfl rfl rfl rfl (by omega) hown5 hfr htc htag5 hvv htb hi hbelow (fun h => ?_) (by omega) (by omega) (k14.trans hd) fin
      have : ¬ (i : Int) < out.length := by simpa using hb2
      omega
  · rintro w2 vr J ⟨acc, cs, rfl, hown, hfr, htc, k2⟩ hvr
    rw [Int.toNat_natCast, List.take_length] at hown htc
    refine s_ret1 ⟨cs, ?_, ?_, fun b hb => Nat.le_trans k1.size (hfr b hb), k1.trans k2⟩
    · unfold pUnknown
      rw [hl]
      exact hown
    · unfold pUnknown
      rw [hl]
      exact htc

end

end Go.Kf

namespace Go.Kf

open Go

mutual
def Ty.wd : Ty → Nat
  | .uuid => 16
  | .sub ts => tyWds ts
  | _ => 1
def tyWds : List Ty → Nat
  | [] => 0
  | t :: ts => t.wd + tyWds ts
end

theorem okF_num {f : FV} {k : IntKind} (h : okF f (.num k)) : ∃ x, f = .one (.int k x) ∧ k.wrap x = x := by
  cases f with
  | one v => obtain ⟨x, rfl, h⟩ := h; exact ⟨x, rfl, h⟩
  | ptr o => cases o <;> simp [okF] at h
  | _ => simp [okF] at h

theorem okF_bool {f : FV} (h : okF f .bool) : ∃ b, f = .one (.bool b) := by
  cases f with
  | one v => obtain ⟨x, rfl⟩ := h; exact ⟨x, rfl⟩
  | ptr o => cases o <;> simp [okF] at h
  | _ => simp [okF] at h

theorem okF_text {f : FV} (h : okF f .text) : ∃ l, f = .text l ∧ l.length ≤ big := by
  cases f with
  | text l => exact ⟨l, rfl, h.2⟩
  | ptr o => cases o <;> simp [okF] at h
  | _ => simp [okF] at h

theorem okF_ntext {f : FV} (h : okF f .ntext) : ∃ o, f = .ntext o ∧ ∀ l, o = some l → l.length ≤ big := by
  cases f with
  | ntext l => exact ⟨l, rfl, h.2⟩
  | ptr o => cases o <;> simp [okF] at h
  | _ => simp [okF] at h

theorem okF_octs {f : FV} (h : okF f .octs) : ∃ nl l, f = .octs nl l ∧ l.length ≤ big := by
  cases f with
  | octs nl l => exact ⟨nl, l, rfl, h.2⟩
  | ptr o => cases o <;> simp [okF] at h
  | _ => simp [okF] at h

theorem okF_uuid {f : FV} (h : okF f .uuid) : ∃ l, f = .uuid l ∧ l.length = 16 := by
  cases f with
  | uuid l => exact ⟨l, rfl, h.2⟩
  | ptr o => cases o <;> simp [okF] at h
  | _ => simp [okF] at h

theorem okF_tags {f : FV} (h : okF f .tags) : ∃ m, f = .tags m ∧ m.length ≤ big ∧ ∀ p ∈ m, p.2.length ≤ big := by
  cases f with
  | tags m => exact ⟨m, rfl, h.2⟩
  | ptr o => cases o <;> simp [okF] at h
  | _ => simp [okF] at h

theorem okF_list {f : FV} {ts : List Ty} (h : okF f (.list ts)) : ∃ nl rows, f = .list nl rows ∧ rows.length ≤ big ∧ okRows rows ts := by
  cases f with
  | list nl rows => exact ⟨nl, rows, rfl, h.1, h.2⟩
  | ptr o => cases o <;> simp [okF] at h
  | _ => simp [okF] at h

theorem okF_sub {f : FV} {ts : List Ty} (h : okF f (.sub ts)) : ∃ fs, f = .sub fs ∧ okFs fs ts := by
  cases f with
  | sub fs => exact ⟨fs, rfl, h⟩
  | ptr o => cases o <;> simp [okF] at h
  | _ => simp [okF] at h

theorem okF_ptr {f : FV} {ts : List Ty} (h : okF f (.ptr ts)) : ∃ o, f = .ptr o ∧ ∀ fs, o = some fs → okFs fs ts := by
  cases f with
  | ptr o => cases o with
    | none => exact ⟨none, rfl, fun fs h => by cases h⟩
    | some fs => exact ⟨some fs, rfl, fun fs' h' => by cases h'; exact h⟩
  | _ => simp [okF] at h

mutual
theorem okF_wd : ∀ (f : FV) (t : Ty), okF f t → f.wd = t.wd
  | f, .num k, h => by obtain ⟨x, rfl, _⟩ := okF_num h; rfl
  | f, .bool, h => by obtain ⟨x, rfl⟩ := okF_bool h; rfl
  | f, .uuid, h => by obtain ⟨x, rfl, _⟩ := okF_uuid h; rfl
  | f, .text, h => by obtain ⟨x, rfl, _⟩ := okF_text h; rfl
  | f, .ntext, h => by obtain ⟨x, rfl, _⟩ := okF_ntext h; rfl
  | f, .octs, h => by obtain ⟨_, x, rfl, _⟩ := okF_octs h; rfl
  | f, .tags, h => by obtain ⟨x, rfl, _⟩ := okF_tags h; rfl
  | f, .list ts, h => by obtain ⟨_, x, rfl, _⟩ := okF_list h; rfl
  | f, .ptr ts, h => by obtain ⟨x, rfl, _⟩ := okF_ptr h; rfl
  | f, .sub ts, h => by
    obtain ⟨fs, rfl, hf⟩ := okF_sub h
    simp only [FV.wd, Ty.wd]
    exact okFs_wds fs ts hf
theorem okFs_wds : ∀ (fs : List FV) (ts : List Ty), okFs fs ts → wds fs = tyWds ts
  | [], ts, h => by simp only [okFs] at h; subst h; rfl
  | f :: fs, [], h => by simp only [okFs] at h
  | f :: fs, t :: ts, h => by
    simp only [okFs] at h
    simp only [wds, tyWds, okF_wd f t h.1, okFs_wds fs ts h.2]
end

theorem okFs_map : ∀ (fs : List FV) (ts : List Ty), okFs fs ts → fs.map FV.wd = ts.map Ty.wd
  | [], ts, h => by simp only [okFs] at h; subst h; rfl
  | f :: fs, [], h => by simp only [okFs] at h
  | f :: fs, t :: ts, h => by
    simp only [okFs] at h
    simp only [List.map_cons, okF_wd f t h.1, okFs_map fs ts h.2]

/-- The row j of a list. -/
theorem RowsAt.at {D : Nat} {w : World} {lo sz : Nat} : ∀ {rows : List (List FV)} {cs : List Value} {j : Nat}, RowsAt D w lo rows cs → (∀ r ∈ rows, wds r = sz) → (hj : j < rows.length) → ∃ a m z, cs = a ++ m ++ z ∧ a.length = j * sz ∧ FsAt D w lo rows[j] m
  | [], _, _, _, _, hj => by simp at hj
  | r :: rows, _, 0, ⟨c1, c2, e, h1, _⟩, _, _ => ⟨[], c1, c2, by simpa using e, by simp, h1⟩
  | r :: rows, _, j + 1, ⟨c1, c2, e, h1, h2⟩, hs, hj => by
    obtain ⟨a, m, z, e2, ha, hm⟩ := RowsAt.at (j := j) h2 (fun x hx => hs x (List.mem_cons_of_mem _ hx)) (by simpa using hj)
    refine ⟨c1 ++ a, m, z, by rw [e, e2]; simp, ?_, by simpa using hm⟩
    rw [List.length_append, ha, FsAt.len r c1 h1, hs r List.mem_cons_self, Nat.add_mul]
    omega

section

variable {P : Program} {c : Nums}

/-- A step of the telling, over values of these types. -/
def StepTell (P : Program) (c : Nums) (S : Nat) (ts : List Ty) (s : TStep) (q : Nat) (tf : List FV → PT) : Prop :=
  ∀ (R : Value → World → Prop) (w0 : World) (N D V lo : Nat) (pre post : List Value) (fs : List FV), okFs fs ts → TIn w0 D V lo pre post fs → q < N → V < w0.heap.size → SemT P c R w0 N S V pre s q (tf fs)

def FieldTy (P : Program) (S : Nat) (ts : List Ty) (i off : Nat) (t : Ty) : Prop := fieldOff P S i = some off ∧ ((ts.map Ty.wd).take i).sum = off ∧ ts[i]? = some t

theorem FieldTy.ok {S i off : Nat} {ts : List Ty} {t : Ty} (h : FieldTy P S ts i off t) : FieldOk P S (ts.map Ty.wd) i off := ⟨h.1, h.2.1⟩

def fvGet (fs : List FV) (i : Nat) : FV := fs.getD i (.text [])

theorem fvGet_eq {fs : List FV} {i : Nat} {f : FV} (h : fs[i]? = some f) : fvGet fs i = f := by
  unfold fvGet
  rw [List.getD_eq_getElem?_getD, h]; rfl

/-- Kinds that 64 bits hold. -/
def IntKind.fits (k : IntKind) : Prop := ∀ x, k.wrap x = x → IntKind.i64.wrap x = x

theorem told_text {S i q off : Nat} {ts : List Ty} (F : RdFacts P c) (Z : TyFacts P c c.tTree c.tTrees c.tTagL c.tTag) (K : TellFacts P c) (hstr : oneTy P c.tStr = true) (hF : FieldTy P S ts i off .text) : StepTell P c S ts (.text i q) q fun fs => tellPrim (fvGet fs i) := by
  intro R w0 N D V lo pre post fs hok hin hq _
  obtain ⟨f, hf, hft⟩ := okFs_get hok hF.2.2
  obtain ⟨l, rfl, hl⟩ := okF_text hft
  simp only [fvGet_eq hf]
  exact tell_text F hstr Z K.plan hin (okFs_map _ _ hok) hF.ok hq hf hl

/-- What a list is told as. -/
def tellList (g : List FV → PT) : FV → PT
  | .list nl rows => .mk 0 [] nl (rows.map g) []
  | _ => .zero

/-- What a part is told as. -/
def tellPart (g : List FV → PT) : FV → PT
  | .sub fs => g fs
  | _ => .zero

/-- Steps and what they tell. -/
def StepsTell (P : Program) (c : Nums) (S : Nat) (ts : List Ty) : List TStep → List (List FV → PT) → Nat → Prop
  | [], [], _ => True
  | s :: ss, t :: tl, q => StepTell P c S ts s q t ∧ StepsTell P c S ts ss tl (q + 1)
  | _, _, _ => False

theorem steps_told {S : Nat} {ts : List Ty} {R : Value → World → Prop} {w0 : World} {N D V lo : Nat} {pre post : List Value} {fs : List FV} (hok : okFs fs ts) (hin : TIn w0 D V lo pre post fs) (hV : V < w0.heap.size) :
    ∀ (ss : List TStep) (tfs : List (List FV → PT)) (q : Nat), StepsTell P c S ts ss tfs q → q + tfs.length ≤ N → StepsT P c R w0 N S V pre ss (tfs.map (· fs)) q
  | [], [], _, _, _ => trivial
  | [], _ :: _, _, h, _ => h.elim
  | _ :: _, [], _, h, _ => h.elim
  | s :: ss, t :: tl, q, ⟨h1, h2⟩, hq => by
    simp only [List.length_cons] at hq
    exact ⟨h1 R w0 N D V lo pre post fs hok hin (by omega) hV, steps_told hok hin hV ss tl (q + 1) h2 (by omega)⟩

/-- A struct without tags. -/
theorem told_of {f S N : Nat} {ts : List Ty} {ss : List TStep} {tfs : List (List FV → PT)} (F : RdFacts P c) (Z : TyFacts P c c.tTree c.tTrees c.tTagL c.tTag) (K : TellFacts P c) (hT : treeIn P f noOrc [.tmp 0] 1 = gTell c S N ss) (hN : tfs.length = N) (hsm : N ≤ 1024) (hs : StepsTell P c S ts ss tfs 0) :
    TellOf P f ts fun fs => .mk 0 [] false (tfs.map (· fs)) [] := by
  intro w D V lo pre post mid fs hok hh hf
  exact tell_gives F Z K hT (by simpa using hN) hsm fun R => steps_told hok ⟨mid, hh, hf⟩ hh.lt ss tfs 0 hs (by omega)

end

end Go.Kf




namespace Go.Kf

open Go Go.ChangeShapes Go.WideShapes Go.RowKit

theorem lit_u8 {n : Int} (h : (Lit.int .u8 n).wf = true) : ∃ m : Nat, n = m ∧ m < 256 := by
  simp only [Lit.wf, Bool.and_eq_true, decide_eq_true_eq] at h
  have e1 : IntKind.u8.min = 0 := rfl
  have e2 : IntKind.u8.max = 255 := rfl
  rw [e1, e2] at h
  exact ⟨n.toNat, by omega, by omega⟩

theorem keep_cell {w w' : World} (hk : Keeps [] w w') {a : Addr} {v : Value} (h : w.cell? a = some v) : w'.cell? a = some v := by
  unfold World.cell? at h ⊢
  cases hb : w.heap[a.block]? with
  | none => rw [hb] at h; cases h
  | some o => rw [hk.block _ (Array.getElem?_eq_some_iff.1 hb).1 (by simp)]; exact h

theorem cell_block {w : World} {a : Addr} {v : Value} (h : w.cell? a = some v) : a.block < w.heap.size := by
  unfold World.cell? at h
  cases hb : w.heap[a.block]? with
  | none => rw [hb] at h; cases h
  | some o => exact (Array.getElem?_eq_some_iff.1 hb).1

theorem keptBut_keeps {w w' : World} (hk : Keeps [] w w') (may : MemPlace → Prop) : w.keptBut w' may := by
  refine ⟨hk.os, hk.output, fun i hi => ?_⟩
  rw [hk.block i hi (by simp)]
  split <;> simp_all

/-- The listed error's variable. -/
theorem err_at {P : Program} {W : World} {name nm : String} {d : DataW Unit} {g t : Nat} (hg : P.globalNamed name = some g) (ht : (P.globals[g]?).map (·.type) = some t) (hu : ∃ ms, P.underlying t = some (.interface ms)) (hn : (DataW.iface nm d : DataW Unit).handleName?.isNone = true) (hL : laidMetH P [(name, .iface nm d)] W) :
    ∃ u v, ErrAt W g (.iface u v) := by
  have hL' : laidMet P [(name, .iface nm d)] W := by
    unfold laidMetH at hL
    have : ([(name, DataW.iface nm d)].filter fun x => x.2.handleName?.isSome) = [] := by
      simp only [List.filter_cons, List.filter_nil]
      rw [if_neg (by simpa using hn)]
    rw [this] at hL
    exact hL
  obtain ⟨ps, ⟨g', t', cs, fuel, p, q, hg', ht', hv, htr, _⟩, _⟩ := hL'
  obtain rfl : g = g' := by rw [hg] at hg'; simpa using hg'
  obtain rfl : t = t' := by rw [ht] at ht'; simpa using ht'
  obtain ⟨ms, hu⟩ := hu
  unfold World.var? at hv
  rw [hg] at hv
  simp only [Option.bind_some] at hv
  cases hb : W.heap[g]? with
  | none => rw [hb] at hv; cases hv
  | some o =>
    rw [hb] at hv
    obtain ⟨c, ty, fr, rfl⟩ : ∃ c ty fr, o = .cells c ty fr := by cases o <;> first | exact ⟨_, _, _, rfl⟩ | cases hv
    simp only [Option.some.injEq] at hv
    subst hv
    cases fuel with
    | zero => simp [DataW.trod] at htr
    | succ fuel =>
      unfold DataW.trod at htr
      rw [hu] at htr
      obtain ⟨u, v, hcs⟩ : ∃ u v, c.toList = [.iface u v] := by
        match hc : c.toList with
        | [.iface u v] => exact ⟨u, v, rfl⟩
        | [.nilIface] => rw [hc] at htr; simp at htr
        | [] => rw [hc] at htr; simp at htr
        | _ :: _ :: _ => rw [hc] at htr; simp at htr
        | [.bool _] => rw [hc] at htr; simp at htr
        | [.int _ _] => rw [hc] at htr; simp at htr
        | [.string _] => rw [hc] at htr; simp at htr
        | [.pointer _] => rw [hc] at htr; simp at htr
        | [.slice _ _ _] => rw [hc] at htr; simp at htr
        | [.map _] => rw [hc] at htr; simp at htr
        | [.agg _] => rw [hc] at htr; simp at htr
        | [x] => rw [hc] at htr; cases x <;> simp_all
      refine ⟨u, v, ?_, (Array.getElem?_eq_some_iff.1 hb).1⟩
      unfold World.cell?
      rw [show (⟨g, 0, none⟩ : Addr).block = g from rfl, hb]
      simp only [Option.isSome_none, Bool.false_eq_true, if_false]
      rw [← Array.getElem?_toList, hcs]
      rfl

end Go.Kf




namespace Go.Kf

open Go Go.Shelf Go.Proofs

variable {P : Program} {ρ : Ren}

theorem be_cell {w : World} {b o i : Nat} {cs : List Value} {l : List UInt8} (hh : Has w b cs) (hx : (cs.drop o).take (l.length * 1) = bcells l) (hi : i < l.length) : w.cell? ⟨b, o + i, none⟩ = some (.int .u8 l[i].toNat) := by
  refine hh.cell ?_
  have h1 : (bcells l)[i]? = some (.int .u8 l[i].toNat) := by simp [bcells, hi]
  rw [← hx, List.getElem?_take, if_pos (by omega), List.getElem?_drop] at h1
  exact h1

theorem be16 {f : Nat} (L : LaysBin.n36 P ρ) (hf : ρ.f 36 = f) (hg : goFn P f = true) : BeGives P f 2 .u16 := by
  subst hf
  intro w v l hl hr
  rcases hr.2 with ⟨_, h0⟩ | ⟨b, o, cap, cs, rfl, hc, hh, hlen, hx⟩
  · omega
  · refine ⟨hg, Calls.mono (Proofs.Any.binary_BE_Uint16 L b o l.length cap l[0] l[1] w hl (be_cell (i := 0) hh hx (by omega)) (be_cell (i := 1) hh hx (by omega))) fun e w' ⟨he, hb⟩ => ?_⟩
    subst he
    refine ⟨?_, .ofBelow hb⟩
    match l, hl with
    | b0 :: b1 :: r, _ => rfl

end Go.Kf


namespace Go.Kf

open Go

variable {P : Program} {c : Nums}

def chkZero (P : Program) (t s : Nat) : Bool := match zeroTy P t with
  | some (z, s') => Nat.beq s' s && Nat.beq z.cells.size s
  | none => false

theorem zero_of {t s : Nat} (h : chkZero P t s = true) : ∃ z, zeroTy P t = some (z, s) ∧ z.cells.size = s := by
  unfold chkZero at h
  split at h
  · rename_i z s' hz
    simp only [Bool.and_eq_true] at h
    obtain rfl := Nat.eq_of_beq_eq_true h.1
    exact ⟨z, hz, Nat.eq_of_beq_eq_true h.2⟩
  · cases h

def chkInfo (P : Program) (t s m : Nat) : Bool := match P.info? t with
  | some i => match i.zero with
    | some z => Nat.beq i.size s && Nat.beq z.cells.size s && Nat.ble i.bytes m
    | none => false
  | none => false

theorem info_of {t s m : Nat} (h : chkInfo P t s m = true) : ∃ inf z, P.info? t = some inf ∧ inf.zero = some z ∧ inf.size = s ∧ z.cells.size = s ∧ inf.bytes ≤ m := by
  unfold chkInfo at h
  split at h
  · rename_i i hi
    split at h
    · rename_i z hz
      simp only [Bool.and_eq_true] at h
      exact ⟨i, z, hi, hz, Nat.eq_of_beq_eq_true h.1.1, Nat.eq_of_beq_eq_true h.1.2, Nat.le_of_ble_eq_true h.2⟩
    · cases h
  · cases h

theorem StrFacts.of (h : chkZero P c.tStr 1 = true) (h1 : oneTy P c.tStr = true) : StrFacts P c := ⟨zero_of h, h1⟩

theorem RowFacts.of {T sz : Nat} (h : chkInfo P T sz 1024 = true) (ha : aggTy P T = some sz) (hp : 0 < sz ∧ sz ≤ 1024) : RowFacts P T sz := ⟨info_of h, ha, hp⟩

theorem OctFacts.of (h : chkInfo P c.tU8 1 8 = true) : OctFacts P c := ⟨info_of h⟩

theorem ListOk.of {tySl T sz : Nat} (h1 : P.underlying tySl = some (.slice T)) (h2 : oneTy P tySl = true) (h3 : chkInfo P T sz 65536 = true) (h4 : 0 < sz) : ListOk P c tySl T sz := by
  obtain ⟨i, z, hi, hz, hs, hc, hb⟩ := info_of h3
  exact ⟨h1, h2, i, z, hi, hz, hs, hc, h4, hb⟩

def chkPlan (P : Program) (t n : Nat) (fs : List (Nat × Nat)) : Bool := match buildPlan P t with
  | some (z, gs) => Nat.beq z.length n && decide (gs = fs)
  | none => false

theorem plan_of {t n : Nat} {fs : List (Nat × Nat)} (h : chkPlan P t n fs = true) : ∃ z, buildPlan P t = some (z, fs) ∧ z.length = n := by
  unfold chkPlan at h
  split at h
  · rename_i z gs hz
    simp only [Bool.and_eq_true, decide_eq_true_eq] at h
    obtain rfl := h.2
    exact ⟨z, hz, Nat.eq_of_beq_eq_true h.1⟩
  · cases h

theorem GotFacts.of (h1 : buildPlan P c.sTree = some (zeroTree, [(0, 1), (1, 1), (2, 1), (3, 1), (4, 1)])) (h2 : chkPlan P c.sTag 2 [(0, 1), (1, 1)] = true) (h3 : zeroTy P c.sTree = some (.agg ⟨zeroTree⟩, 5)) (h4 : chkZero P c.tTree 5 = true) (h5 : chkZero P c.tTag 2 = true)
    (h6 : RowFacts P c.sTree 5) (h7 : RowFacts P c.sTag 2) : GotFacts P c := ⟨h1, plan_of h2, h3, zero_of h4, zero_of h5, h6, h7⟩

theorem RfFacts.of {S : Nat} (h1 : buildPlan P c.tRd = some ([.slice none 0 0, .bool false], [(0, 1), (1, 1)])) (h2 : zeroTy P c.tRd = some (.agg #[.slice none 0 0, .bool false], 2)) (h3 : (P.info? c.tRd).map (·.size) = some 2) (h4 : fieldOff P S 0 = some 0) (h5 : oneTy P c.tI16 = true) : RfFacts P c S :=
  ⟨⟨false, h1, rfl⟩, h2, h3, h4, h5⟩

def isIface : Option TypeDesc → Bool
  | some (.interface _) => true
  | _ => false

theorem iface_of {t : Nat} (h : isIface (P.underlying t) = true) : ∃ ms, P.underlying t = some (.interface ms) := by
  unfold isIface at h
  split at h
  · rename_i ms hm; exact ⟨ms, hm⟩
  · cases h

end Go.Kf

namespace Go.Kf

open Go

mutual
def eraseS : Step → Step
  | .call pk _ i _ _ => .call pk 0 i 0 0
  | .uuid _ i _ => .uuid 0 i 0
  | .listP lk _ i _ _ pk _ _ => .listP lk 0 i 0 0 pk 0 0
  | .listS lk _ i _ _ _ _ _ dflt ss => .listS lk 0 i 0 0 0 0 0 dflt (eraseSs ss)
  | .sub i _ _ _ ds _ ss => .sub i 0 0 0 ds [] (eraseSs ss)
  | .strP pk _ i _ _ => .strP pk 0 i 0 0
  | .ghost => .ghost
def eraseSs : List Step → List Step
  | [] => []
  | s :: ss => eraseS s :: eraseSs ss
end

mutual
theorem runStep_erase : ∀ (s : Step) (fs : List FV) (r : Rd), runStep (eraseS s) fs r = runStep s fs r
  | .call .., _, _ => rfl
  | .uuid .., _, _ => rfl
  | .listP .., _, _ => rfl
  | .listS lk f i a b c d e dflt ss, fs, r => by
    have h : (fun r => runSteps (eraseSs ss) dflt r) = fun r => runSteps ss dflt r := funext fun r => runSteps_erase ss dflt r
    simp only [eraseS, runStep, h]
  | .sub i a b c ds l ss, fs, r => by
    simp only [eraseS, runStep, runSteps_erase ss]
  | .strP .., _, _ => rfl
  | .ghost, _, _ => rfl
theorem runSteps_erase : ∀ (ss : List Step) (fs : List FV) (r : Rd), runSteps (eraseSs ss) fs r = runSteps ss fs r
  | [], _, _ => rfl
  | s :: ss, fs, r => by
    simp only [eraseSs, runSteps, runStep_erase s]
    cases runStep s fs r with
    | none => rfl
    | some x => exact runSteps_erase ss x.1 x.2
end

end Go.Kf


namespace Go.Kf

open Go

section

variable {P : Program} {ρ : Nat → Value} {w : World}

/-- A key's entry. -/
def keyIs (n : Int) (e : MapEntry) : Bool := match e.key with
  | .int _ m => n == m
  | _ => false

/-- An update, of the entries. -/
def esSet : List MapEntry → Int → Value → Nat → List MapEntry
  | [], n, v, clock => [{ key := .int .u32 n, val := v, born := clock }]
  | e :: es, n, v, clock => if keyIs n e then { e with key := .int .u32 n, val := v } :: es else e :: esSet es n v clock

end

end Go.Kf

namespace Go.Kf

open Go

theorem EntsAt.any {D : Nat} {w w' : World} {M : List Nat} {es : List MapEntry} {m : TM} (h : ∀ L, EntsAt D w L es m) (hk : Keeps M w w') (hD : D ∉ M) : ∀ L, EntsAt D w' L es m := by
  intro L
  have hb : ∃ B, ∀ b ∈ M, b < B := by
    clear hD hk
    induction M with
    | nil => exact ⟨0, fun b hb => by cases hb⟩
    | cons x M ih =>
      obtain ⟨B, hB⟩ := ih
      exact ⟨B + x + 1, fun b hb => by
        rcases List.mem_cons.1 hb with h | h
        · omega
        · have := hB b h; omega⟩
  obtain ⟨B, hB⟩ := hb
  exact EntsAt.imp (fun e p ⟨he, nl, ho⟩ => ⟨he, nl, (ho.keep hk (fun b hb => ⟨fun e => hD (by rw [← e]; exact hb), by have := hB b hb; omega⟩)).mono (Nat.le_add_right L B)⟩) (h (L + B))

theorem EntAt.is {D L : Nat} {w : World} {e : MapEntry} {p : Nat × List UInt8} (h : EntAt D w L e p) (k : Nat) : keyIs k e = decide (p.1 = k) := by
  simp only [keyIs, h.1]
  by_cases hk : p.1 = k
  · simp [hk]
  · have : ((k : Int) == (p.1 : Int)) = false := by simp; omega
    simp [hk, this]

theorem EntsAt.set {D L k clock : Nat} {w : World} {l : List UInt8} {v : Value} (hv : ∃ nl, OctAt w D L nl l v) : ∀ {es : List MapEntry} {m : TM}, EntsAt D w L es m → EntsAt D w L (esSet es k v clock) (tmSet m k l)
  | [], [], _ => ⟨⟨rfl, hv⟩, trivial⟩
  | e :: es, p :: m, ⟨h1, h2⟩ => by
    simp only [esSet, tmSet, h1.is k, decide_eq_true_eq]
    split
    · exact ⟨⟨rfl, hv⟩, h2⟩
    · exact ⟨h1, EntsAt.set hv h2⟩
  | [], _ :: _, h => h.elim
  | _ :: _, [], h => h.elim

section

variable {P : Program} {c : Nums}

theorem OctAt.any {D : Nat} {w w' : World} {M : List Nat} {nl : Bool} {l : List UInt8} {v : Value} (h : ∀ L, OctAt w D L nl l v) (hk : Keeps M w w') (hD : D ∉ M) : ∀ L, OctAt w' D L nl l v := by
  intro L
  have h1 := h L
  refine ⟨h1.1.keep hk (fun b hb hbM => ?_), h1.2.1, h1.2.2⟩
  rcases (h (b + 1)).2.2 b hb with e | e
  · exact hD (e ▸ hbM)
  · omega

end

end Go.Kf


namespace Go.Kf

open Go

def EntR (w : World) (e : MapEntry) (p : Nat × List UInt8) : Prop := e.key = .int .u32 p.1 ∧ Ro w e.val 1 p.2.length (bcells p.2)

def EntsR (w : World) : List MapEntry → TM → Prop
  | [], [] => True
  | e :: es, p :: m => EntR w e p ∧ EntsR w es m
  | _, _ => False

def TagsR (w : World) (m : TM) (v : Value) : Prop :=
  (v = .map none ∧ m = []) ∨ ∃ b es clock, v = .map (some b) ∧ w.heap[b]? = some (.map es clock) ∧ EntsR w es.toList m ∧ es.toList.Pairwise (fun a b => a.born < b.born) ∧ (∀ e ∈ es.toList, e.born < clock) ∧
    (∀ p ∈ m, p.1 < 2 ^ 32) ∧ (m.map (·.1)).Nodup ∧ m ≠ []

theorem EntsAt.r {D lo : Nat} {w : World} : ∀ {es : List MapEntry} {m : TM}, EntsAt D w lo es m → EntsR w es m
  | [], [], _ => trivial
  | _ :: _, _ :: _, hh => ⟨⟨hh.1.1, by obtain ⟨nl, h⟩ := hh.1.2; exact Ro.of_reads h.1⟩, EntsAt.r hh.2⟩
  | [], _ :: _, hh => hh.elim
  | _ :: _, [], hh => hh.elim

theorem TagsAt.r {D lo : Nat} {w : World} {m : TM} {v : Value} (h : TagsAt D w lo m v) : TagsR w m v := by
  rcases h with h | ⟨b, es, clock, hb, hv, hh, he, hr⟩
  · exact .inl h
  · exact .inr ⟨b, es, clock, hv, hh, he.r, hr⟩

theorem EntsR.len {w : World} : ∀ {es : List MapEntry} {m : TM}, EntsR w es m → es.length = m.length
  | [], [], _ => rfl
  | _ :: _, _ :: _, ⟨_, h⟩ => by simp [EntsR.len h]
  | [], _ :: _, h => h.elim
  | _ :: _, [], h => h.elim

theorem EntsR.get {w : World} : ∀ {es : List MapEntry} {m : TM} {i : Nat} {p : Nat × List UInt8}, EntsR w es m → m[i]? = some p → ∃ e, es[i]? = some e ∧ EntR w e p
  | e :: es, q :: m, 0, p, ⟨h, _⟩, hi => by
    simp only [List.getElem?_cons_zero, Option.some.injEq] at hi
    subst hi
    exact ⟨e, rfl, h⟩
  | e :: es, q :: m, i + 1, p, ⟨_, h⟩, hi => by
    simp only [List.getElem?_cons_succ] at hi ⊢
    exact EntsR.get h hi
  | [], [], _, _, _, hi => by simp at hi
  | [], _ :: _, _, _, h, _ => h.elim
  | _ :: _, [], _, _, h, _ => h.elim

theorem EntR.is {w : World} {e : MapEntry} {p : Nat × List UInt8} (h : EntR w e p) (k : Nat) : keyIs k e = decide (p.1 = k) := by
  simp only [keyIs, h.1]
  by_cases hk : p.1 = k
  · simp [hk]
  · have : ((k : Int) == (p.1 : Int)) = false := by simp; omega
    simp [hk, this]

/-- Kept, whatever changes elsewhere. -/
theorem TagsR.keep {w w' : World} {m : TM} {v : Value} (h : TagsR w m v) (hk : Keeps [] w w') : TagsR w' m v := by
  rcases h with h | ⟨b, es, clock, hv, hh, he, hr⟩
  · exact .inl h
  · refine .inr ⟨b, es, clock, hv, ?_, ?_, hr⟩
    · rw [hk.block b (Array.getElem?_eq_some_iff.1 hh).1 (by simp)]; exact hh
    · exact imp he
  where imp : ∀ {es : List MapEntry} {m : TM}, EntsR w es m → EntsR w' es m
  | [], [], _ => trivial
  | _ :: _, _ :: _, hh => ⟨⟨hh.1.1, hh.1.2.keep hk⟩, imp hh.2⟩
  | [], _ :: _, hh => hh.elim
  | _ :: _, [], hh => hh.elim

end Go.Kf

namespace Go.Kf

open Go

def tmGet (m : TM) (k : Nat) : List UInt8 := match m.find? (fun p => Nat.beq p.1 k) with
  | some p => p.2
  | none => []

def leInt (a b : Int) : Bool := decide (a ≤ b)

/-- Tags by rising numbers. -/
def sortTM (m : TM) : TM := ((m.map fun p => (p.1 : Int)).mergeSort leInt).map fun k => (k.toNat, tmGet m k.toNat)

section

variable {P : Program} {c : Nums}

end

end Go.Kf

namespace Go.Kf

open Go

theorem TagRows.key {w : World} {A : Nat → Prop} : ∀ {u : TM} {cs : List Value} {i : Nat} {p : Nat × List UInt8}, TagRows w A u cs → u[i]? = some p → cs[i * 2]? = some (.int .u32 p.1)
  | [], _, _, _, _, hi => by simp at hi
  | q :: u, _, 0, p, ⟨v, r, e, _, _⟩, hi => by
    simp only [List.getElem?_cons_zero, Option.some.injEq] at hi
    subst hi
    rw [e]; rfl
  | q :: u, _, i + 1, p, ⟨v, r, e, _, h⟩, hi => by
    simp only [List.getElem?_cons_succ] at hi
    rw [e, show (i + 1) * 2 = i * 2 + 1 + 1 by omega]
    simp only [List.getElem?_cons_succ]
    exact TagRows.key h hi

end Go.Kf

namespace Go.Kf

open Go

section

variable {P : Program} {c : Nums}

def tellTags : FV → TM
  | .tags m => sortTM m
  | _ => []

end

end Go.Kf

namespace Go.Kf

open Go

/-- The field of a list's things. -/
def PF.one (f : PF) : PF := .mk f.elem f.fr f.to (-1) (-1) f.dflt f.elem f.sub

section

variable {P : Program} {c : Nums} {s : SN} {R : Value → World → Prop} {Γ : List (List Value → World → Prop)} {n : Nat} {ρ : Nat → Value} {w : World} {k : Tr}

end

end Go.Kf

namespace Go.Kf

open Go

section

variable {P : Program} {c : Nums} {s : SN} {R : Value → World → Prop} {Γ : List (List Value → World → Prop)} {n : Nat} {ρ : Nat → Value} {w : World} {k : Tr}

theorem take0 {cs : List Value} {n : Nat} (h : cs.length = n) : (cs.drop 0).take n = cs := by rw [List.drop_zero, List.take_of_length_le (by omega)]

end

end Go.Kf

namespace Go.Kf

open Go

theorem beFrom_eq : ∀ (l : List UInt8) (a : Nat), Lib.beFrom a l = a * 256 ^ l.length + Lib.beNat l
  | [], a => by simp [Lib.beNat, Lib.beFrom]
  | b :: l, a => by
    have e1 : Lib.beFrom a (b :: l) = Lib.beFrom (a * 256 + b.toNat) l := rfl
    have e2 : Lib.beNat (b :: l) = Lib.beFrom (0 * 256 + b.toNat) l := rfl
    rw [e1, e2, beFrom_eq l, beFrom_eq l (0 * 256 + b.toNat), List.length_cons, Nat.pow_succ]
    simp only [Nat.zero_mul, Nat.zero_add, Nat.add_mul, Nat.add_assoc]
    congr 1
    rw [Nat.mul_assoc, Nat.mul_comm 256]

theorem emod_split (n d : Int) (hd : 0 < d) : n % (d * 256) = (n / d % 256) * d + n % d := by
  have h1 := Int.emod_add_mul_ediv n d
  have h2 := Int.emod_add_mul_ediv (n / d) 256
  have h3 := Int.emod_nonneg n (show d ≠ 0 by omega)
  have h4 := Int.emod_lt_of_pos n hd
  have h5 := Int.emod_nonneg (n / d) (show (256 : Int) ≠ 0 by omega)
  have h6 := Int.emod_lt_of_pos (n / d) (show (0 : Int) < 256 by omega)
  have h7 : n = (n / d % 256) * d + n % d + d * 256 * (n / d / 256) := by
    calc n = n % d + d * (n / d) := h1.symm
      _ = n % d + d * (n / d % 256 + 256 * (n / d / 256)) := by rw [h2]
      _ = (n / d % 256) * d + n % d + d * 256 * (n / d / 256) := by rw [Int.mul_add, Int.mul_comm d (n / d % 256), ← Int.mul_assoc]; omega
  have h8 : (n / d % 256) * d ≤ 255 * d := Int.mul_le_mul_of_nonneg_right (by omega) (by omega)
  have h9 : 0 ≤ (n / d % 256) * d := Int.mul_nonneg h5 (by omega)
  conv => lhs; rw [h7]
  rw [Int.add_mul_emod_self_left, Int.emod_eq_of_lt (by omega) (by omega)]

theorem octOf_toNat (n : Int) (k : Nat) : ((octOf n k).toNat : Int) = n / 2 ^ (8 * k) % 256 := by
  unfold octOf
  have h5 := Int.emod_nonneg (n / 2 ^ (8 * k)) (show (256 : Int) ≠ 0 by omega)
  have h6 := Int.emod_lt_of_pos (n / 2 ^ (8 * k)) (show (0 : Int) < 256 by omega)
  rw [UInt8.toNat_ofNat']
  omega

theorem beNat_fixed (n : Int) : ∀ k : Nat, ((Lib.beNat (pFixed n k) : Nat) : Int) = n % 2 ^ (8 * k)
  | 0 => by simp [pFixed, Lib.beNat, Lib.beFrom, Int.emod_one]
  | k + 1 => by
    have hp : (0 : Int) < 2 ^ (8 * k) := Int.pow_pos (by omega)
    have e1 : (2 : Int) ^ (8 * (k + 1)) = 2 ^ (8 * k) * 256 := by rw [Nat.mul_add, Int.pow_add]; rfl
    have e2 : ((256 ^ k : Nat) : Int) = 2 ^ (8 * k) := by
      rw [Int.pow_mul]
      simp
    rw [pFixed, Lib.beNat, Lib.beFrom, beFrom_eq, pFixed_length, e1, emod_split n _ hp, ← octOf_toNat, ← beNat_fixed n k, ← e2]
    simp

theorem rFix_fixed (n : Int) (N : Nat) (rest : List UInt8) (nl : Bool) : rFix N ⟨pFixed n N ++ rest, false, nl⟩ = ((n % 2 ^ (8 * N)).toNat, ⟨rest, false, nl⟩) := by
  have hl := pFixed_length n N
  unfold rFix
  rw [if_neg (by simp only [List.length_append]; omega)]
  simp only [List.take_left' hl, List.drop_left' hl, ← beNat_fixed n N, Int.toNat_natCast]

theorem pUvN_pos (k n : Nat) : 1 ≤ (pUvN k n).length := by
  cases k with
  | zero => simp [pUvN]
  | succ k => rw [pUvN]; split <;> simp

theorem uvarAt_pUvN : ∀ (k i x n : Nat) (rest : List UInt8), i ≤ 4 → 4 ≤ k + i → n < 2 ^ (32 - 7 * i) → uvarAt i x (pUvN k n ++ rest) = (x + n * 2 ^ (7 * i), ((i + (pUvN k n).length : Nat) : Int)) := by
  intro k
  induction k with
  | zero =>
    intro i x n rest hi hk hn
    obtain rfl : i = 4 := by omega
    have hn : n < 16 := hn
    have e : (UInt8.ofNat n).toNat = n := by rw [UInt8.toNat_ofNat']; omega
    simp only [pUvN, List.singleton_append, uvarAt, if_true, e, if_pos (show n ≤ 15 by omega), List.length_singleton]
    rfl
  | succ k ih =>
    intro i x n rest hi hk hn
    by_cases h4 : i = 4
    · subst h4
      have hn : n < 16 := hn
      have e : (UInt8.ofNat n).toNat = n := by rw [UInt8.toNat_ofNat']; omega
      simp only [pUvN, if_neg (show ¬ 127 < n by omega), List.singleton_append, uvarAt, if_true, e, if_pos (show n ≤ 15 by omega), List.length_singleton]
      rfl
    · by_cases h : 127 < n
      · have e : (UInt8.ofNat (n % 128 + 128)).toNat = n % 128 + 128 := by rw [UInt8.toNat_ofNat']; omega
        have hp : (2 : Nat) ^ (32 - 7 * i) = 2 ^ (32 - 7 * (i + 1)) * 128 := by
          rw [show 32 - 7 * i = 32 - 7 * (i + 1) + 7 by omega, Nat.pow_add]
        have hp2 : (2 : Nat) ^ (7 * (i + 1)) = 128 * 2 ^ (7 * i) := by
          rw [show 7 * (i + 1) = 7 + 7 * i by omega, Nat.pow_add]
        have hdiv : n / 128 < 2 ^ (32 - 7 * (i + 1)) := by
          rw [hp] at hn
          exact Nat.div_lt_of_lt_mul (by rw [Nat.mul_comm]; exact hn)
        simp only [pUvN, if_pos h, List.cons_append, uvarAt, if_neg h4, e, if_neg (show ¬ n % 128 + 128 < 128 by omega)]
        have hm : (n % 128 + 128) % 128 = n % 128 := by omega
        rw [hm, ih (i + 1) _ _ rest (by omega) (by omega) hdiv, hp2, List.length_cons]
        have hs : n % 128 * 2 ^ (7 * i) + n / 128 * (128 * 2 ^ (7 * i)) = n * 2 ^ (7 * i) := by
          rw [← Nat.mul_assoc, ← Nat.add_mul]
          congr 1
          omega
        rw [Nat.add_assoc, hs]
        congr 2
        omega
      · have e : (UInt8.ofNat n).toNat = n := by rw [UInt8.toNat_ofNat']; omega
        simp only [pUvN, if_neg h, List.singleton_append, uvarAt, if_neg h4, e, if_pos (show n < 128 by omega), List.length_singleton]

theorem rUv_pUv (n : Nat) (h : n < 4294967296) (rest : List UInt8) (nl : Bool) : rUv ⟨pUv n ++ rest, false, nl⟩ = (n, ⟨rest, false, nl⟩) := by
  have h1 : uvar (pUv n ++ rest) = (n, (((pUv n).length : Nat) : Int)) := by
    unfold uvar pUv
    rw [uvarAt_pUvN 10 0 0 n rest (by omega) (by omega) h]
    simp
  have h2 : 1 ≤ (pUv n).length := pUvN_pos 10 n
  unfold rUv
  simp only [h1]
  rw [if_neg (by omega), Int.toNat_natCast, List.drop_left' rfl]

theorem rSpan_left (s rest : List UInt8) (nl : Bool) (m : Int) (hm : m = s.length) : rSpan m ⟨s ++ rest, false, nl⟩ = ((s, nl), ⟨rest, false, nl⟩) := by
  unfold rSpan
  subst hm
  rw [if_neg (by simp only [List.length_append]; omega), Int.toNat_natCast, List.take_left' rfl, List.drop_left' rfl]

theorem pWhole_length (l : List UInt8) : (pWhole l).length ≤ 32767 := by unfold pWhole; rw [List.length_take]; omega

theorem wrap_i8_mod (n : Int) : IntKind.i8.wrap ((n % 2 ^ (8 * 1)).toNat : Int) = IntKind.i8.wrap n := by
  simp only [IntKind.wrap, IntKind.bits, IntKind.signed]; simp; omega

theorem wrap_i16_mod (n : Int) : IntKind.i16.wrap ((n % 2 ^ (8 * 2)).toNat : Int) = IntKind.i16.wrap n := by
  simp only [IntKind.wrap, IntKind.bits, IntKind.signed]; simp; omega

theorem wrap_i32_mod (n : Int) : IntKind.i32.wrap ((n % 2 ^ (8 * 4)).toNat : Int) = IntKind.i32.wrap n := by
  simp only [IntKind.wrap, IntKind.bits, IntKind.signed]; simp; omega

theorem wrap_i64_mod (n : Int) : IntKind.i64.wrap ((n % 2 ^ (8 * 8)).toNat : Int) = IntKind.i64.wrap n := by
  simp only [IntKind.wrap, IntKind.bits, IntKind.signed]; simp; omega

theorem wrap_u16_mod (n : Int) : IntKind.u16.wrap ((n % 2 ^ (8 * 2)).toNat : Int) = IntKind.u16.wrap n := by
  simp only [IntKind.wrap, IntKind.bits, IntKind.signed]; simp; omega

theorem wrap_i16_small (n : Nat) (h : n ≤ 32767) : IntKind.i16.wrap (n : Int) = n := by
  simp only [IntKind.wrap, IntKind.bits, IntKind.signed]; simp; omega

theorem wrap_i32_small (n : Nat) (h : n ≤ 32767) : IntKind.i32.wrap (n : Int) = n := by
  simp only [IntKind.wrap, IntKind.bits, IntKind.signed]; simp; omega

/-- Does a function of the reader read what is written of such a kind? -/
def pkFor (kind : Int) (may fl : Bool) : PK → Bool
  | .num N k => !may && ((decide (kind = 1) && decide (N = 1) && decide (k = .i8)) || (decide (kind = 2) && decide (N = 2) && decide (k = .i16)) || (decide (kind = 3) && decide (N = 4) && decide (k = .i32)) || (decide (kind = 4) && decide (N = 8) && decide (k = .i64)) || (decide (kind = 5) && decide (N = 2) && decide (k = .u16)))
  | .bool => !may && decide (kind = 0)
  | .str => decide (kind = 8) && !may && !fl
  | .cstr => decide (kind = 8) && !may && fl
  | .nstr => decide (kind = 8) && may && !fl
  | .cnstr => decide (kind = 8) && may && fl
  | .bytes => decide (kind = 9) && !may && !fl
  | .cbytes => decide (kind = 9) && !may && fl
  | .nbytes => decide (kind = 9) && !fl
  | .cnbytes => decide (kind = 9) && fl
  | .uuid => !may && decide (kind = 7)
  | .tags => false

/-- What is read then. -/
def valOf (null : Bool) (t : PT) : PK → FV
  | .num _ k => .one (.int k (k.wrap t.n))
  | .bool => .one (.bool (t.n % 2 != 0))
  | .str => .text (pWhole t.s)
  | .cstr => .text (pWhole t.s)
  | .nstr => .ntext (if null then none else some (pWhole t.s))
  | .cnstr => .ntext (if null then none else some (pWhole t.s))
  | .bytes => .octs false (pWhole t.s)
  | .cbytes => .octs false (pWhole t.s)
  | .nbytes => .octs null (if null then [] else pWhole t.s)
  | .cnbytes => .octs null (if null then [] else pWhole t.s)
  | .uuid => .uuid (pId t.s)
  | .tags => .tags []

theorem pId_length (s : List UInt8) : (pId s).length = 16 := by unfold pId; rw [List.length_take, List.length_append, List.length_replicate]; omega

theorem PK.reads {kind : Int} {may fl : Bool} {pk : PK} (h : pkFor kind may fl pk = true) (t : PT) {null : Bool} (hn : null = true → may = true) (pp : PT → List UInt8) (rest : List UInt8) :
    pk.run ⟨pValue pp kind null fl t ++ rest, false, false⟩ = (valOf null t pk, ⟨rest, false, false⟩) := by
  have hwl := pWhole_length t.s
  cases pk with
  | num N k =>
    simp only [pkFor, Bool.and_eq_true, Bool.or_eq_true, decide_eq_true_eq] at h
    rcases h.2 with (((⟨⟨rfl, rfl⟩, rfl⟩ | ⟨⟨rfl, rfl⟩, rfl⟩) | ⟨⟨rfl, rfl⟩, rfl⟩) | ⟨⟨rfl, rfl⟩, rfl⟩) | ⟨⟨rfl, rfl⟩, rfl⟩
    · have e : pValue pp 1 null fl t = pFixed t.n 1 := rfl
      simp only [PK.run, e, rFix_fixed, wrap_i8_mod, valOf]
    · have e : pValue pp 2 null fl t = pFixed t.n 2 := rfl
      simp only [PK.run, e, rFix_fixed, wrap_i16_mod, valOf]
    · have e : pValue pp 3 null fl t = pFixed t.n 4 := rfl
      simp only [PK.run, e, rFix_fixed, wrap_i32_mod, valOf]
    · have e : pValue pp 4 null fl t = pFixed t.n 8 := rfl
      simp only [PK.run, e, rFix_fixed, wrap_i64_mod, valOf]
    · have e : pValue pp 5 null fl t = pFixed t.n 2 := rfl
      simp only [PK.run, e, rFix_fixed, wrap_u16_mod, valOf]
  | bool =>
    simp only [pkFor, Bool.and_eq_true, decide_eq_true_eq] at h
    obtain ⟨_, rfl⟩ := h
    have e : pValue pp 0 null fl t = [UInt8.ofNat (t.n % 2).toNat] := rfl
    have e2 : (UInt8.ofNat (t.n % 2).toNat).toNat = (t.n % 2).toNat := by rw [UInt8.toNat_ofNat']; omega
    simp only [PK.run, rBool, e, rFix, List.singleton_append, List.length_cons, if_neg (show ¬ rest.length + 1 < 1 by omega), List.take_succ_cons, List.take_zero, Lib.beNat, Lib.beFrom, e2, List.drop_succ_cons, List.drop_zero, valOf]
    congr 3
    have : t.n % 2 = 0 ∨ t.n % 2 = 1 := by omega
    rcases this with h | h <;> simp [h]
  | str =>
    simp only [pkFor, Bool.and_eq_true, decide_eq_true_eq, Bool.not_eq_true'] at h
    obtain ⟨⟨rfl, rfl⟩, rfl⟩ := h
    have hnf : null = false := by cases null <;> simp_all
    subst hnf
    have e : pValue pp 8 false false t = pFixed (pWhole t.s).length 2 ++ pWhole t.s := rfl
    have e2 : rStr ⟨pFixed (pWhole t.s).length 2 ++ pWhole t.s ++ rest, false, false⟩ = (pWhole t.s, ⟨rest, false, false⟩) := by
      unfold rStr
      rw [List.append_assoc, rFix_fixed]
      simp only [wrap_i16_mod, wrap_i16_small _ hwl, rSpan_left _ _ _ _ rfl]
    simp only [PK.run, e, e2, valOf]
  | cstr =>
    simp only [pkFor, Bool.and_eq_true, decide_eq_true_eq, Bool.not_eq_true'] at h
    obtain ⟨⟨rfl, rfl⟩, rfl⟩ := h
    have hnf : null = false := by cases null <;> simp_all
    subst hnf
    have e : pValue pp 8 false true t = pUv ((pWhole t.s).length + 1) ++ pWhole t.s := rfl
    have e2 : rCStr ⟨pUv ((pWhole t.s).length + 1) ++ pWhole t.s ++ rest, false, false⟩ = (pWhole t.s, ⟨rest, false, false⟩) := by
      unfold rCStr
      rw [List.append_assoc, rUv_pUv _ (by omega)]
      simp only [rSpan_left (pWhole t.s) rest false _ (show (((pWhole t.s).length + 1 : Nat) : Int) - 1 = (pWhole t.s).length by omega)]
    simp only [PK.run, e, e2, valOf]
  | nstr =>
    simp only [pkFor, Bool.and_eq_true, decide_eq_true_eq, Bool.not_eq_true'] at h
    obtain ⟨⟨rfl, rfl⟩, rfl⟩ := h
    cases null with
    | false =>
      have e : pValue pp 8 false false t = pFixed (pWhole t.s).length 2 ++ pWhole t.s := rfl
      have e2 : rNStr ⟨pFixed (pWhole t.s).length 2 ++ pWhole t.s ++ rest, false, false⟩ = (some (pWhole t.s), ⟨rest, false, false⟩) := by
        unfold rNStr
        rw [List.append_assoc, rFix_fixed]
        simp only [wrap_i16_mod, wrap_i16_small _ hwl, rSpan_left _ _ _ _ rfl]
        rw [if_neg (by omega)]
      simp only [PK.run, e, e2, valOf, Bool.false_eq_true, if_false]
    | true =>
      have e : pValue pp 8 true false t = pFixed (-1) 2 := rfl
      have e2 : rNStr ⟨pFixed (-1) 2 ++ rest, false, false⟩ = (none, ⟨rest, false, false⟩) := by
        unfold rNStr
        rw [rFix_fixed]
        simp only [wrap_i16_mod]
        rw [if_pos (by decide)]
      simp only [PK.run, e, e2, valOf, if_true]
  | cnstr =>
    simp only [pkFor, Bool.and_eq_true, decide_eq_true_eq] at h
    obtain ⟨⟨rfl, rfl⟩, rfl⟩ := h
    cases null with
    | false =>
      have e : pValue pp 8 false true t = pUv ((pWhole t.s).length + 1) ++ pWhole t.s := rfl
      have e2 : rCNStr ⟨pUv ((pWhole t.s).length + 1) ++ pWhole t.s ++ rest, false, false⟩ = (some (pWhole t.s), ⟨rest, false, false⟩) := by
        unfold rCNStr
        rw [List.append_assoc, rUv_pUv _ (by omega)]
        simp only [rSpan_left (pWhole t.s) rest false _ (show (((pWhole t.s).length + 1 : Nat) : Int) - 1 = (pWhole t.s).length by omega)]
        rw [if_neg (by omega)]
      simp only [PK.run, e, e2, valOf, Bool.false_eq_true, if_false]
    | true =>
      have e : pValue pp 8 true true t = pUv 0 := rfl
      have e2 : rCNStr ⟨pUv 0 ++ rest, false, false⟩ = (none, ⟨rest, false, false⟩) := by
        unfold rCNStr
        rw [rUv_pUv _ (by omega)]
        simp only
        rw [if_pos (by decide)]
      simp only [PK.run, e, e2, valOf, if_true]
  | bytes =>
    simp only [pkFor, Bool.and_eq_true, decide_eq_true_eq, Bool.not_eq_true'] at h
    obtain ⟨⟨rfl, rfl⟩, rfl⟩ := h
    have hnf : null = false := by cases null <;> simp_all
    subst hnf
    have e : pValue pp 9 false false t = pFixed (pWhole t.s).length 4 ++ pWhole t.s := rfl
    have e2 : rBytes ⟨pFixed (pWhole t.s).length 4 ++ pWhole t.s ++ rest, false, false⟩ = ((pWhole t.s, false), ⟨rest, false, false⟩) := by
      unfold rBytes
      rw [List.append_assoc, rFix_fixed]
      simp only [wrap_i32_mod, wrap_i32_small _ hwl, rSpan_left _ _ _ _ rfl]
      rw [if_neg (by omega)]
    simp only [PK.run, e, e2, valOf]
  | cbytes =>
    simp only [pkFor, Bool.and_eq_true, decide_eq_true_eq, Bool.not_eq_true'] at h
    obtain ⟨⟨rfl, rfl⟩, rfl⟩ := h
    have hnf : null = false := by cases null <;> simp_all
    subst hnf
    have e : pValue pp 9 false true t = pUv ((pWhole t.s).length + 1) ++ pWhole t.s := rfl
    have e2 : rCBytes ⟨pUv ((pWhole t.s).length + 1) ++ pWhole t.s ++ rest, false, false⟩ = ((pWhole t.s, false), ⟨rest, false, false⟩) := by
      unfold rCBytes
      rw [List.append_assoc, rUv_pUv _ (by omega)]
      simp only [rSpan_left (pWhole t.s) rest false _ (show (((pWhole t.s).length + 1 : Nat) : Int) - 1 = (pWhole t.s).length by omega)]
      rw [if_neg (by omega)]
    simp only [PK.run, e, e2, valOf]
  | nbytes =>
    simp only [pkFor, Bool.and_eq_true, decide_eq_true_eq, Bool.not_eq_true'] at h
    obtain ⟨rfl, rfl⟩ := h
    cases null with
    | false =>
      have e : pValue pp 9 false false t = pFixed (pWhole t.s).length 4 ++ pWhole t.s := rfl
      have e2 : rNBytes ⟨pFixed (pWhole t.s).length 4 ++ pWhole t.s ++ rest, false, false⟩ = ((pWhole t.s, false), ⟨rest, false, false⟩) := by
        unfold rNBytes
        rw [List.append_assoc, rFix_fixed]
        simp only [wrap_i32_mod, wrap_i32_small _ hwl, rSpan_left _ _ _ _ rfl]
        rw [if_neg (by omega)]
      simp only [PK.run, e, e2, valOf, Bool.false_eq_true, if_false]
    | true =>
      have e : pValue pp 9 true false t = pFixed (-1) 4 := rfl
      have e2 : rNBytes ⟨pFixed (-1) 4 ++ rest, false, false⟩ = (([], true), ⟨rest, false, false⟩) := by
        unfold rNBytes
        rw [rFix_fixed]
        simp only [wrap_i32_mod]
        rw [if_pos (by decide)]
      simp only [PK.run, e, e2, valOf, if_true]
  | cnbytes =>
    simp only [pkFor, Bool.and_eq_true, decide_eq_true_eq] at h
    obtain ⟨rfl, rfl⟩ := h
    cases null with
    | false =>
      have e : pValue pp 9 false true t = pUv ((pWhole t.s).length + 1) ++ pWhole t.s := rfl
      have e2 : rCNBytes ⟨pUv ((pWhole t.s).length + 1) ++ pWhole t.s ++ rest, false, false⟩ = ((pWhole t.s, false), ⟨rest, false, false⟩) := by
        unfold rCNBytes
        rw [List.append_assoc, rUv_pUv _ (by omega)]
        simp only [rSpan_left (pWhole t.s) rest false _ (show (((pWhole t.s).length + 1 : Nat) : Int) - 1 = (pWhole t.s).length by omega)]
        rw [if_neg (by omega)]
      simp only [PK.run, e, e2, valOf, Bool.false_eq_true, if_false]
    | true =>
      have e : pValue pp 9 true true t = pUv 0 := rfl
      have e2 : rCNBytes ⟨pUv 0 ++ rest, false, false⟩ = (([], true), ⟨rest, false, false⟩) := by
        unfold rCNBytes
        rw [rUv_pUv _ (by omega)]
        simp only
        rw [if_pos (by decide)]
      simp only [PK.run, e, e2, valOf, if_true]
  | uuid =>
    simp only [pkFor, Bool.and_eq_true, decide_eq_true_eq] at h
    obtain ⟨_, rfl⟩ := h
    have hl := pId_length t.s
    have e : pValue pp 7 null fl t = pId t.s := rfl
    simp only [PK.run, e, rUuid, rSpan_left (pId t.s) rest false 16 (by rw [hl]; rfl), valOf, padTo, hl]
    simp [List.take_of_length_le (Nat.le_of_eq hl)]
  | tags => cases h

/-- It is told so. -/
theorem PK.tells {kind : Int} {may fl : Bool} {pk : PK} (h : pkFor kind may fl pk = true) {t : PT} (hok : IntKind.i64.wrap t.n = t.n) {null : Bool} (hn : null = true → may = true) (tt : PT → PT → Bool) :
    (tellPrim (valOf null t pk)).null = null ∧ (null = false → pToldV tt kind t (tellPrim (valOf null t pk)) = true) := by
  cases pk with
  | num N k =>
    simp only [pkFor, Bool.and_eq_true, Bool.or_eq_true, decide_eq_true_eq, Bool.not_eq_true'] at h
    have hnf : null = false := by cases null <;> simp_all
    subst hnf
    rcases h.2 with (((⟨⟨rfl, rfl⟩, rfl⟩ | ⟨⟨rfl, rfl⟩, rfl⟩) | ⟨⟨rfl, rfl⟩, rfl⟩) | ⟨⟨rfl, rfl⟩, rfl⟩) | ⟨⟨rfl, rfl⟩, rfl⟩ <;> refine ⟨rfl, fun _ => ?_⟩ <;> simp [valOf, tellPrim, pToldV, PT.n, pNumber]
    exact hok
  | bool =>
    simp only [pkFor, Bool.and_eq_true, decide_eq_true_eq, Bool.not_eq_true'] at h
    obtain ⟨rfl, rfl⟩ := h
    have hnf : null = false := by cases null <;> simp_all
    subst hnf
    refine ⟨rfl, fun _ => ?_⟩
    have : t.n % 2 = 0 ∨ t.n % 2 = 1 := by omega
    have e : pToldV tt 0 t (tellPrim (valOf false t .bool)) = decide ((if (t.n % 2 != 0) = true then (1 : Int) else 0) = t.n % 2) := rfl
    rw [e]
    rcases this with h | h <;> simp [h]
  | str =>
    simp only [pkFor, Bool.and_eq_true, decide_eq_true_eq, Bool.not_eq_true'] at h
    obtain ⟨⟨rfl, rfl⟩, rfl⟩ := h
    have hnf : null = false := by cases null <;> simp_all
    subst hnf
    exact ⟨rfl, fun _ => by simp [valOf, tellPrim, pToldV, PT.s]⟩
  | cstr =>
    simp only [pkFor, Bool.and_eq_true, decide_eq_true_eq, Bool.not_eq_true'] at h
    obtain ⟨⟨rfl, rfl⟩, rfl⟩ := h
    have hnf : null = false := by cases null <;> simp_all
    subst hnf
    exact ⟨rfl, fun _ => by simp [valOf, tellPrim, pToldV, PT.s]⟩
  | nstr =>
    simp only [pkFor, Bool.and_eq_true, decide_eq_true_eq, Bool.not_eq_true'] at h
    obtain ⟨⟨rfl, rfl⟩, rfl⟩ := h
    cases null
    · exact ⟨rfl, fun _ => by simp [valOf, tellPrim, pToldV, PT.s]⟩
    · exact ⟨rfl, fun h => by cases h⟩
  | cnstr =>
    simp only [pkFor, Bool.and_eq_true, decide_eq_true_eq] at h
    obtain ⟨⟨rfl, rfl⟩, rfl⟩ := h
    cases null
    · exact ⟨rfl, fun _ => by simp [valOf, tellPrim, pToldV, PT.s]⟩
    · exact ⟨rfl, fun h => by cases h⟩
  | bytes =>
    simp only [pkFor, Bool.and_eq_true, decide_eq_true_eq, Bool.not_eq_true'] at h
    obtain ⟨⟨rfl, rfl⟩, rfl⟩ := h
    have hnf : null = false := by cases null <;> simp_all
    subst hnf
    exact ⟨rfl, fun _ => by simp [valOf, tellPrim, pToldV, PT.s]⟩
  | cbytes =>
    simp only [pkFor, Bool.and_eq_true, decide_eq_true_eq, Bool.not_eq_true'] at h
    obtain ⟨⟨rfl, rfl⟩, rfl⟩ := h
    have hnf : null = false := by cases null <;> simp_all
    subst hnf
    exact ⟨rfl, fun _ => by simp [valOf, tellPrim, pToldV, PT.s]⟩
  | nbytes =>
    simp only [pkFor, Bool.and_eq_true, decide_eq_true_eq, Bool.not_eq_true'] at h
    obtain ⟨rfl, rfl⟩ := h
    refine ⟨rfl, fun h => ?_⟩
    subst h
    simp [valOf, tellPrim, pToldV, PT.s]
  | cnbytes =>
    simp only [pkFor, Bool.and_eq_true, decide_eq_true_eq] at h
    obtain ⟨rfl, rfl⟩ := h
    refine ⟨rfl, fun h => ?_⟩
    subst h
    simp [valOf, tellPrim, pToldV, PT.s]
  | uuid =>
    simp only [pkFor, Bool.and_eq_true, decide_eq_true_eq, Bool.not_eq_true'] at h
    obtain ⟨rfl, rfl⟩ := h
    have hnf : null = false := by cases null <;> simp_all
    subst hnf
    exact ⟨rfl, fun _ => by simp [valOf, tellPrim, pToldV, PT.s]⟩
  | tags => cases h

/-- Does a list's length so read be that which is written? -/
def lkFor (may fl : Bool) : LenK → Bool
  | .len => !may && !fl
  | .clen => !may && fl
  | .nlen => may && !fl
  | .nclen => may && fl

theorem LenK.reads {may fl : Bool} {lk : LenK} (h : lkFor may fl lk = true) {null : Bool} (hn : null = true → may = true) {n : Nat} (hnl : n ≤ 32767) (h0 : null = true → n = 0) {rest : List UInt8} (hr : n ≤ rest.length) :
    ∃ m : Int, lk.run ⟨pCounted fl null n 4 ++ rest, false, false⟩ = (m, ⟨rest, false, false⟩) ∧ m.toNat = n ∧ (may = true → lk.nilAt m = null) := by
  have k1 : ∀ m : Int, IntKind.i32.wrap ((m % 2 ^ (8 * 4)).toNat : Int) = IntKind.i32.wrap m := wrap_i32_mod
  have pos : null = false → fl = false → rLen ⟨pCounted fl null n 4 ++ rest, false, false⟩ = ((n : Int), ⟨rest, false, false⟩) := by
    rintro rfl rfl
    have e : pCounted false false n 4 = pFixed n 4 := rfl
    unfold rLen
    rw [e, rFix_fixed]
    simp only [k1, wrap_i32_small n hnl]
    rw [if_neg (by omega)]
  have neg : null = true → fl = false → rLen ⟨pCounted fl null n 4 ++ rest, false, false⟩ = (-1, ⟨rest, false, false⟩) := by
    rintro rfl rfl
    have e : pCounted false true n 4 = pFixed (-1) 4 := rfl
    have e2 : IntKind.i32.wrap (-1) = -1 := by decide
    unfold rLen
    rw [e, rFix_fixed]
    simp only [k1, e2]
    rw [if_neg (by omega)]
  have w2 : IntKind.i32.wrap (IntKind.i32.wrap ((n + 1 : Nat) : Int) - 1) = n := by
    simp only [IntKind.wrap, IntKind.bits, IntKind.signed]; simp; omega
  have cpos : null = false → fl = true → rCLen ⟨pCounted fl null n 4 ++ rest, false, false⟩ = ((n : Int), ⟨rest, false, false⟩) := by
    rintro rfl rfl
    have e : pCounted true false n 4 = pUv (n + 1) := rfl
    unfold rCLen
    rw [e, rUv_pUv _ (by omega)]
    simp only [w2]
    rw [if_neg (by omega)]
  have cneg : null = true → fl = true → rCLen ⟨pCounted fl null n 4 ++ rest, false, false⟩ = (-1, ⟨rest, false, false⟩) := by
    rintro rfl rfl
    have e : pCounted true true n 4 = pUv 0 := rfl
    have e2 : IntKind.i32.wrap (IntKind.i32.wrap ((0 : Nat) : Int) - 1) = -1 := by decide
    unfold rCLen
    rw [e, rUv_pUv _ (by omega)]
    simp only [e2]
    rw [if_neg (by omega)]
  cases lk with
  | len =>
    simp only [lkFor, Bool.and_eq_true, Bool.not_eq_true'] at h
    have hnf : null = false := by cases null <;> simp_all
    exact ⟨n, pos hnf h.2, by simp, fun hm => by rw [h.1] at hm; cases hm⟩
  | clen =>
    simp only [lkFor, Bool.and_eq_true, Bool.not_eq_true'] at h
    have hnf : null = false := by cases null <;> simp_all
    exact ⟨n, cpos hnf h.2, by simp, fun hm => by rw [h.1] at hm; cases hm⟩
  | nlen =>
    simp only [lkFor, Bool.and_eq_true, Bool.not_eq_true'] at h
    cases null with
    | false => exact ⟨n, pos rfl h.2, by simp, fun _ => by simp [LenK.nilAt, LenK.nul]⟩
    | true => exact ⟨-1, neg rfl h.2, by rw [h0 rfl]; rfl, fun _ => by simp [LenK.nilAt, LenK.nul]⟩
  | nclen =>
    simp only [lkFor, Bool.and_eq_true] at h
    cases null with
    | false => exact ⟨n, cpos rfl h.2, by simp, fun _ => by simp [LenK.nilAt, LenK.nul]⟩
    | true => exact ⟨-1, cneg rfl h.2, by rw [h0 rfl]; rfl, fun _ => by simp [LenK.nilAt, LenK.nul]⟩

end Go.Kf

namespace Go.Kf

open Go

/-- How a field is told. -/
inductive TD where
  | prim (i : Nat)
  | lprim (i : Nat)
  | lsub (i : Nat) (ds : List TD) (tg : Option Nat)
  | part (i : Nat) (ds : List TD) (tg : Option Nat)

def TD.idx : TD → Nat
  | .prim i => i
  | .lprim i => i
  | .lsub i _ _ => i
  | .part i _ _ => i

def tagsIn (tg : Option Nat) (fs : List FV) : TM := match tg with
  | some k => tellTags (fvGet fs k)
  | none => []

mutual
def TD.run : TD → List FV → PT
  | .prim i, fs => tellPrim (fvGet fs i)
  | .lprim i, fs => tellList (fun r => tellPrim (fvGet r 0)) (fvGet fs i)
  | .lsub i ds tg, fs => tellList (fun r => .mk 0 [] false (TD.runs ds r) (tagsIn tg r)) (fvGet fs i)
  | .part i ds tg, fs => tellPart (fun r => .mk 0 [] false (TD.runs ds r) (tagsIn tg r)) (fvGet fs i)
def TD.runs : List TD → List FV → List PT
  | [], _ => []
  | d :: ds, fs => d.run fs :: TD.runs ds fs
end

def tdGp (ds : List TD) (tg : Option Nat) (fs : List FV) : PT := .mk 0 [] false (TD.runs ds fs) (tagsIn tg fs)

end Go.Kf

namespace Go.Kf

open Go

/-- The reference's functions' trees. -/
structure SpTrees (P : Program) (c : Nums) (s : SN) : Prop where
  has : treeIn P s.has noOrc [.tmp 0, .tmp 1] 2 = tHas c s
  null : treeIn P s.null noOrc [.tmp 0, .tmp 1, .tmp 2] 3 = tNull c s
  whole : treeIn P s.whole noOrc [.tmp 0] 1 = tWhole c
  things : treeIn P s.things noOrc [.tmp 0] 1 = tThings c
  at_ : treeIn P s.at_ noOrc [.tmp 0, .tmp 1] 2 = tAt c
  uv : treeIn P s.uv noOrc [.tmp 0] 1 = tUv c
  fixed : treeIn P s.fixed noOrc [.tmp 0, .tmp 1] 2 = tFixed c
  width : treeIn P s.width noOrc [.tmp 0] 1 = tWidth c
  counted : treeIn P s.counted noOrc [.tmp 0, .tmp 1, .tmp 2, .tmp 3] 4 = tCounted c s
  value : treeIn P s.value noOrc [.tmp 0, .tmp 1, .tmp 2, .tmp 3, .tmp 4, .tmp 5] 6 = tValue c s
  fld : treeIn P s.fld noOrc [.tmp 0, .tmp 1, .tmp 2, .tmp 3] 4 = tField c s
  part : treeIn P s.part noOrc [.tmp 0, .tmp 1, .tmp 2, .tmp 3] 4 = tPart c s
  known : treeIn P s.known noOrc [.tmp 0] 1 = tKnown c s
  unknown : treeIn P s.unknown noOrc [.tmp 0, .tmp 1] 2 = tUnknown c s
  write : treeIn P s.write noOrc [.tmp 0, .tmp 1, .tmp 2] 3 = tWrite c s

section

variable {P : Program} {c : Nums} {s : SN}

theorem smalls_of (S : SpFacts P c s) (T : SpTrees P c s) : Smalls P s where
  has := fun _ _ _ v h => has_gives S T.has h v
  null := fun _ _ _ _ _ v h ht => null_gives S T.null h ht v
  whole := fun _ _ _ h => whole_gives S T.whole h
  things := fun _ _ _ _ h ht => things_gives S T.things h ht
  at_ := fun _ _ _ i ht => at_gives S T.at_ ht i
  width := fun _ x => width_gives S T.width x
  fixed := fun _ x m hm => fixed_gives S T.fixed x m hm
  uv := fun _ x hx => uv_gives S T.uv x hx
  counted := fun _ fl nu x m hx hm => counted_gives S (fun _ x m hm => fixed_gives S T.fixed x m hm) (fun _ x hx => uv_gives S T.uv x hx) T.counted fl nu x m hx hm

theorem unknown_all (S : SpFacts P c s) (T : SpTrees P c s) {fs : List PF} (h : PF.plains fs = true) (hl : fs.length < 65536) : UnknownOf P s fs := by
  have ht : ∀ f ∈ fs, f.tag < 0 := fun f hf => PF.plain_tag (PF.plains_mem h f hf)
  refine unknown_gives S (fun w fv hfv => ?_) T.unknown
  rw [pKnown_plain 0 ht]
  exact known_plain S T.known ht hfv (by omega)

mutual
theorem field_all (S : SpFacts P c s) (T : SpTrees P c s) : ∀ f : PF, f.plain = true → FieldOf P s f
  | .mk k fr to n g d e sub, h => by
    have hs := PF.plain_sub h
    have hl := PF.plain_len h
    have hp : PartOf P s sub := part_step S (smalls_of S T) T.known T.part (fun f hf => PF.plain_tag (PF.plains_mem hs f hf)) (by simp only [PF.sub] at hl; omega) (fields_all S T sub hs) (unknown_all S T hs hl)
    exact field_step S (smalls_of S T) T.fld (f := .mk k fr to n g d e sub) (fun w fv t ts kind nu fl v hf ht hok hl => value_gives S (smalls_of S T) T.value hp kind nu fl v hf ht hok hl) hp
theorem fields_all (S : SpFacts P c s) (T : SpTrees P c s) : ∀ fs : List PF, PF.plains fs = true → ∀ f ∈ fs, FieldOf P s f
  | [], _, f, hf => by cases hf
  | x :: l, h, f, hf => by
    simp only [PF.plains, Bool.and_eq_true] at h
    rcases List.mem_cons.1 hf with e | hf
    · rw [e]; exact field_all S T x h.1
    · exact fields_all S T l h.2 f hf
end

theorem part_all (S : SpFacts P c s) (T : SpTrees P c s) {fs : List PF} (h : PF.plains fs = true) (hl : fs.length < 65536) : PartOf P s fs :=
  part_step S (smalls_of S T) T.known T.part (fun f hf => PF.plain_tag (PF.plains_mem h f hf)) (by omega) (fields_all S T fs h) (unknown_all S T h hl)

theorem write_gives (S : SpFacts P c s) (T : SpTrees P c s) {fs : List PF} (h : PF.plains fs = true) (hlen : fs.length < 65536) {w : World} {fv : Value} {t : PT} {ts : List Value} (x v : Int) (hfv : FieldsV w fs fv) (ht : TreeC w t ts) (hok : t.ok) (hl : (pWrite fs x v t).length ≤ maxW) :
    YieldsO P s.write [.agg ⟨[fv, .int .i64 x]⟩, .int .i64 v, .agg ⟨ts⟩] w (pWrite fs x v t) := by
  have htl := ht.len
  refine gives_in (ρ := en [_, _, _]) S.rd.mix T.write (Nat.le_refl _) rfl (by simp [opBelow]) ?_
  refine s_box rfl fun w1 hx1 k1 z1 => ?_
  refine s_box rfl fun w2 hy2 k2 z2 => ?_
  have hx2 := hx1.keep k2 (by simp)
  have k02 := k1.trans k2
  have hp := part_all S T h hlen
  refine s_fl S.m0 S.oneFields rfl rfl hx2 rfl (s_fl S.m1 S.oneInt rfl rfl hx2 rfl ?_)
  refine s_val (v_cmp (kk := .i64) (a := x) (b := 0) (r := decide (x ≥ 0)) rfl rfl rfl) ?_
  unfold pWrite at hl ⊢
  refine s_cond (b := decide (x ≥ 0)) rfl (fun hb => ?_) fun hb => ?_
  · refine s_fl S.m1 S.oneInt rfl rfl hx2 rfl ?_
    refine s_val (v_cmp (kk := .i64) (a := v) (b := x) (r := decide (v ≥ x)) rfl rfl rfl) ?_
    have hfx : pFlex x v = decide (v ≥ x) := by
      unfold pFlex
      rw [show decide (0 ≤ x) = true from hb]
      rfl
    rw [hfx] at hl ⊢
    refine s_lok (l_loadN (b := w1.heap.size) (o := 0) S.ty.agg rfl hy2 (by omega)) ?_
    rw [take0 htl]
    exact s_callO (hp w2 fv v _ t ts (hfv.keep k02) (TreeC.keep k02 _ _ ht) hok hl) rfl fun u w3 hM => ⟨fun p hp => (by cases hp), s_ret1 (hM.under k02)⟩
  · have hfx : pFlex x v = false := by
      unfold pFlex
      rw [show decide (0 ≤ x) = false from hb]
      rfl
    rw [hfx] at hl ⊢
    refine s_lok (l_loadN (b := w1.heap.size) (o := 0) S.ty.agg rfl hy2 (by omega)) ?_
    rw [take0 htl]
    exact s_callO (hp w2 fv v _ t ts (hfv.keep k02) (TreeC.keep k02 _ _ ht) hok hl) rfl fun u w3 hM => ⟨fun p hp => (by cases hp), s_ret1 (hM.under k02)⟩

end

end Go.Kf


namespace Go.Kf

open Go

variable {P : Program} {c : Nums} {s : SN}

def chkSp (P : Program) (c : Nums) (s : SN) : Bool :=
  decide (aggTy P s.field = some 8) && decide (fieldOff P s.field 0 = some 0) && decide (fieldOff P s.field 1 = some 1) && decide (fieldOff P s.field 2 = some 2) && decide (fieldOff P s.field 3 = some 3) && decide (fieldOff P s.field 4 = some 4) &&
  decide (fieldOff P s.field 5 = some 5) && decide (fieldOff P s.field 6 = some 6) && decide (fieldOff P s.field 7 = some 7) && oneTy P s.fields && decide (aggTy P s.msg = some 2) && decide (fieldOff P s.msg 0 = some 0) && decide (fieldOff P s.msg 1 = some 1) && oneTy P c.tInt

theorem SpFacts.of (h1 : RdFacts P c) (h2 : TyFacts P c c.sTree c.sTrees c.sTagL c.sTag) (h3 : GotFacts P c) (h4 : RowFacts P s.field 8) (h5 : chkSp P c s = true) (h6 : P.underlying s.fields = some (.slice s.field))
    (h7 : P.underlying c.tU64 = some (.int .u64)) (h8 : zeroTy P c.tU8 = some (.int .u8 0, 1)) (h9 : chkInfo P c.tU8 1 8 = true) (h10 : chkZero P s.field 8 = true) (h11 : chkZero P c.sTag 2 = true) (h12 : buildPlan P c.sTag = some ([.int .u32 0, .slice none 0 0], [(0, 1), (1, 1)])) : SpFacts P c s := by
  unfold chkSp at h5
  simp only [Bool.and_eq_true, decide_eq_true_eq] at h5
  obtain ⟨⟨⟨⟨⟨⟨⟨⟨⟨⟨⟨⟨⟨a1, a2⟩, a3⟩, a4⟩, a5⟩, a6⟩, a7⟩, a8⟩, a9⟩, a10⟩, a11⟩, a12⟩, a13⟩, a14⟩ := h5
  refine ⟨h1, h2, h3, a1, a2, a3, a4, a5, a6, a7, a8, a9, h6, a10, a11, a12, a13, a14, h7, ?_, zero_of h10, zero_of h11, h4, h12⟩
  obtain ⟨inf, z, hi, hz, hs, hc, hb⟩ := info_of h9
  refine ⟨inf, hi, ?_, hs, hb⟩
  unfold zeroTy at h8
  rw [hi] at h8
  simp only [hz, Option.some.injEq, Prod.mk.injEq] at h8
  rw [hz, h8.1]

end Go.Kf


namespace Go.Kf

open Go Go.ChangeShapes Go.WideShapes Go.RowKit

section

variable {H : Type} {enc : TypeId × Value → H} {P : Program} {c : Nums} {s : SN} {w : World} {B : DataW H → Nat} {BA : List (DataW H) → Nat}

theorem TreesC.append : ∀ {a b : List PT} {x y : List Value}, TreesC w a x → TreesC w b y → TreesC w (a ++ b) (x ++ y)
  | [], b, x, y, h1, h2 => by simp only [TreesC] at h1; subst h1; exact h2
  | t :: a, b, x, y, ⟨c1, c2, e, h1, h3⟩, h2 => ⟨c1, c2 ++ y, by rw [e, List.append_assoc], h1, TreesC.append h3 h2⟩

end

end Go.Kf


namespace Go.Kf

open Go

mutual
def kF : PF → Nat
  | .mk k _ _ _ _ _ e sub => if k = 11 then (if e = 10 then 3 + kPart sub else 6) else if k = 10 then 3 + kPart sub else 3
def kPart : List PF → Nat
  | [] => 8
  | f :: r => kF f + kPart r
end

end Go.Kf


namespace Go.Kf

open Go

/-- The step that reads the version. -/
def verStep (c : Nums) (f16 : Nat) : Step := .call (.num 2 .i16) f16 0 c.tI16 0

def gReadFromK (c : Nums) (e : Fns) (S fDef f16 : Nat) (v : Option Int) (ss : List Step) : Tr :=
  .op (callOp fDef [.tmp 0]) none [] <| .op (.build c.tRd ⟨[(0, .tmp 1)]⟩) none [] <| .op (.alloc c.tRd) none [] <| .op (.store c.tRd (.tmp 5) (.tmp 4)) none [] <|
  gStep c e (.tmp 5) (verStep c f16) (.tmp 0) S 7 0 (.const .nilIface) fun n d res =>
  .op (.nilCheck (.tmp 0)) none [] <| .op (.fieldAddr S (.tmp n) 0) none [] <| .op (.load c.tI16 (.tmp (n + 1))) (v.map fun v => .int .i16 v) [] <|
  gSteps c e (.tmp 5) ss (.tmp 0) S (n + 3) d res fun n _ _ => .op (callOp e.complete [.tmp 5]) none [] <| .ret [(.tmp n, none)]

section

variable {P : Program} {c : Nums} {w : World}

theorem readFromK_gives {e : Fns} {f S fDef f16 : Nat} {ds : List Dset} {ls : List Nat} {ss : List Step} {v : Option Int} {orc : Nat → Option Value} {uns : Bool} {fs0 fs1 : List FV} {mid1 : List Value} (F : RdFacts P c) (A : RfFacts P c S) (hOk : hasRet ss = true → OkGives P e.ok) (hCo : CompGives P e.complete c.gErr) (h16 : RdAny P f16 (.num 2 .i16)) (hsz16 : (P.info? c.tI16).map (·.size) = some 1) (hpl : PlaceOk P S ls 0 0 1)
    (hT : treeIn P f orc [.tmp 0, .tmp 1, .const (.bool uns)] 3 = gReadFromK c e S fDef f16 v ss) (hDef : DefSets P fDef ls ds) (hok : StepsOk P c S ls ss) (hdeep : deepsOk ss = true) (hsh : shapesOk fs0 ds = true) (h0 : fs0.map FV.wd = ls) (h01 : applyD ds fs0 = fs1) (himm : immL fs1 = some mid1)
    (hidx : ∀ x : FV, idxOk (fs1.set 0 x) ss = true) (hl1 : fs1.map FV.wd = ls) {V D : Nat} {mid0 : List Value} {l : List UInt8} {src e0 : Value} (hv : ∀ x r', (PK.num 2 .i16).run ⟨l, false, nilOf src⟩ = (x, r') → ∀ y, v = some y → x = .one (.int .i16 y)) (hV : Has w V mid0) (hf0 : ∀ D lo, FsAt D w lo fs0 mid0) (hsrc : Reads w src 1 l.length (bcells l)) (hblk : ∀ b ∈ blkOf src, b = D) (hD : D < w.heap.size) (hVD : V ≠ D) (he : ErrAt w c.gErr e0) (hgV : c.gErr ≠ V) (hlen : l.length ≤ 1073741824) :
    Gives P f [ptr V, src, .bool uns] w fun u w' => Keeps [V] w w' ∧ RfPost D V e0 w w' u (runSteps (verStep c f16 :: ss) fs1 ⟨l, false, nilOf src⟩) := by
  have hVl := hV.lt
  refine gives_in (ρ := en [ptr V, src]) F.mix hT (Nat.le_refl _) rfl (by simp [opBelow]) ?_
  unfold gReadFromK
  have hd := hDef D w V w.heap.size [] [] mid0 fs0 hVD hVl hsh h0 (by simpa using hV) (hf0 D w.heap.size)
  refine s_callx hd rfl fun u1 w1 ⟨⟨mid', hh1, hf1⟩, k1⟩ => ?_
  simp only [List.nil_append, List.append_nil] at hh1
  rw [h01] at hf1
  obtain rfl := immL_eq himm hf1
  obtain ⟨a, cp, hav, _⟩ := hsrc.form
  obtain ⟨z, hplan, rfl⟩ := A.plan
  refine s_val (v_build (cells := [src, .bool false]) hplan (fun p hp => by simp only [List.mem_singleton] at hp; subst hp; show src.oneCell' = true; rw [hav]; rfl) (by rfl)) ?_
  obtain ⟨w2, e2, h2, k2, s2⟩ := a_alloc (P := P) (ρ := ext (ext (en [ptr V, src]) 3 [u1]) 4 [.agg ⟨[src, .bool false]⟩]) (w := w1) A.zero
  refine s_act e2 (fun p hp => (by cases hp)) ?_
  obtain ⟨w3, e3, h3, k3⟩ := a_storeCells (P := P) (ρ := ext (ext (ext (en [ptr V, src]) 3 [u1]) 4 [.agg ⟨[src, .bool false]⟩]) 5 [ptr w1.heap.size]) (w := w2) (t := c.tRd) (x := .tmp 5) (y := .tmp 4) (b := w1.heap.size) (o := 0) (vs := [src, .bool false]) A.size rfl rfl h2 (show (2 : Nat) ≤ 2 from Nat.le_refl _) (by
    intro q hq
    simp only [List.mem_cons, List.not_mem_nil, or_false] at hq
    rcases hq with rfl | rfl
    · rw [hav]; rfl
    · rfl)
  refine s_unit e3 (fun p hp => (by cases hp)) ?_
  have h3' : Has w3 w1.heap.size [src, .bool false] := h3
  have k13 : Keeps [] w1 w3 := ((k2.mono (by simp)).trans k3).less fun x hx => .inr (by simp only [List.mem_singleton] at hx; omega)
  have hs1 := k1.size
  have hh3 := hh1.keep k13 (by simp)
  have kw3 : Keeps [V] w w3 := k1.trans (k13.mono (by simp))
  have hst : StAt w3 w1.heap.size D V c.gErr (w1.heap.size + 1) e0 ⟨l, false, nilOf src⟩ [] [] fs1 :=
    ⟨⟨by omega, Nat.lt_of_lt_of_le hD kw3.size, src, h3', hsrc.keep kw3 (fun b hb => by simp only [List.mem_singleton]; rw [hblk b hb]; exact fun e => hVD e.symm), rfl, hblk⟩, ⟨mid', by simpa using hh3, immL_at himm D w3 _⟩, he.keep kw3 (by simpa using hgV), (by have := he.2; omega), hgV, by omega, hVD, by omega, by omega, h3'.lt, hlen⟩
  have hcall := sem_call (R := fun u w' => Keeps [V] w w' ∧ RfPost D V e0 w w' u (runSteps (verStep c f16 :: ss) fs1 ⟨l, false, nilOf src⟩)) (rb := w1.heap.size) (D := D) (e := e) (rd := .tmp 5) (ev0 := e0) (c := c) (S := S) (ls := ls) (i := 0) (ty := c.tI16) (off := 0) h16 hpl hsz16
  refine hcall (.tmp 0) (.const .nilIface) 7 _ [] _ w3 V (w1.heap.size + 1) [] [] fs1 ⟨l, false, nilOf src⟩ (by simp [opBelow]) rfl (by simp [opBelow]) rfl trivial hst hl1 rfl ?_ ?_
  · rintro fs' r' hrun n' Γ' ρ' w' res' hle hΔ hag hbr hst' hls' kk'
    have hV' : ρ' 0 = ptr V := hag 0 (by omega)
    have hfs' : fs' = fs1.set 0 ((PK.num 2 .i16).run ⟨l, false, nilOf src⟩).1 ∧ r' = ((PK.num 2 .i16).run ⟨l, false, nilOf src⟩).2 := by
      simp only [runStep, Option.some.injEq, Prod.mk.injEq] at hrun
      exact ⟨hrun.1.symm, hrun.2.symm⟩
    -- the version's cell
    obtain ⟨mid2, hm2, hf2⟩ := hst'.st
    have hlen1 : 0 < fs1.length := by
      have := hpl.wd
      rw [← hl1] at this
      rw [List.getElem?_map] at this
      cases hf : fs1[0]? with
      | none => rw [hf] at this; cases this
      | some _ => exact (List.getElem?_eq_some_iff.1 hf).1
    obtain ⟨kk0, hx0⟩ : ∃ q, ((PK.num 2 .i16).run ⟨l, false, nilOf src⟩).1 = .one (.int .i16 q) := ⟨_, rfl⟩
    have hget : fs'[0]? = some (.one (.int .i16 kk0)) := by rw [hfs'.1, List.getElem?_set_self hlen1, hx0]
    have hcell : mid2[0]? = some (.int .i16 kk0) := by
      obtain ⟨a1, m1, z1, em, ha1, hm1, _⟩ := hf2.split hget
      have : a1 = [] := List.eq_nil_of_length_eq_zero (by rw [ha1]; rfl)
      subst this
      rw [em, hm1.1]
      rfl
    have hm2' : Has w' V mid2 := by simpa using hm2
    refine s_val (v_nilCheck (a := ⟨V, 0, none⟩) hV') (s_val (v_field (b := V) (o := 0) A.ver ext_at) ?_)
    have hld : runOp P (ext (ext ρ' n' [.pointer (some ⟨V, 0, none⟩)]) (n' + 1) [.pointer (some ⟨V, 0 + 0, none⟩)]) (.load c.tI16 (.tmp (n' + 1))) w' = .ok (.value (.int .i16 kk0)) w' := l_load1 (b := V) (o := 0) A.oneI16 ext_at hm2' hcell
    have hrest : (gSteps c e (.tmp 5) ss (.tmp 0) S (n' + 3) Γ'.length res' fun n _ _ => .op (callOp e.complete [.tmp 5]) none [] <| .ret [(.tmp n, none)]).sem P (fun u w' => Keeps [V] w w' ∧ RfPost D V e0 w w' u (runSteps (verStep c f16 :: ss) fs1 ⟨l, false, nilOf src⟩)) Γ' (n' + 3) (ext (ext (ext ρ' n' [.pointer (some ⟨V, 0, none⟩)]) (n' + 1) [.pointer (some ⟨V, 0 + 0, none⟩)]) (n' + 2) [.int .i16 kk0]) w' := by
      have hag2 : ∀ x, x < 7 → ext (ext (ext ρ' n' [.pointer (some ⟨V, 0, none⟩)]) (n' + 1) [.pointer (some ⟨V, 0 + 0, none⟩)]) (n' + 2) [.int .i16 kk0] x = ext (ext (ext (ext (en [ptr V, src]) 3 [u1]) 4 [.agg ⟨[src, .bool false]⟩]) 5 [ptr w1.heap.size]) 6 [undef] x := fun x hx => by
        rw [ext_lt (by omega), ext_lt (by omega), ext_lt (by omega)]; exact hag x hx
      have hsem := sem_steps (R := fun u w' => Keeps [V] w w' ∧ RfPost D V e0 w w' u (runSteps (verStep c f16 :: ss) fs1 ⟨l, false, nilOf src⟩)) (rb := w1.heap.size) (D := D) (rd := .tmp 5) (ev0 := e0) F hCo ss S ls hOk hok hdeep
      refine hsem (.tmp 0) res' (n' + 3) _ Γ' _ w' V (w1.heap.size + 1) [] [] fs' r' (by show 5 < n' + 3; omega) (hag2 5 (by omega)) (by show 0 < n' + 3; omega) (hag2 0 (by omega)) (opBelow_mono hbr (by omega)) hst' hls' (by rw [hfs'.1]; exact hidx _) ?_ ?_
      · rintro fs2 r2 hrun2 n2 Γ2 ρ2 w2' res2 hle2 hΔ2 hagx _ hst2 _ kk2
        have hc := hCo w2' w1.heap.size D r2 e0 hst2.rd hst2.err
        refine s_callx hc (by simp only [List.map_cons, List.map_nil]; rw [ev_agree (x := .tmp 5) (n := n' + 3) (by show 5 < n' + 3; omega) hagx]; exact congrArg (fun q => [q]) (hag2 5 (by omega))) fun u w4 hu => ?_
        obtain ⟨rfl, rfl⟩ := hu
        refine s_ret1 ?_
        rw [show ev (ext ρ2 n2 [if r2.bad = true then e0 else Value.nilIface]) (.tmp n2) = if r2.bad = true then e0 else Value.nilIface from ext_at]
        have kall : Keeps [V] w w4 := ((kw3.mono (by simp)).trans (kk'.trans kk2) : Keeps [w1.heap.size, V] w w4).less fun x hx => by
          simp only [List.mem_cons, List.not_mem_nil, or_false] at hx ⊢
          omega
        refine ⟨kall, ?_⟩
        have hrs : runSteps (verStep c f16 :: ss) fs1 ⟨l, false, nilOf src⟩ = some (fs2, r2) := by
          rw [runSteps, verStep, hrun]
          exact hrun2
        rw [hrs]
        simp only [RfPost]
        cases hb : r2.bad with
        | true => rfl
        | false =>
          obtain ⟨mid, hm, hf⟩ := hst2.st
          exact ⟨rfl, mid, by simpa using hm, FsAt.mono (by omega) _ _ hf⟩
      · intro hn w2' kk2
        have kall : Keeps [V] w w2' := ((kw3.mono (by simp)).trans (kk'.trans kk2) : Keeps [w1.heap.size, V] w w2').less fun x hx => by
          simp only [List.mem_cons, List.not_mem_nil, or_false] at hx ⊢
          omega
        refine ⟨kall, ?_⟩
        have hrs : runSteps (verStep c f16 :: ss) fs1 ⟨l, false, nilOf src⟩ = none := by
          rw [runSteps, verStep, hrun]
          exact hn
        rw [hrs]
        rfl
    cases v with
    | none => exact s_lok hld hrest
    | some y =>
      have hy := hv _ _ (Prod.ext rfl rfl : (PK.num 2 .i16).run ⟨l, false, nilOf src⟩ = (((PK.num 2 .i16).run ⟨l, false, nilOf src⟩).1, ((PK.num 2 .i16).run ⟨l, false, nilOf src⟩).2)) y rfl
      rw [hx0] at hy
      injection hy with hy
      injection hy with _ hy
      subst hy
      exact s_known hld hrest
  · intro hn w' kk'
    simp only [runStep] at hn
    cases hn

end

end Go.Kf

namespace Go.Kf

open Go

/-- A field as it is typed: what is set, in order; the function that yields its parts. -/
structure FB where
  parts : List (Nat × Int)
  sub : Option Nat

def setParts : List Int → List (Nat × Int) → List Int
  | z, [] => z
  | z, p :: r => setParts (z.set p.1 p.2) r

def FB.pf (b : FB) (sub : List PF) : PF := match setParts [0, 0, 0, 0, 0, 0, 0] b.parts with
  | [k, f, t, n, g, d, e] => .mk k f t n g d e sub
  | _ => .mk 0 0 0 0 0 0 0 sub

def idxd : Nat → List Operand → List (Nat × Operand)
  | _, [] => []
  | k, x :: r => (k, x) :: idxd (k + 1) r

def gFB (s : SN) : List FB → Nat → List Operand → (Nat → List Operand → Tr) → Tr
  | [], n, acc, k => k n acc
  | ⟨ps, none⟩ :: r, n, acc, k => .op (.build s.field ⟨ps.map fun p => (p.1, .const (.int .i64 p.2))⟩) none [] (gFB s r (n + 1) (acc ++ [.tmp n]) k)
  | ⟨ps, some f⟩ :: r, n, acc, k => .op (callOp f []) none [] <| .op (.build s.field ⟨(ps.map fun p => (p.1, .const (.int .i64 p.2))) ++ [(7, .tmp n)]⟩) none [] (gFB s r (n + 2) (acc ++ [.tmp (n + 1)]) k)

def gMsgFn (s : SN) (fbs : List FB) (x : Int) : Tr := .op (.alloc s.msg) none [] <| gFB s fbs 1 [] fun n acc => .op (.buildSlice s.fields acc.length ⟨idxd 0 acc⟩) none [] <|
  .op (.build s.msg ⟨[(1, .const (.int .i64 x)), (0, .tmp n)]⟩) none [] <| .op (.store s.msg (.tmp 0) (.tmp (n + 1))) none [] <| .ret [(.tmp 0, some s.msg)]

/-- The types' plans. -/
structure FbFacts (P : Program) (s : SN) : Prop where
  field : buildPlan P s.field = some ([.int .i64 0, .int .i64 0, .int .i64 0, .int .i64 0, .int .i64 0, .int .i64 0, .int .i64 0, .slice none 0 0], [(0, 1), (1, 1), (2, 1), (3, 1), (4, 1), (5, 1), (6, 1), (7, 1)])
  msg : buildPlan P s.msg = some ([.slice none 0 0, .int .i64 0], [(0, 1), (1, 1)])
  zero : zeroTy P s.msg = some (.agg ⟨[.slice none 0 0, .int .i64 0]⟩, 2)

/-- A function that yields a list of fields. -/
def FieldsFn (P : Program) (f : Nat) (fs : List PF) : Prop := ∀ w, Gives P f [] w fun v w' => FieldsV w' fs v ∧ Keeps [] w w'

/-- A function that yields a message. -/
def MsgFn (P : Program) (f : Nat) (fs : List PF) (x : Int) : Prop := ∀ w, Gives P f [] w fun v w' => (∃ fv, v = .agg ⟨[fv, .int .i64 x]⟩ ∧ FieldsV w' fs fv) ∧ Keeps [] w w'

def FbsOk (P : Program) : List FB → List PF → Prop
  | [], fs => fs = []
  | b :: r, fs => ∃ f fr, fs = f :: fr ∧ b.parts.all (fun p => Nat.blt p.1 7) = true ∧ (match b.sub with
    | none => f = b.pf []
    | some g => ∃ sub, FieldsFn P g sub ∧ f = b.pf sub) ∧ FbsOk P r fr

section

variable {P : Program} {c : Nums} {s : SN} {R : Value → World → Prop} {Γ : List (List Value → World → Prop)} {n : Nat} {ρ : Nat → Value} {w : World} {k : Tr}

theorem setParts_length : ∀ (ps : List (Nat × Int)) (z : List Int), (setParts z ps).length = z.length
  | [], _ => rfl
  | p :: r, z => by rw [setParts, setParts_length r]; simp

def plan8 : List (Nat × Nat) := [(0, 1), (1, 1), (2, 1), (3, 1), (4, 1), (5, 1), (6, 1), (7, 1)]

theorem plan8_at {i : Nat} (h : i < 8) : plan8[i]? = some (i, 1) := by
  have : i = 0 ∨ i = 1 ∨ i = 2 ∨ i = 3 ∨ i = 4 ∨ i = 5 ∨ i = 6 ∨ i = 7 := by omega
  rcases this with rfl | rfl | rfl | rfl | rfl | rfl | rfl | rfl <;> rfl

theorem fill_parts (tail : List (Nat × Value)) : ∀ (ps : List (Nat × Int)) (z : List Int), z.length = 7 → ps.all (fun p => Nat.blt p.1 7) = true →
    fillOnes plan8 (z.map (Value.int .i64) ++ [.slice none 0 0]) ((ps.map fun p => (p.1, Value.int .i64 p.2)) ++ tail) = fillOnes plan8 ((setParts z ps).map (Value.int .i64) ++ [.slice none 0 0]) tail
  | [], z, _, _ => rfl
  | p :: r, z, hz, h => by
    rw [List.all_cons, Bool.and_eq_true] at h
    have hp : p.1 < 7 := Nat.le_of_ble_eq_true h.1
    rw [List.map_cons, List.cons_append, fillOnes, plan8_at (by omega)]
    simp only
    rw [if_pos ⟨trivial, by simp; omega⟩, List.set_append_left _ _ (by simp; omega), ← List.map_set, setParts]
    exact fill_parts tail r _ (by simpa using hz) h.2

/-- A field, built. -/
theorem field_built {w' : World} (b : FB) (h : b.parts.all (fun p => Nat.blt p.1 7) = true) :
    (∃ cells, fillOnes plan8 [.int .i64 0, .int .i64 0, .int .i64 0, .int .i64 0, .int .i64 0, .int .i64 0, .int .i64 0, .slice none 0 0] (b.parts.map fun p => (p.1, Value.int .i64 p.2)) = some cells ∧ FieldC w' (b.pf []) cells) ∧
    ∀ (v : Value) (sub : List PF), FieldsV w' sub v → ∃ cells, fillOnes plan8 [.int .i64 0, .int .i64 0, .int .i64 0, .int .i64 0, .int .i64 0, .int .i64 0, .int .i64 0, .slice none 0 0] ((b.parts.map fun p => (p.1, Value.int .i64 p.2)) ++ [(7, v)]) = some cells ∧ FieldC w' (b.pf sub) cells := by
  have hl := setParts_length b.parts [0, 0, 0, 0, 0, 0, 0]
  have h0 := fill_parts [] b.parts [0, 0, 0, 0, 0, 0, 0] rfl h
  have h1 := fun v => fill_parts [(7, v)] b.parts [0, 0, 0, 0, 0, 0, 0] rfl h
  have ez : List.map (Value.int .i64) [0, 0, 0, 0, 0, 0, 0] ++ [Value.slice none 0 0] = [.int .i64 0, .int .i64 0, .int .i64 0, .int .i64 0, .int .i64 0, .int .i64 0, .int .i64 0, .slice none 0 0] := rfl
  rw [ez, List.append_nil] at h0
  simp only [ez] at h1
  unfold FB.pf
  generalize setParts [0, 0, 0, 0, 0, 0, 0] b.parts = z at hl h0 h1
  match z, hl with
  | [k, f, t, n, g, d, e], _ =>
    refine ⟨⟨_, h0, _, [], rfl, Ro.nil w' 8, rfl⟩, fun v sub hv => ?_⟩
    obtain ⟨scs, s1, s2⟩ := hv
    refine ⟨[.int .i64 k, .int .i64 f, .int .i64 t, .int .i64 n, .int .i64 g, .int .i64 d, .int .i64 e, v], ?_, v, scs, rfl, s1, s2⟩
    rw [h1 v]
    rfl

theorem Has.cells? {w : World} {b : Nat} {cs : List Value} (h : Has w b cs) (i : Nat) : w.cell? ⟨b, i, none⟩ = cs[i]? := by
  obtain ⟨t, fr, hb, _⟩ := h
  unfold World.cell?
  rw [show (⟨b, i, none⟩ : Addr).block = b from rfl, hb]
  simp

/-- Rows of eight cells don't lie in a small block. -/
theorem Ro.keepSmall {w w' : World} {b : Nat} {cs : List Value} (hb : Has w b cs) (hs : cs.length < 8) (hk : Keeps [b] w w') {v : Value} {n : Nat} {xs : List Value} (h : Ro w v 8 n xs) : Ro w' v 8 n xs := by
  refine ⟨h.1, ?_⟩
  rcases h.2 with h0 | ⟨d, o, cap, rfl, hd, hc, hx⟩
  · exact .inl h0
  · by_cases hn : n = 0
    · exact .inl ⟨hn, _, _, by rw [hn]⟩
    have hne : d ≠ b := by
      intro e
      subst e
      have h7 := hx 7 (by omega)
      rw [hb.cells?, List.getElem?_eq_none (by omega), List.getElem?_eq_getElem (by rw [h.1]; omega)] at h7
      cases h7
    exact .inr ⟨d, o, cap, rfl, Nat.lt_of_lt_of_le hd hk.size, hc, fun i hi => by rw [cell_keep hk hd (by simpa using hne)]; exact hx i hi⟩

mutual
theorem FieldC.keepSmall {w w' : World} {b : Nat} {ds : List Value} (hb : Has w b ds) (hs : ds.length < 8) (hk : Keeps [b] w w') : ∀ (f : PF) (cs : List Value), FieldC w f cs → FieldC w' f cs
  | .mk _ _ _ _ _ _ _ sub, _, ⟨sv, scs, e, h1, h2⟩ => ⟨sv, scs, e, Ro.keepSmall hb hs hk h1, FieldsC.keepSmall hb hs hk sub scs h2⟩
theorem FieldsC.keepSmall {w w' : World} {b : Nat} {ds : List Value} (hb : Has w b ds) (hs : ds.length < 8) (hk : Keeps [b] w w') : ∀ (fs : List PF) (cs : List Value), FieldsC w fs cs → FieldsC w' fs cs
  | [], _, h => h
  | f :: fs, _, ⟨c1, c2, e, h1, h2⟩ => ⟨c1, c2, e, FieldC.keepSmall hb hs hk f c1 h1, FieldsC.keepSmall hb hs hk fs c2 h2⟩
end

/-- What has been built so far. -/
def AccOk (ρ : Nat → Value) (w : World) (n : Nat) : List Operand → List PF → Prop
  | [], fs => fs = []
  | x :: r, fs => ∃ f fr cs, fs = f :: fr ∧ opBelow n x ∧ ev ρ x = .agg ⟨cs⟩ ∧ FieldC w f cs ∧ AccOk ρ w n r fr

theorem AccOk.more {ρ ρ' : Nat → Value} {w w' : World} {n n' : Nat} (hn : n ≤ n') (hρ : ∀ x, opBelow n x → ev ρ' x = ev ρ x) (hk : Keeps [] w w') : ∀ {xs : List Operand} {fs : List PF}, AccOk ρ w n xs fs → AccOk ρ' w' n' xs fs
  | [], _, h => h
  | x :: _, _, ⟨f, fr, cs, e, h1, h2, h3, h4⟩ => ⟨f, fr, cs, e, h1.mono hn, (hρ x h1).trans h2, FieldC.keep hk f cs h3, AccOk.more hn hρ hk h4⟩

theorem AccOk.snoc {f : PF} {x : Operand} {cs : List Value} (h1 : opBelow n x) (h2 : ev ρ x = .agg ⟨cs⟩) (h3 : FieldC w f cs) : ∀ {xs : List Operand} {fs : List PF}, AccOk ρ w n xs fs → AccOk ρ w n (xs ++ [x]) (fs ++ [f])
  | [], _, h => by simp only [AccOk] at h; subst h; exact ⟨f, [], cs, rfl, h1, h2, h3, rfl⟩
  | y :: r, _, ⟨g, fr, ds, e, q1, q2, q3, q4⟩ => ⟨g, fr ++ [f], ds, by rw [e]; rfl, q1, q2, q3, AccOk.snoc h1 h2 h3 q4⟩

theorem gFB_sem (S : SpFacts P c s) (B : FbFacts P s) {K : Nat → List Operand → Tr} : ∀ (fbs : List FB) (fs : List PF) (n : Nat) (acc : List Operand) (accs : List PF) (ρ : Nat → Value) (w : World), FbsOk P fbs fs → AccOk ρ w n acc accs →
    (∀ n' acc' ρ' w', n ≤ n' → Keeps [] w w' → (∀ x, opBelow n x → ev ρ' x = ev ρ x) → AccOk ρ' w' n' acc' (accs ++ fs) → acc'.length = (accs ++ fs).length → (K n' acc').sem P R Γ n' ρ' w') → acc.length = accs.length → (gFB s fbs n acc K).sem P R Γ n ρ w
  | [], fs, n, acc, accs, ρ, w, hf, ha, hk, hl => by
    simp only [FbsOk] at hf
    subst hf
    have := hk n acc ρ w (Nat.le_refl _) .refl (fun _ _ => rfl)
    simp only [List.append_nil] at this
    exact this ha hl
  | ⟨ps, none⟩ :: r, fs, n, acc, accs, ρ, w, hf, ha, hk, hl => by
    obtain ⟨f, fr, rfl, hp, he, hr⟩ := hf
    simp only at he
    obtain ⟨cells, hc1, hc2⟩ := (field_built (w' := w) ⟨ps, none⟩ hp).1
    simp only [gFB]
    refine s_val (v_build (cells := cells) B.field (fun p hp => ?_) ?_) ?_
    · obtain ⟨q, _, rfl⟩ := List.mem_map.1 hp
      rfl
    · rw [List.map_map]
      exact hc1
    refine gFB_sem S B r fr (n + 1) (acc ++ [.tmp n]) (accs ++ [f]) _ w hr ?_ (fun n' acc' ρ' w' hn kk hρ hacc hlen => ?_) (by simp [hl])
    · rw [he]
      have e0 : ev (ext ρ n [.agg ⟨cells⟩]) (.tmp n) = .agg ⟨cells⟩ := ext_at
      exact AccOk.snoc (by simp [opBelow]) e0 hc2 (AccOk.more (Nat.le_succ n) (fun x hx => ev_ext hx) .refl ha)
    · rw [List.append_assoc] at hacc hlen
      exact hk n' acc' ρ' w' (by omega) kk (fun x hx => (hρ x (hx.mono (Nat.le_succ n))).trans (ev_ext hx)) hacc hlen
  | ⟨ps, some g⟩ :: r, fs, n, acc, accs, ρ, w, hf, ha, hk, hl => by
    obtain ⟨f, fr, rfl, hp, he, hr⟩ := hf
    simp only at he
    obtain ⟨sub, hg, he⟩ := he
    simp only [gFB]
    refine s_callx (hg w) rfl fun v w1 ⟨hv, k1⟩ => ?_
    obtain ⟨cells, hc1, hc2⟩ := (field_built (w' := w1) ⟨ps, some g⟩ hp).2 v sub hv
    have hone : v.oneCell' = true := by
      obtain ⟨_, h1, _⟩ := hv
      exact h1.one
    refine s_val (v_build (cells := cells) B.field (fun p hp => ?_) ?_) ?_
    · rcases List.mem_append.1 hp with hp | hp
      · obtain ⟨q, _, rfl⟩ := List.mem_map.1 hp
        rfl
      · simp only [List.mem_singleton] at hp
        subst hp
        show (ev _ (.tmp n)).oneCell' = true
        rw [show ev (ext ρ n [v]) (.tmp n) = v from ext_at]
        exact hone
    · rw [List.map_append, List.map_map]
      have e1 : [(7, Operand.tmp n)].map (fun p : Nat × Operand => (p.1, ev (ext ρ n [v]) p.2)) = [(7, v)] := by
        simp only [List.map_cons, List.map_nil]
        rw [show ev (ext ρ n [v]) (.tmp n) = v from ext_at]
      rw [e1]
      exact hc1
    refine gFB_sem S B r fr (n + 2) (acc ++ [.tmp (n + 1)]) (accs ++ [f]) _ w1 hr ?_ (fun n' acc' ρ' w' hn kk hρ hacc hlen => ?_) (by simp [hl])
    · rw [he]
      have e0 : ev (ext (ext ρ n [v]) (n + 1) [.agg ⟨cells⟩]) (.tmp (n + 1)) = .agg ⟨cells⟩ := ext_at
      exact AccOk.snoc (by simp [opBelow]) e0 hc2 (AccOk.more (by omega) (fun x hx => (ev_ext (hx.mono (Nat.le_succ n))).trans (ev_ext hx)) k1 ha)
    · rw [List.append_assoc] at hacc hlen
      exact hk n' acc' ρ' w' (by omega) (k1.trans kk) (fun x hx => (hρ x (hx.mono (by omega))).trans ((ev_ext (hx.mono (Nat.le_succ n))).trans (ev_ext hx))) hacc hlen

theorem setRow (l : List Value) : ∀ (i : Nat) (acc : Array Value), i + l.length ≤ acc.size → (l.zipIdx i).foldl (fun (a : Array Value) (p : Value × Nat) => a.setIfInBounds p.2 p.1) acc = ⟨acc.toList.take i ++ l ++ acc.toList.drop (i + l.length)⟩ := by
  induction l with
  | nil =>
    intro i acc h
    apply Array.ext'
    simp
  | cons v l ih =>
    intro i acc h
    simp only [List.length_cons] at h
    simp only [List.zipIdx_cons, List.foldl_cons]
    rw [ih (i + 1) _ (by simp; omega)]
    apply Array.ext'
    simp only [Array.toList_setIfInBounds]
    rw [List.take_set, List.take_succ_eq_append_getElem (by simp; omega), List.set_append_right _ _ (by simp; omega)]
    have h3 : i - (acc.toList.take i).length = 0 := by simp; omega
    rw [h3, List.drop_set_of_lt (by omega)]
    simp only [List.set_cons_zero, List.append_assoc, List.singleton_append, List.length_cons]
    rw [show i + 1 + l.length = i + (l.length + 1) by omega]

theorem fill_rows {sz : Nat} : ∀ (xs : List (Value)) (css : List (List Value)) (k : Nat) (acc : Array Value), xs.map Value.cells = css.map (fun l => (⟨l⟩ : Array Value)) → (∀ l ∈ css, l.length = sz) → acc.size = (k + xs.length) * sz →
    Instr.fill (fun i => some (i * sz, sz)) acc ((xs.zipIdx k).map fun p => (p.2, p.1)) = some ⟨acc.toList.take (k * sz) ++ css.flatten⟩
  | [], css, k, acc, h1, h2, h3 => by
    have : css = [] := by simpa using h1.symm
    subst this
    simp only [List.zipIdx_nil, List.map_nil, Instr.fill, List.flatten_nil, List.append_nil, Option.some.injEq]
    apply Array.ext'
    simp only [List.length_nil, Nat.add_zero] at h3
    rw [List.take_of_length_le (by simp; omega)]
  | x :: xs, [], k, acc, h1, h2, h3 => by simp at h1
  | x :: xs, l :: css, k, acc, h1, h2, h3 => by
    simp only [List.map_cons, List.cons.injEq] at h1
    have hl := h2 l (by simp)
    simp only [List.length_cons] at h3
    have h4 : (k + 1 + xs.length) * sz = (k + (xs.length + 1)) * sz := by congr 1; omega
    have h5 : (k + (xs.length + 1)) * sz = k * sz + sz + xs.length * sz := by rw [Nat.add_mul, Nat.add_mul]; omega
    simp only [List.zipIdx_cons, List.map_cons]
    unfold Instr.fill
    simp only [h1.1]
    rw [if_neg (by simp [hl]; omega)]
    have e := setRow l (k * sz) acc (by rw [h3, h5, hl]; omega)
    have this : ∀ (l : List Value) (j m : Nat) (acc : Array Value), List.foldl (fun (cells : Array Value) (x : Value × Nat) => cells.setIfInBounds (m + x.2) x.1) acc (l.zipIdx j) = List.foldl (fun (a : Array Value) (p : Value × Nat) => a.setIfInBounds p.2 p.1) acc (l.zipIdx (m + j)) := by
      intro l
      induction l with
      | nil => intros; rfl
      | cons y l ih => intro j m acc; simp only [List.zipIdx_cons, List.foldl_cons]; rw [ih]; rfl
    have e2 : (Array.foldl (fun (cells : Array Value) (x : Value × Nat) => cells.setIfInBounds (k * sz + x.2) x.1) acc (Array.zipIdx (⟨l⟩ : Array Value))) = ⟨acc.toList.take (k * sz) ++ l ++ acc.toList.drop (k * sz + l.length)⟩ := by
      rw [← e, ← Array.foldl_toList, Array.toList_zipIdx]
      exact this l 0 (k * sz) acc
    have e3 : Instr.fill (fun i => some (i * sz, sz)) ⟨acc.toList.take (k * sz) ++ l ++ acc.toList.drop (k * sz + l.length)⟩ ((xs.zipIdx (k + 1)).map fun p => (p.2, p.1)) = some ⟨acc.toList.take (k * sz) ++ (l :: css).flatten⟩ := by
      have hk1 : k * sz ≤ acc.toList.length := by simp only [Array.length_toList]; omega
      have hk2 : (acc.toList.take (k * sz) ++ l).length = (k + 1) * sz := by rw [List.length_append, List.length_take, hl, Nat.min_eq_left hk1, Nat.add_mul]; omega
      rw [fill_rows xs css (k + 1) _ h1.2 (fun l' hl' => h2 l' (by simp [hl'])) (by
        simp only [List.size_toArray, List.length_append, List.length_take, List.length_drop, Array.length_toList]
        omega)]
      simp only [Option.some.injEq]
      rw [List.take_left' hk2, List.flatten_cons, List.append_assoc]
    exact (congrArg (fun a => Instr.fill (fun i => some (i * sz, sz)) a ((xs.zipIdx (k + 1)).map fun p => (p.2, p.1))) e2).trans e3

theorem idxd_map (ρ : Nat → Value) : ∀ (ops : List Operand) (k : Nat), (idxd k ops).map (fun p => (p.1, ev ρ p.2)) = ((ops.map (ev ρ)).zipIdx k).map fun p => (p.2, p.1)
  | [], _ => rfl
  | x :: r, k => by simp only [idxd, List.map_cons, List.zipIdx_cons, idxd_map ρ r (k + 1)]

/-- []T{x, y, ..} -/
theorem a_sliceMany {t e sz : Nat} {z : Value} {ops : List Operand} {css : List (List Value)} (ht : P.underlying t = some (.slice e)) (hz : zeroTy P e = some (z, sz)) (hpos : 0 < ops.length * sz) (hn : ops.length * sz ≤ 2 ^ 24)
    (hx : ops.map (fun x => (ev ρ x).cells) = css.map (fun l => (⟨l⟩ : Array Value))) (hl : ∀ l ∈ css, l.length = sz) :
    ∃ w', runOp P ρ (.buildSlice t ops.length ⟨idxd 0 ops⟩) w = .ok (.value (.slice (some ⟨w.heap.size, 0, none⟩) ops.length ops.length)) w' ∧ Has w' w.heap.size css.flatten ∧ Keeps [] w w' ∧ w'.heap.size = w.heap.size + 1 := by
  have hs := zeroTy_spec (w := w) hz
  refine ⟨{ w with heap := w.heap.push (.cells ⟨css.flatten⟩ e) }, ?_, has_alloc w _ e, keeps_alloc w _ _, by simp⟩
  have hfill := fill_rows (ops.map (ev ρ)) css 0 ((Array.range (ops.length * sz)).map (z.cells[· % z.cells.size]!)) (by rw [List.map_map]; exact hx) hl (by simp)
  rw [Nat.zero_mul, List.take_zero, List.nil_append] at hfill
  unfold runOp bareOp
  simp only [execOp, Instr.buildSlice, Sem.run_bind, run_under ht, Result.andThen_ok, size_run hs.2]
  rw [if_neg (by omega)]
  simp only [Sem.run_pure, Result.andThen_ok, if_neg (show ¬ ops.length * sz = 0 by omega), Sem.run_bind, hs.1]
  have e1 : (Array.map (fun x : Nat × Operand => (x.1, ev ρ x.2)) ⟨idxd 0 ops⟩).toList = ((ops.map (ev ρ)).zipIdx 0).map fun p => (p.2, p.1) := by
    rw [Array.toList_map]
    exact idxd_map ρ ops 0
  simp only [e1, hfill]
  simp [newRow]

theorem AccOk.list {n : Nat} : ∀ {xs : List Operand} {fs : List PF}, AccOk ρ w n xs fs → ∃ css : List (List Value), xs.map (fun x => (ev ρ x).cells) = css.map (fun l => (⟨l⟩ : Array Value)) ∧ (∀ l ∈ css, l.length = 8) ∧ FieldsC w fs css.flatten ∧ fs.length = xs.length ∧ css.length = xs.length
  | [], _, h => by simp only [AccOk] at h; subst h; exact ⟨[], rfl, (fun l hl => by cases hl), rfl, rfl, rfl⟩
  | x :: r, _, ⟨f, fr, cs, e, h1, h2, h3, h4⟩ => by
    obtain ⟨css, g1, g2, g3, g4, g5⟩ := AccOk.list h4
    subst e
    refine ⟨cs :: css, ?_, fun l hl => ?_, ⟨cs, css.flatten, rfl, h3, g3⟩, by simp [g4], by simp [g5]⟩
    · simp only [List.map_cons, h2, g1]
      rfl
    · rcases List.mem_cons.1 hl with rfl | hl
      · exact h3.len
      · exact g2 l hl

/-- The list of fields, behind their building. -/
theorem s_fieldList {acc : List Operand} {fs : List PF} (S : SpFacts P c s) (ha : AccOk ρ w n acc fs) (h0 : 0 < acc.length) (h1 : acc.length ≤ 1000) (hk : ∀ v w', FieldsV w' fs v → Keeps [] w w' → k.sem P R Γ (n + 1) (ext ρ n [v]) w') :
    (Tr.op (.buildSlice s.fields acc.length ⟨idxd 0 acc⟩) none [] k).sem P R Γ n ρ w := by
  obtain ⟨css, g1, g2, g3, g4, g5⟩ := ha.list
  obtain ⟨z, hz, _⟩ := S.zField
  obtain ⟨w', e1, hh, kk, _⟩ := a_sliceMany (P := P) (ρ := ρ) (w := w) (sz := 8) S.sl hz (by omega) (by omega) g1 g2
  refine s_act e1 (fun p hp => by cases hp) (hk _ w' ⟨css.flatten, ?_, FieldsC.keep kk fs _ g3⟩ kk)
  have hfl : ∀ l : List (List Value), (∀ x ∈ l, x.length = 8) → l.flatten.length = l.length * 8 := by
    intro l
    induction l with
    | nil => intro _; rfl
    | cons x l ih => intro h; rw [List.flatten_cons, List.length_append, ih fun y hy => h y (by simp [hy]), h x (by simp), List.length_cons]; omega
  refine ⟨by rw [hfl css g2, g5, g4], .inr ⟨w.heap.size, 0, acc.length, by rw [g4], hh.lt, by omega, fun i hi => ?_⟩⟩
  rw [Nat.zero_add]
  have hi' : i < css.flatten.length := by rw [hfl css g2, g5, ← g4]; exact hi
  rw [List.getElem?_eq_getElem hi']
  exact hh.cell (List.getElem?_eq_getElem hi')

theorem FbsOk.len : ∀ {fbs : List FB} {fs : List PF}, FbsOk P fbs fs → fs.length = fbs.length
  | [], _, h => by simp only [FbsOk] at h; subst h; rfl
  | _ :: r, _, ⟨f, fr, e, _, _, h⟩ => by subst e; simp [FbsOk.len h]

theorem msgFn_gives (S : SpFacts P c s) (B : FbFacts P s) {f : Nat} {fbs : List FB} {fs : List PF} {x : Int} (hT : treeIn P f noOrc [] 0 = gMsgFn s fbs x) (hf : FbsOk P fbs fs) (h0 : Nat.blt 0 fbs.length = true) (h1 : Nat.ble fbs.length 1000 = true) : MsgFn P f fs x := by
  intro w
  have hl := hf.len
  have q0 : 0 < fbs.length := Nat.le_of_ble_eq_true h0
  have q1 : fbs.length ≤ 1000 := Nat.le_of_ble_eq_true h1
  refine gives_in (ρ := en []) S.rd.mix hT (Nat.le_refl _) rfl (by simp) ?_
  refine s_alloc B.zero fun w1 hz1 k1 z1 => ?_
  refine gFB_sem S B fbs fs 1 [] [] _ w1 hf rfl (fun n' acc' ρ' w' hn kk hρ ha hlen => ?_) rfl
  rw [List.nil_append] at ha hlen
  have hr0 : ρ' 0 = ptr w.heap.size := hρ (.tmp 0) (by simp [opBelow])
  refine s_fieldList S ha (by omega) (by omega) fun v w2 hv k2 => ?_
  have hone : v.oneCell' = true := by
    obtain ⟨_, h1, _⟩ := hv
    exact h1.one
  have ev1 : ev (ext ρ' n' [v]) (.tmp n') = v := ext_at
  refine s_val (v_build (cells := [v, .int .i64 x]) B.msg (fun p hp => ?_) ?_) ?_
  · simp only [List.mem_cons, List.not_mem_nil, or_false] at hp
    rcases hp with rfl | rfl
    · rfl
    · rw [ev1]; exact hone
  · simp only [List.map_cons, List.map_nil, ev1]
    rfl
  have hz2 := (hz1.keep kk (by simp)).keep k2 (by simp)
  refine s_storeAll (b := w.heap.size) (old := [.slice none 0 0, .int .i64 0]) (cs := [v, .int .i64 x]) S.msg ?_ ?_ hz2 rfl (fun u hu => ?_) fun w3 h3 k3 => ?_
  · show ext _ _ _ 0 = _
    rw [ext_lt (by omega), ext_lt (by omega)]
    exact hr0
  · rw [show ev (ext (ext ρ' n' [v]) (n' + 1) [.agg ⟨[v, .int .i64 x]⟩]) (.tmp (n' + 1)) = .agg ⟨[v, .int .i64 x]⟩ from ext_at]
    rfl
  · simp only [List.mem_cons, List.not_mem_nil, or_false] at hu
    rcases hu with rfl | rfl
    · exact hone
    · rfl
  have k03 : Keeps [] w w3 := ((((k1.trans kk).trans k2).mono (by simp)).trans k3).less fun x hx => .inr (by simp only [List.mem_singleton] at hx; omega)
  refine s_retAgg (b := w.heap.size) (cs := [v, .int .i64 x]) ?_ h3 S.msg ⟨⟨v, rfl, ?_⟩, k03⟩
  · show ext _ _ _ 0 = _
    rw [ext_lt (by omega), ext_lt (by omega), ext_lt (by omega)]
    exact hr0
  · obtain ⟨cs, f1, f2⟩ := hv
    exact ⟨cs, Ro.keepSmall hz2 (by decide) k3 f1, FieldsC.keepSmall hz2 (by decide) k3 fs cs f2⟩

end

end Go.Kf


namespace Go.Kf

open Go

section

variable {P : Program} {c : Nums} {s : SN} {w : World}

theorem DataIn.of_own {v : Value} {l : List UInt8} (h : Own w v 1 l.length (bcells l)) : DataIn w v l := by
  rcases h.2 with ⟨rfl, h0⟩ | ⟨b, cap, spare, rfl, hh, hc, _, _⟩
  · exact .inl ⟨rfl, List.eq_nil_of_length_eq_zero h0⟩
  · refine .inr ⟨_, cap, rfl, fun i hi => ?_⟩
    rw [addr_add, Nat.zero_add]
    refine hh.cell ?_
    rw [List.getElem?_append_left (by rw [bcells_length]; exact hi)]
    simp [bcells, hi]

theorem FieldsV.keepSmall {w' : World} {b : Nat} {ds : List Value} (hb : Has w b ds) (hs : ds.length < 8) (hk : Keeps [b] w w') {fs : List PF} {v : Value} (h : FieldsV w fs v) : FieldsV w' fs v := by
  obtain ⟨cs, h1, h2⟩ := h
  exact ⟨cs, h1.keepSmall hb hs hk, FieldsC.keepSmall hb hs hk fs cs h2⟩

end

end Go.Kf



namespace Go.Kf

open Go

def PT.setN (x : Int) : PT → PT | .mk _ s nl l u => .mk x s nl l u

theorem TreeAt.setN {w : World} {A : Nat → Prop} {t : PT} {cs : List Value} (x : Int) (h : TreeAt w A t cs) : TreeAt w A (t.setN x) (cs.set 0 (.int .i64 x)) := by
  cases t with
  | mk n s nl l u =>
    obtain ⟨sv, lv, uv, lcs, rfl, h1, h2, h3, h4, h5⟩ := h
    exact ⟨sv, lv, uv, lcs, rfl, h1, h2, h3, h4, h5⟩

/-- The version that has been read. -/
def verOf : List FV → Int
  | .one (.int _ x) :: _ => x
  | _ => 0

/-- What octets are told as. -/
def kOut (ss : List Step) (fs1 : List FV) (g : List FV → PT) (l : List UInt8) : Option PT := match runSteps ss fs1 ⟨l, false, l.isEmpty⟩ with
  | some (fs, r) => if r.bad then none else some ((g fs).setN (verOf fs))
  | none => none

theorem kOut_same {ss ss' : List Step} (h : eraseSs ss = eraseSs ss') (fs1 : List FV) (g : List FV → PT) (l : List UInt8) : kOut ss fs1 g l = kOut ss' fs1 g l := by
  unfold kOut
  rw [← runSteps_erase ss, h, runSteps_erase]

/-- The cell of the version. -/
theorem ver_cell {D lo : Nat} {w : World} {fs : List FV} {mid : List Value} {ts : List Ty} (hok : okFs fs (.num .i16 :: ts)) (hf : FsAt D w lo fs mid) : mid[0]? = some (.int .i16 (verOf fs)) ∧ IntKind.i16.wrap (verOf fs) = verOf fs := by
  match fs, hok with
  | f :: fs, hok =>
    obtain ⟨g, hg, h0⟩ := okFs_get (i := 0) hok rfl
    obtain ⟨x, rfl, hx⟩ := okF_num h0
    obtain rfl : f = .one (.int .i16 x) := by simpa using hg
    obtain ⟨a1, m1, z1, em, ha1, hm1, _⟩ := hf.split (i := 0) (f := .one (.int .i16 x)) rfl
    have : a1 = [] := List.eq_nil_of_length_eq_zero (by rw [ha1]; rfl)
    subst this
    refine ⟨?_, hx⟩
    rw [em, hm1.1]
    rfl

/-- The reading and the telling of what is kept. -/
def KeptRT (P : Program) (c : Nums) (fRead fTell : Nat) (mid0 : List Value) (e0 : Value) (out : List UInt8 → Option PT) (l : List UInt8) : Prop := ∀ (w : World) (V D : Nat) (src : Value), Has w V mid0 → Reads w src 1 l.length (bcells l) → nilOf src = l.isEmpty → (∀ b ∈ blkOf src, b = D) → D < w.heap.size → V ≠ D → ErrAt w c.gErr e0 → c.gErr ≠ V →
  Gives P fRead [ptr V, src] w fun u w' => Keeps [V] w w' ∧ match out l with
    | some t => u = .nilIface ∧ ∃ t0 ver mid, t = t0.setN ver ∧ IntKind.i16.wrap ver = ver ∧ Has w' V mid ∧ mid[0]? = some (.int .i16 ver) ∧ Gives P fTell [ptr V] w' fun v w2 => (∃ cs, v = .agg ⟨cs⟩ ∧ TreeAt w2 (fun b => w'.heap.size ≤ b) t0 cs) ∧ Keeps [] w' w2
    | none => u = e0

theorem keptRT_of {P : Program} {c : Nums} {e : Fns} {f g fTell S fDef f16 : Nat} {ds : List Dset} {ls : List Nat} {ss : List Step} {vo : Option Int} {orc : Nat → Option Value} {uns : Bool} {fs0 fs1 : List FV} {mid0 mid1 : List Value} {ts : List Ty} {gp : List FV → PT} (F : RdFacts P c) (A : RfFacts P c S) (hOk : hasRet ss = true → OkGives P e.ok) (hCo : CompGives P e.complete c.gErr) (h16 : RdAny P f16 (.num 2 .i16)) (hsz16 : (P.info? c.tI16).map (·.size) = some 1) (hpl : PlaceOk P S ls 0 0 1)
    (hT : treeIn P g orc [.tmp 0, .tmp 1, .const (.bool uns)] 3 = gReadFromK c e S fDef f16 vo ss) (hW : treeIn P f noOrc [.tmp 0, .tmp 1] 2 = tWrap g uns) (hDef : DefSets P fDef ls ds) (hok : StepsOk P c S ls ss) (hdeep : deepsOk ss = true) (hsh : shapesOk fs0 ds = true) (h0 : fs0.map FV.wd = ls) (h01 : applyD ds fs0 = fs1)
    (himm0 : immL fs0 = some mid0) (himm : immL fs1 = some mid1) (hidx : ∀ x : FV, idxOk (fs1.set 0 x) ss = true) (hl1 : fs1.map FV.wd = ls) (hty : tySteps (.num .i16 :: ts) (verStep c f16 :: ss) = true) (htd : okImms fs1 (.num .i16 :: ts) = true) (hTell : TellOf P fTell (.num .i16 :: ts) gp) {e0 : Value} {l : List UInt8}
    (hv : ∀ x r', (PK.num 2 .i16).run ⟨l, false, l.isEmpty⟩ = (x, r') → ∀ y, vo = some y → x = .one (.int .i16 y)) (hl : l.length ≤ 1073741824) : KeptRT P c f fTell mid0 e0 (kOut (verStep c f16 :: ss) fs1 gp) l := by
  intro w V D src hV hr hn hb hD hVD he hgV
  refine wrap_gives F.mix hW ((readFromK_gives F A hOk hCo h16 hsz16 hpl hT hDef hok hdeep hsh h0 h01 himm hidx hl1 (by rw [hn]; exact hv) hV (fun D lo => immL_at himm0 D w lo) hr hb hD hVD he hgV hl).mono fun u w' ⟨kk, hp⟩ => ⟨kk, ?_⟩)
  rw [hn] at hp
  unfold kOut
  cases hrun : runSteps (verStep c f16 :: ss) fs1 ⟨l, false, l.isEmpty⟩ with
  | none => rw [hrun] at hp; exact hp
  | some x =>
    obtain ⟨fs, r⟩ := x
    rw [hrun] at hp
    simp only [RfPost] at hp
    cases hbad : r.bad with
    | true =>
      rw [hbad] at hp
      simp only [hbad, if_true] at hp ⊢
      exact hp
    | false =>
      rw [hbad] at hp
      obtain ⟨hu, mid, hm, hf⟩ := hp
      simp only [hbad, Bool.false_eq_true, if_false]
      have hokf := runSteps_ok _ _ fs1 _ fs r hty (okImms_ok htd) hl hrun
      have hvc := ver_cell hokf hf
      exact ⟨hu, gp fs, verOf fs, mid, rfl, hvc.2, hm, hvc.1, hTell w' D V w.heap.size [] [] mid fs hokf (by simpa using hm) hf⟩

end Go.Kf


namespace Go.Kf

open Go

def tKept (c : Nums) (s : SN) : Tr :=
  .op (.box s.msg (.tmp 0)) none [] <| .op (.box c.sTree (.tmp 2)) none [] <| .draw <| .lok (.load s.msg (.tmp 3)) none <| .lok (.load c.sTree (.tmp 4)) none <|
  .op (callOp s.fixed [.tmp 1, .const (.int .i64 2)]) none [(.load c.sTree (.tmp 4), 6), (.load s.msg (.tmp 3), 5)] <| .op (callOp s.write [.tmp 5, .tmp 1, .tmp 6]) none [] <|
  .op (.call { callee := .builtin .append, args := ⟨[.tmp 7, .tmp 8]⟩, argTypes := ⟨[c.tBytes, c.tBytes]⟩ }) none [] <| .ret [(.tmp 9, none)]

def pKept (fs : List PF) (x v : Int) (t : PT) : List UInt8 := pFixed v 2 ++ pWrite fs x v t

section

variable {P : Program} {c : Nums} {s : SN} {w : World}

theorem kept_gives {f : Nat} (S : SpFacts P c s) (T : SpTrees P c s) (hT : treeIn P f noOrc [.tmp 0, .tmp 1, .tmp 2] 3 = tKept c s) {fs : List PF} (h : PF.plains fs = true) (hlen : fs.length < 65536) {fv : Value} {t : PT} {ts : List Value} (x v : Int) (hfv : FieldsV w fs fv) (ht : TreeC w t ts) (hok : t.ok) (hl : (pKept fs x v t).length ≤ maxW) :
    YieldsO P f [.agg ⟨[fv, .int .i64 x]⟩, .int .i64 v, .agg ⟨ts⟩] w (pKept fs x v t) := by
  have htl := ht.len
  have hl2 : (pFixed v 2 ++ pWrite fs x v t).length ≤ maxW := hl
  rw [List.length_append] at hl2
  refine gives_in (ρ := en [_, _, _]) S.rd.mix hT (Nat.le_refl _) rfl (by simp [opBelow]) ?_
  refine s_box rfl fun w1 hx1 k1 z1 => ?_
  refine s_box rfl fun w2 hy2 k2 z2 => ?_
  have hx2 := hx1.keep k2 (by simp)
  show Tr.sem _ _ _ _ _ _ { w2 with drawn := w2.drawn + 1 }
  have hd : Keeps [] w2 { w2 with drawn := w2.drawn + 1 } := keeps_drawn w2 _ _
  generalize ({ w2 with drawn := w2.drawn + 1 } : World) = w3 at hd ⊢
  have hx3 := hx2.keep hd (by simp)
  have hy3 := hy2.keep hd (by simp)
  have k03 := (k1.trans k2).trans hd
  refine l_lok (l_loadN (b := w.heap.size) (o := 0) S.msg rfl hx3 (Nat.le_refl _)) ?_
  rw [show (([fv, Value.int .i64 x].drop 0).take 2) = [fv, .int .i64 x] from rfl]
  refine l_lok (l_loadN (b := w1.heap.size) (o := 0) S.ty.agg rfl hy3 (by omega)) ?_
  rw [take0 htl]
  refine s_callO (fixed_gives S T.fixed v 2 (by decide)) rfl fun u w4 hM => ⟨?_, ?_⟩
  · intro p hp
    simp only [List.mem_cons, List.not_mem_nil, or_false] at hp
    rcases hp with rfl | rfl
    · have := l_loadN (P := P) (ρ := en []) (w := w4) (x := .const (ptr w1.heap.size)) (b := w1.heap.size) (o := 0) S.ty.agg rfl (hy3.keep hM.2.2 (by simp)) (by omega)
      rw [take0 htl] at this
      exact this
    · exact l_loadN (P := P) (ρ := en []) (w := w4) (x := .const (ptr w.heap.size)) (b := w.heap.size) (o := 0) S.msg rfl (hx3.keep hM.2.2 (by simp)) (Nat.le_refl _)
  have k04 := k03.trans hM.2.2
  refine s_callO (write_gives S T h hlen x v (hfv.keep k04) (TreeC.keep k04 _ _ ht) hok (by omega)) rfl fun u2 w5 hM2 => ⟨fun p hp => (by cases hp), ?_⟩
  have hm : MadeO w3 w5 u (pFixed v 2) := MadeO.more hM hM2.2.2
  refine s_appendO (v := u) (u := u2) (l1 := pFixed v 2) (l2 := pWrite fs x v t) S rfl rfl hm (hM2.1.reads.src S.rd.bytes (bcells_one _)) (by rw [List.length_append]; exact hl2) fun v' w6 hm6 _ => ⟨fun p hp => (by cases hp), ?_⟩
  exact s_ret1 ⟨hm6.1, fun b hb => Nat.le_trans k03.size (hm6.2.1 b hb), k03.trans hm6.2.2⟩

end

end Go.Kf


namespace Go.Kf

open Go

/-- kmsg.New..: a struct set to its defaults, as a value. -/
def tNewV (S fDef : Nat) : Tr := .op (.alloc S) none [] <| .op (.alloc S) none [] <| .op (callOp fDef [.tmp 1]) none [] <| .op (.load S (.tmp 1)) none [] <| .op (.store S (.tmp 0) (.tmp 3)) none [] <| .ret [(.tmp 0, some S)]

def NewVOk (P : Program) (f : Nat) (mid : List Value) : Prop := ∀ w : World, Gives P f [] w fun v w' => v = .agg ⟨mid⟩ ∧ Keeps [] w w'

def tKeptDoor (c : Nums) (S fNew fRead fTell : Nat) : Tr :=
  .op (.alloc c.tTree) none [] <| .op (callOp fNew []) none [] <| .op (.alloc S) none [] <| .op (.store S (.tmp 3) (.tmp 2)) none [] <|
  .op (.call { callee := .builtin .append, args := ⟨[nilV, .tmp 0]⟩, argTypes := ⟨[c.tBytes, c.tBytes]⟩ }) none [] <| .op (callOp fRead [.tmp 3, .tmp 5]) none [] <| .op (.binOp .neq c.tErr (.tmp 6) (.const .nilIface) c.tErr) none [] <|
  .cond (.tmp 7) (.op (.build c.tTree ⟨[]⟩) none [] <| .op (.store c.tTree (.tmp 1) (.tmp 8)) none [] <| .ret [(.tmp 1, some c.tTree), (.const (.bool false), none)]) <|
  .op (callOp fTell [.tmp 3]) none [] <| .op (.alloc c.tTree) none [] <| .op (.store c.tTree (.tmp 9) (.tmp 8)) none [] <|
  .op (.fieldAddr S (.tmp 3) 0) none [] <| .op (.load c.tI16 (.tmp 11)) none [] <| .op (.convert c.tI16 c.tI64 (.tmp 12)) none [] <| .op (.fieldAddr c.tTree (.tmp 9) 0) none [] <| .op (.store c.tI64 (.tmp 14) (.tmp 13)) none [] <|
  .op (.load c.tTree (.tmp 9)) none [] <| .op (.store c.tTree (.tmp 1) (.tmp 16)) none [] <| .ret [(.tmp 1, some c.tTree), (.const (.bool true), none)]

section

variable {P : Program} {c : Nums} {w : World}

theorem newV_gives {f S fDef s : Nat} {z : Value} {dflt : List FV} {mid : List Value} (hmix : P.follows .mixedOrders = true) (hz : zeroTy P S = some (z, s)) (hagg : aggTy P S = some mid.length) (hzl : z.cells.toList.length = mid.length) (hones : mid.all (·.oneCell') = true) (hD : DefOk P fDef S dflt) (hmid : immL dflt = some mid) (hT : treeIn P f noOrc [] 0 = tNewV S fDef) : NewVOk P f mid := by
  intro w
  refine gives_in (ρ := en []) hmix hT (Nat.le_refl _) rfl (by simp) ?_
  obtain ⟨z', dc, hz', hdc, hdef⟩ := hD
  obtain rfl : z' = z := by
    unfold zeroTy at hz
    cases hi : P.info? S with
    | none => rw [hi] at hz'; cases hz'
    | some inf =>
      rw [hi] at hz'
      simp only [Option.map_some, Option.some.injEq] at hz'
      rw [hi] at hz
      simp only [hz', Option.some.injEq, Prod.mk.injEq] at hz
      exact hz.1
  refine s_alloc hz fun w0 h0 k0 z0 => ?_
  refine s_alloc hz fun w1 h1 k1 z1 => ?_
  have h2 := hdef w1 w0.heap.size [] [] (by simpa using h1)
  refine s_callx h2 rfl fun v w2 ⟨h3, k2⟩ => ?_
  have : dc = mid := immL_eq hmid (hdc 0 w 0)
  subst this
  have h3' : Has w2 w0.heap.size dc := by simpa using h3
  have hl := l_loadN (P := P) (ρ := ext (ext (ext (en []) 0 [ptr w.heap.size]) 1 [ptr w0.heap.size]) 2 [v]) (w := w2) (x := .tmp 1) (b := w0.heap.size) (o := 0) hagg rfl h3' (by omega)
  rw [List.drop_zero, List.take_of_length_le (Nat.le_refl _)] at hl
  refine s_lok hl ?_
  have h02 : Has w2 w.heap.size z'.cells.toList := (h0.keep k1 (by simp)).keep k2 (by simp; omega)
  refine s_storeAll (b := w.heap.size) (old := z'.cells.toList) (cs := dc) hagg rfl rfl h02 hzl (fun u hu => List.all_eq_true.1 hones u hu) fun w3 h3 k3 => ?_
  refine s_retAgg (b := w.heap.size) rfl h3 hagg ⟨rfl, ?_⟩
  · exact (((k0.trans (k1.mono (by simp))).mono (by simp)).trans ((k2.mono (M' := [w.heap.size, w0.heap.size]) (by simp)).trans (k3.mono (by simp)))).less fun x hx => .inr (by simp only [List.mem_cons, List.not_mem_nil, or_false] at hx; omega)

theorem keptDoor_gives {f fNew fRead fTell S s : Nat} {z : Value} {mid : List Value} {e0 : Value} {out : List UInt8 → Option PT} {data : Value} {l : List UInt8} (F : RdFacts P c) (O : OctFacts P c) (K : TellFacts P c) (Z : TyFacts P c c.tTree c.tTrees c.tTagL c.tTag) (hT : treeIn P f noOrc [.tmp 0] 1 = tKeptDoor c S fNew fRead fTell)
    (herr : ∃ ms, P.underlying c.tErr = some (.interface ms)) (he0 : ∃ d y, e0 = .iface d y) (hN : NewVOk P fNew mid) (hz : zeroTy P S = some (z, s)) (hzl : z.cells.toList.length = mid.length) (hagg : aggTy P S = some mid.length) (hones : mid.all (·.oneCell') = true) (hS0 : fieldOff P S 0 = some 0) (hone : oneTy P c.tI16 = true)
    (hRT : KeptRT P c fRead fTell mid e0 out l) (hl : l.length ≤ 1073741824) (hr : DataIn w data l) (he : ErrAt w c.gErr e0) : Gives P f [data] w fun v w' => DoorPost w w' v (out l) ∧ Keeps [] w w' := by
  refine gives_in (ρ := en [data]) F.mix hT (Nat.le_refl _) rfl (by simp [opBelow]) ?_
  refine s_alloc K.zero fun w1 h1 k1 z1 => ?_
  refine s_callx (hN w1) rfl fun v w2 ⟨hv, k2⟩ => ?_
  subst hv
  refine s_alloc hz fun w3a h3a k3a z3a => ?_
  refine s_storeAll (b := w2.heap.size) (old := z.cells.toList) (cs := mid) hagg rfl rfl h3a hzl (fun u hu => List.all_eq_true.1 hones u hu) fun w3 h3 k3b => ?_
  have s2 := k2.size
  have k23 : Keeps [] w2 w3 := ((k3a.mono (by simp)).trans k3b).less fun x hx => .inr (by simp only [List.mem_singleton] at hx; omega)
  have s3 := k23.size
  have k13 : Keeps [] w1 w3 := k2.trans k23
  have k03 := k1.trans k13
  have hr3 := hr.keep k03
  obtain ⟨src, w4, e4, ho4, k4, hb4, hnil⟩ := copy_octets (ρ := ext (ext (ext (ext (en [data]) 1 [ptr w.heap.size]) 2 [.agg ⟨mid⟩]) 3 [ptr w2.heap.size]) 4 [undef]) (x := .tmp 0) (v := data) F O rfl hr3 hl
  refine s_act e4 (fun p hp => (by cases hp)) ?_
  have h4 := h3.keep k4 (by simp)
  have k04 := k03.trans k4
  have he4 := he.keep k04 (by simp)
  have s4 := k4.size
  have hgl := he.2
  have hV4 := h4.lt
  obtain ⟨D, hD1, hD2, hD3⟩ : ∃ D, (∀ b ∈ blkOf src, b = D) ∧ D < w4.heap.size ∧ w2.heap.size ≠ D := by
    rcases ho4.2 with ⟨rfl, _⟩ | ⟨b, cap, spare, rfl, hh, _⟩
    · exact ⟨c.gErr, (fun b hb => by cases hb), by omega, by omega⟩
    · exact ⟨b, (fun x hx => by simpa [blkOf] using hx), hh.lt, by have := hb4 b (by simp [blkOf]); have := h3.lt; omega⟩
  refine s_callx (hRT w4 w2.heap.size D src h4 ho4.reads hnil hD1 hD2 hD3 he4 (by omega)) rfl fun u w5 ⟨k5, hout⟩ => ?_
  have h15 : Has w5 w.heap.size zeroTree := ((h1.keep k13 (by simp)).keep k4 (by simp)).keep k5 (by simp; omega)
  have k05 : Keeps [] w w5 := ((k04.mono (by simp)).trans k5).less fun x hx => .inr (by simp only [List.mem_singleton] at hx; omega)
  obtain ⟨ms, hms⟩ := herr
  cases ho : out l with
  | none =>
    rw [ho] at hout
    subst hout
    obtain ⟨d, y, rfl⟩ := he0
    refine s_val (v_neqNil (v := .iface d y) (r := true) hms rfl (.inr ⟨d, y, rfl, rfl⟩)) ?_
    refine s_cond (b := true) rfl (fun _ => ?_) (fun h => by cases h)
    refine s_val (v_build (cells := zeroTree) K.plan (fun p hp => by cases hp) rfl) ?_
    refine s_storeAll (b := w.heap.size) (old := zeroTree) (cs := zeroTree) Z.agg rfl rfl h15 rfl (zeroTree_at w (fun _ => True)).ones fun w6 h6 k6 => ?_
    refine s_retTold (b := w.heap.size) rfl h6 Z.agg ⟨rfl, ?_⟩
    exact ((k05.mono (by simp)).trans k6).less fun x hx => .inr (by simp only [List.mem_singleton] at hx; omega)
  | some t =>
    rw [ho] at hout
    obtain ⟨rfl, t0, ver, mid', rfl, hver, hm5, hmv, hTell⟩ := hout
    refine s_val (v_neqNil (v := .nilIface) (r := false) hms rfl (.inl ⟨rfl, rfl⟩)) ?_
    refine s_cond (b := false) rfl (fun h => by cases h) fun _ => ?_
    refine s_callx hTell rfl fun v w6 ⟨⟨cs, hv, ht⟩, k6⟩ => ?_
    subst hv
    have hcl := ht.len
    have s5 := k5.size
    have s6 := k6.size
    refine s_alloc K.zero fun w7 h7 k7 z7 => ?_
    refine s_storeAll (b := w6.heap.size) (old := zeroTree) (cs := cs) (by rw [hcl]; exact Z.agg) rfl rfl h7 (by rw [hcl]; rfl) ht.ones fun w8 h8 k8 => ?_
    have k68 : Keeps [] w6 w8 := ((k7.mono (by simp)).trans k8).less fun x hx => .inr (by simp only [List.mem_singleton] at hx; omega)
    have hm8 := (hm5.keep k6 (by simp)).keep k68 (by simp)
    refine s_fl (b := w2.heap.size) (o := 0) hS0 hone rfl rfl hm8 hmv ?_
    refine s_val (v_conv (k1 := .i16) (k2 := .i64) (a := ver) F.i16 Z.i64 rfl) ?_
    have hver64 : IntKind.i64.wrap ver = ver := by
      simp only [IntKind.wrap, IntKind.bits, IntKind.signed] at hver ⊢
      simp at hver ⊢
      omega
    rw [hver64]
    refine s_val (v_field (b := w6.heap.size) (o := 0) Z.f0 rfl) ?_
    obtain ⟨w9, e9, h9, k9⟩ := a_store1 (P := P) (w := w8) (t := c.tI64) (x := .tmp 14) (y := .tmp 13) (b := w6.heap.size) (o := 0) (v := .int .i64 ver) (ρ := ext (ext (ext (ext (ext (ext (ext (ext (ext (ext (ext (ext (ext (ext (en [data]) 1 [ptr w.heap.size]) 2 [.agg ⟨mid⟩]) 3 [ptr w2.heap.size]) 4 [undef]) 5 [src]) 6 [.nilIface]) 7 [.bool false]) 8 [.agg ⟨cs⟩]) 9 [ptr w6.heap.size]) 10 [undef]) 11 [ptr w2.heap.size]) 12 [.int .i16 ver]) 13 [.int .i64 ver]) 14 [ptr w6.heap.size]) Z.oneI64 rfl rfl rfl h8 (by omega)
    refine s_unit e9 (fun p hp => (by cases hp)) ?_
    have htr := ht.setN ver
    have k89 : Keeps [] w6 w9 := ((k68.mono (by simp)).trans k9).less fun x hx => .inr (by simp only [List.mem_singleton] at hx; omega)
    have hl9 := l_loadN (P := P) (ρ := ext (ext (ext (ext (ext (ext (ext (ext (ext (ext (ext (ext (ext (ext (ext (en [data]) 1 [ptr w.heap.size]) 2 [.agg ⟨mid⟩]) 3 [ptr w2.heap.size]) 4 [undef]) 5 [src]) 6 [.nilIface]) 7 [.bool false]) 8 [.agg ⟨cs⟩]) 9 [ptr w6.heap.size]) 10 [undef]) 11 [ptr w2.heap.size]) 12 [.int .i16 ver]) 13 [.int .i64 ver]) 14 [ptr w6.heap.size]) 15 [undef]) (w := w9) (x := .tmp 9) (b := w6.heap.size) (o := 0) Z.agg rfl h9 (by simp; omega)
    rw [show ((cs.set 0 (.int .i64 ver)).drop 0).take 5 = cs.set 0 (.int .i64 ver) by rw [List.drop_zero, List.take_of_length_le (by simp; omega)]] at hl9
    refine s_lok hl9 ?_
    have hsl : (cs.set 0 (.int .i64 ver)).length = 5 := by simp [hcl]
    refine s_storeAll (b := w.heap.size) (old := zeroTree) (cs := cs.set 0 (.int .i64 ver)) (by rw [hsl]; exact Z.agg) rfl rfl ((h15.keep k6 (by simp)).keep k89 (by simp)) (by rw [hsl]; rfl) htr.ones fun wa ha ka => ?_
    refine s_retTold (b := w.heap.size) rfl ha (by rw [hsl]; exact Z.agg) ⟨⟨_, rfl, ?_⟩, ?_⟩
    · exact TreeAt.keep ((k89.mono (by simp)).trans ka) (fun b hb h' => by simp only [List.mem_singleton] at hb; omega) (fun b h' _ => by omega) _ _ htr
    · exact ((((k05.trans k6).trans k89).mono (by simp)).trans ka).less fun x hx => .inr (by simp only [List.mem_singleton] at hx; omega)

/-- The law that both ways of reading what is kept tell the same. -/
def tUnsafeLawK (c : Nums) (fMsg fKept fTell fUns fGot fSame : Nat) : Tr :=
  .op (.call { callee := .builtin .len, args := ⟨[.tmp 0]⟩, argTypes := ⟨[c.tBytes]⟩ }) none [] <| .op (.binOp .gtr c.tInt (.tmp 1) (.const (.int .i64 2147483647)) c.tInt) none [] <|
  .cond (.tmp 2) (.ret [(.const (.bool true), none)]) <| .op (.call { callee := .builtin .len, args := ⟨[.tmp 0]⟩, argTypes := ⟨[c.tBytes]⟩ }) none [] <| .op (.binOp .gtr c.tInt (.tmp 3) (.const (.int .i64 1000)) c.tInt) none [] <|
  .cond (.tmp 4) (.ret [(.const (.bool true), none)]) <| .op (callOp fMsg []) none [] <| .op (.build c.sTree ⟨[]⟩) none [] <| .op (callOp fKept [.tmp 5, .const (.int .i64 0), .tmp 6]) none [] <| .op (callOp fTell [.tmp 7]) none [] <| .op (.extract (.tmp 8) 0) none [] <| .op (.extract (.tmp 8) 1) none [] <| .op (.alloc c.tTree) none [] <| .op (.store c.tTree (.tmp 11) (.tmp 9)) none [] <|
  .op (callOp fTell [.tmp 0]) none [] <| .op (.extract (.tmp 13) 0) none [] <| .op (.extract (.tmp 13) 1) none [] <| .op (.alloc c.tTree) none [] <| .op (.store c.tTree (.tmp 16) (.tmp 14)) none [] <|
  .op (callOp fUns [.tmp 0]) none [] <| .op (.extract (.tmp 18) 0) none [] <| .op (.extract (.tmp 18) 1) none [] <| .op (.alloc c.tTree) none [] <| .op (.store c.tTree (.tmp 21) (.tmp 19)) none [] <| .draw <|
  .cond (.tmp 10) (.pur (.binOp .eql c.tBool (.tmp 15) (.tmp 20) c.tBool) none <|
  .cond (.tmp 23) (.pur (.unOp .not c.tBool (.tmp 15)) none <| .cond (.tmp 24) (.ret [(.const (.bool true), none)]) <| .lok (.load c.tTree (.tmp 16)) none <| .lok (.load c.tTree (.tmp 21)) none <|
    .op (callOp fGot [.tmp 25]) none [(.load c.tTree (.tmp 21), 26)] <| .op (callOp fGot [.tmp 26]) none [] <| .op (callOp fSame [.tmp 27, .tmp 28]) none [] <| .ret [(.tmp 29, none)]) (.ret [(.const (.bool false), none)])) (.ret [(.const (.bool false), none)])

theorem unsafeLawK_gives {s : SN} {f fMsg fKept fTell fUns fGot fSame : Nat} {fs : List PF} {x : Int} {data : Value} {l : List UInt8} {e0 : Value} {out : List UInt8 → Option PT} (S : SpFacts P c s) (T : SpTrees P c s) (K : TellFacts P c) (Z : TyFacts P c c.tTree c.tTrees c.tTagL c.tTag) (G : GotFacts P c) (hKept : treeIn P fKept noOrc [.tmp 0, .tmp 1, .tmp 2] 3 = tKept c s)
    (hT : treeIn P f noOrc [.tmp 0] 1 = tUnsafeLawK c fMsg fKept fTell fUns fGot fSame) (hpl : PF.plains fs = true) (hlen : fs.length < 65536) (hMsg : MsgFn P fMsg fs x)
    (hTell : ∀ (w : World) (l : List UInt8) (data : Value), l.length ≤ 1073741824 → DataIn w data l → ErrAt w c.gErr e0 → Gives P fTell [data] w fun v w' => DoorPost w w' v (out l) ∧ Keeps [] w w')
    (hUns : ∀ (w : World) (l : List UInt8) (data : Value), l.length ≤ 1073741824 → DataIn w data l → ErrAt w c.gErr e0 → Gives P fUns [data] w fun v w' => DoorPost w w' v (out l) ∧ Keeps [] w w')
    (hcan : (out (pKept fs x 0 .zero)).isSome = true) (hle : (pKept fs x 0 .zero).length ≤ 1073741824)
    (hGot : ∀ x, GotOf P fGot x) (hSame : ∀ x, SameTreeOf P fSame x) (hr : DataIn w data l) (he : ErrAt w c.gErr e0) : Gives P f [data] w fun v w' => v = .bool true ∧ Keeps [] w w' := by
  have F := S.rd
  refine gives_in (ρ := en [data]) F.mix hT (Nat.le_refl _) rfl (by simp [opBelow]) ?_
  obtain ⟨a, cp, hda⟩ := hr.form
  refine s_val (v_len (a := a) (l := l.length) (c := cp) F.bytes hda) ?_
  refine s_val (v_cmp (kk := .i64) (a := l.length) (b := 2147483647) (r := decide ((l.length : Int) > 2147483647)) rfl rfl rfl) ?_
  refine s_cond (b := decide ((l.length : Int) > 2147483647)) rfl (fun _ => s_ret1 ⟨rfl, .refl⟩) fun _ => ?_
  refine s_val (v_len (a := a) (l := l.length) (c := cp) F.bytes hda) ?_
  refine s_val (v_cmp (kk := .i64) (a := l.length) (b := 1000) (r := decide ((l.length : Int) > 1000)) rfl rfl rfl) ?_
  refine s_cond (b := decide ((l.length : Int) > 1000)) rfl (fun _ => s_ret1 ⟨rfl, .refl⟩) fun hle2 => ?_
  have hl : l.length ≤ 1000 := by
    have : ¬ (l.length : Int) > 1000 := by simpa using hle2
    omega
  refine s_callx (hMsg w) rfl fun v w1 ⟨⟨fv, hv, hfv⟩, k1⟩ => ?_
  subst hv
  refine s_val (v_build (cells := zeroTree) G.plan (fun p hp => by cases hp) rfl) ?_
  have htc : TreeC w1 PT.zero zeroTree := TreeC.of_at (zeroTree_at w1 (fun _ => True))
  have hmx : (1073741824 : Nat) ≤ maxW := by decide
  refine s_callO (kept_gives S T hKept hpl hlen x 0 hfv htc (by simp [PT.zero, PT.ok, PT.oks, IntKind.wrap_i64]) (Nat.le_trans hle hmx)) rfl fun u w2 hM => ⟨fun p hp => (by cases hp), ?_⟩
  have k02 := k1.trans hM.2.2
  refine s_callx (hTell w2 _ u hle (DataIn.of_own hM.1) (he.keep k02 (by simp))) rfl fun v w3 ⟨hd0, k3⟩ => ?_
  obtain ⟨cs0, rfl, hl0, ho0, _⟩ := hd0.form
  rw [hcan]
  refine s_val (v_extract (vs := #[.agg ⟨cs0⟩, .bool true]) rfl rfl) ?_
  refine s_val (v_extract (vs := #[.agg ⟨cs0⟩, .bool true]) rfl rfl) ?_
  refine s_alloc K.zero fun w3a h3a k3a z3a => ?_
  refine s_storeAll (b := w3.heap.size) (old := zeroTree) (cs := cs0) (by rw [hl0]; exact Z.agg) rfl rfl h3a (by rw [hl0]; rfl) ho0 fun w3b h3b k3b => ?_
  have k03 := (k02.trans k3).trans (((k3a.mono (by simp)).trans k3b).less fun x hx => .inr (by simp only [List.mem_singleton] at hx; omega) : Keeps [] w3 w3b)
  have hl30 : l.length ≤ 1073741824 := Nat.le_trans hl (by decide)
  refine s_callx (hTell w3b l data hl30 (hr.keep k03) (he.keep k03 (by simp))) rfl fun v w4 ⟨hd1, k4⟩ => ?_
  obtain ⟨cs1, rfl, hl1, ho1, ht1⟩ := hd1.form
  refine s_val (v_extract (vs := #[.agg ⟨cs1⟩, .bool (out l).isSome]) rfl rfl) ?_
  refine s_val (v_extract (vs := #[.agg ⟨cs1⟩, .bool (out l).isSome]) rfl rfl) ?_
  refine s_alloc K.zero fun w5a h5a k5a z5a => ?_
  refine s_storeAll (b := w4.heap.size) (old := zeroTree) (cs := cs1) (by rw [hl1]; exact Z.agg) rfl rfl h5a (by rw [hl1]; rfl) ho1 fun w5 h5 k5 => ?_
  have k45 : Keeps [] w4 w5 := ((k5a.mono (by simp)).trans k5).less fun x hx => .inr (by simp only [List.mem_singleton] at hx; omega)
  have k05 := (k03.trans k4).trans k45
  refine s_callx (hUns w5 l data hl30 (hr.keep k05) (he.keep k05 (by simp))) rfl fun v w7 ⟨hd2, k7⟩ => ?_
  obtain ⟨cs2, rfl, hl2, ho2, ht2⟩ := hd2.form
  refine s_val (v_extract (vs := #[.agg ⟨cs2⟩, .bool (out l).isSome]) rfl rfl) ?_
  refine s_val (v_extract (vs := #[.agg ⟨cs2⟩, .bool (out l).isSome]) rfl rfl) ?_
  refine s_alloc K.zero fun w8 h8 k8 z8 => ?_
  refine s_storeAll (b := w7.heap.size) (old := zeroTree) (cs := cs2) (by rw [hl2]; exact Z.agg) rfl rfl h8 (by rw [hl2]; rfl) ho2 fun w9 h9 k9 => ?_
  have k79 : Keeps [] w7 w9 := ((k8.mono (by simp)).trans k9).less fun x hx => .inr (by simp only [List.mem_singleton] at hx; omega)
  show Tr.sem _ _ _ _ _ _ { w9 with drawn := w9.drawn + 1 }
  have hd : Keeps [] w9 { w9 with drawn := w9.drawn + 1 } := keeps_drawn w9 _ _
  generalize ({ w9 with drawn := w9.drawn + 1 } : World) = w10 at hd ⊢
  have k0a : Keeps [] w w10 := ((k05.trans k7).trans k79).trans hd
  have h5b := ((h5.keep k7 (by simp)).keep k79 (by simp)).keep hd (by simp)
  have h9a := h9.keep hd (by simp)
  refine s_cond (b := true) rfl (fun _ => ?_) (fun h => by cases h)
  refine p_val (v_eqlBool (op := .eql) (a := (out l).isSome) (b := (out l).isSome) (r := true) Z.bool rfl rfl (.inl ⟨rfl, by simp⟩)) ?_
  refine s_cond (b := true) rfl (fun _ => ?_) (fun h => by cases h)
  refine p_val (v_not (b := (out l).isSome) rfl) ?_
  refine s_cond (b := !(out l).isSome) rfl (fun _ => s_ret1 ⟨rfl, k0a⟩) fun hs => ?_
  obtain ⟨t, hto⟩ : ∃ t, out l = some t := Option.isSome_iff_exists.1 (by simpa using hs)
  have t1 := TreeAt.keep ((((k45.trans k7).trans k79).trans hd)) (fun b hb => by cases hb) (fun _ h _ => h) _ _ (ht1 t hto)
  have t2 := TreeAt.keep (k79.trans hd) (fun b hb => by cases hb) (fun _ h _ => h) _ _ (ht2 t hto)
  refine l_lok (l_loadN (b := w4.heap.size) (o := 0) Z.agg rfl h5b (by omega)) ?_
  rw [show (cs1.drop 0).take 5 = cs1 by rw [List.drop_zero, List.take_of_length_le (by omega)]]
  refine l_lok (l_loadN (b := w7.heap.size) (o := 0) Z.agg rfl h9a (by omega)) ?_
  rw [show (cs2.drop 0).take 5 = cs2 by rw [List.drop_zero, List.take_of_length_le (by omega)]]
  refine s_call (xs := [.tmp 25]) (hGot t w10 _ cs1 t1) fun v w11 ⟨⟨g1, hv, tg1⟩, k11⟩ => ⟨?_, ?_⟩
  · intro p hp
    simp only [List.mem_singleton] at hp
    subst hp
    have := l_loadN (P := P) (ρ := en []) (w := w11) (x := .const (ptr w7.heap.size)) (b := w7.heap.size) (o := 0) Z.agg rfl (h9a.keep k11 (by simp)) (by omega)
    rw [show (cs2.drop 0).take 5 = cs2 by rw [List.drop_zero, List.take_of_length_le (by omega)]] at this
    exact this
  subst hv
  refine s_callx (hGot t w11 _ cs2 (TreeAt.keep k11 (fun b hb => by cases hb) (fun _ h _ => h) _ _ t2)) rfl fun v w12 ⟨⟨g2, hv, tg2⟩, k12⟩ => ?_
  subst hv
  refine s_callx (hSame t w12 _ _ g1 g2 (TreeAt.keep k12 (fun b hb => by cases hb) (fun _ h _ => h) _ _ tg1) tg2) rfl fun v w13 ⟨hv, k13⟩ => ?_
  exact s_ret1 ⟨hv, ((k0a.trans k11).trans k12).trans k13⟩

end

end Go.Kf

namespace Go.Kf

open Go Go.ChangeShapes Go.WideShapes Go.RowKit

/-- A law of octets. -/
theorem law_rowD {H : Type} {enc : TypeId × Value → H} {P : Program} {fn : Func} {s : ChangeSpec} {tU tBy tB : Nat} (hp : fn.params = #[tBy]) (hr : fn.resultTypes = #[tB]) (hu : P.underlying tU = some (.int .u8)) (hby : P.underlying tBy = some (.slice tU)) (hc : P.cellsOf tU = 1) (hb : P.underlying tB = some .bool)
    (hs : ∀ (H : Type) (d1 : DataW H), s.fn H [d1] = { results := [.lit (.bool true)], args := [d1] }) (hvs : s.vars = []) {W : World} {base : Nat} {args : Array Value} {ds gs : List (DataW H)} {before : List MemPlace}
    (hval : ∀ (j : Nat) t v, fn.params[j]? = some t → args[j]? = some v → Value.okWide P W .any base t v) (hW : DataW.Whole enc P fn.params.toList s.vars false W args.toList ds gs before) :
    ∃ (data : Value) (l : List UInt8), args = #[data] ∧ DataIn W data l ∧ ∀ W', Keeps [] W W' → s.post enc P fn false true false false W args (.bool true) W' := by
  have hW0 := hW
  obtain ⟨p, q, hA, hV, rfl, hfz, hnd⟩ := hW
  rw [hvs] at hV
  obtain ⟨rfl, rfl⟩ := trodVars_none hV
  rw [hp] at hA hval
  obtain ⟨v1, vs1, d1, ds1, p1, q1, hargs, rfl, rfl, h1, r1⟩ := trodAll_cons hA
  obtain ⟨rfl, rfl, rfl⟩ := trodAll_nil r1
  obtain rfl : args = #[v1] := by cases args; simp_all
  obtain ⟨a0, len0, cap0, rfl⟩ := okWide_slice hby (hval 0 tBy v1 rfl rfl)
  have hres : ∀ (W' : World) (b : Nat) (sp : Nat → Bool) (hd : Bool), DataW.TrodAll enc P W' b sp hd fn.resultTypes.toList ((Value.bool true).resultList fn.resultTypes.size) [.lit (.bool true)] [] := by
    intro W' b sp hd
    rw [hr]
    exact trodAll_cons_mk (shut_bool hb _) trodAll_mk0
  have fin : ∀ (d1 : DataW H) (p1 : List MemPlace), (∀ W', Keeps [] W W' → DataW.Trod enc P W' 0 (fun b => decide (b < W.heap.size)) true tBy (.slice a0 len0 cap0) d1 p1) → DataW.Whole enc P fn.params.toList s.vars false W #[.slice a0 len0 cap0].toList ([d1]) [] ((p1 ++ []) ++ []) →
      ∀ W', Keeps [] W W' → s.post enc P fn false true false false W #[.slice a0 len0 cap0] (.bool true) W' := by
    intro d1 p1 hsl hWh W' hk
    refine ⟨_, _, _, [], (p1 ++ []), [], hWh, ?_, ?_, ?_, ?_, fun h => by cases h⟩
    · rw [List.append_nil, hs]; exact hres W' _ _ _
    · rw [List.append_nil, hs, hp]
      exact trodAll_cons_mk (hsl W' hk) trodAll_mk0
    · rw [hvs, List.append_nil, hs]; rfl
    · exact World.keptBut_mono (fun p hp => ⟨hp, .inr (.inl (by simpa using hp))⟩) (keptBut_keeps hk _)
  obtain ⟨fuel, hf⟩ := h1
  rcases open_ints hby hu hc hf with ⟨hcs, hx⟩ | ⟨a, len, cap, zs, hcs, hba, hle, hmx, hzl, hx, hcell, hwf⟩
  · simp only [Prod.mk.injEq] at hx
    obtain ⟨rfl, rfl⟩ := hx
    have hv : a0 = none ∧ len0 = 0 ∧ cap0 = 0 := by simpa [Value.cells] using hcs
    obtain ⟨rfl, rfl, rfl⟩ := hv
    refine ⟨_, [], rfl, .inl ⟨rfl, rfl⟩, ?_⟩
    refine fin _ _ (fun W' hk => ⟨1, ?_⟩) hW0
    simp [Value.cells, DataW.trod, hby]
  · simp only [Prod.mk.injEq] at hx
    obtain ⟨rfl, rfl⟩ := hx
    have hv : a0 = some a ∧ len0 = len ∧ cap0 = cap := by simpa [Value.cells] using hcs
    obtain ⟨rfl, rfl, rfl⟩ := hv
    simp only [if_true] at hzl
    have hz8 : ∀ z ∈ zs, ∃ m : Nat, z = m ∧ m < 256 := fun z hz => lit_u8 (hwf z hz)
    refine ⟨_, (zs.take len0).map fun z => UInt8.ofNat z.toNat, rfl, .inr ⟨a, cap0, ?_, ?_⟩, ?_⟩
    · simp only [List.length_map, List.length_take]
      rw [Nat.min_eq_left (by omega)]
    · intro i hi
      simp only [List.length_map, List.length_take] at hi
      have hi' : i < zs.length := by omega
      rw [hcell i hi']
      obtain ⟨m, hm, hlt⟩ := hz8 zs[i] (List.getElem_mem _)
      simp only [List.getElem_map, List.getElem_take, List.getD_eq_getElem?_getD, List.getElem?_eq_getElem hi', Option.getD_some, hm, Int.toNat_natCast]
      congr 2
      have : (UInt8.ofNat m).toNat = m := by rw [UInt8.toNat_ofNat']; omega
      rw [this]
    · refine fin _ _ (fun W' hk => ⟨2, ?_⟩) hW0
      have hsz : ∀ i, i < zs.length → a.block < W.heap.size := fun i hi => by have := cell_block (hcell i hi); rwa [block_add] at this
      have hlen : zs.length = if decide (a.block < W.heap.size) then cap0 else len0 := by
        by_cases hz : 0 < zs.length
        · rw [decide_eq_true (hsz 0 hz)]; simpa using hzl
        · split <;> omega
      exact shut_ints 0 hby hu hc (Nat.zero_le _) hle hmx hlen (fun i hi => keep_cell hk (hcell i hi)) hwf

end Go.Kf
