/- The library for this proof, part 3: trees of function bodies, and what the package's functions do. -/
import Derived.Test.YtcinbiokghpilabGreatDoorKf2
import Derived.OpenShut
import Derived.ChangeSlices
import Derived.LaidSub
import Derived.Shelf.Bin.BEUint16
import Derived.Shelf.Bin.BEUint32
import Derived.Shelf.Bin.BEUint64
import Derived.MapKept
/- The reference's writing of a part: of fields without tags. -/
namespace Go.Kf
open Go

def tPart (c : Nums) (s : SN) : Tr :=
  .op (.box c.sTree (.tmp 3)) none [] <|
  .op (.call { callee := (.builtin .len), args := ⟨[(.tmp 0)]⟩, argTypes := ⟨[s.fields]⟩ }) none [] <|
  .loop 0 [(.const (.slice none 0 0)), (.const (.int .i64 0))] <|
  .op (.binOp .lss c.tInt (.tmp 7) (.tmp 5) c.tInt) none [] <|
  .cond (.tmp 8) (
    .op (.indexAddr s.fields (.tmp 0) (.tmp 7)) none [] <|
    .op (.load s.field (.tmp 9)) none [] <|
    .op (.alloc s.field) none [] <|
    .op (.store s.field (.tmp 11) (.tmp 10)) none [] <|
    .op (.fieldAddr s.field (.tmp 11) 4) none [] <|
    .op (.load c.tInt (.tmp 13)) none [] <|
    .op (.binOp .lss c.tInt (.tmp 14) (.const (.int .i64 0)) c.tInt) none [] <|
    .cond (.tmp 15) (
      .op (.load s.field (.tmp 11)) none [] <|
      .op (callOp s.has [(.tmp 16), (.tmp 1)]) none [] <|
      .join 1 (
        .cond (.tmp 17) (
          .draw <|
          .lok (.load s.field (.tmp 11)) none <|
          .lok (.load c.sTree (.tmp 4)) none <|
          .op (callOp s.at_ [(.tmp 19), (.tmp 7)]) none [((.load s.field (.tmp 11)), 18)] <|
          .op (callOp s.fld [(.tmp 18), (.tmp 1), (.tmp 2), (.tmp 20)]) none [] <|
          .op (.call { callee := (.builtin .append), args := ⟨[(.tmp 6), (.tmp 21)]⟩, argTypes := ⟨[c.tBytes, c.tBytes]⟩ }) none [] <|
          .to 1 [(.tmp 22)]
        ) (
          .to 1 [(.tmp 6)]
        )
      ) 1 <|
      .op (.binOp .add c.tInt (.tmp 7) (.const (.int .i64 1)) c.tInt) none [] <|
      .to 0 [(.tmp 18), (.tmp 19)]
    ) (
      .op (.binOp .add c.tInt (.tmp 7) (.const (.int .i64 1)) c.tInt) none [] <|
      .to 0 [(.tmp 6), (.tmp 16)]
    )
  ) (
    .op (.unOp .not c.tBool (.tmp 2)) none [] <|
    .cond (.tmp 9) (
      .ret [((.tmp 6), none)]
    ) (
      .op (callOp s.known [(.tmp 0)]) none [] <|
      .op (.convert c.tU32 c.tInt (.tmp 10)) none [] <|
      .loop 1 [(.const (.slice none 0 0)), (.const (.int .i64 0)), (.const (.int .i64 0))] <|
      .op (.binOp .lss c.tInt (.tmp 14) (.tmp 11) c.tInt) none [] <|
      .cond (.tmp 15) (
        .op (.call { callee := (.builtin .len), args := ⟨[(.tmp 0)]⟩, argTypes := ⟨[s.fields]⟩ }) none [] <|
        .loop 2 [(.tmp 12), (.tmp 13), (.const (.int .i64 0))] <|
        .op (.binOp .lss c.tInt (.tmp 19) (.tmp 16) c.tInt) none [] <|
        .cond (.tmp 20) (
          .op (.indexAddr s.fields (.tmp 0) (.tmp 19)) none [] <|
          .op (.load s.field (.tmp 21)) none [] <|
          .op (.alloc s.field) none [] <|
          .op (.store s.field (.tmp 23) (.tmp 22)) none [] <|
          .draw <|
          .pur (.fieldAddr s.field (.tmp 23) 4) none <|
          .lok (.load c.tInt (.tmp 25)) none <|
          .pur (.binOp .eql c.tInt (.tmp 26) (.tmp 14) c.tInt) none <|
          .cond (.tmp 27) (
            .lok (.load s.field (.tmp 23)) none <|
            .lok (.load c.sTree (.tmp 4)) none <|
            .op (callOp s.at_ [(.tmp 29), (.tmp 19)]) none [((.load s.field (.tmp 23)), 28), ((.load c.tInt (.tmp 25)), 26)] <|
            .op (callOp s.usual [(.tmp 28), (.tmp 30)]) none [((.load c.tInt (.tmp 25)), 26)] <|
            .pur (.unOp .not c.tBool (.tmp 31)) none <|
            .join 3 (
              .cond (.tmp 32) (
                .draw <|
                .lok (.load s.field (.tmp 23)) none <|
                .lok (.load c.sTree (.tmp 4)) none <|
                .op (callOp s.at_ [(.tmp 34), (.tmp 19)]) none [((.load s.field (.tmp 23)), 33)] <|
                .op (callOp s.fld [(.tmp 33), (.tmp 1), (.tmp 2), (.tmp 35)]) none [] <|
                .op (.convert c.tInt c.tU64 (.tmp 14)) none [] <|
                .op (callOp s.uv [(.tmp 37)]) none [] <|
                .op (.call { callee := (.builtin .append), args := ⟨[(.tmp 17), (.tmp 38)]⟩, argTypes := ⟨[c.tBytes, c.tBytes]⟩ }) none [] <|
                .op (.call { callee := (.builtin .len), args := ⟨[(.tmp 36)]⟩, argTypes := ⟨[c.tBytes]⟩ }) none [] <|
                .op (.convert c.tInt c.tU64 (.tmp 40)) none [] <|
                .op (callOp s.uv [(.tmp 41)]) none [] <|
                .op (.call { callee := (.builtin .append), args := ⟨[(.tmp 39), (.tmp 42)]⟩, argTypes := ⟨[c.tBytes, c.tBytes]⟩ }) none [] <|
                .op (.call { callee := (.builtin .append), args := ⟨[(.tmp 43), (.tmp 36)]⟩, argTypes := ⟨[c.tBytes, c.tBytes]⟩ }) none [] <|
                .op (.binOp .add c.tInt (.tmp 18) (.const (.int .i64 1)) c.tInt) none [] <|
                .to 3 [(.tmp 44), (.tmp 45)]
              ) (
                .to 3 [(.tmp 17), (.tmp 18)]
              )
            ) 2 <|
            .op (.binOp .add c.tInt (.tmp 19) (.const (.int .i64 1)) c.tInt) none [] <|
            .to 2 [(.tmp 33), (.tmp 34), (.tmp 35)]
          ) (
            .op (.binOp .add c.tInt (.tmp 19) (.const (.int .i64 1)) c.tInt) none [] <|
            .to 2 [(.tmp 17), (.tmp 18), (.tmp 28)]
          )
        ) (
          .op (.binOp .add c.tInt (.tmp 14) (.const (.int .i64 1)) c.tInt) none [] <|
          .to 1 [(.tmp 17), (.tmp 18), (.tmp 21)]
        )
      ) (
        .op (.fieldAddr c.sTree (.tmp 4) 4) none [] <|
        .op (.load c.sTagL (.tmp 16)) none [] <|
        .op (callOp s.unknown [(.tmp 0), (.tmp 17)]) none [] <|
        .op (.call { callee := (.builtin .len), args := ⟨[(.tmp 18)]⟩, argTypes := ⟨[c.sTagL]⟩ }) none [] <|
        .loop 2 [(.tmp 12), (.tmp 13), (.const (.int .i64 0))] <|
        .op (.binOp .lss c.tInt (.tmp 22) (.tmp 19) c.tInt) none [] <|
        .cond (.tmp 23) (
          .op (.indexAddr c.sTagL (.tmp 18) (.tmp 22)) none [] <|
          .op (.load c.sTag (.tmp 24)) none [] <|
          .op (.alloc c.sTag) none [] <|
          .op (.store c.sTag (.tmp 26) (.tmp 25)) none [] <|
          .op (.fieldAddr c.sTag (.tmp 26) 1) none [] <|
          .op (.load c.tBytes (.tmp 28)) none [] <|
          .op (callOp s.whole [(.tmp 29)]) none [] <|
          .op (.fieldAddr c.sTag (.tmp 26) 0) none [] <|
          .op (.load c.tU32 (.tmp 31)) none [] <|
          .op (.convert c.tU32 c.tU64 (.tmp 32)) none [] <|
          .op (callOp s.uv [(.tmp 33)]) none [] <|
          .op (.call { callee := (.builtin .append), args := ⟨[(.tmp 20), (.tmp 34)]⟩, argTypes := ⟨[c.tBytes, c.tBytes]⟩ }) none [] <|
          .op (.call { callee := (.builtin .len), args := ⟨[(.tmp 30)]⟩, argTypes := ⟨[c.tBytes]⟩ }) none [] <|
          .op (.convert c.tInt c.tU64 (.tmp 36)) none [] <|
          .op (callOp s.uv [(.tmp 37)]) none [] <|
          .op (.call { callee := (.builtin .append), args := ⟨[(.tmp 35), (.tmp 38)]⟩, argTypes := ⟨[c.tBytes, c.tBytes]⟩ }) none [] <|
          .op (.call { callee := (.builtin .append), args := ⟨[(.tmp 39), (.tmp 30)]⟩, argTypes := ⟨[c.tBytes, c.tBytes]⟩ }) none [] <|
          .op (.binOp .add c.tInt (.tmp 21) (.const (.int .i64 1)) c.tInt) none [] <|
          .op (.binOp .add c.tInt (.tmp 22) (.const (.int .i64 1)) c.tInt) none [] <|
          .to 2 [(.tmp 40), (.tmp 41), (.tmp 42)]
        ) (
          .op (.convert c.tInt c.tU64 (.tmp 21)) none [] <|
          .op (callOp s.uv [(.tmp 24)]) none [] <|
          .op (.call { callee := (.builtin .append), args := ⟨[(.tmp 6), (.tmp 25)]⟩, argTypes := ⟨[c.tBytes, c.tBytes]⟩ }) none [] <|
          .op (.call { callee := (.builtin .append), args := ⟨[(.tmp 26), (.tmp 20)]⟩, argTypes := ⟨[c.tBytes, c.tBytes]⟩ }) none [] <|
          .ret [((.tmp 27), none)]
        )
      )
    )
  )

def tKnown (c : Nums) (s : SN) : Tr :=
  .op (.call { callee := (.builtin .len), args := ⟨[(.tmp 0)]⟩, argTypes := ⟨[s.fields]⟩ }) none [] <|
  .loop 0 [(.const (.int .u32 0)), (.const (.int .i64 0))] <|
  .op (.binOp .lss c.tInt (.tmp 3) (.tmp 1) c.tInt) none [] <|
  .cond (.tmp 4) (
    .op (.indexAddr s.fields (.tmp 0) (.tmp 3)) none [] <|
    .op (.load s.field (.tmp 5)) none [] <|
    .op (.alloc s.field) none [] <|
    .op (.store s.field (.tmp 7) (.tmp 6)) none [] <|
    .op (.fieldAddr s.field (.tmp 7) 4) none [] <|
    .op (.load c.tInt (.tmp 9)) none [] <|
    .op (.binOp .geq c.tInt (.tmp 10) (.const (.int .i64 0)) c.tInt) none [] <|
    .join 1 (
      .cond (.tmp 11) (
        .op (.fieldAddr s.field (.tmp 7) 4) none [] <|
        .op (.load c.tInt (.tmp 12)) none [] <|
        .op (.convert c.tInt c.tU32 (.tmp 13)) none [] <|
        .op (.binOp .add c.tU32 (.tmp 14) (.const (.int .u32 1)) c.tU32) none [] <|
        .op (.call { callee := (.builtin .max), args := ⟨[(.tmp 2), (.tmp 15)]⟩, argTypes := ⟨[c.tU32, c.tU32]⟩ }) none [] <|
        .to 1 [(.tmp 16)]
      ) (
        .to 1 [(.tmp 2)]
      )
    ) 1 <|
    .op (.binOp .add c.tInt (.tmp 3) (.const (.int .i64 1)) c.tInt) none [] <|
    .to 0 [(.tmp 12), (.tmp 13)]
  ) (
    .ret [((.tmp 2), none)]
  )

mutual
/-- No field has a tag, nor has one within. -/
def PF.plain : PF → Bool
  | .mk k _ _ _ g _ e sub => decide (g < 0) && decide (sub.length < 65536) && (!decide (k = 11) || !decide (e = 11)) && PF.plains sub
def PF.plains : List PF → Bool
  | [] => true
  | f :: r => f.plain && PF.plains r
end

theorem PF.plains_mem : ∀ {l : List PF}, PF.plains l = true → ∀ f ∈ l, f.plain = true
  | [], _, f, h => by cases h
  | x :: l, hl, f, h => by
    simp only [PF.plains, Bool.and_eq_true] at hl
    rcases List.mem_cons.1 h with rfl | h
    · exact hl.1
    · exact PF.plains_mem hl.2 f h

theorem PF.plain_tag {f : PF} (h : f.plain = true) : f.tag < 0 := by
  cases f
  simp only [PF.plain, Bool.and_eq_true, decide_eq_true_eq] at h
  exact h.1.1.1

theorem PF.plain_sub {f : PF} (h : f.plain = true) : PF.plains f.sub = true := by
  cases f
  simp only [PF.plain, Bool.and_eq_true] at h
  exact h.2

theorem PF.plain_len {f : PF} (h : f.plain = true) : f.sub.length < 65536 := by
  cases f
  simp only [PF.plain, Bool.and_eq_true, decide_eq_true_eq] at h
  exact h.1.1.2

theorem PF.plain_elem {f : PF} (h : f.plain = true) (h11 : f.kind = 11) : f.elem ≠ 11 := by
  cases f
  simp only [PF.plain, Bool.and_eq_true, decide_eq_true_eq] at h
  intro he
  have h1 := h.1.2
  simp only [PF.kind, PF.elem] at h11 he
  rw [h11, he] at h1
  simp at h1

theorem pKnown_plain : ∀ {fs : List PF} (n : Nat), (∀ f ∈ fs, f.tag < 0) → pKnown fs n = n
  | [], _, _ => rfl
  | f :: r, n, h => by
    have := h f (by simp)
    rw [pKnown, if_neg (by omega)]
    exact pKnown_plain n fun g hg => h g (by simp [hg])

theorem pTagged_plain : ∀ {fs : List PF} (v : Int) (fl : Bool) (t : PT) (i : Nat), (∀ f ∈ fs, f.tag < 0) → pTagged fs v fl t i = []
  | [], _, _, _, _, _ => by rw [pTagged]
  | f :: r, v, fl, t, i, h => by
    have := h f (by simp)
    rw [pTagged, if_neg (by omega), List.nil_append]
    exact pTagged_plain v fl t (i + 1) fun g hg => h g (by simp [hg])

/-- What is written of a part without tags. -/
theorem pPart_plain {fs : List PF} (h : ∀ f ∈ fs, f.tag < 0) (v : Int) (fl : Bool) (t : PT) : pPart fs v fl t = pPlain fs v fl t 0 ++ if fl then pUv (pUnknown fs t.u).length ++ pTags (pUnknown fs t.u) else [] := by
  unfold pPart
  rw [pTagged_plain v fl t 0 h, pEnd]
  cases fl
  · rfl
  · have : ((List.range (pKnown fs 0)).flatMap fun (k : Nat) => ([] : List (Int × List UInt8)).filter fun p => p.1 == (k : Int)) = [] := by simp
    simp only [this, if_true]
    simp

def pOne (f : PF) (v : Int) (fl : Bool) (t : PT) : List UInt8 := if decide (f.tag < 0) && pHas f v then pField f v fl t else []

theorem pPlain_cons (f : PF) (r : List PF) (v : Int) (fl : Bool) (t : PT) (i : Nat) : pPlain (f :: r) v fl t i = pOne f v fl (pAt t i) ++ pPlain r v fl t (i + 1) := by rw [pPlain]; rfl

theorem pPlain_take : ∀ {fs : List PF} {j : Nat} (v : Int) (fl : Bool) (t : PT) (i : Nat) (hj : j < fs.length), pPlain (fs.take (j + 1)) v fl t i = pPlain (fs.take j) v fl t i ++ pOne fs[j] v fl (pAt t (i + j))
  | f :: r, 0, v, fl, t, i, _ => by
    simp only [List.take_succ_cons, List.take_zero, pPlain_cons, List.getElem_cons_zero, Nat.add_zero]
    rw [pPlain, pPlain]; simp
  | f :: r, j + 1, v, fl, t, i, hj => by
    rw [List.take_succ_cons, pPlain_cons, pPlain_take v fl t (i + 1) (by simpa using hj), List.take_succ_cons, pPlain_cons, List.append_assoc, List.getElem_cons_succ, show i + 1 + j = i + (j + 1) by omega]

theorem pPlain_append : ∀ (a b : List PF) (v : Int) (fl : Bool) (t : PT) (i : Nat), pPlain (a ++ b) v fl t i = pPlain a v fl t i ++ pPlain b v fl t (i + a.length)
  | [], b, v, fl, t, i => by simp [pPlain]
  | f :: r, b, v, fl, t, i => by rw [List.cons_append, pPlain_cons, pPlain_cons, pPlain_append r b, List.append_assoc, List.length_cons, show i + 1 + r.length = i + (r.length + 1) by omega]

theorem pPlain_le (fs : List PF) (j : Nat) (v : Int) (fl : Bool) (t : PT) : (pPlain (fs.take j) v fl t 0).length ≤ (pPlain fs v fl t 0).length := by
  conv => rhs; rw [← List.take_append_drop j fs, pPlain_append, List.length_append]
  omega

theorem pTags_take {m : TM} {j : Nat} (hj : j < m.length) : pTags (m.take (j + 1)) = pTags (m.take j) ++ pTag1 m[j].1 (pWhole m[j].2) := by
  unfold pTags
  rw [List.take_succ_eq_append_getElem hj, List.map_append, List.flatten_append]
  simp

theorem pTags_le (m : TM) (j : Nat) : (pTags (m.take j)).length ≤ (pTags m).length := by
  have h : pTags m = pTags (m.take j) ++ pTags (m.drop j) := by
    unfold pTags
    rw [← List.flatten_append, ← List.map_append, List.take_append_drop]
  rw [h, List.length_append]
  omega

section
variable {P : Program} {c : Nums} {s : SN} {R : Value → World → Prop} {Γ : List (List Value → World → Prop)} {n : Nat} {ρ : Nat → Value} {w : World} {k : Tr}

/-- A field of a list, in a variable of its own. -/
theorem s_eachF {x i : Operand} {fv : Value} {fs : List PF} {j : Nat} (S : SpFacts P c s) (hfv : FieldsV w fs fv) (hx : ev ρ x = fv) (hi : ev ρ i = .int .i64 j) (hj : j < fs.length)
    (hk : ∀ (w' : World) (a : Value) (b : Nat) (cs : List Value), Has w' b cs → FieldC w' fs[j] cs → Keeps [] w w' → w.heap.size ≤ b → k.sem P R Γ (n + 4) (ext (ext (ext (ext ρ n [a]) (n + 1) [.agg ⟨cs⟩]) (n + 2) [ptr b]) (n + 3) [undef]) w') :
    (Tr.op (.indexAddr s.fields x i) none [] <| Tr.op (.load s.field (.tmp n)) none [] <| Tr.op (.alloc s.field) none [] <| Tr.op (.store s.field (.tmp (n + 2)) (.tmp (n + 1))) none [] k).sem P R Γ n ρ w := by
  obtain ⟨fcs, hr, hfc⟩ := hfv
  obtain ⟨b, o, cap, e, hbl, hel, hcell⟩ := hr.elem hj (by omega)
  refine s_val (v_indexAddr (b := b) (o := o) (l := fs.length) (c := cap) (j := j) (kk := .i64) S.sl S.szF (hx.trans e) hi (by omega) (by omega)) ?_
  rw [Int.toNat_natCast]
  refine s_lok (l_cellN (b := b) (o := o + j * 8) S.agg ext_at hel hcell) ?_
  obtain ⟨z, hz, hzc⟩ := S.zField
  refine s_alloc hz fun w1 h1 k1 z1 => ?_
  have hf := FieldsC.get hfc hj
  have e1 : ev (ext (ext (ext ρ n [ptr b (o + j * 8)]) (n + 1) [.agg ⟨(fcs.drop (j * 8)).take 8⟩]) (n + 2) [ptr w.heap.size]) (.tmp (n + 1)) = .agg ⟨(fcs.drop (j * 8)).take 8⟩ := by show ext _ _ _ (n + 1) = _; rw [ext_lt (by omega)]; exact ext_at
  refine s_storeAll (b := w.heap.size) (cs := (fcs.drop (j * 8)).take 8) (by rw [hel]; exact S.agg) ext_at (congrArg Value.cells e1) h1 (by rw [hel]; simpa using hzc) hf.ones fun w2 h2 k2 => ?_
  have k02 : Keeps [] w w2 := ((k1.mono (by simp)).trans k2).less fun x hx => .inr (by simp only [List.mem_singleton] at hx; omega)
  exact hk w2 _ _ _ h2 (FieldC.keep k02 _ _ hf) k02 (Nat.le_refl _)

/-- A tag of a list, in a variable of its own. -/
theorem s_eachT {x i : Operand} {tv : Value} {m : TM} {tcs : List Value} {j : Nat} {w0 : World} (S : SpFacts P c s) (hr : Ro w tv 2 m.length tcs) (ht : TagsC w0 m tcs) (hx : ev ρ x = tv) (hi : ev ρ i = .int .i64 j) (hj : j < m.length)
    (hk : ∀ (w' : World) (a : Value) (b : Nat) (vv : Value), Has w' b [.int .u32 m[j].1, vv] → Ro w0 vv 1 m[j].2.length (bcells m[j].2) → Keeps [] w w' → w.heap.size ≤ b → k.sem P R Γ (n + 4) (ext (ext (ext (ext ρ n [a]) (n + 1) [.agg ⟨[.int .u32 m[j].1, vv]⟩]) (n + 2) [ptr b]) (n + 3) [undef]) w') :
    (Tr.op (.indexAddr c.sTagL x i) none [] <| Tr.op (.load c.sTag (.tmp n)) none [] <| Tr.op (.alloc c.sTag) none [] <| Tr.op (.store c.sTag (.tmp (n + 2)) (.tmp (n + 1))) none [] k).sem P R Γ n ρ w := by
  obtain ⟨b, o, cap, e, hbl, hel, hcell⟩ := hr.elem hj (by omega)
  refine s_val (v_indexAddr (b := b) (o := o) (l := m.length) (c := cap) (j := j) (kk := .i64) S.ty.slTag S.szG (hx.trans e) hi (by omega) (by omega)) ?_
  rw [Int.toNat_natCast]
  refine s_lok (l_cellN (b := b) (o := o + j * 2) S.ty.aggTag ext_at hel hcell) ?_
  obtain ⟨z, hz, hzc⟩ := S.zTag
  refine s_alloc hz fun w1 h1 k1 z1 => ?_
  obtain ⟨vv, hc2, hvv⟩ := ht.get hj
  have h1v := hvv.one
  rw [hc2]
  have e1 : ev (ext (ext (ext ρ n [ptr b (o + j * 2)]) (n + 1) [.agg ⟨[.int .u32 m[j].1, vv]⟩]) (n + 2) [ptr w.heap.size]) (.tmp (n + 1)) = .agg ⟨[.int .u32 m[j].1, vv]⟩ := by show ext _ _ _ (n + 1) = _; rw [ext_lt (by omega)]; exact ext_at
  refine s_storeAll (b := w.heap.size) (cs := [.int .u32 m[j].1, vv]) S.ty.aggTag ext_at (congrArg Value.cells e1) h1 (by simpa using hzc) (fun q hq => by
    simp only [List.mem_cons, List.not_mem_nil, or_false] at hq
    rcases hq with rfl | rfl
    · rfl
    · exact h1v) fun w2 h2 k2 => ?_
  have k02 : Keeps [] w w2 := ((k1.mono (by simp)).trans k2).less fun x hx => .inr (by simp only [List.mem_singleton] at hx; omega)
  exact hk w2 _ _ _ h2 hvv k02 (Nat.le_refl _)

theorem known_plain (S : SpFacts P c s) (hT : treeIn P s.known noOrc [.tmp 0] 1 = tKnown c s) {fs : List PF} {fv : Value} (hp : ∀ f ∈ fs, f.tag < 0) (hfv : FieldsV w fs fv) (hlen : fs.length < 2 ^ 31) : Yields P s.known [fv] w (.int .u32 0) := by
  refine gives_in (ρ := en [fv]) S.rd.mix hT (Nat.le_refl _) rfl (by simp [opBelow]) ?_
  have hfv0 := hfv
  obtain ⟨fcs, hr, hfc⟩ := hfv
  obtain ⟨a, cp, e⟩ := hr.form
  refine s_val (v_len (a := a) (l := fs.length) (c := cp) S.sl e) ?_
  refine s_countV (n := 2) (q := 1) (kk := .i64) (m := fs.length) (ri := [.const (.int .u32 0)]) (Γ := []) (fun j vr w' => vr = [.int .u32 0] ∧ Keeps [] w w') (by omega) rfl ⟨rfl, .refl⟩ ?_ ?_
  · rintro j hj w1 vr ⟨rfl, k1⟩ hvr J hJ
    have hj' : j < fs.length := by omega
    refine s_eachF (fv := fv) (fs := fs) (j := j) S (hfv0.keep k1) rfl rfl hj' fun w2 a b cs hh hf k2 hb => ?_
    obtain ⟨sv, rfl, _⟩ := hf.cells
    have hneg := hp _ (List.getElem_mem hj')
    refine s_fl S.f4 S.oneInt rfl rfl hh rfl ?_
    refine s_val (v_cmp (kk := .i64) (a := (fs[j]'hj').tag) (b := 0) (r := decide ((fs[j]'hj').tag ≥ 0)) rfl rfl rfl) ?_
    refine ⟨rfl, fun vs w' => vs = [.int .u32 0] ∧ w' = w2, ?_, ?_⟩
    · refine s_cond (b := decide ((fs[j]'hj').tag ≥ 0)) rfl (fun hb => ?_) fun hb => ⟨_, rfl, rfl, rfl⟩
      simp at hb
      omega
    · rintro vs w' _ ⟨rfl, rfl⟩
      refine s_val (v_arith (kk := .i64) (a := j) (b := 1) (r := ((j + 1 : Nat) : Int)) rfl rfl ?_) ?_
      · simp only [arithOf, Option.some.injEq]; rw [IntKind.wrap_i64]; omega
      exact ⟨J, rfl, hJ [_] _ rfl ⟨rfl, k1.trans k2⟩⟩
  · rintro w1 vr J ⟨rfl, k1⟩ hvr
    exact s_ret1 ⟨rfl, k1⟩

/-- The unknown tags. -/
def UnknownOf (P : Program) (s : SN) (fs : List PF) : Prop := ∀ (w : World) (fv uv : Value) (u : TM) (ucs : List Value), FieldsV w fs fv → Ro w uv 2 u.length ucs → TagsC w u ucs → (∀ p ∈ u, p.1 < 4294967296) →
  Gives P s.unknown [fv, uv] w fun r w' => ∃ cs, Own w' r 2 (pUnknown fs u).length cs ∧ TagsC w' (pUnknown fs u) cs ∧ Keeps [] w w'

theorem pPut_mem {q : Nat × List UInt8} : ∀ {m : TM} {p : Nat × List UInt8}, p ∈ pPut q m → p = q ∨ p ∈ m
  | [], p, h => by simpa [pPut] using h
  | x :: m, p, h => by
    unfold pPut at h
    split at h
    · rcases List.mem_cons.1 h with rfl | h
      · exact .inr (by simp)
      · exact (pPut_mem h).imp id fun h => by simp [h]
    · split at h
      · exact .inr h
      · rcases List.mem_cons.1 h with rfl | h
        · exact .inl rfl
        · exact .inr h

theorem pUnknownN_mem (least : Nat) : ∀ {u out : TM} {p : Nat × List UInt8}, p ∈ pUnknownN least u out → p ∈ u ∨ p ∈ out
  | [], out, p, h => .inr h
  | q :: u, out, p, h => by
    rcases pUnknownN_mem least (u := u) h with h | h
    · exact .inl (by simp [h])
    · split at h
      · exact .inr h
      · rcases pPut_mem h with rfl | h
        · exact .inl (by simp)
        · exact .inr h

theorem pUnknown_mem {fs : List PF} {u : TM} {p : Nat × List UInt8} (h : p ∈ pUnknown fs u) : p ∈ u := by
  rcases pUnknownN_mem _ h with h | h
  · exact List.mem_of_mem_take h
  · cases h

theorem pPut_length (q : Nat × List UInt8) : ∀ m : TM, (pPut q m).length ≤ m.length + 1
  | [] => by simp [pPut]
  | x :: m => by
    unfold pPut
    split
    · have := pPut_length q m; simp; omega
    · split <;> simp

theorem pUnknownN_length (least : Nat) : ∀ (u out : TM), (pUnknownN least u out).length ≤ out.length + u.length
  | [], out => by simp [pUnknownN]
  | q :: u, out => by
    rw [pUnknownN]
    refine Nat.le_trans (pUnknownN_length least u _) ?_
    rw [List.length_cons]
    split
    · omega
    · have := pPut_length q out
      omega

theorem pUnknown_length (fs : List PF) (u : TM) : (pUnknown fs u).length ≤ 32767 := by
  have h := pUnknownN_length (pKnown fs 0) (u.take 32767) []
  unfold pUnknown
  rw [List.length_take] at h
  simp at h
  omega
end
end Go.Kf
/- The reference's writing of a part, and of a message. -/
namespace Go.Kf
open Go

section
variable {P : Program} {c : Nums} {s : SN} {R : Value → World → Prop} {Γ : List (List Value → World → Prop)} {n : Nat} {ρ : Nat → Value} {w : World} {k : Tr}

theorem pTag1_length (k : Nat) (b : List UInt8) : (pTag1 k b).length = (pUv k).length + (pUv b.length).length + b.length := by
  unfold pTag1
  simp only [List.length_append]

theorem part_step (S : SpFacts P c s) (Q : Smalls P s) (hK : treeIn P s.known noOrc [.tmp 0] 1 = tKnown c s) (hT : treeIn P s.part noOrc [.tmp 0, .tmp 1, .tmp 2, .tmp 3] 4 = tPart c s) {fs : List PF} (hp : ∀ f ∈ fs, f.tag < 0) (hlen : fs.length < 2 ^ 31) (hF : ∀ f ∈ fs, FieldOf P s f) (hU : UnknownOf P s fs) : PartOf P s fs := by
  intro w fv v fl t ts hfv ht hok hl
  rw [pPart_plain hp] at hl ⊢
  have htc := ht
  have hfv0 := hfv
  obtain ⟨fcs, hr, hfc⟩ := hfv
  obtain ⟨sv, lv, uv, lcs, ucs, rfl, h1, h2, h3, h4, h5⟩ := ht.cells
  rw [List.length_append] at hl
  refine gives_in (ρ := en [_, _, _, _]) S.rd.mix hT (Nat.le_refl _) rfl (by simp [opBelow]) ?_
  refine s_box rfl fun w1 hx1 k1 z1 => ?_
  obtain ⟨a, cp, e⟩ := hr.form
  refine s_val (v_len (a := a) (l := fs.length) (c := cp) S.sl e) ?_
  refine s_countV (n := 6) (q := 5) (kk := .i64) (m := fs.length) (ri := [.const (.slice none 0 0)]) (Γ := []) (fun j vr w' => ∃ acc, vr = [acc] ∧ MadeO w1 w' acc (pPlain (fs.take j) v fl t 0)) (by omega) rfl ⟨_, rfl, by rw [List.take_zero, pPlain]; exact MadeO.nil w1⟩ ?_ ?_
  · rintro j hj w2 vr ⟨acc, rfl, hA⟩ hvr J hJ
    have hj' : j < fs.length := by omega
    have k02 := k1.trans hA.2.2
    refine s_eachF (fv := fv) (fs := fs) (j := j) S (hfv0.keep k02) rfl rfl hj' fun w3 a3 b cs hh hf k3 hb => ?_
    have hf0 := hf
    obtain ⟨sv3, rfl, _⟩ := hf.cells
    have hneg := hp _ (List.getElem_mem hj')
    have k13 := hA.2.2.trans k3
    have hle := pPlain_le fs (j + 1) v fl t
    rw [pPlain_take v fl t 0 hj', Nat.zero_add, List.length_append] at hle
    refine s_fl S.f4 S.oneInt rfl rfl hh rfl ?_
    refine s_val (v_cmp (kk := .i64) (a := (fs[j]'hj').tag) (b := 0) (r := decide ((fs[j]'hj').tag < 0)) rfl rfl rfl) ?_
    refine s_cond (b := decide ((fs[j]'hj').tag < 0)) rfl (fun hb1 => ?_) fun hb1 => (by simp at hb1; omega)
    refine s_lok (l_loadN (b := b) (o := 0) S.agg rfl hh (show 0 + 8 ≤ 8 by omega)) ?_
    refine s_callx (Q.has w3 fs[j] _ v hf0) rfl fun u w4 ⟨hu, k4⟩ => ?_
    subst hu
    have hf4 := FieldC.keep k4 _ _ hf0
    have hh4 := hh.keep k4 (by simp)
    have hA4 := (hA.more k3).more k4
    have k14 := k13.trans k4
    refine ⟨rfl, fun vs w' => ∃ acc', vs = [acc'] ∧ MadeO w1 w' acc' (pPlain (fs.take (j + 1)) v fl t 0), ?_, ?_⟩
    · refine s_cond (b := pHas fs[j] v) rfl (fun hb2 => ?_) fun hb2 => ⟨_, rfl, acc, rfl, ?_⟩
      · show Tr.sem _ _ _ _ _ _ { w4 with drawn := w4.drawn + 1 }
        have hd : Keeps [] w4 { w4 with drawn := w4.drawn + 1 } := keeps_drawn w4 _ _
        have hA5 := hA4.drawn (w4.drawn + 1)
        generalize ({ w4 with drawn := w4.drawn + 1 } : World) = w5 at hd hA5 ⊢
        have hh5 := hh4.keep hd (by simp)
        have hx5 := (hx1.keep k14 (by simp)).keep hd (by simp)
        have k15 := k14.trans hd
        refine l_lok (l_loadN (b := b) (o := 0) S.agg rfl hh5 (show 0 + 8 ≤ 8 by omega)) ?_
        refine l_lok (l_loadN (b := w.heap.size) (o := 0) S.ty.agg rfl hx5 (show 0 + 5 ≤ 5 by omega)) ?_
        refine s_call (xs := [.tmp 19, .tmp 7]) (Q.at_ w5 t _ j (TreeC.keep (k1.trans k15) _ _ htc)) fun u w6 ⟨k6, tcs, hu, htj⟩ => ⟨?_, ?_⟩
        · intro p hp
          simp only [List.mem_singleton] at hp
          subst hp
          exact l_loadN (b := b) (o := 0) S.agg rfl (hh5.keep k6 (by simp)) (show 0 + 8 ≤ 8 by omega)
        subst hu
        have hone : pOne fs[j] v fl (pAt t j) = pField fs[j] v fl (pAt t j) := by
          unfold pOne
          rw [if_pos (by rw [Bool.and_eq_true]; exact ⟨hb1, hb2⟩)]
        rw [hone] at hle
        refine s_callO (hF fs[j] (List.getElem_mem hj') w6 v fl (pAt t j) _ tcs (FieldC.keep (hd.trans k6) _ _ hf4) htj (hok.at j) (by omega)) rfl fun v3 w7 hM7 => ⟨fun p hp => (by cases hp), ?_⟩
        refine s_appendO (v := acc) (u := v3) (l2 := pField fs[j] v fl (pAt t j)) S rfl rfl ((hA5.more k6).more hM7.2.2) (hM7.1.reads.src S.rd.bytes (bcells_one _)) (by rw [List.length_append]; unfold maxW at hl; omega) fun v4 w8 hM8 _ => ⟨fun p hp => (by cases hp), ?_⟩
        refine ⟨_, rfl, v4, rfl, ?_⟩
        rw [pPlain_take v fl t 0 hj', Nat.zero_add, hone]
        exact hM8
      · have hone : pOne fs[j] v fl (pAt t j) = [] := by
          unfold pOne
          rw [if_neg (by rw [hb2, Bool.and_false]; simp)]
        rw [pPlain_take v fl t 0 hj', Nat.zero_add, hone, List.append_nil]
        exact hA4
    · rintro vs w' _ ⟨acc', rfl, hA'⟩
      refine s_val (v_arith (kk := .i64) (a := j) (b := 1) (r := ((j + 1 : Nat) : Int)) rfl rfl ?_) ?_
      · simp only [arithOf, Option.some.injEq]; rw [IntKind.wrap_i64]; omega
      exact ⟨J, rfl, hJ [_] _ rfl ⟨acc', rfl, hA'⟩⟩
  · rintro w2 vr J ⟨acc, rfl, hA⟩ hvr
    rw [Int.toNat_natCast, List.take_length] at hA
    refine s_val (v_not (b := fl) rfl) ?_
    refine s_cond (b := !fl) rfl (fun hb => ?_) fun hb => ?_
    · have : fl = false := by simpa using hb
      subst this
      refine s_ret1 ?_
      rw [if_neg (by simp), List.append_nil]
      exact hA.under k1
    · have : fl = true := by simpa using hb
      subst this
      simp only [if_true] at hl ⊢
      have k02 := k1.trans hA.2.2
      refine s_callx (known_plain S hK hp (hfv0.keep k02) hlen) rfl fun u w3 ⟨hu, k3⟩ => ?_
      subst hu
      refine s_val (v_conv (k1 := .u32) (k2 := .i64) (a := 0) S.rd.u32 S.rd.int rfl) ?_
      have k13 := hA.2.2.trans k3
      refine s_countV (n := 12) (q := 11) (kk := .i64) (m := 0) (ri := [.const (.slice none 0 0), .const (.int .i64 0)]) (Γ := [J]) (fun j vr w' => vr = [.slice none 0 0, .int .i64 0] ∧ w' = w3) (by omega) rfl ⟨rfl, rfl⟩ (fun j hj => by simp at hj) ?_
      rintro w' vr J1 ⟨rfl, rfl⟩ hvr
      have hx3 := hx1.keep k13 (by simp)
      refine s_fl S.ty.f4 S.ty.oneTagL rfl rfl hx3 rfl ?_
      have k03 := k1.trans k13
      refine s_callx (hU w' fv uv t.u ucs (hfv0.keep k03) (h4.keep k03) (TagsC.keep k03 _ _ h5) hok.u) rfl fun tv w4 ⟨tcs, hown, htg, k4⟩ => ?_
      generalize hun : pUnknown fs t.u = un at hl hown htg ⊢
      have hun7 : un.length ≤ 32767 := by rw [← hun]; exact pUnknown_length fs t.u
      have hkeys : ∀ p ∈ un, p.1 < 4294967296 := fun p hp => hok.u p (pUnknown_mem (hun ▸ hp))
      have hrt := Ro.of_reads hown.reads
      obtain ⟨a4, c4, e4⟩ := hrt.form
      refine s_val (v_len (a := a4) (l := un.length) (c := c4) S.ty.slTag e4) ?_
      have k14 := k13.trans k4
      rw [List.length_append] at hl
      refine s_countV (n := 20) (q := 19) (kk := .i64) (m := un.length) (ri := [.tmp 12, .tmp 13]) (Γ := [J, J1]) (fun j vr w' => ∃ acc', vr = [acc', .int .i64 j] ∧ MadeO w4 w' acc' (pTags (un.take j))) (by omega) rfl ⟨_, rfl, MadeO.nil w4⟩ ?_ ?_
      · rintro j hj w5 vr ⟨acc', rfl, hB⟩ hvr J2 hJ2
        have hj' : j < un.length := by omega
        have hle := pTags_le un (j + 1)
        rw [pTags_take hj', List.length_append, pTag1_length] at hle
        have hkey := hkeys _ (List.getElem_mem hj')
        refine s_eachT (tv := tv) (m := un) (j := j) S (hrt.keep hB.2.2) htg rfl rfl hj' fun w6 a6 b vv hh hvv k6 hb => ?_
        refine s_fl S.ty.g1 S.rd.oneBytes rfl rfl hh rfl ?_
        refine s_callx (Q.whole w6 vv un[j].2 (hvv.keep (hB.2.2.trans k6))) rfl fun u w7 ⟨hw, hu⟩ => ?_
        subst hw
        replace hu := hu w4 hvv
        refine s_fl S.ty.g0 S.ty.oneU32 rfl rfl hh rfl ?_
        refine s_val (v_conv (k1 := .u32) (k2 := .u64) (a := ((un[j]'hj').1 : Int)) S.rd.u32 S.u64 rfl) ?_
        rw [wraps_u64 _ (by omega) (by omega)]
        have hw7 : (pWhole (un[j]'hj').2).length ≤ 32767 := by unfold pWhole; rw [List.length_take]; omega
        refine s_callO (Q.uv w7 (un[j]'hj').1 (by omega)) rfl fun v8 w8 hM8 => ⟨fun p hp => (by cases hp), ?_⟩
        refine s_appendO (v := acc') (u := v8) (l2 := pUv (un[j]'hj').1) S rfl rfl ((hB.more k6).more hM8.2.2) (hM8.1.reads.src S.rd.bytes (bcells_one _)) (by rw [List.length_append]; unfold maxW at hl; omega) fun v9 w9 hM9 kk9 => ⟨fun p hp => (by cases hp), ?_⟩
        obtain ⟨au, cu, eu⟩ := hu.form
        refine s_val (v_len (a := au) (l := (pWhole (un[j]'hj').2).length) (c := cu) S.rd.bytes eu) ?_
        refine s_val (v_conv (k1 := .i64) (k2 := .u64) (a := ((pWhole (un[j]'hj').2).length : Int)) S.rd.int S.u64 rfl) ?_
        rw [wraps_u64 _ (by omega) (by omega)]
        refine s_callO (Q.uv w9 (pWhole (un[j]'hj').2).length (by omega)) rfl fun v10 w10 hM10 => ⟨fun p hp => (by cases hp), ?_⟩
        refine s_appendO (v := v9) (u := v10) (l2 := pUv (pWhole (un[j]'hj').2).length) S rfl rfl (hM9.more hM10.2.2) (hM10.1.reads.src S.rd.bytes (bcells_one _)) (by simp only [List.length_append]; unfold maxW at hl; omega) fun v11 w11 hM11 kk11 => ⟨fun p hp => (by cases hp), ?_⟩
        refine s_appendO (v := v11) (u := u) (l2 := pWhole (un[j]'hj').2) S rfl rfl hM11 ((hu.keep hM11.2.2).src S.rd.bytes (bcells_one _)) (by simp only [List.length_append]; unfold maxW at hl; omega) fun v12 w12 hM12 kk12 => ⟨fun p hp => (by cases hp), ?_⟩
        refine s_val (v_arith (kk := .i64) (a := j) (b := 1) (r := ((j + 1 : Nat) : Int)) rfl rfl ?_) ?_
        · simp only [arithOf, Option.some.injEq]; rw [IntKind.wrap_i64]; omega
        refine s_val (v_arith (kk := .i64) (a := j) (b := 1) (r := ((j + 1 : Nat) : Int)) rfl rfl ?_) ?_
        · simp only [arithOf, Option.some.injEq]; rw [IntKind.wrap_i64]; omega
        refine ⟨J2, rfl, hJ2 [_, _] _ rfl ⟨v12, rfl, ?_⟩⟩
        rw [pTags_take hj', pTag1, ← List.append_assoc, ← List.append_assoc]
        exact hM12
      · rintro w5 vr J2 ⟨acc', rfl, hB⟩ hvr
        rw [Int.toNat_natCast, List.take_length] at hB
        refine s_val (v_conv (k1 := .i64) (k2 := .u64) (a := (un.length : Int)) S.rd.int S.u64 rfl) ?_
        rw [wraps_u64 _ (by omega) (by omega)]
        refine s_callO (Q.uv w5 un.length (by omega)) rfl fun v6 w6 hM6 => ⟨fun p hp => (by cases hp), ?_⟩
        have k36 := (k4.trans hB.2.2).trans hM6.2.2
        refine s_appendO (v := acc) (u := v6) (l2 := pUv un.length) S rfl rfl ((hA.more k3).more k36) (hM6.1.reads.src S.rd.bytes (bcells_one _)) (by rw [List.length_append]; unfold maxW at hl; omega) fun v7 w7 hM7 kk7 => ⟨fun p hp => (by cases hp), ?_⟩
        have hown7 : Own w7 acc' 1 (pTags un).length (bcells (pTags un)) := (hB.more hM6.2.2).1.keep kk7 fun b hb hb' => by
          have h5 := hB.2.1 b hb
          have h6 := hA.1.lt b hb'
          have h7 := k3.size
          have h8 := k4.size
          omega
        refine s_appendO (v := v7) (u := acc') (l2 := pTags un) S rfl rfl hM7 (hown7.reads.src S.rd.bytes (bcells_one _)) (by simp only [List.length_append]; unfold maxW at hl; omega) fun v8 w8 hM8 kk8 => ⟨fun p hp => (by cases hp), s_ret1 ?_⟩
        rw [List.append_assoc] at hM8
        exact hM8.under k1
end
end Go.Kf
/- The reference's unknown tags. -/
namespace Go.Kf
open Go

/-- Room is made at t14 for the tag that t12 points to. -/
def gIns (c : Nums) (n : Nat) : Tr :=
  .op (.build c.sTag ⟨[]⟩) none [] <|
  .op (.buildSlice c.sTagL 1 ⟨[(0, (.tmp n))]⟩) none [] <|
  .op (.call { callee := (.builtin .append), args := ⟨[(.tmp 7), (.tmp (n + 1))]⟩, argTypes := ⟨[c.sTagL, c.sTagL]⟩ }) none [] <|
  .op (.call { callee := (.builtin .len), args := ⟨[(.tmp (n + 2))]⟩, argTypes := ⟨[c.sTagL]⟩ }) none [] <|
  .op (.binOp .sub c.tInt (.tmp (n + 3)) (.const (.int .i64 1)) c.tInt) none [] <|
  .loop 2 [(.tmp (n + 4))] <|
  .op (.binOp .gtr c.tInt (.tmp (n + 5)) (.tmp 14) c.tInt) none [] <|
  .cond (.tmp (n + 6)) (
    .op (.binOp .sub c.tInt (.tmp (n + 5)) (.const (.int .i64 1)) c.tInt) none [] <|
    .op (.indexAddr c.sTagL (.tmp (n + 2)) (.tmp (n + 7))) none [] <|
    .op (.load c.sTag (.tmp (n + 8))) none [] <|
    .op (.indexAddr c.sTagL (.tmp (n + 2)) (.tmp (n + 5))) none [] <|
    .op (.store c.sTag (.tmp (n + 10)) (.tmp (n + 9))) none [] <|
    .op (.binOp .sub c.tInt (.tmp (n + 5)) (.const (.int .i64 1)) c.tInt) none [] <|
    .to 2 [(.tmp (n + 12))]
  ) (
    .op (.load c.sTag (.tmp 12)) none [] <|
    .op (.indexAddr c.sTagL (.tmp (n + 2)) (.tmp 14)) none [] <|
    .op (.store c.sTag (.tmp (n + 8)) (.tmp (n + 7))) none [] <|
    .op (.binOp .add c.tInt (.tmp 8) (.const (.int .i64 1)) c.tInt) none [] <|
    .to 0 [(.tmp (n + 2)), (.tmp (n + 10))]
  )

def gSkip (c : Nums) (n : Nat) : Tr := .op (.binOp .add c.tInt (.tmp 8) (.const (.int .i64 1)) c.tInt) none [] <| .to 0 [(.tmp 7), (.tmp n)]

/-- The tag's key held against the one at t14. -/
def gSame (c : Nums) (n : Nat) : Tr :=
  .draw <|
  .pur (.fieldAddr c.sTag (.tmp 12) 0) none <|
  .lok (.load c.tU32 (.tmp n)) none <|
  .pur (.binOp .lss c.tU32 (.tmp (n + 1)) (.tmp 2) c.tU32) none <|
  .cond (.tmp (n + 2)) (gSkip c (n + 3)) (
    .pur (.call { callee := (.builtin .len), args := ⟨[(.tmp 7)]⟩, argTypes := ⟨[c.sTagL]⟩ }) none <|
    .pur (.binOp .lss c.tInt (.tmp 14) (.tmp (n + 3)) c.tInt) none <|
    .cond (.tmp (n + 4)) (
      .pur (.indexAddr c.sTagL (.tmp 7) (.tmp 14)) none <|
      .pur (.fieldAddr c.sTag (.tmp (n + 5)) 0) none <|
      .lok (.load c.tU32 (.tmp (n + 6))) none <|
      .pur (.fieldAddr c.sTag (.tmp 12) 0) none <|
      .lok (.load c.tU32 (.tmp (n + 8))) none <|
      .pur (.binOp .eql c.tU32 (.tmp (n + 7)) (.tmp (n + 9)) c.tU32) none <|
      .cond (.tmp (n + 10)) (gSkip c (n + 11)) (gIns c (n + 11))
    ) (gIns c (n + 5))
  )

def tUnknown (c : Nums) (s : SN) : Tr :=
  .op (callOp s.known [(.tmp 0)]) none [] <|
  .op (.call { callee := (.builtin .len), args := ⟨[(.tmp 1)]⟩, argTypes := ⟨[c.sTagL]⟩ }) none [] <|
  .op (.call { callee := (.builtin .min), args := ⟨[(.tmp 3), (.const (.int .i64 32767))]⟩, argTypes := ⟨[c.tInt, c.tInt]⟩ }) none [] <|
  .op (.slice c.sTagL (.tmp 1) none (some (.tmp 4)) none) none [] <|
  .op (.call { callee := (.builtin .len), args := ⟨[(.tmp 5)]⟩, argTypes := ⟨[c.sTagL]⟩ }) none [] <|
  .loop 0 [(.const (.slice none 0 0)), (.const (.int .i64 0))] <|
  .op (.binOp .lss c.tInt (.tmp 8) (.tmp 6) c.tInt) none [] <|
  .cond (.tmp 9) (
    .op (.indexAddr c.sTagL (.tmp 5) (.tmp 8)) none [] <|
    .op (.load c.sTag (.tmp 10)) none [] <|
    .op (.alloc c.sTag) none [] <|
    .op (.store c.sTag (.tmp 12) (.tmp 11)) none [] <|
    .loop 1 [(.const (.int .i64 0))] <|
    .draw <|
    .pur (.call { callee := (.builtin .len), args := ⟨[(.tmp 7)]⟩, argTypes := ⟨[c.sTagL]⟩ }) none <|
    .pur (.binOp .lss c.tInt (.tmp 14) (.tmp 15) c.tInt) none <|
    .cond (.tmp 16) (
      .pur (.indexAddr c.sTagL (.tmp 7) (.tmp 14)) none <|
      .pur (.fieldAddr c.sTag (.tmp 17) 0) none <|
      .lok (.load c.tU32 (.tmp 18)) none <|
      .pur (.fieldAddr c.sTag (.tmp 12) 0) none <|
      .lok (.load c.tU32 (.tmp 20)) none <|
      .pur (.binOp .lss c.tU32 (.tmp 19) (.tmp 21) c.tU32) none <|
      .cond (.tmp 22) (
        .op (.binOp .add c.tInt (.tmp 14) (.const (.int .i64 1)) c.tInt) none [] <|
        .to 1 [(.tmp 23)]
      ) (gSame c 23)
    ) (gSame c 17)
  ) (.ret [((.tmp 7), none)])

theorem pPut_at {q : Nat × List UInt8} : ∀ {m : TM} {i : Nat}, (∀ p ∈ m.take i, p.1 < q.1) → (hi : i ≤ m.length) → (∀ h : i < m.length, ¬ m[i].1 < q.1) → pPut q m = if h : i < m.length then (if m[i].1 = q.1 then m else m.take i ++ q :: m.drop i) else m ++ [q]
  | [], i, _, hi, _ => by
    simp at hi
    subst hi
    simp [pPut]
  | x :: m, 0, _, _, h2 => by
    have h3 := h2 (by simp)
    simp only [List.getElem_cons_zero] at h3
    unfold pPut
    rw [if_neg h3]
    simp
  | x :: m, i + 1, h1, hi, h2 => by
    have h3 : x.1 < q.1 := h1 x (by simp)
    unfold pPut
    rw [if_pos h3, pPut_at (m := m) (i := i) (fun p hp => h1 p (by simp [hp])) (by simpa using hi) fun h => h2 (by simpa using h)]
    by_cases hlt : i < m.length
    · rw [dif_pos hlt, dif_pos (by simpa using hlt)]
      simp only [List.getElem_cons_succ]
      split
      · rfl
      · simp
    · rw [dif_neg hlt, dif_neg (by simpa using hlt)]
      rfl

theorem pUnknownN_snoc (least : Nat) (q : Nat × List UInt8) : ∀ (a out : TM), pUnknownN least (a ++ [q]) out = if q.1 < least then pUnknownN least a out else pPut q (pUnknownN least a out)
  | [], out => by simp [pUnknownN]
  | x :: a, out => by rw [List.cons_append, pUnknownN, pUnknownN_snoc least q a]; rfl

theorem TagsC.append {w : World} : ∀ {a b : TM} {x y : List Value}, TagsC w a x → TagsC w b y → TagsC w (a ++ b) (x ++ y)
  | [], b, x, y, h1, h2 => by simp only [TagsC] at h1; subst h1; exact h2
  | p :: a, b, x, y, ⟨v, r, e, h1, h3⟩, h2 => ⟨v, r ++ y, by rw [e]; rfl, h1, h3.append h2⟩

theorem TagsC.drop {w : World} : ∀ {m : TM} {cs : List Value} (k : Nat), TagsC w m cs → TagsC w (m.drop k) (cs.drop (k * 2))
  | _, _, 0, h => by simpa using h
  | [], _, k + 1, h => by simp only [TagsC] at h; subst h; simp [TagsC]
  | p :: m, _, k + 1, ⟨v, r, e, h1, h2⟩ => by
    subst e
    rw [show (k + 1) * 2 = k * 2 + 1 + 1 by omega]
    exact TagsC.drop k h2

section
variable {P : Program} {c : Nums} {s : SN} {R : Value → World → Prop} {Γ : List (List Value → World → Prop)} {n : Nat} {ρ : Nat → Value} {w : World} {k : Tr}

theorem splice_mid {a g z v : List Value} (h : g.length = v.length) : splice (a ++ g ++ z) a.length v = a ++ v ++ z := by
  have h1 : (a ++ g ++ z).take a.length = a := by rw [List.append_assoc, List.take_left' rfl]
  have h2 : (a ++ g ++ z).drop (a.length + v.length) = z := by rw [← h, ← List.length_append, List.drop_left' rfl]
  unfold splice
  rw [h1, h2]

theorem pair_eq' {a b x y : Value} (h1 : a = x) (h2 : b = y) : [a, b] = [x, y] := by rw [h1, h2]

theorem sem_ins {acc : Value} {tb i j m : Nat} {cs : List Value} {kv vv : Value} {w1 : World} {J I1 : List Value → World → Prop} (S : SpFacts P c s) (h7 : ρ 7 = acc) (h8 : ρ 8 = .int .i64 j) (h12 : ρ 12 = ptr tb) (h14 : ρ 14 = .int .i64 i) (hn : 15 ≤ n)
    (hown : Own w acc 2 m cs) (hfr : ∀ b ∈ blkOf acc, w1.heap.size ≤ b) (htag : Has w tb [kv, vv]) (hcs : ∀ u ∈ cs, u.oneCell' = true) (hkv : kv.oneCell' = true) (hvv : vv.oneCell' = true) (htb : tb ∉ blkOf acc) (hi : i ≤ m) (hm : m < 2147483648) (hj : j < 2147483648) (hk1 : Keeps [] w1 w)
    (hJ : ∀ acc' w', Own w' acc' 2 (m + 1) (cs.take (i * 2) ++ [kv, vv] ++ cs.drop (i * 2)) → (∀ b ∈ blkOf acc', w1.heap.size ≤ b) → Keeps [] w1 w' → J [acc', .int .i64 ((j + 1 : Nat) : Int)] w') : (gIns c n).sem P R [J, I1] n ρ w := by
  have hcl : cs.length = m * 2 := hown.1
  refine s_val (v_build (cells := [.int .u32 0, .slice none 0 0]) S.planTag (fun p hp => by cases hp) rfl) ?_
  refine s_oneSlice (sz := 2) (cs := [.int .u32 0, .slice none 0 0]) S.got.rowTag S.ty.slTag (by show (ext _ _ _ n).cells = _; rw [ext_at]; rfl) rfl fun w2 hsl k2 z2 => ⟨fun p hp => (by cases hp), ?_⟩
  have lt : ∀ {ρ : Nat → Value} {a q : Nat} {v : Value}, q < a → ext ρ a [v] q = ρ q := fun h => ext_lt h
  refine s_appendOne (v := acc) (u := .slice (some ⟨w.heap.size, 0, none⟩) 1 1) S.got.rowTag S.ty.slTag (by show ext _ _ _ 7 = _; rw [lt (by omega), lt (by omega)]; exact h7) ext_at (hown.keep k2 (by simp)) hsl (fun q hq => by
    simp only [List.mem_cons, List.not_mem_nil, or_false] at hq
    rcases hq with rfl | rfl <;> rfl) (by omega) fun acc' w3 hown3 k3 hb3 => ⟨fun p hp => (by cases hp), ?_⟩
  generalize hρ : ext (ext (ext ρ n [.agg ⟨[.int .u32 0, .slice none 0 0]⟩]) (n + 1) [.slice (some ⟨w.heap.size, 0, none⟩) 1 1]) (n + 2) [acc'] = ρ3
  have p8 : ρ3 8 = .int .i64 j := by subst hρ; rw [lt (by omega), lt (by omega), lt (by omega)]; exact h8
  have p12 : ρ3 12 = ptr tb := by subst hρ; rw [lt (by omega), lt (by omega), lt (by omega)]; exact h12
  have p14 : ρ3 14 = .int .i64 i := by subst hρ; rw [lt (by omega), lt (by omega), lt (by omega)]; exact h14
  have pa : ρ3 (n + 2) = acc' := by subst hρ; exact ext_at
  have hfr3 : ∀ b ∈ blkOf acc', w1.heap.size ≤ b := fun b hb => (hb3 b hb).elim (hfr b) fun h => by have := hk1.size; have := k2.size; omega
  have k13 : Keeps [] w1 w3 := ((hk1.trans k2).mono (by simp) |>.trans k3).less fun x hx => .inr (hfr x hx)
  have htag3 : Has w3 tb [kv, vv] := (htag.keep k2 (by simp)).keep k3 htb
  have htl := htag.lt
  rcases hown3.2 with ⟨_, h0⟩ | ⟨b, cap, spare, e3, hh3, hc3, hc63, hlen3⟩
  · omega
  have htb3 : tb ≠ b := fun h => by
    subst h
    have := hb3 tb (by rw [e3]; simp [blkOf])
    rcases this with h | h
    · exact htb h
    · have := k2.size; omega
  refine s_val (v_len (a := some ⟨b, 0, none⟩) (l := m + 1) (c := cap) S.ty.slTag (by show ρ3 (n + 2) = _; rw [pa, e3])) ?_
  refine s_val (v_arith (kk := .i64) (a := ((m + 1 : Nat) : Int)) (b := 1) (r := (m : Int)) ext_at rfl (by simp only [arithOf, Option.some.injEq]; rw [IntKind.wrap_i64]; omega)) ?_
  generalize hρ5 : ext (ext ρ3 (n + 3) [.int .i64 ((m + 1 : Nat) : Int)]) (n + 4) [.int .i64 (m : Int)] = ρ5
  have r8 : ρ5 8 = .int .i64 j := by subst hρ5; rw [lt (by omega), lt (by omega)]; exact p8
  have r12 : ρ5 12 = ptr tb := by subst hρ5; rw [lt (by omega), lt (by omega)]; exact p12
  have r14 : ρ5 14 = .int .i64 i := by subst hρ5; rw [lt (by omega), lt (by omega)]; exact p14
  have ra : ρ5 (n + 2) = acc' := by subst hρ5; rw [lt (by omega), lt (by omega)]; exact pa
  have rm : ρ5 (n + 4) = .int .i64 (m : Int) := by subst hρ5; exact ext_at
  refine ⟨rfl, fun vs w' => ∃ q : Nat, vs = [.int .i64 q] ∧ i ≤ q ∧ q ≤ m ∧ ∃ g : List Value, g.length = 2 ∧ Has w' b (cs.take (q * 2) ++ g ++ (cs.drop (q * 2) ++ spare)) ∧ Keeps [b] w3 w', fun vs _ => match vs with
    | [.int _ q] => q.toNat
    | _ => 0, ⟨m, by show [ρ5 (n + 4)] = _; rw [rm], hi, Nat.le_refl _, [.int .u32 0, .slice none 0 0], rfl, ?_, .refl⟩, ?_⟩
  · rw [List.take_of_length_le (by omega), List.drop_eq_nil_of_le (by omega), List.nil_append]
    exact hh3
  rintro _ w4 _ ⟨q, rfl, hiq, hqm, g, hg, hh4, k4⟩
  show Tr.sem _ _ _ _ (n + 6) (ext ρ5 (n + 5) [.int .i64 (q : Int)]) w4
  have hx5 : ext ρ5 (n + 5) [.int .i64 (q : Int)] (n + 5) = .int .i64 q := ext_at
  refine s_val (v_cmp (kk := .i64) (a := q) (b := i) (r := decide ((q : Int) > i)) hx5 (by show ext _ _ _ 14 = _; rw [lt (by omega)]; exact r14) rfl) ?_
  refine s_cond (b := decide ((q : Int) > i)) ext_at (fun hb => ?_) fun hb => ?_
  · have hgt : i < q := by
      have : (q : Int) > i := by simpa using hb
      omega
    obtain ⟨p, rfl⟩ : ∃ p, q = p + 1 := ⟨q - 1, by omega⟩
    refine s_val (v_arith (kk := .i64) (a := ((p + 1 : Nat) : Int)) (b := 1) (r := (p : Int)) (by show ext _ _ _ (n + 5) = _; rw [lt (by omega)]; exact ext_at) rfl (by simp only [arithOf, Option.some.injEq]; rw [IntKind.wrap_i64]; omega)) ?_
    refine s_val (v_indexAddr (b := b) (o := 0) (l := m + 1) (c := cap) (j := p) (kk := .i64) S.ty.slTag S.szG (by show ext _ _ _ (n + 2) = _; rw [lt (by omega), lt (by omega), lt (by omega), ra, e3]) ext_at (by omega) (by omega)) ?_
    rw [Int.toNat_natCast]
    have hold : (cs.take ((p + 1) * 2)).length = (p + 1) * 2 := by rw [List.length_take]; omega
    refine s_lok (l_loadN (b := b) (o := 0 + p * 2) S.ty.aggTag ext_at hh4 (by simp only [List.length_append, hold]; omega)) ?_
    have hcell : ((cs.take ((p + 1) * 2) ++ g ++ (cs.drop ((p + 1) * 2) ++ spare)).drop (0 + p * 2)).take 2 = (cs.drop (p * 2)).take 2 := by
      rw [Nat.zero_add, List.append_assoc, List.drop_append_of_le_length (by omega), List.take_append_of_le_length (by rw [List.length_drop, hold]; omega), List.drop_take]
      rw [List.take_take]
      congr 1
      omega
    rw [hcell]
    have hcl2 : ((cs.drop (p * 2)).take 2).length = 2 := by rw [List.length_take, List.length_drop]; omega
    refine s_val (v_indexAddr (b := b) (o := 0) (l := m + 1) (c := cap) (j := ((p + 1 : Nat) : Int)) (kk := .i64) S.ty.slTag S.szG (by show ext _ _ _ (n + 2) = _; rw [lt (by omega), lt (by omega), lt (by omega), lt (by omega), lt (by omega), ra, e3]) (by show ext _ _ _ (n + 5) = _; rw [lt (by omega), lt (by omega), lt (by omega), lt (by omega)]; exact ext_at) (by omega) (by omega)) ?_
    rw [Int.toNat_natCast]
    obtain ⟨w5, e5, h5, k5⟩ := a_storeCells (P := P) (w := w4) (t := c.sTag) (x := .tmp (n + 10)) (y := .tmp (n + 9)) (b := b) (o := 0 + (p + 1) * 2) (vs := (cs.drop (p * 2)).take 2) (ρ := ext (ext (ext (ext (ext (ext ρ5 (n + 5) [.int .i64 ((p + 1 : Nat) : Int)]) (n + 6) [.bool (decide (((p + 1 : Nat) : Int) > i))]) (n + 7) [.int .i64 (p : Int)]) (n + 8) [ptr b (0 + p * 2)]) (n + 9) [.agg ⟨(cs.drop (p * 2)).take 2⟩]) (n + 10) [ptr b (0 + (p + 1) * 2)]) (by rw [hcl2]; exact (aggTy_spec (w := w) S.ty.aggTag).2) ext_at (by show (ext _ _ _ (n + 9)).cells = _; rw [lt (by omega), ext_at]; rfl) hh4 (by simp only [List.length_append, hold]; omega) fun u hu => hcs u (List.mem_of_mem_drop (List.mem_of_mem_take hu))
    refine s_unit e5 (fun p hp => (by cases hp)) ?_
    refine s_val (v_arith (kk := .i64) (a := ((p + 1 : Nat) : Int)) (b := 1) (r := (p : Int)) (by show ext _ _ _ (n + 5) = _; rw [lt (by omega), lt (by omega), lt (by omega), lt (by omega), lt (by omega), lt (by omega)]; exact ext_at) rfl (by simp only [arithOf, Option.some.injEq]; rw [IntKind.wrap_i64]; omega)) ?_
    refine ⟨_, rfl, ?_⟩
    generalize hvs : List.map (ev _) [Operand.tmp (n + 12)] = vs
    obtain rfl : vs = [.int .i64 (p : Int)] := by rw [← hvs]; exact congrArg (fun x => [x]) ext_at
    refine ⟨⟨p, rfl, by omega, by omega, (cs.drop (p * 2)).take 2, hcl2, ?_, k4.trans k5⟩, by show (p : Int).toNat < ((p + 1 : Nat) : Int).toNat; omega⟩
    have hs : splice (cs.take ((p + 1) * 2) ++ g ++ (cs.drop ((p + 1) * 2) ++ spare)) (0 + (p + 1) * 2) ((cs.drop (p * 2)).take 2) = cs.take (p * 2) ++ (cs.drop (p * 2)).take 2 ++ (cs.drop (p * 2) ++ spare) := by
      have h1 := splice_mid (a := cs.take ((p + 1) * 2)) (g := g) (z := cs.drop ((p + 1) * 2) ++ spare) (v := (cs.drop (p * 2)).take 2) (by omega)
      rw [hold] at h1
      rw [Nat.zero_add, h1]
      have e1 : cs.take ((p + 1) * 2) = cs.take (p * 2) ++ (cs.drop (p * 2)).take 2 := by rw [show (p + 1) * 2 = p * 2 + 2 by omega, List.take_add]
      have e2 : (cs.drop (p * 2)).take 2 ++ cs.drop ((p + 1) * 2) = cs.drop (p * 2) := by rw [show (p + 1) * 2 = p * 2 + 2 by omega, ← List.drop_drop, List.take_append_drop]
      rw [e1, List.append_assoc, List.append_assoc, List.append_assoc, ← List.append_assoc ((cs.drop (p * 2)).take 2) (cs.drop _) spare, e2]
    rw [hs] at h5
    exact h5
  · obtain rfl : q = i := by
      have : ¬ (q : Int) > i := by simpa using hb
      omega
    refine s_lok (l_loadN (b := tb) (o := 0) S.ty.aggTag (by show ext _ _ _ 12 = _; rw [lt (by omega), lt (by omega)]; exact r12) (htag3.keep k4 (by simp only [List.mem_singleton]; exact htb3)) (show 0 + 2 ≤ 2 by omega)) ?_
    refine s_val (v_indexAddr (b := b) (o := 0) (l := m + 1) (c := cap) (j := (q : Int)) (kk := .i64) S.ty.slTag S.szG (by show ext _ _ _ (n + 2) = _; rw [lt (by omega), lt (by omega), lt (by omega), ra, e3]) (by show ext _ _ _ 14 = _; rw [lt (by omega), lt (by omega), lt (by omega)]; exact r14) (by omega) (by omega)) ?_
    rw [Int.toNat_natCast]
    have hold : (cs.take (q * 2)).length = q * 2 := by rw [List.length_take]; omega
    obtain ⟨w5, e5, h5, k5⟩ := a_storeCells (P := P) (w := w4) (t := c.sTag) (x := .tmp (n + 8)) (y := .tmp (n + 7)) (b := b) (o := 0 + q * 2) (vs := [kv, vv]) (ρ := ext (ext (ext (ext ρ5 (n + 5) [.int .i64 (q : Int)]) (n + 6) [.bool (decide ((q : Int) > q))]) (n + 7) [.agg ⟨[kv, vv]⟩]) (n + 8) [ptr b (0 + q * 2)]) (aggTy_spec (w := w) S.ty.aggTag).2 ext_at (by show (ext _ _ _ (n + 7)).cells = _; rw [lt (by omega), ext_at]; rfl) hh4 (by simp only [List.length_append, hold, List.length_cons, List.length_nil]; omega) (fun u hu => by
      simp only [List.mem_cons, List.not_mem_nil, or_false] at hu
      rcases hu with rfl | rfl
      · exact hkv
      · exact hvv)
    refine s_unit e5 (fun p hp => (by cases hp)) ?_
    refine s_val (v_arith (kk := .i64) (a := (j : Int)) (b := 1) (r := ((j + 1 : Nat) : Int)) (by show ext _ _ _ 8 = _; rw [lt (by omega), lt (by omega), lt (by omega), lt (by omega), lt (by omega)]; exact r8) rfl (by simp only [arithOf, Option.some.injEq]; rw [IntKind.wrap_i64]; omega)) ?_
    refine ⟨J, rfl, ?_⟩
    generalize hvs : List.map (ev _) [Operand.tmp (n + 2), Operand.tmp (n + 10)] = vs
    obtain rfl : vs = [acc', .int .i64 ((j + 1 : Nat) : Int)] := by
      rw [← hvs]
      exact pair_eq' (by show ext _ _ _ (n + 2) = _; rw [lt (by omega), lt (by omega), lt (by omega), lt (by omega), lt (by omega), lt (by omega)]; exact ra) ext_at
    have hs : splice (cs.take (q * 2) ++ g ++ (cs.drop (q * 2) ++ spare)) (0 + q * 2) [kv, vv] = cs.take (q * 2) ++ [kv, vv] ++ (cs.drop (q * 2) ++ spare) := by
      have h1 := splice_mid (a := cs.take (q * 2)) (g := g) (z := cs.drop (q * 2) ++ spare) (v := [kv, vv]) (by simpa using hg)
      rw [hold] at h1
      rw [Nat.zero_add, h1]
    rw [hs, ← List.append_assoc] at h5
    have hll : (cs.take (q * 2) ++ [kv, vv] ++ cs.drop (q * 2)).length = (m + 1) * 2 := by simp only [List.length_append, hold, List.length_drop, List.length_cons, List.length_nil]; omega
    refine hJ acc' w5 ⟨hll, .inr ⟨b, cap, spare, e3, h5, hc3, hc63, ?_⟩⟩ hfr3 ((k13.mono (by simp)).trans (k4.trans k5) |>.less fun x hx => .inr ?_)
    · rw [List.length_append, hll]
      rw [List.length_append, List.length_append, hcl] at hlen3
      simp only [List.length_cons, List.length_nil] at hlen3
      omega
    · simp only [List.mem_singleton] at hx
      subst hx
      exact hfr3 x (by rw [e3]; simp [blkOf])

theorem TagsC.ones : ∀ {m : TM} {cs : List Value}, TagsC w m cs → ∀ u ∈ cs, u.oneCell' = true
  | [], _, h, u, hu => by simp only [TagsC] at h; subst h; cases hu
  | p :: m, _, ⟨v, r, e, h1, h2⟩, u, hu => by
    subst e
    simp only [List.mem_cons] at hu
    rcases hu with rfl | rfl | hu
    · rfl
    · exact h1.one
    · exact TagsC.ones h2 u hu

/-- The key of a tag in an own row. -/
theorem own_key {w1 : World} {acc : Value} {m : TM} {cs : List Value} {i : Nat} (ho : Own w acc 2 m.length cs) (ht : TagsC w1 m cs) (hi : i < m.length) : ∃ b cap spare, acc = .slice (some ⟨b, 0, none⟩) m.length cap ∧ Has w b (cs ++ spare) ∧ (cs ++ spare)[0 + i * 2 + 0]? = some (.int .u32 m[i].1) := by
  rcases ho.2 with ⟨_, h0⟩ | ⟨b, cap, spare, e, hh, _⟩
  · omega
  · obtain ⟨v, h1, _⟩ := ht.get hi
    have hl := ho.1
    refine ⟨b, cap, spare, e, hh, ?_⟩
    rw [List.getElem?_append_left (by omega), Nat.zero_add, Nat.add_zero]
    have := congrArg (fun x => x[0]?) h1
    simpa [List.getElem?_take, List.getElem?_drop] using this

theorem own_form {acc : Value} {sz m : Nat} {cs : List Value} (ho : Own w acc sz m cs) : ∃ a cp, acc = .slice a m cp := by
  rcases ho.2 with ⟨rfl, rfl⟩ | ⟨b, cap, spare, e, _⟩
  · exact ⟨_, _, rfl⟩
  · exact ⟨_, _, e⟩

def pStep (least : Nat) (q : Nat × List UInt8) (out : TM) : TM := if q.1 < least then out else pPut q out

theorem sem_same {acc vv : Value} {tb i j least : Nat} {q : Nat × List UInt8} {out : TM} {cs : List Value} {w1 : World} {J I1 : List Value → World → Prop} (S : SpFacts P c s) (h2 : ρ 2 = .int .u32 least) (h7 : ρ 7 = acc) (h8 : ρ 8 = .int .i64 j) (h12 : ρ 12 = ptr tb) (h14 : ρ 14 = .int .i64 i) (hn : 15 ≤ n)
    (hown : Own w acc 2 out.length cs) (hfr : ∀ b ∈ blkOf acc, w1.heap.size ≤ b) (ht : TagsC w1 out cs) (htag : Has w tb [.int .u32 q.1, vv]) (hvv : Ro w1 vv 1 q.2.length (bcells q.2)) (htb : tb ∉ blkOf acc) (hi : i ≤ out.length) (hbelow : ∀ p ∈ out.take i, p.1 < q.1) (hat : ∀ h : i < out.length, ¬ out[i].1 < q.1)
    (hm : out.length < 2147483647) (hj : j < 2147483647) (hk1 : Keeps [] w1 w)
    (hJ : ∀ acc' w' cs', Own w' acc' 2 (pStep least q out).length cs' → (∀ b ∈ blkOf acc', w1.heap.size ≤ b) → TagsC w1 (pStep least q out) cs' → Keeps [] w1 w' → J [acc', .int .i64 ((j + 1 : Nat) : Int)] w') : (gSame c n).sem P R [J, I1] n ρ w := by
  have lt : ∀ {ρ : Nat → Value} {a q : Nat} {v : Value}, q < a → ext ρ a [v] q = ρ q := fun h => ext_lt h
  show Tr.sem _ _ _ _ _ _ { w with drawn := w.drawn + 1 }
  have hd : Keeps [] w { w with drawn := w.drawn + 1 } := keeps_drawn w _ _
  generalize ({ w with drawn := w.drawn + 1 } : World) = w2 at hd ⊢
  have hown2 := hown.keep hd (by simp)
  have htag2 := htag.keep hd (by simp)
  have k12 := hk1.trans hd
  have hvo := hvv.one
  have ins : ∀ (n' : Nat) (ρ' : Nat → Value), 15 ≤ n' → (∀ x, x < 15 → ρ' x = ρ x) → pStep least q out = out.take i ++ q :: out.drop i → (gIns c n').sem P R [J, I1] n' ρ' w2 := by
    intro n' ρ' hn' hρ' hst
    refine sem_ins (acc := acc) (tb := tb) (i := i) (j := j) (m := out.length) (cs := cs) (kv := .int .u32 q.1) (vv := vv) (w1 := w1) S ((hρ' 7 (by omega)).trans h7) ((hρ' 8 (by omega)).trans h8) ((hρ' 12 (by omega)).trans h12) ((hρ' 14 (by omega)).trans h14) hn' hown2 hfr htag2 ht.ones rfl hvo htb hi (by omega) (by omega) k12 fun acc' w' ho' hf' kk => ?_
    have hlen : (pStep least q out).length = out.length + 1 := by rw [hst, List.length_append, List.length_take, List.length_cons, List.length_drop]; omega
    refine hJ acc' w' _ (by rw [hlen]; exact ho') hf' ?_ kk
    rw [hst, List.append_assoc]
    exact (TagsC.take i ht).append (show TagsC w1 (q :: out.drop i) ([.int .u32 q.1, vv] ++ cs.drop (i * 2)) from ⟨vv, _, rfl, hvv, TagsC.drop i ht⟩)
  have skip : ∀ (n' : Nat) (ρ' : Nat → Value), 15 ≤ n' → (∀ x, x < 15 → ρ' x = ρ x) → pStep least q out = out → (gSkip c n').sem P R [J, I1] n' ρ' w2 := by
    intro n' ρ' hn' hρ' hst
    refine s_val (v_arith (kk := .i64) (a := (j : Int)) (b := 1) (r := ((j + 1 : Nat) : Int)) ((hρ' 8 (by omega)).trans h8) rfl (by simp only [arithOf, Option.some.injEq]; rw [IntKind.wrap_i64]; omega)) ?_
    refine ⟨J, rfl, ?_⟩
    generalize hvs : List.map (ev _) [Operand.tmp 7, Operand.tmp n'] = vs
    obtain rfl : vs = [acc, .int .i64 ((j + 1 : Nat) : Int)] := by
      rw [← hvs]
      exact pair_eq' (by show ext _ _ _ 7 = _; rw [lt (by omega)]; exact (hρ' 7 (by omega)).trans h7) ext_at
    exact hJ acc w2 cs (by rw [hst]; exact hown2) hfr (by rw [hst]; exact ht) k12
  refine p_fl S.ty.g0 S.ty.oneU32 (show ev ρ (.tmp 12) = ptr tb from h12) rfl htag2 rfl ?_
  refine p_val (v_cmp (kk := .u32) (a := q.1) (b := least) (r := decide ((q.1 : Int) < least)) ext_at (by show ext _ _ _ 2 = _; rw [lt (by omega), lt (by omega)]; exact h2) rfl) ?_
  refine s_cond (b := decide ((q.1 : Int) < least)) ext_at (fun hb => ?_) fun hb => ?_
  · refine skip _ _ (by omega) (fun x hx => by rw [lt (by omega), lt (by omega), lt (by omega)]) ?_
    unfold pStep
    rw [if_pos (by
      have : (q.1 : Int) < least := by simpa using hb
      omega)]
  have hst : pStep least q out = pPut q out := by
    unfold pStep
    rw [if_neg (by
      have : ¬ (q.1 : Int) < least := by simpa using hb
      omega)]
  have hput := pPut_at hbelow hi hat
  obtain ⟨a, cp, e⟩ := own_form hown2
  refine p_val (v_len (a := a) (l := out.length) (c := cp) S.ty.slTag (by show ext _ _ _ 7 = _; rw [lt (by omega), lt (by omega), lt (by omega), h7, e])) ?_
  refine p_val (v_cmp (kk := .i64) (a := i) (b := out.length) (r := decide ((i : Int) < out.length)) (by show ext _ _ _ 14 = _; rw [lt (by omega), lt (by omega), lt (by omega), lt (by omega)]; exact h14) ext_at rfl) ?_
  refine s_cond (b := decide ((i : Int) < out.length)) ext_at (fun hb2 => ?_) fun hb2 => ?_
  · have hlt : i < out.length := by
      have : (i : Int) < out.length := by simpa using hb2
      omega
    obtain ⟨b, cap, spare, e2, hh, hkey⟩ := own_key hown2 ht hlt
    refine p_val (v_indexAddr (b := b) (o := 0) (l := out.length) (c := cap) (j := (i : Int)) (kk := .i64) S.ty.slTag S.szG (by show ext _ _ _ 7 = _; rw [lt (by omega), lt (by omega), lt (by omega), lt (by omega), lt (by omega), h7, e2]) (by show ext _ _ _ 14 = _; rw [lt (by omega), lt (by omega), lt (by omega), lt (by omega), lt (by omega)]; exact h14) (by omega) (by omega)) ?_
    rw [Int.toNat_natCast]
    refine p_fl S.ty.g0 S.ty.oneU32 ext_at rfl hh hkey ?_
    refine p_fl S.ty.g0 S.ty.oneU32 (by show ext _ _ _ 12 = _; rw [lt (by omega), lt (by omega), lt (by omega), lt (by omega), lt (by omega), lt (by omega), lt (by omega), lt (by omega)]; exact h12) rfl htag2 rfl ?_
    refine p_val (v_cmp (kk := .u32) (a := (out[i]'hlt).1) (b := q.1) (r := (((out[i]'hlt).1 : Int) == q.1)) (by show ext _ _ _ (n + 7) = _; rw [lt (by omega), lt (by omega)]; exact ext_at) ext_at rfl) ?_
    rw [dif_pos hlt] at hput
    refine s_cond (b := (((out[i]'hlt).1 : Int) == q.1)) ext_at (fun hb3 => ?_) fun hb3 => ?_
    · refine skip _ _ (by omega) (fun x hx => by rw [lt (by omega), lt (by omega), lt (by omega), lt (by omega), lt (by omega), lt (by omega), lt (by omega), lt (by omega), lt (by omega), lt (by omega), lt (by omega)]) ?_
      rw [hst, hput, if_pos (by
        have : ((out[i]'hlt).1 : Int) = q.1 := by simpa using hb3
        omega)]
    · refine ins _ _ (by omega) (fun x hx => by rw [lt (by omega), lt (by omega), lt (by omega), lt (by omega), lt (by omega), lt (by omega), lt (by omega), lt (by omega), lt (by omega), lt (by omega), lt (by omega)]) ?_
      rw [hst, hput, if_neg (by
        have : ¬ ((out[i]'hlt).1 : Int) = q.1 := by simpa using hb3
        omega)]
  · have hge : ¬ i < out.length := by
      have : ¬ (i : Int) < out.length := by simpa using hb2
      omega
    refine ins _ _ (by omega) (fun x hx => by rw [lt (by omega), lt (by omega), lt (by omega), lt (by omega), lt (by omega)]) ?_
    rw [hst, hput, dif_neg hge, List.take_of_length_le (by omega), List.drop_eq_nil_of_le (by omega)]

theorem pStep_length (least : Nat) (q : Nat × List UInt8) (out : TM) : (pStep least q out).length ≤ out.length + 1 := by
  unfold pStep
  split
  · omega
  · exact pPut_length q out

theorem unknown_gives (S : SpFacts P c s) {fs : List PF} (hK : ∀ (w : World) (fv : Value), FieldsV w fs fv → Yields P s.known [fv] w (.int .u32 (pKnown fs 0))) (hT : treeIn P s.unknown noOrc [.tmp 0, .tmp 1] 2 = tUnknown c s) : UnknownOf P s fs := by
  intro w fv uv u ucs hfv hr ht hkey
  refine gives_in (ρ := en [_, _]) S.rd.mix hT (Nat.le_refl _) rfl (by simp [opBelow]) ?_
  refine s_callx (hK w fv hfv) rfl fun x w1 ⟨hx, k1⟩ => ?_
  subst hx
  obtain ⟨a, cp, rfl⟩ := hr.form
  refine s_val (v_len (a := a) (l := u.length) (c := cp) S.ty.slTag rfl) ?_
  refine s_val (v_min (kk := .i64) (a := u.length) (b := 32767) rfl rfl) ?_
  have hcap : u.length ≤ cp := by
    rcases hr.2 with ⟨h0, _⟩ | ⟨_, _, _, e, _, hc, _⟩
    · omega
    · simp only [Value.slice.injEq] at e; omega
  refine s_val (v_sliceTo (a := a) (l := u.length) (c := cp) (k := .i64) (h := if (32767 : Int) < (u.length : Int) then (32767 : Int) else (u.length : Int)) S.ty.slTag S.szG rfl rfl (by split <;> omega) (by split <;> omega)) ?_
  have e : (u.take 32767).length = (if (32767 : Int) < (u.length : Int) then (32767 : Int) else (u.length : Int)).toNat := by
    rw [take_min, List.length_take]
    split <;> omega
  have h2 := (hr.to (m := (u.take 32767).length) (by rw [e]; split <;> omega)).keep k1
  have h3 := TagsC.keep k1 _ _ (ht.take (u.take 32767).length)
  have htk : u.take (u.take 32767).length = u.take 32767 := by rw [List.length_take, List.take_eq_take_min]; simp
  rw [htk] at h3
  rw [← e]
  generalize hl : u.take 32767 = l at h2 h3 e ⊢
  have hl7 : l.length ≤ 32767 := by rw [← hl, List.length_take]; omega
  have hkl : ∀ p ∈ l, p.1 < 4294967296 := fun p hp => hkey p (List.mem_of_mem_take (by rw [hl]; exact hp))
  refine s_val (v_len (a := a) (l := l.length) (c := cp) S.ty.slTag rfl) ?_
  refine s_countV (n := 7) (q := 6) (kk := .i64) (m := l.length) (ri := [.const (.slice none 0 0)]) (Γ := []) (fun j vr w' => ∃ acc cs, vr = [acc] ∧ Own w' acc 2 (pUnknownN (pKnown fs 0) (l.take j) []).length cs ∧ (∀ b ∈ blkOf acc, w1.heap.size ≤ b) ∧ TagsC w1 (pUnknownN (pKnown fs 0) (l.take j) []) cs ∧ Keeps [] w1 w') (by omega) rfl
    ⟨_, [], rfl, Own.nil w1 2, (fun b hb => by cases hb), rfl, .refl⟩ ?_ ?_
  · rintro j hj w2 vr ⟨acc, cs, rfl, hown, hfr, htc, k2⟩ hvr J hJ
    have hj' : j < l.length := by omega
    have hsn : pUnknownN (pKnown fs 0) (l.take (j + 1)) [] = pStep (pKnown fs 0) l[j] (pUnknownN (pKnown fs 0) (l.take j) []) := by
      rw [List.take_succ_eq_append_getElem hj', pUnknownN_snoc]
      rfl
    have hol : (pUnknownN (pKnown fs 0) (l.take j) []).length ≤ j := by
      have := pUnknownN_length (pKnown fs 0) (l.take j) []
      rw [List.length_take] at this
      simp at this
      omega
    generalize hout : pUnknownN (pKnown fs 0) (l.take j) [] = out at hown htc hsn hol
    refine s_eachT (w0 := w1) (tv := .slice a l.length cp) (m := l) (j := j) S (h2.keep k2) h3 rfl rfl hj' fun w3 a3 tb vv hh hvv k3 hb => ?_
    have hown3 := hown.keep k3 (by simp)
    have k13 := k2.trans k3
    have htb : tb ∉ blkOf acc := fun h => by have := hown.lt tb h; omega
    refine ⟨rfl, fun vs w' => ∃ i : Nat, vs = [.int .i64 i] ∧ i ≤ out.length ∧ (∀ p ∈ out.take i, p.1 < (l[j]'hj').1) ∧ Keeps [] w3 w', fun vs _ => match vs with
      | [.int _ i] => (out.length : Int).toNat - i.toNat
      | _ => 0, ⟨0, rfl, by omega, (fun p hp => by simp at hp), .refl⟩, ?_⟩
    rintro _ w4 _ ⟨i, rfl, hi, hbelow, k34⟩
    have k14 := k13.trans k34
    show Tr.sem _ _ _ _ _ _ { w4 with drawn := w4.drawn + 1 }
    have hd : Keeps [] w4 { w4 with drawn := w4.drawn + 1 } := keeps_drawn w4 _ _
    generalize ({ w4 with drawn := w4.drawn + 1 } : World) = w5 at hd ⊢
    have hown5 := (hown3.keep k34 (by simp)).keep hd (by simp)
    have htag5 := (hh.keep k34 (by simp)).keep hd (by simp)
    obtain ⟨a5, c5, e5⟩ := own_form hown5
    have fin : ∀ acc' w' cs', Own w' acc' 2 (pStep (pKnown fs 0) l[j] out).length cs' → (∀ b ∈ blkOf acc', w1.heap.size ≤ b) → TagsC w1 (pStep (pKnown fs 0) l[j] out) cs' → Keeps [] w1 w' → J [acc', .int .i64 ((j + 1 : Nat) : Int)] w' := fun acc' w' cs' h4 h5 h6 h7 => hJ [acc'] w' rfl ⟨acc', cs', rfl, by rw [hsn]; exact h4, h5, by rw [hsn]; exact h6, h7⟩
    refine p_val (v_len (a := a5) (l := out.length) (c := c5) S.ty.slTag e5) ?_
    refine p_val (v_cmp (kk := .i64) (a := i) (b := out.length) (r := decide ((i : Int) < out.length)) rfl rfl rfl) ?_
    refine s_cond (b := decide ((i : Int) < out.length)) rfl (fun hb2 => ?_) fun hb2 => ?_
    · have hlt : i < out.length := by
        have : (i : Int) < out.length := by simpa using hb2
        omega
      obtain ⟨b, cap, spare, e2, hh2, hkey2⟩ := own_key hown5 htc hlt
      refine p_val (v_indexAddr (b := b) (o := 0) (l := out.length) (c := cap) (j := (i : Int)) (kk := .i64) S.ty.slTag S.szG e2 rfl (by omega) (by omega)) ?_
      rw [Int.toNat_natCast]
      refine p_fl S.ty.g0 S.ty.oneU32 rfl rfl hh2 hkey2 ?_
      refine p_fl S.ty.g0 S.ty.oneU32 rfl rfl htag5 rfl ?_
      refine p_val (v_cmp (kk := .u32) (a := (out[i]'hlt).1) (b := (l[j]'hj').1) (r := decide (((out[i]'hlt).1 : Int) < (l[j]'hj').1)) rfl rfl rfl) ?_
      refine s_cond (b := decide (((out[i]'hlt).1 : Int) < (l[j]'hj').1)) rfl (fun hb3 => ?_) fun hb3 => ?_
      · have hlt3 : (out[i]'hlt).1 < (l[j]'hj').1 := by
          have : ((out[i]'hlt).1 : Int) < (l[j]'hj').1 := by simpa using hb3
          omega
        refine s_val (v_arith (kk := .i64) (a := i) (b := 1) (r := ((i + 1 : Nat) : Int)) rfl rfl (by simp only [arithOf, Option.some.injEq]; rw [IntKind.wrap_i64]; omega)) ?_
        refine ⟨_, rfl, ⟨i + 1, rfl, by omega, ?_, k34.trans hd⟩, ?_⟩
        · intro p hp
          rw [List.take_succ_eq_append_getElem hlt, List.mem_append] at hp
          rcases hp with hp | hp
          · exact hbelow p hp
          · simp only [List.mem_singleton] at hp
            subst hp
            exact hlt3
        · show (out.length : Int).toNat - ((i + 1 : Nat) : Int).toNat < (out.length : Int).toNat - (i : Int).toNat
          omega
      · refine sem_same (acc := acc) (vv := vv) (tb := tb) (i := i) (j := j) (least := pKnown fs 0) (q := l[j]) (out := out) (cs := cs) (w1 := w1) S rfl rfl rfl rfl rfl (by omega) hown5 hfr htc htag5 hvv htb hi hbelow (fun h => ?_) (by omega) (by omega) (k14.trans hd) fin
        have : ¬ ((out[i]'hlt).1 : Int) < (l[j]'hj').1 := by simpa using hb3
        omega
    · refine sem_same (acc := acc) (vv := vv) (tb := tb) (i := i) (j := j) (least := pKnown fs 0) (q := l[j]) (out := out) (cs := cs) (w1 := w1) S rfl rfl rfl rfl rfl (by omega) hown5 hfr htc htag5 hvv htb hi hbelow (fun h => ?_) (by omega) (by omega) (k14.trans hd) fin
      have : ¬ (i : Int) < out.length := by simpa using hb2
      omega
  · rintro w2 vr J ⟨acc, cs, rfl, hown, hfr, htc, k2⟩ hvr
    rw [Int.toNat_natCast, List.take_length] at hown htc
    refine s_ret1 ⟨cs, ?_, ?_, k1.trans k2⟩
    · unfold pUnknown
      rw [hl]
      exact hown
    · unfold pUnknown
      rw [hl]
      exact TagsC.keep k2 _ _ htc
end
end Go.Kf
/- What a message tells: its trees' tree. -/
namespace Go.Kf
open Go

/-- How an element of a list is told. -/
inductive TEl where
  | sub (f : Nat)
  | text
  | num (ty : Nat)

inductive TStep where
  | num (i ty q : Nat)
  | num64 (i q : Nat)
  | call (f i ty q : Nat)
  | text (i q : Nat)
  | uuid (i q : Nat)
  | list (i tySl q : Nat) (el : TEl)
  | tags (i g fEach fSorted : Nat)
  | part (f i q : Nat)

def nilV : Operand := .const (.slice none 0 0)
def qV (q : Nat) : Operand := .const (.int .i64 q)
def zeroV : Operand := .const (.agg ⟨zeroTree⟩)

/-- t.L, drawn. -/
def gTL (c : Nums) (n : Nat) (k : Tr) : Tr := .draw <| .pur (.fieldAddr c.tTree (.tmp 4) 3) none <| .lok (.load c.tTrees (.tmp n)) none k

/-- v.X, drawn. -/
def gVX (S i ty n : Nat) (k : Tr) : Tr := .pur (.nilCheck (.tmp 0)) none <| .pur (.fieldAddr S (.tmp n) i) none <| .lok (.load ty (.tmp (n + 1))) none k

/-- t.L[q] = x -/
def gTSet (c : Nums) (L : Nat) (q : Nat) (x : Operand) (n : Nat) (k : Tr) : Tr := .pur (.indexAddr c.tTrees (.tmp L) (qV q)) none <| .op (.store c.tTree (.tmp n) x) none [] k

/-- The making of an element, of what is to be told at id x (an address), and what is owed meanwhile; it yields an operand. -/
def gElOp (c : Nums) (el : TEl) (x : Nat) (Fo : List (Op × Nat)) (n : Nat) (k : Operand → Nat → Tr) : Tr := match el with
  | .sub f => .op (callOp f [.tmp x]) none Fo (k (.tmp n) (n + 1))
  | .text => .op (.convert c.tStr c.tBytes (.tmp x)) none Fo <| .pur (.build c.tTree ⟨[(1, .tmp n)]⟩) none (k (.tmp (n + 1)) (n + 2))
  | .num ty => .op (.convert ty c.tI64 (.tmp x)) none Fo <| .pur (.build c.tTree ⟨[(0, .tmp n)]⟩) none (k (.tmp (n + 1)) (n + 2))

/-- An element's address, or what lies there. -/
def gElAt (c : Nums) (el : TEl) (n : Nat) (k : Nat → Nat → List (Op × Nat) → Tr) : Tr := match el with
  | .sub _ => k (n - 1) n []
  | .text => .lok (.load c.tStr (.tmp (n - 1))) none (k n (n + 1) [(.load c.tStr (.tmp (n - 1)), n)])
  | .num ty => .lok (.load ty (.tmp (n - 1))) none (k n (n + 1) [(.load ty (.tmp (n - 1)), n)])

def gListA (c : Nums) (S i tySl q j d m : Nat) (el : TEl) : Tr :=
  gTL c m <| .pur (.indexAddr c.tTrees (.tmp (m + 1)) (qV q)) none <| .pur (.fieldAddr c.tTree (.tmp (m + 2)) 3) none <| .lok (.load c.tTrees (.tmp (m + 3))) none <| gVX S i tySl (m + 5) <| .pur (.indexAddr tySl (.tmp (m + 7)) (.tmp j)) none <|
  gElAt c el (m + 9) fun x n Fe =>
    let Fo := [(.load tySl (.tmp (m + 6)), m + 7), (.load c.tTrees (.tmp (m + 3)), m + 4), (.load c.tTrees (.tmp m), m + 1)]
    let last (e z : Operand) (n : Nat) : Tr := .op (.call { callee := .builtin .append, args := ⟨[.tmp (m + 4), z]⟩, argTypes := ⟨[c.tTrees, c.tTrees]⟩ }) none [] <|
      .pur (.indexAddr c.tTrees (.tmp (m + 1)) (qV q)) none <| .pur (.fieldAddr c.tTree (.tmp (n + 1)) 3) none <| .op (.store c.tTrees (.tmp (n + 2)) (.tmp n)) none [] <|
      .op (.indexAddr c.tTrees (.tmp n) (.tmp (x + 1))) none [] <| .op (.store c.tTree (.tmp (n + 4)) e) none [] <| .op (.binOp .add c.tInt (.tmp j) (.const (.int .i64 1)) c.tInt) none [] <| .to d [.tmp (n + 6)]
    .pur (.call { callee := .builtin .len, args := ⟨[.tmp (m + 4)]⟩, argTypes := ⟨[c.tTrees]⟩ }) none <|
    .both (gElOp c el x Fo (n + 1) fun e n' => .op (.buildSlice c.tTrees 1 ⟨[(0, zeroV)]⟩) none Fo <| last e (.tmp n') (n' + 1))
      (.op (.buildSlice c.tTrees 1 ⟨[(0, zeroV)]⟩) none (Fe ++ Fo) <| gElOp c el x Fo (n + 2) fun e n' => last e (.tmp (n + 1)) n')

def gListB (c : Nums) (S i tySl q j d m : Nat) (el : TEl) : Tr :=
  gTL c m <| .pur (.fieldAddr c.tTree (.tmp 4) 3) none <| .lok (.load c.tTrees (.tmp (m + 2))) none <| .pur (.indexAddr c.tTrees (.tmp (m + 3)) (qV q)) none <| .pur (.fieldAddr c.tTree (.tmp (m + 4)) 3) none <| .lok (.load c.tTrees (.tmp (m + 5))) none <|
  gVX S i tySl (m + 7) <| .pur (.indexAddr tySl (.tmp (m + 9)) (.tmp j)) none <|
  gElAt c el (m + 11) fun x n _ =>
    let Fo := [(.load tySl (.tmp (m + 8)), m + 9), (.load c.tTrees (.tmp (m + 5)), m + 6), (.load c.tTrees (.tmp (m + 2)), m + 3), (.load c.tTrees (.tmp m), m + 1)]
    let F3 := [(.load tySl (.tmp (m + 8)), m + 9), (.load c.tTrees (.tmp (m + 2)), m + 3), (.load c.tTrees (.tmp m), m + 1)]
    gElOp c el x Fo n fun e n' => .op (.buildSlice c.tTrees 1 ⟨[(0, e)]⟩) none Fo <| .op (.call { callee := .builtin .append, args := ⟨[.tmp (m + 6), .tmp n']⟩, argTypes := ⟨[c.tTrees, c.tTrees]⟩ }) none F3 <|
      .pur (.indexAddr c.tTrees (.tmp (m + 1)) (qV q)) none <| .pur (.fieldAddr c.tTree (.tmp (n' + 2)) 3) none <| .op (.store c.tTrees (.tmp (n' + 3)) (.tmp (n' + 1))) none [] <|
      .op (.binOp .add c.tInt (.tmp j) (.const (.int .i64 1)) c.tInt) none [] <| .to d [.tmp (n' + 5)]

def gTStep (c : Nums) (S : Nat) : TStep → Nat → Nat → (Nat → Nat → Tr) → Tr
  | .num i ty q, n, d, k => gTL c n <| gVX S i ty (n + 2) <| .op (.convert ty c.tI64 (.tmp (n + 4))) none [(.load c.tTrees (.tmp n), n + 1)] <| .pur (.build c.tTree ⟨[(0, .tmp (n + 5))]⟩) none <| gTSet c (n + 1) q (.tmp (n + 6)) (n + 7) (k (n + 9) d)
  | .num64 i q, n, d, k => gTL c n <| gVX S i c.tI64 (n + 2) <| .pur (.build c.tTree ⟨[(0, .tmp (n + 4))]⟩) none <| gTSet c (n + 1) q (.tmp (n + 5)) (n + 6) (k (n + 8) d)
  | .call f i ty q, n, d, k => gTL c n <| gVX S i ty (n + 2) <| .op (callOp f [.tmp (n + 4)]) none [(.load c.tTrees (.tmp n), n + 1)] <| gTSet c (n + 1) q (.tmp (n + 5)) (n + 6) (k (n + 8) d)
  | .text i q, n, d, k => gTL c n <| gVX S i c.tStr (n + 2) <| .op (.convert c.tStr c.tBytes (.tmp (n + 4))) none [(.load c.tTrees (.tmp n), n + 1)] <| .pur (.build c.tTree ⟨[(1, .tmp (n + 5))]⟩) none <| gTSet c (n + 1) q (.tmp (n + 6)) (n + 7) (k (n + 9) d)
  | .uuid i q, n, d, k => gTL c n <| .pur (.nilCheck (.tmp 0)) none <| .pur (.fieldAddr S (.tmp (n + 2)) i) none <| .pur (.slice c.tUuid (.tmp (n + 3)) none none none) none <|
    .op (.call { callee := .builtin .append, args := ⟨[nilV, .tmp (n + 4)]⟩, argTypes := ⟨[c.tBytes, c.tBytes]⟩ }) none [(.load c.tTrees (.tmp n), n + 1)] <| .pur (.build c.tTree ⟨[(1, .tmp (n + 5))]⟩) none <| gTSet c (n + 1) q (.tmp (n + 6)) (n + 7) (k (n + 9) d)
  | .list i tySl q el, n, d, k => gTL c n <| gVX S i tySl (n + 2) <| .pur (.binOp .eql tySl (.tmp (n + 4)) nilV tySl) none <| .pur (.indexAddr c.tTrees (.tmp (n + 1)) (qV q)) none <| .pur (.fieldAddr c.tTree (.tmp (n + 6)) 2) none <| .op (.store c.tBool (.tmp (n + 7)) (.tmp (n + 5))) none [] <|
    gGet (.tmp 0) S i tySl (n + 9) <| .op (.call { callee := .builtin .len, args := ⟨[.tmp (n + 11)]⟩, argTypes := ⟨[tySl]⟩ }) none [] <|
    .loop d [.const (.int .i64 0)] <| .op (.binOp .lss c.tInt (.tmp (n + 13)) (.tmp (n + 12)) c.tInt) none [] <|
    .cond (.tmp (n + 14)) (.coin c.tBool (gListA c S i tySl q (n + 13) d (n + 15) el) (gListB c S i tySl q (n + 13) d (n + 15) el)) (k (n + 15) (d + 1))
  | .tags i g fEach fSorted, n, d, k => .op (.nilCheck (.tmp 0)) none [] <| .op (.fieldAddr S (.tmp n) i) none [] <| .op (.makeFunc (.func g) ⟨[]⟩ ⟨[.tmp 4]⟩) none [] <| .op (callOp fEach [.tmp (n + 1), .tmp (n + 2)]) none [] <|
    .op (.fieldAddr c.tTree (.tmp 4) 4) none [] <| .op (.load c.tTagL (.tmp (n + 4))) none [] <| .op (callOp fSorted [.tmp (n + 5)]) none [] (k (n + 7) d)

  | .part f i q, n, d, k => gTL c n <| .pur (.nilCheck (.tmp 0)) none <| .pur (.fieldAddr S (.tmp (n + 2)) i) none <| .op (callOp f [.tmp (n + 3)]) none [(.load c.tTrees (.tmp n), n + 1)] <| gTSet c (n + 1) q (.tmp (n + 4)) (n + 5) (k (n + 7) d)

def gTSteps (c : Nums) (S : Nat) : List TStep → Nat → Nat → (Nat → Nat → Tr) → Tr
  | [], n, d, k => k n d
  | s :: ss, n, d, k => gTStep c S s n d fun n' d' => gTSteps c S ss n' d' k

/-- tell..: a struct's tree of N things. -/
def gTell (c : Nums) (S N : Nat) (ss : List TStep) : Tr :=
  .op (.alloc c.tTree) none [] <| .op (.makeSlice c.tTrees (.const (.int .i64 N)) (.const (.int .i64 N))) none [] <| .op (.build c.tTree ⟨[(3, .tmp 2)]⟩) none [] <| .op (.alloc c.tTree) none [] <| .op (.store c.tTree (.tmp 4) (.tmp 3)) none [] <|
  gTSteps c S ss 6 0 fun n _ => .op (.load c.tTree (.tmp 4)) none [] <| .op (.store c.tTree (.tmp 1) (.tmp n)) none [] <| .ret [(.tmp 1, some c.tTree)]
end Go.Kf
/- Messages' values have types; what is read has them. -/
namespace Go.Kf
open Go

inductive Ty where
  | num (k : IntKind)
  | bool
  | uuid
  | text
  | ntext
  | octs
  | tags
  | list (ts : List Ty)
  | ptr (ts : List Ty)
  | sub (ts : List Ty)

mutual
def Ty.beq : Ty → Ty → Bool
  | .num k, .num k' => decide (k = k')
  | .bool, .bool => true
  | .uuid, .uuid => true
  | .text, .text => true
  | .ntext, .ntext => true
  | .octs, .octs => true
  | .tags, .tags => true
  | .list a, .list b => beqTys a b
  | .ptr a, .ptr b => beqTys a b
  | .sub a, .sub b => beqTys a b
  | _, _ => false
def beqTys : List Ty → List Ty → Bool
  | [], [] => true
  | a :: l, b :: r => a.beq b && beqTys l r
  | _, _ => false
end

mutual
theorem Ty.beq_eq : ∀ (a b : Ty), a.beq b = true → a = b
  | .num k, b, h => by cases b <;> simp [Ty.beq] at h; rw [h]
  | .bool, b, h => by cases b <;> simp [Ty.beq] at h; rfl
  | .uuid, b, h => by cases b <;> simp [Ty.beq] at h; rfl
  | .text, b, h => by cases b <;> simp [Ty.beq] at h; rfl
  | .ntext, b, h => by cases b <;> simp [Ty.beq] at h; rfl
  | .octs, b, h => by cases b <;> simp [Ty.beq] at h; rfl
  | .tags, b, h => by cases b <;> simp [Ty.beq] at h; rfl
  | .list a, b, h => by
    cases b <;> simp only [Ty.beq, Bool.false_eq_true] at h
    rw [beqTys_eq _ _ h]
  | .ptr a, b, h => by
    cases b <;> simp only [Ty.beq, Bool.false_eq_true] at h
    rw [beqTys_eq _ _ h]
  | .sub a, b, h => by
    cases b <;> simp only [Ty.beq, Bool.false_eq_true] at h
    rw [beqTys_eq _ _ h]
theorem beqTys_eq : ∀ (a b : List Ty), beqTys a b = true → a = b
  | [], b, h => by cases b <;> simp [beqTys] at h; rfl
  | x :: xs, b, h => by
    cases b with
    | nil => simp [beqTys] at h
    | cons y ys =>
      simp only [beqTys, Bool.and_eq_true] at h
      rw [Ty.beq_eq x y h.1, beqTys_eq xs ys h.2]
end

/-- How long texts, octets and lists may be. -/
def big : Nat := 1073741825

mutual
def okF : FV → Ty → Prop
  | .one v, t => match t with
    | .num k => ∃ x, v = .int k x ∧ k.wrap x = x
    | .bool => ∃ b, v = .bool b
    | _ => False
  | .uuid l, t => t = .uuid ∧ l.length = 16
  | .text l, t => t = .text ∧ l.length ≤ big
  | .ntext o, t => t = .ntext ∧ ∀ l, o = some l → l.length ≤ big
  | .octs _ l, t => t = .octs ∧ l.length ≤ big
  | .tags m, t => t = .tags ∧ m.length ≤ big ∧ ∀ p ∈ m, p.2.length ≤ big
  | .list _ rows, t => match t with
    | .list ts => rows.length ≤ big ∧ okRows rows ts
    | _ => False
  | .ptr none, t => match t with
    | .ptr _ => True
    | _ => False
  | .ptr (some fs), t => match t with
    | .ptr ts => okFs fs ts
    | _ => False
  | .sub fs, t => match t with
    | .sub ts => okFs fs ts
    | _ => False
def okFs : List FV → List Ty → Prop
  | [], ts => ts = []
  | f :: fs, ts => match ts with
    | t :: ts => okF f t ∧ okFs fs ts
    | [] => False
def okRows : List (List FV) → List Ty → Prop
  | [], _ => True
  | r :: rs, ts => okFs r ts ∧ okRows rs ts
end

theorem okFs_get : ∀ {fs : List FV} {ts : List Ty} {i : Nat} {t : Ty}, okFs fs ts → ts[i]? = some t → ∃ f, fs[i]? = some f ∧ okF f t
  | [], ts, i, t, h, hi => by simp only [okFs] at h; subst h; simp at hi
  | f :: fs, [], _, _, h, _ => by simp only [okFs] at h
  | f :: fs, t0 :: ts, 0, t, h, hi => by
    simp only [okFs] at h
    simp only [List.getElem?_cons_zero, Option.some.injEq] at hi
    subst hi
    exact ⟨f, rfl, h.1⟩
  | f :: fs, t0 :: ts, i + 1, t, h, hi => by
    simp only [okFs] at h
    simp only [List.getElem?_cons_succ] at hi ⊢
    exact okFs_get h.2 hi

theorem okFs_set : ∀ {fs : List FV} {ts : List Ty} {i : Nat} {t : Ty} {f' : FV}, okFs fs ts → ts[i]? = some t → okF f' t → okFs (fs.set i f') ts
  | [], ts, i, t, _, h, hi, _ => by simp only [okFs] at h; subst h; simp at hi
  | f :: fs, [], _, _, _, h, _, _ => by simp only [okFs] at h
  | f :: fs, t0 :: ts, 0, t, f', h, hi, hf => by
    simp only [okFs] at h
    simp only [List.getElem?_cons_zero, Option.some.injEq] at hi
    subst hi
    exact ⟨hf, h.2⟩
  | f :: fs, t0 :: ts, i + 1, t, f', h, hi, hf => by
    simp only [okFs] at h
    simp only [List.getElem?_cons_succ] at hi
    exact ⟨h.1, okFs_set h.2 hi hf⟩

theorem okRows_all : ∀ {rs : List (List FV)} {ts : List Ty}, (∀ r ∈ rs, okFs r ts) → okRows rs ts
  | [], _, _ => trivial
  | r :: _, _, h => ⟨h r List.mem_cons_self, okRows_all fun x hx => h x (List.mem_cons_of_mem _ hx)⟩

theorem okRows_mem : ∀ {rs : List (List FV)} {ts : List Ty}, okRows rs ts → ∀ r ∈ rs, okFs r ts
  | [], _, _, _, h => by cases h
  | _ :: _, _, h, x, hx => by
    rcases List.mem_cons.1 hx with e | hx
    · rw [e]; exact h.1
    · exact okRows_mem h.2 x hx

theorem wrap_wrap (k : IntKind) (x : Int) : k.wrap (k.wrap x) = k.wrap x := by
  cases k <;> simp only [IntKind.wrap, IntKind.bits, IntKind.signed] <;> simp <;> (try split) <;> (try split) <;> omega

def PK.ty : PK → Ty
  | .num _ k => .num k
  | .bool => .bool
  | .str => .text
  | .cstr => .text
  | .nstr => .ntext
  | .cnstr => .ntext
  | .bytes => .octs
  | .cbytes => .octs
  | .nbytes => .octs
  | .cnbytes => .octs
  | .uuid => .uuid
  | .tags => .tags

theorem rSpan_short (m : Int) (r : Rd) : (rSpan m r).1.1.length ≤ r.l.length := by
  unfold rSpan
  split
  · simp
  · simp only [List.length_take]; omega

theorem tmSet_len : ∀ (m : TM) (k : Nat) (l : List UInt8), (tmSet m k l).length ≤ m.length + 1 ∧ (k ∈ m.map (·.1) → (tmSet m k l).length = m.length) ∧ k ∈ (tmSet m k l).map (·.1) ∧ (∀ x ∈ m.map (·.1), x ∈ (tmSet m k l).map (·.1))
  | [], k, l => by simp [tmSet]
  | p :: m, k, l => by
    obtain ⟨h1, h2, h3, h4⟩ := tmSet_len m k l
    by_cases hp : p.1 = k
    · simp [tmSet, hp]
    · simp only [tmSet, if_neg hp, List.length_cons, List.map_cons, List.mem_cons]
      refine ⟨by omega, fun h => ?_, .inr h3, fun x hx => hx.imp id (h4 x)⟩
      rcases h with h | h
      · exact absurd h.symm hp
      · rw [h2 h]

theorem rUv_or (r : Rd) : ((rUv r).1 = 0 ∧ (rUv r).2.l = []) ∨ (rUv r).2.l.length + 1 ≤ r.l.length := by
  unfold rUv
  split
  · exact .inl ⟨rfl, rfl⟩
  · rename_i h
    right
    have hle := uvarAt_le r.l 0 0 (by omega)
    have : (uvar r.l).2 ≤ (0 + r.l.length : Nat) := hle
    simp only [List.length_drop]
    omega

theorem rTagsN_size : ∀ (n : Nat) (m : TM) (r : Rd), (rTagsN n m r).1.length ≤ m.length + r.l.length + 1 ∧ (0 ∈ m.map (·.1) → (rTagsN n m r).1.length ≤ m.length + r.l.length)
  | 0, m, r => ⟨by simp only [rTagsN]; omega, fun _ => by simp only [rTagsN]; omega⟩
  | n + 1, m, r => by
    have key := fun m' r' => rTagsN_size n m' r'
    have hs := tmSet_len m (rUv r).1 (rSpan (rUv (rUv r).2).1 (rUv (rUv r).2).2).1.1
    have hl : (rSpan (rUv (rUv r).2).1 (rUv (rUv r).2).2).2.l.length ≤ (rUv r).2.l.length := Nat.le_trans (rSpan_len _ _) (rUv_len _)
    obtain ⟨k1, k2⟩ := key (tmSet m (rUv r).1 (rSpan (rUv (rUv r).2).1 (rUv (rUv r).2).2).1.1) (rSpan (rUv (rUv r).2).1 (rUv (rUv r).2).2).2
    simp only [rTagsN]
    rcases rUv_or r with ⟨h0, hn⟩ | hlt
    · rw [hn, List.length_nil] at hl
      have h00 : 0 ∈ (tmSet m (rUv r).1 (rSpan (rUv (rUv r).2).1 (rUv (rUv r).2).2).1.1).map (·.1) := by have := hs.2.2.1; rw [h0] at this ⊢; exact this
      have k3 := k2 h00
      refine ⟨by omega, fun h => ?_⟩
      have := hs.2.1 (by rw [h0]; exact h)
      omega
    · refine ⟨by omega, fun h => ?_⟩
      have k3 := k2 (hs.2.2.2 0 h)
      omega

theorem tmSet_mem : ∀ (m : TM) (k : Nat) (l : List UInt8) (p : Nat × List UInt8), p ∈ tmSet m k l → p ∈ m ∨ p = (k, l)
  | [], k, l, p, h => by simp only [tmSet, List.mem_singleton] at h; exact .inr h
  | q :: m, k, l, p, h => by
    simp only [tmSet] at h
    split at h
    · rcases List.mem_cons.1 h with h | h
      · exact .inr h
      · exact .inl (List.mem_cons_of_mem _ h)
    · rcases List.mem_cons.1 h with h | h
      · exact .inl (by rw [h]; exact List.mem_cons_self)
      · exact (tmSet_mem m k l p h).imp (List.mem_cons_of_mem _) id

theorem rTagsN_vals {B : Nat} : ∀ (n : Nat) (m : TM) (r : Rd), r.l.length ≤ B → (∀ p ∈ m, p.2.length ≤ B) → ∀ p ∈ (rTagsN n m r).1, p.2.length ≤ B
  | 0, _, _, _, h => h
  | n + 1, m, r, hr, h => by
    simp only [rTagsN]
    have h1 : (rUv (rUv r).2).2.l.length ≤ B := Nat.le_trans (rUv_len _) (Nat.le_trans (rUv_len _) hr)
    refine rTagsN_vals n _ _ (Nat.le_trans (rSpan_len _ _) h1) fun p hp => ?_
    rcases tmSet_mem _ _ _ _ hp with hp | rfl
    · exact h p hp
    · exact Nat.le_trans (rSpan_short _ _) h1

theorem PK.run_ok (pk : PK) (r : Rd) (hr : r.l.length ≤ 1073741824) : okF (pk.run r).1 pk.ty := by
  have hf := fun N => Nat.le_trans (rFix_len N r) hr
  have hu := Nat.le_trans (rUv_len r) hr
  have hs := fun m (r' : Rd) (h : r'.l.length ≤ 1073741824) => Nat.le_trans (rSpan_short m r') (Nat.le_trans h (by decide : 1073741824 ≤ big))
  cases pk with
  | num N k => exact ⟨_, rfl, wrap_wrap k _⟩
  | bool => exact ⟨_, rfl⟩
  | str => exact ⟨rfl, hs _ _ (hf 2)⟩
  | cstr => exact ⟨rfl, hs _ _ hu⟩
  | nstr =>
    refine ⟨rfl, fun l hl => ?_⟩
    simp only [rNStr] at hl
    split at hl
    · cases hl
    · simp only [Option.some.injEq] at hl; subst hl; exact hs _ _ (hf 2)
  | cnstr =>
    refine ⟨rfl, fun l hl => ?_⟩
    simp only [rCNStr] at hl
    split at hl
    · cases hl
    · simp only [Option.some.injEq] at hl; subst hl; exact hs _ _ hu
  | bytes =>
    refine ⟨rfl, ?_⟩
    simp only [rBytes]
    split
    · simp [big]
    · exact hs _ _ (hf 4)
  | cbytes =>
    refine ⟨rfl, ?_⟩
    simp only [rCBytes]
    split
    · simp [big]
    · exact hs _ _ hu
  | nbytes =>
    refine ⟨rfl, ?_⟩
    simp only [rNBytes]
    split
    · simp [big]
    · exact hs _ _ (hf 4)
  | cnbytes =>
    refine ⟨rfl, ?_⟩
    simp only [rCNBytes]
    split
    · simp [big]
    · exact hs _ _ hu
  | uuid => exact ⟨rfl, padTo_length 16 _⟩
  | tags =>
    refine ⟨rfl, ?_, ?_⟩
    · have := (rTagsN_size (rUv r).1 [] (rUv r).2).1
      simp only [List.length_nil] at this
      show (rTagsN _ _ _).1.length ≤ 1073741825
      omega
    · intro p hp
      exact Nat.le_trans (rTagsN_vals (B := 1073741824) (rUv r).1 [] (rUv r).2 hu (fun p hp => by cases hp) p hp) (by decide)

/-! ### Steps -/

/-- A default's type. -/
def okImm0 : FV → Ty → Bool
  | .one (.int k x), .num k' => decide (k = k') && decide (k.wrap x = x)
  | .one (.bool _), .bool => true
  | .uuid l, .uuid => Nat.beq l.length 16
  | .text [], .text => true
  | .ntext none, .ntext => true
  | .octs _ [], .octs => true
  | .tags [], .tags => true
  | .list _ [], .list _ => true
  | .ptr none, .ptr _ => true
  | _, _ => false

theorem okImm0_ok {f : FV} {t : Ty} (h : okImm0 f t = true) : okF f t := by
  unfold okImm0 at h
  split at h
  · simp only [Bool.and_eq_true, decide_eq_true_eq] at h
    obtain ⟨rfl, h⟩ := h
    exact ⟨_, rfl, h⟩
  · exact ⟨_, rfl⟩
  · exact ⟨rfl, Nat.eq_of_beq_eq_true h⟩
  · exact ⟨rfl, Nat.zero_le _⟩
  · exact ⟨rfl, fun l hl => by cases hl⟩
  · exact ⟨rfl, Nat.zero_le _⟩
  · exact ⟨rfl, Nat.zero_le _, fun p hp => by cases hp⟩
  · exact ⟨Nat.zero_le _, trivial⟩
  · exact trivial
  · cases h

mutual
def okImm : FV → Ty → Bool
  | .sub fs, t => match t with
    | .sub ts => okImms fs ts
    | _ => false
  | .one v, t => okImm0 (.one v) t
  | .uuid l, t => okImm0 (.uuid l) t
  | .text l, t => okImm0 (.text l) t
  | .ntext o, t => okImm0 (.ntext o) t
  | .octs nl l, t => okImm0 (.octs nl l) t
  | .tags m, t => okImm0 (.tags m) t
  | .list nl rows, t => okImm0 (.list nl rows) t
  | .ptr o, t => okImm0 (.ptr o) t
def okImms : List FV → List Ty → Bool
  | [], ts => match ts with
    | [] => true
    | _ => false
  | f :: fs, ts => match ts with
    | t :: ts => okImm f t && okImms fs ts
    | _ => false
end

mutual
theorem okImm_ok : ∀ {f : FV} {t : Ty}, okImm f t = true → okF f t
  | .sub fs, t, h => by
    simp only [okImm] at h
    cases t with
    | sub ts => exact okImms_ok h
    | _ => cases h
  | .one v, _, h => okImm0_ok (by simpa only [okImm] using h)
  | .uuid l, _, h => okImm0_ok (by simpa only [okImm] using h)
  | .text l, _, h => okImm0_ok (by simpa only [okImm] using h)
  | .ntext o, _, h => okImm0_ok (by simpa only [okImm] using h)
  | .octs nl l, _, h => okImm0_ok (by simpa only [okImm] using h)
  | .tags m, _, h => okImm0_ok (by simpa only [okImm] using h)
  | .list nl rows, _, h => okImm0_ok (by simpa only [okImm] using h)
  | .ptr o, _, h => okImm0_ok (by simpa only [okImm] using h)
theorem okImms_ok : ∀ {fs : List FV} {ts : List Ty}, okImms fs ts = true → okFs fs ts
  | [], [], _ => rfl
  | [], _ :: _, h => by simp [okImms] at h
  | _ :: _, [], h => by simp [okImms] at h
  | f :: fs, t :: ts, h => by
    simp only [okImms, Bool.and_eq_true] at h
    exact ⟨okImm_ok h.1, okImms_ok h.2⟩
end

mutual
/-- What Default sets is of the fields' types. -/
def tyDset (ts : List Ty) : Dset → Bool
  | .set i _ _ v => match ts[i]? with
    | some t => okImm (.one v) t
    | none => false
  | .sub i _ _ _ ds => match ts[i]? with
    | some (.sub us) => tyDsets us ds
    | _ => false
def tyDsets (ts : List Ty) : List Dset → Bool
  | [] => true
  | d :: ds => tyDset ts d && tyDsets ts ds
end

theorem okF_part {f : FV} {us : List Ty} (h : okF f (.sub us)) : ∃ gs, f = .sub gs ∧ okFs gs us := by
  cases f with
  | sub fs => exact ⟨fs, rfl, h⟩
  | ptr o => cases o <;> simp [okF] at h
  | _ => simp [okF] at h

mutual
theorem applyD1_ok : ∀ (d : Dset) (ts : List Ty) (fs : List FV), tyDset ts d = true → okFs fs ts → okFs (applyD1 d fs) ts
  | .set i _ _ v, ts, fs, h, hf => by
    simp only [tyDset] at h
    split at h
    · rename_i t ht
      simp only [applyD1]
      exact okFs_set hf ht (okImm_ok h)
    · cases h
  | .sub i _ _ _ ds, ts, fs, h, hf => by
    simp only [tyDset] at h
    split at h
    · rename_i us ht
      obtain ⟨f, hfi, hft⟩ := okFs_get hf ht
      obtain ⟨gs, rfl, hg⟩ := okF_part hft
      simp only [applyD1, hfi]
      exact okFs_set hf ht (applyD_ok ds us gs h hg)
    · cases h
theorem applyD_ok : ∀ (ds : List Dset) (ts : List Ty) (fs : List FV), tyDsets ts ds = true → okFs fs ts → okFs (applyD ds fs) ts
  | [], _, _, _, hf => by simpa [applyD] using hf
  | d :: ds, ts, fs, h, hf => by
    simp only [tyDsets, Bool.and_eq_true] at h
    simp only [applyD]
    exact applyD_ok ds ts _ h.2 (applyD1_ok d ts fs h.1 hf)
end

mutual
def tyStep (ts : List Ty) : Step → Bool
  | .call pk _ i _ _ => match ts[i]? with
    | some t => t.beq pk.ty
    | none => false
  | .uuid _ i _ => match ts[i]? with
    | some t => t.beq .uuid
    | none => false
  | .listP _ _ i _ _ pk _ _ => match ts[i]? with
    | some t => t.beq (.list [pk.ty])
    | none => false
  | .listS _ _ i _ _ _ _ _ dflt ss => match ts[i]? with
    | some (.list us) => okImms dflt us && tySteps us ss
    | _ => false
  | .sub i _ _ _ ds _ ss => match ts[i]? with
    | some (.sub us) => tyDsets us ds && tySteps us ss
    | _ => false
  | .strP pk _ i _ _ => match ts[i]? with
    | some t => t.beq .ntext && pk.ty.beq .text
    | none => false
def tySteps (ts : List Ty) : List Step → Bool
  | [] => true
  | s :: ss => tyStep ts s && tySteps ts ss
end

theorem readP_ok (pk : PK) : ∀ (n : Nat) (r : Rd), r.l.length ≤ 1073741824 → (readP pk n r).1.length = n ∧ ∀ x ∈ (readP pk n r).1, okFs x [pk.ty]
  | 0, _, _ => ⟨rfl, fun x hx => by cases hx⟩
  | n + 1, r, hr => by
    have ih := readP_ok pk n (pk.run r).2 (Nat.le_trans (pk.run_len r) hr)
    refine ⟨by simp [readP, ih.1], fun x hx => ?_⟩
    simp only [readP] at hx
    rcases List.mem_cons.1 hx with e | hx
    · rw [e]; exact ⟨pk.run_ok r hr, rfl⟩
    · exact ih.2 x hx

theorem readS_ok {g : Rd → Option (List FV × Rd)} {us : List Ty} (hl : ∀ r x r', g r = some (x, r') → r'.l.length ≤ r.l.length) (hg : ∀ r x r', r.l.length ≤ 1073741824 → g r = some (x, r') → okFs x us) : ∀ (n : Nat) (r : Rd) (xs : List (List FV)) (r' : Rd), r.l.length ≤ 1073741824 → readS g n r = some (xs, r') → xs.length = n ∧ ∀ x ∈ xs, okFs x us
  | 0, r, xs, r', _, h => by
    simp only [readS, Option.some.injEq, Prod.mk.injEq] at h
    rw [← h.1]
    exact ⟨rfl, fun x hx => by cases hx⟩
  | n + 1, r, xs, r', hr, h => by
    simp only [readS] at h
    split at h
    · rename_i x r1 h1
      split at h
      · rename_i ys r2 h2
        simp only [Option.some.injEq, Prod.mk.injEq] at h
        have ih := readS_ok hl hg n r1 ys r2 (Nat.le_trans (hl _ _ _ h1) hr) h2
        rw [← h.1]
        refine ⟨by simp [ih.1], fun y hy => ?_⟩
        rcases List.mem_cons.1 hy with e | hy
        · rw [e]; exact hg _ _ _ hr h1
        · exact ih.2 y hy
      · cases h
    · cases h

theorem toNat_le_big {x : Int} {n : Nat} (h : x ≤ n) (hn : n ≤ 1073741824) : x.toNat ≤ big := by
  simp only [big]; omega

mutual
theorem runStep_ok : ∀ (s : Step) (ts : List Ty) (fs : List FV) (r : Rd) (fs' : List FV) (r' : Rd), tyStep ts s = true → okFs fs ts → r.l.length ≤ 1073741824 → runStep s fs r = some (fs', r') → okFs fs' ts
  | .call pk f i ty off, ts, fs, r, fs', r', ht, hf, hr, h => by
    simp only [runStep, Option.some.injEq, Prod.mk.injEq] at h
    simp only [tyStep] at ht
    split at ht
    · rename_i t hi
      rw [Ty.beq_eq _ _ ht] at hi
      rw [← h.1]
      exact okFs_set hf hi (pk.run_ok r hr)
    · cases ht
  | .uuid f i off, ts, fs, r, fs', r', ht, hf, hr, h => by
    simp only [runStep, Option.some.injEq, Prod.mk.injEq] at h
    simp only [tyStep] at ht
    split at ht
    · rename_i t hi
      rw [Ty.beq_eq _ _ ht] at hi
      rw [← h.1]
      exact okFs_set hf hi (PK.uuid.run_ok r hr)
    · cases ht
  | .listP lk fl i tySl off pk f T, ts, fs, r, fs', r', ht, hf, hr, h => by
    simp only [runStep] at h
    simp only [tyStep] at ht
    split at ht
    · rename_i t hi
      rw [Ty.beq_eq _ _ ht] at hi
      split at h
      · cases h
      · simp only [Option.some.injEq, Prod.mk.injEq] at h
        have hl := Nat.le_trans (lk.run_len r) hr
        have hp := readP_ok pk (lk.run r).1.toNat (lk.run r).2 hl
        rw [← h.1]
        refine okFs_set hf hi ⟨?_, okRows_all hp.2⟩
        rw [hp.1]
        exact toNat_le_big (lk.run_le r) hl
    · cases ht
  | .listS lk fl i tySl off T sz fDef dflt ss, ts, fs, r, fs', r', ht, hf, hr, h => by
    simp only [runStep] at h
    simp only [tyStep] at ht
    split at ht
    · rename_i us hi
      simp only [Bool.and_eq_true] at ht
      split at h
      · cases h
      · split at h
        · rename_i xs r2 h2
          simp only [Option.some.injEq, Prod.mk.injEq] at h
          have hl := Nat.le_trans (lk.run_len r) hr
          have hp := readS_ok (us := us) (fun r x r' h => runSteps_len ss dflt r x r' h) (fun r x r' hr h => runSteps_ok ss us dflt r x r' ht.2 (okImms_ok ht.1) hr h) _ _ _ _ hl h2
          rw [← h.1]
          refine okFs_set hf hi ⟨?_, okRows_all hp.2⟩
          rw [hp.1]
          exact toNat_le_big (lk.run_le r) hl
        · cases h
    · cases ht
  | .sub i off T fDef ds lsS ss, ts, fs, r, fs', r', ht, hf, hr, h => by
    simp only [runStep] at h
    simp only [tyStep] at ht
    split at ht
    · rename_i us hi
      simp only [Bool.and_eq_true] at ht
      obtain ⟨f, hfi, hft⟩ := okFs_get hf hi
      obtain ⟨gs, rfl, hg⟩ := okF_part hft
      rw [hfi] at h
      simp only at h
      split at h
      · rename_i gs' r2 h2
        simp only [Option.some.injEq, Prod.mk.injEq] at h
        rw [← h.1]
        exact okFs_set hf hi (show okF (.sub gs') (.sub us) from runSteps_ok ss us _ r gs' r2 ht.2 (applyD_ok ds us gs ht.1 hg) hr h2)
      · cases h
    · cases ht
  | .strP pk f i ty off, ts, fs, r, fs', r', ht, hf, hr, h => by
    simp only [runStep] at h
    simp only [tyStep] at ht
    split at ht
    · rename_i t hi
      simp only [Bool.and_eq_true] at ht
      rw [Ty.beq_eq _ _ ht.1] at hi
      have hpk := pk.run_ok r hr
      rw [Ty.beq_eq _ _ ht.2] at hpk
      split at h
      · rename_i l hl
        simp only [Option.some.injEq, Prod.mk.injEq] at h
        rw [hl] at hpk
        rw [← h.1]
        exact okFs_set hf hi ⟨rfl, fun l' hl' => by cases hl'; exact hpk.2⟩
      · cases h
    · cases ht
theorem runSteps_ok : ∀ (ss : List Step) (ts : List Ty) (fs : List FV) (r : Rd) (fs' : List FV) (r' : Rd), tySteps ts ss = true → okFs fs ts → r.l.length ≤ 1073741824 → runSteps ss fs r = some (fs', r') → okFs fs' ts
  | [], ts, fs, r, fs', r', _, hf, _, h => by
    simp only [runSteps, Option.some.injEq, Prod.mk.injEq] at h
    rw [← h.1]; exact hf
  | s :: ss, ts, fs, r, fs', r', ht, hf, hr, h => by
    simp only [runSteps] at h
    simp only [tySteps, Bool.and_eq_true] at ht
    split at h
    · rename_i fs1 r1 h1
      exact runSteps_ok ss ts fs1 r1 fs' r' ht.2 (runStep_ok s ts fs r fs1 r1 ht.1 hf hr h1) (Nat.le_trans (runStep_len s fs r fs1 r1 h1) hr) h
    · cases h
end
end Go.Kf
/- That a tell function's tree tells: its state, plain fields. -/
namespace Go.Kf
open Go

def tellPrim : FV → PT
  | .one (.int _ x) => .mk x [] false [] []
  | .one (.bool b) => .mk (if b then 1 else 0) [] false [] []
  | .uuid l => .mk 0 l false [] []
  | .text l => .mk 0 l false [] []
  | .ntext none => .mk 0 [] true [] []
  | .ntext (some l) => .mk 0 l false [] []
  | .octs nl l => .mk 0 l nl [] []
  | _ => .zero

/-- What is known while a struct is told: w0 is the world at the beginning; N things, so far ts; the tags so far. -/
structure TS (w0 w : World) (N : Nat) (ts : List PT) (u : TM) (uv : Value) : Prop where
  k : Keeps [] w0 w
  res : Has w w0.heap.size zeroTree
  row : ∃ rcs, Has w (w0.heap.size + 1) rcs ∧ rcs.length = N * 5 ∧ TreesAt w (fun b => w0.heap.size + 2 < b) ts rcs
  len : ts.length = N
  top : Has w (w0.heap.size + 2) [.int .i64 0, .slice none 0 0, .bool false, .slice (some ⟨w0.heap.size + 1, 0, none⟩) N N, uv]
  uok : TagsIn w (fun b => w0.heap.size + 2 < b) u uv

theorem TS.keep {w0 w w' : World} {N : Nat} {ts : List PT} {u : TM} {uv : Value} (h : TS w0 w N ts u uv) (hk : Keeps [] w w') : TS w0 w' N ts u uv := by
  obtain ⟨rcs, h1, h2, h3⟩ := h.row
  exact ⟨h.k.trans hk, h.res.keep hk (by simp), ⟨rcs, h1.keep hk (by simp), h2, TreesAt.keep hk (fun b hb => by cases hb) (fun _ h _ => h) _ _ h3⟩, h.len, h.top.keep hk (by simp), h.uok.keep hk (fun b hb => by cases hb) (fun _ h _ => h)⟩

/-- The things from m on are untouched. -/
def Raw (w0 w : World) (N m : Nat) : Prop := ∀ rcs, Has w (w0.heap.size + 1) rcs → ∀ i, m ≤ i → i < N → (rcs.drop (i * 5)).take 5 = zeroTree

theorem Raw.keep {w0 w w' : World} {N m : Nat} {ts : List PT} {u : TM} {uv : Value} (h : Raw w0 w N m) (hT : TS w0 w N ts u uv) (hk : Keeps [] w w') : Raw w0 w' N m := by
  intro rcs hr
  obtain ⟨rcs0, h1, _⟩ := hT.row
  rw [hr.inj (h1.keep hk (by simp))]
  exact h rcs0 h1

/-- The struct that is told lies there from the beginning. -/
structure TIn (w0 : World) (D V lo : Nat) (pre post : List Value) (fs : List FV) : Prop where
  st : ∃ mid, Has w0 V (pre ++ mid ++ post) ∧ FsAt D w0 lo fs mid

theorem TIn.get {w0 w : World} {D V lo : Nat} {pre post : List Value} {fs : List FV} (h : TIn w0 D V lo pre post fs) (hk : Keeps [] w0 w) {i off : Nat} {f : FV} (hf : fs[i]? = some f) (hoff : ((fs.map FV.wd).take i).sum = off) :
    ∃ cs m, Has w V cs ∧ FAt D w lo f m ∧ (∀ j, j < m.length → cs[pre.length + off + j]? = m[j]?) ∧ pre.length + off + m.length ≤ cs.length := by
  obtain ⟨mid, hh, hfs⟩ := h.st
  have hh' := hh.keep hk (by simp)
  have hfs' := FsAt.keep (D := D) hk lo (fun b hb => by cases hb) _ _ hfs
  obtain ⟨a, m, z, e, ha, hm, _⟩ := hfs'.split hf
  have hao : a.length = off := by rw [ha, wds_eq, List.map_take]; exact hoff
  refine ⟨_, m, hh', hm, fun j hj => ?_, by rw [e]; simp; omega⟩
  rw [e, show pre ++ (a ++ m ++ z) ++ post = (pre ++ a) ++ (m ++ (z ++ post)) by simp, List.getElem?_append_right (by simp; omega), List.getElem?_append_left (by simp; omega)]
  congr 1
  simp; omega

section
variable {P : Program} {c : Nums} {R : Value → World → Prop} {Γ : List (List Value → World → Prop)} {n : Nat} {ρ : Nat → Value} {w w0 : World} {k : Tr} {N : Nat} {ts : List PT} {u : TM} {uv : Value}

def rowV (w0 : World) (N : Nat) : Value := .slice (some ⟨w0.heap.size + 1, 0, none⟩) N N

theorem s_TL (Z : TyFacts P c c.tTree c.tTrees c.tTagL c.tTag) (h4 : ρ 4 = ptr (w0.heap.size + 2)) (h : TS w0 w N ts u uv)
    (hk : ∀ w', TS w0 w' N ts u uv → Keeps [] w w' → k.sem P R Γ (n + 2) (ext (ext ρ n [ptr (w0.heap.size + 2) 3]) (n + 1) [rowV w0 N]) w') : (gTL c n k).sem P R Γ n ρ w := by
  have hd : Keeps [] w { w with drawn := w.drawn + 1 } := keeps_drawn w _ _
  have h' := h.keep hd
  refine p_fl Z.f3 Z.oneTrees (show ev ρ (.tmp 4) = ptr (w0.heap.size + 2) from h4) rfl h'.top rfl ?_
  exact hk _ h' hd

/-- The row, owed. -/
theorem TL_owed (Z : TyFacts P c c.tTree c.tTrees c.tTagL c.tTag) {n : Nat} (hn : ρ n = ptr (w0.heap.size + 2) 3) (h1 : ρ (n + 1) = rowV w0 N) (h : TS w0 w N ts u uv) : ∀ p ∈ [(Op.load c.tTrees (.tmp n), n + 1)], runOp P ρ p.1 w = .ok (.value (ρ p.2)) w := by
  intro p hp
  simp only [List.mem_singleton] at hp
  subst hp
  show runOp P ρ (.load c.tTrees (.tmp n)) w = .ok (.value (ρ (n + 1))) w
  rw [h1]
  exact l_load1 (b := w0.heap.size + 2) (o := 3) Z.oneTrees hn h.top rfl

theorem s_TSet {L q : Nat} {x : Operand} {t : PT} {cs : List Value} (Z : TyFacts P c c.tTree c.tTrees c.tTagL c.tTag) (hL : ρ L = rowV w0 N) (hq : q < N) (hx : ev ρ x = .agg ⟨cs⟩) (hbx : opBelow n x) (ht : TreeAt w (fun b => w0.heap.size + 2 < b) t cs) (h : TS w0 w N ts u uv)
    (hk : ∀ w', TS w0 w' N (ts.set q t) u uv → (Raw w0 w N q → Raw w0 w' N (q + 1)) → k.sem P R Γ (n + 2) (ext (ext ρ n [ptr (w0.heap.size + 1) (q * 5)]) (n + 1) [undef]) w') : (gTSet c L q x n k).sem P R Γ n ρ w := by
  obtain ⟨rcs, h1, h2, h3⟩ := h.row
  have hszT : (P.info? c.tTree).map (·.size) = some 5 := (aggTy_spec (w := w) Z.agg).2
  have e0 : (0 : Nat) + (q : Int).toNat * 5 = q * 5 := by simp
  have hv := v_indexAddr (P := P) (ρ := ρ) (t := c.tTrees) (x := .tmp L) (i := qV q) (b := w0.heap.size + 1) (o := 0) (l := N) (c := N) (j := q) (kk := .i64) Z.sl hszT hL rfl (by omega) (by omega)
  rw [e0] at hv
  refine p_val hv ?_
  have hcl := ht.len
  have hlen := h.len
  have hlt : q * 5 + 5 ≤ rcs.length := by rw [h2]; omega
  obtain ⟨w', e1, hh, kk⟩ := a_storeCells (P := P) (ρ := ext ρ n [ptr (w0.heap.size + 1) (q * 5)]) (w := w) (t := c.tTree) (x := .tmp n) (y := x) (b := w0.heap.size + 1) (o := q * 5) (vs := cs) (by rw [hcl]; exact hszT) ext_at (by rw [ev_ext hbx, hx]; rfl) h1 (by omega) ht.ones
  refine s_unit e1 (fun p hp => (by cases hp)) (hk w' ?_ ?_)
  rotate_left
  · intro hraw rcs' hr' i hi hN
    rw [hr'.inj hh]
    have hold := hraw rcs h1 i (by omega) hN
    rw [← hold]
    unfold splice
    apply List.ext_getElem?
    intro p
    simp only [List.getElem?_take]
    split
    · rw [List.getElem?_drop, List.getElem?_drop, List.getElem?_append_right (by simp; omega), List.getElem?_drop]
      congr 1
      simp; omega
    · rfl
  have hqt : q < ts.length := by omega
  obtain ⟨a, m, z, e, ha, hm, hset⟩ := h3.split (List.getElem?_eq_getElem hqt)
  have hml := hm.len
  have hsp : splice rcs (q * 5) cs = a ++ cs ++ z := by
    unfold splice
    have t1 : (a ++ m ++ z).take a.length = a := by rw [List.append_assoc, List.take_left' rfl]
    rw [e, ← ha, t1, List.drop_left' (by simp; omega)]
  rw [hsp] at hh
  have hA : ∀ b ∈ [w0.heap.size + 1], ¬ w0.heap.size + 2 < b := fun b hb => by simp only [List.mem_singleton] at hb; omega
  refine ⟨(h.k.mono (by simp) |>.trans kk).less (fun x hx => .inr (by simp only [List.mem_singleton] at hx; omega)), h.res.keep kk (by simp), ⟨_, hh, by rw [List.length_append, List.length_append, hcl]; have := congrArg List.length e; simp only [List.length_append] at this; omega, TreesAt.keep kk hA (fun _ h _ => h) _ _ (hset t cs ht)⟩, by simp [hlen], h.top.keep kk (by simp), h.uok.keep kk hA (fun _ h _ => h)⟩

theorem num_tree (w : World) (A : Nat → Prop) (x : Int) : TreeAt w A (.mk x [] false [] []) [.int .i64 x, .slice none 0 0, .bool false, .slice none 0 0, .slice none 0 0] := by
  have h := zeroTree_at w A
  obtain ⟨sv, lv, uv, lcs, e, hr⟩ := h
  simp only [zeroTree, List.cons.injEq, and_true] at e
  obtain ⟨_, rfl, _, rfl, rfl⟩ := e
  exact ⟨_, _, _, lcs, rfl, hr⟩

theorem oct_tree {w : World} {A : Nat → Prop} {l : List UInt8} {v : Value} (h : OctIn w A l v) (null : Bool) : TreeAt w A (.mk 0 l null [] []) [.int .i64 0, v, .bool null, .slice none 0 0, .slice none 0 0] := by
  have h0 := zeroTree_at w A
  obtain ⟨sv, lv, uv, lcs, e, hr⟩ := h0
  simp only [zeroTree, List.cons.injEq, and_true] at e
  obtain ⟨_, rfl, _, rfl, rfl⟩ := e
  exact ⟨_, _, _, lcs, rfl, h, hr.2⟩
end
end Go.Kf
/- That a tell function's tree tells: plain fields. -/
namespace Go.Kf
open Go

/-- The field i of the told struct. -/
structure FieldOk (P : Program) (S : Nat) (ls : List Nat) (i off : Nat) : Prop where
  field : fieldOff P S i = some off
  off : (ls.take i).sum = off

section
variable {P : Program} {c : Nums} {R : Value → World → Prop} {Γ : List (List Value → World → Prop)} {n : Nat} {ρ : Nat → Value} {w w0 : World} {k : Tr} {N : Nat} {ts : List PT} {u : TM} {uv : Value} {D V lo S : Nat} {pre post : List Value} {fs : List FV}

/-- What is to be shown for a step that tells a field. -/
def SemT (P : Program) (c : Nums) (R : Value → World → Prop) (w0 : World) (N S V : Nat) (pre : List Value) (s : TStep) (q : Nat) (t : PT) : Prop :=
  ∀ (n : Nat) (k : Nat → Nat → Tr) (Γ : List (List Value → World → Prop)) (ρ : Nat → Value) (w : World) (ts : List PT) (u : TM) (uv : Value), 6 ≤ n → ρ 0 = ptr V pre.length → ρ 1 = ptr w0.heap.size → ρ 4 = ptr (w0.heap.size + 2) → TS w0 w N ts u uv → Raw w0 w N q →
    (∀ n' Γ' ρ' w', n ≤ n' → (∃ Δ, Γ' = Γ ++ Δ) → (∀ x, x < n → ρ' x = ρ x) → TS w0 w' N (ts.set q t) u uv → Raw w0 w' N (q + 1) → (k n' Γ'.length).sem P R Γ' n' ρ' w') → (gTStep c S s n Γ.length k).sem P R Γ n ρ w

theorem s_VX {i ty off : Nat} {cs : List Value} {v : Value} (hf : fieldOff P S i = some off) (h1 : oneTy P ty = true) (hp : ρ 0 = ptr V pre.length) (hh : Has w V cs) (hv : cs[pre.length + off]? = some v)
    (hk : k.sem P R Γ (n + 3) (ext (ext (ext ρ n [ptr V pre.length]) (n + 1) [ptr V (pre.length + off)]) (n + 2) [v]) w) : (gVX S i ty n k).sem P R Γ n ρ w :=
  p_val (v_nilCheck (show ev ρ (.tmp 0) = _ from hp)) (p_fl hf h1 (show ev _ (.tmp n) = ptr V pre.length from ext_at) rfl hh hv hk)

theorem TIn.one {i off : Nat} {f : FV} {v : Value} {ls : List Nat} (h : TIn w0 D V lo pre post fs) (hls : fs.map FV.wd = ls) (hF : FieldOk P S ls i off) (hk : Keeps [] w0 w) (hf : fs[i]? = some f) (h1 : ∀ m, FAt D w lo f m → m = [v]) : ∃ cs, Has w V cs ∧ cs[pre.length + off]? = some v := by
  obtain ⟨cs, m, hh, hm, hcs, _⟩ := h.get (off := off) hk hf (by rw [hls]; exact hF.off)
  have := h1 m hm
  subst this
  exact ⟨cs, hh, by have := hcs 0 (by simp); simpa using this⟩

/-- Numbers. -/
theorem tell_num {i ty q off : Nat} {ik : IntKind} {x : Int} {ls : List Nat} (Z : TyFacts P c c.tTree c.tTrees c.tTagL c.tTag) (G : buildPlan P c.tTree = some (zeroTree, [(0, 1), (1, 1), (2, 1), (3, 1), (4, 1)])) (h : TIn w0 D V lo pre post fs) (hls : fs.map FV.wd = ls) (hF : FieldOk P S ls i off) (hq : q < N)
    (hty : P.underlying ty = some (.int ik)) (hone : oneTy P ty = true) (hf : fs[i]? = some (.one (.int ik x))) (hw : IntKind.i64.wrap x = x) : SemT P c R w0 N S V pre (.num i ty q) q (tellPrim (.one (.int ik x))) := by
  intro n k Γ ρ w ts u uv hn h0 _ h4 hT hRaw hk
  simp only [gTStep]
  refine s_TL Z h4 hT fun w1 hT1 k1 => ?_
  obtain ⟨cs, hh, hv⟩ := h.one hls hF hT1.k hf (fun m hm => hm.1)
  refine s_VX hF.field hone (by rw [ext_lt (by omega), ext_lt (by omega)]; exact h0) hh hv ?_
  have hr1 : runOp P (ext (ext (ext (ext (ext ρ n [ptr (w0.heap.size + 2) 3]) (n + 1) [rowV w0 N]) (n + 2) [ptr V pre.length]) (n + 2 + 1) [ptr V (pre.length + off)]) (n + 2 + 2) [.int ik x]) (.convert ty c.tI64 (.tmp (n + 4))) w1 = .ok (.value (.int .i64 x)) w1 := by
    have := v_conv (P := P) (ρ := ext (ext (ext (ext (ext ρ n [ptr (w0.heap.size + 2) 3]) (n + 1) [rowV w0 N]) (n + 2) [ptr V pre.length]) (n + 2 + 1) [ptr V (pre.length + off)]) (n + 2 + 2) [.int ik x]) (s := ty) (d := c.tI64) (x := .tmp (n + 4)) (k1 := ik) (a := x) hty Z.i64 ext_at w1
    rwa [hw] at this
  refine s_act hr1 (TL_owed Z (by rw [ext_lt (by omega), ext_lt (by omega), ext_lt (by omega), ext_lt (by omega), ext_at]) (by rw [ext_lt (by omega), ext_lt (by omega), ext_lt (by omega), ext_at]) hT1) ?_
  refine p_val (v_build (cells := [.int .i64 x, .slice none 0 0, .bool false, .slice none 0 0, .slice none 0 0]) G (fun p hp => by
    simp only [List.mem_singleton] at hp
    subst hp
    show (ext _ (n + 2 + 3) _ (n + 5)).oneCell' = true
    rw [ext_at]; rfl) (by
    simp only [List.map_cons, List.map_nil]
    rw [show ev (ext (ext (ext (ext (ext (ext ρ n [ptr (w0.heap.size + 2) 3]) (n + 1) [rowV w0 N]) (n + 2) [ptr V pre.length]) (n + 2 + 1) [ptr V (pre.length + off)]) (n + 2 + 2) [.int ik x]) (n + 2 + 3) [.int .i64 x]) (.tmp (n + 5)) = .int .i64 x from ext_at]
    rfl)) ?_
  refine s_TSet (n := n + 7) (t := .mk x [] false [] []) (cs := [.int .i64 x, .slice none 0 0, .bool false, .slice none 0 0, .slice none 0 0]) Z ?_ hq ext_at (by simp [opBelow]) (num_tree w1 _ x) hT1 fun w2 hT2 hR2 => ?_
  · rw [ext_lt (by omega), ext_lt (by omega), ext_lt (by omega), ext_lt (by omega), ext_lt (by omega), ext_at]
  · refine hk (n + 9) Γ _ w2 (by omega) ⟨[], by simp⟩ (fun y hy => ?_) hT2 (hR2 (hRaw.keep hT k1))
    rw [ext_lt (by omega), ext_lt (by omega), ext_lt (by omega), ext_lt (by omega), ext_lt (by omega), ext_lt (by omega), ext_lt (by omega), ext_lt (by omega), ext_lt (by omega)]

/-- Numbers of 64 bits. -/
theorem tell_num64 {i q off : Nat} {x : Int} {ls : List Nat} (Z : TyFacts P c c.tTree c.tTrees c.tTagL c.tTag) (G : buildPlan P c.tTree = some (zeroTree, [(0, 1), (1, 1), (2, 1), (3, 1), (4, 1)])) (h : TIn w0 D V lo pre post fs) (hls : fs.map FV.wd = ls) (hF : FieldOk P S ls i off) (hq : q < N)
    (hf : fs[i]? = some (.one (.int .i64 x))) : SemT P c R w0 N S V pre (.num64 i q) q (tellPrim (.one (.int .i64 x))) := by
  intro n k Γ ρ w ts u uv hn h0 _ h4 hT hRaw hk
  simp only [gTStep]
  refine s_TL Z h4 hT fun w1 hT1 k1 => ?_
  obtain ⟨cs, hh, hv⟩ := h.one hls hF hT1.k hf (fun m hm => hm.1)
  refine s_VX hF.field Z.oneI64 (by rw [ext_lt (by omega), ext_lt (by omega)]; exact h0) hh hv ?_
  refine p_val (v_build (cells := [.int .i64 x, .slice none 0 0, .bool false, .slice none 0 0, .slice none 0 0]) G (fun p hp => by
    simp only [List.mem_singleton] at hp
    subst hp
    show (ext _ (n + 2 + 2) _ (n + 4)).oneCell' = true
    rw [ext_at]; rfl) (by
    simp only [List.map_cons, List.map_nil]
    rw [show ev (ext (ext (ext (ext (ext ρ n [ptr (w0.heap.size + 2) 3]) (n + 1) [rowV w0 N]) (n + 2) [ptr V pre.length]) (n + 2 + 1) [ptr V (pre.length + off)]) (n + 2 + 2) [.int .i64 x]) (.tmp (n + 4)) = .int .i64 x from ext_at]
    rfl)) ?_
  refine s_TSet (n := n + 6) (t := .mk x [] false [] []) (cs := [.int .i64 x, .slice none 0 0, .bool false, .slice none 0 0, .slice none 0 0]) Z ?_ hq ext_at (by simp [opBelow]) (num_tree w1 _ x) hT1 fun w2 hT2 hR2 => ?_
  · rw [ext_lt (by omega), ext_lt (by omega), ext_lt (by omega), ext_lt (by omega), ext_at]
  · refine hk (n + 8) Γ _ w2 (by omega) ⟨[], by simp⟩ (fun y hy => ?_) hT2 (hR2 (hRaw.keep hT k1))
    rw [ext_lt (by omega), ext_lt (by omega), ext_lt (by omega), ext_lt (by omega), ext_lt (by omega), ext_lt (by omega), ext_lt (by omega), ext_lt (by omega)]

/-- Texts. -/
theorem tell_text {i q off : Nat} {l : List UInt8} {ls : List Nat} (F : RdFacts P c) (hstr : oneTy P c.tStr = true) (Z : TyFacts P c c.tTree c.tTrees c.tTagL c.tTag) (G : buildPlan P c.tTree = some (zeroTree, [(0, 1), (1, 1), (2, 1), (3, 1), (4, 1)])) (h : TIn w0 D V lo pre post fs) (hls : fs.map FV.wd = ls) (hF : FieldOk P S ls i off) (hq : q < N)
    (hf : fs[i]? = some (.text l)) (hl : l.length ≤ big) : SemT P c R w0 N S V pre (.text i q) q (tellPrim (.text l)) := by
  intro n k Γ ρ w ts u uv hn h0 _ h4 hT hRaw hk
  simp only [gTStep]
  refine s_TL Z h4 hT fun w1 hT1 k1 => ?_
  obtain ⟨cs, hh, hv⟩ := h.one hls hF hT1.k hf (fun m hm => hm)
  refine s_VX hF.field hstr (by rw [ext_lt (by omega), ext_lt (by omega)]; exact h0) hh hv ?_
  have hbig : l.length < 4294967296 := by simp only [big] at hl; omega
  obtain ⟨v, w2, e2, ho, k2, hb⟩ := a_stringBytes (P := P) (ρ := ext (ext (ext (ext (ext ρ n [ptr (w0.heap.size + 2) 3]) (n + 1) [rowV w0 N]) (n + 2) [ptr V pre.length]) (n + 2 + 1) [ptr V (pre.length + off)]) (n + 2 + 2) [.string (strOf l)]) (s := c.tStr) (d := c.tBytes) (x := .tmp (n + 4)) (w := w1) (l := l) F.str F.bytes F.u8 ext_at (by omega)
  have hT2 := hT1.keep k2
  refine s_act e2 (TL_owed Z (by rw [ext_lt (by omega), ext_lt (by omega), ext_lt (by omega), ext_lt (by omega), ext_at]) (by rw [ext_lt (by omega), ext_lt (by omega), ext_lt (by omega), ext_at]) hT2) ?_
  have hoct : OctIn w2 (fun b => w0.heap.size + 2 < b) l v := ⟨ho.reads, fun b hb' => by
    rw [hb] at hb'
    simp only [List.mem_singleton] at hb'
    have := hT1.top.lt
    omega, hbig⟩
  refine p_val (v_build (cells := [.int .i64 0, v, .bool false, .slice none 0 0, .slice none 0 0]) G (fun p hp => by
    simp only [List.mem_singleton] at hp
    subst hp
    show (ext _ (n + 2 + 3) _ (n + 5)).oneCell' = true
    rw [ext_at]; exact ho.one) (by
    simp only [List.map_cons, List.map_nil]
    rw [show ev (ext (ext (ext (ext (ext (ext ρ n [ptr (w0.heap.size + 2) 3]) (n + 1) [rowV w0 N]) (n + 2) [ptr V pre.length]) (n + 2 + 1) [ptr V (pre.length + off)]) (n + 2 + 2) [.string (strOf l)]) (n + 2 + 3) [v]) (.tmp (n + 5)) = v from ext_at]
    rfl)) ?_
  refine s_TSet (n := n + 7) (t := .mk 0 l false [] []) (cs := [.int .i64 0, v, .bool false, .slice none 0 0, .slice none 0 0]) Z ?_ hq ext_at (by simp [opBelow]) (oct_tree hoct false) hT2 fun w3 hT3 hR3 => ?_
  · rw [ext_lt (by omega), ext_lt (by omega), ext_lt (by omega), ext_lt (by omega), ext_lt (by omega), ext_at]
  · refine hk (n + 9) Γ _ w3 (by omega) ⟨[], by simp⟩ (fun y hy => ?_) hT3 (hR3 ((hRaw.keep hT k1).keep hT1 k2))
    rw [ext_lt (by omega), ext_lt (by omega), ext_lt (by omega), ext_lt (by omega), ext_lt (by omega), ext_lt (by omega), ext_lt (by omega), ext_lt (by omega), ext_lt (by omega)]

/-- A function that tells one cell's value. -/
def TellCell (P : Program) (f : Nat) (D lo : Nat) (fv : FV) : Prop := ∀ (w : World) (v : Value), FAt D w lo fv [v] → Gives P f [v] w fun u w' => (∃ cs, u = .agg ⟨cs⟩ ∧ TreeAt w' (fun b => w.heap.size ≤ b) (tellPrim fv) cs) ∧ Keeps [] w w'

theorem tell_call {f i ty q off : Nat} {fv : FV} {ls : List Nat} (Z : TyFacts P c c.tTree c.tTrees c.tTagL c.tTag) (h : TIn w0 D V lo pre post fs) (hls : fs.map FV.wd = ls) (hF : FieldOk P S ls i off) (hq : q < N)
    (hone : oneTy P ty = true) (hf : fs[i]? = some fv) (hwd : fv.wd = 1) (hg : TellCell P f D lo fv) : SemT P c R w0 N S V pre (.call f i ty q) q (tellPrim fv) := by
  intro n k Γ ρ w ts u uv hn h0 _ h4 hT hRaw hk
  simp only [gTStep]
  refine s_TL Z h4 hT fun w1 hT1 k1 => ?_
  obtain ⟨cs, m, hh, hm, hcs, _⟩ := h.get (off := off) hT1.k hf (by rw [hls]; exact hF.off)
  obtain ⟨v, rfl⟩ : ∃ v, m = [v] := by
    have := FAt.len fv m hm
    rw [hwd] at this
    match m, this with
    | [v], _ => exact ⟨v, rfl⟩
  have hv : cs[pre.length + off]? = some v := by have := hcs 0 (by simp); simpa using this
  refine s_VX hF.field hone (by rw [ext_lt (by omega), ext_lt (by omega)]; exact h0) hh hv ?_
  refine s_call (xs := [.tmp (n + 4)]) (Post := fun u w' => (∃ cs, u = .agg ⟨cs⟩ ∧ TreeAt w' (fun b => w1.heap.size ≤ b) (tellPrim fv) cs) ∧ Keeps [] w1 w') (by rw [List.map_cons, List.map_nil, show ev (ext (ext (ext (ext (ext ρ n [ptr (w0.heap.size + 2) 3]) (n + 1) [rowV w0 N]) (n + 2) [ptr V pre.length]) (n + 2 + 1) [ptr V (pre.length + off)]) (n + 2 + 2) [v]) (.tmp (n + 4)) = v from ext_at]; exact hg w1 v hm) fun a w2 ⟨⟨ccs, ha, htr⟩, k2⟩ => ?_
  subst ha
  have hT2 := hT1.keep k2
  refine ⟨TL_owed Z (by rw [ext_lt (by omega), ext_lt (by omega), ext_lt (by omega), ext_lt (by omega), ext_at]) (by rw [ext_lt (by omega), ext_lt (by omega), ext_lt (by omega), ext_at]) hT2, ?_⟩
  have hlt := hT1.top.lt
  refine s_TSet (n := n + 6) (t := tellPrim fv) (cs := ccs) Z ?_ hq (show ev _ (.tmp (n + 5)) = _ from ext_at) (by simp [opBelow]) (htr.mono fun b hb _ => by omega) hT2 fun w3 hT3 hR3 => ?_
  · rw [ext_lt (by omega), ext_lt (by omega), ext_lt (by omega), ext_lt (by omega), ext_at]
  · refine hk (n + 8) Γ _ w3 (by omega) ⟨[], by simp⟩ (fun y hy => ?_) hT3 (hR3 ((hRaw.keep hT k1).keep hT1 k2))
    rw [ext_lt (by omega), ext_lt (by omega), ext_lt (by omega), ext_lt (by omega), ext_lt (by omega), ext_lt (by omega), ext_lt (by omega), ext_lt (by omega)]
end
end Go.Kf
/- That a tell function's tree tells: lists. -/
namespace Go.Kf
open Go

/-- What is known of an element, whose address or value is xv: it will be told as t. -/
def ElSpec (P : Program) (el : TEl) (xv : Value) (t : PT) (w : World) : Prop := match el with
  | .sub f => ∀ w', Keeps [] w w' → Gives P f [xv] w' fun u w2 => (∃ cs, u = .agg ⟨cs⟩ ∧ TreeAt w2 (fun b => w'.heap.size ≤ b) t cs) ∧ Keeps [] w' w2
  | .text => ∃ l, xv = .string (strOf l) ∧ l.length ≤ big ∧ t = .mk 0 l false [] []
  | .num ty => ∃ ik x, xv = .int ik x ∧ P.underlying ty = some (.int ik) ∧ IntKind.i64.wrap x = x ∧ t = .mk x [] false [] []

def elLen : TEl → Nat
  | .sub _ => 1
  | _ => 2

theorem ElSpec.keep {P : Program} {el : TEl} {xv : Value} {t : PT} {w w' : World} (h : ElSpec P el xv t w) (hk : Keeps [] w w') : ElSpec P el xv t w' := by
  cases el with
  | sub f => exact fun w2 k2 => h w2 (hk.trans k2)
  | text => exact h
  | num ty => exact h

theorem TreesAt.append {w : World} {A : Nat → Prop} : ∀ {xs ys : List PT} {a b : List Value}, TreesAt w A xs a → TreesAt w A ys b → TreesAt w A (xs ++ ys) (a ++ b)
  | [], _, _, _, h, h2 => by simp only [TreesAt] at h; subst h; exact h2
  | x :: xs, ys, _, b, ⟨c1, c2, e, h1, h3⟩, h2 => ⟨c1, c2 ++ b, by rw [e]; simp, h1, TreesAt.append h3 h2⟩

theorem TreesAt.cut {w : World} {A : Nat → Prop} : ∀ {ts : List PT} {cs : List Value} {i : Nat} {t : PT}, TreesAt w A ts cs → ts[i]? = some t → ∃ a m z, cs = a ++ m ++ z ∧ a.length = i * 5 ∧ TreesAt w A (ts.take i) a ∧ TreeAt w A t m ∧ TreesAt w A (ts.drop (i + 1)) z
  | [], _, _, _, _, hi => by simp at hi
  | x :: ts, _, 0, t, ⟨c1, c2, e, h1, h2⟩, hi => by
    simp only [List.getElem?_cons_zero, Option.some.injEq] at hi
    subst hi
    exact ⟨[], c1, c2, by simpa using e, by simp, rfl, h1, by simpa using h2⟩
  | x :: ts, _, i + 1, t, ⟨c1, c2, e, h1, h2⟩, hi => by
    simp only [List.getElem?_cons_succ] at hi
    obtain ⟨a, m, z, e2, hl, ha, ht, hz⟩ := TreesAt.cut h2 hi
    exact ⟨c1 ++ a, m, z, by rw [e, e2]; simp, by rw [List.length_append, h1.len, hl]; omega, ⟨c1, a, rfl, h1, ha⟩, ht, by simpa using hz⟩

theorem set_eq {ts : List PT} {q : Nat} {t : PT} (h : q < ts.length) : ts.set q t = ts.take q ++ t :: ts.drop (q + 1) := by
  rw [List.set_eq_take_append_cons_drop, if_pos h]

section
variable {P : Program} {c : Nums} {R : Value → World → Prop} {Γ : List (List Value → World → Prop)} {n : Nat} {ρ : Nat → Value} {w w0 : World}

/-- An element made. -/
theorem s_El {el : TEl} {x : Nat} {Fo : List (Op × Nat)} {xv : Value} {t : PT} {k : Operand → Nat → Tr} (F : RdFacts P c) (Z : TyFacts P c c.tTree c.tTrees c.tTagL c.tTag) (G : buildPlan P c.tTree = some (zeroTree, [(0, 1), (1, 1), (2, 1), (3, 1), (4, 1)])) (hx : ρ x = xv) (hel : ElSpec P el xv t w)
    (hFo : ∀ w', Keeps [] w w' → ∀ p ∈ Fo, runOp P ρ p.1 w' = .ok (.value (ρ p.2)) w')
    (hk : ∀ w' cs e ρ', Keeps [] w w' → TreeAt w' (fun b => w.heap.size ≤ b) t cs → e = .tmp (n + elLen el - 1) → ev ρ' e = .agg ⟨cs⟩ → (∀ y, y < n → ρ' y = ρ y) → (k e (n + elLen el)).sem P R Γ (n + elLen el) ρ' w') : (gElOp c el x Fo n k).sem P R Γ n ρ w := by
  cases el with
  | sub f =>
    have hcall := hel w .refl
    rw [← hx] at hcall
    refine s_call (xs := [.tmp x]) hcall fun v w' ⟨⟨cs, hv, ht⟩, kk⟩ => ⟨hFo w' kk, ?_⟩
    subst hv
    exact hk w' cs (.tmp n) _ kk ht rfl ext_at (fun y hy => ext_lt hy)
  | text =>
    obtain ⟨l, rfl, hl, rfl⟩ := hel
    have hbig : l.length < 4294967296 := by simp only [big] at hl; omega
    obtain ⟨v, w2, e2, ho, k2, hb⟩ := a_stringBytes (P := P) (ρ := ρ) (s := c.tStr) (d := c.tBytes) (x := .tmp x) (w := w) (l := l) F.str F.bytes F.u8 hx (by omega)
    refine s_act e2 (hFo w2 k2) ?_
    have hoct : OctIn w2 (fun b => w.heap.size ≤ b) l v := ⟨ho.reads, fun b hb' => by
      rw [hb] at hb'
      simp only [List.mem_singleton] at hb'
      omega, hbig⟩
    refine p_val (v_build (cells := [.int .i64 0, v, .bool false, .slice none 0 0, .slice none 0 0]) G (fun p hp => by
      simp only [List.mem_singleton] at hp
      subst hp
      show (ext _ n _ n).oneCell' = true
      rw [ext_at]; exact ho.one) (by
      simp only [List.map_cons, List.map_nil]
      rw [show ev (ext ρ n [v]) (.tmp n) = v from ext_at]
      rfl)) ?_
    exact hk w2 _ (.tmp (n + 1)) _ k2 (oct_tree hoct false) rfl ext_at (fun y hy => by rw [ext_lt (by omega), ext_lt hy])
  | num ty =>
    obtain ⟨ik, xx, rfl, hty, hw, rfl⟩ := hel
    have hr1 : runOp P ρ (.convert ty c.tI64 (.tmp x)) w = .ok (.value (.int .i64 xx)) w := by
      have := v_conv (P := P) (ρ := ρ) (s := ty) (d := c.tI64) (x := .tmp x) (k1 := ik) (a := xx) hty Z.i64 hx w
      rwa [hw] at this
    refine s_act hr1 (hFo w .refl) ?_
    refine p_val (v_build (cells := [.int .i64 xx, .slice none 0 0, .bool false, .slice none 0 0, .slice none 0 0]) G (fun p hp => by
      simp only [List.mem_singleton] at hp
      subst hp
      show (ext _ n _ n).oneCell' = true
      rw [ext_at]; rfl) (by
      simp only [List.map_cons, List.map_nil]
      rw [show ev (ext ρ n [.int .i64 xx]) (.tmp n) = .int .i64 xx from ext_at]
      rfl)) ?_
    exact hk w _ (.tmp (n + 1)) _ .refl (num_tree w _ xx) rfl ext_at (fun y hy => by rw [ext_lt (by omega), ext_lt hy])

/-- Where an element lies, and what of it is read ahead. -/
def ElLaid (P : Program) (c : Nums) (el : TEl) (b o : Nat) (t : PT) (w : World) : Prop := match el with
  | .sub f => ElSpec P (.sub f) (ptr b o) t w
  | .text => ∃ cs v, Has w b cs ∧ cs[o]? = some v ∧ ElSpec P .text v t w ∧ oneTy P c.tStr = true
  | .num ty => ∃ cs v, Has w b cs ∧ cs[o]? = some v ∧ ElSpec P (.num ty) v t w ∧ oneTy P ty = true

theorem ElLaid.keep {el : TEl} {b o : Nat} {t : PT} {w w' : World} (h : ElLaid P c el b o t w) (hk : Keeps [] w w') : ElLaid P c el b o t w' := by
  cases el with
  | sub f => exact fun w2 k2 => h w2 (hk.trans k2)
  | text => obtain ⟨cs, v, h1, h2, h3, h4⟩ := h; exact ⟨cs, v, h1.keep hk (by simp), h2, ElSpec.keep h3 hk, h4⟩
  | num ty => obtain ⟨cs, v, h1, h2, h3, h4⟩ := h; exact ⟨cs, v, h1.keep hk (by simp), h2, ElSpec.keep h3 hk, h4⟩

def elAt : TEl → Nat
  | .sub _ => 0
  | _ => 1

theorem s_ElAt {el : TEl} {b o : Nat} {t : PT} {k : Nat → Nat → List (Op × Nat) → Tr} (hn : 0 < n) (hx : ρ (n - 1) = ptr b o) (h : ElLaid P c el b o t w)
    (hk : ∀ x Fe ρ' xv, x + 1 = n + elAt el → ρ' x = xv → ElSpec P el xv t w → (∀ y, y < n → ρ' y = ρ y) → (∀ ρ2 w', (∀ y, y < n + elAt el → ρ2 y = ρ' y) → Keeps [] w w' → ∀ p ∈ Fe, runOp P ρ2 p.1 w' = .ok (.value (ρ2 p.2)) w') → (k x (n + elAt el) Fe).sem P R Γ (n + elAt el) ρ' w) :
    (gElAt c el n k).sem P R Γ n ρ w := by
  cases el with
  | sub f => exact hk (n - 1) [] ρ _ (by simp only [elAt]; omega) hx h (fun _ _ => rfl) (fun _ _ _ _ p hp => by cases hp)
  | text =>
    obtain ⟨cs, v, h1, h2, h3, h4⟩ := h
    refine l_lok (l_load1 h4 (show ev ρ (.tmp (n - 1)) = _ from hx) h1 h2) ?_
    refine hk n _ _ v rfl ext_at h3 (fun y hy => ext_lt hy) fun ρ2 w' ha kk p hp => ?_
    simp only [List.mem_singleton] at hp
    subst hp
    have e1 : ρ2 (n - 1) = ptr b o := by rw [ha _ (by simp only [elAt]; omega), ext_lt (by omega)]; exact hx
    have e2 : ρ2 n = v := by rw [ha _ (by simp only [elAt]; omega)]; exact ext_at
    show runOp P ρ2 (.load c.tStr (.tmp (n - 1))) w' = .ok (.value (ρ2 n)) w'
    rw [e2]
    exact l_load1 h4 e1 (h1.keep kk (by simp)) h2
  | num ty =>
    obtain ⟨cs, v, h1, h2, h3, h4⟩ := h
    refine l_lok (l_load1 h4 (show ev ρ (.tmp (n - 1)) = _ from hx) h1 h2) ?_
    refine hk n _ _ v rfl ext_at h3 (fun y hy => ext_lt hy) fun ρ2 w' ha kk p hp => ?_
    simp only [List.mem_singleton] at hp
    subst hp
    have e1 : ρ2 (n - 1) = ptr b o := by rw [ha _ (by simp only [elAt]; omega), ext_lt (by omega)]; exact hx
    have e2 : ρ2 n = v := by rw [ha _ (by simp only [elAt]; omega)]; exact ext_at
    show runOp P ρ2 (.load ty (.tmp (n - 1))) w' = .ok (.value (ρ2 n)) w'
    rw [e2]
    exact l_load1 h4 e1 (h1.keep kk (by simp)) h2

theorem keeps_coin (ty : Nat) (b : Bool) (w : World) : Keeps [] w (coinWorld ty b w) := (keeps_alloc w (.cells #[.bool b] ty) []).trans (keeps_drawn _ _ _)

/-- An element of an own row, set anew. -/
theorem Own.setElem {v : Value} {sz m j : Nat} {xs old cs : List Value} (h : Own w v sz m (xs ++ old)) (hx : xs.length = j * sz) (ho : old.length = sz) (hc : cs.length = sz) (h1 : ∀ u ∈ cs, u.oneCell' = true) (hsz : 0 < sz) :
    ∃ b cap, v = .slice (some ⟨b, 0, none⟩) m cap ∧ ∀ (P : Program), ∃ w', (storeCells ⟨b, j * sz, none⟩ cs).run P w = .ok () w' ∧ Own w' v sz m (xs ++ cs) ∧ Keeps [b] w w' := by
  rcases h.2 with ⟨_, h0⟩ | ⟨b, cap, spare, rfl, hh, hcap, h63, hl⟩
  · have := h.1
    rw [h0, Nat.zero_mul, List.length_append] at this
    omega
  · refine ⟨b, cap, rfl, fun P => ?_⟩
    obtain ⟨w', h2, h3, h4⟩ := storeCells_run (P := P) cs w b (j * sz) 0 _ hh (by simp only [List.length_append]; omega) h1
    refine ⟨w', h2, ⟨by have := h.1; simp only [List.length_append] at this ⊢; omega, .inr ⟨b, cap, spare, rfl, ?_, hcap, h63, by simp only [List.length_append] at hl ⊢; omega⟩⟩, h4⟩
    have hsp : splice (xs ++ old ++ spare) (j * sz + 0) cs = xs ++ cs ++ spare := by
      unfold splice
      have t1 : (xs ++ old ++ spare).take (j * sz + 0) = xs := by rw [Nat.add_zero, ← hx, List.append_assoc, List.take_left' rfl]
      have t2 : (xs ++ old ++ spare).drop (j * sz + 0 + cs.length) = spare := by rw [List.drop_left' (by simp; omega)]
      rw [t1, t2]
    rw [hsp] at h3
    exact h3
end
end Go.Kf
/- That a tell function's tree tells: a list's loop. -/
namespace Go.Kf
open Go

/-- While a list is told into the thing q: j elements so far. -/
structure LS (w0 w : World) (s0 N q : Nat) (nl : Bool) (ts : List PT) (u : TM) (uv : Value) (tl : List PT) (j : Nat) (lv : Value) (xs a z : List Value) : Prop where
  k : Keeps [] w0 w
  s : s0 ≤ w.heap.size
  s00 : w0.heap.size + 2 < s0
  res : Has w w0.heap.size zeroTree
  top : Has w (w0.heap.size + 2) [.int .i64 0, .slice none 0 0, .bool false, rowV w0 N, uv]
  uok : TagsIn w (fun b => w0.heap.size + 2 < b ∧ b < s0) u uv
  row : Has w (w0.heap.size + 1) (a ++ [.int .i64 0, .slice none 0 0, .bool nl, lv, .slice none 0 0] ++ z)
  al : a.length = q * 5
  rl : (a ++ [.int .i64 0, .slice none 0 0, .bool nl, lv, .slice none 0 0] ++ z).length = N * 5
  ta : TreesAt w (fun b => w0.heap.size + 2 < b ∧ b < s0) (ts.take q) a
  tz : TreesAt w (fun b => w0.heap.size + 2 < b ∧ b < s0) (ts.drop (q + 1)) z
  own : Own w lv 5 j xs
  blk : ∀ b ∈ blkOf lv, s0 ≤ b
  tx : TreesAt w (fun b => s0 ≤ b ∧ b ∉ blkOf lv) (tl.take j) xs

theorem LS.keep {w0 w w' : World} {s0 N q j : Nat} {nl : Bool} {ts tl : List PT} {u : TM} {uv lv : Value} {xs a z : List Value} (h : LS w0 w s0 N q nl ts u uv tl j lv xs a z) (hk : Keeps [] w w') : LS w0 w' s0 N q nl ts u uv tl j lv xs a z :=
  ⟨h.k.trans hk, Nat.le_trans h.s hk.size, h.s00, h.res.keep hk (by simp), h.top.keep hk (by simp), h.uok.keep hk (fun b hb => by cases hb) (fun _ h _ => h), h.row.keep hk (by simp), h.al, h.rl,
    TreesAt.keep hk (fun b hb => by cases hb) (fun _ h _ => h) _ _ h.ta, TreesAt.keep hk (fun b hb => by cases hb) (fun _ h _ => h) _ _ h.tz, h.own.keep hk (by simp), h.blk, TreesAt.keep hk (fun b hb => by cases hb) (fun _ h _ => h) _ _ h.tx⟩

section
variable {P : Program} {c : Nums} {R : Value → World → Prop} {Γ : List (List Value → World → Prop)} {n : Nat} {ρ : Nat → Value} {w w0 : World} {k : Tr} {s0 N q j : Nat} {nl : Bool} {ts tl : List PT} {u : TM} {uv lv : Value} {xs a z : List Value}

theorem LS.slot (h : LS w0 w s0 N q nl ts u uv tl j lv xs a z) : (a ++ [.int .i64 0, .slice none 0 0, .bool nl, lv, .slice none 0 0] ++ z)[q * 5 + 3]? = some lv := by
  rw [List.append_assoc, List.getElem?_append_right (by rw [h.al]; omega), h.al, show q * 5 + 3 - q * 5 = 3 by omega]
  rfl

/-- The address of the thing q. -/
theorem v_slot {x : Operand} (Z : TyFacts P c c.tTree c.tTrees c.tTagL c.tTag) (hx : ev ρ x = rowV w0 N) (hq : q < N) : Val P ρ (.indexAddr c.tTrees x (qV q)) (ptr (w0.heap.size + 1) (q * 5)) := by
  have hszT : (P.info? c.tTree).map (·.size) = some 5 := (aggTy_spec (w := w0) Z.agg).2
  have hv := v_indexAddr (P := P) (ρ := ρ) (t := c.tTrees) (x := x) (i := qV q) (b := w0.heap.size + 1) (o := 0) (l := N) (c := N) (j := q) (kk := .i64) Z.sl hszT hx rfl (by omega) (by omega)
  rwa [show (0 : Nat) + (q : Int).toNat * 5 = q * 5 by simp] at hv

/-- t.L[q].L set: the row's cell. -/
theorem LS.setSlot {v' : Value} (h : LS w0 w s0 N q nl ts u uv tl j lv xs a z) {w' : World} (hh : Has w' (w0.heap.size + 1) ((a ++ [.int .i64 0, .slice none 0 0, .bool nl, lv, .slice none 0 0] ++ z).set (q * 5 + 3) v')) : Has w' (w0.heap.size + 1) (a ++ [.int .i64 0, .slice none 0 0, .bool nl, v', .slice none 0 0] ++ z) := by
  have : (a ++ [Value.int .i64 0, .slice none 0 0, .bool nl, lv, .slice none 0 0] ++ z).set (q * 5 + 3) v' = a ++ [.int .i64 0, .slice none 0 0, .bool nl, v', .slice none 0 0] ++ z := by
    rw [List.append_assoc, List.set_append_right _ _ (by rw [h.al]; omega), h.al, show q * 5 + 3 - q * 5 = 3 by omega, List.append_assoc]
    rfl
  rwa [this] at hh

/-- One element more: appended whole. -/
theorem LS.next {w1 w2 w3 : World} {t : PT} {cs : List Value} {v' : Value} (h : LS w0 w s0 N q nl ts u uv tl j lv xs a z) (hj : j < tl.length) (ht : tl[j] = t) (k1 : Keeps [] w w1) (htr : TreeAt w1 (fun b => w.heap.size ≤ b) t cs)
    (hown : Own w2 v' 5 (j + 1) (xs ++ cs)) (k2 : Keeps (blkOf lv) w1 w2) (hb : ∀ b ∈ blkOf v', b ∈ blkOf lv ∨ w1.heap.size ≤ b) (hh : Has w3 (w0.heap.size + 1) ((a ++ [.int .i64 0, .slice none 0 0, .bool nl, lv, .slice none 0 0] ++ z).set (q * 5 + 3) v')) (k3 : Keeps [w0.heap.size + 1] w2 w3) :
    LS w0 w3 s0 N q nl ts u uv tl (j + 1) v' (xs ++ cs) a z := by
  have h1 := h.keep k1
  have hs := h.s
  have hs0 := h.s00
  have hs1 := k1.size
  have hs2 := k2.size
  have hs3 := k3.size
  have hlt := h1.own.lt
  have hlt0 := h.own.lt
  have kall : Keeps [] w0 w3 := ((h1.k.mono (by simp)).trans ((k2.mono fun x hx => List.mem_append_left _ hx).trans (k3.mono fun x hx => List.mem_append_right _ hx)) : Keeps (blkOf lv ++ [w0.heap.size + 1]) w0 w3).less fun x hx => .inr (by
    rcases List.mem_append.1 hx with h' | h'
    · have := h.blk _ h'; omega
    · simp only [List.mem_singleton] at h'; omega)
  have nb : ∀ {b : Nat}, b < s0 → b ∉ blkOf lv := fun hlt' hb' => by have := h.blk _ hb'; omega
  have old : ∀ {b : Nat} {cs' : List Value}, Has w1 b cs' → b < s0 → b ≠ w0.heap.size + 1 → Has w3 b cs' := fun hc hb' hne => (hc.keep k2 (nb hb')).keep k3 (by simpa using hne)
  have A2 : ∀ b ∈ blkOf lv, ¬ (w0.heap.size + 2 < b ∧ b < s0) := fun b hb' h' => by have := h.blk b hb'; omega
  have A3 : ∀ b ∈ [w0.heap.size + 1], ¬ (w0.heap.size + 2 < b ∧ b < s0) := fun b hb' h' => by simp only [List.mem_singleton] at hb'; omega
  have hb' : ∀ b ∈ blkOf v', s0 ≤ b := fun b hb2 => by
    rcases hb b hb2 with h' | h'
    · exact h.blk b h'
    · omega
  refine ⟨kall, by omega, hs0, old h1.res (by omega) (by omega), old h1.top (by omega) (by omega), (h1.uok.keep k2 A2 (fun _ h _ => h)).keep k3 A3 (fun _ h _ => h), h.setSlot hh, h.al, ?_,
    TreesAt.keep k3 A3 (fun _ h _ => h) _ _ (TreesAt.keep k2 A2 (fun _ h _ => h) _ _ h1.ta), TreesAt.keep k3 A3 (fun _ h _ => h) _ _ (TreesAt.keep k2 A2 (fun _ h _ => h) _ _ h1.tz), hown.keep k3 (fun b hb2 => by have := hb' b hb2; simp only [List.mem_singleton]; omega), hb', ?_⟩
  · have := h.rl
    simp only [List.length_append, List.length_cons, List.length_nil] at this ⊢
    exact this
  · rw [List.take_succ_eq_append_getElem hj, ht]
    refine TreesAt.snoc ?_ ?_
    · have t1 := htr.mono (A' := fun b => w.heap.size ≤ b ∧ b < w1.heap.size) fun b h' hlt' => ⟨h', hlt'⟩
      have t2 := TreeAt.keep k2 (fun b hb2 h' => by have := hlt0 b hb2; omega) (fun _ h _ => h) _ _ t1
      exact TreeAt.keep k3 (fun b hb2 h' => by simp only [List.mem_singleton] at hb2; omega) (fun b h' _ => ⟨by omega, fun hb2 => by
        rcases hb b hb2 with h5 | h5
        · have := hlt0 b h5; omega
        · omega⟩) _ _ t2
    · have t1 := h1.tx.mono (A' := fun b => (s0 ≤ b ∧ b ∉ blkOf lv) ∧ b < w1.heap.size) fun b h' hlt' => ⟨h', hlt'⟩
      have t2 := TreesAt.keep k2 (fun b hb2 h' => h'.1.2 hb2) (fun _ h _ => h) _ _ t1
      exact TreesAt.keep k3 (fun b hb2 h' => by simp only [List.mem_singleton] at hb2; have := h'.1.1; omega) (fun b h' _ => ⟨h'.1.1, fun hb2 => by
        rcases hb b hb2 with h5 | h5
        · exact h'.1.2 h5
        · have := h'.2; omega⟩) _ _ t2
end
end Go.Kf
/- That a tell function's tree tells: a list's round, where the element is appended whole. -/
namespace Go.Kf
open Go

section
variable {P : Program} {c : Nums} {R : Value → World → Prop} {Γ : List (List Value → World → Prop)} {ρ : Nat → Value} {w w0 : World} {s0 N q j : Nat} {nl : Bool} {ts tl : List PT} {u : TM} {uv lv : Value} {xs a z : List Value}

theorem sem_listB {S i tySl T sz off V m jid d B o cap : Nat} {el : TEl} {t : PT} {sv : Value} {pre vcs : List Value} {J : List Value → World → Prop} (F : RdFacts P c) (Z : TyFacts P c c.tTree c.tTrees c.tTagL c.tTag) (G : buildPlan P c.tTree = some (zeroTree, [(0, 1), (1, 1), (2, 1), (3, 1), (4, 1)])) (Rw : RowFacts P c.tTree 5)
    (hfld : fieldOff P S i = some off) (hone : oneTy P tySl = true) (hsl : P.underlying tySl = some (.slice T)) (hsz : (P.info? T).map (·.size) = some sz) (hm : 6 ≤ m) (hjid : jid < m) (h0 : ρ 0 = ptr V pre.length) (h4 : ρ 4 = ptr (w0.heap.size + 2)) (hjv : ρ jid = .int .i64 j) (hq : q < N)
    (hV : Has w V vcs) (hVlt : V < w0.heap.size) (hvc : vcs[pre.length + off]? = some sv) (hsv : sv = .slice (some ⟨B, o, none⟩) tl.length cap) (hj : j < tl.length) (htl : tl.length < 4294967296) (ht : tl[j] = t) (hel : ElLaid P c el B (o + j * sz) t w) (h : LS w0 w s0 N q nl ts u uv tl j lv xs a z)
    (hΓ : Γ[d]? = some J) (hJ : ∀ w' lv' xs', LS w0 w' s0 N q nl ts u uv tl (j + 1) lv' xs' a z → J [.int .i64 (j + 1 : Nat)] w') : (gListB c S i tySl q jid d m el).sem P R Γ m ρ w := by
  have hd : Keeps [] w { w with drawn := w.drawn + 1 } := keeps_drawn w _ _
  unfold gListB gTL
  show Tr.sem _ _ _ _ _ _ { w with drawn := w.drawn + 1 }
  generalize ({ w with drawn := w.drawn + 1 } : World) = w1 at hd ⊢
  have h1 := h.keep hd
  have hV1 := hV.keep hd (by simp)
  have hel1 := hel.keep hd
  have hs := h.s
  have hs00 := h.s00
  refine p_fl Z.f3 Z.oneTrees (show ev ρ (.tmp 4) = ptr (w0.heap.size + 2) from h4) rfl h1.top rfl ?_
  refine p_fl (n := m + 2) Z.f3 Z.oneTrees (show ev _ (.tmp 4) = ptr (w0.heap.size + 2) by show ext _ _ _ 4 = _; rw [ext_lt (by omega), ext_lt (by omega)]; exact h4) rfl h1.top rfl ?_
  refine p_val (v_slot (w0 := w0) (N := N) Z (show ev _ (.tmp (m + 3)) = _ from ext_at) hq) ?_
  refine p_fl (n := m + 5) Z.f3 Z.oneTrees (show ev _ (.tmp (m + 4)) = ptr (w0.heap.size + 1) (q * 5) from ext_at) rfl h1.row h1.slot ?_
  refine s_VX (n := m + 7) (V := V) (pre := pre) hfld hone (by rw [ext_lt (by omega), ext_lt (by omega), ext_lt (by omega), ext_lt (by omega), ext_lt (by omega), ext_lt (by omega), ext_lt (by omega)]; exact h0) hV1 hvc ?_
  have hidx := v_indexAddr (P := P) (ρ := ext (ext (ext (ext (ext (ext (ext (ext (ext (ext ρ m [ptr (w0.heap.size + 2) (0 + 3)]) (m + 1) [rowV w0 N]) (m + 2) [ptr (w0.heap.size + 2) (0 + 3)]) (m + 2 + 1) [rowV w0 N]) (m + 2 + 2) [ptr (w0.heap.size + 1) (q * 5)]) (m + 5) [ptr (w0.heap.size + 1) (q * 5 + 3)]) (m + 5 + 1) [lv]) (m + 7) [ptr V pre.length]) (m + 7 + 1) [ptr V (pre.length + off)]) (m + 7 + 2) [sv])
    (t := tySl) (x := .tmp (m + 9)) (i := .tmp jid) (b := B) (o := o) (l := tl.length) (c := cap) (j := j) (kk := .i64) hsl hsz (by show ext _ (m + 7 + 2) _ (m + 9) = _; rw [ext_at]; exact hsv) (by show ext _ _ _ jid = _; rw [ext_lt (by omega), ext_lt (by omega), ext_lt (by omega), ext_lt (by omega), ext_lt (by omega), ext_lt (by omega), ext_lt (by omega), ext_lt (by omega), ext_lt (by omega), ext_lt (by omega)]; exact hjv) (by omega) (by omega)
  rw [Int.toNat_natCast] at hidx
  refine p_val hidx ?_
  generalize hρA : ext (ext (ext (ext (ext (ext (ext (ext (ext (ext (ext ρ m [ptr (w0.heap.size + 2) (0 + 3)]) (m + 1) [rowV w0 N]) (m + 2) [ptr (w0.heap.size + 2) (0 + 3)]) (m + 2 + 1) [rowV w0 N]) (m + 2 + 2) [ptr (w0.heap.size + 1) (q * 5)]) (m + 5) [ptr (w0.heap.size + 1) (q * 5 + 3)]) (m + 5 + 1) [lv]) (m + 7) [ptr V pre.length]) (m + 7 + 1) [ptr V (pre.length + off)]) (m + 7 + 2) [sv]) (m + 7 + 3) [.pointer (some ⟨B, o + j * sz, none⟩)] = ρA
  have f0 : ρA m = ptr (w0.heap.size + 2) (0 + 3) := by
    subst hρA
    repeat rw [ext_lt (by omega)]
    exact ext_at
  have f1 : ρA (m + 1) = rowV w0 N := by
    subst hρA
    repeat rw [ext_lt (by omega)]
    exact ext_at
  have f2 : ρA (m + 2) = ptr (w0.heap.size + 2) (0 + 3) := by
    subst hρA
    repeat rw [ext_lt (by omega)]
    exact ext_at
  have f3 : ρA (m + 3) = rowV w0 N := by
    subst hρA
    repeat rw [ext_lt (by omega)]
    exact ext_at
  have f5 : ρA (m + 5) = ptr (w0.heap.size + 1) (q * 5 + 3) := by
    subst hρA
    repeat rw [ext_lt (by omega)]
    exact ext_at
  have f6 : ρA (m + 6) = lv := by
    subst hρA
    repeat rw [ext_lt (by omega)]
    exact ext_at
  have f8 : ρA (m + 8) = ptr V (pre.length + off) := by
    subst hρA
    repeat rw [ext_lt (by omega)]
    exact ext_at
  have f9 : ρA (m + 9) = sv := by
    subst hρA
    repeat rw [ext_lt (by omega)]
    exact ext_at
  have f10 : ρA (m + 10) = ptr B (o + j * sz) := by
    subst hρA
    repeat rw [ext_lt (by omega)]
    exact ext_at
  have fj : ρA jid = .int .i64 j := by
    subst hρA
    repeat rw [ext_lt (by omega)]
    exact hjv
  clear hρA hidx
  refine s_ElAt (n := m + 11) (by omega) f10 hel1 fun x Fe ρ1 xv hx hxv hspec hag1 _ => ?_
  have hFo : ∀ (ρ2 : Nat → Value) (w2 : World), (∀ y, y < m + 11 → ρ2 y = ρA y) → Has w2 (w0.heap.size + 2) [.int .i64 0, .slice none 0 0, .bool false, rowV w0 N, uv] → Has w2 V vcs →
      ∀ p ∈ [(Op.load tySl (.tmp (m + 8)), m + 9), (.load c.tTrees (.tmp (m + 2)), m + 3), (.load c.tTrees (.tmp m), m + 1)], runOp P ρ2 p.1 w2 = .ok (.value (ρ2 p.2)) w2 := by
    intro ρ2 w2 hag hT hVV p hp
    simp only [List.mem_cons, List.not_mem_nil, or_false] at hp
    rcases hp with rfl | rfl | rfl
    · show runOp P ρ2 (.load tySl (.tmp (m + 8))) w2 = .ok (.value (ρ2 (m + 9))) w2
      rw [hag (m + 9) (by omega), f9]
      exact l_load1 (b := V) (o := pre.length + off) hone (by show ρ2 (m + 8) = _; rw [hag _ (by omega), f8]; rfl) hVV hvc
    · show runOp P ρ2 (.load c.tTrees (.tmp (m + 2))) w2 = .ok (.value (ρ2 (m + 3))) w2
      rw [hag (m + 3) (by omega), f3]
      exact l_load1 (b := w0.heap.size + 2) (o := 0 + 3) Z.oneTrees (by show ρ2 (m + 2) = _; rw [hag _ (by omega), f2]; rfl) hT rfl
    · show runOp P ρ2 (.load c.tTrees (.tmp m)) w2 = .ok (.value (ρ2 (m + 1))) w2
      rw [hag (m + 1) (by omega), f1]
      exact l_load1 (b := w0.heap.size + 2) (o := 0 + 3) Z.oneTrees (by show ρ2 m = _; rw [hag _ (by omega), f0]; rfl) hT rfl
  have hFo4 : ∀ (ρ2 : Nat → Value) (w2 : World), (∀ y, y < m + 11 → ρ2 y = ρA y) → Keeps [] w1 w2 →
      ∀ p ∈ [(Op.load tySl (.tmp (m + 8)), m + 9), (.load c.tTrees (.tmp (m + 5)), m + 6), (.load c.tTrees (.tmp (m + 2)), m + 3), (.load c.tTrees (.tmp m), m + 1)], runOp P ρ2 p.1 w2 = .ok (.value (ρ2 p.2)) w2 := by
    intro ρ2 w2 hag kk p hp
    have hb := hFo ρ2 w2 hag (h1.top.keep kk (by simp)) (hV1.keep kk (by simp))
    simp only [List.mem_cons, List.not_mem_nil, or_false] at hp
    rcases hp with rfl | rfl | rfl | rfl
    · exact hb _ (by simp)
    · show runOp P ρ2 (.load c.tTrees (.tmp (m + 5))) w2 = .ok (.value (ρ2 (m + 6))) w2
      rw [hag (m + 6) (by omega), f6]
      exact l_load1 (b := w0.heap.size + 1) (o := q * 5 + 3) Z.oneTrees (by show ρ2 (m + 5) = _; rw [hag _ (by omega), f5]; rfl) (h1.row.keep kk (by simp)) h1.slot
    · exact hb _ (by simp)
    · exact hb _ (by simp)
  have hle : elAt el ≤ 1 := by cases el <;> simp [elAt]
  have hlen : 1 ≤ elLen el := by cases el <;> simp [elLen]
  refine s_El (n := m + 11 + elAt el) F Z G hxv hspec (fun w2 k2 => hFo4 ρ1 w2 hag1 k2) fun w2 cs e ρ2 k2 htr he hev hag2 => ?_
  have hagA : ∀ y, y < m + 11 → ρ2 y = ρA y := fun y hy => (hag2 y (by omega)).trans (hag1 y hy)
  have hcl := htr.len
  refine s_oneSlice Rw Z.sl (x := e) (cs := cs) (by rw [hev]; rfl) hcl fun w3 hr3 k3 z3 => ⟨hFo4 ρ2 w3 hagA (k2.trans k3), ?_⟩
  have k13 : Keeps [] w1 w3 := k2.trans k3
  have hown3 := h1.own.keep k13 (by simp)
  refine s_appendOne (m := j) (v := lv) (u := .slice (some ⟨w2.heap.size, 0, none⟩) 1 1) (xs := xs) (cs := cs) Rw Z.sl (by show ext _ _ _ (m + 6) = _; rw [ext_lt (by omega), hagA _ (by omega), f6]) ext_at hown3 hr3 htr.ones (by omega) fun v' w4 hown4 k4 hb4 => ⟨?_, ?_⟩
  · refine hFo _ w4 (fun y hy => by rw [ext_lt (by omega)]; exact hagA y hy) ((h1.top.keep k13 (by simp)).keep k4 fun hb => ?_) ((hV1.keep k13 (by simp)).keep k4 fun hb => ?_)
    · have := h1.blk _ hb; omega
    · have := h1.blk _ hb; omega
  have hrow4 := (h1.row.keep k13 (by simp)).keep k4 fun hb => by have := h1.blk _ hb; omega
  refine p_val (v_slot (w0 := w0) (N := N) Z (show ev _ (.tmp (m + 1)) = _ by show ext _ _ _ (m + 1) = _; rw [ext_lt (by omega), ext_lt (by omega), hagA _ (by omega), f1]) hq) ?_
  have hl3 : q * 5 + 3 < (a ++ [Value.int .i64 0, .slice none 0 0, .bool nl, lv, .slice none 0 0] ++ z).length := (List.getElem?_eq_some_iff.1 h1.slot).1
  refine p_fs (n := m + 11 + elAt el + elLen el + 3) (v := v') Z.f3 Z.oneTrees (show ev _ (.tmp (m + 11 + elAt el + elLen el + 2)) = ptr (w0.heap.size + 1) (q * 5) from ext_at) rfl (by show ext _ _ _ (m + 11 + elAt el + elLen el + 1) = _; rw [ext_lt (by omega)]; exact ext_at) (by simp [opBelow]) hown4.one hrow4 hl3 fun w5 hrow5 k5 => ?_
  refine s_val (v_arith (kk := .i64) (a := j) (b := 1) (r := ((j + 1 : Nat) : Int)) (by show ext _ _ _ jid = _; rw [ext_lt (by omega), ext_lt (by omega), ext_lt (by omega), ext_lt (by omega), ext_lt (by omega), hagA _ (by omega), fj]) rfl ?_) ?_
  · simp only [arithOf, Option.some.injEq]; rw [IntKind.wrap_i64]; omega
  refine ⟨J, hΓ, ?_⟩
  have hlast := hJ w5 v' (xs ++ cs) (h1.next hj ht k13 (TreeAt.keep k3 (fun b hb => by cases hb) (fun _ h _ => h) _ _ htr) hown4 k4 hb4 hrow5 k5)
  show J [ext _ (m + 11 + elAt el + elLen el + 3 + 2) _ (m + 11 + elAt el + elLen el + 5)] w5
  rw [ext_at]
  exact hlast
end
end Go.Kf
/- That a tell function's tree tells: a list's round, where the element is set behind the appending. -/
namespace Go.Kf
open Go

section
variable {P : Program} {c : Nums} {R : Value → World → Prop} {Γ : List (List Value → World → Prop)} {ρ : Nat → Value} {w w0 : World} {s0 N q j : Nat} {nl : Bool} {ts tl : List PT} {u : TM} {uv lv : Value} {xs a z : List Value}

/-- One element more: appended as nought, and set. -/
theorem LS.next2 {w2 w3 w4 : World} {t : PT} {cs : List Value} {v' : Value} {b' : Nat} (h : LS w0 w s0 N q nl ts u uv tl j lv xs a z) (hj : j < tl.length) (ht : tl[j] = t) (htr : TreeAt w (fun b => s0 ≤ b ∧ b ∉ blkOf lv) t cs)
    (k2 : Keeps (blkOf lv) w w2) (hb : ∀ b ∈ blkOf v', b ∈ blkOf lv ∨ w.heap.size ≤ b) (hh : Has w3 (w0.heap.size + 1) ((a ++ [.int .i64 0, .slice none 0 0, .bool nl, lv, .slice none 0 0] ++ z).set (q * 5 + 3) v')) (k3 : Keeps [w0.heap.size + 1] w2 w3)
    (hown : Own w4 v' 5 (j + 1) (xs ++ cs)) (k4 : Keeps [b'] w3 w4) (hb' : b' ∈ blkOf v') : LS w0 w4 s0 N q nl ts u uv tl (j + 1) v' (xs ++ cs) a z := by
  have hs := h.s
  have hs0 := h.s00
  have hs2 := k2.size
  have hs3 := k3.size
  have hs4 := k4.size
  have hlt0 := h.own.lt
  have hbs : ∀ b ∈ blkOf v', s0 ≤ b := fun b hb2 => by
    rcases hb b hb2 with h' | h'
    · exact h.blk b h'
    · omega
  have hb's := hbs b' hb'
  have kall : Keeps [] w0 w4 := ((h.k.mono (by simp)).trans ((k2.mono fun x hx => List.mem_append_left _ hx).trans ((k3.mono fun x hx => List.mem_append_right _ (by simp at hx ⊢; exact .inl hx)).trans (k4.mono fun x hx => List.mem_append_right _ (by simp at hx ⊢; exact .inr hx)))) : Keeps (blkOf lv ++ [w0.heap.size + 1, b']) w0 w4).less fun x hx => .inr (by
    rcases List.mem_append.1 hx with h' | h'
    · have := h.blk _ h'; omega
    · simp only [List.mem_cons, List.not_mem_nil, or_false] at h'; omega)
  have nb : ∀ {b : Nat}, b < s0 → b ∉ blkOf lv := fun hlt' hb2 => by have := h.blk _ hb2; omega
  have old : ∀ {b : Nat} {cs' : List Value}, Has w b cs' → b < s0 → b ≠ w0.heap.size + 1 → Has w4 b cs' := fun hc hlt' hne => ((hc.keep k2 (nb hlt')).keep k3 (by simpa using hne)).keep k4 (by simp; omega)
  have A2 : ∀ b ∈ blkOf lv, ¬ (w0.heap.size + 2 < b ∧ b < s0) := fun b hb2 h' => by have := h.blk b hb2; omega
  have A3 : ∀ b ∈ [w0.heap.size + 1], ¬ (w0.heap.size + 2 < b ∧ b < s0) := fun b hb2 h' => by simp only [List.mem_singleton] at hb2; omega
  have A4 : ∀ b ∈ [b'], ¬ (w0.heap.size + 2 < b ∧ b < s0) := fun b hb2 h' => by simp only [List.mem_singleton] at hb2; omega
  have out : ∀ {b : Nat}, b ∉ blkOf lv → b < w.heap.size → b ∉ blkOf v' := fun h1 h2 hb2 => by
    rcases hb _ hb2 with h5 | h5
    · exact h1 h5
    · omega
  refine ⟨kall, by omega, hs0, old h.res (by omega) (by omega), old h.top (by omega) (by omega), ((h.uok.keep k2 A2 (fun _ h _ => h)).keep k3 A3 (fun _ h _ => h)).keep k4 A4 (fun _ h _ => h), (h.setSlot hh).keep k4 (by simp; omega), h.al, ?_,
    TreesAt.keep k4 A4 (fun _ h _ => h) _ _ (TreesAt.keep k3 A3 (fun _ h _ => h) _ _ (TreesAt.keep k2 A2 (fun _ h _ => h) _ _ h.ta)), TreesAt.keep k4 A4 (fun _ h _ => h) _ _ (TreesAt.keep k3 A3 (fun _ h _ => h) _ _ (TreesAt.keep k2 A2 (fun _ h _ => h) _ _ h.tz)), hown, hbs, ?_⟩
  · have := h.rl
    simp only [List.length_append, List.length_cons, List.length_nil] at this ⊢
    exact this
  · rw [List.take_succ_eq_append_getElem hj, ht]
    have B2 : ∀ b ∈ blkOf lv, ¬ ((s0 ≤ b ∧ b ∉ blkOf lv) ∧ b < w.heap.size) := fun b hb2 h' => h'.1.2 hb2
    have B3 : ∀ b ∈ [w0.heap.size + 1], ¬ ((s0 ≤ b ∧ b ∉ blkOf lv) ∧ b < w.heap.size) := fun b hb2 h' => by simp only [List.mem_singleton] at hb2; have := h'.1.1; omega
    have B4 : ∀ b ∈ [b'], ¬ ((s0 ≤ b ∧ b ∉ blkOf lv) ∧ b < w.heap.size) := fun b hb2 h' => by
      simp only [List.mem_singleton] at hb2
      subst hb2
      exact out h'.1.2 h'.2 hb'
    refine TreesAt.snoc ?_ ?_
    · have t1 := htr.mono (A' := fun b => (s0 ≤ b ∧ b ∉ blkOf lv) ∧ b < w.heap.size) fun b h' hlt' => ⟨h', hlt'⟩
      exact TreeAt.keep k4 B4 (fun b h' _ => ⟨h'.1.1, out h'.1.2 h'.2⟩) _ _ (TreeAt.keep k3 B3 (fun _ h _ => h) _ _ (TreeAt.keep k2 B2 (fun _ h _ => h) _ _ t1))
    · have t1 := h.tx.mono (A' := fun b => (s0 ≤ b ∧ b ∉ blkOf lv) ∧ b < w.heap.size) fun b h' hlt' => ⟨h', hlt'⟩
      exact TreesAt.keep k4 B4 (fun b h' _ => ⟨h'.1.1, out h'.1.2 h'.2⟩) _ _ (TreesAt.keep k3 B3 (fun _ h _ => h) _ _ (TreesAt.keep k2 B2 (fun _ h _ => h) _ _ t1))

/-- What follows once the element and the nought are at hand. -/
theorem sem_last {m n x jid d : Nat} {e zo : Operand} {t : PT} {cs : List Value} {zv : Value} {J : List Value → World → Prop} (Z : TyFacts P c c.tTree c.tTrees c.tTagL c.tTag) (Rw : RowFacts P c.tTree 5) (hmn : m + 4 < n) (hxn : x + 1 < n) (hjn : jid < n)
    (h4 : ρ (m + 4) = lv) (h1 : ρ (m + 1) = rowV w0 N) (hx : ρ (x + 1) = .int .i64 j) (hjv : ρ jid = .int .i64 j) (hz : ev ρ zo = zv) (he : ev ρ e = .agg ⟨cs⟩) (hbe : opBelow n e) (hq : q < N) (hj : j < tl.length) (htl : tl.length < 4294967296) (ht : tl[j] = t)
    (hr : Reads w zv 5 1 zeroTree) (htr : TreeAt w (fun b => s0 ≤ b ∧ b ∉ blkOf lv) t cs) (h : LS w0 w s0 N q nl ts u uv tl j lv xs a z) (hΓ : Γ[d]? = some J) (hJ : ∀ w' lv' xs', LS w0 w' s0 N q nl ts u uv tl (j + 1) lv' xs' a z → J [.int .i64 (j + 1 : Nat)] w') :
    (Tr.op (.call { callee := .builtin .append, args := ⟨[.tmp (m + 4), zo]⟩, argTypes := ⟨[c.tTrees, c.tTrees]⟩ }) none [] <|
      .pur (.indexAddr c.tTrees (.tmp (m + 1)) (qV q)) none <| .pur (.fieldAddr c.tTree (.tmp (n + 1)) 3) none <| .op (.store c.tTrees (.tmp (n + 2)) (.tmp n)) none [] <|
      .op (.indexAddr c.tTrees (.tmp n) (.tmp (x + 1))) none [] <| .op (.store c.tTree (.tmp (n + 4)) e) none [] <| .op (.binOp .add c.tInt (.tmp jid) (.const (.int .i64 1)) c.tInt) none [] <| .to d [.tmp (n + 6)]).sem P R Γ n ρ w := by
  have hs := h.s
  have hs00 := h.s00
  refine s_appendOne (m := j) (v := lv) (u := zv) (xs := xs) (cs := zeroTree) Rw Z.sl h4 hz h.own hr (zeroTree_at w (fun _ => True)).ones (by omega) fun v' w2 hown2 k2 hb2 => ⟨fun p hp => (by cases hp), ?_⟩
  have hrow2 := h.row.keep k2 fun hb => by have := h.blk _ hb; omega
  have hl3 := (List.getElem?_eq_some_iff.1 h.slot).1
  refine p_val (v_slot (w0 := w0) (N := N) Z (show ev _ (.tmp (m + 1)) = _ by show ext _ _ _ (m + 1) = _; rw [ext_lt (by omega), h1]) hq) ?_
  refine p_fs (n := n + 2) (v := v') Z.f3 Z.oneTrees (show ev _ (.tmp (n + 1)) = ptr (w0.heap.size + 1) (q * 5) from ext_at) rfl (by show ext _ _ _ n = _; rw [ext_lt (by omega)]; exact ext_at) (by simp [opBelow]) hown2.one hrow2 hl3 fun w3 hrow3 k3 => ?_
  have hown3 : Own w3 v' 5 (j + 1) (xs ++ zeroTree) := hown2.keep k3 fun b hb => by
    simp only [List.mem_singleton]
    rcases hb2 b hb with h' | h'
    · have := h.blk b h'; omega
    · omega
  have hxl : xs.length = j * 5 := h.own.1
  have hcl := htr.len
  obtain ⟨b', cap', rfl, hset⟩ := hown3.setElem hxl rfl hcl htr.ones (by omega)
  obtain ⟨w4, e4, hown4, k4⟩ := hset P
  have hszT : (P.info? c.tTree).map (·.size) = some 5 := (aggTy_spec (w := w0) Z.agg).2
  have hidx := v_indexAddr (P := P) (ρ := ext (ext (ext (ext ρ n [.slice (some ⟨b', 0, none⟩) (j + 1) cap']) (n + 1) [ptr (w0.heap.size + 1) (q * 5)]) (n + 2) [ptr (w0.heap.size + 1) (q * 5 + 3)]) (n + 2 + 1) [undef]) (t := c.tTrees) (x := .tmp n) (i := .tmp (x + 1)) (b := b') (o := 0) (l := j + 1) (c := cap') (j := j) (kk := .i64) Z.sl hszT
    (by show ext _ _ _ n = _; rw [ext_lt (by omega), ext_lt (by omega), ext_lt (by omega)]; exact ext_at) (by show ext _ _ _ (x + 1) = _; rw [ext_lt (by omega), ext_lt (by omega), ext_lt (by omega), ext_lt (by omega)]; exact hx) (by omega) (by omega)
  rw [show (0 : Nat) + (j : Int).toNat * 5 = j * 5 by simp] at hidx
  refine s_val hidx ?_
  have hst : runOp P (ext (ext (ext (ext (ext ρ n [.slice (some ⟨b', 0, none⟩) (j + 1) cap']) (n + 1) [ptr (w0.heap.size + 1) (q * 5)]) (n + 2) [ptr (w0.heap.size + 1) (q * 5 + 3)]) (n + 2 + 1) [undef]) (n + 2 + 2) [.pointer (some ⟨b', j * 5, none⟩)]) (.store c.tTree (.tmp (n + 4)) e) w3 = .ok .skip w4 := by
    have hy : ev (ext (ext (ext (ext (ext ρ n [.slice (some ⟨b', 0, none⟩) (j + 1) cap']) (n + 1) [ptr (w0.heap.size + 1) (q * 5)]) (n + 2) [ptr (w0.heap.size + 1) (q * 5 + 3)]) (n + 2 + 1) [undef]) (n + 2 + 2) [.pointer (some ⟨b', j * 5, none⟩)]) e = .agg ⟨cs⟩ := by
      rw [ev_ext' hbe, ev_ext' hbe, ev_ext' hbe, ev_ext' hbe, ev_ext' hbe, he] <;> omega
    have hx4 : ev (ext (ext (ext (ext (ext ρ n [.slice (some ⟨b', 0, none⟩) (j + 1) cap']) (n + 1) [ptr (w0.heap.size + 1) (q * 5)]) (n + 2) [ptr (w0.heap.size + 1) (q * 5 + 3)]) (n + 2 + 1) [undef]) (n + 2 + 2) [.pointer (some ⟨b', j * 5, none⟩)]) (.tmp (n + 4)) = .pointer (some ⟨b', j * 5, none⟩) := ext_at
    unfold runOp bareOp
    simp only [execOp, hx4, hy, Instr.storeAt, Instr.sureAddr, storeVar, Sem.run_bind, Sem.run_pure, Result.andThen_ok, size_run hszT, Value.cells]
    rw [if_neg (by simp [hcl])]
    rw [e4]
    rfl
  refine s_unit hst (fun p hp => (by cases hp)) ?_
  refine s_val (v_arith (kk := .i64) (a := j) (b := 1) (r := ((j + 1 : Nat) : Int)) (by show ext _ _ _ jid = _; rw [ext_lt (by omega), ext_lt (by omega), ext_lt (by omega), ext_lt (by omega), ext_lt (by omega), ext_lt (by omega)]; exact hjv) rfl ?_) ?_
  · simp only [arithOf, Option.some.injEq]; rw [IntKind.wrap_i64]; omega
  refine ⟨J, hΓ, ?_⟩
  have hlast := hJ w4 _ (xs ++ cs) (h.next2 hj ht htr k2 hb2 hrow3 k3 hown4 k4 (by simp [blkOf]))
  show J [ext _ (n + 2 + 2 + 1 + 1) _ (n + 6)] w4
  rw [show n + 6 = n + 2 + 2 + 1 + 1 from rfl, ext_at]
  exact hlast
end
end Go.Kf
/- That a tell function's tree tells: a list's round A. -/
namespace Go.Kf
open Go

section
variable {P : Program} {c : Nums} {R : Value → World → Prop} {Γ : List (List Value → World → Prop)} {ρ : Nat → Value} {w w0 : World} {s0 N q j : Nat} {nl : Bool} {ts tl : List PT} {u : TM} {uv lv : Value} {xs a z : List Value}

theorem sem_listA {S i tySl T sz off V m jid d B o cap : Nat} {el : TEl} {t : PT} {sv : Value} {pre vcs : List Value} {J : List Value → World → Prop} (F : RdFacts P c) (Z : TyFacts P c c.tTree c.tTrees c.tTagL c.tTag) (G : buildPlan P c.tTree = some (zeroTree, [(0, 1), (1, 1), (2, 1), (3, 1), (4, 1)])) (Rw : RowFacts P c.tTree 5)
    (hfld : fieldOff P S i = some off) (hone : oneTy P tySl = true) (hsl : P.underlying tySl = some (.slice T)) (hsz : (P.info? T).map (·.size) = some sz) (hm : 6 ≤ m) (hjid : jid < m) (h0 : ρ 0 = ptr V pre.length) (h4 : ρ 4 = ptr (w0.heap.size + 2)) (hjv : ρ jid = .int .i64 j) (hq : q < N)
    (hV : Has w V vcs) (hvc : vcs[pre.length + off]? = some sv) (hsv : sv = .slice (some ⟨B, o, none⟩) tl.length cap) (hj : j < tl.length) (htl : tl.length < 4294967296) (ht : tl[j] = t) (hel : ElLaid P c el B (o + j * sz) t w) (h : LS w0 w s0 N q nl ts u uv tl j lv xs a z)
    (hΓ : Γ[d]? = some J) (hJ : ∀ w' lv' xs', LS w0 w' s0 N q nl ts u uv tl (j + 1) lv' xs' a z → J [.int .i64 (j + 1 : Nat)] w') : (gListA c S i tySl q jid d m el).sem P R Γ m ρ w := by
  have hd : Keeps [] w { w with drawn := w.drawn + 1 } := keeps_drawn w _ _
  unfold gListA gTL
  show Tr.sem _ _ _ _ _ _ { w with drawn := w.drawn + 1 }
  generalize ({ w with drawn := w.drawn + 1 } : World) = w1 at hd ⊢
  have h1 := h.keep hd
  have hV1 := hV.keep hd (by simp)
  have hel1 := hel.keep hd
  have hs1 := h1.s
  have hs00 := h.s00
  have hlt1 := h1.own.lt
  refine p_fl Z.f3 Z.oneTrees (show ev ρ (.tmp 4) = ptr (w0.heap.size + 2) from h4) rfl h1.top rfl ?_
  refine p_val (v_slot (w0 := w0) (N := N) Z (show ev _ (.tmp (m + 1)) = _ from ext_at) hq) ?_
  refine p_fl (n := m + 3) Z.f3 Z.oneTrees (show ev _ (.tmp (m + 2)) = ptr (w0.heap.size + 1) (q * 5) from ext_at) rfl h1.row h1.slot ?_
  refine s_VX (n := m + 5) (V := V) (pre := pre) hfld hone (by rw [ext_lt (by omega), ext_lt (by omega), ext_lt (by omega), ext_lt (by omega), ext_lt (by omega)]; exact h0) hV1 hvc ?_
  have hidx := v_indexAddr (P := P) (ρ := ext (ext (ext (ext (ext (ext (ext (ext ρ m [ptr (w0.heap.size + 2) (0 + 3)]) (m + 1) [rowV w0 N]) (m + 2) [ptr (w0.heap.size + 1) (q * 5)]) (m + 3) [ptr (w0.heap.size + 1) (q * 5 + 3)]) (m + 3 + 1) [lv]) (m + 5) [ptr V pre.length]) (m + 5 + 1) [ptr V (pre.length + off)]) (m + 5 + 2) [sv])
    (t := tySl) (x := .tmp (m + 7)) (i := .tmp jid) (b := B) (o := o) (l := tl.length) (c := cap) (j := j) (kk := .i64) hsl hsz (by show ext _ (m + 5 + 2) _ (m + 7) = _; rw [ext_at]; exact hsv) (by show ext _ _ _ jid = _; rw [ext_lt (by omega), ext_lt (by omega), ext_lt (by omega), ext_lt (by omega), ext_lt (by omega), ext_lt (by omega), ext_lt (by omega), ext_lt (by omega)]; exact hjv) (by omega) (by omega)
  rw [Int.toNat_natCast] at hidx
  refine p_val hidx ?_
  generalize hρA : ext (ext (ext (ext (ext (ext (ext (ext (ext ρ m [ptr (w0.heap.size + 2) (0 + 3)]) (m + 1) [rowV w0 N]) (m + 2) [ptr (w0.heap.size + 1) (q * 5)]) (m + 3) [ptr (w0.heap.size + 1) (q * 5 + 3)]) (m + 3 + 1) [lv]) (m + 5) [ptr V pre.length]) (m + 5 + 1) [ptr V (pre.length + off)]) (m + 5 + 2) [sv]) (m + 5 + 3) [.pointer (some ⟨B, o + j * sz, none⟩)] = ρA
  have f0 : ρA m = ptr (w0.heap.size + 2) (0 + 3) := by
    subst hρA
    repeat rw [ext_lt (by omega)]
    exact ext_at
  have f1 : ρA (m + 1) = rowV w0 N := by
    subst hρA
    repeat rw [ext_lt (by omega)]
    exact ext_at
  have f3 : ρA (m + 3) = ptr (w0.heap.size + 1) (q * 5 + 3) := by
    subst hρA
    repeat rw [ext_lt (by omega)]
    exact ext_at
  have f4 : ρA (m + 4) = lv := by
    subst hρA
    repeat rw [ext_lt (by omega)]
    exact ext_at
  have f6 : ρA (m + 6) = ptr V (pre.length + off) := by
    subst hρA
    repeat rw [ext_lt (by omega)]
    exact ext_at
  have f7 : ρA (m + 7) = sv := by
    subst hρA
    repeat rw [ext_lt (by omega)]
    exact ext_at
  have f8 : ρA (m + 8) = ptr B (o + j * sz) := by
    subst hρA
    exact ext_at
  have fj : ρA jid = .int .i64 j := by
    subst hρA
    repeat rw [ext_lt (by omega)]
    exact hjv
  clear hρA hidx
  refine s_ElAt (n := m + 9) (by omega) f8 hel1 fun x Fe ρ1 xv hx hxv hspec hag1 hFe => ?_
  have hFo : ∀ (ρ2 : Nat → Value) (w2 : World), (∀ y, y < m + 9 → ρ2 y = ρA y) → Keeps [] w1 w2 →
      ∀ p ∈ [(Op.load tySl (.tmp (m + 6)), m + 7), (.load c.tTrees (.tmp (m + 3)), m + 4), (.load c.tTrees (.tmp m), m + 1)], runOp P ρ2 p.1 w2 = .ok (.value (ρ2 p.2)) w2 := by
    intro ρ2 w2 hag kk p hp
    simp only [List.mem_cons, List.not_mem_nil, or_false] at hp
    rcases hp with rfl | rfl | rfl
    · show runOp P ρ2 (.load tySl (.tmp (m + 6))) w2 = .ok (.value (ρ2 (m + 7))) w2
      rw [hag (m + 7) (by omega), f7]
      exact l_load1 (b := V) (o := pre.length + off) hone (by show ρ2 (m + 6) = _; rw [hag _ (by omega), f6]; rfl) (hV1.keep kk (by simp)) hvc
    · show runOp P ρ2 (.load c.tTrees (.tmp (m + 3))) w2 = .ok (.value (ρ2 (m + 4))) w2
      rw [hag (m + 4) (by omega), f4]
      exact l_load1 (b := w0.heap.size + 1) (o := q * 5 + 3) Z.oneTrees (by show ρ2 (m + 3) = _; rw [hag _ (by omega), f3]; rfl) (h1.row.keep kk (by simp)) h1.slot
    · show runOp P ρ2 (.load c.tTrees (.tmp m)) w2 = .ok (.value (ρ2 (m + 1))) w2
      rw [hag (m + 1) (by omega), f1]
      exact l_load1 (b := w0.heap.size + 2) (o := 0 + 3) Z.oneTrees (by show ρ2 m = _; rw [hag _ (by omega), f0]; rfl) (h1.top.keep kk (by simp)) rfl
  have hle : elAt el ≤ 1 := by cases el <;> simp [elAt]
  have hlen : 1 ≤ elLen el := by cases el <;> simp [elLen]
  obtain ⟨a0, cap0, hlv, _⟩ := h1.own.reads.form
  refine p_val (v_len (a := a0) (l := j) (c := cap0) Z.sl (by show ρ1 (m + 4) = _; rw [hag1 _ (by omega), f4]; exact hlv)) ?_
  generalize hρB : ext ρ1 (m + 9 + elAt el) [.int .i64 j] = ρB
  have hagB : ∀ y, y < m + 9 + elAt el → ρB y = ρ1 y := fun y hy => by subst hρB; exact ext_lt hy
  have fx : ρB (x + 1) = .int .i64 j := by subst hρB; rw [hx]; exact ext_at
  have fxv : ρB x = xv := by rw [hagB x (by omega)]; exact hxv
  clear hρB
  have hagBA : ∀ y, y < m + 9 → ρB y = ρA y := fun y hy => (hagB y (by omega)).trans (hag1 y hy)
  refine ⟨?_, ?_⟩
  · refine s_El (n := m + 9 + elAt el + 1) F Z G fxv hspec (fun w2 k2 => hFo ρB w2 hagBA k2) fun w2 cs e ρ2 k2 htr he hev hag2 => ?_
    have hag2A : ∀ y, y < m + 9 → ρ2 y = ρA y := fun y hy => (hag2 y (by omega)).trans (hagBA y hy)
    have hbe : opBelow (m + 9 + elAt el + 1 + elLen el + 1) e := by rw [he]; show m + 9 + elAt el + 1 + elLen el - 1 < _; omega
    refine s_oneSlice Rw Z.sl (x := zeroV) (cs := zeroTree) rfl rfl fun w3 hr3 k3 z3 => ⟨hFo ρ2 w3 hag2A (k2.trans k3), ?_⟩
    have k13 := k2.trans k3
    refine sem_last (m := m) (x := x) (jid := jid) (e := e) (zo := .tmp (m + 9 + elAt el + 1 + elLen el)) (t := t) (cs := cs) (lv := lv) (zv := .slice (some ⟨w2.heap.size, 0, none⟩) 1 1) Z Rw (by omega) (by omega) (by omega) (by rw [ext_lt (by omega), hag2A _ (by omega), f4]) (by rw [ext_lt (by omega), hag2A _ (by omega), f1])
      (by rw [ext_lt (by omega), hag2 _ (by omega)]; exact fx) (by rw [ext_lt (by omega), hag2A _ (by omega), fj]) ext_at (by rw [ev_ext (by rw [he]; show m + 9 + elAt el + 1 + elLen el - 1 < _; omega)]; exact hev) hbe hq hj htl ht hr3 ?_ (h1.keep k13) hΓ hJ
    exact TreeAt.keep k3 (fun b hb => by cases hb) (fun b h' _ => ⟨by omega, fun hb => by have := hlt1 b hb; omega⟩) _ _ htr
  · refine s_oneSlice Rw Z.sl (x := zeroV) (cs := zeroTree) rfl rfl fun w2 hr2 k2 z2 => ⟨fun p hp => ?_, ?_⟩
    · rcases List.mem_append.1 hp with hp | hp
      · exact hFe ρB w2 hagB k2 p hp
      · exact hFo ρB w2 hagBA k2 p hp
    have s2 := k2.size
    refine s_El (n := m + 9 + elAt el + 2) (xv := xv) (t := t) F Z G (by rw [ext_lt (by omega)]; exact fxv) (ElSpec.keep hspec k2) (fun w3 k3 => hFo _ w3 (fun y hy => by rw [ext_lt (by omega)]; exact hagBA y hy) (k2.trans k3)) fun w3 cs e ρ2 k3 htr he hev hag2 => ?_
    have hag2A : ∀ y, y < m + 9 → ρ2 y = ρA y := fun y hy => by rw [hag2 y (by omega), ext_lt (by omega)]; exact hagBA y hy
    have hbe : opBelow (m + 9 + elAt el + 2 + elLen el) e := by rw [he]; show m + 9 + elAt el + 2 + elLen el - 1 < _; omega
    have k13 := k2.trans k3
    refine sem_last (m := m) (x := x) (jid := jid) (e := e) (zo := .tmp (m + 9 + elAt el + 1)) (t := t) (cs := cs) (lv := lv) (zv := .slice (some ⟨w1.heap.size, 0, none⟩) 1 1) Z Rw (by omega) (by omega) (by omega) (by rw [hag2A _ (by omega), f4]) (by rw [hag2A _ (by omega), f1])
      (by rw [hag2 _ (by omega), ext_lt (by omega)]; exact fx) (by rw [hag2A _ (by omega), fj]) (by show ρ2 (m + 9 + elAt el + 1) = _; rw [hag2 _ (by omega)]; exact ext_at) hev hbe hq hj htl ht (hr2.keep k3 (by simp)) ?_ (h1.keep k13) hΓ hJ
    exact htr.mono fun b h' _ => ⟨by omega, fun hb => by have := hlt1 b hb; omega⟩
end
end Go.Kf
/- That a tell function's tree tells: a list as a whole. -/
namespace Go.Kf
open Go

section
variable {P : Program} {c : Nums} {R : Value → World → Prop} {w0 : World} {N : Nat} {D V lo S : Nat} {pre post : List Value} {fs : List FV}

theorem zero_raw {rcs a m z : List Value} {q : Nat} (e : rcs = a ++ m ++ z) (ha : a.length = q * 5) (hm : m.length = 5) (h : (rcs.drop (q * 5)).take 5 = zeroTree) : m = zeroTree := by
  rw [e, List.append_assoc, ← ha, List.drop_left' rfl, List.take_left' hm] at h
  exact h

theorem tell_list {i tySl q T sz off : Nat} {nl : Bool} {rows : List (List FV)} {el : TEl} {tl : List PT} {ls : List Nat} (F : RdFacts P c) (Z : TyFacts P c c.tTree c.tTrees c.tTagL c.tTag) (G : buildPlan P c.tTree = some (zeroTree, [(0, 1), (1, 1), (2, 1), (3, 1), (4, 1)])) (Rw : RowFacts P c.tTree 5)
    (hcoin : (P.info? c.tBool).map (fun i => (i.zero, i.size)) = some (some (.bool false), 1)) (h : TIn w0 D V lo pre post fs) (hls : fs.map FV.wd = ls) (hF : FieldOk P S ls i off) (hq : q < N) (hone : oneTy P tySl = true) (hsl : P.underlying tySl = some (.slice T)) (hsz : (P.info? T).map (·.size) = some sz)
    (hf : fs[i]? = some (.list nl rows)) (htl : tl.length = rows.length) (hbig : tl.length < 4294967296) (hVlt : V < w0.heap.size)
    (hel : ∀ (w : World) (B : Nat) (rcs : List Value), Keeps [] w0 w → Has w B rcs → RowsAt D w (B + 1) rows rcs → ∀ (j : Nat) (hj : j < tl.length), ElLaid P c el B (0 + j * sz) tl[j] w) : SemT P c R w0 N S V pre (.list i tySl q el) q (.mk 0 [] nl tl []) := by
  intro n k Γ ρ w ts u uv hn h0 _ h4 hT hRaw hk
  simp only [gTStep]
  refine s_TL Z h4 hT fun w1 hT1 k1 => ?_
  obtain ⟨vcs, mm, hh0, hm, hcs, _⟩ := h.get (off := off) (w := w0) .refl hf (by rw [hls]; exact hF.off)
  obtain ⟨sv, adr, cap, rfl, hsv, hadr, hrow⟩ : ∃ sv adr cap, mm = [sv] ∧ sv = .slice adr tl.length cap ∧ adr.isNone = nl ∧ (0 < tl.length → ∃ B rcs, adr = some ⟨B, 0, none⟩ ∧ Has w0 B rcs ∧ RowsAt D w0 (B + 1) rows rcs) := by
    rcases hm with ⟨rfl, e, rfl⟩ | ⟨rfl, B, cap, rcs, _, e, _, hB, hr⟩
    · exact ⟨_, none, 0, e, by rw [htl]; rfl, rfl, fun h => by rw [htl] at h; simp at h⟩
    · exact ⟨_, some ⟨B, 0, none⟩, cap, e, by rw [htl], rfl, fun _ => ⟨B, rcs, rfl, hB, hr⟩⟩
  have hvc : vcs[pre.length + off]? = some sv := by have := hcs 0 (by simp); simpa using this
  have hV1 := hh0.keep hT1.k (by simp)
  refine s_VX hF.field hone (by rw [ext_lt (by omega), ext_lt (by omega)]; exact h0) hV1 hvc ?_
  refine p_val (v_eqlSlice (op := .eql) (a := adr) (l := tl.length) (c := cap) (r := nl) hsl (by show ext _ (n + 2 + 2) _ (n + 4) = _; rw [ext_at]; exact hsv) rfl (.inl ⟨rfl, hadr.symm⟩)) ?_
  refine p_val (v_slot (w0 := w0) (N := N) Z (by show ext _ _ _ (n + 1) = _; rw [ext_lt (by omega), ext_lt (by omega), ext_lt (by omega), ext_lt (by omega)]; exact ext_at) hq) ?_
  obtain ⟨rcs, hr1, hrl, hrt⟩ := hT1.row
  have hlen := hT1.len
  obtain ⟨a, m0, z, e, ha, hta, hm0, htz⟩ := hrt.cut (List.getElem?_eq_getElem (show q < ts.length by omega))
  have hm0z := zero_raw e ha hm0.len ((hRaw.keep hT k1) rcs hr1 q (Nat.le_refl _) hq)
  subst hm0z
  have hl3 : q * 5 + 2 < rcs.length := by rw [hrl]; omega
  refine p_fs (n := n + 7) (v := .bool nl) Z.f2 F.oneBool (show ev _ (.tmp (n + 6)) = ptr (w0.heap.size + 1) (q * 5) from ext_at) rfl (by show ext _ _ _ (n + 5) = _; rw [ext_lt (by omega)]; exact ext_at) (by simp [opBelow]) rfl hr1 hl3 fun w2 hrow2 k2 => ?_
  have hset : rcs.set (q * 5 + 2) (.bool nl) = a ++ [.int .i64 0, .slice none 0 0, .bool nl, .slice none 0 0, .slice none 0 0] ++ z := by
    rw [e, List.append_assoc, List.set_append_right _ _ (by omega), ha, show q * 5 + 2 - q * 5 = 2 by omega, List.append_assoc]
    rfl
  rw [hset] at hrow2
  have hA : ∀ b ∈ [w0.heap.size + 1], ¬ w0.heap.size + 2 < b := fun b hb => by simp only [List.mem_singleton] at hb; omega
  have htop := hT1.top.lt
  have hs2 := k2.size
  have k02 : Keeps [] w0 w2 := ((hT1.k.mono (by simp)).trans k2).less fun x hx => .inr (by simp only [List.mem_singleton] at hx; omega)
  have hLS : LS w0 w2 w2.heap.size N q nl ts u uv tl 0 (.slice none 0 0) [] a z :=
    ⟨k02, Nat.le_refl _, by omega, hT1.res.keep k2 (by simp), hT1.top.keep k2 (by simp), hT1.uok.keep k2 hA (fun b h' hlt => ⟨h', by omega⟩), hrow2, ha, by rw [← hset, List.length_set]; exact hrl,
      TreesAt.keep k2 hA (fun b h' hlt => ⟨h', by omega⟩) _ _ hta, TreesAt.keep k2 hA (fun b h' hlt => ⟨h', by omega⟩) _ _ htz, Own.nil w2 5, (fun b hb => by cases hb), rfl⟩
  have hV2 := hh0.keep k02 (by simp)
  refine s_get (p := .tmp 0) (n := n + 9) hF.field hone (by show ext _ _ _ 0 = _; rw [ext_lt (by omega), ext_lt (by omega), ext_lt (by omega), ext_lt (by omega), ext_lt (by omega), ext_lt (by omega), ext_lt (by omega), ext_lt (by omega), ext_lt (by omega)]; exact h0) hV2 hvc ?_
  refine s_val (v_len (a := adr) (l := tl.length) (c := cap) hsl (by show ext _ (n + 9) _ (n + 9 + 2) = _; rw [ext_ge]; exact hsv)) ?_
  generalize hρA : (ext (ext _ (n + 9) _) (n + 9 + 3) [Value.int .i64 tl.length]) = ρA
  have hag : ∀ y, y < n → ρA y = ρ y := fun y hy => by
    subst hρA
    rw [ext_lt (by omega), ext_lt (by omega), ext_lt (by omega), ext_lt (by omega), ext_lt (by omega), ext_lt (by omega), ext_lt (by omega), ext_lt (by omega), ext_lt (by omega), ext_lt (by omega), ext_lt (by omega)]
  have fl : ρA (n + 12) = .int .i64 tl.length := by subst hρA; exact ext_at
  clear hρA
  refine s_count (n := n + 13) (q := n + 12) (kk := .i64) (m := tl.length) (ri := []) (fun j w' => ∃ lv xs, LS w0 w' w2.heap.size N q nl ts u uv tl j lv xs a z) (by omega) fl ⟨_, _, hLS⟩ ?_ ?_
  · rintro j hj w3 vr ⟨lv, xs, hls3⟩ hvr J hJ
    obtain rfl : vr = [] := List.eq_nil_of_length_eq_zero hvr
    have hj' : j < tl.length := by omega
    obtain ⟨B, brcs, rfl, hB, hBr⟩ := hrow (by omega)
    have g0 : ext ρA (n + 13) ([] ++ [.int .i64 j, .bool true]) 0 = ptr V pre.length := by rw [ext_lt (by omega), hag 0 (by omega)]; exact h0
    have g4 : ext ρA (n + 13) ([] ++ [.int .i64 j, .bool true]) 4 = ptr (w0.heap.size + 2) := by rw [ext_lt (by omega), hag 4 (by omega)]; exact h4
    have hnext : ∀ w' lv' xs', LS w0 w' w2.heap.size N q nl ts u uv tl (j + 1) lv' xs' a z → J [.int .i64 (j + 1 : Nat)] w' := fun w' lv' xs' hl => hJ [] w' rfl ⟨lv', xs', hl⟩
    have prep : ∀ bb, LS w0 (coinWorld c.tBool bb w3) w2.heap.size N q nl ts u uv tl j lv xs a z ∧ Has (coinWorld c.tBool bb w3) V vcs ∧ ElLaid P c el B (0 + j * sz) tl[j] (coinWorld c.tBool bb w3) := fun bb => by
      have hl := hls3.keep (keeps_coin c.tBool bb w3)
      exact ⟨hl, hh0.keep hl.k (by simp), hel _ B brcs hl.k (hB.keep hl.k (by simp)) (RowsAt.keep hl.k (B + 1) (fun b hb => by cases hb) _ _ hBr) j hj'⟩
    refine ⟨Z.bool, hcoin, ?_, ?_⟩
    · obtain ⟨p1, p2, p3⟩ := prep true
      exact sem_listA (m := n + 15) (jid := n + 13) (Γ := Γ ++ [J]) F Z G Rw hF.field hone hsl hsz (by omega) (by omega) g0 g4 ext_at hq p2 hvc hsv hj' hbig rfl p3 p1 (by simp) hnext
    · obtain ⟨p1, p2, p3⟩ := prep false
      exact sem_listB (m := n + 15) (jid := n + 13) (Γ := Γ ++ [J]) F Z G Rw hF.field hone hsl hsz (by omega) (by omega) g0 g4 ext_at hq p2 hVlt hvc hsv hj' hbig rfl p3 p1 (by simp) hnext
  · rintro w3 vr J ⟨lv, xs, hl⟩ hvr
    obtain rfl : vr = [] := List.eq_nil_of_length_eq_zero hvr
    rw [Int.toNat_natCast] at hl
    have htx := hl.tx
    rw [List.take_length] at htx
    have hs00 := hl.s00
    have hnilO : ∀ (A : Nat → Prop), OctIn w3 A [] (.slice none 0 0) := fun A => ⟨⟨rfl, .inl ⟨rfl, rfl⟩⟩, (fun b hb => by cases hb), by decide⟩
    have hnilT : ∀ (A : Nat → Prop), TagsIn w3 A [] (.slice none 0 0) := fun A => ⟨[], ⟨rfl, .inl ⟨rfl, rfl⟩⟩, ⟨(fun b hb => by cases hb), by decide⟩, rfl⟩
    have htree : TreeAt w3 (fun b => w0.heap.size + 2 < b) (.mk 0 [] nl tl []) [.int .i64 0, .slice none 0 0, .bool nl, lv, .slice none 0 0] :=
      ⟨_, _, _, xs, rfl, hnilO _, hl.own.reads, ⟨fun b hb => by have := hl.blk b hb; omega, hbig⟩, htx.mono fun b h' _ => by have := h'.1; omega, hnilT _⟩
    have hrows : TreesAt w3 (fun b => w0.heap.size + 2 < b) (ts.set q (.mk 0 [] nl tl [])) (a ++ [.int .i64 0, .slice none 0 0, .bool nl, lv, .slice none 0 0] ++ z) := by
      rw [set_eq (show q < ts.length by omega), List.append_assoc]
      exact TreesAt.append (hl.ta.mono fun b h' _ => h'.1) ⟨_, z, rfl, htree, hl.tz.mono fun b h' _ => h'.1⟩
    have hTS : TS w0 w3 N (ts.set q (.mk 0 [] nl tl [])) u uv := ⟨hl.k, hl.res, ⟨_, hl.row, hl.rl, hrows⟩, by simp [hlen], hl.top, hl.uok.keep (M := []) .refl (fun b hb => by cases hb) (fun b h' _ => h'.1)⟩
    have hRaw3 : Raw w0 w3 N (q + 1) := by
      intro rcs' hr' i hi hN
      rw [hr'.inj hl.row]
      have hold := (hRaw.keep hT k1) rcs hr1 i (by omega) hN
      rw [← hold, e]
      apply List.ext_getElem?
      intro p
      simp only [List.getElem?_take]
      split
      · rw [List.getElem?_drop, List.getElem?_drop, List.getElem?_append_right (by simp; omega), List.getElem?_append_right (by simp [zeroTree]; omega)]
        simp [zeroTree]
      · rfl
    have hgoal := hk (n + 15) (Γ ++ [J]) (ext ρA (n + 13) ([] ++ [.int .i64 ((tl.length : Int).toNat : Int), .bool false])) w3 (by omega) ⟨[J], rfl⟩ (fun y hy => by rw [ext_lt (by omega)]; exact hag y hy) hTS hRaw3
    rw [show (Γ ++ [J]).length = Γ.length + 1 by simp] at hgoal
    exact hgoal
end
end Go.Kf
/- A tell function as a whole, of a struct without tags. -/
namespace Go.Kf
open Go

section
variable {P : Program} {c : Nums} {R : Value → World → Prop} {w0 : World} {N : Nat} {D V lo S : Nat} {pre post : List Value} {fs : List FV}

/-- Each step tells its thing. -/
def StepsT (P : Program) (c : Nums) (R : Value → World → Prop) (w0 : World) (N S V : Nat) (pre : List Value) : List TStep → List PT → Nat → Prop
  | [], [], _ => True
  | s :: ss, t :: tl, q => SemT P c R w0 N S V pre s q t ∧ StepsT P c R w0 N S V pre ss tl (q + 1)
  | _, _, _ => False

theorem sem_tsteps : ∀ (ss : List TStep) (tl : List PT) (q n : Nat) (k : Nat → Nat → Tr) (Γ : List (List Value → World → Prop)) (ρ : Nat → Value) (w : World) (ts : List PT) (u : TM) (uv : Value), StepsT P c R w0 N S V pre ss tl q → q + tl.length ≤ ts.length → 6 ≤ n → ρ 0 = ptr V pre.length → ρ 1 = ptr w0.heap.size → ρ 4 = ptr (w0.heap.size + 2) → TS w0 w N ts u uv → Raw w0 w N q →
    (∀ n' Γ' ρ' w', n ≤ n' → (∀ x, x < n → ρ' x = ρ x) → TS w0 w' N (ts.take q ++ tl ++ ts.drop (q + tl.length)) u uv → (k n' Γ'.length).sem P R Γ' n' ρ' w') → (gTSteps c S ss n Γ.length k).sem P R Γ n ρ w
  | [], [], q, n, k, Γ, ρ, w, ts, u, uv, _, _, _, _, _, _, hT, _, hk => by
    refine hk n Γ ρ w (Nat.le_refl _) (fun _ _ => rfl) ?_
    have : ts.take q ++ [] ++ ts.drop (q + ([] : List PT).length) = ts := by simp
    rw [this]
    exact hT
  | [], _ :: _, _, _, _, _, _, _, _, _, _, h, _, _, _, _, _, _, _, _ => h.elim
  | _ :: _, [], _, _, _, _, _, _, _, _, _, h, _, _, _, _, _, _, _, _ => h.elim
  | s :: ss, t :: tl, q, n, k, Γ, ρ, w, ts, u, uv, ⟨h1, h2⟩, hl, hn, h0, hr, h4, hT, hRaw, hk => by
    simp only [gTSteps]
    simp only [List.length_cons] at hl
    refine h1 n _ Γ ρ w ts u uv hn h0 hr h4 hT hRaw fun n1 Γ1 ρ1 w1 hle _ hag hT1 hRaw1 => ?_
    refine sem_tsteps ss tl (q + 1) n1 k Γ1 ρ1 w1 (ts.set q t) u uv h2 (by simp; omega) (by omega) (by rw [hag 0 (by omega)]; exact h0) (by rw [hag 1 (by omega)]; exact hr) (by rw [hag 4 (by omega)]; exact h4) hT1 hRaw1 fun n2 Γ2 ρ2 w2 hle2 hag2 hT2 => ?_
    refine hk n2 Γ2 ρ2 w2 (by omega) (fun y hy => (hag2 y (by omega)).trans (hag y hy)) ?_
    have e : (ts.set q t).take (q + 1) ++ tl ++ (ts.set q t).drop (q + 1 + tl.length) = ts.take q ++ (t :: tl) ++ ts.drop (q + (t :: tl).length) := by
      have e1 : (ts.set q t).take (q + 1) = ts.take q ++ [t] := by
        rw [List.take_succ_eq_append_getElem (by simp; omega), List.take_set_of_le (Nat.le_refl q)]
        simp
      have e2 : (ts.set q t).drop (q + 1 + tl.length) = ts.drop (q + 1 + tl.length) := List.drop_set_of_lt (by omega)
      rw [e1, e2, List.length_cons, show q + (tl.length + 1) = q + 1 + tl.length by omega]
      simp
    rw [e] at hT2
    exact hT2

theorem zeroTree_flat (n : Nat) : ((List.replicate n zeroTree).flatten).length = n * 5 := by
  induction n with
  | zero => rfl
  | succ n ih => rw [List.replicate_succ, List.flatten_cons, List.length_append, ih]; simp [zeroTree]; omega

theorem zeroTree_drop (n i : Nat) (h : i < n) : ((((List.replicate n zeroTree).flatten).drop (i * 5)).take 5) = zeroTree := by
  induction i generalizing n with
  | zero =>
    obtain ⟨m, rfl⟩ : ∃ m, n = m + 1 := ⟨n - 1, by omega⟩
    rw [List.replicate_succ, List.flatten_cons, Nat.zero_mul, List.drop_zero, List.take_left' (show zeroTree.length = 5 from rfl)]
  | succ i ih =>
    obtain ⟨m, rfl⟩ : ∃ m, n = m + 1 := ⟨n - 1, by omega⟩
    rw [List.replicate_succ, List.flatten_cons, show (i + 1) * 5 = 5 + i * 5 by omega, ← List.drop_drop, List.drop_left' (show zeroTree.length = 5 from rfl)]
    exact ih m (by omega)

structure TellFacts (P : Program) (c : Nums) : Prop where
  plan : buildPlan P c.tTree = some (zeroTree, [(0, 1), (1, 1), (2, 1), (3, 1), (4, 1)])
  zero : zeroTy P c.tTree = some (.agg ⟨zeroTree⟩, 5)
  row : RowFacts P c.tTree 5
  coin : (P.info? c.tBool).map (fun i => (i.zero, i.size)) = some (some (.bool false), 1)

/-- A struct's telling. -/
theorem tell_gives {f : Nat} {ss : List TStep} {tl : List PT} (F : RdFacts P c) (Z : TyFacts P c c.tTree c.tTrees c.tTagL c.tTag) (K : TellFacts P c) (hT : treeIn P f noOrc [.tmp 0] 1 = gTell c S N ss) (hN : tl.length = N) (hsm : N ≤ 1024)
    (hs : ∀ R, StepsT P c R w0 N S V pre ss tl 0) : Gives P f [ptr V pre.length] w0 fun v w' => (∃ cs, v = .agg ⟨cs⟩ ∧ TreeAt w' (fun b => w0.heap.size ≤ b) (.mk 0 [] false tl []) cs) ∧ Keeps [] w0 w' := by
  refine gives_in (ρ := en [ptr V pre.length]) F.mix hT (Nat.le_refl _) rfl (by simp [opBelow]) ?_
  unfold gTell
  refine s_alloc K.zero fun w1 hr1 k1 z1 => ?_
  obtain ⟨inf, z, hi, hz, hsz, hzc, hby⟩ := K.row.info
  have hzz : z = .agg ⟨zeroTree⟩ := by
    have := K.zero
    simp only [zeroTy, hi, hz, Option.some.injEq, Prod.mk.injEq] at this
    exact this.1
  obtain ⟨w2, e2, hr2, k2, z2⟩ := a_makeSlice (P := P) (ρ := ext (en [ptr V pre.length]) 1 [ptr w0.heap.size]) (w := w1) (t := c.tTrees) (x := .const (.int .i64 N)) (y := .const (.int .i64 N)) (k1 := .i64) (k2 := .i64) (l := N) (c := N) Z.sl hi hz (by rw [hzc, hsz]) (by omega) rfl rfl (by omega) (Int.le_refl _) (by
    have : inf.bytes * N ≤ 1024 * 1024 := Nat.mul_le_mul hby hsm
    have h2 : ((inf.bytes * N : Nat) : Int) = (inf.bytes : Int) * N := Int.natCast_mul _ _
    omega) (by omega)
  rw [Int.toNat_natCast] at e2 hr2
  rw [hzz] at hr2
  refine s_act e2 (fun p hp => (by cases hp)) ?_
  refine s_val (v_build (cells := [.int .i64 0, .slice none 0 0, .bool false, .slice (some ⟨w1.heap.size, 0, none⟩) N N, .slice none 0 0]) K.plan (fun p hp => by simp only [List.mem_singleton] at hp; subst hp; rfl) rfl) ?_
  refine s_alloc K.zero fun w3 hr3 k3 z3 => ?_
  refine s_storeAll (b := w2.heap.size) (old := zeroTree) (cs := [.int .i64 0, .slice none 0 0, .bool false, .slice (some ⟨w1.heap.size, 0, none⟩) N N, .slice none 0 0]) Z.agg rfl rfl hr3 rfl (fun u hu => by
    simp only [List.mem_cons, List.not_mem_nil, or_false] at hu
    rcases hu with rfl | rfl | rfl | rfl | rfl <;> rfl) fun w4 hr4 k4 => ?_
  have k24 : Keeps [] w2 w4 := ((k3.mono (by simp)).trans k4).less fun x hx => .inr (by simp only [List.mem_singleton] at hx; omega)
  have k04 : Keeps [] w0 w4 := (k1.trans k2).trans k24
  rw [z1] at hr2 hr4
  rw [z2, z1] at hr4
  have hrow4 : Has w4 (w0.heap.size + 1) (List.replicate N zeroTree).flatten := hr2.keep k24 (by simp)
  have hTS : TS w0 w4 N (List.replicate N .zero) [] (.slice none 0 0) :=
    ⟨k04, (hr1.keep k2 (by simp)).keep k24 (by simp), ⟨_, hrow4, zeroTree_flat N, zeroTrees_at _ _ N⟩, by simp, hr4, [], ⟨rfl, .inl ⟨rfl, rfl⟩⟩, ⟨(fun b hb => by cases hb), by decide⟩, rfl⟩
  have hRaw : Raw w0 w4 N 0 := by
    intro rcs hr i _ hN'
    rw [hr.inj hrow4]
    exact zeroTree_drop N i hN'
  refine sem_tsteps (Γ := []) ss tl 0 6 _ _ w4 (List.replicate N .zero) [] (.slice none 0 0) (hs _) (by simp; omega) (Nat.le_refl _) rfl rfl (by show ptr w2.heap.size = _; rw [z2, z1]) hTS hRaw fun n' Γ' ρ' w5 hle hag hT5 => ?_
  have hfin : (List.replicate N PT.zero).take 0 ++ tl ++ (List.replicate N PT.zero).drop (0 + tl.length) = tl := by simp [hN]
  rw [hfin] at hT5
  refine s_lok (l_loadN (b := w0.heap.size + 2) (o := 0) Z.agg (by show ρ' 4 = _; rw [hag 4 (by omega)]; show ptr w2.heap.size = _; rw [z2, z1]; rfl) hT5.top (show 0 + 5 ≤ 5 by omega)) ?_
  obtain ⟨rcs, hrr, hrl, hrt⟩ := hT5.row
  refine s_storeAll (b := w0.heap.size) (old := zeroTree) (cs := [.int .i64 0, .slice none 0 0, .bool false, .slice (some ⟨w0.heap.size + 1, 0, none⟩) N N, .slice none 0 0]) Z.agg (by show ext _ _ _ 1 = _; rw [ext_lt (by omega), hag 1 (by omega)]; rfl) (by show (ext _ n' _ n').cells = _; rw [ext_at]; rfl) hT5.res rfl (fun u hu => by
    simp only [List.mem_cons, List.not_mem_nil, or_false] at hu
    rcases hu with rfl | rfl | rfl | rfl | rfl <;> rfl) fun w6 hr6 k6 => ?_
  have k06 : Keeps [] w0 w6 := ((hT5.k.mono (by simp)).trans k6).less fun x hx => .inr (by simp only [List.mem_singleton] at hx; omega)
  refine s_retAgg (b := w0.heap.size) (by show ext _ _ _ 1 = _; rw [ext_lt (by omega), ext_lt (by omega), hag 1 (by omega)]; rfl) hr6 Z.agg ⟨⟨_, rfl, ?_⟩, k06⟩
  have hnil : ∀ sz, Reads w6 (.slice none 0 0) sz 0 [] := fun sz => ⟨by simp, .inl ⟨rfl, rfl⟩⟩
  refine ⟨_, _, _, rcs, rfl, ⟨hnil 1, (fun b hb => by cases hb), by decide⟩, ?_, ⟨?_, by omega⟩, TreesAt.keep k6 (fun b hb h' => by simp only [List.mem_singleton] at hb; omega) (fun b h' _ => by omega) _ _ hrt, [], hnil 2, ⟨(fun b hb => by cases hb), by decide⟩, rfl⟩
  · refine ⟨by rw [hrl, hN], .inr ⟨w0.heap.size + 1, 0, N, rcs, by rw [hN], by omega, hrr.keep k6 (by simp), by rw [hrl, hN]; omega, ?_⟩⟩
    rw [List.drop_zero, List.take_of_length_le (by rw [hrl, hN]; exact Nat.le_refl _)]
  · intro b hb
    simp only [blkOf, List.mem_singleton] at hb
    omega
end
end Go.Kf
/- A message made, its version set, read, told. -/
namespace Go.Kf
open Go

section
variable {P : Program} {c : Nums} {w : World}

/-- kmsg.NewPtr..: the struct's type, how it is set to its defaults. -/
def tNew (S fDef : Nat) : Tr := .op (.alloc S) none [] <| .op (callOp fDef [.tmp 0]) none [] <| .ret [(.tmp 0, none)]

def NewOk (P : Program) (f : Nat) (mid : List Value) : Prop := ∀ w : World, Gives P f [] w fun v w' => v = ptr w.heap.size ∧ Has w' w.heap.size mid ∧ Keeps [] w w'

theorem new_gives {f S fDef s : Nat} {z : Value} {dflt : List FV} {mid : List Value} (hmix : P.follows .mixedOrders = true) (hz : zeroTy P S = some (z, s)) (hD : DefOk P fDef S dflt) (hmid : immL dflt = some mid) (hT : treeIn P f noOrc [] 0 = tNew S fDef) : NewOk P f mid := by
  intro w
  refine gives_in (ρ := en []) hmix hT (Nat.le_refl _) rfl (by simp) ?_
  obtain ⟨z', dc, hz', hdc, hdef⟩ := hD
  obtain rfl : z' = z := by
    unfold zeroTy at hz
    cases hi : P.info? S with
    | none => rw [hi] at hz'; cases hz'
    | some inf =>
      rw [hi] at hz'
      simp only [Option.map_some, Option.some.injEq] at hz'
      rw [hi] at hz
      simp only [hz', Option.some.injEq, Prod.mk.injEq] at hz
      exact hz.1
  refine s_alloc hz fun w1 h1 k1 z1 => ?_
  have h2 := hdef w1 w.heap.size [] [] (by simpa using h1)
  refine s_callx h2 rfl fun v w2 ⟨h3, k2⟩ => ?_
  have : dc = mid := immL_eq hmid (hdc 0 w 0)
  subst this
  exact s_ret1 ⟨rfl, by simpa using h3, ((k1.mono (by simp)).trans k2).less fun x hx => .inr (by simp only [List.mem_singleton] at hx; subst hx; exact Nat.le_refl _)⟩

/-- SetVersion -/
def tSetVersion (c : Nums) (S : Nat) : Tr := gSet (.tmp 0) S 0 c.tI16 (.tmp 1) 2 <| .ret []

theorem setVersion_gives {f S : Nat} (F : RdFacts P c) (hone : oneTy P c.tI16 = true) (hS : fieldOff P S 0 = some 0) (hT : treeIn P f noOrc [.tmp 0, .tmp 1] 2 = tSetVersion c S) {V : Nat} {x : Value} {mid : List Value} (hV : Has w V (x :: mid)) (v : Int) :
    Gives P f [ptr V, .int .i16 v] w fun _ w' => Has w' V (.int .i16 v :: mid) ∧ Keeps [V] w w' := by
  refine gives_in (ρ := en [ptr V, .int .i16 v]) F.mix hT (Nat.le_refl _) rfl (by simp [opBelow]) ?_
  refine s_set hS hone rfl rfl (by simp [opBelow]) rfl hV (by simp) fun w' h' k' => s_ret0 ⟨h', k'⟩

/-- ReadFrom, UnsafeReadFrom -/
def tWrap (f : Nat) (b : Bool) : Tr := .op (callOp f [.tmp 0, .tmp 1, .const (.bool b)]) none [] <| .ret [(.tmp 2, none)]

theorem wrap_gives {f g : Nat} {b : Bool} {v1 v2 : Value} {Post : Value → World → Prop} (hmix : P.follows .mixedOrders = true) (hT : treeIn P f noOrc [.tmp 0, .tmp 1] 2 = tWrap g b) (h : Gives P g [v1, v2, .bool b] w Post) : Gives P f [v1, v2] w Post := by
  refine gives_in (ρ := en [v1, v2]) hmix hT (Nat.le_refl _) rfl (by simp [opBelow]) ?_
  exact s_callx h rfl fun v w' hp => s_ret1 hp

/-- A constant. -/
def tConst (v : Value) : Tr := .ret [(.const v, none)]

def tMax (c : Nums) (fNew fMax : Nat) : Tr := .op (callOp fNew []) none [] <| .op (callOp fMax [.tmp 0]) none [] <| .op (.convert c.tI16 c.tInt (.tmp 1)) none [] <| .ret [(.tmp 2, none)]

theorem max_gives {f fNew fMax : Nat} {mid : List Value} {m : Int} (F : RdFacts P c) (hN : NewOk P fNew mid) (hM : treeIn P fMax noOrc [.tmp 0] 1 = tConst (.int .i16 m)) (hT : treeIn P f noOrc [] 0 = tMax c fNew fMax) (hm : IntKind.i64.wrap m = m) :
    Gives P f [] w fun v w' => v = .int .i64 m ∧ Keeps [] w w' := by
  refine gives_in (ρ := en []) F.mix hT (Nat.le_refl _) rfl (by simp) ?_
  refine s_callx (hN w) rfl fun v w1 ⟨hv, _, k1⟩ => ?_
  have h2 : Gives P fMax [v] w1 fun u w' => u = .int .i16 m ∧ w' = w1 := gives_in (ρ := en [v]) F.mix hM (Nat.le_refl _) rfl (by simp [opBelow]) (s_ret1 ⟨rfl, rfl⟩)
  refine s_callx h2 rfl fun u w2 ⟨hu, hw⟩ => ?_
  subst hw
  refine s_val (v_conv (k1 := .i16) (a := m) F.i16 F.int hu) ?_
  rw [hm]
  exact s_ret1 ⟨rfl, k1⟩

/-- n % (most + 1) -/
def tVersion (c : Nums) : Tr := .op (.convert c.tU8 c.tInt (.tmp 0)) none [] <| .op (.binOp .add c.tInt (.tmp 1) (.const (.int .i64 1)) c.tInt) none [] <| .op (.binOp .rem c.tInt (.tmp 2) (.tmp 3) c.tInt) none [] <| .ret [(.tmp 4, none)]

theorem v_rem {ρ : Nat → Value} {t u : Nat} {x y : Operand} {a b : Nat} (hx : ev ρ x = .int .i64 a) (hy : ev ρ y = .int .i64 b) (hb : 0 < b) : Val P ρ (.binOp .rem t x y u) (.int .i64 (a % b : Nat)) := fun w => by
  unfold runOp bareOp
  simp only [execOp, hx, hy]
  have hb0 : ¬ b = 0 := by omega
  have h2 : Int.tmod (a : Int) b = ((a % b : Nat) : Int) := rfl
  simp [eqGuard, binOp, Op.intDiv, hb0, h2]

theorem version_gives {f : Nat} (F : RdFacts P c) (hT : treeIn P f noOrc [.tmp 0, .tmp 1] 2 = tVersion c) {n m : Nat} (hn : n < 256) (hm : m < 32768) : Gives P f [.int .u8 n, .int .i64 m] w fun v w' => v = .int .i64 (n % (m + 1) : Nat) ∧ w' = w := by
  refine gives_in (ρ := en [.int .u8 n, .int .i64 m]) F.mix hT (Nat.le_refl _) rfl (by simp [opBelow]) ?_
  refine s_val (v_conv (k1 := .u8) (a := n) F.u8 F.int rfl) ?_
  rw [i64_small (by omega) (by omega)]
  refine s_val (v_arith (kk := .i64) (a := m) (b := 1) (r := ((m + 1 : Nat) : Int)) rfl rfl ?_) ?_
  · simp only [arithOf, Option.some.injEq]; rw [IntKind.wrap_i64]; omega
  refine s_val (v_rem (a := n) (b := m + 1) rfl rfl (by omega)) ?_
  exact s_ret1 ⟨rfl, rfl⟩
end
end Go.Kf
/- The doors that tell: a message made, read from a copy of octets, told. -/
namespace Go.Kf
open Go

section
variable {P : Program} {c : Nums} {w : World}

/-- Octets that are given: they can be read. -/
def DataIn (w : World) (v : Value) (l : List UInt8) : Prop := (v = .slice none 0 0 ∧ l = []) ∨ ∃ a cap, v = .slice (some a) l.length cap ∧ ∀ i (hi : i < l.length), w.cell? (a.add i) = some (.int .u8 l[i].toNat)

theorem DataIn.form {v : Value} {l : List UInt8} (h : DataIn w v l) : ∃ a cp, v = .slice a l.length cp := by
  rcases h with ⟨rfl, rfl⟩ | ⟨a, cap, rfl, _⟩
  · exact ⟨_, _, rfl⟩
  · exact ⟨_, _, rfl⟩

theorem DataIn.keep {w' : World} {v : Value} {l : List UInt8} (h : DataIn w v l) (hk : Keeps [] w w') : DataIn w' v l := by
  rcases h with h | ⟨a, cap, e, hc⟩
  · exact .inl h
  · refine .inr ⟨a, cap, e, fun i hi => ?_⟩
    have h1 := hc i hi
    unfold World.cell? at h1 ⊢
    cases hb : w.heap[(a.add i).block]? with
    | none => rw [hb] at h1; cases h1
    | some o => rw [hk.block _ (Array.getElem?_eq_some_iff.1 hb).1 (by simp)]; exact h1

theorem DataIn.src {v : Value} {l : List UInt8} {tx e : Nat} (h : DataIn w v l) (ht : P.underlying tx = some (.slice e)) : Src P 1 tx v l.length (bcells l) w := by
  rcases h with ⟨rfl, rfl⟩ | ⟨a, cap, rfl, hc⟩
  · exact Src.ofNil w ht 0
  · refine Src.ofSlice w ht a l.length cap _ (by simp [bcells_length]) (fun j u hu => ?_) (bcells_one l)
    simp only [bcells, List.getElem?_map] at hu
    cases hj : l[j]? with
    | none => rw [hj] at hu; cases hu
    | some x =>
      rw [hj] at hu
      simp only [Option.map_some, Option.some.injEq] at hu
      obtain ⟨hlt, hx⟩ := List.getElem?_eq_some_iff.1 hj
      rw [hc j hlt, hx, hu]

def tDoor (c : Nums) (fNew fSet fRead fTell : Nat) : Tr :=
  .op (.alloc c.tTree) none [] <| .op (callOp fNew []) none [] <| .op (.convert c.tInt c.tI16 (.tmp 0)) none [] <| .op (callOp fSet [.tmp 3, .tmp 4]) none [] <|
  .op (.call { callee := .builtin .append, args := ⟨[nilV, .tmp 1]⟩, argTypes := ⟨[c.tBytes, c.tBytes]⟩ }) none [] <| .op (callOp fRead [.tmp 3, .tmp 6]) none [] <| .op (.binOp .neq c.tErr (.tmp 7) (.const .nilIface) c.tErr) none [] <|
  .cond (.tmp 8) (.op (.build c.tTree ⟨[]⟩) none [] <| .op (.store c.tTree (.tmp 2) (.tmp 9)) none [] <| .ret [(.tmp 2, some c.tTree), (.const (.bool false), none)]) <|
  .op (callOp fTell [.tmp 3]) none [] <| .op (.store c.tTree (.tmp 2) (.tmp 9)) none [] <| .ret [(.tmp 2, some c.tTree), (.const (.bool true), none)]

/-- A tree and whether it was told. -/
theorem s_retTold {R : Value → World → Prop} {Γ : List (List Value → World → Prop)} {n b t : Nat} {ρ : Nat → Value} {x : Operand} {cs : List Value} {ok : Bool} (hx : ev ρ x = ptr b) (hh : Has w b cs) (ht : aggTy P t = some cs.length) (h : R (.tuple #[.agg ⟨cs⟩, .bool ok]) w) :
    (Tr.ret [(x, some t), (.const (.bool ok), none)]).sem P R Γ n ρ w := by
  refine ⟨[.agg ⟨cs⟩, .bool ok], ?_, h⟩
  have h1 := aggTy_spec (w := w) ht
  have h2 := loadCells_run (P := P) (n := cs.length) (o := 0) hh (by omega)
  simp only [List.drop_zero, List.take_length] at h2
  have h3 : ev ρ (.const (.bool ok)) = .bool ok := rfl
  simp only [evRet, List.map_cons, List.map_nil, hx, h3, ptr, retVals, asAddr, Sem.run_bind, Sem.run_pure, Result.andThen_ok, loadVar, h1.1, if_true, size_run h1.2, h2]

/-- What a message is told as, of octets: its steps' pure twin. -/
def toldOf (ss : List Step) (fs1 : List FV) (g : List FV → PT) (l : List UInt8) : Option PT := match runSteps ss fs1 ⟨l, false, l.isEmpty⟩ with
  | some (fs, r) => if r.bad then none else some (g fs)
  | none => none

structure OctFacts (P : Program) (c : Nums) : Prop where
  info : ∃ inf z, P.info? c.tU8 = some inf ∧ inf.zero = some z ∧ inf.size = 1 ∧ z.cells.size = 1 ∧ inf.bytes ≤ 8

/-- A copy of octets. -/
theorem copy_octets {ρ : Nat → Value} {x : Operand} {v : Value} {l : List UInt8} (F : RdFacts P c) (O : OctFacts P c) (hx : ev ρ x = v) (hr : DataIn w v l) (hl : l.length ≤ 1073741824) :
    ∃ v' w', runOp P ρ (.call { callee := .builtin .append, args := ⟨[nilV, x]⟩, argTypes := ⟨[c.tBytes, c.tBytes]⟩ }) w = .ok (.value v') w' ∧ Own w' v' 1 l.length (bcells l) ∧ Keeps [] w w' ∧ (∀ b ∈ blkOf v', w.heap.size ≤ b) ∧ nilOf v' = l.isEmpty := by
  obtain ⟨inf, z, hi, hz, hsz, hzc, hb⟩ := O.info
  by_cases hnil : l = []
  · subst hnil
    have hs := hr.src (P := P) F.bytes
    refine ⟨.slice none 0 0, w, ?_, ⟨rfl, .inl ⟨rfl, rfl⟩⟩, .refl, (fun b hb => by cases hb), rfl⟩
    unfold runOp bareOp
    have e2 : ev ρ nilV = .slice none 0 0 := rfl
    have e1 : (Array.map (ev ρ) ⟨[nilV, x]⟩ : Array Value) = ⟨[.slice none 0 0, v]⟩ := by simp [hx, e2]
    simp only [execOp, resolve, pure_bind, invoke, builtin, Sem.run_bind, e1]
    have hcells : (Builtin.firstCells inf.size 0 v).run P w = .ok (bcells []).toArray w := by
      rw [hsz]
      exact hs.cells
    have h' : (Builtin.append_ ⟨[c.tBytes, c.tBytes]⟩ 0 ⟨[.slice none 0 0, v]⟩).run P w = .ok (.slice none 0 0) w := by
      simp [Builtin.append_, run_underlying F.bytes, sizeOf, typeInfo, hi, hs.len, hcells]
    rw [h']
    rfl
  obtain ⟨v', w', h1, h2, h3, h4⟩ := a_append (P := P) (ρ := ρ) (w := w) (t := c.tBytes) (tx := c.tBytes) (x := nilV) (y := x) F.bytes hi hz hsz hzc rfl hx (Own.nil w 1) (hr.src F.bytes) (by
    have : (0 + l.length) * inf.bytes ≤ 1073741824 * 8 := Nat.mul_le_mul (by omega) hb
    omega) (by omega)
  rw [Nat.zero_add, List.nil_append] at h2
  refine ⟨v', w', h1, h2, h3, fun b hb => ?_, ?_⟩
  · rcases h4 b hb with h | h
    · cases h
    · exact h
  · rcases h2.2 with ⟨_, h0⟩ | ⟨b, cap, spare, rfl, _⟩
    · exact absurd (List.eq_nil_of_length_eq_zero h0) hnil
    · cases l with
      | nil => exact absurd rfl hnil
      | cons _ _ => rfl


/-- What the door yields. -/
def DoorPost (w w' : World) (v : Value) : Option PT → Prop
  | some t => ∃ cs, v = .tuple #[.agg ⟨cs⟩, .bool true] ∧ TreeAt w' (fun b => w.heap.size ≤ b) t cs
  | none => v = .tuple #[.agg ⟨zeroTree⟩, .bool false]

theorem door_gives {f fNew fSet fRead fTell : Nat} {mid : List Value} {x0 e0 : Value} {ver : Int} {out : List UInt8 → Option PT} {data : Value} {l : List UInt8} (F : RdFacts P c) (O : OctFacts P c) (K : TellFacts P c) (Z : TyFacts P c c.tTree c.tTrees c.tTagL c.tTag) (hT : treeIn P f noOrc [.tmp 0, .tmp 1] 2 = tDoor c fNew fSet fRead fTell)
    (herr : ∃ ms, P.underlying c.tErr = some (.interface ms)) (he0 : ∃ d y, e0 = .iface d y) (hver : IntKind.i16.wrap ver = ver) (hN : NewOk P fNew (x0 :: mid)) (hSet : ∀ (w : World) (V : Nat), Has w V (x0 :: mid) → Gives P fSet [ptr V, .int .i16 ver] w fun _ w' => Has w' V (.int .i16 ver :: mid) ∧ Keeps [V] w w')
    (hRT : ∀ (w : World) (V D : Nat) (src : Value), w.heap.size ≤ w.heap.size → Has w V (.int .i16 ver :: mid) → Reads w src 1 l.length (bcells l) → nilOf src = l.isEmpty → (∀ b ∈ blkOf src, b = D) → D < w.heap.size → V ≠ D → ErrAt w c.gErr e0 → c.gErr ≠ V → Gives P fRead [ptr V, src] w fun u w' => Keeps [V] w w' ∧
      match out l with
      | some t => u = .nilIface ∧ Gives P fTell [ptr V] w' fun v w2 => (∃ cs, v = .agg ⟨cs⟩ ∧ TreeAt w2 (fun b => w'.heap.size ≤ b) t cs) ∧ Keeps [] w' w2
      | none => u = e0)
    (hl : l.length ≤ 1073741824) (hr : DataIn w data l) (he : ErrAt w c.gErr e0) : Gives P f [.int .i64 ver, data] w fun v w' => DoorPost w w' v (out l) ∧ Keeps [] w w' := by
  refine gives_in (ρ := en [.int .i64 ver, data]) F.mix hT (Nat.le_refl _) rfl (by simp [opBelow]) ?_
  refine s_alloc K.zero fun w1 h1 k1 z1 => ?_
  refine s_callx (hN w1) rfl fun v w2 ⟨hv, h2, k2⟩ => ?_
  subst hv
  refine s_val (v_conv (k1 := .i64) (a := ver) F.int F.i16 rfl) ?_
  rw [hver]
  refine s_callx (hSet w2 w1.heap.size h2) rfl fun u3 w3 ⟨h3, k3⟩ => ?_
  have s2 := k2.size
  have s3 := k3.size
  have k13 : Keeps [] w1 w3 := ((k2.mono (by simp)).trans k3).less fun x hx => .inr (by simp only [List.mem_singleton] at hx; omega)
  have k03 := k1.trans k13
  have hr3 := hr.keep k03
  obtain ⟨src, w4, e4, ho4, k4, hb4, hnil⟩ := copy_octets (ρ := ext (ext (ext (ext (en [.int .i64 ver, data]) 2 [ptr w.heap.size]) 3 [ptr w1.heap.size]) 4 [.int .i16 ver]) 5 [u3]) (x := .tmp 1) (v := data) F O rfl hr3 hl
  refine s_act e4 (fun p hp => (by cases hp)) ?_
  have h4 := h3.keep k4 (by simp)
  have k04 := k03.trans k4
  have he4 := he.keep k04 (by simp)
  have s4 := k4.size
  have hgl := he.2
  have hV4 := h4.lt
  -- the block of the octets
  obtain ⟨D, hD1, hD2, hD3⟩ : ∃ D, (∀ b ∈ blkOf src, b = D) ∧ D < w4.heap.size ∧ w1.heap.size ≠ D := by
    rcases ho4.2 with ⟨rfl, _⟩ | ⟨b, cap, spare, rfl, hh, _⟩
    · exact ⟨c.gErr, (fun b hb => by cases hb), by omega, by omega⟩
    · exact ⟨b, (fun x hx => by simpa [blkOf] using hx), hh.lt, by have := hb4 b (by simp [blkOf]); have := h3.lt; omega⟩
  refine s_callx (hRT w4 w1.heap.size D src (Nat.le_refl _) h4 ho4.reads hnil hD1 hD2 hD3 he4 (by omega)) rfl fun u w5 ⟨k5, hout⟩ => ?_
  have h15 : Has w5 w.heap.size zeroTree := ((h1.keep k13 (by simp)).keep k4 (by simp)).keep k5 (by simp; omega)
  have k05 : Keeps [] w w5 := ((k04.mono (by simp)).trans k5).less fun x hx => .inr (by simp only [List.mem_singleton] at hx; omega)
  obtain ⟨ms, hms⟩ := herr
  cases ho : out l with
  | none =>
    rw [ho] at hout
    subst hout
    obtain ⟨d, y, rfl⟩ := he0
    refine s_val (v_neqNil (v := .iface d y) (r := true) hms rfl (.inr ⟨d, y, rfl, rfl⟩)) ?_
    refine s_cond (b := true) rfl (fun _ => ?_) (fun h => by cases h)
    refine s_val (v_build (cells := zeroTree) K.plan (fun p hp => by cases hp) rfl) ?_
    refine s_storeAll (b := w.heap.size) (old := zeroTree) (cs := zeroTree) Z.agg rfl rfl h15 rfl (zeroTree_at w (fun _ => True)).ones fun w6 h6 k6 => ?_
    refine s_retTold (b := w.heap.size) rfl h6 Z.agg ⟨rfl, ?_⟩
    exact ((k05.mono (by simp)).trans k6).less fun x hx => .inr (by simp only [List.mem_singleton] at hx; omega)
  | some t =>
    rw [ho] at hout
    obtain ⟨rfl, hTell⟩ := hout
    refine s_val (v_neqNil (v := .nilIface) (r := false) hms rfl (.inl ⟨rfl, rfl⟩)) ?_
    refine s_cond (b := false) rfl (fun h => by cases h) fun _ => ?_
    refine s_callx hTell rfl fun v w6 ⟨⟨cs, hv, ht⟩, k6⟩ => ?_
    subst hv
    have hcl := ht.len
    have s5 := k5.size
    refine s_storeAll (b := w.heap.size) (old := zeroTree) (cs := cs) (by rw [hcl]; exact Z.agg) rfl rfl (h15.keep k6 (by simp)) (by rw [hcl]; rfl) ht.ones fun w7 h7 k7 => ?_
    refine s_retTold (b := w.heap.size) rfl h7 (by rw [hcl]; exact Z.agg) ⟨⟨cs, rfl, ?_⟩, ?_⟩
    · exact TreeAt.keep k7 (fun b hb h' => by simp only [List.mem_singleton] at hb; omega) (fun b h' _ => by omega) _ _ ht
    · exact (((k05.trans k6).mono (by simp)).trans k7).less fun x hx => .inr (by simp only [List.mem_singleton] at hx; omega)
end
end Go.Kf
/- The laws that both ways of reading tell the same. -/
namespace Go.Kf
open Go

section
variable {P : Program} {c : Nums} {w : World}

def tUnsafeLaw (c : Nums) (fMax fVer fTell fUns fGot fSame : Nat) : Tr :=
  .op (.call { callee := .builtin .len, args := ⟨[.tmp 1]⟩, argTypes := ⟨[c.tBytes]⟩ }) none [] <| .op (.binOp .gtr c.tInt (.tmp 2) (.const (.int .i64 2147483647)) c.tInt) none [] <|
  .cond (.tmp 3) (.ret [(.const (.bool true), none)]) <| .op (callOp fMax []) none [] <| .op (.binOp .lss c.tInt (.tmp 4) (.const (.int .i64 0)) c.tInt) none [] <|
  .cond (.tmp 5) (.ret [(.const (.bool false), none)]) <| .op (.call { callee := .builtin .len, args := ⟨[.tmp 1]⟩, argTypes := ⟨[c.tBytes]⟩ }) none [] <| .op (.binOp .gtr c.tInt (.tmp 6) (.const (.int .i64 1000)) c.tInt) none [] <|
  .cond (.tmp 7) (.ret [(.const (.bool true), none)]) <| .op (callOp fVer [.tmp 0, .tmp 4]) none [] <| .op (callOp fTell [.tmp 8, .tmp 1]) none [] <| .op (.extract (.tmp 9) 0) none [] <| .op (.extract (.tmp 9) 1) none [] <|
  .op (.alloc c.tTree) none [] <| .op (.store c.tTree (.tmp 12) (.tmp 10)) none [] <| .op (callOp fVer [.tmp 0, .tmp 4]) none [] <| .op (callOp fUns [.tmp 14, .tmp 1]) none [] <| .op (.extract (.tmp 15) 0) none [] <| .op (.extract (.tmp 15) 1) none [] <|
  .op (.alloc c.tTree) none [] <| .op (.store c.tTree (.tmp 18) (.tmp 16)) none [] <| .draw <| .pur (.binOp .eql c.tBool (.tmp 11) (.tmp 17) c.tBool) none <|
  .cond (.tmp 20) (.pur (.unOp .not c.tBool (.tmp 11)) none <| .cond (.tmp 21) (.ret [(.const (.bool true), none)]) <| .lok (.load c.tTree (.tmp 12)) none <| .lok (.load c.tTree (.tmp 18)) none <|
    .op (callOp fGot [.tmp 22]) none [(.load c.tTree (.tmp 18), 23)] <| .op (callOp fGot [.tmp 23]) none [] <| .op (callOp fSame [.tmp 24, .tmp 25]) none [] <| .ret [(.tmp 26, none)]) (.ret [(.const (.bool false), none)])

theorem DoorPost.form {w w' : World} {v : Value} {o : Option PT} (h : DoorPost w w' v o) : ∃ cs, v = .tuple #[.agg ⟨cs⟩, .bool o.isSome] ∧ cs.length = 5 ∧ (∀ q ∈ cs, q.oneCell' = true) ∧ ∀ t, o = some t → TreeAt w' (fun b => w.heap.size ≤ b) t cs := by
  cases o with
  | none => exact ⟨zeroTree, h, rfl, (zeroTree_at w (fun _ => True)).ones, fun t ht => by cases ht⟩
  | some t =>
    obtain ⟨cs, hv, ht⟩ := h
    exact ⟨cs, hv, ht.len, ht.ones, fun t' ht' => by cases ht'; exact ht⟩

theorem unsafeLaw_gives {f fMax fVer fTell fUns fGot fSame n m : Nat} {data : Value} {l : List UInt8} {e0 : Value} {out : Nat → Option PT} (F : RdFacts P c) (K : TellFacts P c) (Z : TyFacts P c c.tTree c.tTrees c.tTagL c.tTag) (hT : treeIn P f noOrc [.tmp 0, .tmp 1] 2 = tUnsafeLaw c fMax fVer fTell fUns fGot fSame)
    (hMax : ∀ w, Gives P fMax [] w fun v w' => v = .int .i64 m ∧ Keeps [] w w') (hVer : ∀ w, Gives P fVer [.int .u8 n, .int .i64 m] w fun v w' => v = .int .i64 (n % (m + 1) : Nat) ∧ w' = w)
    (hTell : ∀ w, l.length ≤ 1000 → DataIn w data l → ErrAt w c.gErr e0 → Gives P fTell [.int .i64 (n % (m + 1) : Nat), data] w fun v w' => DoorPost w w' v (out (n % (m + 1))) ∧ Keeps [] w w')
    (hUns : ∀ w, l.length ≤ 1000 → DataIn w data l → ErrAt w c.gErr e0 → Gives P fUns [.int .i64 (n % (m + 1) : Nat), data] w fun v w' => DoorPost w w' v (out (n % (m + 1))) ∧ Keeps [] w w')
    (hGot : ∀ x, GotOf P fGot x) (hSame : ∀ x, SameTreeOf P fSame x) (hr : DataIn w data l) (he : ErrAt w c.gErr e0) : Gives P f [.int .u8 n, data] w fun v w' => v = .bool true ∧ Keeps [] w w' := by
  refine gives_in (ρ := en [.int .u8 n, data]) F.mix hT (Nat.le_refl _) rfl (by simp [opBelow]) ?_
  obtain ⟨a, cp, hda⟩ := hr.form
  refine s_val (v_len (a := a) (l := l.length) (c := cp) F.bytes hda) ?_
  refine s_val (v_cmp (kk := .i64) (a := l.length) (b := 2147483647) (r := decide ((l.length : Int) > 2147483647)) rfl rfl rfl) ?_
  refine s_cond (b := decide ((l.length : Int) > 2147483647)) rfl (fun _ => s_ret1 ⟨rfl, .refl⟩) fun _ => ?_
  refine s_callx (hMax w) rfl fun v w1 ⟨hv, k1⟩ => ?_
  subst hv
  refine s_val (v_cmp (kk := .i64) (a := m) (b := 0) (r := false) rfl rfl (by simp [cmpOf])) ?_
  refine s_cond (b := false) rfl (fun h => by cases h) fun _ => ?_
  refine s_val (v_len (a := a) (l := l.length) (c := cp) F.bytes hda) ?_
  refine s_val (v_cmp (kk := .i64) (a := l.length) (b := 1000) (r := decide ((l.length : Int) > 1000)) rfl rfl rfl) ?_
  refine s_cond (b := decide ((l.length : Int) > 1000)) rfl (fun _ => s_ret1 ⟨rfl, k1⟩) fun hle => ?_
  have hl : l.length ≤ 1000 := by
    have : ¬ (l.length : Int) > 1000 := by simpa using hle
    omega
  refine s_callx (hVer w1) rfl fun v w2 ⟨hv, hw⟩ => ?_
  subst hw
  subst hv
  refine s_callx (hTell w2 hl (hr.keep k1) (he.keep k1 (by simp))) rfl fun v w3 ⟨hd1, k3⟩ => ?_
  obtain ⟨cs1, rfl, hl1, ho1, ht1⟩ := hd1.form
  refine s_val (v_extract (vs := #[.agg ⟨cs1⟩, .bool (out (n % (m + 1))).isSome]) rfl rfl) ?_
  refine s_val (v_extract (vs := #[.agg ⟨cs1⟩, .bool (out (n % (m + 1))).isSome]) rfl rfl) ?_
  refine s_alloc K.zero fun w4 h4 k4 z4 => ?_
  refine s_storeAll (b := w3.heap.size) (old := zeroTree) (cs := cs1) (by rw [hl1]; exact Z.agg) rfl rfl h4 (by rw [hl1]; rfl) ho1 fun w5 h5 k5 => ?_
  have k35 : Keeps [] w3 w5 := ((k4.mono (by simp)).trans k5).less fun x hx => .inr (by simp only [List.mem_singleton] at hx; omega)
  have k05 := (k1.trans k3).trans k35
  refine s_callx (hVer w5) rfl fun v w6 ⟨hv, hw⟩ => ?_
  subst hw
  subst hv
  refine s_callx (hUns w6 hl (hr.keep k05) (he.keep k05 (by simp))) rfl fun v w7 ⟨hd2, k7⟩ => ?_
  obtain ⟨cs2, rfl, hl2, ho2, ht2⟩ := hd2.form
  refine s_val (v_extract (vs := #[.agg ⟨cs2⟩, .bool (out (n % (m + 1))).isSome]) rfl rfl) ?_
  refine s_val (v_extract (vs := #[.agg ⟨cs2⟩, .bool (out (n % (m + 1))).isSome]) rfl rfl) ?_
  refine s_alloc K.zero fun w8 h8 k8 z8 => ?_
  refine s_storeAll (b := w7.heap.size) (old := zeroTree) (cs := cs2) (by rw [hl2]; exact Z.agg) rfl rfl h8 (by rw [hl2]; rfl) ho2 fun w9 h9 k9 => ?_
  have k79 : Keeps [] w7 w9 := ((k8.mono (by simp)).trans k9).less fun x hx => .inr (by simp only [List.mem_singleton] at hx; omega)
  show Tr.sem _ _ _ _ _ _ { w9 with drawn := w9.drawn + 1 }
  have hd : Keeps [] w9 { w9 with drawn := w9.drawn + 1 } := keeps_drawn w9 _ _
  generalize ({ w9 with drawn := w9.drawn + 1 } : World) = w10 at hd ⊢
  have k0a : Keeps [] w w10 := ((k05.trans k7).trans k79).trans hd
  have h5a := ((h5.keep k7 (by simp)).keep k79 (by simp)).keep hd (by simp)
  have h9a := h9.keep hd (by simp)
  refine p_val (v_eqlBool (op := .eql) (a := (out (n % (m + 1))).isSome) (b := (out (n % (m + 1))).isSome) (r := true) Z.bool rfl rfl (.inl ⟨rfl, by simp⟩)) ?_
  refine s_cond (b := true) rfl (fun _ => ?_) (fun h => by cases h)
  refine p_val (v_not (b := (out (n % (m + 1))).isSome) rfl) ?_
  refine s_cond (b := !(out (n % (m + 1))).isSome) rfl (fun _ => s_ret1 ⟨rfl, k0a⟩) fun hs => ?_
  obtain ⟨t, hto⟩ : ∃ t, out (n % (m + 1)) = some t := Option.isSome_iff_exists.1 (by simpa using hs)
  have t1 := TreeAt.keep ((((k35.trans k7).trans k79).trans hd)) (fun b hb => by cases hb) (fun _ h _ => h) _ _ (ht1 t hto)
  have t2 := TreeAt.keep (k79.trans hd) (fun b hb => by cases hb) (fun _ h _ => h) _ _ (ht2 t hto)
  refine l_lok (l_loadN (b := w3.heap.size) (o := 0) Z.agg rfl h5a (by omega)) ?_
  rw [show (cs1.drop 0).take 5 = cs1 by rw [List.drop_zero, List.take_of_length_le (by omega)]]
  refine l_lok (l_loadN (b := w7.heap.size) (o := 0) Z.agg rfl h9a (by omega)) ?_
  rw [show (cs2.drop 0).take 5 = cs2 by rw [List.drop_zero, List.take_of_length_le (by omega)]]
  refine s_call (xs := [.tmp 22]) (hGot t w10 _ cs1 t1) fun v w11 ⟨⟨g1, hv, tg1⟩, k11⟩ => ⟨?_, ?_⟩
  · intro p hp
    simp only [List.mem_singleton] at hp
    subst hp
    have := l_loadN (P := P) (ρ := en []) (w := w11) (x := .const (ptr w7.heap.size)) (b := w7.heap.size) (o := 0) Z.agg rfl (h9a.keep k11 (by simp)) (by omega)
    rw [show (cs2.drop 0).take 5 = cs2 by rw [List.drop_zero, List.take_of_length_le (by omega)]] at this
    exact this
  subst hv
  refine s_callx (hGot t w11 _ cs2 (TreeAt.keep k11 (fun b hb => by cases hb) (fun _ h _ => h) _ _ t2)) rfl fun v w12 ⟨⟨g2, hv, tg2⟩, k12⟩ => ?_
  subst hv
  refine s_callx (hSame t w12 _ _ g1 g2 (TreeAt.keep k12 (fun b hb => by cases hb) (fun _ h _ => h) _ _ tg1) tg2) rfl fun v w13 ⟨hv, k13⟩ => ?_
  exact s_ret1 ⟨hv, ((k0a.trans k11).trans k12).trans k13⟩
end
end Go.Kf
/- Reading and telling, joined. -/
namespace Go.Kf
open Go

/-- A tell function, over values of these types. -/
def TellOf (P : Program) (f : Nat) (ts : List Ty) (g : List FV → PT) : Prop := ∀ (w : World) (D V lo : Nat) (pre post mid : List Value) (fs : List FV), okFs fs ts → Has w V (pre ++ mid ++ post) → FsAt D w lo fs mid →
  Gives P f [ptr V pre.length] w fun v w' => (∃ cs, v = .agg ⟨cs⟩ ∧ TreeAt w' (fun b => w.heap.size ≤ b) (g fs) cs) ∧ Keeps [] w w'

theorem rt_gives {P : Program} {c : Nums} {e : Fns} {f g fTell S fDef : Nat} {ds : List Dset} {ls : List Nat} {ss : List Step} {v : Int} {uns : Bool} {fs0 fs1 : List FV} {mid0 mid1 : List Value} {ts : List Ty} {gp : List FV → PT} (F : RdFacts P c) (A : RfFacts P c S) (hOk : hasRet ss = true → OkGives P e.ok) (hCo : CompGives P e.complete c.gErr)
    (hT : treeIn P g (orcV 9 v) [.tmp 0, .tmp 1, .const (.bool uns)] 3 = gReadFrom c e S fDef v ss) (hW : treeIn P f noOrc [.tmp 0, .tmp 1] 2 = tWrap g uns) (hDef : DefSets P fDef ls ds) (hok : StepsOk P c S ls ss) (hdeep : deepsOk ss = true) (hsh : shapesOk fs0 ds = true) (h0 : fs0.map FV.wd = ls) (h01 : applyD ds fs0 = fs1) (hidx : idxOk fs1 ss = true)
    (himm0 : immL fs0 = some mid0) (himm : immL fs1 = some mid1) (hv : fs1[0]? = some (.one (.int .i16 v))) (hl1 : fs1.map FV.wd = ls) (hty : tySteps ts ss = true) (htd : okImms fs1 ts = true) (hTell : TellOf P fTell ts gp)
    {w : World} {V D : Nat} {src e0 : Value} {l : List UInt8} (hV : Has w V mid0) (hr : Reads w src 1 l.length (bcells l)) (hn : nilOf src = l.isEmpty) (hb : ∀ b ∈ blkOf src, b = D) (hD : D < w.heap.size) (hVD : V ≠ D) (he : ErrAt w c.gErr e0) (hgV : c.gErr ≠ V) (hl : l.length ≤ 1073741824) :
    Gives P f [ptr V, src] w fun u w' => Keeps [V] w w' ∧ match toldOf ss fs1 gp l with
      | some t => u = .nilIface ∧ Gives P fTell [ptr V] w' fun v w2 => (∃ cs, v = .agg ⟨cs⟩ ∧ TreeAt w2 (fun b => w'.heap.size ≤ b) t cs) ∧ Keeps [] w' w2
      | none => u = e0 := by
  refine wrap_gives F.mix hW ((readFrom_gives F A hOk hCo hT hDef hok hdeep hsh h0 h01 hidx himm hv hl1 hV (fun D lo => immL_at himm0 D w lo) hr hb hD hVD he hgV hl).mono fun u w' ⟨kk, hp⟩ => ⟨kk, ?_⟩)
  rw [hn] at hp
  unfold toldOf
  cases hrun : runSteps ss fs1 ⟨l, false, l.isEmpty⟩ with
  | none => rw [hrun] at hp; exact hp
  | some x =>
    obtain ⟨fs, r⟩ := x
    rw [hrun] at hp
    simp only [RfPost] at hp
    cases hbad : r.bad with
    | true =>
      rw [hbad] at hp
      simp only [hbad, if_true] at hp ⊢
      exact hp
    | false =>
      rw [hbad] at hp
      obtain ⟨hu, mid, hm, hf⟩ := hp
      simp only [hbad, Bool.false_eq_true, if_false]
      exact ⟨hu, hTell w' D V w.heap.size [] [] mid fs (runSteps_ok ss ts fs1 _ fs r hty (okImms_ok htd) hl hrun) (by simpa using hm) hf⟩
end Go.Kf
/- A tell function, by the types of its struct's fields. -/
namespace Go.Kf
open Go

mutual
def Ty.wd : Ty → Nat
  | .uuid => 16
  | .sub ts => tyWds ts
  | _ => 1
def tyWds : List Ty → Nat
  | [] => 0
  | t :: ts => t.wd + tyWds ts
end

theorem okF_num {f : FV} {k : IntKind} (h : okF f (.num k)) : ∃ x, f = .one (.int k x) ∧ k.wrap x = x := by
  cases f with
  | one v => obtain ⟨x, rfl, h⟩ := h; exact ⟨x, rfl, h⟩
  | ptr o => cases o <;> simp [okF] at h
  | _ => simp [okF] at h

theorem okF_bool {f : FV} (h : okF f .bool) : ∃ b, f = .one (.bool b) := by
  cases f with
  | one v => obtain ⟨x, rfl⟩ := h; exact ⟨x, rfl⟩
  | ptr o => cases o <;> simp [okF] at h
  | _ => simp [okF] at h

theorem okF_text {f : FV} (h : okF f .text) : ∃ l, f = .text l ∧ l.length ≤ big := by
  cases f with
  | text l => exact ⟨l, rfl, h.2⟩
  | ptr o => cases o <;> simp [okF] at h
  | _ => simp [okF] at h

theorem okF_ntext {f : FV} (h : okF f .ntext) : ∃ o, f = .ntext o ∧ ∀ l, o = some l → l.length ≤ big := by
  cases f with
  | ntext l => exact ⟨l, rfl, h.2⟩
  | ptr o => cases o <;> simp [okF] at h
  | _ => simp [okF] at h

theorem okF_octs {f : FV} (h : okF f .octs) : ∃ nl l, f = .octs nl l ∧ l.length ≤ big := by
  cases f with
  | octs nl l => exact ⟨nl, l, rfl, h.2⟩
  | ptr o => cases o <;> simp [okF] at h
  | _ => simp [okF] at h

theorem okF_uuid {f : FV} (h : okF f .uuid) : ∃ l, f = .uuid l ∧ l.length = 16 := by
  cases f with
  | uuid l => exact ⟨l, rfl, h.2⟩
  | ptr o => cases o <;> simp [okF] at h
  | _ => simp [okF] at h

theorem okF_tags {f : FV} (h : okF f .tags) : ∃ m, f = .tags m ∧ m.length ≤ big ∧ ∀ p ∈ m, p.2.length ≤ big := by
  cases f with
  | tags m => exact ⟨m, rfl, h.2⟩
  | ptr o => cases o <;> simp [okF] at h
  | _ => simp [okF] at h

theorem okF_list {f : FV} {ts : List Ty} (h : okF f (.list ts)) : ∃ nl rows, f = .list nl rows ∧ rows.length ≤ big ∧ okRows rows ts := by
  cases f with
  | list nl rows => exact ⟨nl, rows, rfl, h.1, h.2⟩
  | ptr o => cases o <;> simp [okF] at h
  | _ => simp [okF] at h

theorem okF_sub {f : FV} {ts : List Ty} (h : okF f (.sub ts)) : ∃ fs, f = .sub fs ∧ okFs fs ts := by
  cases f with
  | sub fs => exact ⟨fs, rfl, h⟩
  | ptr o => cases o <;> simp [okF] at h
  | _ => simp [okF] at h

theorem okF_ptr {f : FV} {ts : List Ty} (h : okF f (.ptr ts)) : ∃ o, f = .ptr o ∧ ∀ fs, o = some fs → okFs fs ts := by
  cases f with
  | ptr o => cases o with
    | none => exact ⟨none, rfl, fun fs h => by cases h⟩
    | some fs => exact ⟨some fs, rfl, fun fs' h' => by cases h'; exact h⟩
  | _ => simp [okF] at h

mutual
theorem okF_wd : ∀ (f : FV) (t : Ty), okF f t → f.wd = t.wd
  | f, .num k, h => by obtain ⟨x, rfl, _⟩ := okF_num h; rfl
  | f, .bool, h => by obtain ⟨x, rfl⟩ := okF_bool h; rfl
  | f, .uuid, h => by obtain ⟨x, rfl, _⟩ := okF_uuid h; rfl
  | f, .text, h => by obtain ⟨x, rfl, _⟩ := okF_text h; rfl
  | f, .ntext, h => by obtain ⟨x, rfl, _⟩ := okF_ntext h; rfl
  | f, .octs, h => by obtain ⟨_, x, rfl, _⟩ := okF_octs h; rfl
  | f, .tags, h => by obtain ⟨x, rfl, _⟩ := okF_tags h; rfl
  | f, .list ts, h => by obtain ⟨_, x, rfl, _⟩ := okF_list h; rfl
  | f, .ptr ts, h => by obtain ⟨x, rfl, _⟩ := okF_ptr h; rfl
  | f, .sub ts, h => by
    obtain ⟨fs, rfl, hf⟩ := okF_sub h
    simp only [FV.wd, Ty.wd]
    exact okFs_wds fs ts hf
theorem okFs_wds : ∀ (fs : List FV) (ts : List Ty), okFs fs ts → wds fs = tyWds ts
  | [], ts, h => by simp only [okFs] at h; subst h; rfl
  | f :: fs, [], h => by simp only [okFs] at h
  | f :: fs, t :: ts, h => by
    simp only [okFs] at h
    simp only [wds, tyWds, okF_wd f t h.1, okFs_wds fs ts h.2]
end

theorem okFs_map : ∀ (fs : List FV) (ts : List Ty), okFs fs ts → fs.map FV.wd = ts.map Ty.wd
  | [], ts, h => by simp only [okFs] at h; subst h; rfl
  | f :: fs, [], h => by simp only [okFs] at h
  | f :: fs, t :: ts, h => by
    simp only [okFs] at h
    simp only [List.map_cons, okF_wd f t h.1, okFs_map fs ts h.2]

/-- The row j of a list. -/
theorem RowsAt.at {D : Nat} {w : World} {lo sz : Nat} : ∀ {rows : List (List FV)} {cs : List Value} {j : Nat}, RowsAt D w lo rows cs → (∀ r ∈ rows, wds r = sz) → (hj : j < rows.length) → ∃ a m z, cs = a ++ m ++ z ∧ a.length = j * sz ∧ FsAt D w lo rows[j] m
  | [], _, _, _, _, hj => by simp at hj
  | r :: rows, _, 0, ⟨c1, c2, e, h1, _⟩, _, _ => ⟨[], c1, c2, by simpa using e, by simp, h1⟩
  | r :: rows, _, j + 1, ⟨c1, c2, e, h1, h2⟩, hs, hj => by
    obtain ⟨a, m, z, e2, ha, hm⟩ := RowsAt.at (j := j) h2 (fun x hx => hs x (List.mem_cons_of_mem _ hx)) (by simpa using hj)
    refine ⟨c1 ++ a, m, z, by rw [e, e2]; simp, ?_, by simpa using hm⟩
    rw [List.length_append, ha, FsAt.len r c1 h1, hs r List.mem_cons_self, Nat.add_mul]
    omega

theorem okRows_wds {rows : List (List FV)} {ts : List Ty} (h : okRows rows ts) : ∀ r ∈ rows, wds r = tyWds ts := fun r hr => okFs_wds r ts (okRows_mem h r hr)

section
variable {P : Program} {c : Nums}

/-- A step of the telling, over values of these types. -/
def StepTell (P : Program) (c : Nums) (S : Nat) (ts : List Ty) (s : TStep) (q : Nat) (tf : List FV → PT) : Prop :=
  ∀ (R : Value → World → Prop) (w0 : World) (N D V lo : Nat) (pre post : List Value) (fs : List FV), okFs fs ts → TIn w0 D V lo pre post fs → q < N → V < w0.heap.size → SemT P c R w0 N S V pre s q (tf fs)

def FieldTy (P : Program) (S : Nat) (ts : List Ty) (i off : Nat) (t : Ty) : Prop := fieldOff P S i = some off ∧ ((ts.map Ty.wd).take i).sum = off ∧ ts[i]? = some t

theorem FieldTy.ok {S i off : Nat} {ts : List Ty} {t : Ty} (h : FieldTy P S ts i off t) : FieldOk P S (ts.map Ty.wd) i off := ⟨h.1, h.2.1⟩

def fvGet (fs : List FV) (i : Nat) : FV := fs.getD i (.text [])

theorem fvGet_eq {fs : List FV} {i : Nat} {f : FV} (h : fs[i]? = some f) : fvGet fs i = f := by
  unfold fvGet
  rw [List.getD_eq_getElem?_getD, h]; rfl

/-- Kinds that 64 bits hold. -/
def IntKind.fits (k : IntKind) : Prop := ∀ x, k.wrap x = x → IntKind.i64.wrap x = x

theorem fits_i8 : IntKind.fits .i8 := fun x h => by
  simp only [IntKind.wrap, IntKind.bits, IntKind.signed] at h ⊢; simp at h ⊢; omega
theorem fits_i16 : IntKind.fits .i16 := fun x h => by
  simp only [IntKind.wrap, IntKind.bits, IntKind.signed] at h ⊢; simp at h ⊢; omega
theorem fits_i32 : IntKind.fits .i32 := fun x h => by
  simp only [IntKind.wrap, IntKind.bits, IntKind.signed] at h ⊢; simp at h ⊢; omega
theorem fits_i64 : IntKind.fits .i64 := fun _ h => h
theorem fits_u8 : IntKind.fits .u8 := fun x h => by
  simp only [IntKind.wrap, IntKind.bits, IntKind.signed] at h ⊢; simp at h ⊢; omega
theorem fits_u16 : IntKind.fits .u16 := fun x h => by
  simp only [IntKind.wrap, IntKind.bits, IntKind.signed] at h ⊢; simp at h ⊢; omega
theorem fits_u32 : IntKind.fits .u32 := fun x h => by
  simp only [IntKind.wrap, IntKind.bits, IntKind.signed] at h ⊢; simp at h ⊢; omega

theorem told_num {S i ty q off : Nat} {ik : IntKind} {ts : List Ty} (Z : TyFacts P c c.tTree c.tTrees c.tTagL c.tTag) (K : TellFacts P c) (hF : FieldTy P S ts i off (.num ik)) (hty : P.underlying ty = some (.int ik)) (hone : oneTy P ty = true) (hk : IntKind.fits ik) :
    StepTell P c S ts (.num i ty q) q fun fs => tellPrim (fvGet fs i) := by
  intro R w0 N D V lo pre post fs hok hin hq _
  obtain ⟨f, hf, hft⟩ := okFs_get hok hF.2.2
  obtain ⟨x, rfl, hx⟩ := okF_num hft
  simp only [fvGet_eq hf]
  exact tell_num Z K.plan hin (okFs_map _ _ hok) hF.ok hq hty hone hf (hk x hx)

theorem told_num64 {S i q off : Nat} {ts : List Ty} (Z : TyFacts P c c.tTree c.tTrees c.tTagL c.tTag) (K : TellFacts P c) (hF : FieldTy P S ts i off (.num .i64)) : StepTell P c S ts (.num64 i q) q fun fs => tellPrim (fvGet fs i) := by
  intro R w0 N D V lo pre post fs hok hin hq _
  obtain ⟨f, hf, hft⟩ := okFs_get hok hF.2.2
  obtain ⟨x, rfl, hx⟩ := okF_num hft
  simp only [fvGet_eq hf]
  exact tell_num64 Z K.plan hin (okFs_map _ _ hok) hF.ok hq hf

theorem told_text {S i q off : Nat} {ts : List Ty} (F : RdFacts P c) (Z : TyFacts P c c.tTree c.tTrees c.tTagL c.tTag) (K : TellFacts P c) (hstr : oneTy P c.tStr = true) (hF : FieldTy P S ts i off .text) : StepTell P c S ts (.text i q) q fun fs => tellPrim (fvGet fs i) := by
  intro R w0 N D V lo pre post fs hok hin hq _
  obtain ⟨f, hf, hft⟩ := okFs_get hok hF.2.2
  obtain ⟨l, rfl, hl⟩ := okF_text hft
  simp only [fvGet_eq hf]
  exact tell_text F hstr Z K.plan hin (okFs_map _ _ hok) hF.ok hq hf hl

/-- A function that tells one cell's value, by its type. -/
def TellCellTy (P : Program) (f : Nat) (t : Ty) : Prop := t.wd = 1 ∧ ∀ (D lo : Nat) (fv : FV), okF fv t → TellCell P f D lo fv

theorem told_call {S f i ty q off : Nat} {t : Ty} {ts : List Ty} (Z : TyFacts P c c.tTree c.tTrees c.tTagL c.tTag) (hF : FieldTy P S ts i off t) (hone : oneTy P ty = true) (hC : TellCellTy P f t) : StepTell P c S ts (.call f i ty q) q fun fs => tellPrim (fvGet fs i) := by
  intro R w0 N D V lo pre post fs hok hin hq _
  obtain ⟨fv, hf, hft⟩ := okFs_get hok hF.2.2
  simp only [fvGet_eq hf]
  exact tell_call Z hin (okFs_map _ _ hok) hF.ok hq hone hf ((okF_wd fv t hft).trans hC.1) (hC.2 D lo fv hft)

/-- An element of a list, told. -/
def ElTell (P : Program) (c : Nums) (el : TEl) (ts : List Ty) (g : List FV → PT) : Prop :=
  ∀ (w : World) (D lo B : Nat) (a m z : List Value) (r : List FV), Has w B (a ++ m ++ z) → FsAt D w lo r m → okFs r ts → ElLaid P c el B a.length (g r) w

theorem el_sub {f : Nat} {ts : List Ty} {g : List FV → PT} (h : TellOf P f ts g) : ElTell P c (.sub f) ts g := fun w D lo B a m z r hh hf hok w' k' =>
  h w' D B lo a z m r hok (hh.keep k' (by simp)) (FsAt.keep k' lo (fun b hb => by cases hb) _ _ hf)

theorem el_text (hstr : oneTy P c.tStr = true) : ElTell P c .text [.text] fun r => tellPrim (fvGet r 0) := by
  intro w D lo B a m z r hh hf hok
  obtain ⟨f, hr, hft⟩ := okFs_get (i := 0) hok rfl
  obtain ⟨l, rfl, hl⟩ := okF_text hft
  simp only [fvGet_eq hr]
  obtain ⟨a1, m1, z1, e, ha, hm, _⟩ := hf.split hr
  have : a1 = [] := List.eq_nil_of_length_eq_zero (by rw [ha]; rfl)
  subst this
  simp only [FAt] at hm
  subst hm
  exact ⟨_, _, hh, by rw [e, List.append_assoc, List.getElem?_append_right (Nat.le_refl _), Nat.sub_self]; rfl, ⟨l, rfl, hl, rfl⟩, hstr⟩

theorem el_num {ty : Nat} {ik : IntKind} (hty : P.underlying ty = some (.int ik)) (hone : oneTy P ty = true) (hk : IntKind.fits ik) : ElTell P c (.num ty) [.num ik] fun r => tellPrim (fvGet r 0) := by
  intro w D lo B a m z r hh hf hok
  obtain ⟨f, hr, hft⟩ := okFs_get (i := 0) hok rfl
  obtain ⟨x, rfl, hx⟩ := okF_num hft
  simp only [fvGet_eq hr]
  obtain ⟨a1, m1, z1, e, ha, hm, _⟩ := hf.split hr
  have : a1 = [] := List.eq_nil_of_length_eq_zero (by rw [ha]; rfl)
  subst this
  obtain ⟨rfl, _⟩ := hm
  exact ⟨_, _, hh, by rw [e, List.append_assoc, List.getElem?_append_right (Nat.le_refl _), Nat.sub_self]; rfl, ⟨ik, x, rfl, hty, hk x hx, rfl⟩, hone⟩

/-- What a list is told as. -/
def tellList (g : List FV → PT) : FV → PT
  | .list nl rows => .mk 0 [] nl (rows.map g) []
  | _ => .zero

theorem told_list {S i tySl q T sz off : Nat} {el : TEl} {ets ts : List Ty} {g : List FV → PT} (F : RdFacts P c) (Z : TyFacts P c c.tTree c.tTrees c.tTagL c.tTag) (K : TellFacts P c) (hF : FieldTy P S ts i off (.list ets)) (hone : oneTy P tySl = true) (hsl : P.underlying tySl = some (.slice T)) (hsz : (P.info? T).map (·.size) = some sz)
    (hw : tyWds ets = sz) (hE : ElTell P c el ets g) : StepTell P c S ts (.list i tySl q el) q fun fs => tellList g (fvGet fs i) := by
  intro R w0 N D V lo pre post fs hok hin hq hV
  obtain ⟨f, hf, hft⟩ := okFs_get hok hF.2.2
  obtain ⟨nl, rows, rfl, hl, hrows⟩ := okF_list hft
  simp only [fvGet_eq hf]
  refine tell_list (tl := rows.map g) F Z K.plan K.row K.coin hin (okFs_map _ _ hok) hF.ok hq hone hsl hsz hf (by simp) (by simp only [List.length_map, big] at hl ⊢; omega) hV fun w B rcs kk hB hr j hj => ?_
  have hj' : j < rows.length := by simpa using hj
  obtain ⟨a, m, z, e, ha, hm⟩ := hr.at (j := j) (fun r hr => (okRows_wds hrows r hr).trans hw) hj'
  subst e
  have := hE w D (B + 1) B a m z rows[j] hB hm (okRows_mem hrows _ (List.getElem_mem _))
  rw [ha] at this
  rw [Nat.zero_add, List.getElem_map]
  exact this

/-- What a part is told as. -/
def tellPart (g : List FV → PT) : FV → PT
  | .sub fs => g fs
  | _ => .zero

theorem told_part {S f i q off : Nat} {us ts : List Ty} {g : List FV → PT} (Z : TyFacts P c c.tTree c.tTrees c.tTagL c.tTag) (hF : FieldTy P S ts i off (.sub us)) (hT : TellOf P f us g) : StepTell P c S ts (.part f i q) q fun fs => tellPart g (fvGet fs i) := by
  intro R w0 N D V lo pre post fs hok hin hq hV n k Γ ρ w tts u uv hn h0 _ h4 hT0 hRaw hk
  obtain ⟨f0, hf, hft⟩ := okFs_get hok hF.2.2
  obtain ⟨gs, rfl, hg⟩ := okF_sub hft
  simp only [fvGet_eq hf, tellPart] at hk
  simp only [gTStep]
  refine s_TL Z h4 hT0 fun w1 hT1 k1 => ?_
  obtain ⟨mid, hh0, hfs0⟩ := hin.st
  have hh := hh0.keep hT1.k (by simp)
  have hfs := FsAt.keep (D := D) hT1.k lo (fun b hb => by cases hb) _ _ hfs0
  obtain ⟨a, m, z, e, ha, hm, _⟩ := hfs.split hf
  have hao : a.length = off := by rw [ha, wds_eq, List.map_take, okFs_map _ _ hok]; exact hF.2.1
  have hpl : (pre ++ a).length = pre.length + off := by simp [hao]
  have hh' : Has w1 V ((pre ++ a) ++ m ++ (z ++ post)) := by rw [e] at hh; simpa using hh
  refine p_val (v_nilCheck (show ev _ (.tmp 0) = ptr V pre.length by show ext _ _ _ 0 = _; rw [ext_lt (by omega), ext_lt (by omega)]; exact h0)) ?_
  refine p_val (v_field (b := V) (o := pre.length) hF.1 ext_at) ?_
  have hcall := hT w1 D V lo (pre ++ a) (z ++ post) m gs hg hh' hm
  rw [hpl] at hcall
  refine s_call (xs := [.tmp (n + 3)]) (Post := fun u w' => (∃ cs, u = .agg ⟨cs⟩ ∧ TreeAt w' (fun b => w1.heap.size ≤ b) (g gs) cs) ∧ Keeps [] w1 w') (by
    rw [List.map_cons, List.map_nil]
    have : ev (ext (ext (ext (ext ρ n [ptr (w0.heap.size + 2) 3]) (n + 1) [rowV w0 N]) (n + 2) [.pointer (some ⟨V, pre.length, none⟩)]) (n + 2 + 1) [.pointer (some ⟨V, pre.length + off, none⟩)]) (.tmp (n + 3)) = ptr V (pre.length + off) := ext_at
    exact this ▸ hcall) fun x w2 ⟨⟨ccs, hx, htr⟩, k2⟩ => ?_
  subst hx
  have hT2 := hT1.keep k2
  refine ⟨TL_owed Z (by rw [ext_lt (by omega), ext_lt (by omega), ext_lt (by omega), ext_at]) (by rw [ext_lt (by omega), ext_lt (by omega), ext_at]) hT2, ?_⟩
  have hlt := hT1.top.lt
  refine s_TSet (n := n + 5) (t := g gs) (cs := ccs) Z ?_ hq (show ev _ (.tmp (n + 4)) = _ from ext_at) (by simp [opBelow]) (htr.mono fun b hb _ => by omega) hT2 fun w3 hT3 hR3 => ?_
  · rw [ext_lt (by omega), ext_lt (by omega), ext_lt (by omega), ext_at]
  · refine hk (n + 7) Γ _ w3 (by omega) ⟨[], by simp⟩ (fun y hy => ?_) hT3 (hR3 ((hRaw.keep hT0 k1).keep hT1 k2))
    rw [ext_lt (by omega), ext_lt (by omega), ext_lt (by omega), ext_lt (by omega), ext_lt (by omega), ext_lt (by omega), ext_lt (by omega)]

/-- Steps and what they tell. -/
def StepsTell (P : Program) (c : Nums) (S : Nat) (ts : List Ty) : List TStep → List (List FV → PT) → Nat → Prop
  | [], [], _ => True
  | s :: ss, t :: tl, q => StepTell P c S ts s q t ∧ StepsTell P c S ts ss tl (q + 1)
  | _, _, _ => False

theorem steps_told {S : Nat} {ts : List Ty} {R : Value → World → Prop} {w0 : World} {N D V lo : Nat} {pre post : List Value} {fs : List FV} (hok : okFs fs ts) (hin : TIn w0 D V lo pre post fs) (hV : V < w0.heap.size) :
    ∀ (ss : List TStep) (tfs : List (List FV → PT)) (q : Nat), StepsTell P c S ts ss tfs q → q + tfs.length ≤ N → StepsT P c R w0 N S V pre ss (tfs.map (· fs)) q
  | [], [], _, _, _ => trivial
  | [], _ :: _, _, h, _ => h.elim
  | _ :: _, [], _, h, _ => h.elim
  | s :: ss, t :: tl, q, ⟨h1, h2⟩, hq => by
    simp only [List.length_cons] at hq
    exact ⟨h1 R w0 N D V lo pre post fs hok hin (by omega) hV, steps_told hok hin hV ss tl (q + 1) h2 (by omega)⟩

/-- A struct without tags. -/
theorem told_of {f S N : Nat} {ts : List Ty} {ss : List TStep} {tfs : List (List FV → PT)} (F : RdFacts P c) (Z : TyFacts P c c.tTree c.tTrees c.tTagL c.tTag) (K : TellFacts P c) (hT : treeIn P f noOrc [.tmp 0] 1 = gTell c S N ss) (hN : tfs.length = N) (hsm : N ≤ 1024) (hs : StepsTell P c S ts ss tfs 0) :
    TellOf P f ts fun fs => .mk 0 [] false (tfs.map (· fs)) [] := by
  intro w D V lo pre post mid fs hok hh hf
  exact tell_gives F Z K hT (by simpa using hN) hsm fun R => steps_told hok ⟨mid, hh, hf⟩ hh.lt ss tfs 0 hs (by omega)
end
end Go.Kf
/- A law's row: what its arguments are, what is to be said behind it. -/
namespace Go.Kf
open Go Go.ChangeShapes Go.WideShapes Go.RowKit

theorem lit_u8 {n : Int} (h : (Lit.int .u8 n).wf = true) : ∃ m : Nat, n = m ∧ m < 256 := by
  simp only [Lit.wf, Bool.and_eq_true, decide_eq_true_eq] at h
  have e1 : IntKind.u8.min = 0 := rfl
  have e2 : IntKind.u8.max = 255 := rfl
  rw [e1, e2] at h
  exact ⟨n.toNat, by omega, by omega⟩

theorem keep_cell {w w' : World} (hk : Keeps [] w w') {a : Addr} {v : Value} (h : w.cell? a = some v) : w'.cell? a = some v := by
  unfold World.cell? at h ⊢
  cases hb : w.heap[a.block]? with
  | none => rw [hb] at h; cases h
  | some o => rw [hk.block _ (Array.getElem?_eq_some_iff.1 hb).1 (by simp)]; exact h

theorem cell_block {w : World} {a : Addr} {v : Value} (h : w.cell? a = some v) : a.block < w.heap.size := by
  unfold World.cell? at h
  cases hb : w.heap[a.block]? with
  | none => rw [hb] at h; cases h
  | some o => exact (Array.getElem?_eq_some_iff.1 hb).1

theorem keptBut_keeps {w w' : World} (hk : Keeps [] w w') (may : MemPlace → Prop) : w.keptBut w' may := by
  refine ⟨hk.os, hk.output, fun i hi => ?_⟩
  rw [hk.block i hi (by simp)]
  split <;> simp_all

/-- A law of an octet and octets. -/
theorem law_row {H : Type} {enc : TypeId × Value → H} {P : Program} {fn : Func} {s : ChangeSpec} {tU tBy tB : Nat} (hp : fn.params = #[tU, tBy]) (hr : fn.resultTypes = #[tB]) (hu : P.underlying tU = some (.int .u8)) (hby : P.underlying tBy = some (.slice tU)) (hc : P.cellsOf tU = 1) (hb : P.underlying tB = some .bool)
    (hs : ∀ (H : Type) (d1 d2 : DataW H), s.fn H [d1, d2] = { results := [.lit (.bool true)], args := [d1, d2] }) (hvs : s.vars = []) {W : World} {base : Nat} {args : Array Value} {ds gs : List (DataW H)} {before : List MemPlace}
    (hval : ∀ (j : Nat) t v, fn.params[j]? = some t → args[j]? = some v → Value.okWide P W .any base t v) (hW : DataW.Whole enc P fn.params.toList s.vars false W args.toList ds gs before) :
    ∃ (n : Nat) (data : Value) (l : List UInt8), n < 256 ∧ args = #[.int .u8 n, data] ∧ DataIn W data l ∧ ∀ W', Keeps [] W W' → s.post enc P fn false true false false W args (.bool true) W' := by
  have hW0 := hW
  obtain ⟨p, q, hA, hV, rfl, hfz, hnd⟩ := hW
  rw [hvs] at hV
  obtain ⟨rfl, rfl⟩ := trodVars_none hV
  rw [hp] at hA hval
  obtain ⟨v0, vs0, d0, ds0, p0, q0, hargs, rfl, rfl, h0, r0⟩ := trodAll_cons hA
  obtain ⟨v1, vs1, d1, ds1, p1, q1, rfl, rfl, rfl, h1, r1⟩ := trodAll_cons r0
  obtain ⟨rfl, rfl, rfl⟩ := trodAll_nil r1
  obtain rfl : args = #[v0, v1] := by cases args; simp_all
  obtain ⟨n0, rfl, rfl, rfl, hw0⟩ := open_int hu (hval 0 tU v0 rfl rfl) h0
  obtain ⟨n, rfl, hn⟩ := lit_u8 hw0
  obtain ⟨a0, len0, cap0, rfl⟩ := okWide_slice hby (hval 1 tBy v1 rfl rfl)
  have hres : ∀ (W' : World) (b : Nat) (sp : Nat → Bool) (hd : Bool), DataW.TrodAll enc P W' b sp hd fn.resultTypes.toList ((Value.bool true).resultList fn.resultTypes.size) [.lit (.bool true)] [] := by
    intro W' b sp hd
    rw [hr]
    exact trodAll_cons_mk (shut_bool hb _) trodAll_mk0
  have hintAt : ∀ (W' : World) (sp : Nat → Bool), DataW.Trod enc P W' 0 sp true tU (.int .u8 (n : Int)) (.lit (.int .u8 n)) [] := fun W' sp => ⟨1, trod_int_mk 0 hu hw0⟩
  have fin : ∀ (d1 : DataW H) (p1 : List MemPlace), (∀ W', Keeps [] W W' → DataW.Trod enc P W' 0 (fun b => decide (b < W.heap.size)) true tBy (.slice a0 len0 cap0) d1 p1) → DataW.Whole enc P fn.params.toList s.vars false W #[.int .u8 n, .slice a0 len0 cap0].toList ([.lit (.int .u8 n), d1]) [] ([] ++ (p1 ++ []) ++ []) →
      ∀ W', Keeps [] W W' → s.post enc P fn false true false false W #[.int .u8 n, .slice a0 len0 cap0] (.bool true) W' := by
    intro d1 p1 hsl hWh W' hk
    refine ⟨_, _, _, [], [] ++ (p1 ++ []), [], hWh, ?_, ?_, ?_, ?_, fun h => by cases h⟩
    · rw [List.append_nil, hs]; exact hres W' _ _ _
    · rw [List.append_nil, hs, hp]
      exact trodAll_cons_mk (hintAt W' _) (trodAll_cons_mk (hsl W' hk) trodAll_mk0)
    · rw [hvs, List.append_nil, hs]; rfl
    · exact World.keptBut_mono (fun p hp => ⟨hp, .inr (.inl (by simpa using hp))⟩) (keptBut_keeps hk _)
  obtain ⟨fuel, hf⟩ := h1
  rcases open_ints hby hu hc hf with ⟨hcs, hx⟩ | ⟨a, len, cap, zs, hcs, hba, hle, hmx, hzl, hx, hcell, hwf⟩
  · simp only [Prod.mk.injEq] at hx
    obtain ⟨rfl, rfl⟩ := hx
    have hv : a0 = none ∧ len0 = 0 ∧ cap0 = 0 := by simpa [Value.cells] using hcs
    obtain ⟨rfl, rfl, rfl⟩ := hv
    refine ⟨n, _, [], hn, rfl, .inl ⟨rfl, rfl⟩, ?_⟩
    refine fin _ _ (fun W' hk => ⟨1, ?_⟩) hW0
    simp [Value.cells, DataW.trod, hby]
  · simp only [Prod.mk.injEq] at hx
    obtain ⟨rfl, rfl⟩ := hx
    have hv : a0 = some a ∧ len0 = len ∧ cap0 = cap := by simpa [Value.cells] using hcs
    obtain ⟨rfl, rfl, rfl⟩ := hv
    simp only [if_true] at hzl
    have hz8 : ∀ z ∈ zs, ∃ m : Nat, z = m ∧ m < 256 := fun z hz => lit_u8 (hwf z hz)
    refine ⟨n, _, (zs.take len0).map fun z => UInt8.ofNat z.toNat, hn, rfl, .inr ⟨a, cap0, ?_, ?_⟩, ?_⟩
    · simp only [List.length_map, List.length_take]
      rw [Nat.min_eq_left (by omega)]
    · intro i hi
      simp only [List.length_map, List.length_take] at hi
      have hi' : i < zs.length := by omega
      rw [hcell i hi']
      obtain ⟨m, hm, hlt⟩ := hz8 zs[i] (List.getElem_mem _)
      simp only [List.getElem_map, List.getElem_take, List.getD_eq_getElem?_getD, List.getElem?_eq_getElem hi', Option.getD_some, hm, Int.toNat_natCast]
      congr 2
      have : (UInt8.ofNat m).toNat = m := by rw [UInt8.toNat_ofNat']; omega
      rw [this]
    · refine fin _ _ (fun W' hk => ⟨2, ?_⟩) hW0
      have hsz : ∀ i, i < zs.length → a.block < W.heap.size := fun i hi => by have := cell_block (hcell i hi); rwa [block_add] at this
      have hlen : zs.length = if decide (a.block < W.heap.size) then cap0 else len0 := by
        by_cases hz : 0 < zs.length
        · rw [decide_eq_true (hsz 0 hz)]; simpa using hzl
        · split <;> omega
      exact shut_ints 0 hby hu hc (Nat.zero_le _) hle hmx hlen (fun i hi => keep_cell hk (hcell i hi)) hwf

/-- The listed error's variable. -/
theorem err_at {P : Program} {W : World} {name nm : String} {d : DataW Unit} {g t : Nat} (hg : P.globalNamed name = some g) (ht : (P.globals[g]?).map (·.type) = some t) (hu : ∃ ms, P.underlying t = some (.interface ms)) (hn : (DataW.iface nm d : DataW Unit).handleName?.isNone = true) (hL : laidMetH P [(name, .iface nm d)] W) :
    ∃ u v, ErrAt W g (.iface u v) := by
  have hL' : laidMet P [(name, .iface nm d)] W := by
    unfold laidMetH at hL
    have : ([(name, DataW.iface nm d)].filter fun x => x.2.handleName?.isSome) = [] := by
      simp only [List.filter_cons, List.filter_nil]
      rw [if_neg (by simpa using hn)]
    rw [this] at hL
    exact hL
  obtain ⟨ps, ⟨g', t', cs, fuel, p, q, hg', ht', hv, htr, _⟩, _⟩ := hL'
  obtain rfl : g = g' := by rw [hg] at hg'; simpa using hg'
  obtain rfl : t = t' := by rw [ht] at ht'; simpa using ht'
  obtain ⟨ms, hu⟩ := hu
  unfold World.var? at hv
  rw [hg] at hv
  simp only [Option.bind_some] at hv
  cases hb : W.heap[g]? with
  | none => rw [hb] at hv; cases hv
  | some o =>
    rw [hb] at hv
    obtain ⟨c, ty, fr, rfl⟩ : ∃ c ty fr, o = .cells c ty fr := by cases o <;> first | exact ⟨_, _, _, rfl⟩ | cases hv
    simp only [Option.some.injEq] at hv
    subst hv
    cases fuel with
    | zero => simp [DataW.trod] at htr
    | succ fuel =>
      unfold DataW.trod at htr
      rw [hu] at htr
      obtain ⟨u, v, hcs⟩ : ∃ u v, c.toList = [.iface u v] := by
        match hc : c.toList with
        | [.iface u v] => exact ⟨u, v, rfl⟩
        | [.nilIface] => rw [hc] at htr; simp at htr
        | [] => rw [hc] at htr; simp at htr
        | _ :: _ :: _ => rw [hc] at htr; simp at htr
        | [.bool _] => rw [hc] at htr; simp at htr
        | [.int _ _] => rw [hc] at htr; simp at htr
        | [.string _] => rw [hc] at htr; simp at htr
        | [.pointer _] => rw [hc] at htr; simp at htr
        | [.slice _ _ _] => rw [hc] at htr; simp at htr
        | [.map _] => rw [hc] at htr; simp at htr
        | [.agg _] => rw [hc] at htr; simp at htr
        | [x] => rw [hc] at htr; cases x <;> simp_all
      refine ⟨u, v, ?_, (Array.getElem?_eq_some_iff.1 hb).1⟩
      unfold World.cell?
      rw [show (⟨g, 0, none⟩ : Addr).block = g from rfl, hb]
      simp only [Option.isSome_none, Bool.false_eq_true, if_false]
      rw [← Array.getElem?_toList, hcs]
      rfl
end Go.Kf
/- The package encoding/binary's reading functions, by the shelf's contracts. -/
namespace Go.Kf
open Go Go.Shelf Go.Proofs
variable {P : Program} {ρ : Ren}

theorem be_cell {w : World} {b o i : Nat} {cs : List Value} {l : List UInt8} (hh : Has w b cs) (hx : (cs.drop o).take (l.length * 1) = bcells l) (hi : i < l.length) : w.cell? ⟨b, o + i, none⟩ = some (.int .u8 l[i].toNat) := by
  refine hh.cell ?_
  have h1 : (bcells l)[i]? = some (.int .u8 l[i].toNat) := by simp [bcells, hi]
  rw [← hx, List.getElem?_take, if_pos (by omega), List.getElem?_drop] at h1
  exact h1

theorem be16 {f : Nat} (L : LaysBin.n36 P ρ) (hf : ρ.f 36 = f) (hg : goFn P f = true) : BeGives P f 2 .u16 := by
  subst hf
  intro w v l hl hr
  rcases hr.2 with ⟨_, h0⟩ | ⟨b, o, cap, cs, rfl, hc, hh, hlen, hx⟩
  · omega
  · refine ⟨hg, Calls.mono (Proofs.Any.binary_BE_Uint16 L b o l.length cap l[0] l[1] w hl (be_cell (i := 0) hh hx (by omega)) (be_cell (i := 1) hh hx (by omega))) fun e w' ⟨he, hb⟩ => ?_⟩
    subst he
    refine ⟨?_, .ofBelow hb⟩
    match l, hl with
    | b0 :: b1 :: r, _ => rfl

theorem be32 {f : Nat} (L : LaysBin.n39 P ρ) (hf : ρ.f 39 = f) (hg : goFn P f = true) : BeGives P f 4 .u32 := by
  subst hf
  intro w v l hl hr
  rcases hr.2 with ⟨_, h0⟩ | ⟨b, o, cap, cs, rfl, hc, hh, hlen, hx⟩
  · omega
  · refine ⟨hg, Calls.mono (Proofs.Any.binary_BE_Uint32 L b o l.length cap l[0] l[1] l[2] l[3] w hl (be_cell (i := 0) hh hx (by omega)) (be_cell (i := 1) hh hx (by omega)) (be_cell (i := 2) hh hx (by omega)) (be_cell (i := 3) hh hx (by omega))) fun e w' ⟨he, hb⟩ => ?_⟩
    subst he
    refine ⟨?_, .ofBelow hb⟩
    match l, hl with
    | b0 :: b1 :: b2 :: b3 :: r, _ => rfl

theorem be64 {f : Nat} (L : LaysBin.n42 P ρ) (hf : ρ.f 42 = f) (hg : goFn P f = true) : BeGives P f 8 .u64 := by
  subst hf
  intro w v l hl hr
  rcases hr.2 with ⟨_, h0⟩ | ⟨b, o, cap, cs, rfl, hc, hh, hlen, hx⟩
  · omega
  · refine ⟨hg, Calls.mono (Proofs.Any.binary_BE_Uint64 L b o l.length cap l[0] l[1] l[2] l[3] l[4] l[5] l[6] l[7] w hl (be_cell (i := 0) hh hx (by omega)) (be_cell (i := 1) hh hx (by omega)) (be_cell (i := 2) hh hx (by omega)) (be_cell (i := 3) hh hx (by omega)) (be_cell (i := 4) hh hx (by omega)) (be_cell (i := 5) hh hx (by omega)) (be_cell (i := 6) hh hx (by omega)) (be_cell (i := 7) hh hx (by omega))) fun e w' ⟨he, hb⟩ => ?_⟩
    subst he
    refine ⟨?_, .ofBelow hb⟩
    match l, hl with
    | b0 :: b1 :: b2 :: b3 :: b4 :: b5 :: b6 :: b7 :: r, _ => rfl
end Go.Kf
/- Facts of a seat's types, from checks that the kernel runs. -/
namespace Go.Kf
open Go
variable {P : Program} {c : Nums}

def chkZero (P : Program) (t s : Nat) : Bool := match zeroTy P t with
  | some (z, s') => Nat.beq s' s && Nat.beq z.cells.size s
  | none => false

theorem zero_of {t s : Nat} (h : chkZero P t s = true) : ∃ z, zeroTy P t = some (z, s) ∧ z.cells.size = s := by
  unfold chkZero at h
  split at h
  · rename_i z s' hz
    simp only [Bool.and_eq_true] at h
    obtain rfl := Nat.eq_of_beq_eq_true h.1
    exact ⟨z, hz, Nat.eq_of_beq_eq_true h.2⟩
  · cases h

def chkInfo (P : Program) (t s m : Nat) : Bool := match P.info? t with
  | some i => match i.zero with
    | some z => Nat.beq i.size s && Nat.beq z.cells.size s && Nat.ble i.bytes m
    | none => false
  | none => false

theorem info_of {t s m : Nat} (h : chkInfo P t s m = true) : ∃ inf z, P.info? t = some inf ∧ inf.zero = some z ∧ inf.size = s ∧ z.cells.size = s ∧ inf.bytes ≤ m := by
  unfold chkInfo at h
  split at h
  · rename_i i hi
    split at h
    · rename_i z hz
      simp only [Bool.and_eq_true] at h
      exact ⟨i, z, hi, hz, Nat.eq_of_beq_eq_true h.1.1, Nat.eq_of_beq_eq_true h.1.2, Nat.le_of_ble_eq_true h.2⟩
    · cases h
  · cases h

theorem StrFacts.of (h : chkZero P c.tStr 1 = true) (h1 : oneTy P c.tStr = true) : StrFacts P c := ⟨zero_of h, h1⟩

theorem RowFacts.of {T sz : Nat} (h : chkInfo P T sz 1024 = true) (ha : aggTy P T = some sz) (hp : 0 < sz ∧ sz ≤ 16) : RowFacts P T sz := ⟨info_of h, ha, hp⟩

theorem OctFacts.of (h : chkInfo P c.tU8 1 8 = true) : OctFacts P c := ⟨info_of h⟩

theorem ListOk.of {tySl T sz : Nat} (h1 : P.underlying tySl = some (.slice T)) (h2 : oneTy P tySl = true) (h3 : chkInfo P T sz 65536 = true) (h4 : 0 < sz) : ListOk P c tySl T sz := by
  obtain ⟨i, z, hi, hz, hs, hc, hb⟩ := info_of h3
  exact ⟨h1, h2, i, z, hi, hz, hs, hc, h4, hb⟩

def chkPlan (P : Program) (t n : Nat) (fs : List (Nat × Nat)) : Bool := match buildPlan P t with
  | some (z, gs) => Nat.beq z.length n && decide (gs = fs)
  | none => false

theorem plan_of {t n : Nat} {fs : List (Nat × Nat)} (h : chkPlan P t n fs = true) : ∃ z, buildPlan P t = some (z, fs) ∧ z.length = n := by
  unfold chkPlan at h
  split at h
  · rename_i z gs hz
    simp only [Bool.and_eq_true, decide_eq_true_eq] at h
    obtain rfl := h.2
    exact ⟨z, hz, Nat.eq_of_beq_eq_true h.1⟩
  · cases h

theorem GotFacts.of (h1 : buildPlan P c.sTree = some (zeroTree, [(0, 1), (1, 1), (2, 1), (3, 1), (4, 1)])) (h2 : chkPlan P c.sTag 2 [(0, 1), (1, 1)] = true) (h3 : zeroTy P c.sTree = some (.agg ⟨zeroTree⟩, 5)) (h4 : chkZero P c.tTree 5 = true) (h5 : chkZero P c.tTag 2 = true)
    (h6 : RowFacts P c.sTree 5) (h7 : RowFacts P c.sTag 2) : GotFacts P c := ⟨h1, plan_of h2, h3, zero_of h4, zero_of h5, h6, h7⟩

theorem RfFacts.of {S : Nat} (h1 : buildPlan P c.tRd = some ([.slice none 0 0, .bool false], [(0, 1), (1, 1)])) (h2 : zeroTy P c.tRd = some (.agg #[.slice none 0 0, .bool false], 2)) (h3 : (P.info? c.tRd).map (·.size) = some 2) (h4 : fieldOff P S 0 = some 0) (h5 : oneTy P c.tI16 = true) : RfFacts P c S :=
  ⟨⟨false, h1, rfl⟩, h2, h3, h4, h5⟩

def isIface : Option TypeDesc → Bool
  | some (.interface _) => true
  | _ => false

theorem iface_of {t : Nat} (h : isIface (P.underlying t) = true) : ∃ ms, P.underlying t = some (.interface ms) := by
  unfold isIface at h
  split at h
  · rename_i ms hm; exact ⟨ms, hm⟩
  · cases h
end Go.Kf
/- Reading hangs on no function's number. -/
namespace Go.Kf
open Go

mutual
def eraseS : Step → Step
  | .call pk _ i _ _ => .call pk 0 i 0 0
  | .uuid _ i _ => .uuid 0 i 0
  | .listP lk _ i _ _ pk _ _ => .listP lk 0 i 0 0 pk 0 0
  | .listS lk _ i _ _ _ _ _ dflt ss => .listS lk 0 i 0 0 0 0 0 dflt (eraseSs ss)
  | .sub i _ _ _ ds _ ss => .sub i 0 0 0 ds [] (eraseSs ss)
  | .strP pk _ i _ _ => .strP pk 0 i 0 0
def eraseSs : List Step → List Step
  | [] => []
  | s :: ss => eraseS s :: eraseSs ss
end

mutual
theorem runStep_erase : ∀ (s : Step) (fs : List FV) (r : Rd), runStep (eraseS s) fs r = runStep s fs r
  | .call .., _, _ => rfl
  | .uuid .., _, _ => rfl
  | .listP .., _, _ => rfl
  | .listS lk f i a b c d e dflt ss, fs, r => by
    have h : (fun r => runSteps (eraseSs ss) dflt r) = fun r => runSteps ss dflt r := funext fun r => runSteps_erase ss dflt r
    simp only [eraseS, runStep, h]
  | .sub i a b c ds l ss, fs, r => by
    simp only [eraseS, runStep, runSteps_erase ss]
  | .strP .., _, _ => rfl
theorem runSteps_erase : ∀ (ss : List Step) (fs : List FV) (r : Rd), runSteps (eraseSs ss) fs r = runSteps ss fs r
  | [], _, _ => rfl
  | s :: ss, fs, r => by
    simp only [eraseSs, runSteps, runStep_erase s]
    cases runStep s fs r with
    | none => rfl
    | some x => exact runSteps_erase ss x.1 x.2
end

theorem told_same {ss ss' : List Step} (h : eraseSs ss = eraseSs ss') (fs1 : List FV) (g : List FV → PT) (l : List UInt8) : toldOf ss fs1 g l = toldOf ss' fs1 g l := by
  unfold toldOf
  rw [← runSteps_erase ss, h, runSteps_erase]
end Go.Kf
/- A door at a version, from a message's parts. -/
namespace Go.Kf
open Go

theorem door_ver {P : Program} {c : Nums} {e : Fns} {fDoor fNew fSet fRead fRf fDef fTell S : Nat} {ds : List Dset} {ls : List Nat} {ss : List Step} {v : Int} {uns : Bool} {fs0 fs1 : List FV} {mid mid1 : List Value} {ts : List Ty} {gp : List FV → PT} (F : RdFacts P c) (O : OctFacts P c) (K : TellFacts P c)
    (Z : TyFacts P c c.tTree c.tTrees c.tTagL c.tTag) (A : RfFacts P c S) (hOk : hasRet ss = true → OkGives P e.ok) (hCo : CompGives P e.complete c.gErr) (herr : ∃ ms, P.underlying c.tErr = some (.interface ms)) (hN : NewOk P fNew (.int .i16 0 :: mid)) (hDef : DefSets P fDef ls ds) (hTell : TellOf P fTell ts gp)
    (hTd : treeIn P fDoor noOrc [.tmp 0, .tmp 1] 2 = tDoor c fNew fSet fRead fTell) (hTs : treeIn P fSet noOrc [.tmp 0, .tmp 1] 2 = tSetVersion c S) (hTw : treeIn P fRead noOrc [.tmp 0, .tmp 1] 2 = tWrap fRf uns)
    (hTr : treeIn P fRf (orcV 9 v) [.tmp 0, .tmp 1, .const (.bool uns)] 3 = gReadFrom c e S fDef v ss) (hok : StepsOk P c S ls ss) (hdeep : deepsOk ss = true) (hsh : shapesOk fs0 ds = true) (h0 : fs0.map FV.wd = ls) (h01 : applyD ds fs0 = fs1) (hidx : idxOk fs1 ss = true)
    (himm0 : immL fs0 = some (.int .i16 v :: mid)) (himm : immL fs1 = some mid1) (hv : fs1[0]? = some (.one (.int .i16 v))) (hl1 : fs1.map FV.wd = ls) (hty : tySteps ts ss = true) (htd : okImms fs1 ts = true) (hver : IntKind.i16.wrap v = v)
    {w : World} {l : List UInt8} {data e0 : Value} (hl : l.length ≤ 1073741824) (hd : DataIn w data l) (he : ErrAt w c.gErr e0) (he0 : ∃ d y, e0 = .iface d y) : Gives P fDoor [.int .i64 v, data] w fun u w' => DoorPost w w' u (toldOf ss fs1 gp l) ∧ Keeps [] w w' := by
  refine door_gives (x0 := .int .i16 0) (mid := mid) (e0 := e0) (out := fun l => toldOf ss fs1 gp l) F O K Z hTd herr he0 hver hN (fun w V hV => setVersion_gives F A.oneI16 A.ver hTs hV v) ?_ (by omega) hd he
  intro w V D src _ hV hr hn hb hD hVD he hgV
  exact rt_gives F A hOk hCo hTr hTw hDef hok hdeep hsh h0 h01 hidx himm0 himm hv hl1 hty htd hTell hV hr hn hb hD hVD he hgV (by omega)
end Go.Kf
/- Maps from numbers: their operations. -/
namespace Go.Kf
open Go

def MapIs (w : World) (b : Nat) (es : List MapEntry) (clock : Nat) : Prop := w.heap[b]? = some (.map ⟨es⟩ clock)

theorem MapIs.lt {w : World} {b clock : Nat} {es : List MapEntry} (h : MapIs w b es clock) : b < w.heap.size := (Array.getElem?_eq_some_iff.1 h).1

theorem MapIs.keep {M : List Nat} {w w' : World} {b clock : Nat} {es : List MapEntry} (h : MapIs w b es clock) (hk : Keeps M w w') (hm : b ∉ M) : MapIs w' b es clock := by
  have hl := h.lt
  unfold MapIs at *
  rw [hk.block b hl hm]; exact h

/-- An iterator. -/
def IterIs (w : World) (b mb since : Nat) (seen : List Nat) (last : Nat) : Prop := w.heap[b]? = some (.mapIter (some mb) since ⟨seen⟩ last)

theorem IterIs.lt {w : World} {b mb s l : Nat} {seen : List Nat} (h : IterIs w b mb s seen l) : b < w.heap.size := (Array.getElem?_eq_some_iff.1 h).1

theorem IterIs.keep {M : List Nat} {w w' : World} {b mb s l : Nat} {seen : List Nat} (h : IterIs w b mb s seen l) (hk : Keeps M w w') (hm : b ∉ M) : IterIs w' b mb s seen l := by
  have hl := h.lt
  unfold IterIs at *
  rw [hk.block b hl hm]; exact h

theorem keeps_put (w : World) (b : Nat) (o : Obj) : Keeps [b] w { w with heap := w.heap.setIfInBounds b o } :=
  ⟨rfl, rfl, rfl, by simp, fun k hk hm => by
    simp only [List.mem_singleton] at hm
    rw [Array.getElem?_setIfInBounds, if_neg (fun e => hm e.symm)]⟩

theorem put_at {w : World} {b : Nat} (o : Obj) (h : b < w.heap.size) : (w.heap.setIfInBounds b o)[b]? = some o := by
  simp [h]

section
variable {P : Program} {ρ : Nat → Value} {w : World}

theorem a_makeMap {t : Nat} : ∃ w', runOp P ρ (.makeMap t none) w = .ok (.value (.map (some w.heap.size))) w' ∧ MapIs w' w.heap.size [] 0 ∧ Keeps [] w w' ∧ w'.heap.size = w.heap.size + 1 := by
  refine ⟨{ w with heap := w.heap.push (.map #[] 0) }, ?_, ?_, keeps_alloc w _ _, by simp⟩
  · unfold runOp bareOp
    simp only [execOp, Instr.makeMap, Option.map_none, Sem.run_bind, Sem.run_pure, Result.andThen_ok, run_newObj]
  · unfold MapIs
    simp

/-- A key's entry. -/
def keyIs (n : Int) (e : MapEntry) : Bool := match e.key with
  | .int _ m => n == m
  | _ => false

/-- An update, of the entries. -/
def esSet : List MapEntry → Int → Value → Nat → List MapEntry
  | [], n, v, clock => [{ key := .int .u32 n, val := v, born := clock }]
  | e :: es, n, v, clock => if keyIs n e then { e with key := .int .u32 n, val := v } :: es else e :: esSet es n v clock

def esHas (es : List MapEntry) (n : Int) : Bool := es.any (keyIs n)

def Keys32 (es : List MapEntry) : Prop := ∀ e ∈ es, ∃ m, e.key = .int .u32 m

theorem findNow_spec {k : Int} : ∀ (es : List MapEntry) (i : Nat), Keys32 es → (esHas es k = false ∧ Instr.findNow (.int .u32) (.int .u32 k) es i = some none) ∨
    ∃ j e, es[j]? = some e ∧ keyIs k e = true ∧ (∀ j' e', j' < j → es[j']? = some e' → keyIs k e' = false) ∧ Instr.findNow (.int .u32) (.int .u32 k) es i = some (some (i + j, e.val))
  | [], i, _ => .inl ⟨rfl, rfl⟩
  | e :: es, i, h => by
    obtain ⟨m, hm⟩ := h e List.mem_cons_self
    by_cases hkm : k = m
    · refine .inr ⟨0, e, rfl, by simp [keyIs, hm, hkm], fun j' e' hj => by omega, ?_⟩
      simp [Instr.findNow, Instr.sameNow, hm, hkm]
    · have hf : keyIs k e = false := by simp [keyIs, hm, hkm]
      have hstep : Instr.findNow (.int .u32) (.int .u32 k) (e :: es) i = Instr.findNow (.int .u32) (.int .u32 k) es (i + 1) := by
        have hb : (k == m) = false := by simpa using hkm
        simp [Instr.findNow, Instr.sameNow, hm, hb]
      rcases findNow_spec es (i + 1) (fun x hx => h x (List.mem_cons_of_mem _ hx)) with ⟨h1, h2⟩ | ⟨j, e', h1, h2, h3, h4⟩
      · refine .inl ⟨by simp [esHas, hf] at h1 ⊢; exact h1, by rw [hstep, h2]⟩
      · refine .inr ⟨j + 1, e', by simpa using h1, h2, fun j' e'' hj he => ?_, by rw [hstep, h4]; congr 3; omega⟩
        cases j' with
        | zero => simp only [List.getElem?_cons_zero, Option.some.injEq] at he; rw [← he]; exact hf
        | succ j' => exact h3 j' e'' (by omega) (by simpa using he)

theorem esSet_push {n : Int} {v : Value} {clock : Nat} : ∀ {es : List MapEntry}, esHas es n = false → esSet es n v clock = es ++ [{ key := .int .u32 n, val := v, born := clock }]
  | [], _ => rfl
  | e :: es, h => by
    simp only [esHas, List.any_cons, Bool.or_eq_false_iff] at h
    simp only [esSet, h.1, Bool.false_eq_true, if_false, List.cons_append]
    rw [esSet_push h.2]

theorem esSet_modify {n : Int} {v : Value} {clock : Nat} : ∀ {es : List MapEntry} {j : Nat} {e : MapEntry}, es[j]? = some e → keyIs n e = true → (∀ j' e', j' < j → es[j']? = some e' → keyIs n e' = false) →
    esSet es n v clock = es.modify j fun e => { e with key := .int .u32 n, val := v }
  | [], j, e, h, _, _ => by simp at h
  | x :: es, 0, e, h, hk, _ => by
    simp only [List.getElem?_cons_zero, Option.some.injEq] at h
    subst h
    simp [esSet, hk]
  | x :: es, j + 1, e, h, hk, hb => by
    have hx := hb 0 x (by omega) rfl
    simp only [esSet, hx, Bool.false_eq_true, if_false, List.modify_succ_cons]
    rw [esSet_modify (by simpa using h) hk fun j' e' hj he => hb (j' + 1) e' (by omega) (by simpa using he)]

theorem run_checkKey {kt : Nat} {k : Int} {b : Bool} (hk : P.underlying kt = some (.int .u32)) : (Instr.checkKey b 10000 kt (.int .u32 k)).run P w = .ok () w := by
  unfold Instr.checkKey
  simp [run_under hk]

theorem a_mapUpdate {t kt et b clock : Nat} {m k x : Operand} {es : List MapEntry} {n : Int} {v : Value} (ht : P.underlying t = some (.map kt et)) (hk : P.underlying kt = some (.int .u32)) (hm : ev ρ m = .map (some b)) (hkey : ev ρ k = .int .u32 n) (hv : ev ρ x = v)
    (hb : MapIs w b es clock) (h32 : Keys32 es) : ∃ w', runOp P ρ (.mapUpdate t m k x) w = .ok .skip w' ∧ MapIs w' b (esSet es n v clock) (if esHas es n then clock else clock + 1) ∧ Keeps [b] w w' := by
  have hbs := hb.lt
  have hg : (getObj b).run P w = .ok (.map ⟨es⟩ clock) w := MapKept.run_getObj_map hb
  rcases findNow_spec (k := n) es 0 h32 with ⟨h1, h2⟩ | ⟨j, e, h1, h2, h3, h4⟩
  · refine ⟨{ w with heap := w.heap.setIfInBounds b (.map ⟨esSet es n v clock⟩ (clock + 1)) }, ?_, ?_, keeps_put _ _ _⟩
    · unfold runOp bareOp
      simp only [execOp, Instr.mapUpdate, hm, hkey, hv, Sem.run_bind, run_under ht, Result.andThen_ok, hg, run_checkKey hk, Instr.findKey, run_under hk, h2, Sem.run_pure, MapKept.run_setObj_map _ hb]
      rw [esSet_push h1]
      simp
    · unfold MapIs
      rw [h1]
      exact put_at _ hbs
  · have hhas : esHas es n = true := List.any_eq_true.2 ⟨e, List.mem_of_getElem? h1, h2⟩
    refine ⟨{ w with heap := w.heap.setIfInBounds b (.map ⟨esSet es n v clock⟩ clock) }, ?_, ?_, keeps_put _ _ _⟩
    · obtain ⟨m', hm'⟩ := h32 e (List.mem_of_getElem? h1)
      have hmn : m' = n := by simp [keyIs, hm'] at h2; exact h2.symm
      subst hmn
      have hstay : ∀ w, (Instr.keyThatStays (.int .u32 m') (.int .u32 m')).run P w = .ok (.int .u32 m') w := fun w => by
        simp [Instr.keyThatStays, Instr.sameBits]
      have hold : ((((⟨es⟩ : Array MapEntry)[0 + j]?).map (·.key)).getD (.int .u32 m')) = .int .u32 m' := by
        rw [Nat.zero_add, List.getElem?_toArray, h1]; exact hm'
      unfold runOp bareOp
      simp only [execOp, Instr.mapUpdate, hm, hkey, hv, Sem.run_bind, run_under ht, Result.andThen_ok, hg, run_checkKey hk, Instr.findKey, run_under hk, h4, Sem.run_pure, hold, hstay, MapKept.run_setObj_map _ hb]
      rw [esSet_modify h1 h2 h3]
      simp
    · unfold MapIs
      rw [hhas]
      exact put_at _ hbs

theorem l_lookup {t kt et b clock j : Nat} {m k : Operand} {es : List MapEntry} {n : Int} {e : MapEntry} (ht : P.underlying t = some (.map kt et)) (hk : P.underlying kt = some (.int .u32)) (hm : ev ρ m = .map (some b)) (hkey : ev ρ k = .int .u32 n)
    (hb : MapIs w b es clock) (h32 : Keys32 es) (hj : es[j]? = some e) (hje : keyIs n e = true) (hjb : ∀ j' e', j' < j → es[j']? = some e' → keyIs n e' = false) : runOp P ρ (.lookup t m k false) w = .ok (.value e.val) w := by
  have hg : (getObj b).run P w = .ok (.map ⟨es⟩ clock) w := MapKept.run_getObj_map hb
  rcases findNow_spec (k := n) es 0 h32 with ⟨h1, h2⟩ | ⟨j', e', h1, h2, h3, h4⟩
  · have : esHas es n = true := List.any_eq_true.2 ⟨e, List.mem_of_getElem? hj, hje⟩
    rw [this] at h1; cases h1
  · have hjj : j' = j := by
      rcases Nat.lt_trichotomy j' j with h | h | h
      · have := hjb j' e' h h1; rw [h2] at this; cases this
      · exact h
      · have := h3 j e h hj; rw [hje] at this; cases this
    subst hjj
    obtain rfl : e' = e := by rw [hj] at h1; simpa using h1.symm
    unfold runOp bareOp
    simp only [execOp, Instr.lookup, hm, hkey, Sem.run_bind, run_under ht, Result.andThen_ok, hg, Sem.run_pure, run_checkKey hk, Instr.findKey, run_under hk, h4]
    simp

theorem l_lenMap {t kt et b clock : Nat} {x : Operand} {es : List MapEntry} (ht : P.underlying t = some (.map kt et)) (hx : ev ρ x = .map (some b)) (hb : MapIs w b es clock) : runOp P ρ (.call { callee := .builtin .len, args := ⟨[x]⟩, argTypes := ⟨[t]⟩ }) w = .ok (.value (.int .i64 es.length)) w := by
  have hg : (getObj b).run P w = .ok (.map ⟨es⟩ clock) w := MapKept.run_getObj_map hb
  unfold runOp bareOp
  simp only [execOp, resolve, pure_bind, invoke, builtin, Builtin.len_]
  simp [run_under ht, hx, goInt, hg]

theorem v_lenNilMap {t kt et : Nat} {x : Operand} (ht : P.underlying t = some (.map kt et)) (hx : ev ρ x = .map none) : Val P ρ (.call { callee := .builtin .len, args := ⟨[x]⟩, argTypes := ⟨[t]⟩ }) (.int .i64 0) := fun w => by
  unfold runOp bareOp
  simp only [execOp, resolve, pure_bind, invoke, builtin, Builtin.len_]
  simp [run_under ht, hx, goInt]

theorem a_range {t kt et b clock : Nat} {x : Operand} {es : List MapEntry} (ht : P.underlying t = some (.map kt et)) (hx : ev ρ x = .map (some b)) (hb : MapIs w b es clock) :
    ∃ w', runOp P ρ (.range t x) w = .ok (.value (ptr w.heap.size)) w' ∧ IterIs w' w.heap.size b clock [] clock ∧ Keeps [] w w' ∧ w'.heap.size = w.heap.size + 1 := by
  have hg : (getObj b).run P w = .ok (.map ⟨es⟩ clock) w := MapKept.run_getObj_map hb
  refine ⟨{ w with heap := w.heap.push (.mapIter (some b) clock #[] clock) }, ?_, ?_, keeps_alloc w _ _, by simp⟩
  · unfold runOp bareOp
    simp only [execOp, Instr.range, hx, Sem.run_bind, run_under ht, Result.andThen_ok, hg, Sem.run_pure, run_newObj]
    rfl
  · unfold IterIs
    simp

/-- A step of an iterator: none is left, or one of those that are left. -/
theorem a_next {b mb clock : Nat} {x : Operand} {es : List MapEntry} {seen : List Nat} (hx : ev ρ x = ptr b) (hi : IterIs w b mb clock seen clock) (hm : MapIs w mb es clock) (hborn : ∀ e ∈ es, e.born < clock) :
    ((∀ e ∈ es, e.born ∈ seen) ∧ ∃ w', runOp P ρ (.next x false) w = .ok (.value (.tuple #[.bool false])) w' ∧ Keeps [] w w') ∨
    ∃ e ∈ es, e.born ∉ seen ∧ ∃ w', runOp P ρ (.next x false) w = .ok (.value (.tuple #[.bool true, e.key, e.val])) w' ∧ IterIs w' b mb clock (seen ++ [e.born]) clock ∧ Keeps [b] w w' := by
  have hgi : (getObj b).run P w = .ok (.mapIter (some mb) clock ⟨seen⟩ clock) w := by
    unfold IterIs at hi
    simp [getObj, Sem.run, hi]
  have hgm : (getObj mb).run P w = .ok (.map ⟨es⟩ clock) w := MapKept.run_getObj_map hm
  have hall : (!(⟨seen⟩ : Array Nat).isEmpty && !(⟨es⟩ : Array MapEntry).isEmpty && (⟨es⟩ : Array MapEntry).all (fun e => decide (e.born ≥ clock))) = false := by
    cases es with
    | nil => simp
    | cons e es =>
      have h1 := hborn e List.mem_cons_self
      have : ¬ (clock ≤ e.born) := by omega
      simp [this]
  generalize hleft : ((⟨es⟩ : Array MapEntry).filter fun e => !(⟨seen⟩ : Array Nat).contains e.born) = left at *
  have hl1 : ∀ e, e ∈ left ↔ e ∈ es ∧ e.born ∉ seen := by
    intro e
    rw [← hleft]
    simp
  have hold : left.filter (fun e => decide (e.born < clock)) = left := by
    apply Array.ext'
    rw [Array.toList_filter, List.filter_eq_self]
    intro e he
    have := ((hl1 e).1 (by simpa using he)).1
    simpa using hborn e this
  have hnew : left.filter (fun e => decide (e.born ≥ clock)) = #[] := by
    apply Array.ext'
    rw [Array.toList_filter, List.filter_eq_nil_iff]
    intro e he
    have := ((hl1 e).1 (by simpa using he)).1
    have := hborn e this
    simp; omega
  obtain ⟨i, w1, hc, hlt, k1, hheap⟩ : ∃ i w1, (choose (.mapNext ((if left.isEmpty then #[none] else #[]) ++ (left ++ #[]).map some : Array (Option MapEntry)).size)).run P w = .ok i w1 ∧ i < ((if left.isEmpty then #[none] else #[]) ++ (left ++ #[]).map some : Array (Option MapEntry)).size ∧ Keeps [] w w1 ∧ w1.heap = w.heap := by
    have hpos : 0 < ((if left.isEmpty then #[none] else #[]) ++ (left ++ #[]).map some : Array (Option MapEntry)).size := by
      cases hle : left.isEmpty with
      | true => simp; omega
      | false =>
        have : left.size ≠ 0 := by
          intro h0
          rw [Array.isEmpty_eq_false_iff] at hle
          exact hle (Array.eq_empty_of_size_eq_zero h0)
        simp; omega
    generalize ((if left.isEmpty then #[none] else #[]) ++ (left ++ #[]).map some : Array (Option MapEntry)).size = N at *
    rw [run_choose_drew]
    by_cases hf : (Question.mapNext N).forced = true
    · rw [if_pos hf]; exact ⟨0, w, rfl, hpos, .refl, rfl⟩
    · rw [if_neg hf]; exact ⟨_, w.drew, rfl, Nat.mod_lt _ hpos, keeps_drawn _ _ _, rfl⟩
  have hi1 : w1.heap[b]? = some (.mapIter (some mb) clock ⟨seen⟩ clock) := by rw [hheap]; exact hi
  have hset : ∀ o, (setObj b o).run P w1 = .ok () { w1 with heap := w1.heap.setIfInBounds b o } := fun o => by simp [setObj, Sem.run, hi1]
  by_cases hle : left.isEmpty = true
  · left
    have hnil : left = #[] := by simpa using hle
    refine ⟨fun e he => ?_, w1, ?_, k1⟩
    · by_cases hs : e.born ∈ seen
      · exact hs
      · have := (hl1 e).2 ⟨he, hs⟩
        rw [hnil] at this
        simp at this
    · rw [hle] at hc hlt
      rw [hnil] at hc hlt
      simp only [if_true, Array.append_empty, Array.map_empty] at hc hlt
      have h0 : i = 0 := by simp at hlt; omega
      subst h0
      unfold runOp bareOp
      simp only [execOp, Instr.next, hx, ptr, Sem.run_bind, Result.andThen_ok, hgi, hgm, hall, Bool.false_eq_true, if_false, hleft, hold, hnew, hle, if_true]
      rw [hnil]
      simp only [Array.append_empty, Array.map_empty, hc, Result.andThen_ok]
      simp
  · right
    have hf : left.isEmpty = false := by simpa using hle
    rw [hf] at hc hlt
    simp only [Bool.false_eq_true, if_false, Array.append_empty, Array.empty_append, Array.size_map] at hc hlt
    have hmem : left[i] ∈ left := Array.getElem_mem _
    refine ⟨left[i], ((hl1 _).1 hmem).1, ((hl1 _).1 hmem).2, { w1 with heap := w1.heap.setIfInBounds b (.mapIter (some mb) clock ((⟨seen⟩ : Array Nat).push left[i].born) clock) }, ?_, ?_, (k1.mono (by simp)).trans (keeps_put _ _ _)⟩
    · unfold runOp bareOp
      simp only [execOp, Instr.next, hx, ptr, Sem.run_bind, Result.andThen_ok, hgi, hgm, hall, Bool.false_eq_true, if_false, hleft, hold, hnew, hf, Array.append_empty, Array.empty_append, Array.size_map, hc]
      have hget : (left.map some)[i]? = some (some left[i]) := by simp [hlt]
      rw [hget]
      simp only [Sem.run_bind, hset, Result.andThen_ok, Sem.run_pure]
    · unfold IterIs
      rw [put_at _ (Array.getElem?_eq_some_iff.1 hi1).1]
      simp

/-- The entry behind a step. -/
theorem l_entry {b mb clock : Nat} {x : Operand} {es : List MapEntry} {seen : List Nat} {e : MapEntry} (hx : ev ρ x = ptr b) (hi : IterIs w b mb clock (seen ++ [e.born]) clock) (hm : MapIs w mb es clock) (he : e ∈ es) (hp : es.Pairwise (fun a b => a.born < b.born)) :
    runOp P ρ (.entry x) w = .ok (.value (.tuple #[e.key, e.val])) w := by
  have hgi : (getObj b).run P w = .ok (.mapIter (some mb) clock ⟨seen ++ [e.born]⟩ clock) w := by
    unfold IterIs at hi
    simp [getObj, Sem.run, hi]
  have hgm : (getObj mb).run P w = .ok (.map ⟨es⟩ clock) w := MapKept.run_getObj_map hm
  have hfind : (⟨es⟩ : Array MapEntry).find? (fun x => x.born == e.born) = some e := by
    show es.toArray.find? _ = _
    rw [List.find?_toArray]
    have : ∀ (es : List MapEntry), e ∈ es → es.Pairwise (fun a b => a.born < b.born) → es.find? (fun x => x.born == e.born) = some e := by
      intro es
      induction es with
      | nil => intro h; cases h
      | cons a es ih =>
        intro h hp
        rcases List.mem_cons.1 h with h1 | h1
        · rw [← h1]; simp
        · have hlt := (List.pairwise_cons.1 hp).1 e h1
          rw [List.find?_cons_of_neg (by simp; omega)]
          exact ih h1 (List.pairwise_cons.1 hp).2
    exact this es he hp
  have hback : (⟨seen ++ [e.born]⟩ : Array Nat).back? = some e.born := by
    show (seen ++ [e.born]).toArray.back? = _
    simp
  unfold runOp bareOp
  simp only [execOp, Instr.entry, hx, ptr, Sem.run_bind, Result.andThen_ok, hgi, hgm, hback, hfind, bne_self_eq_false, Bool.false_eq_true, if_false, Sem.run_pure]
end
end Go.Kf
/- Unknown tags: how they are set and read. -/
namespace Go.Kf
open Go

/-- The types' facts that tags ask. -/
structure TagFacts (P : Program) (c : Nums) : Prop where
  f0 : fieldOff P c.tTags 0 = some 0
  map : P.underlying c.tMap = some (.map c.tU32 c.tBytes)
  oneMap : oneTy P c.tMap = true
  agg : aggTy P c.tTags = some 1
  zero : zeroTy P c.tTags = some (.agg ⟨[.map none]⟩, 1)
  keys : P.underlying c.tKeys = some (.slice c.tU32)
  oneKeys : oneTy P c.tKeys = true
  zeroKeys : zeroTy P c.tKeys = some (.slice none 0 0, 1)
  oneU32 : oneTy P c.tU32 = true
  zeroU32 : chkInfo P c.tU32 1 8 = true

theorem EntsAt.any {D : Nat} {w w' : World} {M : List Nat} {es : List MapEntry} {m : TM} (h : ∀ L, EntsAt D w L es m) (hk : Keeps M w w') (hD : D ∉ M) : ∀ L, EntsAt D w' L es m := by
  intro L
  have hb : ∃ B, ∀ b ∈ M, b < B := by
    clear hD hk
    induction M with
    | nil => exact ⟨0, fun b hb => by cases hb⟩
    | cons x M ih =>
      obtain ⟨B, hB⟩ := ih
      exact ⟨B + x + 1, fun b hb => by
        rcases List.mem_cons.1 hb with h | h
        · omega
        · have := hB b h; omega⟩
  obtain ⟨B, hB⟩ := hb
  exact EntsAt.imp (fun e p ⟨he, nl, ho⟩ => ⟨he, nl, (ho.keep hk (fun b hb => ⟨fun e => hD (by rw [← e]; exact hb), by have := hB b hb; omega⟩)).mono (Nat.le_add_right L B)⟩) (h (L + B))

/-- Tags whose octets lie in block D alone, in a map from h0 on. -/
def TagsZ (D : Nat) (w : World) (h0 : Nat) (m : TM) (v : Value) : Prop :=
  (v = .map none ∧ m = []) ∨ ∃ b es clock, h0 ≤ b ∧ v = .map (some b) ∧ MapIs w b es clock ∧ (∀ L, EntsAt D w L es m) ∧ es.Pairwise (fun a b => a.born < b.born) ∧ (∀ e ∈ es, e.born < clock) ∧
    (∀ p ∈ m, p.1 < 2 ^ 32) ∧ (m.map (·.1)).Nodup ∧ m ≠ []

theorem TagsZ.at {D h0 lo : Nat} {w : World} {m : TM} {v : Value} (h : TagsZ D w h0 m v) (hl : lo ≤ h0) : TagsAt D w lo m v := by
  rcases h with h | ⟨b, es, clock, hb, hv, hm, he, r⟩
  · exact .inl h
  · exact .inr ⟨b, ⟨es⟩, clock, by omega, hv, hm, he lo, r⟩

theorem TagsZ.keep {D h0 : Nat} {w w' : World} {m : TM} {v : Value} {M : List Nat} (h : TagsZ D w h0 m v) (hk : Keeps M w w') (hD : D ∉ M) (hm : ∀ b ∈ M, b < h0) : TagsZ D w' h0 m v := by
  rcases h with h | ⟨b, es, clock, hb, hv, hmm, he, r⟩
  · exact .inl h
  · exact .inr ⟨b, es, clock, hb, hv, hmm.keep hk (fun hb' => by have := hm b hb'; omega), EntsAt.any he hk hD, r⟩

theorem EntsAt.keys {D L : Nat} {w : World} : ∀ {es : List MapEntry} {m : TM}, EntsAt D w L es m → Keys32 es
  | [], [], _ => fun e h => by cases h
  | e :: es, p :: m, ⟨h1, h2⟩ => fun x hx => by
    rcases List.mem_cons.1 hx with h | h
    · rw [h]; exact ⟨_, h1.1⟩
    · exact EntsAt.keys h2 x h
  | [], _ :: _, h => h.elim
  | _ :: _, [], h => h.elim

theorem EntAt.is {D L : Nat} {w : World} {e : MapEntry} {p : Nat × List UInt8} (h : EntAt D w L e p) (k : Nat) : keyIs k e = decide (p.1 = k) := by
  simp only [keyIs, h.1]
  by_cases hk : p.1 = k
  · simp [hk]
  · have : ((k : Int) == (p.1 : Int)) = false := by simp; omega
    simp [hk, this]

theorem EntsAt.set {D L k clock : Nat} {w : World} {l : List UInt8} {v : Value} (hv : ∃ nl, OctAt w D L nl l v) : ∀ {es : List MapEntry} {m : TM}, EntsAt D w L es m → EntsAt D w L (esSet es k v clock) (tmSet m k l)
  | [], [], _ => ⟨⟨rfl, hv⟩, trivial⟩
  | e :: es, p :: m, ⟨h1, h2⟩ => by
    simp only [esSet, tmSet, h1.is k, decide_eq_true_eq]
    split
    · exact ⟨⟨rfl, hv⟩, h2⟩
    · exact ⟨h1, EntsAt.set hv h2⟩
  | [], _ :: _, h => h.elim
  | _ :: _, [], h => h.elim

theorem esSet_born {n : Int} {v : Value} {clock : Nat} : ∀ (es : List MapEntry), (esSet es n v clock).map (·.born) = if esHas es n then es.map (·.born) else es.map (·.born) ++ [clock]
  | [] => rfl
  | e :: es => by
    have ih := esSet_born (n := n) (v := v) (clock := clock) es
    by_cases hk : keyIs n e = true
    · have hh : esHas (e :: es) n = true := by simp [esHas, hk]
      rw [if_pos hh]
      simp [esSet, hk]
    · have hk' : keyIs n e = false := by simpa using hk
      have hh : esHas (e :: es) n = esHas es n := by simp [esHas, hk']
      rw [hh]
      simp only [esSet, hk', Bool.false_eq_true, if_false, List.map_cons, ih]
      split <;> simp

theorem born_pair {es : List MapEntry} : es.Pairwise (fun a b => a.born < b.born) ↔ (es.map (·.born)).Pairwise (· < ·) := by
  rw [List.pairwise_map]

theorem esSet_ok {n : Int} {v : Value} {clock : Nat} {es : List MapEntry} (hp : es.Pairwise (fun a b => a.born < b.born)) (hb : ∀ e ∈ es, e.born < clock) :
    (esSet es n v clock).Pairwise (fun a b => a.born < b.born) ∧ ∀ e ∈ esSet es n v clock, e.born < (if esHas es n then clock else clock + 1) := by
  have h := esSet_born (n := n) (v := v) (clock := clock) es
  refine ⟨?_, fun e he => ?_⟩
  · rw [born_pair, h]
    rw [born_pair] at hp
    split
    · exact hp
    · rw [List.pairwise_append]
      refine ⟨hp, by simp, fun a ha b hb' => ?_⟩
      obtain ⟨e, he, rfl⟩ := List.mem_map.1 ha
      simp only [List.mem_singleton] at hb'
      subst hb'
      exact hb e he
  · have hm : e.born ∈ (esSet es n v clock).map (·.born) := List.mem_map_of_mem he
    rw [h] at hm
    split
    · rename_i hh
      rw [if_pos hh] at hm
      obtain ⟨e', he', h1⟩ := List.mem_map.1 hm
      rw [← h1]; exact hb e' he'
    · rename_i hh
      rw [if_neg hh] at hm
      rcases List.mem_append.1 hm with h1 | h1
      · obtain ⟨e', he', h2⟩ := List.mem_map.1 h1
        have := hb e' he'; omega
      · simp only [List.mem_singleton] at h1; omega

theorem tmSet_keys : ∀ (m : TM) (k : Nat) (l : List UInt8), (tmSet m k l).map (·.1) = if k ∈ m.map (·.1) then m.map (·.1) else m.map (·.1) ++ [k]
  | [], k, l => rfl
  | p :: m, k, l => by
    by_cases hp : p.1 = k
    · simp [tmSet, hp]
    · have := tmSet_keys m k l
      have hpk : ¬ k = p.1 := fun e => hp e.symm
      simp only [tmSet, if_neg hp, List.map_cons, this, List.mem_cons, hpk, false_or]
      split <;> simp

theorem tmSet_nodup {m : TM} {k : Nat} {l : List UInt8} (h : (m.map (·.1)).Nodup) : ((tmSet m k l).map (·.1)).Nodup := by
  rw [tmSet_keys]
  split
  · exact h
  · rename_i hn
    rw [List.nodup_append]
    refine ⟨h, by simp, fun a ha b hb => ?_⟩
    simp only [List.mem_singleton] at hb
    subst hb
    exact fun e => hn (e ▸ ha)

theorem tmSet_lt {m : TM} {k : Nat} {l : List UInt8} (h : ∀ p ∈ m, p.1 < 2 ^ 32) (hk : k < 2 ^ 32) : ∀ p ∈ tmSet m k l, p.1 < 2 ^ 32 := fun p hp => by
  rcases tmSet_mem _ _ _ _ hp with h1 | h1
  · exact h p h1
  · rw [h1]; exact hk

theorem tmSet_ne (m : TM) (k : Nat) (l : List UInt8) : tmSet m k l ≠ [] := by
  cases m with
  | nil => simp [tmSet]
  | cons p m => simp only [tmSet]; split <;> simp

section
variable {P : Program} {c : Nums}

def tTagSet (c : Nums) : Tr :=
  gGet (.tmp 0) c.tTags 0 c.tMap 3 <| .op (.binOp .eql c.tMap (.tmp 5) (.const (.map none)) c.tMap) none [] <|
  .join 0 (.cond (.tmp 6) (.op (.makeMap c.tMap none) none [] <| gSet (.tmp 0) c.tTags 0 c.tMap (.tmp 7) 8 <| .to 0 []) (.to 0 [])) 0 <|
  gGet (.tmp 0) c.tTags 0 c.tMap 7 <| .op (.mapUpdate c.tMap (.tmp 9) (.tmp 1) (.tmp 2)) none [] <| .ret []

def TagSet (P : Program) (f : Nat) : Prop := ∀ (D h0 tb k : Nat) (w : World) (m : TM) (mv v : Value) (nl : Bool) (l : List UInt8), Has w tb [mv] → TagsZ D w h0 m mv → tb ≠ D → tb < h0 → D < h0 → h0 ≤ w.heap.size → k < 2 ^ 32 → (∀ L, OctAt w D L nl l v) →
  Gives P f [ptr tb, .int .u32 k, v] w fun _ w' => ∃ mv', Has w' tb [mv'] ∧ TagsZ D w' h0 (tmSet m k l) mv' ∧ ∃ M, Keeps M w w' ∧ ∀ b ∈ M, b = tb ∨ h0 ≤ b

theorem OctAt.any {D : Nat} {w w' : World} {M : List Nat} {nl : Bool} {l : List UInt8} {v : Value} (h : ∀ L, OctAt w D L nl l v) (hk : Keeps M w w') (hD : D ∉ M) : ∀ L, OctAt w' D L nl l v := by
  intro L
  have h1 := h L
  refine ⟨h1.1.keep hk (fun b hb hbM => ?_), h1.2.1, h1.2.2⟩
  rcases (h (b + 1)).2.2 b hb with e | e
  · exact hD (e ▸ hbM)
  · omega

theorem tagSet_gives {f : Nat} (F : RdFacts P c) (T : TagFacts P c) (hT : treeIn P f noOrc [.tmp 0, .tmp 1, .tmp 2] 3 = tTagSet c) : TagSet P f := by
  intro D h0 tb k w m mv v nl l hh hz htD htb hD hsz hk ho
  refine gives_in (ρ := en [ptr tb, .int .u32 k, v]) F.mix hT (Nat.le_refl _) rfl (by simp [opBelow]) ?_
  -- the rest, once a map lies there
  have rest : ∀ (w1 : World) (ρ : Nat → Value) (Γ : List (List Value → World → Prop)) (b : Nat) (es : List MapEntry) (clock : Nat) (M : List Nat), ρ 0 = ptr tb → ρ 1 = .int .u32 k → ρ 2 = v → Has w1 tb [.map (some b)] → h0 ≤ b → MapIs w1 b es clock → (∀ L, EntsAt D w1 L es m) → es.Pairwise (fun a b => a.born < b.born) → (∀ e ∈ es, e.born < clock) →
      (∀ p ∈ m, p.1 < 2 ^ 32) → (m.map (·.1)).Nodup → (∀ L, OctAt w1 D L nl l v) → Keeps M w w1 → (∀ b ∈ M, b = tb ∨ h0 ≤ b) →
      (gGet (.tmp 0) c.tTags 0 c.tMap 7 <| .op (.mapUpdate c.tMap (.tmp 9) (.tmp 1) (.tmp 2)) none [] <| .ret []).sem P (fun _ w' => ∃ mv', Has w' tb [mv'] ∧ TagsZ D w' h0 (tmSet m k l) mv' ∧ ∃ M, Keeps M w w' ∧ ∀ b ∈ M, b = tb ∨ h0 ≤ b) Γ 7 ρ w1 := by
    intro w1 ρ Γ b es clock M r0 r1 r2 hh1 hb hm he hp hborn h32 hnd ho1 k1 hM
    refine s_get T.f0 T.oneMap (show ev ρ (.tmp 0) = ptr tb from r0) hh1 (by rfl) ?_
    obtain ⟨w2, e2, hm2, k2⟩ := a_mapUpdate (P := P) (ρ := ext ρ 7 [ptr tb, ptr tb (0 + 0), .map (some b)]) (w := w1) (t := c.tMap) (m := .tmp 9) (k := .tmp 1) (x := .tmp 2) (n := (k : Int)) (v := v) T.map F.u32 rfl (by show ext ρ 7 _ 1 = _; rw [ext_lt (by omega)]; exact r1) (by show ext ρ 7 _ 2 = _; rw [ext_lt (by omega)]; exact r2) hm (he 0).keys
    have hDb : D ∉ [b] := by simp only [List.mem_singleton]; omega
    refine s_unit e2 (fun p hp => (by cases hp)) (s_ret0 ⟨.map (some b), hh1.keep k2 (by simp only [List.mem_singleton]; omega), .inr ⟨b, _, _, hb, rfl, hm2, ?_, (esSet_ok hp hborn).1, (esSet_ok hp hborn).2, tmSet_lt h32 hk, tmSet_nodup hnd, tmSet_ne _ _ _⟩, M ++ [b], (k1.mono fun x hx => List.mem_append_left _ hx).trans (k2.mono fun x hx => List.mem_append_right _ hx), fun x hx => ?_⟩)
    · intro L
      exact (EntsAt.any he k2 hDb L).set ⟨nl, OctAt.any ho1 k2 hDb L⟩
    · rcases List.mem_append.1 hx with h | h
      · exact hM x h
      · simp only [List.mem_singleton] at h
        subst h
        exact .inr hb
  refine s_get T.f0 T.oneMap (show ev _ (.tmp 0) = ptr tb from rfl) hh (by rfl) ?_
  rcases hz with ⟨rfl, rfl⟩ | ⟨b, es, clock, hb, rfl, hm, he, hp, hborn, h32, hnd, hne⟩
  · refine s_val (v_eqlMap (op := .eql) (a := none) (r := true) T.map rfl rfl (.inl ⟨rfl, rfl⟩)) ?_
    refine ⟨rfl, fun _ w' => ∃ b, Has w' tb [.map (some b)] ∧ h0 ≤ b ∧ MapIs w' b [] 0 ∧ Keeps [tb] w w', ?_, ?_⟩
    · refine s_cond (b := true) rfl (fun _ => ?_) (fun h => by cases h)
      obtain ⟨w1, e1, hm1, k1, z1⟩ := a_makeMap (P := P) (ρ := ext (ext (en [ptr tb, .int .u32 k, v]) 3 [ptr tb, ptr tb (0 + 0), .map none]) 6 [.bool true]) (w := w) (t := c.tMap)
      refine s_act e1 (fun p hp => (by cases hp)) ?_
      refine s_set (n := 8) (v := .map (some w.heap.size)) T.f0 T.oneMap rfl rfl (by simp [opBelow]) rfl (hh.keep k1 (by simp)) (by simp) fun w2 h2 k2 => ?_
      refine ⟨_, rfl, w.heap.size, h2, hsz, hm1.keep k2 (by simp only [List.mem_singleton]; omega), (k1.mono (by simp)).trans k2⟩
    · rintro vs w1 hvs ⟨b, h1, hb, hm1, k1⟩
      obtain rfl : vs = [] := List.eq_nil_of_length_eq_zero hvs
      exact rest w1 _ _ b [] 0 [tb] rfl rfl rfl h1 hb hm1 (fun _ => trivial) List.Pairwise.nil (fun e he => by cases he) (fun p hp => by cases hp) List.nodup_nil (OctAt.any ho k1 (by simp only [List.mem_singleton]; omega)) k1 (fun x hx => .inl (by simpa using hx))
  · refine s_val (v_eqlMap (op := .eql) (a := some b) (r := false) T.map rfl rfl (.inl ⟨rfl, rfl⟩)) ?_
    refine ⟨rfl, fun _ w' => w' = w, ?_, ?_⟩
    · exact s_cond (b := false) rfl (fun h => by cases h) (fun _ => ⟨_, rfl, rfl⟩)
    · rintro vs w1 hvs rfl
      obtain rfl : vs = [] := List.eq_nil_of_length_eq_zero hvs
      exact rest w1 _ _ b es clock [] rfl rfl rfl hh hb hm he hp hborn h32 hnd ho .refl (fun x hx => by cases hx)
end
end Go.Kf
