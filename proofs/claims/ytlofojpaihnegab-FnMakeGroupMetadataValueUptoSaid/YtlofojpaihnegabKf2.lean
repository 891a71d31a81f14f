/- The library for this proof, part 2: trees of function bodies, and what the package's functions do. -/
import Derived.Test.YtlofojpaihnegabKf1
import Derived.MapKept
import Derived.Shelf.GgSortFunc.Whole
import Derived.Shelf.GgSortFunc.Tiny
import Derived.Sort.LotA
import Derived.Carry

namespace Go.Kf

open Go

/-- The numbers of the reference's types and functions. -/
structure SN where
  field : Nat
  fields : Nat
  msg : Nat
  has : Nat
  null : Nat
  whole : Nat
  things : Nat
  at_ : Nat
  uv : Nat
  fixed : Nat
  width : Nat
  counted : Nat
  value : Nat
  fld : Nat
  part : Nat
  known : Nat
  usual : Nat
  unknown : Nat
  write : Nat
  flex : Nat
  number : Nat
  usualG : Nat
  told1 : Nat
  told : Nat
  same : Nat
  fits1 : Nat
  fits2 : Nat
  fits3 : Nat

def tHas (c : Nums) (s : SN) : Tr :=
  .op (.box s.field (.tmp 0)) none [] <|
  .op (.fieldAddr s.field (.tmp 2) 1) none [] <|
  .op (.load c.tInt (.tmp 3)) none [] <|
  .op (.binOp .leq c.tInt (.tmp 4) (.tmp 1) c.tInt) none [] <|
  .cond (.tmp 5) (
    .op (.fieldAddr s.field (.tmp 2) 2) none [] <|
    .op (.load c.tInt (.tmp 6)) none [] <|
    .op (.binOp .lss c.tInt (.tmp 7) (.const (.int .i64 0)) c.tInt) none [] <|
    .cond (.tmp 8) (
      .ret [((.const (.bool true)), none)]
    ) (
      .op (.fieldAddr s.field (.tmp 2) 2) none [] <|
      .op (.load c.tInt (.tmp 9)) none [] <|
      .op (.binOp .leq c.tInt (.tmp 1) (.tmp 10) c.tInt) none [] <|
      .ret [((.tmp 11), none)]
    )
  ) (
    .ret [((.const (.bool false)), none)]
  )

def tNull (c : Nums) (s : SN) : Tr :=
  .op (.box s.field (.tmp 0)) none [] <|
  .op (.box c.sTree (.tmp 2)) none [] <|
  .op (.fieldAddr c.sTree (.tmp 4) 2) none [] <|
  .op (.load c.tBool (.tmp 5)) none [] <|
  .cond (.tmp 6) (
    .op (.fieldAddr s.field (.tmp 3) 3) none [] <|
    .op (.load c.tInt (.tmp 7)) none [] <|
    .op (.binOp .geq c.tInt (.tmp 8) (.const (.int .i64 0)) c.tInt) none [] <|
    .cond (.tmp 9) (
      .op (.fieldAddr s.field (.tmp 3) 3) none [] <|
      .op (.load c.tInt (.tmp 10)) none [] <|
      .op (.binOp .geq c.tInt (.tmp 1) (.tmp 11) c.tInt) none [] <|
      .ret [((.tmp 12), none)]
    ) (
      .ret [((.const (.bool false)), none)]
    )
  ) (
    .ret [((.const (.bool false)), none)]
  )

def tWhole (c : Nums) : Tr :=
  .op (.call { callee := (.builtin .len), args := ⟨[(.tmp 0)]⟩, argTypes := ⟨[c.tBytes]⟩ }) none [] <|
  .op (.call { callee := (.builtin .min), args := ⟨[(.tmp 1), (.const (.int .i64 32767))]⟩, argTypes := ⟨[c.tInt, c.tInt]⟩ }) none [] <|
  .op (.slice c.tBytes (.tmp 0) none (some (.tmp 2)) none) none [] <|
  .ret [((.tmp 3), none)]

def tThings (c : Nums) : Tr :=
  .op (.call { callee := (.builtin .len), args := ⟨[(.tmp 0)]⟩, argTypes := ⟨[c.sTrees]⟩ }) none [] <|
  .op (.call { callee := (.builtin .min), args := ⟨[(.tmp 1), (.const (.int .i64 32767))]⟩, argTypes := ⟨[c.tInt, c.tInt]⟩ }) none [] <|
  .op (.slice c.sTrees (.tmp 0) none (some (.tmp 2)) none) none [] <|
  .ret [((.tmp 3), none)]

def tAt (c : Nums) : Tr :=
  .op (.box c.sTree (.tmp 0)) none [] <|
  .op (.alloc c.sTree) none [] <|
  .op (.fieldAddr c.sTree (.tmp 2) 3) none [] <|
  .op (.load c.sTrees (.tmp 4)) none [] <|
  .op (.call { callee := (.builtin .len), args := ⟨[(.tmp 5)]⟩, argTypes := ⟨[c.sTrees]⟩ }) none [] <|
  .op (.binOp .lss c.tInt (.tmp 1) (.tmp 6) c.tInt) none [] <|
  .cond (.tmp 7) (
    .op (.fieldAddr c.sTree (.tmp 2) 3) none [] <|
    .op (.load c.sTrees (.tmp 8)) none [] <|
    .op (.indexAddr c.sTrees (.tmp 9) (.tmp 1)) none [] <|
    .op (.load c.sTree (.tmp 10)) none [] <|
    .op (.store c.sTree (.tmp 3) (.tmp 11)) none [] <|
    .ret [((.tmp 3), (some c.sTree))]
  ) (
    .op (.build c.sTree ⟨[]⟩) none [] <|
    .op (.store c.sTree (.tmp 3) (.tmp 8)) none [] <|
    .ret [((.tmp 3), (some c.sTree))]
  )

def tUv (c : Nums) : Tr :=
  .loop 0 [(.const (.slice none 0 0)), (.tmp 0)] <|
  .op (.binOp .gtr c.tU64 (.tmp 2) (.const (.int .u64 127)) c.tU64) none [] <|
  .cond (.tmp 3) (
    .op (.binOp .and c.tU64 (.tmp 2) (.const (.int .u64 127)) c.tU64) none [] <|
    .op (.convert c.tU64 c.tU8 (.tmp 4)) none [] <|
    .op (.binOp .or c.tU8 (.tmp 5) (.const (.int .u8 128)) c.tU8) none [] <|
    .op (.buildSlice c.tBytes 1 ⟨[(0, (.tmp 6))]⟩) none [] <|
    .op (.call { callee := (.builtin .append), args := ⟨[(.tmp 1), (.tmp 7)]⟩, argTypes := ⟨[c.tBytes, c.tBytes]⟩ }) none [] <|
    .op (.binOp .shr c.tU64 (.tmp 2) (.const (.int .u64 7)) c.tUint) none [] <|
    .to 0 [(.tmp 8), (.tmp 9)]
  ) (
    .op (.convert c.tU64 c.tU8 (.tmp 2)) none [] <|
    .op (.buildSlice c.tBytes 1 ⟨[(0, (.tmp 4))]⟩) none [] <|
    .op (.call { callee := (.builtin .append), args := ⟨[(.tmp 1), (.tmp 5)]⟩, argTypes := ⟨[c.tBytes, c.tBytes]⟩ }) none [] <|
    .ret [((.tmp 6), none)]
  )

def tFixed (c : Nums) : Tr :=
  .op (.binOp .sub c.tInt (.tmp 1) (.const (.int .i64 1)) c.tInt) none [] <|
  .loop 0 [(.const (.slice none 0 0)), (.tmp 2)] <|
  .op (.binOp .geq c.tInt (.tmp 4) (.const (.int .i64 0)) c.tInt) none [] <|
  .cond (.tmp 5) (
    .op (.binOp .mul c.tInt (.const (.int .i64 8)) (.tmp 4) c.tInt) none [] <|
    .op (.binOp .shr c.tI64 (.tmp 0) (.tmp 6) c.tInt) none [] <|
    .op (.convert c.tI64 c.tU8 (.tmp 7)) none [] <|
    .op (.buildSlice c.tBytes 1 ⟨[(0, (.tmp 8))]⟩) none [] <|
    .op (.call { callee := (.builtin .append), args := ⟨[(.tmp 3), (.tmp 9)]⟩, argTypes := ⟨[c.tBytes, c.tBytes]⟩ }) none [] <|
    .op (.binOp .sub c.tInt (.tmp 4) (.const (.int .i64 1)) c.tInt) none [] <|
    .to 0 [(.tmp 10), (.tmp 11)]
  ) (
    .ret [((.tmp 3), none)]
  )

def tWidth (c : Nums) : Tr :=
  .op (.binOp .eql c.tInt (.tmp 0) (.const (.int .i64 1)) c.tInt) none [] <|
  .cond (.tmp 1) (
    .ret [((.const (.int .i64 1)), none)]
  ) (
    .op (.binOp .eql c.tInt (.tmp 0) (.const (.int .i64 2)) c.tInt) none [] <|
    .join 0 (
      .cond (.tmp 2) (
        .to 0 [(.tmp 2)]
      ) (
        .op (.binOp .eql c.tInt (.tmp 0) (.const (.int .i64 5)) c.tInt) none [] <|
        .to 0 [(.tmp 3)]
      )
    ) 1 <|
    .cond (.tmp 3) (
      .ret [((.const (.int .i64 2)), none)]
    ) (
      .op (.binOp .eql c.tInt (.tmp 0) (.const (.int .i64 3)) c.tInt) none [] <|
      .cond (.tmp 4) (
        .ret [((.const (.int .i64 4)), none)]
      ) (
        .ret [((.const (.int .i64 8)), none)]
      )
    )
  )

def tCounted (c : Nums) (s : SN) : Tr :=
  .cond (.tmp 0) (
    .cond (.tmp 1) (
      .op (.buildSlice c.tBytes 1 ⟨[(0, (.const (.int .u8 0)))]⟩) none [] <|
      .ret [((.tmp 4), none)]
    ) (
      .cond (.tmp 0) (
        .op (.convert c.tInt c.tU64 (.tmp 2)) none [] <|
        .op (.binOp .add c.tU64 (.tmp 4) (.const (.int .u64 1)) c.tU64) none [] <|
        .op (callOp s.uv [(.tmp 5)]) none [] <|
        .ret [((.tmp 6), none)]
      ) (
        .cond (.tmp 1) (
          .op (callOp s.fixed [(.const (.int .i64 (-1))), (.tmp 3)]) none [] <|
          .ret [((.tmp 4), none)]
        ) (
          .op (callOp s.fixed [(.tmp 2), (.tmp 3)]) none [] <|
          .ret [((.tmp 4), none)]
        )
      )
    )
  ) (
    .cond (.tmp 0) (
      .op (.convert c.tInt c.tU64 (.tmp 2)) none [] <|
      .op (.binOp .add c.tU64 (.tmp 4) (.const (.int .u64 1)) c.tU64) none [] <|
      .op (callOp s.uv [(.tmp 5)]) none [] <|
      .ret [((.tmp 6), none)]
    ) (
      .cond (.tmp 1) (
        .op (callOp s.fixed [(.const (.int .i64 (-1))), (.tmp 3)]) none [] <|
        .ret [((.tmp 4), none)]
      ) (
        .op (callOp s.fixed [(.tmp 2), (.tmp 3)]) none [] <|
        .ret [((.tmp 4), none)]
      )
    )
  )

/-- What the reference's functions ask of the types. -/
structure SpFacts (P : Program) (c : Nums) (s : SN) : Prop where
  rd : RdFacts P c
  ty : TyFacts P c c.sTree c.sTrees c.sTagL c.sTag
  got : GotFacts P c
  agg : aggTy P s.field = some 8
  f0 : fieldOff P s.field 0 = some 0
  f1 : fieldOff P s.field 1 = some 1
  f2 : fieldOff P s.field 2 = some 2
  f3 : fieldOff P s.field 3 = some 3
  f4 : fieldOff P s.field 4 = some 4
  f5 : fieldOff P s.field 5 = some 5
  f6 : fieldOff P s.field 6 = some 6
  f7 : fieldOff P s.field 7 = some 7
  sl : P.underlying s.fields = some (.slice s.field)
  oneFields : oneTy P s.fields = true
  msg : aggTy P s.msg = some 2
  m0 : fieldOff P s.msg 0 = some 0
  m1 : fieldOff P s.msg 1 = some 1
  oneInt : oneTy P c.tInt = true
  u64 : P.underlying c.tU64 = some (.int .u64)
  zero8 : ∃ inf, P.info? c.tU8 = some inf ∧ inf.zero = some (.int .u8 0) ∧ inf.size = 1 ∧ inf.bytes ≤ 8
  zField : ∃ z, zeroTy P s.field = some (z, 8) ∧ z.cells.size = 8
  zTag : ∃ z, zeroTy P c.sTag = some (z, 2) ∧ z.cells.size = 2
  rowF : RowFacts P s.field 8
  planTag : buildPlan P c.sTag = some ([.int .u32 0, .slice none 0 0], [(0, 1), (1, 1)])

theorem SpFacts.szF {P : Program} {c : Nums} {s : SN} (S : SpFacts P c s) : (P.info? s.field).map (·.size) = some 8 := (aggTy_spec (w := default) S.agg).2

theorem SpFacts.szT {P : Program} {c : Nums} {s : SN} (S : SpFacts P c s) : (P.info? c.sTree).map (·.size) = some 5 := (aggTy_spec (w := default) S.ty.agg).2

theorem SpFacts.szG {P : Program} {c : Nums} {s : SN} (S : SpFacts P c s) : (P.info? c.sTag).map (·.size) = some 2 := (aggTy_spec (w := default) S.ty.aggTag).2

/-- The function yields this value; what was there is as it was. -/
def Yields (P : Program) (f : Nat) (args : List Value) (w : World) (v : Value) : Prop := Gives P f args w fun u w' => u = v ∧ Keeps [] w w'

/-- The function yields new octets. -/
def YieldsO (P : Program) (f : Nat) (args : List Value) (w : World) (l : List UInt8) : Prop := Gives P f args w fun u w' => Own w' u 1 l.length (bcells l) ∧ (∀ b ∈ blkOf u, w.heap.size ≤ b) ∧ Keeps [] w w'

section

variable {P : Program} {c : Nums} {s : SN} {R : Value → World → Prop} {Γ : List (List Value → World → Prop)} {n : Nat} {ρ : Nat → Value} {w : World} {k : Tr}

theorem v_min {t1 t2 : Nat} {x y : Operand} {kk k2 : IntKind} {a b : Int} (hx : ev ρ x = .int kk a) (hy : ev ρ y = .int k2 b) : Val P ρ (.call { callee := .builtin .min, args := ⟨[x, y]⟩, argTypes := ⟨[t1, t2]⟩ }) (.int kk (if b < a then b else a)) := fun w => by
  unfold runOp bareOp
  have e1 : (Array.map (ev ρ) ⟨[x, y]⟩ : Array Value) = ⟨[.int kk a, .int k2 b]⟩ := by simp [hx, hy]
  simp only [execOp, resolve, pure_bind, invoke, builtin, Sem.run_bind, e1, Builtin.min_]
  simp [Builtin.min2]

theorem v_shr {t u : Nat} {x y : Operand} {kk k2 : IntKind} {a : Int} {j : Nat} (hx : ev ρ x = .int kk a) (hy : ev ρ y = .int k2 j) (hj : j ≤ kk.bits) : Val P ρ (.binOp .shr t x y u) (.int kk (a / 2 ^ j)) := fun w => by
  unfold runOp bareOp
  simp only [execOp, hx, hy]
  simp [eqGuard, binOp, Op.shift, Nat.min_eq_left hj, show ¬ ((j : Int) < 0) by omega, Int.fdiv_eq_ediv_of_nonneg a (show (0 : Int) ≤ 2 ^ j from Int.pow_nonneg (by omega))]

/-- A counted loop that carries values. -/
theorem s_countV {kk : IntKind} {t q : Nat} {m : Int} {ri : List Operand} {body after : Tr} (Q : Nat → List Value → World → Prop) (hqn : q < n) (hq : ρ q = .int kk m) (h0 : Q 0 (ri.map (ev ρ)) w)
    (hbody : ∀ j, j < m.toNat → ∀ (w' : World) (vr : List Value), Q j vr w' → vr.length = ri.length → ∀ J : List Value → World → Prop, (∀ (vr' : List Value) (w'' : World), vr'.length = ri.length → Q (j + 1) vr' w'' → J (vr' ++ [.int kk ((j + 1 : Nat) : Int)]) w'') →
      body.sem P R (Γ ++ [J]) (n + ri.length + 2) (ext ρ n (vr ++ [.int kk j, .bool true])) w')
    (hafter : ∀ (w' : World) (vr : List Value) (J : List Value → World → Prop), Q m.toNat vr w' → vr.length = ri.length → after.sem P R (Γ ++ [J]) (n + ri.length + 2) (ext ρ n (vr ++ [.int kk m.toNat, .bool false])) w') :
    (Tr.loop Γ.length (ri ++ [.const (.int kk 0)]) (.op (.binOp .lss t (.tmp (n + ri.length)) (.tmp q) t) none [] (.cond (.tmp (n + ri.length + 1)) body after))).sem P R Γ n ρ w := by
  refine ⟨rfl, fun vs w' => ∃ (vr : List Value) (j : Nat), vs = vr ++ [.int kk j] ∧ vr.length = ri.length ∧ j ≤ m.toNat ∧ Q j vr w', fun vs _ => m.toNat - (match vs.getLast? with
    | some (.int _ j) => j.toNat
    | _ => 0), ⟨ri.map (ev ρ), 0, by simp [ev], by simp, by omega, h0⟩, ?_⟩
  rintro vs w' _ ⟨vr, j, rfl, hvr, hj, hQ⟩
  rw [List.length_append, List.length_singleton]
  have e1 : ext ρ n (vr ++ [.int kk j]) (n + ri.length) = .int kk j := by
    rw [ext_ge, ← hvr]; simp
  refine s_val (v_cmp (kk := kk) (a := j) (b := m) (r := decide ((j : Int) < m)) e1 ((ext_lt hqn).trans hq) rfl) ?_
  have e2 := ext_ext ρ n (vr ++ [.int kk j]) [.bool (decide ((j : Int) < m))]
  rw [List.length_append, List.length_singleton, hvr, List.append_assoc] at e2
  rw [e2]
  have e3 : ext ρ n (vr ++ ([.int kk j] ++ [.bool (decide ((j : Int) < m))])) (n + ri.length + 1) = .bool (decide ((j : Int) < m)) := by
    rw [Nat.add_assoc, ext_ge, ← hvr]; simp
  refine s_cond (b := decide ((j : Int) < m)) e3 (fun hb => ?_) fun hb => ?_
  · have hlt : (j : Int) < m := by simpa using hb
    rw [decide_eq_true hlt]
    refine hbody j (by omega) w' vr hQ hvr _ fun vr' w'' hl hQ' => ⟨⟨vr', j + 1, rfl, hl, by omega, hQ'⟩, ?_⟩
    simp
    omega
  · have hge : ¬ (j : Int) < m := by simpa using hb
    rw [decide_eq_false hge]
    obtain rfl : j = m.toNat := by omega
    exact hafter w' vr _ hQ hvr

/-- A field, unfolded. -/
theorem FieldC.cells {f : PF} {cs : List Value} (h : FieldC w f cs) : ∃ sv, cs = [.int .i64 f.kind, .int .i64 f.fr, .int .i64 f.to, .int .i64 f.nul, .int .i64 f.tag, .int .i64 f.dflt, .int .i64 f.elem, sv] ∧ FieldsV w f.sub sv := by
  cases f
  obtain ⟨sv, scs, e, h1, h2⟩ := h
  exact ⟨sv, e, scs, h1, h2⟩

theorem TreeC.cells {t : PT} {cs : List Value} (h : TreeC w t cs) : ∃ sv lv uv lcs ucs, cs = [.int .i64 t.n, sv, .bool t.null, lv, uv] ∧ Ro w sv 1 t.s.length (bcells t.s) ∧ Ro w lv 5 t.l.length lcs ∧ TreesC w t.l lcs ∧ Ro w uv 2 t.u.length ucs ∧ TagsC w t.u ucs := by
  cases t
  obtain ⟨sv, lv, uv, lcs, ucs, e, h1, h2, h3, h4, h5, _⟩ := h
  exact ⟨sv, lv, uv, lcs, ucs, e, h1, h2, h3, h4, h5⟩

theorem TreeC.lens {t : PT} {cs : List Value} (h : TreeC w t cs) : t.s.length < 4294967296 ∧ t.l.length < 4294967296 ∧ t.u.length < 4294967296 := by
  cases t
  obtain ⟨sv, lv, uv, lcs, ucs, e, h1, h2, h3, h4, h5, h6⟩ := h
  exact h6

theorem has_gives (S : SpFacts P c s) (hT : treeIn P s.has noOrc [.tmp 0, .tmp 1] 2 = tHas c s) {f : PF} {cs : List Value} (h : FieldC w f cs) (v : Int) : Yields P s.has [.agg ⟨cs⟩, .int .i64 v] w (.bool (pHas f v)) := by
  obtain ⟨sv, rfl, _⟩ := h.cells
  refine gives_in (ρ := en [_, _]) S.rd.mix hT (Nat.le_refl _) rfl (by simp [opBelow]) ?_
  refine s_box rfl fun w1 hx1 k1 z1 => ?_
  refine s_fl S.f1 S.oneInt rfl rfl hx1 rfl ?_
  refine s_val (v_cmp (kk := .i64) (a := f.fr) (b := v) (r := decide (f.fr ≤ v)) rfl rfl rfl) ?_
  refine s_cond (b := decide (f.fr ≤ v)) rfl (fun hb => ?_) fun hb => s_ret1 ⟨by simp [pHas, hb, ev], k1⟩
  refine s_fl S.f2 S.oneInt rfl rfl hx1 rfl ?_
  refine s_val (v_cmp (kk := .i64) (a := f.to) (b := 0) (r := decide (f.to < 0)) rfl rfl rfl) ?_
  refine s_cond (b := decide (f.to < 0)) rfl (fun hb2 => s_ret1 ⟨by simp [pHas, hb, hb2, ev], k1⟩) fun hb2 => ?_
  refine s_fl S.f2 S.oneInt rfl rfl hx1 rfl ?_
  refine s_val (v_cmp (kk := .i64) (a := v) (b := f.to) (r := decide (v ≤ f.to)) rfl rfl rfl) ?_
  exact s_ret1 ⟨by simp only [pHas, hb, hb2, Bool.true_and, Bool.false_or]; rfl, k1⟩

theorem null_gives (S : SpFacts P c s) (hT : treeIn P s.null noOrc [.tmp 0, .tmp 1, .tmp 2] 3 = tNull c s) {f : PF} {t : PT} {cs ts : List Value} (h : FieldC w f cs) (ht : TreeC w t ts) (v : Int) : Yields P s.null [.agg ⟨cs⟩, .int .i64 v, .agg ⟨ts⟩] w (.bool (pNull f v t)) := by
  obtain ⟨sv, rfl, _⟩ := h.cells
  obtain ⟨s1, lv, uv, lcs, ucs, rfl, _⟩ := ht.cells
  refine gives_in (ρ := en [_, _, _]) S.rd.mix hT (Nat.le_refl _) rfl (by simp [opBelow]) ?_
  refine s_box rfl fun w1 hx1 k1 z1 => ?_
  refine s_box rfl fun w2 hx2 k2 z2 => ?_
  have hx1 := hx1.keep k2 (by simp)
  have k12 : Keeps [] w w2 := k1.trans k2
  refine s_fl S.ty.f2 S.rd.oneBool rfl rfl hx2 rfl ?_
  refine s_cond (b := t.null) rfl (fun hb => ?_) fun hb => s_ret1 ⟨by simp [pNull, hb, ev], k12⟩
  refine s_fl S.f3 S.oneInt rfl rfl hx1 rfl ?_
  refine s_val (v_cmp (kk := .i64) (a := f.nul) (b := 0) (r := decide (f.nul ≥ 0)) rfl rfl rfl) ?_
  refine s_cond (b := decide (f.nul ≥ 0)) rfl (fun hb2 => ?_) fun hb2 => s_ret1 ⟨by simp only [pNull]; rw [show decide (0 ≤ f.nul) = false from hb2]; simp [ev], k12⟩
  refine s_fl S.f3 S.oneInt rfl rfl hx1 rfl ?_
  refine s_val (v_cmp (kk := .i64) (a := v) (b := f.nul) (r := decide (v ≥ f.nul)) rfl rfl rfl) ?_
  exact s_ret1 ⟨by simp only [pNull]; rw [show decide (0 ≤ f.nul) = true from hb2, hb]; rfl, k12⟩

theorem take_min {α : Type} (l : List α) : l.take 32767 = l.take (if (32767 : Int) < (l.length : Int) then (32767 : Int) else (l.length : Int)).toNat := by
  split
  · rfl
  · rw [List.take_of_length_le (by omega), List.take_of_length_le (by omega)]

theorem whole_gives (S : SpFacts P c s) (hT : treeIn P s.whole noOrc [.tmp 0] 1 = tWhole c) {v : Value} {l : List UInt8} (h : Ro w v 1 l.length (bcells l)) : Gives P s.whole [v] w fun u w' => w' = w ∧ ∀ w0, Ro w0 v 1 l.length (bcells l) → Ro w0 u 1 (pWhole l).length (bcells (pWhole l)) := by
  refine gives_in (ρ := en [v]) S.rd.mix hT (Nat.le_refl _) rfl (by simp [opBelow]) ?_
  obtain ⟨a, cp, rfl⟩ := h.form
  refine s_val (v_len (a := a) (l := l.length) (c := cp) S.rd.bytes rfl) ?_
  refine s_val (v_min (kk := .i64) (a := l.length) (b := 32767) rfl rfl) ?_
  have hcap : l.length ≤ cp := by
    rcases h.2 with ⟨h0, _⟩ | ⟨_, _, _, e, _, hc, _⟩
    · omega
    · simp only [Value.slice.injEq] at e; omega
  refine s_val (v_sliceTo (a := a) (l := l.length) (c := cp) (k := .i64) (h := if (32767 : Int) < (l.length : Int) then (32767 : Int) else (l.length : Int)) S.rd.bytes S.rd.szU8 rfl rfl (by split <;> omega) (by split <;> omega)) ?_
  refine s_ret1 ⟨rfl, fun w0 h => ?_⟩
  have h2 := h.to (m := (if (32767 : Int) < (l.length : Int) then (32767 : Int) else (l.length : Int)).toNat) (by split <;> omega)
  rw [Nat.mul_one, bcells_take, ← take_min] at h2
  have e : (pWhole l).length = (if (32767 : Int) < (l.length : Int) then (32767 : Int) else (l.length : Int)).toNat := by
    unfold pWhole
    rw [take_min, List.length_take]
    split <;> omega
  rw [e]
  exact h2

theorem things0_gives (S : SpFacts P c s) (hT : treeIn P s.things noOrc [.tmp 0] 1 = tThings c) {v : Value} {l : List PT} {cs : List Value} (h : Ro w v 5 l.length cs) : Gives P s.things [v] w fun u w' => w' = w ∧ ∃ cs', (∀ w0, Ro w0 v 5 l.length cs → Ro w0 u 5 (pThings l).length cs') ∧ ∀ w0, TreesC w0 l cs → TreesC w0 (pThings l) cs' := by
  refine gives_in (ρ := en [v]) S.rd.mix hT (Nat.le_refl _) rfl (by simp [opBelow]) ?_
  obtain ⟨a, cp, rfl⟩ := h.form
  refine s_val (v_len (a := a) (l := l.length) (c := cp) S.ty.sl rfl) ?_
  refine s_val (v_min (kk := .i64) (a := l.length) (b := 32767) rfl rfl) ?_
  have hcap : l.length ≤ cp := by
    rcases h.2 with ⟨h0, _⟩ | ⟨_, _, _, e, _, hc, _⟩
    · omega
    · simp only [Value.slice.injEq] at e; omega
  refine s_val (v_sliceTo (a := a) (l := l.length) (c := cp) (k := .i64) (h := if (32767 : Int) < (l.length : Int) then (32767 : Int) else (l.length : Int)) S.ty.sl S.szT rfl rfl (by split <;> omega) (by split <;> omega)) ?_
  have e : (pThings l).length = (if (32767 : Int) < (l.length : Int) then (32767 : Int) else (l.length : Int)).toNat := by
    unfold pThings
    rw [take_min, List.length_take]
    split <;> omega
  refine s_ret1 ⟨rfl, _, fun w0 hr => ?_, fun w0 ht => (show l.take (pThings l).length = pThings l by unfold pThings; rw [List.length_take, List.take_eq_take_min]; simp) ▸ ht.take (pThings l).length⟩
  show Ro w0 (.slice a (if (32767 : Int) < (l.length : Int) then (32767 : Int) else (l.length : Int)).toNat cp) 5 _ _
  rw [← e]
  exact hr.to (m := (pThings l).length) (by rw [e]; split <;> omega)

theorem things_gives (S : SpFacts P c s) (hT : treeIn P s.things noOrc [.tmp 0] 1 = tThings c) {v : Value} {l : List PT} {cs : List Value} (h : Ro w v 5 l.length cs) (ht : TreesC w l cs) : Gives P s.things [v] w fun u w' => w' = w ∧ ∃ cs', Ro w u 5 (pThings l).length cs' ∧ TreesC w (pThings l) cs' :=
  (things0_gives S hT h).mono fun _ _ ⟨h1, cs', h2, h3⟩ => ⟨h1, cs', h2 w h, h3 w ht⟩

theorem at0_gives (S : SpFacts P c s) (hT : treeIn P s.at_ noOrc [.tmp 0, .tmp 1] 2 = tAt c) {t : PT} {ts : List Value} {w0 : World} (k0 : Keeps [] w0 w) (ht : TreeC w0 t ts) (i : Nat) : Gives P s.at_ [.agg ⟨ts⟩, .int .i64 i] w fun u w' => Keeps [] w w' ∧ ∃ cs, u = .agg ⟨cs⟩ ∧ TreeC w0 (pAt t i) cs := by
  obtain ⟨sv, lv, uv, lcs, ucs, rfl, h1, h2, h3, h4, h5⟩ := ht.cells
  refine gives_in (ρ := en [_, _]) S.rd.mix hT (Nat.le_refl _) rfl (by simp [opBelow]) ?_
  refine s_box rfl fun w1 hx1 k1 z1 => ?_
  refine s_alloc S.got.zero fun w2 hz2 k2 z2 => ?_
  have hx1 := hx1.keep k2 (by simp)
  have k12 : Keeps [] w w2 := k1.trans k2
  obtain ⟨a, q, e⟩ := h2.form
  refine s_fl S.ty.f3 S.ty.oneTrees rfl rfl hx1 rfl (s_val (v_len (a := a) (l := t.l.length) (c := q) S.ty.sl e) ?_)
  refine s_val (v_cmp (kk := .i64) (a := i) (b := t.l.length) (r := decide ((i : Int) < t.l.length)) rfl rfl rfl) ?_
  refine s_cond (b := decide ((i : Int) < t.l.length)) rfl (fun hb => ?_) fun hb => ?_
  · have hlt : i < t.l.length := by
      have : (i : Int) < t.l.length := by simpa using hb
      omega
    refine s_fl S.ty.f3 S.ty.oneTrees rfl rfl hx1 rfl ?_
    have h2' := h2.keep (k0.trans k12)
    obtain ⟨b, o, cap, e2, hbl, hel, hcell⟩ := h2'.elem hlt (by omega)
    have htr := TreesC.get h3 hlt
    refine s_val (v_indexAddr (b := b) (o := o) (l := t.l.length) (c := cap) (j := i) (kk := .i64) S.ty.sl S.szT e2 rfl (by omega) (by omega)) ?_
    rw [Int.toNat_natCast]
    refine s_lok (l_cellN (b := b) (o := o + i * 5) S.ty.agg ext_at hel hcell) ?_
    refine s_storeAll (b := w1.heap.size) (old := zeroTree) (cs := (lcs.drop (i * 5)).take 5) (by rw [hel]; exact S.ty.agg) rfl rfl hz2 (by rw [hel]; rfl) htr.ones fun w3 h3' k3 => ?_
    have k13 : Keeps [] w w3 := ((k12.mono (by simp)).trans k3).less fun x hx => .inr (by simp only [List.mem_singleton] at hx; have := k1.size; omega)
    refine s_retAgg (b := w1.heap.size) rfl h3' (by rw [hel]; exact S.ty.agg) ⟨k13, _, rfl, ?_⟩
    have : pAt t i = t.l[i] := by unfold pAt; rw [List.getD_eq_getElem?_getD, List.getElem?_eq_getElem hlt]; rfl
    rw [this]
    exact TreesC.get h3 hlt
  · have hge : ¬ (i : Int) < t.l.length := by simpa using hb
    refine s_val (v_build (cells := zeroTree) S.got.plan (fun p hp => by cases hp) rfl) ?_
    refine s_storeAll (b := w1.heap.size) (old := zeroTree) (cs := zeroTree) S.ty.agg rfl rfl hz2 rfl (zeroTree_at w (fun _ => True)).ones fun w3 h3' k3 => ?_
    have k13 : Keeps [] w w3 := ((k12.mono (by simp)).trans k3).less fun x hx => .inr (by simp only [List.mem_singleton] at hx; have := k1.size; omega)
    refine s_retAgg (b := w1.heap.size) rfl h3' S.ty.agg ⟨k13, _, rfl, ?_⟩
    have : pAt t i = .zero := by unfold pAt; rw [List.getD_eq_getElem?_getD, List.getElem?_eq_none (by omega)]; rfl
    rw [this]
    exact TreeC.zero w0

theorem at_gives (S : SpFacts P c s) (hT : treeIn P s.at_ noOrc [.tmp 0, .tmp 1] 2 = tAt c) {t : PT} {ts : List Value} (ht : TreeC w t ts) (i : Nat) : Gives P s.at_ [.agg ⟨ts⟩, .int .i64 i] w fun u w' => Keeps [] w w' ∧ ∃ cs, u = .agg ⟨cs⟩ ∧ TreeC w' (pAt t i) cs :=
  (at0_gives S hT .refl ht i).mono fun _ _ ⟨k, cs, h1, h2⟩ => ⟨k, cs, h1, TreeC.keep k _ _ h2⟩

theorem width_gives (S : SpFacts P c s) (hT : treeIn P s.width noOrc [.tmp 0] 1 = tWidth c) (x : Int) : Yields P s.width [.int .i64 x] w (.int .i64 (pWidth x)) := by
  refine gives_in (ρ := en [_]) S.rd.mix hT (Nat.le_refl _) rfl (by simp [opBelow]) ?_
  refine s_val (v_cmp (kk := .i64) (a := x) (b := 1) (r := x == 1) rfl rfl rfl) ?_
  refine s_cond (b := x == 1) rfl (fun hb => s_ret1 ⟨by simp at hb; subst hb; rfl, .refl⟩) fun h1 => ?_
  refine s_val (v_cmp (kk := .i64) (a := x) (b := 2) (r := x == 2) rfl rfl rfl) ?_
  refine ⟨rfl, fun vs w' => vs = [.bool (x == 2 || x == 5)] ∧ w' = w, ?_, ?_⟩
  · refine s_cond (b := x == 2) rfl (fun hb => ⟨_, rfl, by simp [ev, ext, hb], rfl⟩) fun hb => ?_
    refine s_val (v_cmp (kk := .i64) (a := x) (b := 5) (r := x == 5) rfl rfl rfl) ?_
    exact ⟨_, rfl, by simp [ev, ext, hb], rfl⟩
  · rintro vs w' _ ⟨rfl, rfl⟩
    simp at h1
    refine s_cond (b := x == 2 || x == 5) rfl (fun hb => s_ret1 ⟨by simp at hb; simp [pWidth, h1, hb, ev], .refl⟩) fun hb => ?_
    refine s_val (v_cmp (kk := .i64) (a := x) (b := 3) (r := x == 3) rfl rfl rfl) ?_
    simp at hb
    refine s_cond (b := x == 3) rfl (fun h3 => s_ret1 ⟨by simp at h3; subst h3; rfl, .refl⟩) fun h3 => s_ret1 ⟨by simp at h3; simp [pWidth, h1, hb, h3, ev], .refl⟩

end

end Go.Kf

namespace Go.Kf

open Go

theorem wraps_u64 (n : Int) (h0 : 0 ≤ n) (h1 : n < 2 ^ 64) : IntKind.u64.wrap n = n := by
  simp only [IntKind.wrap, IntKind.bits, IntKind.signed]
  simp
  omega

theorem and1_i64 (n : Int) : bits .and .i64 n 1 = n % 2 := by
  have h : ((BitVec.ofInt 64 n) &&& (BitVec.ofInt 64 1)).toNat = (n % 2).toNat := by
    rw [BitVec.toNat_and, BitVec.toNat_ofInt, show (BitVec.ofInt 64 1).toNat = 1 from rfl, Nat.and_one_is_mod]
    omega
  show IntKind.i64.wrap (((BitVec.ofInt 64 n) &&& (BitVec.ofInt 64 1)).toNat : Int) = n % 2
  rw [h, IntKind.wrap_i64]
  omega

theorem and127_u64 (m : Nat) (_h : m < 2 ^ 64) : bits .and .u64 m 127 = ((m % 128 : Nat) : Int) := by
  have h2 : ((BitVec.ofInt 64 (m : Int)) &&& (BitVec.ofInt 64 127)).toNat = m % 128 := by
    rw [BitVec.toNat_and, BitVec.toNat_ofInt, show (BitVec.ofInt 64 127).toNat = 2 ^ 7 - 1 from rfl, Nat.and_two_pow_sub_one_eq_mod]
    omega
  show IntKind.u64.wrap (((BitVec.ofInt 64 (m : Int)) &&& (BitVec.ofInt 64 127)).toNat : Int) = _
  rw [h2, wraps_u64 _ (by omega) (by omega)]

theorem or128_u8 (m : Nat) (h : m < 128) : bits .or .u8 m 128 = ((m + 128 : Nat) : Int) := by
  have h2 : ∀ x : Fin 128, bits .or .u8 (x.val : Int) 128 = ((x.val + 128 : Nat) : Int) := by decide +kernel
  exact h2 ⟨m, h⟩

theorem wrap_u8' (n : Int) : IntKind.u8.wrap n = n % 256 := IntKind.wrap_u8 n

/-- An octet of a number, as it stands in memory. -/
theorem octCell (n : Int) : (Value.int .u8 (IntKind.u8.wrap n)) = .int .u8 ((UInt8.ofNat (n % 256).toNat).toNat : Int) := by
  rw [wrap_u8', UInt8.toNat_ofNat']
  congr 1
  omega

theorem pFixed_length (n : Int) : ∀ k : Nat, (pFixed n k).length = k
  | 0 => rfl
  | k + 1 => by simp [pFixed, pFixed_length n k]

section

variable {P : Program} {c : Nums} {s : SN} {R : Value → World → Prop} {Γ : List (List Value → World → Prop)} {n : Nat} {ρ : Nat → Value} {w : World} {k : Tr}

/-- Octets that are made: on top of w0. -/
def MadeO (w0 w : World) (v : Value) (l : List UInt8) : Prop := Own w v 1 l.length (bcells l) ∧ (∀ b ∈ blkOf v, w0.heap.size ≤ b) ∧ Keeps [] w0 w

theorem MadeO.nil (w : World) : MadeO w w (.slice none 0 0) [] := ⟨Own.nil w 1, (fun b hb => by cases hb), .refl⟩

theorem MadeO.drawn {w0 : World} {v : Value} {l : List UInt8} (h : MadeO w0 w v l) (d : Nat) : MadeO w0 { w with drawn := d } v l := ⟨h.1.keep (keeps_drawn w [] _) (by simp), h.2.1, h.2.2.trans (keeps_drawn w [] _)⟩

theorem MadeO.more {w0 w1 : World} {v : Value} {l : List UInt8} (h : MadeO w0 w v l) (hk : Keeps [] w w1) : MadeO w0 w1 v l := ⟨h.1.keep hk (by simp), h.2.1, h.2.2.trans hk⟩

theorem MadeO.one {w0 : World} {v : Value} {l : List UInt8} (h : MadeO w0 w v l) : v.oneCell' = true := h.1.reads.one

/-- append(a, b...) of octets. -/
theorem s_appendO {x y : Operand} {v u : Value} {l1 l2 : List UInt8} {w0 : World} {Fo : List (Op × Nat)} (S : SpFacts P c s) (hx : ev ρ x = v) (hy : ev ρ y = u) (h1 : MadeO w0 w v l1) (h2 : Src P 1 c.tBytes u l2.length (bcells l2) w) (hl : (l1 ++ l2).length ≤ 1099511627776)
    (hk : ∀ v' w', MadeO w0 w' v' (l1 ++ l2) → Keeps (blkOf v) w w' → (∀ p ∈ Fo, runOp P ρ p.1 w' = .ok (.value (ρ p.2)) w') ∧ k.sem P R Γ (n + 1) (ext ρ n [v']) w') :
    (Tr.op (.call { callee := .builtin .append, args := ⟨[x, y]⟩, argTypes := ⟨[c.tBytes, c.tBytes]⟩ }) none Fo k).sem P R Γ n ρ w := by
  obtain ⟨inf, hi, hz, hsz, hb⟩ := S.zero8
  rw [List.length_append] at hl
  obtain ⟨v', w', e, ho, kk, hbl⟩ := a_append (P := P) (ρ := ρ) (w := w) (tx := c.tBytes) S.rd.bytes hi hz hsz rfl hx hy h1.1 h2 (by
    calc (l1.length + l2.length) * inf.bytes ≤ 1099511627776 * 8 := Nat.mul_le_mul hl hb
      _ ≤ 140737488355328 := by decide) (by omega)
  have s0 := h1.2.2.size
  have hm : MadeO w0 w' v' (l1 ++ l2) := ⟨by rw [List.length_append, bcells_append]; exact ho, fun b hb => (hbl b hb).elim (h1.2.1 b) fun h => by omega,
    ((h1.2.2.mono (by simp)).trans kk).less fun b hb => .inr (h1.2.1 b hb)⟩
  exact s_act e (hk v' w' hm kk).1 (hk v' w' hm kk).2

/-- []byte{x} -/
theorem s_litO {y : Operand} {b : UInt8} (S : SpFacts P c s) (hy : ev ρ y = .int .u8 (b.toNat : Int)) (hk : ∀ v' w', MadeO w w' v' [b] → k.sem P R Γ (n + 1) (ext ρ n [v']) w') :
    (Tr.op (.buildSlice c.tBytes 1 ⟨[(0, y)]⟩) none [] k).sem P R Γ n ρ w := by
  obtain ⟨inf, hi, hz, hsz, hb⟩ := S.zero8
  obtain ⟨w', e1, hh, kk, hs⟩ := a_sliceOne (P := P) (ρ := ρ) (w := w) (x := y) (z := .int .u8 0) (cs := [.int .u8 (b.toNat : Int)]) S.rd.bytes (by simp [zeroTy, hi, hz, hsz]) (by simp) (by simp) (by rw [hy]; rfl)
  refine s_act e1 (fun p hp => by cases hp) (hk _ w' ⟨⟨rfl, .inr ⟨w.heap.size, 1, [], rfl, by simpa [bcells] using hh, Nat.le_refl _, by decide, rfl⟩⟩, fun b' hb' => ?_, kk⟩)
  simp only [blkOf, List.mem_singleton] at hb'
  omega

/-- append(a, x), of an octet. -/
theorem s_pushO {x y : Operand} {v : Value} {l : List UInt8} {b : UInt8} {w0 : World} (S : SpFacts P c s) (hx : ev ρ x = v) (hbx : opBelow n x) (hy : ev ρ y = .int .u8 (b.toNat : Int)) (h1 : MadeO w0 w v l) (hl : l.length + 1 ≤ 1099511627776)
    (hk : ∀ u v' w', MadeO w0 w' v' (l ++ [b]) → k.sem P R Γ (n + 2) (ext (ext ρ n [u]) (n + 1) [v']) w') :
    (Tr.op (.buildSlice c.tBytes 1 ⟨[(0, y)]⟩) none [] <| Tr.op (.call { callee := .builtin .append, args := ⟨[x, .tmp n]⟩, argTypes := ⟨[c.tBytes, c.tBytes]⟩ }) none [] k).sem P R Γ n ρ w := by
  refine s_litO S hy fun u w1 hM => ?_
  exact s_appendO (l2 := [b]) S (by rw [ev_ext hbx]; exact hx) ext_at (h1.more hM.2.2) (hM.1.reads.src S.rd.bytes (bcells_one _)) (by simpa using hl) fun v' w2 hm kk => ⟨fun p hp => (by cases hp), hk u v' w2 hm⟩

theorem fixed_gives (S : SpFacts P c s) (hT : treeIn P s.fixed noOrc [.tmp 0, .tmp 1] 2 = tFixed c) (x : Int) (m : Nat) (hm : m ≤ 8) : YieldsO P s.fixed [.int .i64 x, .int .i64 m] w (pFixed x m) := by
  refine gives_in (ρ := en [_, _]) S.rd.mix hT (Nat.le_refl _) rfl (by simp [opBelow]) ?_
  refine s_val (v_arith (kk := .i64) (a := m) (b := 1) (r := (m : Int) - 1) rfl rfl (by simp only [arithOf, Option.some.injEq]; rw [IntKind.wrap_i64]; omega)) ?_
  refine ⟨rfl, fun vs w' => ∃ (v : Value) (j : Nat) (d : List UInt8), vs = [v, .int .i64 ((j : Int) - 1)] ∧ j ≤ m ∧ MadeO w w' v d ∧ d ++ pFixed x j = pFixed x m, fun vs _ => match vs with
    | [_, .int _ j] => (j + 1).toNat
    | _ => 0, ⟨.slice none 0 0, m, [], rfl, Nat.le_refl _, MadeO.nil w, rfl⟩, ?_⟩
  rintro _ w' _ ⟨v, j, d, rfl, hj, hM, hd⟩
  refine s_val (v_cmp (kk := .i64) (a := (j : Int) - 1) (b := 0) (r := decide ((j : Int) - 1 ≥ 0)) rfl rfl rfl) ?_
  refine s_cond (b := decide ((j : Int) - 1 ≥ 0)) rfl (fun hb => ?_) fun hb => ?_
  · obtain ⟨i, rfl⟩ : ∃ i, j = i + 1 := ⟨j - 1, by
      have : (j : Int) - 1 ≥ 0 := by simpa using hb
      omega⟩
    have hi : (((i + 1 : Nat) : Int) - 1) = (i : Int) := by omega
    rw [hi] at hb ⊢
    refine s_val (v_arith (kk := .i64) (a := 8) (b := i) (r := ((8 * i : Nat) : Int)) rfl rfl (by simp only [arithOf, Option.some.injEq]; rw [IntKind.wrap_i64]; omega)) ?_
    refine s_val (v_shr (kk := .i64) (k2 := .i64) (a := x) (j := 8 * i) rfl rfl (by simp only [IntKind.bits]; omega)) ?_
    refine s_val (v_conv (k1 := .i64) (k2 := .u8) (a := x / 2 ^ (8 * i)) S.ty.i64 S.rd.u8 rfl) ?_
    have hl : d.length + (i + 1) = m := by
      have := congrArg List.length hd
      rw [List.length_append, pFixed_length, pFixed_length] at this
      exact this
    refine s_pushO (v := v) (l := d) (b := octOf x i) (w0 := w) S rfl (by simp [opBelow]) (octCell (x / 2 ^ (8 * i))) hM (by omega) fun _ v' w2 hM2 => ?_
    refine s_val (v_arith (kk := .i64) (a := i) (b := 1) (r := (i : Int) - 1) rfl rfl (by simp only [arithOf, Option.some.injEq]; rw [IntKind.wrap_i64]; omega)) ?_
    refine ⟨_, rfl, ⟨v', i, d ++ [octOf x i], rfl, by omega, hM2, by rw [List.append_assoc]; exact hd⟩, ?_⟩
    show ((i : Int) - 1 + 1).toNat < ((i : Int) + 1).toNat
    omega
  · have h0 : j = 0 := by
      have : ¬ (j : Int) - 1 ≥ 0 := by simpa using hb
      omega
    subst h0
    rw [pFixed, List.append_nil] at hd
    subst hd
    exact s_ret1 hM

theorem uv_gives (S : SpFacts P c s) (hT : treeIn P s.uv noOrc [.tmp 0] 1 = tUv c) (x : Nat) (hx : x < 2 ^ 64) : YieldsO P s.uv [.int .u64 x] w (pUv x) := by
  refine gives_in (ρ := en [_]) S.rd.mix hT (Nat.le_refl _) rfl (by simp [opBelow]) ?_
  refine ⟨rfl, fun vs w' => ∃ (v : Value) (q m : Nat) (d : List UInt8), vs = [v, .int .u64 m] ∧ m < 128 ^ (q + 1) ∧ m < 2 ^ 64 ∧ MadeO w w' v d ∧ d ++ pUvN q m = pUv x ∧ d.length + q = 10, fun vs _ => match vs with
    | [_, .int _ j] => j.toNat
    | _ => 0, ⟨.slice none 0 0, 10, x, [], rfl, by omega, hx, MadeO.nil w, rfl, rfl⟩, ?_⟩
  rintro _ w' _ ⟨v, q, m, d, rfl, hq, hm, hM, hd, hl⟩
  refine s_val (v_cmp (kk := .u64) (a := m) (b := 127) (r := decide ((m : Int) > 127)) rfl rfl rfl) ?_
  refine s_cond (b := decide ((m : Int) > 127)) rfl (fun hb => ?_) fun hb => ?_
  · have hgt : 127 < m := by
      have : (m : Int) > 127 := by simpa using hb
      omega
    obtain ⟨p, rfl⟩ : ∃ p, q = p + 1 := by
      cases q with
      | zero => simp at hq; omega
      | succ p => exact ⟨p, rfl⟩
    refine s_val (v_bits (op := .and) (kk := .u64) (.inl rfl) rfl rfl (and127_u64 m hm)) ?_
    refine s_val (v_conv (k1 := .u64) (k2 := .u8) (a := ((m % 128 : Nat) : Int)) S.u64 S.rd.u8 rfl) ?_
    have e1 : IntKind.u8.wrap ((m % 128 : Nat) : Int) = ((m % 128 : Nat) : Int) := by rw [wrap_u8']; omega
    rw [e1]
    refine s_val (v_bits (op := .or) (kk := .u8) (.inr rfl) rfl rfl (or128_u8 (m % 128) (by omega))) ?_
    refine s_pushO (v := v) (l := d) (b := UInt8.ofNat (m % 128 + 128)) (w0 := w) S rfl (by simp [opBelow]) (show _ = Value.int .u8 (((UInt8.ofNat (m % 128 + 128)).toNat : Nat) : Int) by rw [UInt8.toNat_ofNat', Nat.mod_eq_of_lt (show m % 128 + 128 < 2 ^ 8 by omega)]; rfl) hM (by omega) fun _ v' w2 hM2 => ?_
    refine s_val (v_shr (kk := .u64) (k2 := .u64) (a := m) (j := 7) rfl rfl (by decide)) ?_
    have e2 : ((m : Int) / 2 ^ 7) = ((m / 128 : Nat) : Int) := by omega
    rw [e2]
    refine ⟨_, rfl, ⟨v', p, m / 128, d ++ [UInt8.ofNat (m % 128 + 128)], rfl, ?_, by omega, hM2, ?_, by simp; omega⟩, ?_⟩
    · rw [Nat.pow_succ] at hq
      exact Nat.div_lt_of_lt_mul (by rw [Nat.mul_comm]; exact hq)
    · rw [← hd, pUvN, if_pos hgt, List.append_assoc]
      rfl
    · show ((m / 128 : Nat) : Int).toNat < (m : Int).toNat
      omega
  · have hle : ¬ 127 < m := by
      have : ¬ (m : Int) > 127 := by simpa using hb
      omega
    refine s_val (v_conv (k1 := .u64) (k2 := .u8) (a := (m : Int)) S.u64 S.rd.u8 rfl) ?_
    have e1 : IntKind.u8.wrap (m : Int) = (m : Int) := by rw [wrap_u8']; omega
    rw [e1]
    refine s_pushO (v := v) (l := d) (b := UInt8.ofNat m) (w0 := w) S rfl (by simp [opBelow]) (show _ = Value.int .u8 (((UInt8.ofNat m).toNat : Nat) : Int) by rw [UInt8.toNat_ofNat', Nat.mod_eq_of_lt (show m < 2 ^ 8 by omega)]; rfl) hM (by omega) fun _ v' w2 hM2 => ?_
    have hfin : d ++ [UInt8.ofNat m] = pUv x := by
      rw [← hd]
      cases q with
      | zero => rfl
      | succ p => rw [pUvN, if_neg hle]
    rw [hfin] at hM2
    exact s_ret1 hM2

theorem pUvN_length : ∀ (q m : Nat), (pUvN q m).length ≤ q + 1
  | 0, _ => by simp [pUvN]
  | q + 1, m => by
    rw [pUvN]
    split
    · have := pUvN_length q (m / 128); simp; omega
    · simp

theorem pUv_length (m : Nat) : (pUv m).length ≤ 11 := pUvN_length 10 m

theorem counted_gives (S : SpFacts P c s) (hF : ∀ (w : World) (x : Int) (m : Nat), m ≤ 8 → YieldsO P s.fixed [.int .i64 x, .int .i64 m] w (pFixed x m)) (hU : ∀ (w : World) (x : Nat), x < 2 ^ 64 → YieldsO P s.uv [.int .u64 x] w (pUv x))
    (hT : treeIn P s.counted noOrc [.tmp 0, .tmp 1, .tmp 2, .tmp 3] 4 = tCounted c s) (fl nu : Bool) (x m : Nat) (hx : x < 2 ^ 62) (hm : m ≤ 8) : YieldsO P s.counted [.bool fl, .bool nu, .int .i64 x, .int .i64 m] w (pCounted fl nu x m) := by
  refine gives_in (ρ := en [_, _, _, _]) S.rd.mix hT (Nat.le_refl _) rfl (by simp [opBelow]) ?_
  have hlen : ∀ {k2 : Tr}, (∀ (u1 u2 : Value), k2.sem P (fun u w' => Own w' u 1 (pUv (x + 1)).length (bcells (pUv (x + 1))) ∧ (∀ b ∈ blkOf u, w.heap.size ≤ b) ∧ Keeps [] w w') [] 6 (ext (ext (en [.bool fl, .bool nu, .int .i64 x, .int .i64 m]) 4 [.int .u64 x]) 5 [.int .u64 ((x + 1 : Nat) : Int)]) w) →
      (Tr.op (.convert c.tInt c.tU64 (.tmp 2)) none [] <| Tr.op (.binOp .add c.tU64 (.tmp 4) (.const (.int .u64 1)) c.tU64) none [] k2).sem P (fun u w' => Own w' u 1 (pUv (x + 1)).length (bcells (pUv (x + 1))) ∧ (∀ b ∈ blkOf u, w.heap.size ≤ b) ∧ Keeps [] w w') [] 4 (en [.bool fl, .bool nu, .int .i64 x, .int .i64 m]) w := fun hk2 => by
    refine s_val (v_conv (k1 := .i64) (k2 := .u64) (a := (x : Int)) S.rd.int S.u64 rfl) ?_
    rw [wraps_u64 _ (by omega) (by omega)]
    refine s_val (v_arith (kk := .u64) (a := x) (b := 1) (r := ((x + 1 : Nat) : Int)) rfl rfl ?_) (hk2 undef undef)
    simp only [arithOf, Option.some.injEq]; rw [wraps_u64 _ (by omega) (by omega)]; omega
  cases fl
  · refine s_cond (b := false) rfl (fun h => by cases h) fun _ => ?_
    refine s_cond (b := false) rfl (fun h => by cases h) fun _ => ?_
    cases nu
    · refine s_cond (b := false) rfl (fun h => by cases h) fun _ => ?_
      exact s_callx (hF w x m hm) rfl fun v w' h => s_ret1 h
    · refine s_cond (b := true) rfl (fun _ => ?_) fun h => by cases h
      exact s_callx (hF w (-1) m hm) rfl fun v w' h => s_ret1 h
  · refine s_cond (b := true) rfl (fun _ => ?_) fun h => by cases h
    cases nu
    · refine s_cond (b := false) rfl (fun h => by cases h) fun _ => ?_
      refine s_cond (b := true) rfl (fun _ => ?_) fun h => by cases h
      exact hlen fun _ _ => s_callx (hU w (x + 1) (by omega)) rfl fun v w' h => s_ret1 h
    · refine s_cond (b := true) rfl (fun _ => ?_) fun h => by cases h
      exact s_litO (b := 0) S rfl fun v' w1 hM => s_ret1 hM

end

end Go.Kf

namespace Go.Kf

open Go

def tValue (c : Nums) (s : SN) : Tr :=
  .op (.box c.sTree (.tmp 5)) none [] <|
  .op (.binOp .eql c.tInt (.tmp 0) (.const (.int .i64 0)) c.tInt) none [] <|
  .cond (.tmp 7) (
    .op (.fieldAddr c.sTree (.tmp 6) 0) none [] <|
    .op (.load c.tI64 (.tmp 8)) none [] <|
    .op (.binOp .and c.tI64 (.tmp 9) (.const (.int .i64 1)) c.tI64) none [] <|
    .op (.convert c.tI64 c.tU8 (.tmp 10)) none [] <|
    .op (.buildSlice c.tBytes 1 ⟨[(0, (.tmp 11))]⟩) none [] <|
    .ret [((.tmp 12), none)]
  ) (
    .op (.binOp .eql c.tInt (.tmp 0) (.const (.int .i64 7)) c.tInt) none [] <|
    .cond (.tmp 8) (
      .op (.makeSlice c.tBytes (.const (.int .i64 16)) (.const (.int .i64 16))) none [] <|
      .op (.fieldAddr c.sTree (.tmp 6) 1) none [] <|
      .op (.load c.tBytes (.tmp 10)) none [] <|
      .op (.call { callee := (.builtin .copy), args := ⟨[(.tmp 9), (.tmp 11)]⟩, argTypes := ⟨[c.tBytes, c.tBytes]⟩ }) none [] <|
      .ret [((.tmp 9), none)]
    ) (
      .op (.binOp .eql c.tInt (.tmp 0) (.const (.int .i64 8)) c.tInt) none [] <|
      .cond (.tmp 9) (
        .op (.fieldAddr c.sTree (.tmp 6) 1) none [] <|
        .op (.load c.tBytes (.tmp 10)) none [] <|
        .op (callOp s.whole [(.tmp 11)]) none [] <|
        .join 0 (
          .cond (.tmp 2) (
            .to 0 [(.const (.slice none 0 0))]
          ) (
            .to 0 [(.tmp 12)]
          )
        ) 1 <|
        .op (.call { callee := (.builtin .len), args := ⟨[(.tmp 13)]⟩, argTypes := ⟨[c.tBytes]⟩ }) none [] <|
        .op (callOp s.counted [(.tmp 4), (.tmp 2), (.tmp 14), (.const (.int .i64 2))]) none [] <|
        .op (.call { callee := (.builtin .append), args := ⟨[(.tmp 15), (.tmp 13)]⟩, argTypes := ⟨[c.tBytes, c.tBytes]⟩ }) none [] <|
        .ret [((.tmp 16), none)]
      ) (
        .op (.binOp .eql c.tInt (.tmp 0) (.const (.int .i64 9)) c.tInt) none [] <|
        .cond (.tmp 10) (
          .op (.fieldAddr c.sTree (.tmp 6) 1) none [] <|
          .op (.load c.tBytes (.tmp 11)) none [] <|
          .op (callOp s.whole [(.tmp 12)]) none [] <|
          .join 0 (
            .cond (.tmp 2) (
              .to 0 [(.const (.slice none 0 0))]
            ) (
              .to 0 [(.tmp 13)]
            )
          ) 1 <|
          .op (.call { callee := (.builtin .len), args := ⟨[(.tmp 14)]⟩, argTypes := ⟨[c.tBytes]⟩ }) none [] <|
          .op (callOp s.counted [(.tmp 4), (.tmp 2), (.tmp 15), (.const (.int .i64 4))]) none [] <|
          .op (.call { callee := (.builtin .append), args := ⟨[(.tmp 16), (.tmp 14)]⟩, argTypes := ⟨[c.tBytes, c.tBytes]⟩ }) none [] <|
          .ret [((.tmp 17), none)]
        ) (
          .op (.binOp .eql c.tInt (.tmp 0) (.const (.int .i64 10)) c.tInt) none [] <|
          .cond (.tmp 11) (
            .op (.load c.sTree (.tmp 6)) none [] <|
            .op (callOp s.part [(.tmp 1), (.tmp 3), (.tmp 4), (.tmp 12)]) none [] <|
            .ret [((.tmp 13), none)]
          ) (
            .draw <|
            .pur (.fieldAddr c.sTree (.tmp 6) 0) none <|
            .lok (.load c.tI64 (.tmp 12)) none <|
            .op (callOp s.width [(.tmp 0)]) none [((.load c.tI64 (.tmp 12)), 13)] <|
            .op (callOp s.fixed [(.tmp 13), (.tmp 14)]) none [] <|
            .ret [((.tmp 15), none)]
          )
        )
      )
    )
  )

def tField (c : Nums) (s : SN) : Tr :=
  .op (.box s.field (.tmp 0)) none [] <|
  .op (.box c.sTree (.tmp 3)) none [] <|
  .op (.load s.field (.tmp 4)) none [] <|
  .op (.load c.sTree (.tmp 5)) none [] <|
  .op (callOp s.null [(.tmp 6), (.tmp 1), (.tmp 7)]) none [] <|
  .op (.fieldAddr s.field (.tmp 4) 0) none [] <|
  .op (.load c.tInt (.tmp 9)) none [] <|
  .op (.binOp .eql c.tInt (.tmp 10) (.const (.int .i64 11)) c.tInt) none [] <|
  .cond (.tmp 11) (
    .op (.fieldAddr c.sTree (.tmp 5) 3) none [] <|
    .op (.load c.sTrees (.tmp 12)) none [] <|
    .op (callOp s.things [(.tmp 13)]) none [] <|
    .join 0 (
      .cond (.tmp 8) (
        .to 0 [(.const (.slice none 0 0))]
      ) (
        .to 0 [(.tmp 14)]
      )
    ) 1 <|
    .op (.call { callee := (.builtin .len), args := ⟨[(.tmp 15)]⟩, argTypes := ⟨[c.sTrees]⟩ }) none [] <|
    .op (callOp s.counted [(.tmp 2), (.tmp 8), (.tmp 16), (.const (.int .i64 4))]) none [] <|
    .op (.call { callee := (.builtin .len), args := ⟨[(.tmp 15)]⟩, argTypes := ⟨[c.sTrees]⟩ }) none [] <|
    .loop 0 [(.tmp 17), (.const (.int .i64 0))] <|
    .op (.binOp .lss c.tInt (.tmp 20) (.tmp 18) c.tInt) none [] <|
    .cond (.tmp 21) (
      .draw <|
      .pur (.fieldAddr s.field (.tmp 4) 6) none <|
      .lok (.load c.tInt (.tmp 22)) none <|
      .pur (.fieldAddr s.field (.tmp 4) 7) none <|
      .lok (.load s.fields (.tmp 24)) none <|
      .pur (.indexAddr c.sTrees (.tmp 15) (.tmp 20)) none <|
      .lok (.load c.sTree (.tmp 26)) none <|
      .op (callOp s.value [(.tmp 23), (.tmp 25), (.const (.bool false)), (.tmp 1), (.tmp 2), (.tmp 27)]) none [] <|
      .op (.call { callee := (.builtin .append), args := ⟨[(.tmp 19), (.tmp 28)]⟩, argTypes := ⟨[c.tBytes, c.tBytes]⟩ }) none [] <|
      .op (.binOp .add c.tInt (.tmp 20) (.const (.int .i64 1)) c.tInt) none [] <|
      .to 0 [(.tmp 29), (.tmp 30)]
    ) (
      .ret [((.tmp 19), none)]
    )
  ) (
    .op (.fieldAddr s.field (.tmp 4) 0) none [] <|
    .op (.load c.tInt (.tmp 12)) none [] <|
    .op (.binOp .eql c.tInt (.tmp 13) (.const (.int .i64 10)) c.tInt) none [] <|
    .cond (.tmp 14) (
      .op (.fieldAddr s.field (.tmp 4) 3) none [] <|
      .op (.load c.tInt (.tmp 15)) none [] <|
      .op (.binOp .geq c.tInt (.tmp 16) (.const (.int .i64 0)) c.tInt) none [] <|
      .cond (.tmp 17) (
        .cond (.tmp 8) (
          .op (callOp s.fixed [(.const (.int .i64 (-1))), (.const (.int .i64 1))]) none [] <|
          .ret [((.tmp 18), none)]
        ) (
          .draw <|
          .pur (.fieldAddr s.field (.tmp 4) 7) none <|
          .lok (.load s.fields (.tmp 18)) none <|
          .lok (.load c.sTree (.tmp 5)) none <|
          .op (callOp s.fixed [(.const (.int .i64 1)), (.const (.int .i64 1))]) none [((.load c.sTree (.tmp 5)), 20), ((.load s.fields (.tmp 18)), 19)] <|
          .op (callOp s.part [(.tmp 19), (.tmp 1), (.tmp 2), (.tmp 20)]) none [] <|
          .op (.call { callee := (.builtin .append), args := ⟨[(.tmp 21), (.tmp 22)]⟩, argTypes := ⟨[c.tBytes, c.tBytes]⟩ }) none [] <|
          .ret [((.tmp 23), none)]
        )
      ) (
        .op (.fieldAddr s.field (.tmp 4) 0) none [] <|
        .op (.load c.tInt (.tmp 18)) none [] <|
        .op (.fieldAddr s.field (.tmp 4) 7) none [] <|
        .op (.load s.fields (.tmp 20)) none [] <|
        .op (.load c.sTree (.tmp 5)) none [] <|
        .op (callOp s.value [(.tmp 19), (.tmp 21), (.tmp 8), (.tmp 1), (.tmp 2), (.tmp 22)]) none [] <|
        .ret [((.tmp 23), none)]
      )
    ) (
      .op (.fieldAddr s.field (.tmp 4) 0) none [] <|
      .op (.load c.tInt (.tmp 15)) none [] <|
      .op (.fieldAddr s.field (.tmp 4) 7) none [] <|
      .op (.load s.fields (.tmp 17)) none [] <|
      .op (.load c.sTree (.tmp 5)) none [] <|
      .op (callOp s.value [(.tmp 16), (.tmp 18), (.tmp 8), (.tmp 1), (.tmp 2), (.tmp 19)]) none [] <|
      .ret [((.tmp 20), none)]
    )
  )

def tWrite (c : Nums) (s : SN) : Tr :=
  .op (.box s.msg (.tmp 0)) none [] <|
  .op (.box c.sTree (.tmp 2)) none [] <|
  .op (.fieldAddr s.msg (.tmp 3) 0) none [] <|
  .op (.load s.fields (.tmp 5)) none [] <|
  .op (.fieldAddr s.msg (.tmp 3) 1) none [] <|
  .op (.load c.tInt (.tmp 7)) none [] <|
  .op (.binOp .geq c.tInt (.tmp 8) (.const (.int .i64 0)) c.tInt) none [] <|
  .cond (.tmp 9) (
    .op (.fieldAddr s.msg (.tmp 3) 1) none [] <|
    .op (.load c.tInt (.tmp 10)) none [] <|
    .op (.binOp .geq c.tInt (.tmp 1) (.tmp 11) c.tInt) none [] <|
    .op (.load c.sTree (.tmp 4)) none [] <|
    .op (callOp s.part [(.tmp 6), (.tmp 1), (.tmp 12), (.tmp 13)]) none [] <|
    .ret [((.tmp 14), none)]
  ) (
    .op (.load c.sTree (.tmp 4)) none [] <|
    .op (callOp s.part [(.tmp 6), (.tmp 1), (.const (.bool false)), (.tmp 10)]) none [] <|
    .ret [((.tmp 11), none)]
  )

mutual
/-- What a tree says fits its kinds. -/
def PT.ok : PT → Prop
  | .mk n _ _ l u => IntKind.i64.wrap n = n ∧ (∀ p ∈ u, p.1 < 4294967296) ∧ PT.oks l
def PT.oks : List PT → Prop
  | [] => True
  | t :: r => t.ok ∧ PT.oks r
end

theorem PT.oks_mem : ∀ {l : List PT}, PT.oks l → ∀ t ∈ l, t.ok
  | [], _, t, h => by cases h
  | x :: l, ⟨h1, h2⟩, t, h => by
    rcases List.mem_cons.1 h with rfl | h
    · exact h1
    · exact PT.oks_mem h2 t h

theorem PT.oks_of : ∀ {l : List PT}, (∀ t ∈ l, t.ok) → PT.oks l
  | [], _ => trivial
  | x :: l, h => ⟨h x (by simp), PT.oks_of fun t ht => h t (by simp [ht])⟩

theorem PT.ok_zero : PT.zero.ok := ⟨by decide, (fun p hp => by cases hp), trivial⟩

theorem PT.ok.l {t : PT} (h : t.ok) : ∀ x ∈ t.l, x.ok := by
  cases t
  exact PT.oks_mem h.2.2

theorem PT.ok.at {t : PT} (h : t.ok) (i : Nat) : (pAt t i).ok := by
  unfold pAt
  rw [List.getD_eq_getElem?_getD]
  by_cases hi : i < t.l.length
  · rw [List.getElem?_eq_getElem hi]; exact h.l _ (List.getElem_mem hi)
  · rw [List.getElem?_eq_none (by omega)]; exact PT.ok_zero

theorem PT.ok.u {t : PT} (h : t.ok) : ∀ p ∈ t.u, p.1 < 4294967296 := by
  cases t
  exact h.2.1

theorem PT.ok.n {t : PT} (h : t.ok) : IntKind.i64.wrap t.n = t.n := by
  cases t
  exact h.1

/-- How long what is written may get. -/
def maxW : Nat := 1099511627776

section

variable {P : Program} {c : Nums} {s : SN} {R : Value → World → Prop} {Γ : List (List Value → World → Prop)} {n : Nat} {ρ : Nat → Value} {w : World} {k : Tr}

def PartOf (P : Program) (s : SN) (fs : List PF) : Prop := ∀ (w : World) (fv : Value) (v : Int) (fl : Bool) (t : PT) (ts : List Value), FieldsV w fs fv → TreeC w t ts → t.ok → (pPart fs v fl t).length ≤ maxW → YieldsO P s.part [fv, .int .i64 v, .bool fl, .agg ⟨ts⟩] w (pPart fs v fl t)

def FieldOf (P : Program) (s : SN) (f : PF) : Prop := ∀ (w : World) (v : Int) (fl : Bool) (t : PT) (cs ts : List Value), FieldC w f cs → TreeC w t ts → t.ok → (pField f v fl t).length ≤ maxW → YieldsO P s.fld [.agg ⟨cs⟩, .int .i64 v, .bool fl, .agg ⟨ts⟩] w (pField f v fl t)

/-- The reference's small functions. -/
structure Smalls (P : Program) (s : SN) : Prop where
  has : ∀ (w : World) (f : PF) (cs : List Value) (v : Int), FieldC w f cs → Yields P s.has [.agg ⟨cs⟩, .int .i64 v] w (.bool (pHas f v))
  null : ∀ (w : World) (f : PF) (t : PT) (cs ts : List Value) (v : Int), FieldC w f cs → TreeC w t ts → Yields P s.null [.agg ⟨cs⟩, .int .i64 v, .agg ⟨ts⟩] w (.bool (pNull f v t))
  whole : ∀ (w : World) (v : Value) (l : List UInt8), Ro w v 1 l.length (bcells l) → Gives P s.whole [v] w fun u w' => w' = w ∧ ∀ w0, Ro w0 v 1 l.length (bcells l) → Ro w0 u 1 (pWhole l).length (bcells (pWhole l))
  things : ∀ (w : World) (v : Value) (l : List PT) (cs : List Value), Ro w v 5 l.length cs → TreesC w l cs → Gives P s.things [v] w fun u w' => w' = w ∧ ∃ cs', Ro w u 5 (pThings l).length cs' ∧ TreesC w (pThings l) cs'
  at_ : ∀ (w : World) (t : PT) (ts : List Value) (i : Nat), TreeC w t ts → Gives P s.at_ [.agg ⟨ts⟩, .int .i64 i] w fun u w' => Keeps [] w w' ∧ ∃ cs, u = .agg ⟨cs⟩ ∧ TreeC w' (pAt t i) cs
  width : ∀ (w : World) (x : Int), Yields P s.width [.int .i64 x] w (.int .i64 (pWidth x))
  fixed : ∀ (w : World) (x : Int) (m : Nat), m ≤ 8 → YieldsO P s.fixed [.int .i64 x, .int .i64 m] w (pFixed x m)
  uv : ∀ (w : World) (x : Nat), x < 2 ^ 64 → YieldsO P s.uv [.int .u64 x] w (pUv x)
  counted : ∀ (w : World) (fl nu : Bool) (x m : Nat), x < 2 ^ 62 → m ≤ 8 → YieldsO P s.counted [.bool fl, .bool nu, .int .i64 x, .int .i64 m] w (pCounted fl nu x m)

theorem pWidth_le (k : Int) : pWidth k ≤ 8 := by
  unfold pWidth
  split
  · omega
  · split
    · omega
    · split <;> omega

/-- A call whose value is new octets. -/
theorem s_callO {f : Nat} {xs : List Operand} {args : List Value} {l : List UInt8} {Fo : List (Op × Nat)} (h : YieldsO P f args w l) (hx : xs.map (ev ρ) = args)
    (hk : ∀ v w', MadeO w w' v l → (∀ p ∈ Fo, runOp P ρ p.1 w' = .ok (.value (ρ p.2)) w') ∧ k.sem P R Γ (n + 1) (ext ρ n [v]) w') : (Tr.op (callOp f xs) none Fo k).sem P R Γ n ρ w := by
  subst hx
  exact s_call h fun v w' hp => hk v w' hp

/-- make([]byte, 16), and what is copied there. -/
theorem s_id {v : Value} {l : List UInt8} {b o : Nat} {bc : List Value} {p : Operand} (S : SpFacts P c s) (hp : ev ρ p = ptr b o) (hbp : opBelow n p) (hh : Has w b bc) (hv : bc[o + 1]? = some v) (hr : Ro w v 1 l.length (bcells l))
    (hk : ∀ v' w', MadeO w w' v' (pId l) → k.sem P R Γ (n + 4) (ext (ext (ext (ext ρ n [v']) (n + 1) [ptr b (o + 1)]) (n + 2) [v]) (n + 3) [goInt (Nat.min l.length 16)]) w') :
    (Tr.op (.makeSlice c.tBytes (.const (.int .i64 16)) (.const (.int .i64 16))) none [] <| Tr.op (.fieldAddr c.sTree p 1) none [] <| Tr.op (.load c.tBytes (.tmp (n + 1))) none [] <|
      Tr.op (.call { callee := .builtin .copy, args := ⟨[.tmp n, .tmp (n + 2)]⟩, argTypes := ⟨[c.tBytes, c.tBytes]⟩ }) none [] k).sem P R Γ n ρ w := by
  obtain ⟨inf, hi, hz, hsz, hb⟩ := S.zero8
  obtain ⟨w1, e1, h1, k1, z1⟩ := a_makeSlice (P := P) (ρ := ρ) (w := w) (x := .const (.int .i64 16)) (y := .const (.int .i64 16)) S.rd.bytes hi hz (by rw [hsz]; rfl) (by omega) rfl rfl (by decide) (by decide) (by omega) (by decide)
  refine s_act e1 (fun p hp => (by cases hp)) ?_
  have hh1 := hh.keep k1 (by simp)
  refine s_fl S.ty.f1 S.rd.oneBytes (by rw [ev_ext hbp]; exact hp) rfl hh1 hv ?_
  have hr1 := hr.keep k1
  have hy : ev (ext (ext (ext ρ n [.slice (some ⟨w.heap.size, 0, none⟩) 16 16]) (n + 1) [ptr b (o + 1)]) (n + 2) [v]) (.tmp (n + 2)) = v := ext_at
  have hx : ev (ext (ext (ext ρ n [.slice (some ⟨w.heap.size, 0, none⟩) 16 16]) (n + 1) [ptr b (o + 1)]) (n + 2) [v]) (.tmp n) = .slice (some ⟨w.heap.size, 0, none⟩) 16 16 := by
    show ext _ _ _ n = _
    rw [ext_lt (by omega), ext_lt (by omega)]; exact ext_at
  have hz16 : (List.replicate (16 : Int).toNat (Value.int .u8 0).cells.toList).flatten = List.replicate 16 (Value.int .u8 0) := rfl
  rw [hz16] at h1
  obtain ⟨w2, h2, h3, h4⟩ := storeCells_run (P := P) ((bcells l).take 16) w1 w.heap.size 0 0 _ h1 (by simp; omega) fun u hu => bcells_one l u (List.mem_of_mem_take hu)
  have hlo : (Builtin.lenOf v).run P w1 = .ok l.length w1 := by
    obtain ⟨a, cp, rfl⟩ := hr.form
    rfl
  have hfc : (Builtin.firstCells 1 (Nat.min l.length 16) v).run P w1 = .ok ⟨(bcells l).take 16⟩ w1 := by
    by_cases h0 : l.length = 0
    · have : l = [] := List.eq_nil_of_length_eq_zero h0
      subst this
      obtain ⟨a, cp, rfl⟩ := hr.form
      cases a <;> simp [Builtin.firstCells, bcells, loadCells, loadCellsFrom]
    · obtain ⟨b2, o2, cap, e2, _, hcell⟩ := hr1.at (by omega)
      subst e2
      have hm : Nat.min l.length 16 * 1 ≤ l.length := by rw [Nat.mul_one]; exact Nat.min_le_left _ _
      have h5 := loadCellsFrom_cells (P := P) (w := w1) (b := b2) (o := o2) (xs := bcells l) (fun i hi => hcell i (by rw [bcells_length] at hi; omega)) (Nat.min l.length 16 * 1) 0 #[] (by rw [bcells_length]; omega)
      unfold Builtin.firstCells
      show (loadCells ⟨b2, o2, none⟩ _).run P w1 = _
      unfold loadCells
      rw [h5]
      congr 1
      apply Array.ext'
      simp only [List.drop_zero, Array.toList_append, List.nil_append, Nat.mul_one]
      rw [show (16 : Nat) = 16 from rfl, List.take_eq_take_iff, bcells_length]
      exact Nat.min_assoc _ _ _ |>.trans (by rw [Nat.min_comm 16 l.length, ← Nat.min_assoc, Nat.min_self])
  have e3 : runOp P (ext (ext (ext ρ n [.slice (some ⟨w.heap.size, 0, none⟩) 16 16]) (n + 1) [ptr b (o + 1)]) (n + 2) [v]) (.call { callee := .builtin .copy, args := ⟨[.tmp n, .tmp (n + 2)]⟩, argTypes := ⟨[c.tBytes, c.tBytes]⟩ }) w1 = .ok (.value (goInt (Nat.min l.length 16))) w2 := by
    have e1 : (Array.map (ev (ext (ext (ext ρ n [.slice (some ⟨w.heap.size, 0, none⟩) 16 16]) (n + 1) [ptr b (o + 1)]) (n + 2) [v])) ⟨[.tmp n, .tmp (n + 2)]⟩ : Array Value) = ⟨[.slice (some ⟨w.heap.size, 0, none⟩) 16 16, v]⟩ := by
      simp only [List.map_toArray, List.map_cons, List.map_nil, hx, hy]
    unfold runOp bareOp
    simp only [execOp, resolve, pure_bind, invoke, builtin, Sem.run_bind, e1]
    unfold Builtin.copy_
    simp [run_under S.rd.bytes, size_run S.rd.szU8, hlo, hfc, h2]
  refine s_act e3 (fun p hp => (by cases hp)) (hk _ w2 ⟨⟨?_, .inr ⟨w.heap.size, 16, [], ?_, ?_, ?_, by decide, ?_⟩⟩, fun b' hb' => ?_, ?_⟩)
  · rw [bcells_length, Nat.mul_one]
  · have : (pId l).length = 16 := by simp [pId]
    rw [this]; rfl
  · have : splice (List.replicate 16 (Value.int .u8 0)) 0 ((bcells l).take 16) = bcells (pId l) ++ [] := by
      have hrep : (List.replicate 16 (Value.int .u8 0)) = bcells (List.replicate 16 0) := by simp [bcells]
      rw [hrep, List.append_nil, bcells_take]
      unfold splice pId
      rw [List.take_zero, List.nil_append, Nat.zero_add, bcells_drop, ← bcells_append, bcells_length]
      congr 1
      rw [List.take_append, List.take_replicate, List.drop_replicate]
      congr 2
      rw [List.length_take]
      omega
    rw [← this]
    exact h3
  · simp [pId]
  · simp [pId, bcells_length]
  · simp only [blkOf, List.mem_singleton] at hb'
    omega
  · exact ((k1.mono (by simp)).trans h4).less fun b hb => .inr (by simp only [List.mem_singleton] at hb; omega)

theorem pCounted_length (fl nu : Bool) (x m : Nat) : (pCounted fl nu x m).length ≤ m + 11 := by
  unfold pCounted
  split
  · split
    · simp
    · have := pUv_length (x + 1); omega
  · split <;> rw [pFixed_length] <;> omega

/-- What is written of a text, or octets: from the null, or the whole, on. -/
theorem sem_text {w0 : World} {u : Value} {l : List UInt8} {nu fl : Bool} {m : Nat} {xv : Nat} (S : SpFacts P c s) (Q : Smalls P s) (hm : m ≤ 8) (h5 : 5 ≤ n) (hx : ρ xv = u) (h2 : ρ 2 = .bool nu) (h4 : ρ 4 = .bool fl) (hk0 : Keeps [] w0 w) (hu : Ro w u 1 (pWhole l).length (bcells (pWhole l)))
    (hR : ∀ v w', MadeO w0 w' v (let s := if nu then [] else pWhole l; pCounted fl nu s.length m ++ s) → R v w') :
    (Tr.join 0 (.cond (.tmp 2) (.to 0 [.const (.slice none 0 0)]) (.to 0 [.tmp xv])) 1 <|
      Tr.op (.call { callee := .builtin .len, args := ⟨[.tmp n]⟩, argTypes := ⟨[c.tBytes]⟩ }) none [] <|
      Tr.op (callOp s.counted [.tmp 4, .tmp 2, .tmp (n + 1), .const (.int .i64 m)]) none [] <|
      Tr.op (.call { callee := .builtin .append, args := ⟨[.tmp (n + 2), .tmp n]⟩, argTypes := ⟨[c.tBytes, c.tBytes]⟩ }) none [] <| .ret [(.tmp (n + 3), none)]).sem P R [] n ρ w := by
  refine ⟨rfl, fun vs w' => w' = w ∧ ∃ v, vs = [v] ∧ Ro w v 1 (if nu then [] else pWhole l).length (bcells (if nu then [] else pWhole l)), ?_, ?_⟩
  · refine s_cond (b := nu) h2 (fun hb => ⟨_, rfl, rfl, _, rfl, ?_⟩) fun hb => ⟨_, rfl, rfl, _, rfl, ?_⟩
    · rw [hb]; exact Ro.nil w 1
    · rw [hb]
      show Ro w (ρ xv) 1 _ _
      rw [hx]
      exact hu
  · rintro vs w' _ ⟨rfl, v, rfl, hr⟩
    have hlen : (if nu then [] else pWhole l).length ≤ 32767 := by
      split
      · simp
      · unfold pWhole; rw [List.length_take]; omega
    obtain ⟨a, cp, e⟩ := hr.form
    refine s_val (v_len (a := a) (l := (if nu then [] else pWhole l).length) (c := cp) S.rd.bytes (ext_at.trans e)) ?_
    refine s_callO (Q.counted w' fl nu (if nu then [] else pWhole l).length m (by omega) hm) ?_ fun v2 w2 hM => ⟨fun p hp => (by cases hp), ?_⟩
    · have e4 : ev (ext (ext ρ n [v]) (n + 1) [.int .i64 ((if nu then [] else pWhole l).length : Nat)]) (.tmp 4) = .bool fl := by show ext _ _ _ 4 = _; rw [ext_lt (by omega), ext_lt (by omega)]; exact h4
      have e2 : ev (ext (ext ρ n [v]) (n + 1) [.int .i64 ((if nu then [] else pWhole l).length : Nat)]) (.tmp 2) = .bool nu := by show ext _ _ _ 2 = _; rw [ext_lt (by omega), ext_lt (by omega)]; exact h2
      have e1 : ev (ext (ext ρ n [v]) (n + 1) [.int .i64 ((if nu then [] else pWhole l).length : Nat)]) (.tmp (n + 1)) = .int .i64 ((if nu then [] else pWhole l).length : Nat) := ext_at
      simp only [List.map_cons, List.map_nil, e4, e2, e1]
      rfl
    · have hM0 : MadeO w0 w2 v2 _ := ⟨hM.1, fun b hb => Nat.le_trans hk0.size (hM.2.1 b hb), hk0.trans hM.2.2⟩
      have ev1 : ev (ext (ext (ext ρ n [v]) (n + 1) [.int .i64 ((if nu then [] else pWhole l).length : Nat)]) (n + 2) [v2]) (.tmp n) = v := by show ext _ _ _ n = _; rw [ext_lt (by omega), ext_lt (by omega)]; exact ext_at
      refine s_appendO (v := v2) (u := v) (l2 := if nu then [] else pWhole l) S ext_at ev1 hM0 ((hr.keep hM.2.2).src S.rd.bytes (bcells_one _)) ?_ fun v3 w3 hM3 _ => ⟨fun p hp => (by cases hp), s_ret1 (hR _ _ ?_)⟩
      · have := pCounted_length fl nu (if nu then [] else pWhole l).length m
        rw [List.length_append]
        omega
      · show MadeO w0 w3 (ext _ _ _ _) _
        rw [ext_at]
        exact hM3

theorem value_gives (S : SpFacts P c s) (Q : Smalls P s) (hT : treeIn P s.value noOrc [.tmp 0, .tmp 1, .tmp 2, .tmp 3, .tmp 4, .tmp 5] 6 = tValue c s) {sub : List PF} (hP : PartOf P s sub) {fv : Value} {t : PT} {ts : List Value} (kind : Int) (nu fl : Bool) (v : Int) (hf : FieldsV w sub fv) (ht : TreeC w t ts) (hok : t.ok)
    (hl : (pValue (fun y => pPart sub v fl y) kind nu fl t).length ≤ maxW) : YieldsO P s.value [.int .i64 kind, fv, .bool nu, .int .i64 v, .bool fl, .agg ⟨ts⟩] w (pValue (fun y => pPart sub v fl y) kind nu fl t) := by
  have htc := ht
  obtain ⟨sv, lv, uv, lcs, ucs, rfl, h1, h2, h3, h4, h5⟩ := ht.cells
  refine gives_in (ρ := en [_, _, _, _, _, _]) S.rd.mix hT (Nat.le_refl _) rfl (by simp [opBelow]) ?_
  unfold pValue at hl ⊢
  refine s_box rfl fun w1 hx1 k1 z1 => ?_
  refine s_val (v_cmp (kk := .i64) (a := kind) (b := 0) (r := kind == 0) rfl rfl rfl) ?_
  refine s_cond (b := kind == 0) rfl (fun hb => ?_) fun hb => ?_
  · rw [if_pos (by simpa using hb)]
    refine s_fl S.ty.f0 S.ty.oneI64 rfl rfl hx1 rfl ?_
    refine s_val (v_bits (op := .and) (kk := .i64) (.inl rfl) rfl rfl (and1_i64 t.n)) ?_
    refine s_val (v_conv (k1 := .i64) (k2 := .u8) (a := t.n % 2) S.ty.i64 S.rd.u8 rfl) ?_
    refine s_litO (b := UInt8.ofNat (t.n % 2).toNat) S ?_ fun v' w2 hM => s_ret1 ⟨hM.1, fun b hb => Nat.le_trans k1.size (hM.2.1 b hb), k1.trans hM.2.2⟩
    show Value.int .u8 (IntKind.u8.wrap (t.n % 2)) = _
    rw [wrap_u8', UInt8.toNat_ofNat']
    congr 1
    omega
  rw [if_neg (by simpa using hb)] at hl ⊢
  refine s_val (v_cmp (kk := .i64) (a := kind) (b := 7) (r := kind == 7) rfl rfl rfl) ?_
  refine s_cond (b := kind == 7) rfl (fun hb => ?_) fun hb => ?_
  · rw [if_pos (by simpa using hb)]
    refine s_id (v := sv) (l := t.s) (b := w.heap.size) (o := 0) S rfl (by simp [opBelow]) hx1 rfl (h1.keep k1) fun v' w2 hM => s_ret1 ⟨hM.1, fun b hb => Nat.le_trans k1.size (hM.2.1 b hb), k1.trans hM.2.2⟩
  rw [if_neg (by simpa using hb)] at hl ⊢
  refine s_val (v_cmp (kk := .i64) (a := kind) (b := 8) (r := kind == 8) rfl rfl rfl) ?_
  refine s_cond (b := kind == 8) rfl (fun hb => ?_) fun hb => ?_
  · rw [if_pos (by simpa using hb)]
    refine s_fl S.ty.f1 S.rd.oneBytes rfl rfl hx1 rfl ?_
    refine s_callx (Q.whole w1 sv t.s (h1.keep k1)) rfl fun u w2 ⟨hw, hu⟩ => ?_
    subst hw
    exact sem_text (w0 := w) (xv := 12) S Q (by decide) (by decide) rfl rfl rfl k1 (hu _ (h1.keep k1)) fun v w' h => h
  rw [if_neg (by simpa using hb)] at hl ⊢
  refine s_val (v_cmp (kk := .i64) (a := kind) (b := 9) (r := kind == 9) rfl rfl rfl) ?_
  refine s_cond (b := kind == 9) rfl (fun hb => ?_) fun hb => ?_
  · rw [if_pos (by simpa using hb)]
    refine s_fl S.ty.f1 S.rd.oneBytes rfl rfl hx1 rfl ?_
    refine s_callx (Q.whole w1 sv t.s (h1.keep k1)) rfl fun u w2 ⟨hw, hu⟩ => ?_
    subst hw
    exact sem_text (w0 := w) (xv := 13) S Q (by decide) (by decide) rfl rfl rfl k1 (hu _ (h1.keep k1)) fun v w' h => h
  rw [if_neg (by simpa using hb)] at hl ⊢
  refine s_val (v_cmp (kk := .i64) (a := kind) (b := 10) (r := kind == 10) rfl rfl rfl) ?_
  refine s_cond (b := kind == 10) rfl (fun hb => ?_) fun hb => ?_
  · rw [if_pos (by simpa using hb)] at hl ⊢
    refine s_lok (l_loadN (b := w.heap.size) (o := 0) S.ty.agg rfl hx1 (show 0 + 5 ≤ 5 by omega)) ?_
    refine s_callO (hP w1 fv v fl t _ (hf.keep k1) (TreeC.keep k1 _ _ htc) hok hl) rfl fun v' w2 hM => ⟨fun p hp => (by cases hp), s_ret1 ⟨hM.1, fun b hb => Nat.le_trans k1.size (hM.2.1 b hb), k1.trans hM.2.2⟩⟩
  rw [if_neg (by simpa using hb)] at hl ⊢
  show Tr.sem _ _ _ _ _ _ { w1 with drawn := w1.drawn + 1 }
  have hd : Keeps [] w1 { w1 with drawn := w1.drawn + 1 } := keeps_drawn w1 _ _
  generalize ({ w1 with drawn := w1.drawn + 1 } : World) = w2 at hd ⊢
  have hx2 := hx1.keep hd (by simp)
  refine p_fl S.ty.f0 S.ty.oneI64 rfl rfl hx2 rfl ?_
  refine s_call (xs := [.tmp 0]) (Q.width w2 kind) fun u w3 ⟨hu, k3⟩ => ⟨?_, ?_⟩
  · intro p hp
    simp only [List.mem_singleton] at hp
    subst hp
    exact l_load1 (b := w.heap.size) (o := 0) S.ty.oneI64 rfl (hx2.keep k3 (by simp)) rfl
  · subst hu
    refine s_callO (Q.fixed w3 t.n (pWidth kind) (pWidth_le kind)) rfl fun v' w4 hM => ⟨fun p hp => (by cases hp), s_ret1 ?_⟩
    have k03 := (k1.trans hd).trans k3
    exact ⟨hM.1, fun b hb => Nat.le_trans k03.size (hM.2.1 b hb), k03.trans hM.2.2⟩

end

end Go.Kf

namespace Go.Kf

open Go

section

variable {P : Program} {c : Nums} {s : SN} {R : Value → World → Prop} {Γ : List (List Value → World → Prop)} {n : Nat} {ρ : Nat → Value} {w : World} {k : Tr}

theorem MadeO.under {w0 w1 : World} {v : Value} {l : List UInt8} (h : MadeO w1 w v l) (hk : Keeps [] w0 w1) : MadeO w0 w v l := ⟨h.1, fun b hb => Nat.le_trans hk.size (h.2.1 b hb), hk.trans h.2.2⟩

def ValueOf (P : Program) (s : SN) (sub : List PF) : Prop := ∀ (w : World) (fv : Value) (t : PT) (ts : List Value) (kind : Int) (nu fl : Bool) (v : Int), FieldsV w sub fv → TreeC w t ts → t.ok → (pValue (fun y => pPart sub v fl y) kind nu fl t).length ≤ maxW →
  YieldsO P s.value [.int .i64 kind, fv, .bool nu, .int .i64 v, .bool fl, .agg ⟨ts⟩] w (pValue (fun y => pPart sub v fl y) kind nu fl t)

theorem flatten_take {f : PT → List UInt8} {l : List PT} {j : Nat} (hj : j < l.length) : ((l.take (j + 1)).map f).flatten = ((l.take j).map f).flatten ++ f l[j] := by
  rw [List.take_succ_eq_append_getElem hj, List.map_append, List.flatten_append]
  simp

theorem flatten_le {f : PT → List UInt8} {l : List PT} (j : Nat) : ((l.take j).map f).flatten.length ≤ (l.map f).flatten.length := by
  have h : (l.map f).flatten = ((l.take j).map f).flatten ++ ((l.drop j).map f).flatten := by
    rw [← List.flatten_append, ← List.map_append, List.take_append_drop]
  rw [h, List.length_append]
  omega

theorem field_step (S : SpFacts P c s) (Q : Smalls P s) (hT : treeIn P s.fld noOrc [.tmp 0, .tmp 1, .tmp 2, .tmp 3] 4 = tField c s) {f : PF} (hV : ValueOf P s f.sub) (hP : PartOf P s f.sub) : FieldOf P s f := by
  intro w v fl t cs ts hfc ht hok hl
  rw [pField_eq] at hl ⊢
  have hfc0 := hfc
  obtain ⟨fv, rfl, hfs⟩ := hfc.cells
  have htc := ht
  obtain ⟨sv, lv, uv, lcs, ucs, rfl, h1, h2, h3, h4, h5⟩ := ht.cells
  refine gives_in (ρ := en [_, _, _, _]) S.rd.mix hT (Nat.le_refl _) rfl (by simp [opBelow]) ?_
  refine s_box rfl fun w1 hx1 k1 z1 => ?_
  refine s_box rfl fun w2 hy2 k2 z2 => ?_
  have hx2 := hx1.keep k2 (by simp)
  have k02 : Keeps [] w w2 := k1.trans k2
  refine s_lok (l_loadN (b := w.heap.size) (o := 0) S.agg rfl hx2 (show 0 + 8 ≤ 8 by omega)) ?_
  refine s_lok (l_loadN (b := w1.heap.size) (o := 0) S.ty.agg rfl hy2 (show 0 + 5 ≤ 5 by omega)) ?_
  refine s_callx (Q.null w2 f t _ _ v (FieldC.keep k02 _ _ hfc0) (TreeC.keep k02 _ _ htc)) rfl fun u w3 ⟨hu, k3⟩ => ?_
  subst hu
  have k03 := k02.trans k3
  have hx3 := hx2.keep k3 (by simp)
  have hy3 := hy2.keep k3 (by simp)
  refine s_fl S.f0 S.oneInt rfl rfl hx3 rfl ?_
  refine s_val (v_cmp (kk := .i64) (a := f.kind) (b := 11) (r := f.kind == 11) rfl rfl rfl) ?_
  unfold pFieldOf at hl ⊢
  simp only at hl ⊢
  refine s_cond (b := f.kind == 11) rfl (fun hb => ?_) fun hb => ?_
  · rw [if_pos (by simpa using hb)] at hl ⊢
    refine s_fl S.ty.f3 S.ty.oneTrees rfl rfl hy3 rfl ?_
    refine s_callx (Q.things w3 lv t.l lcs (h2.keep k03) (TreesC.keep k03 _ _ h3)) rfl fun u w4 ⟨hw, tcs, hr, htr⟩ => ?_
    subst hw
    generalize hll : (if pNull f v t = true then [] else pThings t.l) = l at hl ⊢
    have hl7 : l.length ≤ 32767 := by
      rw [← hll]
      split
      · simp
      · unfold pThings; rw [List.length_take]; omega
    have hlok : ∀ x ∈ l, x.ok := by
      intro x hx
      rw [← hll] at hx
      split at hx
      · cases hx
      · exact hok.l x (List.mem_of_mem_take hx)
    refine ⟨rfl, fun vs w' => w' = w4 ∧ ∃ u, vs = [u] ∧ ∃ cs', Ro w4 u 5 l.length cs' ∧ TreesC w4 l cs', ?_, ?_⟩
    · refine s_cond (b := pNull f v t) rfl (fun hb => ⟨_, rfl, rfl, _, rfl, ?_⟩) fun hb => ⟨_, rfl, rfl, _, rfl, ?_⟩
      · rw [hb] at hll
        subst hll
        exact ⟨[], Ro.nil w4 5, rfl⟩
      · rw [hb] at hll
        subst hll
        exact ⟨tcs, hr, htr⟩
    · rintro vs w' _ ⟨rfl, u, rfl, cs', hr', htr'⟩
      obtain ⟨a, cp, e⟩ := hr'.form
      refine s_val (v_len (a := a) (l := l.length) (c := cp) S.ty.sl e) ?_
      refine s_callO (Q.counted w' fl (pNull f v t) l.length 4 (by omega) (by decide)) rfl fun v2 w5 hM => ⟨fun p hp => (by cases hp), ?_⟩
      refine s_val (v_len (a := a) (l := l.length) (c := cp) S.ty.sl e) ?_
      have k35 := hM.2.2
      refine s_countV (n := 19) (q := 18) (kk := .i64) (m := l.length) (ri := [.tmp 17]) (Γ := []) (fun j vr w'' => ∃ acc, vr = [acc] ∧ MadeO w' w'' acc (pCounted fl (pNull f v t) l.length 4 ++ ((l.take j).map fun x => pValue (fun y => pPart f.sub v fl y) f.elem false fl x).flatten)) (by omega) rfl
        ⟨v2, rfl, by simpa using hM⟩ ?_ ?_
      · rintro j hj w6 vr ⟨acc, rfl, hA⟩ hvr J hJ
        have hj' : j < l.length := by omega
        show Tr.sem _ _ _ _ _ _ { w6 with drawn := w6.drawn + 1 }
        have hd : Keeps [] w6 { w6 with drawn := w6.drawn + 1 } := keeps_drawn w6 _ _
        have hA7 := hA.drawn (w6.drawn + 1)
        generalize ({ w6 with drawn := w6.drawn + 1 } : World) = w7 at hd hA7 ⊢
        have k37 : Keeps [] w' w7 := hA.2.2.trans hd
        have k07 := k03.trans k37
        have hx7 := hx3.keep k37 (by simp)
        refine p_fl S.f6 S.oneInt rfl rfl hx7 rfl ?_
        refine p_fl S.f7 S.oneFields rfl rfl hx7 rfl ?_
        obtain ⟨b, o, cap, e2, hbl, hel, hcell⟩ := (hr'.keep k37).elem hj' (by omega)
        have htj := TreesC.get (TreesC.keep k37 _ _ htr') hj'
        refine p_val (v_indexAddr (b := b) (o := o) (l := l.length) (c := cap) (j := j) (kk := .i64) S.ty.sl S.szT e2 rfl (by omega) (by omega)) ?_
        rw [Int.toNat_natCast]
        refine l_lok (l_cellN (b := b) (o := o + j * 5) S.ty.agg ext_at hel hcell) ?_
        rw [List.length_append] at hl
        have hle1 := flatten_le (f := fun x => pValue (fun y => pPart f.sub v fl y) f.elem false fl x) (l := l) (j + 1)
        rw [flatten_take hj', List.length_append] at hle1
        have hlj : (pValue (fun y => pPart f.sub v fl y) f.elem false fl l[j]).length ≤ maxW := by omega
        refine s_callO (hV w7 fv l[j] _ f.elem false fl v (hfs.keep k07) htj (hlok _ (List.getElem_mem hj')) hlj) rfl fun v3 w8 hM8 => ⟨fun p hp => (by cases hp), ?_⟩
        refine s_appendO (v := acc) (u := v3) (l2 := pValue (fun y => pPart f.sub v fl y) f.elem false fl l[j]) S rfl rfl (hA7.more hM8.2.2) (hM8.1.reads.src S.rd.bytes (bcells_one _)) (by simp only [List.length_append, maxW] at hl hle1 ⊢; omega) fun v4 w9 hM9 _ => ⟨fun p hp => (by cases hp), ?_⟩
        refine s_val (v_arith (kk := .i64) (a := j) (b := 1) (r := ((j + 1 : Nat) : Int)) rfl rfl ?_) ?_
        · simp only [arithOf, Option.some.injEq]; rw [IntKind.wrap_i64]; omega
        refine ⟨J, rfl, hJ [v4] _ rfl ⟨v4, rfl, ?_⟩⟩
        · rw [flatten_take hj', ← List.append_assoc]
          exact hM9
      · rintro w6 vr J ⟨acc, rfl, hA⟩ hvr
        rw [Int.toNat_natCast, List.take_length] at hA
        exact s_ret1 (hA.under k03)
  · have hne : ¬ f.kind = 11 := by simpa using hb
    rw [if_neg hne] at hl ⊢
    refine s_fl S.f0 S.oneInt rfl rfl hx3 rfl ?_
    refine s_val (v_cmp (kk := .i64) (a := f.kind) (b := 10) (r := f.kind == 10) rfl rfl rfl) ?_
    refine s_cond (b := f.kind == 10) rfl (fun hb2 => ?_) fun hb2 => ?_
    · have h10 : f.kind = 10 := by simpa using hb2
      refine s_fl S.f3 S.oneInt rfl rfl hx3 rfl ?_
      refine s_val (v_cmp (kk := .i64) (a := f.nul) (b := 0) (r := decide (f.nul ≥ 0)) rfl rfl rfl) ?_
      refine s_cond (b := decide (f.nul ≥ 0)) rfl (fun hb3 => ?_) fun hb3 => ?_
      · rw [if_pos ⟨h10, by simpa using hb3⟩] at hl ⊢
        refine s_cond (b := pNull f v t) rfl (fun hb4 => ?_) fun hb4 => ?_
        · rw [if_pos hb4]
          exact s_callO (Q.fixed w3 (-1) 1 (by decide)) rfl fun v2 w4 hM => ⟨fun p hp => (by cases hp), s_ret1 (hM.under k03)⟩
        · rw [if_neg (by simp [hb4])] at hl ⊢
          show Tr.sem _ _ _ _ _ _ { w3 with drawn := w3.drawn + 1 }
          have hd : Keeps [] w3 { w3 with drawn := w3.drawn + 1 } := keeps_drawn w3 _ _
          generalize ({ w3 with drawn := w3.drawn + 1 } : World) = w4 at hd ⊢
          have hx4 := hx3.keep hd (by simp)
          have hy4 := hy3.keep hd (by simp)
          have k04 := k03.trans hd
          refine p_fl S.f7 S.oneFields rfl rfl hx4 rfl ?_
          refine l_lok (l_loadN (b := w1.heap.size) (o := 0) S.ty.agg rfl hy4 (show 0 + 5 ≤ 5 by omega)) ?_
          refine s_callO (Q.fixed w4 1 1 (by decide)) rfl fun v2 w5 hM => ⟨fun p hp => ?_, ?_⟩
          · simp only [List.mem_cons, List.not_mem_nil, or_false] at hp
            rcases hp with rfl | rfl
            · exact l_loadN (b := w1.heap.size) (o := 0) S.ty.agg rfl (hy4.keep hM.2.2 (by simp)) (show 0 + 5 ≤ 5 by omega)
            · exact l_load1 (b := w.heap.size) (o := 7) S.oneFields rfl (hx4.keep hM.2.2 (by simp)) rfl
          · have k05 := k04.trans hM.2.2
            rw [List.length_append] at hl
            refine s_callO (hP w5 fv v fl t _ (hfs.keep k05) (TreeC.keep k05 _ _ htc) hok (by omega)) rfl fun v3 w6 hM6 => ⟨fun p hp => (by cases hp), ?_⟩
            exact s_appendO (v := v2) (u := v3) (l2 := pPart f.sub v fl t) S rfl rfl ((hM.under k04).more hM6.2.2) (hM6.1.reads.src S.rd.bytes (bcells_one _)) (by rw [List.length_append]; exact hl) fun v4 w9 hM9 _ => ⟨fun p hp => (by cases hp), s_ret1 hM9⟩
      · rw [if_neg (fun hh => by simp at hb3; omega)] at hl ⊢
        refine s_fl S.f0 S.oneInt rfl rfl hx3 rfl (s_fl S.f7 S.oneFields rfl rfl hx3 rfl ?_)
        refine s_lok (l_loadN (b := w1.heap.size) (o := 0) S.ty.agg rfl hy3 (show 0 + 5 ≤ 5 by omega)) ?_
        exact s_callO (hV w3 fv t _ f.kind (pNull f v t) fl v (hfs.keep k03) (TreeC.keep k03 _ _ htc) hok hl) rfl fun v2 w4 hM => ⟨fun p hp => (by cases hp), s_ret1 (hM.under k03)⟩
    · rw [if_neg (fun hh => by simp at hb2; omega)] at hl ⊢
      refine s_fl S.f0 S.oneInt rfl rfl hx3 rfl (s_fl S.f7 S.oneFields rfl rfl hx3 rfl ?_)
      refine s_lok (l_loadN (b := w1.heap.size) (o := 0) S.ty.agg rfl hy3 (show 0 + 5 ≤ 5 by omega)) ?_
      exact s_callO (hV w3 fv t _ f.kind (pNull f v t) fl v (hfs.keep k03) (TreeC.keep k03 _ _ htc) hok hl) rfl fun v2 w4 hM => ⟨fun p hp => (by cases hp), s_ret1 (hM.under k03)⟩

end

end Go.Kf

namespace Go.Kf

open Go

def tPart (c : Nums) (s : SN) : Tr :=
  .op (.box c.sTree (.tmp 3)) none [] <|
  .op (.call { callee := (.builtin .len), args := ⟨[(.tmp 0)]⟩, argTypes := ⟨[s.fields]⟩ }) none [] <|
  .loop 0 [(.const (.slice none 0 0)), (.const (.int .i64 0))] <|
  .op (.binOp .lss c.tInt (.tmp 7) (.tmp 5) c.tInt) none [] <|
  .cond (.tmp 8) (
    .op (.indexAddr s.fields (.tmp 0) (.tmp 7)) none [] <|
    .op (.load s.field (.tmp 9)) none [] <|
    .op (.alloc s.field) none [] <|
    .op (.store s.field (.tmp 11) (.tmp 10)) none [] <|
    .op (.fieldAddr s.field (.tmp 11) 4) none [] <|
    .op (.load c.tInt (.tmp 13)) none [] <|
    .op (.binOp .lss c.tInt (.tmp 14) (.const (.int .i64 0)) c.tInt) none [] <|
    .cond (.tmp 15) (
      .op (.load s.field (.tmp 11)) none [] <|
      .op (callOp s.has [(.tmp 16), (.tmp 1)]) none [] <|
      .join 1 (
        .cond (.tmp 17) (
          .draw <|
          .lok (.load s.field (.tmp 11)) none <|
          .lok (.load c.sTree (.tmp 4)) none <|
          .op (callOp s.at_ [(.tmp 19), (.tmp 7)]) none [((.load s.field (.tmp 11)), 18)] <|
          .op (callOp s.fld [(.tmp 18), (.tmp 1), (.tmp 2), (.tmp 20)]) none [] <|
          .op (.call { callee := (.builtin .append), args := ⟨[(.tmp 6), (.tmp 21)]⟩, argTypes := ⟨[c.tBytes, c.tBytes]⟩ }) none [] <|
          .to 1 [(.tmp 22)]
        ) (
          .to 1 [(.tmp 6)]
        )
      ) 1 <|
      .op (.binOp .add c.tInt (.tmp 7) (.const (.int .i64 1)) c.tInt) none [] <|
      .to 0 [(.tmp 18), (.tmp 19)]
    ) (
      .op (.binOp .add c.tInt (.tmp 7) (.const (.int .i64 1)) c.tInt) none [] <|
      .to 0 [(.tmp 6), (.tmp 16)]
    )
  ) (
    .op (.unOp .not c.tBool (.tmp 2)) none [] <|
    .cond (.tmp 9) (
      .ret [((.tmp 6), none)]
    ) (
      .op (callOp s.known [(.tmp 0)]) none [] <|
      .op (.convert c.tU32 c.tInt (.tmp 10)) none [] <|
      .loop 1 [(.const (.slice none 0 0)), (.const (.int .i64 0)), (.const (.int .i64 0))] <|
      .op (.binOp .lss c.tInt (.tmp 14) (.tmp 11) c.tInt) none [] <|
      .cond (.tmp 15) (
        .op (.call { callee := (.builtin .len), args := ⟨[(.tmp 0)]⟩, argTypes := ⟨[s.fields]⟩ }) none [] <|
        .loop 2 [(.tmp 12), (.tmp 13), (.const (.int .i64 0))] <|
        .op (.binOp .lss c.tInt (.tmp 19) (.tmp 16) c.tInt) none [] <|
        .cond (.tmp 20) (
          .op (.indexAddr s.fields (.tmp 0) (.tmp 19)) none [] <|
          .op (.load s.field (.tmp 21)) none [] <|
          .op (.alloc s.field) none [] <|
          .op (.store s.field (.tmp 23) (.tmp 22)) none [] <|
          .draw <|
          .pur (.fieldAddr s.field (.tmp 23) 4) none <|
          .lok (.load c.tInt (.tmp 25)) none <|
          .pur (.binOp .eql c.tInt (.tmp 26) (.tmp 14) c.tInt) none <|
          .cond (.tmp 27) (
            .lok (.load s.field (.tmp 23)) none <|
            .lok (.load c.sTree (.tmp 4)) none <|
            .op (callOp s.at_ [(.tmp 29), (.tmp 19)]) none [((.load s.field (.tmp 23)), 28), ((.load c.tInt (.tmp 25)), 26)] <|
            .op (callOp s.usual [(.tmp 28), (.tmp 30)]) none [((.load c.tInt (.tmp 25)), 26)] <|
            .pur (.unOp .not c.tBool (.tmp 31)) none <|
            .join 3 (
              .cond (.tmp 32) (
                .draw <|
                .lok (.load s.field (.tmp 23)) none <|
                .lok (.load c.sTree (.tmp 4)) none <|
                .op (callOp s.at_ [(.tmp 34), (.tmp 19)]) none [((.load s.field (.tmp 23)), 33)] <|
                .op (callOp s.fld [(.tmp 33), (.tmp 1), (.tmp 2), (.tmp 35)]) none [] <|
                .op (.convert c.tInt c.tU64 (.tmp 14)) none [] <|
                .op (callOp s.uv [(.tmp 37)]) none [] <|
                .op (.call { callee := (.builtin .append), args := ⟨[(.tmp 17), (.tmp 38)]⟩, argTypes := ⟨[c.tBytes, c.tBytes]⟩ }) none [] <|
                .op (.call { callee := (.builtin .len), args := ⟨[(.tmp 36)]⟩, argTypes := ⟨[c.tBytes]⟩ }) none [] <|
                .op (.convert c.tInt c.tU64 (.tmp 40)) none [] <|
                .op (callOp s.uv [(.tmp 41)]) none [] <|
                .op (.call { callee := (.builtin .append), args := ⟨[(.tmp 39), (.tmp 42)]⟩, argTypes := ⟨[c.tBytes, c.tBytes]⟩ }) none [] <|
                .op (.call { callee := (.builtin .append), args := ⟨[(.tmp 43), (.tmp 36)]⟩, argTypes := ⟨[c.tBytes, c.tBytes]⟩ }) none [] <|
                .op (.binOp .add c.tInt (.tmp 18) (.const (.int .i64 1)) c.tInt) none [] <|
                .to 3 [(.tmp 44), (.tmp 45)]
              ) (
                .to 3 [(.tmp 17), (.tmp 18)]
              )
            ) 2 <|
            .op (.binOp .add c.tInt (.tmp 19) (.const (.int .i64 1)) c.tInt) none [] <|
            .to 2 [(.tmp 33), (.tmp 34), (.tmp 35)]
          ) (
            .op (.binOp .add c.tInt (.tmp 19) (.const (.int .i64 1)) c.tInt) none [] <|
            .to 2 [(.tmp 17), (.tmp 18), (.tmp 28)]
          )
        ) (
          .op (.binOp .add c.tInt (.tmp 14) (.const (.int .i64 1)) c.tInt) none [] <|
          .to 1 [(.tmp 17), (.tmp 18), (.tmp 21)]
        )
      ) (
        .op (.fieldAddr c.sTree (.tmp 4) 4) none [] <|
        .op (.load c.sTagL (.tmp 16)) none [] <|
        .op (callOp s.unknown [(.tmp 0), (.tmp 17)]) none [] <|
        .op (.call { callee := (.builtin .len), args := ⟨[(.tmp 18)]⟩, argTypes := ⟨[c.sTagL]⟩ }) none [] <|
        .loop 2 [(.tmp 12), (.tmp 13), (.const (.int .i64 0))] <|
        .op (.binOp .lss c.tInt (.tmp 22) (.tmp 19) c.tInt) none [] <|
        .cond (.tmp 23) (
          .op (.indexAddr c.sTagL (.tmp 18) (.tmp 22)) none [] <|
          .op (.load c.sTag (.tmp 24)) none [] <|
          .op (.alloc c.sTag) none [] <|
          .op (.store c.sTag (.tmp 26) (.tmp 25)) none [] <|
          .op (.fieldAddr c.sTag (.tmp 26) 1) none [] <|
          .op (.load c.tBytes (.tmp 28)) none [] <|
          .op (callOp s.whole [(.tmp 29)]) none [] <|
          .op (.fieldAddr c.sTag (.tmp 26) 0) none [] <|
          .op (.load c.tU32 (.tmp 31)) none [] <|
          .op (.convert c.tU32 c.tU64 (.tmp 32)) none [] <|
          .op (callOp s.uv [(.tmp 33)]) none [] <|
          .op (.call { callee := (.builtin .append), args := ⟨[(.tmp 20), (.tmp 34)]⟩, argTypes := ⟨[c.tBytes, c.tBytes]⟩ }) none [] <|
          .op (.call { callee := (.builtin .len), args := ⟨[(.tmp 30)]⟩, argTypes := ⟨[c.tBytes]⟩ }) none [] <|
          .op (.convert c.tInt c.tU64 (.tmp 36)) none [] <|
          .op (callOp s.uv [(.tmp 37)]) none [] <|
          .op (.call { callee := (.builtin .append), args := ⟨[(.tmp 35), (.tmp 38)]⟩, argTypes := ⟨[c.tBytes, c.tBytes]⟩ }) none [] <|
          .op (.call { callee := (.builtin .append), args := ⟨[(.tmp 39), (.tmp 30)]⟩, argTypes := ⟨[c.tBytes, c.tBytes]⟩ }) none [] <|
          .op (.binOp .add c.tInt (.tmp 21) (.const (.int .i64 1)) c.tInt) none [] <|
          .op (.binOp .add c.tInt (.tmp 22) (.const (.int .i64 1)) c.tInt) none [] <|
          .to 2 [(.tmp 40), (.tmp 41), (.tmp 42)]
        ) (
          .op (.convert c.tInt c.tU64 (.tmp 21)) none [] <|
          .op (callOp s.uv [(.tmp 24)]) none [] <|
          .op (.call { callee := (.builtin .append), args := ⟨[(.tmp 6), (.tmp 25)]⟩, argTypes := ⟨[c.tBytes, c.tBytes]⟩ }) none [] <|
          .op (.call { callee := (.builtin .append), args := ⟨[(.tmp 26), (.tmp 20)]⟩, argTypes := ⟨[c.tBytes, c.tBytes]⟩ }) none [] <|
          .ret [((.tmp 27), none)]
        )
      )
    )
  )

def tKnown (c : Nums) (s : SN) : Tr :=
  .op (.call { callee := (.builtin .len), args := ⟨[(.tmp 0)]⟩, argTypes := ⟨[s.fields]⟩ }) none [] <|
  .loop 0 [(.const (.int .u32 0)), (.const (.int .i64 0))] <|
  .op (.binOp .lss c.tInt (.tmp 3) (.tmp 1) c.tInt) none [] <|
  .cond (.tmp 4) (
    .op (.indexAddr s.fields (.tmp 0) (.tmp 3)) none [] <|
    .op (.load s.field (.tmp 5)) none [] <|
    .op (.alloc s.field) none [] <|
    .op (.store s.field (.tmp 7) (.tmp 6)) none [] <|
    .op (.fieldAddr s.field (.tmp 7) 4) none [] <|
    .op (.load c.tInt (.tmp 9)) none [] <|
    .op (.binOp .geq c.tInt (.tmp 10) (.const (.int .i64 0)) c.tInt) none [] <|
    .join 1 (
      .cond (.tmp 11) (
        .op (.fieldAddr s.field (.tmp 7) 4) none [] <|
        .op (.load c.tInt (.tmp 12)) none [] <|
        .op (.convert c.tInt c.tU32 (.tmp 13)) none [] <|
        .op (.binOp .add c.tU32 (.tmp 14) (.const (.int .u32 1)) c.tU32) none [] <|
        .op (.call { callee := (.builtin .max), args := ⟨[(.tmp 2), (.tmp 15)]⟩, argTypes := ⟨[c.tU32, c.tU32]⟩ }) none [] <|
        .to 1 [(.tmp 16)]
      ) (
        .to 1 [(.tmp 2)]
      )
    ) 1 <|
    .op (.binOp .add c.tInt (.tmp 3) (.const (.int .i64 1)) c.tInt) none [] <|
    .to 0 [(.tmp 12), (.tmp 13)]
  ) (
    .ret [((.tmp 2), none)]
  )

mutual
/-- No field has a tag, nor has one within. -/
def PF.plain : PF → Bool
  | .mk k _ _ _ g _ e sub => decide (g < 0) && decide (sub.length < 65536) && (!decide (k = 11) || !decide (e = 11)) && PF.plains sub
def PF.plains : List PF → Bool
  | [] => true
  | f :: r => f.plain && PF.plains r
end

theorem PF.plains_mem : ∀ {l : List PF}, PF.plains l = true → ∀ f ∈ l, f.plain = true
  | [], _, f, h => by cases h
  | x :: l, hl, f, h => by
    simp only [PF.plains, Bool.and_eq_true] at hl
    rcases List.mem_cons.1 h with rfl | h
    · exact hl.1
    · exact PF.plains_mem hl.2 f h

theorem PF.plain_tag {f : PF} (h : f.plain = true) : f.tag < 0 := by
  cases f
  simp only [PF.plain, Bool.and_eq_true, decide_eq_true_eq] at h
  exact h.1.1.1

theorem PF.plain_sub {f : PF} (h : f.plain = true) : PF.plains f.sub = true := by
  cases f
  simp only [PF.plain, Bool.and_eq_true] at h
  exact h.2

theorem PF.plain_len {f : PF} (h : f.plain = true) : f.sub.length < 65536 := by
  cases f
  simp only [PF.plain, Bool.and_eq_true, decide_eq_true_eq] at h
  exact h.1.1.2

theorem PF.plain_elem {f : PF} (h : f.plain = true) (h11 : f.kind = 11) : f.elem ≠ 11 := by
  cases f
  simp only [PF.plain, Bool.and_eq_true, decide_eq_true_eq] at h
  intro he
  have h1 := h.1.2
  simp only [PF.kind, PF.elem] at h11 he
  rw [h11, he] at h1
  simp at h1

theorem pKnown_plain : ∀ {fs : List PF} (n : Nat), (∀ f ∈ fs, f.tag < 0) → pKnown fs n = n
  | [], _, _ => rfl
  | f :: r, n, h => by
    have := h f (by simp)
    rw [pKnown, if_neg (by omega)]
    exact pKnown_plain n fun g hg => h g (by simp [hg])

theorem pTagged_plain : ∀ {fs : List PF} (v : Int) (fl : Bool) (t : PT) (i : Nat), (∀ f ∈ fs, f.tag < 0) → pTagged fs v fl t i = []
  | [], _, _, _, _, _ => by rw [pTagged]
  | f :: r, v, fl, t, i, h => by
    have := h f (by simp)
    rw [pTagged, if_neg (by omega), List.nil_append]
    exact pTagged_plain v fl t (i + 1) fun g hg => h g (by simp [hg])

/-- What is written of a part without tags. -/
theorem pPart_plain {fs : List PF} (h : ∀ f ∈ fs, f.tag < 0) (v : Int) (fl : Bool) (t : PT) : pPart fs v fl t = pPlain fs v fl t 0 ++ if fl then pUv (pUnknown fs t.u).length ++ pTags (pUnknown fs t.u) else [] := by
  unfold pPart
  rw [pTagged_plain v fl t 0 h, pEnd]
  cases fl
  · rfl
  · have : ((List.range (pKnown fs 0)).flatMap fun (k : Nat) => ([] : List (Int × List UInt8)).filter fun p => p.1 == (k : Int)) = [] := by simp
    simp only [this, if_true]
    simp

def pOne (f : PF) (v : Int) (fl : Bool) (t : PT) : List UInt8 := if decide (f.tag < 0) && pHas f v then pField f v fl t else []

theorem pPlain_cons (f : PF) (r : List PF) (v : Int) (fl : Bool) (t : PT) (i : Nat) : pPlain (f :: r) v fl t i = pOne f v fl (pAt t i) ++ pPlain r v fl t (i + 1) := by rw [pPlain]; rfl

theorem pPlain_take : ∀ {fs : List PF} {j : Nat} (v : Int) (fl : Bool) (t : PT) (i : Nat) (hj : j < fs.length), pPlain (fs.take (j + 1)) v fl t i = pPlain (fs.take j) v fl t i ++ pOne fs[j] v fl (pAt t (i + j))
  | f :: r, 0, v, fl, t, i, _ => by
    simp only [List.take_succ_cons, List.take_zero, pPlain_cons, List.getElem_cons_zero, Nat.add_zero]
    rw [pPlain, pPlain]; simp
  | f :: r, j + 1, v, fl, t, i, hj => by
    rw [List.take_succ_cons, pPlain_cons, pPlain_take v fl t (i + 1) (by simpa using hj), List.take_succ_cons, pPlain_cons, List.append_assoc, List.getElem_cons_succ, show i + 1 + j = i + (j + 1) by omega]

theorem pPlain_append : ∀ (a b : List PF) (v : Int) (fl : Bool) (t : PT) (i : Nat), pPlain (a ++ b) v fl t i = pPlain a v fl t i ++ pPlain b v fl t (i + a.length)
  | [], b, v, fl, t, i => by simp [pPlain]
  | f :: r, b, v, fl, t, i => by rw [List.cons_append, pPlain_cons, pPlain_cons, pPlain_append r b, List.append_assoc, List.length_cons, show i + 1 + r.length = i + (r.length + 1) by omega]

theorem pPlain_le (fs : List PF) (j : Nat) (v : Int) (fl : Bool) (t : PT) : (pPlain (fs.take j) v fl t 0).length ≤ (pPlain fs v fl t 0).length := by
  conv => rhs; rw [← List.take_append_drop j fs, pPlain_append, List.length_append]
  omega

theorem pTags_take {m : TM} {j : Nat} (hj : j < m.length) : pTags (m.take (j + 1)) = pTags (m.take j) ++ pTag1 m[j].1 (pWhole m[j].2) := by
  unfold pTags
  rw [List.take_succ_eq_append_getElem hj, List.map_append, List.flatten_append]
  simp

theorem pTags_le (m : TM) (j : Nat) : (pTags (m.take j)).length ≤ (pTags m).length := by
  have h : pTags m = pTags (m.take j) ++ pTags (m.drop j) := by
    unfold pTags
    rw [← List.flatten_append, ← List.map_append, List.take_append_drop]
  rw [h, List.length_append]
  omega

section

variable {P : Program} {c : Nums} {s : SN} {R : Value → World → Prop} {Γ : List (List Value → World → Prop)} {n : Nat} {ρ : Nat → Value} {w : World} {k : Tr}

/-- A field of a list, in a variable of its own. -/
theorem s_eachF {x i : Operand} {fv : Value} {fs : List PF} {j : Nat} (S : SpFacts P c s) (hfv : FieldsV w fs fv) (hx : ev ρ x = fv) (hi : ev ρ i = .int .i64 j) (hj : j < fs.length)
    (hk : ∀ (w' : World) (a : Value) (b : Nat) (cs : List Value), Has w' b cs → FieldC w' fs[j] cs → Keeps [] w w' → w.heap.size ≤ b → k.sem P R Γ (n + 4) (ext (ext (ext (ext ρ n [a]) (n + 1) [.agg ⟨cs⟩]) (n + 2) [ptr b]) (n + 3) [undef]) w') :
    (Tr.op (.indexAddr s.fields x i) none [] <| Tr.op (.load s.field (.tmp n)) none [] <| Tr.op (.alloc s.field) none [] <| Tr.op (.store s.field (.tmp (n + 2)) (.tmp (n + 1))) none [] k).sem P R Γ n ρ w := by
  obtain ⟨fcs, hr, hfc⟩ := hfv
  obtain ⟨b, o, cap, e, hbl, hel, hcell⟩ := hr.elem hj (by omega)
  refine s_val (v_indexAddr (b := b) (o := o) (l := fs.length) (c := cap) (j := j) (kk := .i64) S.sl S.szF (hx.trans e) hi (by omega) (by omega)) ?_
  rw [Int.toNat_natCast]
  refine s_lok (l_cellN (b := b) (o := o + j * 8) S.agg ext_at hel hcell) ?_
  obtain ⟨z, hz, hzc⟩ := S.zField
  refine s_alloc hz fun w1 h1 k1 z1 => ?_
  have hf := FieldsC.get hfc hj
  have e1 : ev (ext (ext (ext ρ n [ptr b (o + j * 8)]) (n + 1) [.agg ⟨(fcs.drop (j * 8)).take 8⟩]) (n + 2) [ptr w.heap.size]) (.tmp (n + 1)) = .agg ⟨(fcs.drop (j * 8)).take 8⟩ := by show ext _ _ _ (n + 1) = _; rw [ext_lt (by omega)]; exact ext_at
  refine s_storeAll (b := w.heap.size) (cs := (fcs.drop (j * 8)).take 8) (by rw [hel]; exact S.agg) ext_at (congrArg Value.cells e1) h1 (by rw [hel]; simpa using hzc) hf.ones fun w2 h2 k2 => ?_
  have k02 : Keeps [] w w2 := ((k1.mono (by simp)).trans k2).less fun x hx => .inr (by simp only [List.mem_singleton] at hx; omega)
  exact hk w2 _ _ _ h2 (FieldC.keep k02 _ _ hf) k02 (Nat.le_refl _)

/-- A tag of a list, in a variable of its own. -/
theorem s_eachT {x i : Operand} {tv : Value} {m : TM} {tcs : List Value} {j : Nat} {w0 : World} (S : SpFacts P c s) (hr : Ro w tv 2 m.length tcs) (ht : TagsC w0 m tcs) (hx : ev ρ x = tv) (hi : ev ρ i = .int .i64 j) (hj : j < m.length)
    (hk : ∀ (w' : World) (a : Value) (b : Nat) (vv : Value), Has w' b [.int .u32 m[j].1, vv] → Ro w0 vv 1 m[j].2.length (bcells m[j].2) → Keeps [] w w' → w.heap.size ≤ b → k.sem P R Γ (n + 4) (ext (ext (ext (ext ρ n [a]) (n + 1) [.agg ⟨[.int .u32 m[j].1, vv]⟩]) (n + 2) [ptr b]) (n + 3) [undef]) w') :
    (Tr.op (.indexAddr c.sTagL x i) none [] <| Tr.op (.load c.sTag (.tmp n)) none [] <| Tr.op (.alloc c.sTag) none [] <| Tr.op (.store c.sTag (.tmp (n + 2)) (.tmp (n + 1))) none [] k).sem P R Γ n ρ w := by
  obtain ⟨b, o, cap, e, hbl, hel, hcell⟩ := hr.elem hj (by omega)
  refine s_val (v_indexAddr (b := b) (o := o) (l := m.length) (c := cap) (j := j) (kk := .i64) S.ty.slTag S.szG (hx.trans e) hi (by omega) (by omega)) ?_
  rw [Int.toNat_natCast]
  refine s_lok (l_cellN (b := b) (o := o + j * 2) S.ty.aggTag ext_at hel hcell) ?_
  obtain ⟨z, hz, hzc⟩ := S.zTag
  refine s_alloc hz fun w1 h1 k1 z1 => ?_
  obtain ⟨vv, hc2, hvv⟩ := ht.get hj
  have h1v := hvv.one
  rw [hc2]
  have e1 : ev (ext (ext (ext ρ n [ptr b (o + j * 2)]) (n + 1) [.agg ⟨[.int .u32 m[j].1, vv]⟩]) (n + 2) [ptr w.heap.size]) (.tmp (n + 1)) = .agg ⟨[.int .u32 m[j].1, vv]⟩ := by show ext _ _ _ (n + 1) = _; rw [ext_lt (by omega)]; exact ext_at
  refine s_storeAll (b := w.heap.size) (cs := [.int .u32 m[j].1, vv]) S.ty.aggTag ext_at (congrArg Value.cells e1) h1 (by simpa using hzc) (fun q hq => by
    simp only [List.mem_cons, List.not_mem_nil, or_false] at hq
    rcases hq with rfl | rfl
    · rfl
    · exact h1v) fun w2 h2 k2 => ?_
  have k02 : Keeps [] w w2 := ((k1.mono (by simp)).trans k2).less fun x hx => .inr (by simp only [List.mem_singleton] at hx; omega)
  exact hk w2 _ _ _ h2 hvv k02 (Nat.le_refl _)

theorem known_plain (S : SpFacts P c s) (hT : treeIn P s.known noOrc [.tmp 0] 1 = tKnown c s) {fs : List PF} {fv : Value} (hp : ∀ f ∈ fs, f.tag < 0) (hfv : FieldsV w fs fv) (hlen : fs.length < 2 ^ 31) : Yields P s.known [fv] w (.int .u32 0) := by
  refine gives_in (ρ := en [fv]) S.rd.mix hT (Nat.le_refl _) rfl (by simp [opBelow]) ?_
  have hfv0 := hfv
  obtain ⟨fcs, hr, hfc⟩ := hfv
  obtain ⟨a, cp, e⟩ := hr.form
  refine s_val (v_len (a := a) (l := fs.length) (c := cp) S.sl e) ?_
  refine s_countV (n := 2) (q := 1) (kk := .i64) (m := fs.length) (ri := [.const (.int .u32 0)]) (Γ := []) (fun j vr w' => vr = [.int .u32 0] ∧ Keeps [] w w') (by omega) rfl ⟨rfl, .refl⟩ ?_ ?_
  · rintro j hj w1 vr ⟨rfl, k1⟩ hvr J hJ
    have hj' : j < fs.length := by omega
    refine s_eachF (fv := fv) (fs := fs) (j := j) S (hfv0.keep k1) rfl rfl hj' fun w2 a b cs hh hf k2 hb => ?_
    obtain ⟨sv, rfl, _⟩ := hf.cells
    have hneg := hp _ (List.getElem_mem hj')
    refine s_fl S.f4 S.oneInt rfl rfl hh rfl ?_
    refine s_val (v_cmp (kk := .i64) (a := (fs[j]'hj').tag) (b := 0) (r := decide ((fs[j]'hj').tag ≥ 0)) rfl rfl rfl) ?_
    refine ⟨rfl, fun vs w' => vs = [.int .u32 0] ∧ w' = w2, ?_, ?_⟩
    · refine s_cond (b := decide ((fs[j]'hj').tag ≥ 0)) rfl (fun hb => ?_) fun hb => ⟨_, rfl, rfl, rfl⟩
      simp at hb
      omega
    · rintro vs w' _ ⟨rfl, rfl⟩
      refine s_val (v_arith (kk := .i64) (a := j) (b := 1) (r := ((j + 1 : Nat) : Int)) rfl rfl ?_) ?_
      · simp only [arithOf, Option.some.injEq]; rw [IntKind.wrap_i64]; omega
      exact ⟨J, rfl, hJ [_] _ rfl ⟨rfl, k1.trans k2⟩⟩
  · rintro w1 vr J ⟨rfl, k1⟩ hvr
    exact s_ret1 ⟨rfl, k1⟩

/-- The unknown tags. -/
def UnknownOf (P : Program) (s : SN) (fs : List PF) : Prop := ∀ (w0 w : World) (fv uv : Value) (u : TM) (ucs : List Value), FieldsV w fs fv → Ro w uv 2 u.length ucs → TagsC w0 u ucs → (∀ p ∈ u, p.1 < 4294967296) →
  Gives P s.unknown [fv, uv] w fun r w' => ∃ cs, Own w' r 2 (pUnknown fs u).length cs ∧ TagsC w0 (pUnknown fs u) cs ∧ (∀ b ∈ blkOf r, w.heap.size ≤ b) ∧ Keeps [] w w'

theorem pPut_mem {q : Nat × List UInt8} : ∀ {m : TM} {p : Nat × List UInt8}, p ∈ pPut q m → p = q ∨ p ∈ m
  | [], p, h => by simpa [pPut] using h
  | x :: m, p, h => by
    unfold pPut at h
    split at h
    · rcases List.mem_cons.1 h with rfl | h
      · exact .inr (by simp)
      · exact (pPut_mem h).imp id fun h => by simp [h]
    · split at h
      · exact .inr h
      · rcases List.mem_cons.1 h with rfl | h
        · exact .inl rfl
        · exact .inr h

theorem pUnknownN_mem (least : Nat) : ∀ {u out : TM} {p : Nat × List UInt8}, p ∈ pUnknownN least u out → p ∈ u ∨ p ∈ out
  | [], out, p, h => .inr h
  | q :: u, out, p, h => by
    rcases pUnknownN_mem least (u := u) h with h | h
    · exact .inl (by simp [h])
    · split at h
      · exact .inr h
      · rcases pPut_mem h with rfl | h
        · exact .inl (by simp)
        · exact .inr h

theorem pUnknown_mem {fs : List PF} {u : TM} {p : Nat × List UInt8} (h : p ∈ pUnknown fs u) : p ∈ u := by
  rcases pUnknownN_mem _ h with h | h
  · exact List.mem_of_mem_take h
  · cases h

theorem pPut_length (q : Nat × List UInt8) : ∀ m : TM, (pPut q m).length ≤ m.length + 1
  | [] => by simp [pPut]
  | x :: m => by
    unfold pPut
    split
    · have := pPut_length q m; simp; omega
    · split <;> simp

theorem pUnknownN_length (least : Nat) : ∀ (u out : TM), (pUnknownN least u out).length ≤ out.length + u.length
  | [], out => by simp [pUnknownN]
  | q :: u, out => by
    rw [pUnknownN]
    refine Nat.le_trans (pUnknownN_length least u _) ?_
    rw [List.length_cons]
    split
    · omega
    · have := pPut_length q out
      omega

theorem pUnknown_length (fs : List PF) (u : TM) : (pUnknown fs u).length ≤ 32767 := by
  have h := pUnknownN_length (pKnown fs 0) (u.take 32767) []
  unfold pUnknown
  rw [List.length_take] at h
  simp at h
  omega

end

end Go.Kf

namespace Go.Kf

open Go

section

variable {P : Program} {c : Nums} {s : SN} {R : Value → World → Prop} {Γ : List (List Value → World → Prop)} {n : Nat} {ρ : Nat → Value} {w : World} {k : Tr}

theorem pTag1_length (k : Nat) (b : List UInt8) : (pTag1 k b).length = (pUv k).length + (pUv b.length).length + b.length := by
  unfold pTag1
  simp only [List.length_append]

theorem part_step (S : SpFacts P c s) (Q : Smalls P s) (hK : treeIn P s.known noOrc [.tmp 0] 1 = tKnown c s) (hT : treeIn P s.part noOrc [.tmp 0, .tmp 1, .tmp 2, .tmp 3] 4 = tPart c s) {fs : List PF} (hp : ∀ f ∈ fs, f.tag < 0) (hlen : fs.length < 2 ^ 31) (hF : ∀ f ∈ fs, FieldOf P s f) (hU : UnknownOf P s fs) : PartOf P s fs := by
  intro w fv v fl t ts hfv ht hok hl
  rw [pPart_plain hp] at hl ⊢
  have htc := ht
  have hfv0 := hfv
  obtain ⟨fcs, hr, hfc⟩ := hfv
  obtain ⟨sv, lv, uv, lcs, ucs, rfl, h1, h2, h3, h4, h5⟩ := ht.cells
  rw [List.length_append] at hl
  refine gives_in (ρ := en [_, _, _, _]) S.rd.mix hT (Nat.le_refl _) rfl (by simp [opBelow]) ?_
  refine s_box rfl fun w1 hx1 k1 z1 => ?_
  obtain ⟨a, cp, e⟩ := hr.form
  refine s_val (v_len (a := a) (l := fs.length) (c := cp) S.sl e) ?_
  refine s_countV (n := 6) (q := 5) (kk := .i64) (m := fs.length) (ri := [.const (.slice none 0 0)]) (Γ := []) (fun j vr w' => ∃ acc, vr = [acc] ∧ MadeO w1 w' acc (pPlain (fs.take j) v fl t 0)) (by omega) rfl ⟨_, rfl, by rw [List.take_zero, pPlain]; exact MadeO.nil w1⟩ ?_ ?_
  · rintro j hj w2 vr ⟨acc, rfl, hA⟩ hvr J hJ
    have hj' : j < fs.length := by omega
    have k02 := k1.trans hA.2.2
    refine s_eachF (fv := fv) (fs := fs) (j := j) S (hfv0.keep k02) rfl rfl hj' fun w3 a3 b cs hh hf k3 hb => ?_
    have hf0 := hf
    obtain ⟨sv3, rfl, _⟩ := hf.cells
    have hneg := hp _ (List.getElem_mem hj')
    have k13 := hA.2.2.trans k3
    have hle := pPlain_le fs (j + 1) v fl t
    rw [pPlain_take v fl t 0 hj', Nat.zero_add, List.length_append] at hle
    refine s_fl S.f4 S.oneInt rfl rfl hh rfl ?_
    refine s_val (v_cmp (kk := .i64) (a := (fs[j]'hj').tag) (b := 0) (r := decide ((fs[j]'hj').tag < 0)) rfl rfl rfl) ?_
    refine s_cond (b := decide ((fs[j]'hj').tag < 0)) rfl (fun hb1 => ?_) fun hb1 => (by simp at hb1; omega)
    refine s_lok (l_loadN (b := b) (o := 0) S.agg rfl hh (show 0 + 8 ≤ 8 by omega)) ?_
    refine s_callx (Q.has w3 fs[j] _ v hf0) rfl fun u w4 ⟨hu, k4⟩ => ?_
    subst hu
    have hf4 := FieldC.keep k4 _ _ hf0
    have hh4 := hh.keep k4 (by simp)
    have hA4 := (hA.more k3).more k4
    have k14 := k13.trans k4
    refine ⟨rfl, fun vs w' => ∃ acc', vs = [acc'] ∧ MadeO w1 w' acc' (pPlain (fs.take (j + 1)) v fl t 0), ?_, ?_⟩
    · refine s_cond (b := pHas fs[j] v) rfl (fun hb2 => ?_) fun hb2 => ⟨_, rfl, acc, rfl, ?_⟩
      · show Tr.sem _ _ _ _ _ _ { w4 with drawn := w4.drawn + 1 }
        have hd : Keeps [] w4 { w4 with drawn := w4.drawn + 1 } := keeps_drawn w4 _ _
        have hA5 := hA4.drawn (w4.drawn + 1)
        generalize ({ w4 with drawn := w4.drawn + 1 } : World) = w5 at hd hA5 ⊢
        have hh5 := hh4.keep hd (by simp)
        have hx5 := (hx1.keep k14 (by simp)).keep hd (by simp)
        have k15 := k14.trans hd
        refine l_lok (l_loadN (b := b) (o := 0) S.agg rfl hh5 (show 0 + 8 ≤ 8 by omega)) ?_
        refine l_lok (l_loadN (b := w.heap.size) (o := 0) S.ty.agg rfl hx5 (show 0 + 5 ≤ 5 by omega)) ?_
        refine s_call (xs := [.tmp 19, .tmp 7]) (Q.at_ w5 t _ j (TreeC.keep (k1.trans k15) _ _ htc)) fun u w6 ⟨k6, tcs, hu, htj⟩ => ⟨?_, ?_⟩
        · intro p hp
          simp only [List.mem_singleton] at hp
          subst hp
          exact l_loadN (b := b) (o := 0) S.agg rfl (hh5.keep k6 (by simp)) (show 0 + 8 ≤ 8 by omega)
        subst hu
        have hone : pOne fs[j] v fl (pAt t j) = pField fs[j] v fl (pAt t j) := by
          unfold pOne
          rw [if_pos (by rw [Bool.and_eq_true]; exact ⟨hb1, hb2⟩)]
        rw [hone] at hle
        refine s_callO (hF fs[j] (List.getElem_mem hj') w6 v fl (pAt t j) _ tcs (FieldC.keep (hd.trans k6) _ _ hf4) htj (hok.at j) (by omega)) rfl fun v3 w7 hM7 => ⟨fun p hp => (by cases hp), ?_⟩
        refine s_appendO (v := acc) (u := v3) (l2 := pField fs[j] v fl (pAt t j)) S rfl rfl ((hA5.more k6).more hM7.2.2) (hM7.1.reads.src S.rd.bytes (bcells_one _)) (by rw [List.length_append]; unfold maxW at hl; omega) fun v4 w8 hM8 _ => ⟨fun p hp => (by cases hp), ?_⟩
        refine ⟨_, rfl, v4, rfl, ?_⟩
        rw [pPlain_take v fl t 0 hj', Nat.zero_add, hone]
        exact hM8
      · have hone : pOne fs[j] v fl (pAt t j) = [] := by
          unfold pOne
          rw [if_neg (by rw [hb2, Bool.and_false]; simp)]
        rw [pPlain_take v fl t 0 hj', Nat.zero_add, hone, List.append_nil]
        exact hA4
    · rintro vs w' _ ⟨acc', rfl, hA'⟩
      refine s_val (v_arith (kk := .i64) (a := j) (b := 1) (r := ((j + 1 : Nat) : Int)) rfl rfl ?_) ?_
      · simp only [arithOf, Option.some.injEq]; rw [IntKind.wrap_i64]; omega
      exact ⟨J, rfl, hJ [_] _ rfl ⟨acc', rfl, hA'⟩⟩
  · rintro w2 vr J ⟨acc, rfl, hA⟩ hvr
    rw [Int.toNat_natCast, List.take_length] at hA
    refine s_val (v_not (b := fl) rfl) ?_
    refine s_cond (b := !fl) rfl (fun hb => ?_) fun hb => ?_
    · have : fl = false := by simpa using hb
      subst this
      refine s_ret1 ?_
      rw [if_neg (by simp), List.append_nil]
      exact hA.under k1
    · have : fl = true := by simpa using hb
      subst this
      simp only [if_true] at hl ⊢
      have k02 := k1.trans hA.2.2
      refine s_callx (known_plain S hK hp (hfv0.keep k02) hlen) rfl fun u w3 ⟨hu, k3⟩ => ?_
      subst hu
      refine s_val (v_conv (k1 := .u32) (k2 := .i64) (a := 0) S.rd.u32 S.rd.int rfl) ?_
      have k13 := hA.2.2.trans k3
      refine s_countV (n := 12) (q := 11) (kk := .i64) (m := 0) (ri := [.const (.slice none 0 0), .const (.int .i64 0)]) (Γ := [J]) (fun j vr w' => vr = [.slice none 0 0, .int .i64 0] ∧ w' = w3) (by omega) rfl ⟨rfl, rfl⟩ (fun j hj => by simp at hj) ?_
      rintro w' vr J1 ⟨rfl, rfl⟩ hvr
      have hx3 := hx1.keep k13 (by simp)
      refine s_fl S.ty.f4 S.ty.oneTagL rfl rfl hx3 rfl ?_
      have k03 := k1.trans k13
      refine s_callx (hU w' w' fv uv t.u ucs (hfv0.keep k03) (h4.keep k03) (TagsC.keep k03 _ _ h5) hok.u) rfl fun tv w4 ⟨tcs, hown, htg', _, k4⟩ => ?_
      have htg := TagsC.keep k4 _ _ htg'
      generalize hun : pUnknown fs t.u = un at hl hown htg ⊢
      have hun7 : un.length ≤ 32767 := by rw [← hun]; exact pUnknown_length fs t.u
      have hkeys : ∀ p ∈ un, p.1 < 4294967296 := fun p hp => hok.u p (pUnknown_mem (hun ▸ hp))
      have hrt := Ro.of_reads hown.reads
      obtain ⟨a4, c4, e4⟩ := hrt.form
      refine s_val (v_len (a := a4) (l := un.length) (c := c4) S.ty.slTag e4) ?_
      have k14 := k13.trans k4
      rw [List.length_append] at hl
      refine s_countV (n := 20) (q := 19) (kk := .i64) (m := un.length) (ri := [.tmp 12, .tmp 13]) (Γ := [J, J1]) (fun j vr w' => ∃ acc', vr = [acc', .int .i64 j] ∧ MadeO w4 w' acc' (pTags (un.take j))) (by omega) rfl ⟨_, rfl, MadeO.nil w4⟩ ?_ ?_
      · rintro j hj w5 vr ⟨acc', rfl, hB⟩ hvr J2 hJ2
        have hj' : j < un.length := by omega
        have hle := pTags_le un (j + 1)
        rw [pTags_take hj', List.length_append, pTag1_length] at hle
        have hkey := hkeys _ (List.getElem_mem hj')
        refine s_eachT (tv := tv) (m := un) (j := j) S (hrt.keep hB.2.2) htg rfl rfl hj' fun w6 a6 b vv hh hvv k6 hb => ?_
        refine s_fl S.ty.g1 S.rd.oneBytes rfl rfl hh rfl ?_
        refine s_callx (Q.whole w6 vv un[j].2 (hvv.keep (hB.2.2.trans k6))) rfl fun u w7 ⟨hw, hu⟩ => ?_
        subst hw
        replace hu := hu w4 hvv
        refine s_fl S.ty.g0 S.ty.oneU32 rfl rfl hh rfl ?_
        refine s_val (v_conv (k1 := .u32) (k2 := .u64) (a := ((un[j]'hj').1 : Int)) S.rd.u32 S.u64 rfl) ?_
        rw [wraps_u64 _ (by omega) (by omega)]
        have hw7 : (pWhole (un[j]'hj').2).length ≤ 32767 := by unfold pWhole; rw [List.length_take]; omega
        refine s_callO (Q.uv w7 (un[j]'hj').1 (by omega)) rfl fun v8 w8 hM8 => ⟨fun p hp => (by cases hp), ?_⟩
        refine s_appendO (v := acc') (u := v8) (l2 := pUv (un[j]'hj').1) S rfl rfl ((hB.more k6).more hM8.2.2) (hM8.1.reads.src S.rd.bytes (bcells_one _)) (by rw [List.length_append]; unfold maxW at hl; omega) fun v9 w9 hM9 kk9 => ⟨fun p hp => (by cases hp), ?_⟩
        obtain ⟨au, cu, eu⟩ := hu.form
        refine s_val (v_len (a := au) (l := (pWhole (un[j]'hj').2).length) (c := cu) S.rd.bytes eu) ?_
        refine s_val (v_conv (k1 := .i64) (k2 := .u64) (a := ((pWhole (un[j]'hj').2).length : Int)) S.rd.int S.u64 rfl) ?_
        rw [wraps_u64 _ (by omega) (by omega)]
        refine s_callO (Q.uv w9 (pWhole (un[j]'hj').2).length (by omega)) rfl fun v10 w10 hM10 => ⟨fun p hp => (by cases hp), ?_⟩
        refine s_appendO (v := v9) (u := v10) (l2 := pUv (pWhole (un[j]'hj').2).length) S rfl rfl (hM9.more hM10.2.2) (hM10.1.reads.src S.rd.bytes (bcells_one _)) (by simp only [List.length_append]; unfold maxW at hl; omega) fun v11 w11 hM11 kk11 => ⟨fun p hp => (by cases hp), ?_⟩
        refine s_appendO (v := v11) (u := u) (l2 := pWhole (un[j]'hj').2) S rfl rfl hM11 ((hu.keep hM11.2.2).src S.rd.bytes (bcells_one _)) (by simp only [List.length_append]; unfold maxW at hl; omega) fun v12 w12 hM12 kk12 => ⟨fun p hp => (by cases hp), ?_⟩
        refine s_val (v_arith (kk := .i64) (a := j) (b := 1) (r := ((j + 1 : Nat) : Int)) rfl rfl ?_) ?_
        · simp only [arithOf, Option.some.injEq]; rw [IntKind.wrap_i64]; omega
        refine s_val (v_arith (kk := .i64) (a := j) (b := 1) (r := ((j + 1 : Nat) : Int)) rfl rfl ?_) ?_
        · simp only [arithOf, Option.some.injEq]; rw [IntKind.wrap_i64]; omega
        refine ⟨J2, rfl, hJ2 [_, _] _ rfl ⟨v12, rfl, ?_⟩⟩
        rw [pTags_take hj', pTag1, ← List.append_assoc, ← List.append_assoc]
        exact hM12
      · rintro w5 vr J2 ⟨acc', rfl, hB⟩ hvr
        rw [Int.toNat_natCast, List.take_length] at hB
        refine s_val (v_conv (k1 := .i64) (k2 := .u64) (a := (un.length : Int)) S.rd.int S.u64 rfl) ?_
        rw [wraps_u64 _ (by omega) (by omega)]
        refine s_callO (Q.uv w5 un.length (by omega)) rfl fun v6 w6 hM6 => ⟨fun p hp => (by cases hp), ?_⟩
        have k36 := (k4.trans hB.2.2).trans hM6.2.2
        refine s_appendO (v := acc) (u := v6) (l2 := pUv un.length) S rfl rfl ((hA.more k3).more k36) (hM6.1.reads.src S.rd.bytes (bcells_one _)) (by rw [List.length_append]; unfold maxW at hl; omega) fun v7 w7 hM7 kk7 => ⟨fun p hp => (by cases hp), ?_⟩
        have hown7 : Own w7 acc' 1 (pTags un).length (bcells (pTags un)) := (hB.more hM6.2.2).1.keep kk7 fun b hb hb' => by
          have h5 := hB.2.1 b hb
          have h6 := hA.1.lt b hb'
          have h7 := k3.size
          have h8 := k4.size
          omega
        refine s_appendO (v := v7) (u := acc') (l2 := pTags un) S rfl rfl hM7 (hown7.reads.src S.rd.bytes (bcells_one _)) (by simp only [List.length_append]; unfold maxW at hl; omega) fun v8 w8 hM8 kk8 => ⟨fun p hp => (by cases hp), s_ret1 ?_⟩
        rw [List.append_assoc] at hM8
        exact hM8.under k1

end

end Go.Kf

namespace Go.Kf

open Go

/-- Room is made at t14 for the tag that t12 points to. -/
def gIns (c : Nums) (n : Nat) : Tr :=
  .op (.build c.sTag ⟨[]⟩) none [] <|
  .op (.buildSlice c.sTagL 1 ⟨[(0, (.tmp n))]⟩) none [] <|
  .op (.call { callee := (.builtin .append), args := ⟨[(.tmp 7), (.tmp (n + 1))]⟩, argTypes := ⟨[c.sTagL, c.sTagL]⟩ }) none [] <|
  .op (.call { callee := (.builtin .len), args := ⟨[(.tmp (n + 2))]⟩, argTypes := ⟨[c.sTagL]⟩ }) none [] <|
  .op (.binOp .sub c.tInt (.tmp (n + 3)) (.const (.int .i64 1)) c.tInt) none [] <|
  .loop 2 [(.tmp (n + 4))] <|
  .op (.binOp .gtr c.tInt (.tmp (n + 5)) (.tmp 14) c.tInt) none [] <|
  .cond (.tmp (n + 6)) (
    .op (.binOp .sub c.tInt (.tmp (n + 5)) (.const (.int .i64 1)) c.tInt) none [] <|
    .op (.indexAddr c.sTagL (.tmp (n + 2)) (.tmp (n + 7))) none [] <|
    .op (.load c.sTag (.tmp (n + 8))) none [] <|
    .op (.indexAddr c.sTagL (.tmp (n + 2)) (.tmp (n + 5))) none [] <|
    .op (.store c.sTag (.tmp (n + 10)) (.tmp (n + 9))) none [] <|
    .op (.binOp .sub c.tInt (.tmp (n + 5)) (.const (.int .i64 1)) c.tInt) none [] <|
    .to 2 [(.tmp (n + 12))]
  ) (
    .op (.load c.sTag (.tmp 12)) none [] <|
    .op (.indexAddr c.sTagL (.tmp (n + 2)) (.tmp 14)) none [] <|
    .op (.store c.sTag (.tmp (n + 8)) (.tmp (n + 7))) none [] <|
    .op (.binOp .add c.tInt (.tmp 8) (.const (.int .i64 1)) c.tInt) none [] <|
    .to 0 [(.tmp (n + 2)), (.tmp (n + 10))]
  )

def gSkip (c : Nums) (n : Nat) : Tr := .op (.binOp .add c.tInt (.tmp 8) (.const (.int .i64 1)) c.tInt) none [] <| .to 0 [(.tmp 7), (.tmp n)]

/-- The tag's key held against the one at t14. -/
def gSame (c : Nums) (n : Nat) : Tr :=
  .draw <|
  .pur (.fieldAddr c.sTag (.tmp 12) 0) none <|
  .lok (.load c.tU32 (.tmp n)) none <|
  .pur (.binOp .lss c.tU32 (.tmp (n + 1)) (.tmp 2) c.tU32) none <|
  .cond (.tmp (n + 2)) (gSkip c (n + 3)) (
    .pur (.call { callee := (.builtin .len), args := ⟨[(.tmp 7)]⟩, argTypes := ⟨[c.sTagL]⟩ }) none <|
    .pur (.binOp .lss c.tInt (.tmp 14) (.tmp (n + 3)) c.tInt) none <|
    .cond (.tmp (n + 4)) (
      .pur (.indexAddr c.sTagL (.tmp 7) (.tmp 14)) none <|
      .pur (.fieldAddr c.sTag (.tmp (n + 5)) 0) none <|
      .lok (.load c.tU32 (.tmp (n + 6))) none <|
      .pur (.fieldAddr c.sTag (.tmp 12) 0) none <|
      .lok (.load c.tU32 (.tmp (n + 8))) none <|
      .pur (.binOp .eql c.tU32 (.tmp (n + 7)) (.tmp (n + 9)) c.tU32) none <|
      .cond (.tmp (n + 10)) (gSkip c (n + 11)) (gIns c (n + 11))
    ) (gIns c (n + 5))
  )

def tUnknown (c : Nums) (s : SN) : Tr :=
  .op (callOp s.known [(.tmp 0)]) none [] <|
  .op (.call { callee := (.builtin .len), args := ⟨[(.tmp 1)]⟩, argTypes := ⟨[c.sTagL]⟩ }) none [] <|
  .op (.call { callee := (.builtin .min), args := ⟨[(.tmp 3), (.const (.int .i64 32767))]⟩, argTypes := ⟨[c.tInt, c.tInt]⟩ }) none [] <|
  .op (.slice c.sTagL (.tmp 1) none (some (.tmp 4)) none) none [] <|
  .op (.call { callee := (.builtin .len), args := ⟨[(.tmp 5)]⟩, argTypes := ⟨[c.sTagL]⟩ }) none [] <|
  .loop 0 [(.const (.slice none 0 0)), (.const (.int .i64 0))] <|
  .op (.binOp .lss c.tInt (.tmp 8) (.tmp 6) c.tInt) none [] <|
  .cond (.tmp 9) (
    .op (.indexAddr c.sTagL (.tmp 5) (.tmp 8)) none [] <|
    .op (.load c.sTag (.tmp 10)) none [] <|
    .op (.alloc c.sTag) none [] <|
    .op (.store c.sTag (.tmp 12) (.tmp 11)) none [] <|
    .loop 1 [(.const (.int .i64 0))] <|
    .draw <|
    .pur (.call { callee := (.builtin .len), args := ⟨[(.tmp 7)]⟩, argTypes := ⟨[c.sTagL]⟩ }) none <|
    .pur (.binOp .lss c.tInt (.tmp 14) (.tmp 15) c.tInt) none <|
    .cond (.tmp 16) (
      .pur (.indexAddr c.sTagL (.tmp 7) (.tmp 14)) none <|
      .pur (.fieldAddr c.sTag (.tmp 17) 0) none <|
      .lok (.load c.tU32 (.tmp 18)) none <|
      .pur (.fieldAddr c.sTag (.tmp 12) 0) none <|
      .lok (.load c.tU32 (.tmp 20)) none <|
      .pur (.binOp .lss c.tU32 (.tmp 19) (.tmp 21) c.tU32) none <|
      .cond (.tmp 22) (
        .op (.binOp .add c.tInt (.tmp 14) (.const (.int .i64 1)) c.tInt) none [] <|
        .to 1 [(.tmp 23)]
      ) (gSame c 23)
    ) (gSame c 17)
  ) (.ret [((.tmp 7), none)])

theorem pPut_at {q : Nat × List UInt8} : ∀ {m : TM} {i : Nat}, (∀ p ∈ m.take i, p.1 < q.1) → (hi : i ≤ m.length) → (∀ h : i < m.length, ¬ m[i].1 < q.1) → pPut q m = if h : i < m.length then (if m[i].1 = q.1 then m else m.take i ++ q :: m.drop i) else m ++ [q]
  | [], i, _, hi, _ => by
    simp at hi
    subst hi
    simp [pPut]
  | x :: m, 0, _, _, h2 => by
    have h3 := h2 (by simp)
    simp only [List.getElem_cons_zero] at h3
    unfold pPut
    rw [if_neg h3]
    simp
  | x :: m, i + 1, h1, hi, h2 => by
    have h3 : x.1 < q.1 := h1 x (by simp)
    unfold pPut
    rw [if_pos h3, pPut_at (m := m) (i := i) (fun p hp => h1 p (by simp [hp])) (by simpa using hi) fun h => h2 (by simpa using h)]
    by_cases hlt : i < m.length
    · rw [dif_pos hlt, dif_pos (by simpa using hlt)]
      simp only [List.getElem_cons_succ]
      split
      · rfl
      · simp
    · rw [dif_neg hlt, dif_neg (by simpa using hlt)]
      rfl

theorem pUnknownN_snoc (least : Nat) (q : Nat × List UInt8) : ∀ (a out : TM), pUnknownN least (a ++ [q]) out = if q.1 < least then pUnknownN least a out else pPut q (pUnknownN least a out)
  | [], out => by simp [pUnknownN]
  | x :: a, out => by rw [List.cons_append, pUnknownN, pUnknownN_snoc least q a]; rfl

theorem TagsC.append {w : World} : ∀ {a b : TM} {x y : List Value}, TagsC w a x → TagsC w b y → TagsC w (a ++ b) (x ++ y)
  | [], b, x, y, h1, h2 => by simp only [TagsC] at h1; subst h1; exact h2
  | p :: a, b, x, y, ⟨v, r, e, h1, h3⟩, h2 => ⟨v, r ++ y, by rw [e]; rfl, h1, h3.append h2⟩

theorem TagsC.drop {w : World} : ∀ {m : TM} {cs : List Value} (k : Nat), TagsC w m cs → TagsC w (m.drop k) (cs.drop (k * 2))
  | _, _, 0, h => by simpa using h
  | [], _, k + 1, h => by simp only [TagsC] at h; subst h; simp [TagsC]
  | p :: m, _, k + 1, ⟨v, r, e, h1, h2⟩ => by
    subst e
    rw [show (k + 1) * 2 = k * 2 + 1 + 1 by omega]
    exact TagsC.drop k h2

section

variable {P : Program} {c : Nums} {s : SN} {R : Value → World → Prop} {Γ : List (List Value → World → Prop)} {n : Nat} {ρ : Nat → Value} {w : World} {k : Tr}

theorem splice_mid {a g z v : List Value} (h : g.length = v.length) : splice (a ++ g ++ z) a.length v = a ++ v ++ z := by
  have h1 : (a ++ g ++ z).take a.length = a := by rw [List.append_assoc, List.take_left' rfl]
  have h2 : (a ++ g ++ z).drop (a.length + v.length) = z := by rw [← h, ← List.length_append, List.drop_left' rfl]
  unfold splice
  rw [h1, h2]

theorem pair_eq' {a b x y : Value} (h1 : a = x) (h2 : b = y) : [a, b] = [x, y] := by rw [h1, h2]

theorem sem_ins {acc : Value} {tb i j m : Nat} {cs : List Value} {kv vv : Value} {w1 : World} {J I1 : List Value → World → Prop} (S : SpFacts P c s) (h7 : ρ 7 = acc) (h8 : ρ 8 = .int .i64 j) (h12 : ρ 12 = ptr tb) (h14 : ρ 14 = .int .i64 i) (hn : 15 ≤ n)
    (hown : Own w acc 2 m cs) (hfr : ∀ b ∈ blkOf acc, w1.heap.size ≤ b) (htag : Has w tb [kv, vv]) (hcs : ∀ u ∈ cs, u.oneCell' = true) (hkv : kv.oneCell' = true) (hvv : vv.oneCell' = true) (htb : tb ∉ blkOf acc) (hi : i ≤ m) (hm : m < 2147483648) (hj : j < 2147483648) (hk1 : Keeps [] w1 w)
    (hJ : ∀ acc' w', Own w' acc' 2 (m + 1) (cs.take (i * 2) ++ [kv, vv] ++ cs.drop (i * 2)) → (∀ b ∈ blkOf acc', w1.heap.size ≤ b) → Keeps [] w1 w' → J [acc', .int .i64 ((j + 1 : Nat) : Int)] w') : (gIns c n).sem P R [J, I1] n ρ w := by
  have hcl : cs.length = m * 2 := hown.1
  refine s_val (v_build (cells := [.int .u32 0, .slice none 0 0]) S.planTag (fun p hp => by cases hp) rfl) ?_
  refine s_oneSlice (sz := 2) (cs := [.int .u32 0, .slice none 0 0]) S.got.rowTag S.ty.slTag (by show (ext _ _ _ n).cells = _; rw [ext_at]; rfl) rfl fun w2 hsl k2 z2 => ⟨fun p hp => (by cases hp), ?_⟩
  have lt : ∀ {ρ : Nat → Value} {a q : Nat} {v : Value}, q < a → ext ρ a [v] q = ρ q := fun h => ext_lt h
  refine s_appendOne (v := acc) (u := .slice (some ⟨w.heap.size, 0, none⟩) 1 1) S.got.rowTag S.ty.slTag (by show ext _ _ _ 7 = _; rw [lt (by omega), lt (by omega)]; exact h7) ext_at (hown.keep k2 (by simp)) hsl (fun q hq => by
    simp only [List.mem_cons, List.not_mem_nil, or_false] at hq
    rcases hq with rfl | rfl <;> rfl) (by omega) fun acc' w3 hown3 k3 hb3 => ⟨fun p hp => (by cases hp), ?_⟩
  generalize hρ : ext (ext (ext ρ n [.agg ⟨[.int .u32 0, .slice none 0 0]⟩]) (n + 1) [.slice (some ⟨w.heap.size, 0, none⟩) 1 1]) (n + 2) [acc'] = ρ3
  have p8 : ρ3 8 = .int .i64 j := by subst hρ; rw [lt (by omega), lt (by omega), lt (by omega)]; exact h8
  have p12 : ρ3 12 = ptr tb := by subst hρ; rw [lt (by omega), lt (by omega), lt (by omega)]; exact h12
  have p14 : ρ3 14 = .int .i64 i := by subst hρ; rw [lt (by omega), lt (by omega), lt (by omega)]; exact h14
  have pa : ρ3 (n + 2) = acc' := by subst hρ; exact ext_at
  have hfr3 : ∀ b ∈ blkOf acc', w1.heap.size ≤ b := fun b hb => (hb3 b hb).elim (hfr b) fun h => by have := hk1.size; have := k2.size; omega
  have k13 : Keeps [] w1 w3 := ((hk1.trans k2).mono (by simp) |>.trans k3).less fun x hx => .inr (hfr x hx)
  have htag3 : Has w3 tb [kv, vv] := (htag.keep k2 (by simp)).keep k3 htb
  have htl := htag.lt
  rcases hown3.2 with ⟨_, h0⟩ | ⟨b, cap, spare, e3, hh3, hc3, hc63, hlen3⟩
  · omega
  have htb3 : tb ≠ b := fun h => by
    subst h
    have := hb3 tb (by rw [e3]; simp [blkOf])
    rcases this with h | h
    · exact htb h
    · have := k2.size; omega
  refine s_val (v_len (a := some ⟨b, 0, none⟩) (l := m + 1) (c := cap) S.ty.slTag (by show ρ3 (n + 2) = _; rw [pa, e3])) ?_
  refine s_val (v_arith (kk := .i64) (a := ((m + 1 : Nat) : Int)) (b := 1) (r := (m : Int)) ext_at rfl (by simp only [arithOf, Option.some.injEq]; rw [IntKind.wrap_i64]; omega)) ?_
  generalize hρ5 : ext (ext ρ3 (n + 3) [.int .i64 ((m + 1 : Nat) : Int)]) (n + 4) [.int .i64 (m : Int)] = ρ5
  have r8 : ρ5 8 = .int .i64 j := by subst hρ5; rw [lt (by omega), lt (by omega)]; exact p8
  have r12 : ρ5 12 = ptr tb := by subst hρ5; rw [lt (by omega), lt (by omega)]; exact p12
  have r14 : ρ5 14 = .int .i64 i := by subst hρ5; rw [lt (by omega), lt (by omega)]; exact p14
  have ra : ρ5 (n + 2) = acc' := by subst hρ5; rw [lt (by omega), lt (by omega)]; exact pa
  have rm : ρ5 (n + 4) = .int .i64 (m : Int) := by subst hρ5; exact ext_at
  refine ⟨rfl, fun vs w' => ∃ q : Nat, vs = [.int .i64 q] ∧ i ≤ q ∧ q ≤ m ∧ ∃ g : List Value, g.length = 2 ∧ Has w' b (cs.take (q * 2) ++ g ++ (cs.drop (q * 2) ++ spare)) ∧ Keeps [b] w3 w', fun vs _ => match vs with
    | [.int _ q] => q.toNat
    | _ => 0, ⟨m, by show [ρ5 (n + 4)] = _; rw [rm], hi, Nat.le_refl _, [.int .u32 0, .slice none 0 0], rfl, ?_, .refl⟩, ?_⟩
  · rw [List.take_of_length_le (by omega), List.drop_eq_nil_of_le (by omega), List.nil_append]
    exact hh3
  rintro _ w4 _ ⟨q, rfl, hiq, hqm, g, hg, hh4, k4⟩
  show Tr.sem _ _ _ _ (n + 6) (ext ρ5 (n + 5) [.int .i64 (q : Int)]) w4
  have hx5 : ext ρ5 (n + 5) [.int .i64 (q : Int)] (n + 5) = .int .i64 q := ext_at
  refine s_val (v_cmp (kk := .i64) (a := q) (b := i) (r := decide ((q : Int) > i)) hx5 (by show ext _ _ _ 14 = _; rw [lt (by omega)]; exact r14) rfl) ?_
  refine s_cond (b := decide ((q : Int) > i)) ext_at (fun hb => ?_) fun hb => ?_
  · have hgt : i < q := by
      have : (q : Int) > i := by simpa using hb
      omega
    obtain ⟨p, rfl⟩ : ∃ p, q = p + 1 := ⟨q - 1, by omega⟩
    refine s_val (v_arith (kk := .i64) (a := ((p + 1 : Nat) : Int)) (b := 1) (r := (p : Int)) (by show ext _ _ _ (n + 5) = _; rw [lt (by omega)]; exact ext_at) rfl (by simp only [arithOf, Option.some.injEq]; rw [IntKind.wrap_i64]; omega)) ?_
    refine s_val (v_indexAddr (b := b) (o := 0) (l := m + 1) (c := cap) (j := p) (kk := .i64) S.ty.slTag S.szG (by show ext _ _ _ (n + 2) = _; rw [lt (by omega), lt (by omega), lt (by omega), ra, e3]) ext_at (by omega) (by omega)) ?_
    rw [Int.toNat_natCast]
    have hold : (cs.take ((p + 1) * 2)).length = (p + 1) * 2 := by rw [List.length_take]; omega
    refine s_lok (l_loadN (b := b) (o := 0 + p * 2) S.ty.aggTag ext_at hh4 (by simp only [List.length_append, hold]; omega)) ?_
    have hcell : ((cs.take ((p + 1) * 2) ++ g ++ (cs.drop ((p + 1) * 2) ++ spare)).drop (0 + p * 2)).take 2 = (cs.drop (p * 2)).take 2 := by
      rw [Nat.zero_add, List.append_assoc, List.drop_append_of_le_length (by omega), List.take_append_of_le_length (by rw [List.length_drop, hold]; omega), List.drop_take]
      rw [List.take_take]
      congr 1
      omega
    rw [hcell]
    have hcl2 : ((cs.drop (p * 2)).take 2).length = 2 := by rw [List.length_take, List.length_drop]; omega
    refine s_val (v_indexAddr (b := b) (o := 0) (l := m + 1) (c := cap) (j := ((p + 1 : Nat) : Int)) (kk := .i64) S.ty.slTag S.szG (by show ext _ _ _ (n + 2) = _; rw [lt (by omega), lt (by omega), lt (by omega), lt (by omega), lt (by omega), ra, e3]) (by show ext _ _ _ (n + 5) = _; rw [lt (by omega), lt (by omega), lt (by omega), lt (by omega)]; exact ext_at) (by omega) (by omega)) ?_
    rw [Int.toNat_natCast]
    obtain ⟨w5, e5, h5, k5⟩ := a_storeCells (P := P) (w := w4) (t := c.sTag) (x := .tmp (n + 10)) (y := .tmp (n + 9)) (b := b) (o := 0 + (p + 1) * 2) (vs := (cs.drop (p * 2)).take 2) (ρ := ext (ext (ext (ext (ext (ext ρ5 (n + 5) [.int .i64 ((p + 1 : Nat) : Int)]) (n + 6) [.bool (decide (((p + 1 : Nat) : Int) > i))]) (n + 7) [.int .i64 (p : Int)]) (n + 8) [ptr b (0 + p * 2)]) (n + 9) [.agg ⟨(cs.drop (p * 2)).take 2⟩]) (n + 10) [ptr b (0 + (p + 1) * 2)]) (by rw [hcl2]; exact (aggTy_spec (w := w) S.ty.aggTag).2) ext_at (by show (ext _ _ _ (n + 9)).cells = _; rw [lt (by omega), ext_at]; rfl) hh4 (by simp only [List.length_append, hold]; omega) fun u hu => hcs u (List.mem_of_mem_drop (List.mem_of_mem_take hu))
    refine s_unit e5 (fun p hp => (by cases hp)) ?_
    refine s_val (v_arith (kk := .i64) (a := ((p + 1 : Nat) : Int)) (b := 1) (r := (p : Int)) (by show ext _ _ _ (n + 5) = _; rw [lt (by omega), lt (by omega), lt (by omega), lt (by omega), lt (by omega), lt (by omega)]; exact ext_at) rfl (by simp only [arithOf, Option.some.injEq]; rw [IntKind.wrap_i64]; omega)) ?_
    refine ⟨_, rfl, ?_⟩
    generalize hvs : List.map (ev _) [Operand.tmp (n + 12)] = vs
    obtain rfl : vs = [.int .i64 (p : Int)] := by rw [← hvs]; exact congrArg (fun x => [x]) ext_at
    refine ⟨⟨p, rfl, by omega, by omega, (cs.drop (p * 2)).take 2, hcl2, ?_, k4.trans k5⟩, by show (p : Int).toNat < ((p + 1 : Nat) : Int).toNat; omega⟩
    have hs : splice (cs.take ((p + 1) * 2) ++ g ++ (cs.drop ((p + 1) * 2) ++ spare)) (0 + (p + 1) * 2) ((cs.drop (p * 2)).take 2) = cs.take (p * 2) ++ (cs.drop (p * 2)).take 2 ++ (cs.drop (p * 2) ++ spare) := by
      have h1 := splice_mid (a := cs.take ((p + 1) * 2)) (g := g) (z := cs.drop ((p + 1) * 2) ++ spare) (v := (cs.drop (p * 2)).take 2) (by omega)
      rw [hold] at h1
      rw [Nat.zero_add, h1]
      have e1 : cs.take ((p + 1) * 2) = cs.take (p * 2) ++ (cs.drop (p * 2)).take 2 := by rw [show (p + 1) * 2 = p * 2 + 2 by omega, List.take_add]
      have e2 : (cs.drop (p * 2)).take 2 ++ cs.drop ((p + 1) * 2) = cs.drop (p * 2) := by rw [show (p + 1) * 2 = p * 2 + 2 by omega, ← List.drop_drop, List.take_append_drop]
      rw [e1, List.append_assoc, List.append_assoc, List.append_assoc, ← List.append_assoc ((cs.drop (p * 2)).take 2) (cs.drop _) spare, e2]
    rw [hs] at h5
    exact h5
  · obtain rfl : q = i := by
      have : ¬ (q : Int) > i := by simpa using hb
      omega
    refine s_lok (l_loadN (b := tb) (o := 0) S.ty.aggTag (by show ext _ _ _ 12 = _; rw [lt (by omega), lt (by omega)]; exact r12) (htag3.keep k4 (by simp only [List.mem_singleton]; exact htb3)) (show 0 + 2 ≤ 2 by omega)) ?_
    refine s_val (v_indexAddr (b := b) (o := 0) (l := m + 1) (c := cap) (j := (q : Int)) (kk := .i64) S.ty.slTag S.szG (by show ext _ _ _ (n + 2) = _; rw [lt (by omega), lt (by omega), lt (by omega), ra, e3]) (by show ext _ _ _ 14 = _; rw [lt (by omega), lt (by omega), lt (by omega)]; exact r14) (by omega) (by omega)) ?_
    rw [Int.toNat_natCast]
    have hold : (cs.take (q * 2)).length = q * 2 := by rw [List.length_take]; omega
    obtain ⟨w5, e5, h5, k5⟩ := a_storeCells (P := P) (w := w4) (t := c.sTag) (x := .tmp (n + 8)) (y := .tmp (n + 7)) (b := b) (o := 0 + q * 2) (vs := [kv, vv]) (ρ := ext (ext (ext (ext ρ5 (n + 5) [.int .i64 (q : Int)]) (n + 6) [.bool (decide ((q : Int) > q))]) (n + 7) [.agg ⟨[kv, vv]⟩]) (n + 8) [ptr b (0 + q * 2)]) (aggTy_spec (w := w) S.ty.aggTag).2 ext_at (by show (ext _ _ _ (n + 7)).cells = _; rw [lt (by omega), ext_at]; rfl) hh4 (by simp only [List.length_append, hold, List.length_cons, List.length_nil]; omega) (fun u hu => by
      simp only [List.mem_cons, List.not_mem_nil, or_false] at hu
      rcases hu with rfl | rfl
      · exact hkv
      · exact hvv)
    refine s_unit e5 (fun p hp => (by cases hp)) ?_
    refine s_val (v_arith (kk := .i64) (a := (j : Int)) (b := 1) (r := ((j + 1 : Nat) : Int)) (by show ext _ _ _ 8 = _; rw [lt (by omega), lt (by omega), lt (by omega), lt (by omega), lt (by omega)]; exact r8) rfl (by simp only [arithOf, Option.some.injEq]; rw [IntKind.wrap_i64]; omega)) ?_
    refine ⟨J, rfl, ?_⟩
    generalize hvs : List.map (ev _) [Operand.tmp (n + 2), Operand.tmp (n + 10)] = vs
    obtain rfl : vs = [acc', .int .i64 ((j + 1 : Nat) : Int)] := by
      rw [← hvs]
      exact pair_eq' (by show ext _ _ _ (n + 2) = _; rw [lt (by omega), lt (by omega), lt (by omega), lt (by omega), lt (by omega), lt (by omega)]; exact ra) ext_at
    have hs : splice (cs.take (q * 2) ++ g ++ (cs.drop (q * 2) ++ spare)) (0 + q * 2) [kv, vv] = cs.take (q * 2) ++ [kv, vv] ++ (cs.drop (q * 2) ++ spare) := by
      have h1 := splice_mid (a := cs.take (q * 2)) (g := g) (z := cs.drop (q * 2) ++ spare) (v := [kv, vv]) (by simpa using hg)
      rw [hold] at h1
      rw [Nat.zero_add, h1]
    rw [hs, ← List.append_assoc] at h5
    have hll : (cs.take (q * 2) ++ [kv, vv] ++ cs.drop (q * 2)).length = (m + 1) * 2 := by simp only [List.length_append, hold, List.length_drop, List.length_cons, List.length_nil]; omega
    refine hJ acc' w5 ⟨hll, .inr ⟨b, cap, spare, e3, h5, hc3, hc63, ?_⟩⟩ hfr3 ((k13.mono (by simp)).trans (k4.trans k5) |>.less fun x hx => .inr ?_)
    · rw [List.length_append, hll]
      rw [List.length_append, List.length_append, hcl] at hlen3
      simp only [List.length_cons, List.length_nil] at hlen3
      omega
    · simp only [List.mem_singleton] at hx
      subst hx
      exact hfr3 x (by rw [e3]; simp [blkOf])

theorem TagsC.ones : ∀ {m : TM} {cs : List Value}, TagsC w m cs → ∀ u ∈ cs, u.oneCell' = true
  | [], _, h, u, hu => by simp only [TagsC] at h; subst h; cases hu
  | p :: m, _, ⟨v, r, e, h1, h2⟩, u, hu => by
    subst e
    simp only [List.mem_cons] at hu
    rcases hu with rfl | rfl | hu
    · rfl
    · exact h1.one
    · exact TagsC.ones h2 u hu

/-- The key of a tag in an own row. -/
theorem own_key {w1 : World} {acc : Value} {m : TM} {cs : List Value} {i : Nat} (ho : Own w acc 2 m.length cs) (ht : TagsC w1 m cs) (hi : i < m.length) : ∃ b cap spare, acc = .slice (some ⟨b, 0, none⟩) m.length cap ∧ Has w b (cs ++ spare) ∧ (cs ++ spare)[0 + i * 2 + 0]? = some (.int .u32 m[i].1) := by
  rcases ho.2 with ⟨_, h0⟩ | ⟨b, cap, spare, e, hh, _⟩
  · omega
  · obtain ⟨v, h1, _⟩ := ht.get hi
    have hl := ho.1
    refine ⟨b, cap, spare, e, hh, ?_⟩
    rw [List.getElem?_append_left (by omega), Nat.zero_add, Nat.add_zero]
    have := congrArg (fun x => x[0]?) h1
    simpa [List.getElem?_take, List.getElem?_drop] using this

theorem own_form {acc : Value} {sz m : Nat} {cs : List Value} (ho : Own w acc sz m cs) : ∃ a cp, acc = .slice a m cp := by
  rcases ho.2 with ⟨rfl, rfl⟩ | ⟨b, cap, spare, e, _⟩
  · exact ⟨_, _, rfl⟩
  · exact ⟨_, _, e⟩

def pStep (least : Nat) (q : Nat × List UInt8) (out : TM) : TM := if q.1 < least then out else pPut q out

theorem sem_same {acc vv : Value} {tb i j least : Nat} {q : Nat × List UInt8} {out : TM} {cs : List Value} {w0 w1 : World} {J I1 : List Value → World → Prop} (S : SpFacts P c s) (h2 : ρ 2 = .int .u32 least) (h7 : ρ 7 = acc) (h8 : ρ 8 = .int .i64 j) (h12 : ρ 12 = ptr tb) (h14 : ρ 14 = .int .i64 i) (hn : 15 ≤ n)
    (hown : Own w acc 2 out.length cs) (hfr : ∀ b ∈ blkOf acc, w1.heap.size ≤ b) (ht : TagsC w0 out cs) (htag : Has w tb [.int .u32 q.1, vv]) (hvv : Ro w0 vv 1 q.2.length (bcells q.2)) (htb : tb ∉ blkOf acc) (hi : i ≤ out.length) (hbelow : ∀ p ∈ out.take i, p.1 < q.1) (hat : ∀ h : i < out.length, ¬ out[i].1 < q.1)
    (hm : out.length < 2147483647) (hj : j < 2147483647) (hk1 : Keeps [] w1 w)
    (hJ : ∀ acc' w' cs', Own w' acc' 2 (pStep least q out).length cs' → (∀ b ∈ blkOf acc', w1.heap.size ≤ b) → TagsC w0 (pStep least q out) cs' → Keeps [] w1 w' → J [acc', .int .i64 ((j + 1 : Nat) : Int)] w') : (gSame c n).sem P R [J, I1] n ρ w := by
  have lt : ∀ {ρ : Nat → Value} {a q : Nat} {v : Value}, q < a → ext ρ a [v] q = ρ q := fun h => ext_lt h
  show Tr.sem _ _ _ _ _ _ { w with drawn := w.drawn + 1 }
  have hd : Keeps [] w { w with drawn := w.drawn + 1 } := keeps_drawn w _ _
  generalize ({ w with drawn := w.drawn + 1 } : World) = w2 at hd ⊢
  have hown2 := hown.keep hd (by simp)
  have htag2 := htag.keep hd (by simp)
  have k12 := hk1.trans hd
  have hvo := hvv.one
  have ins : ∀ (n' : Nat) (ρ' : Nat → Value), 15 ≤ n' → (∀ x, x < 15 → ρ' x = ρ x) → pStep least q out = out.take i ++ q :: out.drop i → (gIns c n').sem P R [J, I1] n' ρ' w2 := by
    intro n' ρ' hn' hρ' hst
    refine sem_ins (acc := acc) (tb := tb) (i := i) (j := j) (m := out.length) (cs := cs) (kv := .int .u32 q.1) (vv := vv) (w1 := w1) S ((hρ' 7 (by omega)).trans h7) ((hρ' 8 (by omega)).trans h8) ((hρ' 12 (by omega)).trans h12) ((hρ' 14 (by omega)).trans h14) hn' hown2 hfr htag2 ht.ones rfl hvo htb hi (by omega) (by omega) k12 fun acc' w' ho' hf' kk => ?_
    have hlen : (pStep least q out).length = out.length + 1 := by rw [hst, List.length_append, List.length_take, List.length_cons, List.length_drop]; omega
    refine hJ acc' w' _ (by rw [hlen]; exact ho') hf' ?_ kk
    rw [hst, List.append_assoc]
    exact (TagsC.take i ht).append (show TagsC w0 (q :: out.drop i) ([.int .u32 q.1, vv] ++ cs.drop (i * 2)) from ⟨vv, _, rfl, hvv, TagsC.drop i ht⟩)
  have skip : ∀ (n' : Nat) (ρ' : Nat → Value), 15 ≤ n' → (∀ x, x < 15 → ρ' x = ρ x) → pStep least q out = out → (gSkip c n').sem P R [J, I1] n' ρ' w2 := by
    intro n' ρ' hn' hρ' hst
    refine s_val (v_arith (kk := .i64) (a := (j : Int)) (b := 1) (r := ((j + 1 : Nat) : Int)) ((hρ' 8 (by omega)).trans h8) rfl (by simp only [arithOf, Option.some.injEq]; rw [IntKind.wrap_i64]; omega)) ?_
    refine ⟨J, rfl, ?_⟩
    generalize hvs : List.map (ev _) [Operand.tmp 7, Operand.tmp n'] = vs
    obtain rfl : vs = [acc, .int .i64 ((j + 1 : Nat) : Int)] := by
      rw [← hvs]
      exact pair_eq' (by show ext _ _ _ 7 = _; rw [lt (by omega)]; exact (hρ' 7 (by omega)).trans h7) ext_at
    exact hJ acc w2 cs (by rw [hst]; exact hown2) hfr (by rw [hst]; exact ht) k12
  refine p_fl S.ty.g0 S.ty.oneU32 (show ev ρ (.tmp 12) = ptr tb from h12) rfl htag2 rfl ?_
  refine p_val (v_cmp (kk := .u32) (a := q.1) (b := least) (r := decide ((q.1 : Int) < least)) ext_at (by show ext _ _ _ 2 = _; rw [lt (by omega), lt (by omega)]; exact h2) rfl) ?_
  refine s_cond (b := decide ((q.1 : Int) < least)) ext_at (fun hb => ?_) fun hb => ?_
  · refine skip _ _ (by omega) (fun x hx => by rw [lt (by omega), lt (by omega), lt (by omega)]) ?_
    unfold pStep
    rw [if_pos (by
      have : (q.1 : Int) < least := by simpa using hb
      omega)]
  have hst : pStep least q out = pPut q out := by
    unfold pStep
    rw [if_neg (by
      have : ¬ (q.1 : Int) < least := by simpa using hb
      omega)]
  have hput := pPut_at hbelow hi hat
  obtain ⟨a, cp, e⟩ := own_form hown2
  refine p_val (v_len (a := a) (l := out.length) (c := cp) S.ty.slTag (by show ext _ _ _ 7 = _; rw [lt (by omega), lt (by omega), lt (by omega), h7, e])) ?_
  refine p_val (v_cmp (kk := .i64) (a := i) (b := out.length) (r := decide ((i : Int) < out.length)) (by show ext _ _ _ 14 = _; rw [lt (by omega), lt (by omega), lt (by omega), lt (by omega)]; exact h14) ext_at rfl) ?_
  refine s_cond (b := decide ((i : Int) < out.length)) ext_at (fun hb2 => ?_) fun hb2 => ?_
  · have hlt : i < out.length := by
      have : (i : Int) < out.length := by simpa using hb2
      omega
    obtain ⟨b, cap, spare, e2, hh, hkey⟩ := own_key hown2 ht hlt
    refine p_val (v_indexAddr (b := b) (o := 0) (l := out.length) (c := cap) (j := (i : Int)) (kk := .i64) S.ty.slTag S.szG (by show ext _ _ _ 7 = _; rw [lt (by omega), lt (by omega), lt (by omega), lt (by omega), lt (by omega), h7, e2]) (by show ext _ _ _ 14 = _; rw [lt (by omega), lt (by omega), lt (by omega), lt (by omega), lt (by omega)]; exact h14) (by omega) (by omega)) ?_
    rw [Int.toNat_natCast]
    refine p_fl S.ty.g0 S.ty.oneU32 ext_at rfl hh hkey ?_
    refine p_fl S.ty.g0 S.ty.oneU32 (by show ext _ _ _ 12 = _; rw [lt (by omega), lt (by omega), lt (by omega), lt (by omega), lt (by omega), lt (by omega), lt (by omega), lt (by omega)]; exact h12) rfl htag2 rfl ?_
    refine p_val (v_cmp (kk := .u32) (a := (out[i]'hlt).1) (b := q.1) (r := (((out[i]'hlt).1 : Int) == q.1)) (by show ext _ _ _ (n + 7) = _; rw [lt (by omega), lt (by omega)]; exact ext_at) ext_at rfl) ?_
    rw [dif_pos hlt] at hput
    refine s_cond (b := (((out[i]'hlt).1 : Int) == q.1)) ext_at (fun hb3 => ?_) fun hb3 => ?_
    · refine skip _ _ (by omega) (fun x hx => by rw [lt (by omega), lt (by omega), lt (by omega), lt (by omega), lt (by omega), lt (by omega), lt (by omega), lt (by omega), lt (by omega), lt (by omega), lt (by omega)]) ?_
      rw [hst, hput, if_pos (by
        have : ((out[i]'hlt).1 : Int) = q.1 := by simpa using hb3
        omega)]
    · refine ins _ _ (by omega) (fun x hx => by rw [lt (by omega), lt (by omega), lt (by omega), lt (by omega), lt (by omega), lt (by omega), lt (by omega), lt (by omega), lt (by omega), lt (by omega), lt (by omega)]) ?_
      rw [hst, hput, if_neg (by
        have : ¬ ((out[i]'hlt).1 : Int) = q.1 := by simpa using hb3
        omega)]
  · have hge : ¬ i < out.length := by
      have : ¬ (i : Int) < out.length := by simpa using hb2
      omega
    refine ins _ _ (by omega) (fun x hx => by rw [lt (by omega), lt (by omega), lt (by omega), lt (by omega), lt (by omega)]) ?_
    rw [hst, hput, dif_neg hge, List.take_of_length_le (by omega), List.drop_eq_nil_of_le (by omega)]

theorem unknown_gives (S : SpFacts P c s) {fs : List PF} (hK : ∀ (w : World) (fv : Value), FieldsV w fs fv → Yields P s.known [fv] w (.int .u32 (pKnown fs 0))) (hT : treeIn P s.unknown noOrc [.tmp 0, .tmp 1] 2 = tUnknown c s) : UnknownOf P s fs := by
  intro w0 w fv uv u ucs hfv hr ht hkey
  refine gives_in (ρ := en [_, _]) S.rd.mix hT (Nat.le_refl _) rfl (by simp [opBelow]) ?_
  refine s_callx (hK w fv hfv) rfl fun x w1 ⟨hx, k1⟩ => ?_
  subst hx
  obtain ⟨a, cp, rfl⟩ := hr.form
  refine s_val (v_len (a := a) (l := u.length) (c := cp) S.ty.slTag rfl) ?_
  refine s_val (v_min (kk := .i64) (a := u.length) (b := 32767) rfl rfl) ?_
  have hcap : u.length ≤ cp := by
    rcases hr.2 with ⟨h0, _⟩ | ⟨_, _, _, e, _, hc, _⟩
    · omega
    · simp only [Value.slice.injEq] at e; omega
  refine s_val (v_sliceTo (a := a) (l := u.length) (c := cp) (k := .i64) (h := if (32767 : Int) < (u.length : Int) then (32767 : Int) else (u.length : Int)) S.ty.slTag S.szG rfl rfl (by split <;> omega) (by split <;> omega)) ?_
  have e : (u.take 32767).length = (if (32767 : Int) < (u.length : Int) then (32767 : Int) else (u.length : Int)).toNat := by
    rw [take_min, List.length_take]
    split <;> omega
  have h2 := (hr.to (m := (u.take 32767).length) (by rw [e]; split <;> omega)).keep k1
  have h3 := ht.take (u.take 32767).length
  have htk : u.take (u.take 32767).length = u.take 32767 := by rw [List.length_take, List.take_eq_take_min]; simp
  rw [htk] at h3
  rw [← e]
  generalize hl : u.take 32767 = l at h2 h3 e ⊢
  have hl7 : l.length ≤ 32767 := by rw [← hl, List.length_take]; omega
  have hkl : ∀ p ∈ l, p.1 < 4294967296 := fun p hp => hkey p (List.mem_of_mem_take (by rw [hl]; exact hp))
  refine s_val (v_len (a := a) (l := l.length) (c := cp) S.ty.slTag rfl) ?_
  refine s_countV (n := 7) (q := 6) (kk := .i64) (m := l.length) (ri := [.const (.slice none 0 0)]) (Γ := []) (fun j vr w' => ∃ acc cs, vr = [acc] ∧ Own w' acc 2 (pUnknownN (pKnown fs 0) (l.take j) []).length cs ∧ (∀ b ∈ blkOf acc, w1.heap.size ≤ b) ∧ TagsC w0 (pUnknownN (pKnown fs 0) (l.take j) []) cs ∧ Keeps [] w1 w') (by omega) rfl
    ⟨_, [], rfl, Own.nil w1 2, (fun b hb => by cases hb), rfl, .refl⟩ ?_ ?_
  · rintro j hj w2 vr ⟨acc, cs, rfl, hown, hfr, htc, k2⟩ hvr J hJ
    have hj' : j < l.length := by omega
    have hsn : pUnknownN (pKnown fs 0) (l.take (j + 1)) [] = pStep (pKnown fs 0) l[j] (pUnknownN (pKnown fs 0) (l.take j) []) := by
      rw [List.take_succ_eq_append_getElem hj', pUnknownN_snoc]
      rfl
    have hol : (pUnknownN (pKnown fs 0) (l.take j) []).length ≤ j := by
      have := pUnknownN_length (pKnown fs 0) (l.take j) []
      rw [List.length_take] at this
      simp at this
      omega
    generalize hout : pUnknownN (pKnown fs 0) (l.take j) [] = out at hown htc hsn hol
    refine s_eachT (w0 := w0) (tv := .slice a l.length cp) (m := l) (j := j) S (h2.keep k2) h3 rfl rfl hj' fun w3 a3 tb vv hh hvv k3 hb => ?_
    have hown3 := hown.keep k3 (by simp)
    have k13 := k2.trans k3
    have htb : tb ∉ blkOf acc := fun h => by have := hown.lt tb h; omega
    refine ⟨rfl, fun vs w' => ∃ i : Nat, vs = [.int .i64 i] ∧ i ≤ out.length ∧ (∀ p ∈ out.take i, p.1 < (l[j]'hj').1) ∧ Keeps [] w3 w', fun vs _ => match vs with
      | [.int _ i] => (out.length : Int).toNat - i.toNat
      | _ => 0, ⟨0, rfl, by omega, (fun p hp => by simp at hp), .refl⟩, ?_⟩
    rintro _ w4 _ ⟨i, rfl, hi, hbelow, k34⟩
    have k14 := k13.trans k34
    show Tr.sem _ _ _ _ _ _ { w4 with drawn := w4.drawn + 1 }
    have hd : Keeps [] w4 { w4 with drawn := w4.drawn + 1 } := keeps_drawn w4 _ _
    generalize ({ w4 with drawn := w4.drawn + 1 } : World) = w5 at hd ⊢
    have hown5 := (hown3.keep k34 (by simp)).keep hd (by simp)
    have htag5 := (hh.keep k34 (by simp)).keep hd (by simp)
    obtain ⟨a5, c5, e5⟩ := own_form hown5
    have fin : ∀ acc' w' cs', Own w' acc' 2 (pStep (pKnown fs 0) l[j] out).length cs' → (∀ b ∈ blkOf acc', w1.heap.size ≤ b) → TagsC w0 (pStep (pKnown fs 0) l[j] out) cs' → Keeps [] w1 w' → J [acc', .int .i64 ((j + 1 : Nat) : Int)] w' := fun acc' w' cs' h4 h5 h6 h7 => hJ [acc'] w' rfl ⟨acc', cs', rfl, by rw [hsn]; exact h4, h5, by rw [hsn]; exact h6, h7⟩
    refine p_val (v_len (a := a5) (l := out.length) (c := c5) S.ty.slTag e5) ?_
    refine p_val (v_cmp (kk := .i64) (a := i) (b := out.length) (r := decide ((i : Int) < out.length)) rfl rfl rfl) ?_
    refine s_cond (b := decide ((i : Int) < out.length)) rfl (fun hb2 => ?_) fun hb2 => ?_
    · have hlt : i < out.length := by
        have : (i : Int) < out.length := by simpa using hb2
        omega
      obtain ⟨b, cap, spare, e2, hh2, hkey2⟩ := own_key hown5 htc hlt
      refine p_val (v_indexAddr (b := b) (o := 0) (l := out.length) (c := cap) (j := (i : Int)) (kk := .i64) S.ty.slTag S.szG e2 rfl (by omega) (by omega)) ?_
      rw [Int.toNat_natCast]
      refine p_fl S.ty.g0 S.ty.oneU32 rfl rfl hh2 hkey2 ?_
      refine p_fl S.ty.g0 S.ty.oneU32 rfl rfl htag5 rfl ?_
      refine p_val (v_cmp (kk := .u32) (a := (out[i]'hlt).1) (b := (l[j]'hj').1) (r := decide (((out[i]'hlt).1 : Int) < (l[j]'hj').1)) rfl rfl rfl) ?_
      refine s_cond (b := decide (((out[i]'hlt).1 : Int) < (l[j]'hj').1)) rfl (fun hb3 => ?_) fun hb3 => ?_
      · have hlt3 : (out[i]'hlt).1 < (l[j]'hj').1 := by
          have : ((out[i]'hlt).1 : Int) < (l[j]'hj').1 := by simpa using hb3
          omega
        refine s_val (v_arith (kk := .i64) (a := i) (b := 1) (r := ((i + 1 : Nat) : Int)) rfl rfl (by simp only [arithOf, Option.some.injEq]; rw [IntKind.wrap_i64]; omega)) ?_
        refine ⟨_, rfl, ⟨i + 1, rfl, by omega, ?_, k34.trans hd⟩, ?_⟩
        · intro p hp
          rw [List.take_succ_eq_append_getElem hlt, List.mem_append] at hp
          rcases hp with hp | hp
          · exact hbelow p hp
          · simp only [List.mem_singleton] at hp
            subst hp
            exact hlt3
        · show (out.length : Int).toNat - ((i + 1 : Nat) : Int).toNat < (out.length : Int).toNat - (i : Int).toNat
          omega
      · refine sem_same (acc := acc) (vv := vv) (tb := tb) (i := i) (j := j) (least := pKnown fs 0) (q := l[j]) (out := out) (cs := cs) (w0 := w0) (w1 := w1) S rfl rfl rfl rfl rfl (by omega) hown5 hfr htc htag5 hvv htb hi hbelow (fun h => ?_) (by omega) (by omega) (k14.trans hd) fin
        have : ¬ ((out[i]'hlt).1 : Int) < (l[j]'hj').1 := by simpa using hb3
        omega
    · refine sem_same (acc := acc) (vv := vv) (tb := tb) (i := i) (j := j) (least := pKnown fs 0) (q := l[j]) (out := out) (cs := cs) (w0 := w0) (w1 := w1) S rfl rfl rfl rfl rfl (by omega) hown5 hfr htc htag5 hvv htb hi hbelow (fun h => ?_) (by omega) (by omega) (k14.trans hd) fin
      have : ¬ (i : Int) < out.length := by simpa using hb2
      omega
  · rintro w2 vr J ⟨acc, cs, rfl, hown, hfr, htc, k2⟩ hvr
    rw [Int.toNat_natCast, List.take_length] at hown htc
    refine s_ret1 ⟨cs, ?_, ?_, fun b hb => Nat.le_trans k1.size (hfr b hb), k1.trans k2⟩
    · unfold pUnknown
      rw [hl]
      exact hown
    · unfold pUnknown
      rw [hl]
      exact htc

end

end Go.Kf


namespace Go.Kf

open Go

def MapIs (w : World) (b : Nat) (es : List MapEntry) (clock : Nat) : Prop := w.heap[b]? = some (.map ⟨es⟩ clock)

theorem MapIs.lt {w : World} {b clock : Nat} {es : List MapEntry} (h : MapIs w b es clock) : b < w.heap.size := (Array.getElem?_eq_some_iff.1 h).1

theorem MapIs.keep {M : List Nat} {w w' : World} {b clock : Nat} {es : List MapEntry} (h : MapIs w b es clock) (hk : Keeps M w w') (hm : b ∉ M) : MapIs w' b es clock := by
  have hl := h.lt
  unfold MapIs at *
  rw [hk.block b hl hm]; exact h

/-- An iterator. -/
def IterIs (w : World) (b mb since : Nat) (seen : List Nat) (last : Nat) : Prop := w.heap[b]? = some (.mapIter (some mb) since ⟨seen⟩ last)

theorem IterIs.lt {w : World} {b mb s l : Nat} {seen : List Nat} (h : IterIs w b mb s seen l) : b < w.heap.size := (Array.getElem?_eq_some_iff.1 h).1

theorem IterIs.keep {M : List Nat} {w w' : World} {b mb s l : Nat} {seen : List Nat} (h : IterIs w b mb s seen l) (hk : Keeps M w w') (hm : b ∉ M) : IterIs w' b mb s seen l := by
  have hl := h.lt
  unfold IterIs at *
  rw [hk.block b hl hm]; exact h

theorem keeps_put (w : World) (b : Nat) (o : Obj) : Keeps [b] w { w with heap := w.heap.setIfInBounds b o } :=
  ⟨rfl, rfl, rfl, by simp, fun k hk hm => by
    simp only [List.mem_singleton] at hm
    rw [Array.getElem?_setIfInBounds, if_neg (fun e => hm e.symm)]⟩

theorem put_at {w : World} {b : Nat} (o : Obj) (h : b < w.heap.size) : (w.heap.setIfInBounds b o)[b]? = some o := by
  simp [h]

section

variable {P : Program} {ρ : Nat → Value} {w : World}

theorem a_makeMap {t : Nat} : ∃ w', runOp P ρ (.makeMap t none) w = .ok (.value (.map (some w.heap.size))) w' ∧ MapIs w' w.heap.size [] 0 ∧ Keeps [] w w' ∧ w'.heap.size = w.heap.size + 1 := by
  refine ⟨{ w with heap := w.heap.push (.map #[] 0) }, ?_, ?_, keeps_alloc w _ _, by simp⟩
  · unfold runOp bareOp
    simp only [execOp, Instr.makeMap, Option.map_none, Sem.run_bind, Sem.run_pure, Result.andThen_ok, run_newObj]
  · unfold MapIs
    simp

/-- A key's entry. -/
def keyIs (n : Int) (e : MapEntry) : Bool := match e.key with
  | .int _ m => n == m
  | _ => false

/-- An update, of the entries. -/
def esSet : List MapEntry → Int → Value → Nat → List MapEntry
  | [], n, v, clock => [{ key := .int .u32 n, val := v, born := clock }]
  | e :: es, n, v, clock => if keyIs n e then { e with key := .int .u32 n, val := v } :: es else e :: esSet es n v clock

def esHas (es : List MapEntry) (n : Int) : Bool := es.any (keyIs n)

def Keys32 (es : List MapEntry) : Prop := ∀ e ∈ es, ∃ m, e.key = .int .u32 m

theorem findNow_spec {k : Int} : ∀ (es : List MapEntry) (i : Nat), Keys32 es → (esHas es k = false ∧ Instr.findNow (.int .u32) (.int .u32 k) es i = some none) ∨
    ∃ j e, es[j]? = some e ∧ keyIs k e = true ∧ (∀ j' e', j' < j → es[j']? = some e' → keyIs k e' = false) ∧ Instr.findNow (.int .u32) (.int .u32 k) es i = some (some (i + j, e.val))
  | [], i, _ => .inl ⟨rfl, rfl⟩
  | e :: es, i, h => by
    obtain ⟨m, hm⟩ := h e List.mem_cons_self
    by_cases hkm : k = m
    · refine .inr ⟨0, e, rfl, by simp [keyIs, hm, hkm], fun j' e' hj => by omega, ?_⟩
      simp [Instr.findNow, Instr.sameNow, hm, hkm]
    · have hf : keyIs k e = false := by simp [keyIs, hm, hkm]
      have hstep : Instr.findNow (.int .u32) (.int .u32 k) (e :: es) i = Instr.findNow (.int .u32) (.int .u32 k) es (i + 1) := by
        have hb : (k == m) = false := by simpa using hkm
        simp [Instr.findNow, Instr.sameNow, hm, hb]
      rcases findNow_spec es (i + 1) (fun x hx => h x (List.mem_cons_of_mem _ hx)) with ⟨h1, h2⟩ | ⟨j, e', h1, h2, h3, h4⟩
      · refine .inl ⟨by simp [esHas, hf] at h1 ⊢; exact h1, by rw [hstep, h2]⟩
      · refine .inr ⟨j + 1, e', by simpa using h1, h2, fun j' e'' hj he => ?_, by rw [hstep, h4]; congr 3; omega⟩
        cases j' with
        | zero => simp only [List.getElem?_cons_zero, Option.some.injEq] at he; rw [← he]; exact hf
        | succ j' => exact h3 j' e'' (by omega) (by simpa using he)

theorem esSet_push {n : Int} {v : Value} {clock : Nat} : ∀ {es : List MapEntry}, esHas es n = false → esSet es n v clock = es ++ [{ key := .int .u32 n, val := v, born := clock }]
  | [], _ => rfl
  | e :: es, h => by
    simp only [esHas, List.any_cons, Bool.or_eq_false_iff] at h
    simp only [esSet, h.1, Bool.false_eq_true, if_false, List.cons_append]
    rw [esSet_push h.2]

theorem esSet_modify {n : Int} {v : Value} {clock : Nat} : ∀ {es : List MapEntry} {j : Nat} {e : MapEntry}, es[j]? = some e → keyIs n e = true → (∀ j' e', j' < j → es[j']? = some e' → keyIs n e' = false) →
    esSet es n v clock = es.modify j fun e => { e with key := .int .u32 n, val := v }
  | [], j, e, h, _, _ => by simp at h
  | x :: es, 0, e, h, hk, _ => by
    simp only [List.getElem?_cons_zero, Option.some.injEq] at h
    subst h
    simp [esSet, hk]
  | x :: es, j + 1, e, h, hk, hb => by
    have hx := hb 0 x (by omega) rfl
    simp only [esSet, hx, Bool.false_eq_true, if_false, List.modify_succ_cons]
    rw [esSet_modify (by simpa using h) hk fun j' e' hj he => hb (j' + 1) e' (by omega) (by simpa using he)]

theorem run_checkKey {kt : Nat} {k : Int} {b : Bool} (hk : P.underlying kt = some (.int .u32)) : (Instr.checkKey b 10000 kt (.int .u32 k)).run P w = .ok () w := by
  unfold Instr.checkKey
  simp [run_under hk]

theorem a_mapUpdate {t kt et b clock : Nat} {m k x : Operand} {es : List MapEntry} {n : Int} {v : Value} (ht : P.underlying t = some (.map kt et)) (hk : P.underlying kt = some (.int .u32)) (hm : ev ρ m = .map (some b)) (hkey : ev ρ k = .int .u32 n) (hv : ev ρ x = v)
    (hb : MapIs w b es clock) (h32 : Keys32 es) : ∃ w', runOp P ρ (.mapUpdate t m k x) w = .ok .skip w' ∧ MapIs w' b (esSet es n v clock) (if esHas es n then clock else clock + 1) ∧ Keeps [b] w w' := by
  have hbs := hb.lt
  have hg : (getObj b).run P w = .ok (.map ⟨es⟩ clock) w := MapKept.run_getObj_map hb
  rcases findNow_spec (k := n) es 0 h32 with ⟨h1, h2⟩ | ⟨j, e, h1, h2, h3, h4⟩
  · refine ⟨{ w with heap := w.heap.setIfInBounds b (.map ⟨esSet es n v clock⟩ (clock + 1)) }, ?_, ?_, keeps_put _ _ _⟩
    · unfold runOp bareOp
      simp only [execOp, Instr.mapUpdate, hm, hkey, hv, Sem.run_bind, run_under ht, Result.andThen_ok, hg, run_checkKey hk, Instr.findKey, run_under hk, h2, Sem.run_pure, MapKept.run_setObj_map _ hb]
      rw [esSet_push h1]
      simp
    · unfold MapIs
      rw [h1]
      exact put_at _ hbs
  · have hhas : esHas es n = true := List.any_eq_true.2 ⟨e, List.mem_of_getElem? h1, h2⟩
    refine ⟨{ w with heap := w.heap.setIfInBounds b (.map ⟨esSet es n v clock⟩ clock) }, ?_, ?_, keeps_put _ _ _⟩
    · obtain ⟨m', hm'⟩ := h32 e (List.mem_of_getElem? h1)
      have hmn : m' = n := by simp [keyIs, hm'] at h2; exact h2.symm
      subst hmn
      have hstay : ∀ w, (Instr.keyThatStays (.int .u32 m') (.int .u32 m')).run P w = .ok (.int .u32 m') w := fun w => by
        simp [Instr.keyThatStays, Instr.sameBits]
      have hold : ((((⟨es⟩ : Array MapEntry)[0 + j]?).map (·.key)).getD (.int .u32 m')) = .int .u32 m' := by
        rw [Nat.zero_add, List.getElem?_toArray, h1]; exact hm'
      unfold runOp bareOp
      simp only [execOp, Instr.mapUpdate, hm, hkey, hv, Sem.run_bind, run_under ht, Result.andThen_ok, hg, run_checkKey hk, Instr.findKey, run_under hk, h4, Sem.run_pure, hold, hstay, MapKept.run_setObj_map _ hb]
      rw [esSet_modify h1 h2 h3]
      simp
    · unfold MapIs
      rw [hhas]
      exact put_at _ hbs

theorem l_lookup {t kt et b clock j : Nat} {m k : Operand} {es : List MapEntry} {n : Int} {e : MapEntry} (ht : P.underlying t = some (.map kt et)) (hk : P.underlying kt = some (.int .u32)) (hm : ev ρ m = .map (some b)) (hkey : ev ρ k = .int .u32 n)
    (hb : MapIs w b es clock) (h32 : Keys32 es) (hj : es[j]? = some e) (hje : keyIs n e = true) (hjb : ∀ j' e', j' < j → es[j']? = some e' → keyIs n e' = false) : runOp P ρ (.lookup t m k false) w = .ok (.value e.val) w := by
  have hg : (getObj b).run P w = .ok (.map ⟨es⟩ clock) w := MapKept.run_getObj_map hb
  rcases findNow_spec (k := n) es 0 h32 with ⟨h1, h2⟩ | ⟨j', e', h1, h2, h3, h4⟩
  · have : esHas es n = true := List.any_eq_true.2 ⟨e, List.mem_of_getElem? hj, hje⟩
    rw [this] at h1; cases h1
  · have hjj : j' = j := by
      rcases Nat.lt_trichotomy j' j with h | h | h
      · have := hjb j' e' h h1; rw [h2] at this; cases this
      · exact h
      · have := h3 j e h hj; rw [hje] at this; cases this
    subst hjj
    obtain rfl : e' = e := by rw [hj] at h1; simpa using h1.symm
    unfold runOp bareOp
    simp only [execOp, Instr.lookup, hm, hkey, Sem.run_bind, run_under ht, Result.andThen_ok, hg, Sem.run_pure, run_checkKey hk, Instr.findKey, run_under hk, h4]
    simp

theorem l_lenMap {t kt et b clock : Nat} {x : Operand} {es : List MapEntry} (ht : P.underlying t = some (.map kt et)) (hx : ev ρ x = .map (some b)) (hb : MapIs w b es clock) : runOp P ρ (.call { callee := .builtin .len, args := ⟨[x]⟩, argTypes := ⟨[t]⟩ }) w = .ok (.value (.int .i64 es.length)) w := by
  have hg : (getObj b).run P w = .ok (.map ⟨es⟩ clock) w := MapKept.run_getObj_map hb
  unfold runOp bareOp
  simp only [execOp, resolve, pure_bind, invoke, builtin, Builtin.len_]
  simp [run_under ht, hx, goInt, hg]

theorem v_lenNilMap {t kt et : Nat} {x : Operand} (ht : P.underlying t = some (.map kt et)) (hx : ev ρ x = .map none) : Val P ρ (.call { callee := .builtin .len, args := ⟨[x]⟩, argTypes := ⟨[t]⟩ }) (.int .i64 0) := fun w => by
  unfold runOp bareOp
  simp only [execOp, resolve, pure_bind, invoke, builtin, Builtin.len_]
  simp [run_under ht, hx, goInt]

theorem a_range {t kt et b clock : Nat} {x : Operand} {es : List MapEntry} (ht : P.underlying t = some (.map kt et)) (hx : ev ρ x = .map (some b)) (hb : MapIs w b es clock) :
    ∃ w', runOp P ρ (.range t x) w = .ok (.value (ptr w.heap.size)) w' ∧ IterIs w' w.heap.size b clock [] clock ∧ Keeps [] w w' ∧ w'.heap.size = w.heap.size + 1 := by
  have hg : (getObj b).run P w = .ok (.map ⟨es⟩ clock) w := MapKept.run_getObj_map hb
  refine ⟨{ w with heap := w.heap.push (.mapIter (some b) clock #[] clock) }, ?_, ?_, keeps_alloc w _ _, by simp⟩
  · unfold runOp bareOp
    simp only [execOp, Instr.range, hx, Sem.run_bind, run_under ht, Result.andThen_ok, hg, Sem.run_pure, run_newObj]
    rfl
  · unfold IterIs
    simp

/-- A step of an iterator: none is left, or one of those that are left. -/
theorem a_next {b mb clock : Nat} {x : Operand} {es : List MapEntry} {seen : List Nat} (hx : ev ρ x = ptr b) (hi : IterIs w b mb clock seen clock) (hm : MapIs w mb es clock) (hborn : ∀ e ∈ es, e.born < clock) :
    ((∀ e ∈ es, e.born ∈ seen) ∧ ∃ w', runOp P ρ (.next x false) w = .ok (.value (.tuple #[.bool false])) w' ∧ Keeps [] w w') ∨
    ∃ e ∈ es, e.born ∉ seen ∧ ∃ w', runOp P ρ (.next x false) w = .ok (.value (.tuple #[.bool true, e.key, e.val])) w' ∧ IterIs w' b mb clock (seen ++ [e.born]) clock ∧ Keeps [b] w w' := by
  have hgi : (getObj b).run P w = .ok (.mapIter (some mb) clock ⟨seen⟩ clock) w := by
    unfold IterIs at hi
    simp [getObj, Sem.run, hi]
  have hgm : (getObj mb).run P w = .ok (.map ⟨es⟩ clock) w := MapKept.run_getObj_map hm
  have hall : (!(⟨seen⟩ : Array Nat).isEmpty && !(⟨es⟩ : Array MapEntry).isEmpty && (⟨es⟩ : Array MapEntry).all (fun e => decide (e.born ≥ clock))) = false := by
    cases es with
    | nil => simp
    | cons e es =>
      have h1 := hborn e List.mem_cons_self
      have : ¬ (clock ≤ e.born) := by omega
      simp [this]
  generalize hleft : ((⟨es⟩ : Array MapEntry).filter fun e => !(⟨seen⟩ : Array Nat).contains e.born) = left at *
  have hl1 : ∀ e, e ∈ left ↔ e ∈ es ∧ e.born ∉ seen := by
    intro e
    rw [← hleft]
    simp
  have hold : left.filter (fun e => decide (e.born < clock)) = left := by
    apply Array.ext'
    rw [Array.toList_filter, List.filter_eq_self]
    intro e he
    have := ((hl1 e).1 (by simpa using he)).1
    simpa using hborn e this
  have hnew : left.filter (fun e => decide (e.born ≥ clock)) = #[] := by
    apply Array.ext'
    rw [Array.toList_filter, List.filter_eq_nil_iff]
    intro e he
    have := ((hl1 e).1 (by simpa using he)).1
    have := hborn e this
    simp; omega
  obtain ⟨i, w1, hc, hlt, k1, hheap⟩ : ∃ i w1, (choose (.mapNext ((if left.isEmpty then #[none] else #[]) ++ (left ++ #[]).map some : Array (Option MapEntry)).size)).run P w = .ok i w1 ∧ i < ((if left.isEmpty then #[none] else #[]) ++ (left ++ #[]).map some : Array (Option MapEntry)).size ∧ Keeps [] w w1 ∧ w1.heap = w.heap := by
    have hpos : 0 < ((if left.isEmpty then #[none] else #[]) ++ (left ++ #[]).map some : Array (Option MapEntry)).size := by
      cases hle : left.isEmpty with
      | true => simp; omega
      | false =>
        have : left.size ≠ 0 := by
          intro h0
          rw [Array.isEmpty_eq_false_iff] at hle
          exact hle (Array.eq_empty_of_size_eq_zero h0)
        simp; omega
    generalize ((if left.isEmpty then #[none] else #[]) ++ (left ++ #[]).map some : Array (Option MapEntry)).size = N at *
    rw [run_choose_drew]
    by_cases hf : (Question.mapNext N).forced = true
    · rw [if_pos hf]; exact ⟨0, w, rfl, hpos, .refl, rfl⟩
    · rw [if_neg hf]; exact ⟨_, w.drew, rfl, Nat.mod_lt _ hpos, keeps_drawn _ _ _, rfl⟩
  have hi1 : w1.heap[b]? = some (.mapIter (some mb) clock ⟨seen⟩ clock) := by rw [hheap]; exact hi
  have hset : ∀ o, (setObj b o).run P w1 = .ok () { w1 with heap := w1.heap.setIfInBounds b o } := fun o => by simp [setObj, Sem.run, hi1]
  by_cases hle : left.isEmpty = true
  · left
    have hnil : left = #[] := by simpa using hle
    refine ⟨fun e he => ?_, w1, ?_, k1⟩
    · by_cases hs : e.born ∈ seen
      · exact hs
      · have := (hl1 e).2 ⟨he, hs⟩
        rw [hnil] at this
        simp at this
    · rw [hle] at hc hlt
      rw [hnil] at hc hlt
      simp only [if_true, Array.append_empty, Array.map_empty] at hc hlt
      have h0 : i = 0 := by simp at hlt; omega
      subst h0
      unfold runOp bareOp
      simp only [execOp, Instr.next, hx, ptr, Sem.run_bind, Result.andThen_ok, hgi, hgm, hall, Bool.false_eq_true, if_false, hleft, hold, hnew, hle, if_true]
      rw [hnil]
      simp only [Array.append_empty, Array.map_empty, hc, Result.andThen_ok]
      simp
  · right
    have hf : left.isEmpty = false := by simpa using hle
    rw [hf] at hc hlt
    simp only [Bool.false_eq_true, if_false, Array.append_empty, Array.empty_append, Array.size_map] at hc hlt
    have hmem : left[i] ∈ left := Array.getElem_mem _
    refine ⟨left[i], ((hl1 _).1 hmem).1, ((hl1 _).1 hmem).2, { w1 with heap := w1.heap.setIfInBounds b (.mapIter (some mb) clock ((⟨seen⟩ : Array Nat).push left[i].born) clock) }, ?_, ?_, (k1.mono (by simp)).trans (keeps_put _ _ _)⟩
    · unfold runOp bareOp
      simp only [execOp, Instr.next, hx, ptr, Sem.run_bind, Result.andThen_ok, hgi, hgm, hall, Bool.false_eq_true, if_false, hleft, hold, hnew, hf, Array.append_empty, Array.empty_append, Array.size_map, hc]
      have hget : (left.map some)[i]? = some (some left[i]) := by simp [hlt]
      rw [hget]
      simp only [Sem.run_bind, hset, Result.andThen_ok, Sem.run_pure]
    · unfold IterIs
      rw [put_at _ (Array.getElem?_eq_some_iff.1 hi1).1]
      simp

/-- The entry behind a step. -/
theorem l_entry {b mb clock : Nat} {x : Operand} {es : List MapEntry} {seen : List Nat} {e : MapEntry} (hx : ev ρ x = ptr b) (hi : IterIs w b mb clock (seen ++ [e.born]) clock) (hm : MapIs w mb es clock) (he : e ∈ es) (hp : es.Pairwise (fun a b => a.born < b.born)) :
    runOp P ρ (.entry x) w = .ok (.value (.tuple #[e.key, e.val])) w := by
  have hgi : (getObj b).run P w = .ok (.mapIter (some mb) clock ⟨seen ++ [e.born]⟩ clock) w := by
    unfold IterIs at hi
    simp [getObj, Sem.run, hi]
  have hgm : (getObj mb).run P w = .ok (.map ⟨es⟩ clock) w := MapKept.run_getObj_map hm
  have hfind : (⟨es⟩ : Array MapEntry).find? (fun x => x.born == e.born) = some e := by
    show es.toArray.find? _ = _
    rw [List.find?_toArray]
    have : ∀ (es : List MapEntry), e ∈ es → es.Pairwise (fun a b => a.born < b.born) → es.find? (fun x => x.born == e.born) = some e := by
      intro es
      induction es with
      | nil => intro h; cases h
      | cons a es ih =>
        intro h hp
        rcases List.mem_cons.1 h with h1 | h1
        · rw [← h1]; simp
        · have hlt := (List.pairwise_cons.1 hp).1 e h1
          rw [List.find?_cons_of_neg (by simp; omega)]
          exact ih h1 (List.pairwise_cons.1 hp).2
    exact this es he hp
  have hback : (⟨seen ++ [e.born]⟩ : Array Nat).back? = some e.born := by
    show (seen ++ [e.born]).toArray.back? = _
    simp
  unfold runOp bareOp
  simp only [execOp, Instr.entry, hx, ptr, Sem.run_bind, Result.andThen_ok, hgi, hgm, hback, hfind, bne_self_eq_false, Bool.false_eq_true, if_false, Sem.run_pure]

end

end Go.Kf

namespace Go.Kf

open Go

/-- The types' facts that tags ask. -/
structure TagFacts (P : Program) (c : Nums) : Prop where
  f0 : fieldOff P c.tTags 0 = some 0
  map : P.underlying c.tMap = some (.map c.tU32 c.tBytes)
  oneMap : oneTy P c.tMap = true
  agg : aggTy P c.tTags = some 1
  zero : zeroTy P c.tTags = some (.agg ⟨[.map none]⟩, 1)
  keys : P.underlying c.tKeys = some (.slice c.tU32)
  oneKeys : oneTy P c.tKeys = true
  zeroKeys : zeroTy P c.tKeys = some (.slice none 0 0, 1)
  oneU32 : oneTy P c.tU32 = true
  zeroU32 : chkInfo P c.tU32 1 8 = true

theorem esSet_born {n : Int} {v : Value} {clock : Nat} : ∀ (es : List MapEntry), (esSet es n v clock).map (·.born) = if esHas es n then es.map (·.born) else es.map (·.born) ++ [clock]
  | [] => rfl
  | e :: es => by
    have ih := esSet_born (n := n) (v := v) (clock := clock) es
    by_cases hk : keyIs n e = true
    · have hh : esHas (e :: es) n = true := by simp [esHas, hk]
      rw [if_pos hh]
      simp [esSet, hk]
    · have hk' : keyIs n e = false := by simpa using hk
      have hh : esHas (e :: es) n = esHas es n := by simp [esHas, hk']
      rw [hh]
      simp only [esSet, hk', Bool.false_eq_true, if_false, List.map_cons, ih]
      split <;> simp

theorem born_pair {es : List MapEntry} : es.Pairwise (fun a b => a.born < b.born) ↔ (es.map (·.born)).Pairwise (· < ·) := by
  rw [List.pairwise_map]

theorem esSet_ok {n : Int} {v : Value} {clock : Nat} {es : List MapEntry} (hp : es.Pairwise (fun a b => a.born < b.born)) (hb : ∀ e ∈ es, e.born < clock) :
    (esSet es n v clock).Pairwise (fun a b => a.born < b.born) ∧ ∀ e ∈ esSet es n v clock, e.born < (if esHas es n then clock else clock + 1) := by
  have h := esSet_born (n := n) (v := v) (clock := clock) es
  refine ⟨?_, fun e he => ?_⟩
  · rw [born_pair, h]
    rw [born_pair] at hp
    split
    · exact hp
    · rw [List.pairwise_append]
      refine ⟨hp, by simp, fun a ha b hb' => ?_⟩
      obtain ⟨e, he, rfl⟩ := List.mem_map.1 ha
      simp only [List.mem_singleton] at hb'
      subst hb'
      exact hb e he
  · have hm : e.born ∈ (esSet es n v clock).map (·.born) := List.mem_map_of_mem he
    rw [h] at hm
    split
    · rename_i hh
      rw [if_pos hh] at hm
      obtain ⟨e', he', h1⟩ := List.mem_map.1 hm
      rw [← h1]; exact hb e' he'
    · rename_i hh
      rw [if_neg hh] at hm
      rcases List.mem_append.1 hm with h1 | h1
      · obtain ⟨e', he', h2⟩ := List.mem_map.1 h1
        have := hb e' he'; omega
      · simp only [List.mem_singleton] at h1; omega

theorem tmSet_keys : ∀ (m : TM) (k : Nat) (l : List UInt8), (tmSet m k l).map (·.1) = if k ∈ m.map (·.1) then m.map (·.1) else m.map (·.1) ++ [k]
  | [], k, l => rfl
  | p :: m, k, l => by
    by_cases hp : p.1 = k
    · simp [tmSet, hp]
    · have := tmSet_keys m k l
      have hpk : ¬ k = p.1 := fun e => hp e.symm
      simp only [tmSet, if_neg hp, List.map_cons, this, List.mem_cons, hpk, false_or]
      split <;> simp

theorem tmSet_nodup {m : TM} {k : Nat} {l : List UInt8} (h : (m.map (·.1)).Nodup) : ((tmSet m k l).map (·.1)).Nodup := by
  rw [tmSet_keys]
  split
  · exact h
  · rename_i hn
    rw [List.nodup_append]
    refine ⟨h, by simp, fun a ha b hb => ?_⟩
    simp only [List.mem_singleton] at hb
    subst hb
    exact fun e => hn (e ▸ ha)

theorem tmSet_lt {m : TM} {k : Nat} {l : List UInt8} (h : ∀ p ∈ m, p.1 < 2 ^ 32) (hk : k < 2 ^ 32) : ∀ p ∈ tmSet m k l, p.1 < 2 ^ 32 := fun p hp => by
  rcases tmSet_mem _ _ _ _ hp with h1 | h1
  · exact h p h1
  · rw [h1]; exact hk

theorem tmSet_ne (m : TM) (k : Nat) (l : List UInt8) : tmSet m k l ≠ [] := by
  cases m with
  | nil => simp [tmSet]
  | cons p m => simp only [tmSet]; split <;> simp

section

variable {P : Program} {c : Nums}

def tTagSet (c : Nums) : Tr :=
  gGet (.tmp 0) c.tTags 0 c.tMap 3 <| .op (.binOp .eql c.tMap (.tmp 5) (.const (.map none)) c.tMap) none [] <|
  .join 0 (.cond (.tmp 6) (.op (.makeMap c.tMap none) none [] <| gSet (.tmp 0) c.tTags 0 c.tMap (.tmp 7) 8 <| .to 0 []) (.to 0 [])) 0 <|
  gGet (.tmp 0) c.tTags 0 c.tMap 7 <| .op (.mapUpdate c.tMap (.tmp 9) (.tmp 1) (.tmp 2)) none [] <| .ret []

end

end Go.Kf




namespace Go.Kf

open Go Go.Sort Go.Proofs

def encK (x : Int) : Value := .int .u32 x

/-- The sort's contract at this closure: two elements or more; one. -/
structure SortAt (P : Program) (c : Nums) (fSort g : Nat) : Prop where
  many : ∀ (blk cap : Nat) (d : Array Int) (lb : Array Value) (w : World), 2 ≤ d.size → d.size < 4611686018427387904 → LessReads P g lb encK ltInt blk 0 d.size w → Go.Sort.Holds encK w blk 0 d → blk < w.heap.size →
    Calls P fSort #[.iface c.tKeys (.slice (some ⟨blk, 0, none⟩) d.size cap), .func (.func g) #[] lb] w fun e w' => e = .returned (.tuple #[]) ∧ ∃ d' n os, PermIn 0 d.size d d' ∧ SortedIn ltInt 0 d.size d' ∧ w' = grow (putRow encK (Go.Sort.ahead w n) blk 0 d') os
  one : ∀ (p : Option Addr) (cap : Nat) (lb : Array Value) (w : World), Calls P fSort #[.iface c.tKeys (.slice p 1 cap), .func (.func g) #[] lb] w fun e w' => e = .returned (.tuple #[]) ∧ ∃ os, w' = grow w os

def tLess (c : Nums) : Tr := .draw <| .lok (.load c.tKeys (.tmp 2)) none <| .pur (.indexAddr c.tKeys (.tmp 3) (.tmp 0)) none <| .lok (.load c.tU32 (.tmp 4)) none <| .lok (.load c.tKeys (.tmp 2)) none <| .pur (.indexAddr c.tKeys (.tmp 6) (.tmp 1)) none <| .lok (.load c.tU32 (.tmp 7)) none <|
  .pur (.binOp .lss c.tU32 (.tmp 5) (.tmp 8) c.tU32) none <| .ret [(.tmp 9, none)]

section

variable {P : Program} {c : Nums} {w : World}

theorem chk_size {t s m : Nat} (h : chkInfo P t s m = true) : (P.info? t).map (·.size) = some s := by
  obtain ⟨i, z, hi, _, hs, _⟩ := info_of h
  simp [hi, hs]

theorem l_cell {t : Nat} {ρ : Nat → Value} {x : Operand} {a : Addr} {v : Value} (ht : oneTy P t = true) (hx : ev ρ x = .pointer (some a)) (hc : w.cell? a = some v) : runOp P ρ (.load t x) w = .ok (.value v) w := by
  unfold runOp bareOp
  simp only [execOp, hx, Instr.loadAt, Instr.sureAddr, loadVar, Sem.run_bind, Sem.run_pure, Result.andThen_ok, (oneTy_spec (w := w) ht).1, Bool.false_eq_true, if_false, run_load, hc]

/-- The closure that compares. -/
theorem less_gives {g : Nat} (F : RdFacts P c) (T : TagFacts P c) (hT : treeIn P g noOrc [.tmp 0, .tmp 1, .tmp 2] 3 = tLess c) {i j n cap kb ob : Nat} {G : Nat → Int} (hi : i < n) (hj : j < n) (hs : w.cell? ⟨ob, 0, none⟩ = some (.slice (some ⟨kb, 0, none⟩) n cap)) (hc : ∀ t, t < n → w.cell? ⟨kb, 0 + t, none⟩ = some (.int .u32 (G t))) :
    Gives P g [.int .i64 i, .int .i64 j, ptr ob] w fun v w' => v = .bool (decide (G i < G j)) ∧ w' = { w with drawn := w.drawn + 1 } := by
  refine gives_in (ρ := en [.int .i64 i, .int .i64 j, ptr ob]) F.mix hT (Nat.le_refl _) rfl (by simp [opBelow]) ?_
  show Tr.sem _ _ _ _ _ _ { w with drawn := w.drawn + 1 }
  have hs' : ({ w with drawn := w.drawn + 1 } : World).cell? ⟨ob, 0, none⟩ = some (.slice (some ⟨kb, 0, none⟩) n cap) := hs
  have hc' : ∀ t, t < n → ({ w with drawn := w.drawn + 1 } : World).cell? ⟨kb, 0 + t, none⟩ = some (.int .u32 (G t)) := hc
  generalize ({ w with drawn := w.drawn + 1 } : World) = w1 at *
  have hsz := chk_size T.zeroU32
  refine l_lok (l_cell T.oneKeys rfl hs') ?_
  have h1 := v_indexAddr (P := P) (ρ := ext (en [.int .i64 i, .int .i64 j, ptr ob]) 3 [.slice (some ⟨kb, 0, none⟩) n cap]) (t := c.tKeys) (x := .tmp 3) (i := .tmp 0) (b := kb) (o := 0) (l := n) (c := cap) (j := i) (kk := .i64) T.keys hsz rfl rfl (by omega) (by omega)
  rw [Int.toNat_natCast, Nat.mul_one] at h1
  refine p_val h1 (l_lok (l_cell T.oneU32 rfl (hc' i hi)) (l_lok (l_cell T.oneKeys rfl hs') ?_))
  have h2 := v_indexAddr (P := P) (ρ := ext (ext (ext (ext (en [.int .i64 i, .int .i64 j, ptr ob]) 3 [.slice (some ⟨kb, 0, none⟩) n cap]) (3 + 1) [.pointer (some ⟨kb, 0 + i, none⟩)]) (3 + 1 + 1) [.int .u32 (G i)]) (3 + 1 + 1 + 1) [.slice (some ⟨kb, 0, none⟩) n cap]) (t := c.tKeys) (x := .tmp 6) (i := .tmp 1) (b := kb) (o := 0) (l := n) (c := cap) (j := j) (kk := .i64) T.keys hsz rfl rfl (by omega) (by omega)
  rw [Int.toNat_natCast, Nat.mul_one] at h2
  refine p_val h2 (l_lok (l_cell T.oneU32 rfl (hc' j hj)) ?_)
  refine p_val (v_cmp (kk := .u32) (a := G i) (b := G j) (r := decide (G i < G j)) rfl rfl rfl) ?_
  exact s_ret1 ⟨rfl, rfl⟩

theorem keeps_grow (w : World) (os : Array Obj) : Keeps [] w (grow w os) := ⟨rfl, rfl, rfl, by simp [grow], fun k hk _ => heap_grow_old w os hk⟩

theorem keeps_putRow (w : World) (blk : Nat) (d : Array Int) (n : Nat) : Keeps [blk] w (putRow encK (Go.Sort.ahead w n) blk 0 d) := by
  refine ⟨rfl, rfl, rfl, by simp [putRow, mapBlock], fun k _ hm => ?_⟩
  simp only [List.mem_singleton] at hm
  simp only [putRow, mapBlock, Array.getElem?_modify]
  rw [if_neg (fun e => hm e.symm)]
  rfl

theorem has_putRow {w : World} {blk : Nat} {cs : List Value} (h : Has w blk cs) (d : Array Int) (n : Nat) : ∃ cs', Has (putRow encK (Go.Sort.ahead w n) blk 0 d) blk cs' ∧ cs'.length = cs.length := by
  obtain ⟨t, fr, hb, hf⟩ := h
  refine ⟨(putCells encK 0 d ⟨cs⟩).toList, ⟨t, fr, ?_, ?_⟩, ?_⟩
  · simp only [putRow, mapBlock, Array.getElem?_modify, if_true]
    show Option.map _ w.heap[blk]? = _
    rw [hb]
    rfl
  · simpa [putCells] using hf
  · simp [putCells]

/-- What a caller of the sort is given. -/
def SortGives (P : Program) (c : Nums) (fSort g : Nat) : Prop := ∀ (w : World) (ob kb cap : Nat) (ks : List Int) (spare : List Value), Has w ob [.slice (some ⟨kb, 0, none⟩) ks.length cap] → Has w kb (ks.map encK ++ spare) → ob ≠ kb → 0 < ks.length → ks.length < 4294967296 →
  Gives P fSort [.iface c.tKeys (.slice (some ⟨kb, 0, none⟩) ks.length cap), .func (.func g) #[] #[ptr ob]] w fun _ w' => ∃ (ks' : List Int) (cs' : List Value), ks'.Perm ks ∧ ks'.Pairwise (· ≤ ·) ∧ Has w' kb cs' ∧ (∀ j (hj : j < ks'.length), cs'[j]? = some (encK ks'[j])) ∧ Keeps [kb] w w'

theorem sort_gives {fSort g : Nat} (F : RdFacts P c) (T : TagFacts P c) (hg : goFn P fSort = true) (hS : SortAt P c fSort g) (hT : treeIn P g noOrc [.tmp 0, .tmp 1, .tmp 2] 3 = tLess c) : SortGives P c fSort g := by
  intro w ob kb cap ks spare ho hk hne hpos hbig
  refine ⟨hg, ?_⟩
  have hcellk : ∀ t, t < ks.length → w.cell? ⟨kb, 0 + t, none⟩ = some (encK (ks.toArray[t]!)) := fun t ht => by
    refine hk.cell ?_
    rw [Nat.zero_add, List.getElem?_append_left (by simpa using ht), List.getElem?_map, List.getElem?_eq_getElem ht]
    simp [ht]
  by_cases h1 : ks.length = 1
  · refine Calls.mono (h1 ▸ hS.one (some ⟨kb, 0, none⟩) cap #[ptr ob] w) fun e w' ⟨he, os, hw⟩ => ?_
    subst he
    subst hw
    refine ⟨ks, _, .refl _, ?_, hk.keep (keeps_grow w os) (by simp), fun j hj => ?_, (keeps_grow w os).mono (by simp)⟩
    · match ks, h1 with
      | [x], _ => simp
    · rw [List.getElem?_append_left (by simpa using hj), List.getElem?_map, List.getElem?_eq_getElem hj]; rfl
  · have hH : Go.Sort.Holds encK w kb 0 ks.toArray := fun j hj => by
      have hj' : j < ks.length := by simpa using hj
      refine ⟨hcellk j hj', ?_⟩
      obtain ⟨t, fr, hb, hf⟩ := hk
      unfold World.frozen?
      rw [show (⟨kb, 0 + j, none⟩ : Addr).block = kb from rfl, hb]
      simp only [Nat.zero_add, Bool.and_eq_false_iff, decide_eq_false_iff_not]
      simp only [List.length_append, List.length_map] at hf
      omega
    have hblk := hk.lt
    have hob := ho.lt
    have hless : LessReads P g #[ptr ob] encK ltInt kb 0 ks.toArray.size w := by
      intro m os dk hsz i j hi hj
      have hsz' : dk.size = ks.length := by simpa using hsz
      have e : sortWorld encK w kb 0 m dk os = putRow encK (grow (Go.Sort.ahead w m) os) kb 0 dk := by
        unfold sortWorld; rw [putRow_grow _ (Go.Sort.ahead w m) _ kb 0 _ hblk]
      have hHg : Go.Sort.Holds encK (grow (Go.Sort.ahead w m) os) kb 0 ks.toArray := holds_grow _ _ _ kb 0 _ hblk (holds_ahead _ _ _ _ _ _ hH)
      obtain ⟨_, hc⟩ := less_gives (w := sortWorld encK w kb 0 m dk os) (g := g) (i := i) (j := j) (n := ks.length) (cap := cap) (kb := kb) (ob := ob) (G := fun t => dk[t]!) F T hT (by simpa using hi) (by simpa using hj)
        (by
          rw [e, cell?_putRow_other _ _ kb 0 dk _ (.inl hne), cell?_grow _ _ _ hob]
          exact ho.cell rfl)
        (fun t ht => by rw [e]; exact cell?_putRow _ _ kb 0 _ dk hHg hsz t (by omega))
      refine Calls.mono hc fun e w' he => ?_
      match e, he with
      | .returned v, ⟨hv, hw⟩ => exact ⟨by rw [hv]; rfl, 1, hw⟩
    have hm := hS.many kb cap ks.toArray #[ptr ob] w (by simp; omega) (by simp; omega) hless hH hblk
    simp only [List.size_toArray] at hm
    refine Calls.mono hm fun e w' ⟨he, d', n, os, hp, hs, hw⟩ => ?_
    subst he
    subst hw
    have hd' : d'.size = ks.length := by simpa using hp.1
    have hperm : d'.toList.Perm ks := by
      have := hp.2.2
      simpa [hd', Array.extract_eq_self_of_le] using this
    obtain ⟨cs', hcs, hcl⟩ := has_putRow hk d' n
    refine ⟨d'.toList, cs', hperm, ?_, hcs.keep (keeps_grow _ os) (by simp), fun j hj => ?_, (keeps_putRow w kb d' n).trans ((keeps_grow _ os).mono (by simp))⟩
    · rw [List.pairwise_iff_getElem]
      intro i j hi hj hij
      have hi' : i < d'.size := by simpa using hi
      have hj' : j < d'.size := by simpa using hj
      have := hs i j (Nat.zero_le _) hij (by omega)
      rw [getElem!_pos d' j hj', getElem!_pos d' i hi'] at this
      simp only [ltInt, decide_eq_false_iff_not] at this
      simp only [Array.getElem_toList]
      omega
    · have hj' : j < d'.size := by simpa using hj
      have h1 := cell?_putRow encK (Go.Sort.ahead w n) kb 0 ks.toArray d' (holds_ahead _ _ _ _ _ _ hH) (by simpa using hd') j hj'
      rw [Nat.zero_add] at h1
      obtain ⟨t, fr, hb, _⟩ := hcs
      unfold World.cell? at h1
      rw [show (⟨kb, j, none⟩ : Addr).block = kb from rfl, hb] at h1
      simp only [Option.isSome_none, Bool.false_eq_true, if_false, List.getElem?_toArray] at h1
      rw [h1, getElem!_pos d' j hj']
      simp

end

end Go.Kf

namespace Go.Kf

open Go

def keyInt (e : MapEntry) : Int := match e.key with
  | .int _ n => n
  | _ => 0

theorem v_makeIface {P : Program} {ρ : Nat → Value} {t e : Nat} {x : Operand} {v : Value} (ht : P.underlying t = some (.slice e)) (hx : ev ρ x = v) : Val P ρ (.makeInterface t x) (.iface t v) := fun w => by
  unfold runOp bareOp
  simp only [execOp, Instr.makeInterface, Sem.run_bind, run_under ht, Result.andThen_ok, hx, Sem.run_pure]

section

variable {P : Program} {c : Nums} {R : Value → World → Prop} {Γ : List (List Value → World → Prop)} {n : Nat} {ρ : Nat → Value} {w : World} {k : Tr}

/-- A function value, called. -/
theorem s_callv {g f : Nat} {xs : List Operand} {caps args : List Value} {Post : Value → World → Prop} (hf : ρ f = .func (.func g) #[] ⟨caps⟩) (hx : xs.map (ev ρ) = args) (h : Gives P g (args ++ caps) w Post) (hk : ∀ v w', Post v w' → k.sem P R Γ (n + 1) (ext ρ n [v]) w') :
    (Tr.op (.call { callee := .value (.tmp f), args := ⟨xs⟩, argTypes := #[] }) none [] k).sem P R Γ n ρ w := by
  have hrun : runOp P ρ (.call { callee := .value (.tmp f), args := ⟨xs⟩, argTypes := #[] }) w = .ok (.enter g ⟨args ++ caps⟩) w := by
    have hg := h.1
    unfold goFn at hg
    cases hfn : P.funcs[g]? with
    | none => rw [hfn] at hg; cases hg
    | some fn =>
      rw [hfn] at hg
      simp only [Bool.and_eq_true, Bool.not_eq_true'] at hg
      have hb : fn.body.isNone = false := by
        cases hx : fn.body with
        | none => rw [hx] at hg; cases hg.1
        | some c => rfl
      have hfv : ev ρ (.tmp f) = .func (.func g) #[] ⟨caps⟩ := hf
      have ha : Array.map (ev ρ) ⟨xs⟩ = ⟨args⟩ := by rw [← hx]; simp
      unfold runOp bareOp
      simp only [execOp, resolve, hfv, ha, Deferred.ofValue, pure_bind, invoke, callFunc, Sem.run_bind, run_program, Result.andThen_ok, hfn, hg.2, hb]
      simp
  simp only [Tr.sem]
  rw [hrun]
  refine Calls.mono h.2 fun e w' he => ?_
  cases e with
  | returned v => exact ⟨fun u hu => (by cases hu), fun p hp => (by cases hp), hk v w' he⟩
  | panicked c => exact he
  | outgrown => exact he

def gRange (c : Nums) (k : Tr) : Tr :=
  .loop 0 [] <| .op (.next (.tmp 17) false) none [] <| .op (.extract (.tmp 18) 0) none [] <| .cond (.tmp 19)
    (.op (.entry (.tmp 17)) none [] <| .op (.extract (.tmp 20) 0) none [] <| .op (.load c.tKeys (.tmp 12)) none [] <| .op (.buildSlice c.tKeys 1 ⟨[(0, .tmp 21)]⟩) none [] <| .op (.call { callee := .builtin .append, args := ⟨[.tmp 22, .tmp 23]⟩, argTypes := ⟨[c.tKeys, c.tKeys]⟩ }) none [] <| .op (.store c.tKeys (.tmp 12) (.tmp 24)) none [] <| .to 0 []) k

theorem keyInt_enc {es : List MapEntry} (h : Keys32 es) {e : MapEntry} (he : e ∈ es) : e.key = encK (keyInt e) := by
  obtain ⟨m, hm⟩ := h e he
  simp [keyInt, hm, encK]

/-- The keys, in the order in which the map yields them. -/
theorem s_range {it ob mb clock B : Nat} {es : List MapEntry} {ov : Value} (T : TagFacts P c) (h17 : ρ 17 = ptr it) (h12 : ρ 12 = ptr ob) (hi : IterIs w it mb clock [] clock) (hm : MapIs w mb es clock) (h32 : Keys32 es) (hp : es.Pairwise (fun a b => a.born < b.born)) (hb : ∀ e ∈ es, e.born < clock)
    (ho : Has w ob [ov]) (hown : Own w ov 1 0 []) (hio : it ≠ ob) (hit : B ≤ it) (hob : B ≤ ob) (hov : ∀ b ∈ blkOf ov, B ≤ b ∧ b ≠ it ∧ b ≠ ob) (hmb : mb < B) (hlen : es.length < 4294967296)
    (hk : ∀ (w' : World) (ρ' : Nat → Value) (ov' : Value) (ks : List Int) (M : List Nat) (Δ : List (List Value → World → Prop)), Δ.length = 1 → (∀ x, x < 18 → ρ' x = ρ x) → ks.Perm (es.map keyInt) → Has w' ob [ov'] → Own w' ov' 1 ks.length (ks.map encK) → (∀ b ∈ blkOf ov', B ≤ b ∧ b ≠ ob) → Keeps M w w' → (∀ b ∈ M, B ≤ b) → k.sem P R Δ 20 ρ' w') :
    (gRange c k).sem P R [] 18 ρ w := by
  refine ⟨rfl, fun vs w' => ∃ (dn : List MapEntry) (ov' : Value) (M : List Nat), vs = [] ∧ dn ⊆ es ∧ (dn.map (·.born)).Nodup ∧ IterIs w' it mb clock (dn.map (·.born)) clock ∧ Has w' ob [ov'] ∧ Own w' ov' 1 dn.length (dn.map fun e => encK (keyInt e)) ∧ (∀ b ∈ blkOf ov', B ≤ b ∧ b ≠ it ∧ b ≠ ob) ∧ Keeps M w w' ∧ (∀ b ∈ M, B ≤ b),
    fun _ w' => es.length - (match w'.heap[it]? with
      | some (.mapIter _ _ seen _) => seen.size
      | _ => 0), ⟨[], ov, [], rfl, by simp, by simp, hi, ho, hown, hov, .refl, fun b hb => by cases hb⟩, ?_⟩
  rintro vs w1 hvs ⟨dn, ov1, M, rfl, hsub, hnd, hi1, ho1, hown1, hov1, k1, hM⟩
  simp only [List.length_nil, Nat.add_zero]
  have hm1 : MapIs w1 mb es clock := hm.keep k1 (fun h => by have := hM _ h; omega)
  have hs1 := k1.size
  have hsz1 : (match w1.heap[it]? with | some (.mapIter _ _ seen _) => seen.size | _ => 0) = dn.length := by
    unfold IterIs at hi1
    rw [hi1]
    simp
  rcases a_next (P := P) (ρ := ext ρ 18 []) (x := .tmp 17) (by show ext ρ 18 [] 17 = _; rw [ext_lt (by omega)]; exact h17) hi1 hm1 hb with ⟨hall, w2, e2, k2⟩ | ⟨e, he, hnew, w2, e2, hi2, k2⟩
  · refine s_act e2 (fun p hp => (by cases hp)) ?_
    refine s_val (v_extract (vs := #[.bool false]) rfl rfl) ?_
    refine s_cond (b := false) rfl (fun h => by cases h) fun _ => ?_
    have hdn : dn.Perm es := by
      have n1 : dn.Nodup := by
        rw [List.nodup_iff_pairwise_ne, List.pairwise_map] at hnd
        rw [List.nodup_iff_pairwise_ne]
        exact hnd.imp fun h e => h (by rw [e])
      have n2 : es.Nodup := by
        rw [List.nodup_iff_pairwise_ne]
        exact hp.imp fun h e => by rw [e] at h; exact Nat.lt_irrefl _ h
      refine (List.perm_ext_iff_of_nodup n1 n2).2 fun a => ⟨fun h => hsub h, fun h => ?_⟩
      obtain ⟨d, hd, hdb⟩ := List.mem_map.1 (hall a h)
      have hd' := hsub hd
      have : d = a := by
        have inj : ∀ (l : List MapEntry), l.Pairwise (fun a b => a.born < b.born) → ∀ x ∈ l, ∀ y ∈ l, x.born = y.born → x = y := by
          intro l
          induction l with
          | nil => intro _ x hx; cases hx
          | cons z l ih =>
            intro hl x hx y hy hxy
            rw [List.pairwise_cons] at hl
            rcases List.mem_cons.1 hx with rfl | hx' <;> rcases List.mem_cons.1 hy with rfl | hy'
            · rfl
            · have := hl.1 y hy'; omega
            · have := hl.1 x hx'; omega
            · exact ih hl.2 x hx' y hy' hxy
        exact inj es hp d hd' a h hdb
      rw [← this]; exact hd
    refine hk w2 _ ov1 (dn.map keyInt) M _ (by simp) (fun x hx => by rw [ext_lt (by omega), ext_lt (by omega), ext_lt (by omega)]) (hdn.map _) (ho1.keep k2 (by simp)) ?_ (fun b hb => ⟨(hov1 b hb).1, (hov1 b hb).2.2⟩) (k1.trans (k2.mono (by simp))) hM
    rw [List.length_map, List.map_map]
    exact hown1.keep k2 (by simp)
  · refine s_act e2 (fun p hp => (by cases hp)) ?_
    refine s_val (v_extract (vs := #[.bool true, e.key, e.val]) rfl rfl) ?_
    refine s_cond (b := true) rfl (fun _ => ?_) (fun h => by cases h)
    have hm2 : MapIs w2 mb es clock := hm1.keep k2 (by simp only [List.mem_singleton]; omega)
    refine s_lok (l_entry (x := .tmp 17) (by show ext _ _ _ 17 = _; rw [ext_lt (by omega), ext_lt (by omega), ext_lt (by omega)]; exact h17) hi2 hm2 he hp) ?_
    refine s_val (v_extract (vs := #[e.key, e.val]) rfl rfl) ?_
    have ho2 : Has w2 ob [ov1] := ho1.keep k2 (by simp only [List.mem_singleton]; exact fun h => hio h.symm)
    have hown2 : Own w2 ov1 1 dn.length (dn.map fun e => encK (keyInt e)) := hown1.keep k2 (fun b hb => by simp only [List.mem_singleton]; exact (hov1 b hb).2.1)
    refine s_lok (l_load1 (b := ob) (o := 0) T.oneKeys (by show ext _ _ _ 12 = _; rw [ext_lt (by omega), ext_lt (by omega), ext_lt (by omega), ext_lt (by omega), ext_lt (by omega)]; exact h12) ho2 rfl) ?_
    obtain ⟨inf, z, hinf, hz, hsz, hzc, hby⟩ := info_of T.zeroU32
    have hkey := keyInt_enc h32 he
    obtain ⟨w3, e3, h3, k3, s3⟩ := a_sliceOne (P := P) (ρ := ext (ext (ext (ext (ext (ext ρ 18 []) 18 [.tuple #[.bool true, e.key, e.val]]) (18 + 1) [.bool true]) (18 + 1 + 1) [.tuple #[e.key, e.val]]) (18 + 1 + 1 + 1) [e.key]) (18 + 1 + 1 + 1 + 1) [ov1]) (w := w2) (t := c.tKeys) (x := .tmp 21) (z := z) (cs := [e.key]) T.keys (by simp [zeroTy, hinf, hz, hsz]) (by simp) (by simp) (by show (e.key).cells = _; rw [hkey]; rfl)
    refine s_act e3 (fun p hp => (by cases hp)) ?_
    have hr3 : Reads w3 (.slice (some ⟨w2.heap.size, 0, none⟩) 1 1) 1 1 [e.key] := ⟨by simp, .inr ⟨w2.heap.size, 0, 1, [e.key], rfl, Nat.le_refl _, h3, by simp, by simp⟩⟩
    have hdl : dn.length + 1 ≤ es.length := by
      have : (dn.map (·.born) ++ [e.born]).length ≤ (es.map (·.born)).length := List.Nodup.length_le_of_subset (by
        rw [List.nodup_append]
        refine ⟨hnd, by simp, fun a ha b hb' => ?_⟩
        simp only [List.mem_singleton] at hb'
        subst hb'
        exact fun h => hnew (h ▸ ha)) (by
        intro x hx
        rcases List.mem_append.1 hx with h | h
        · obtain ⟨d, hd, rfl⟩ := List.mem_map.1 h
          exact List.mem_map_of_mem (hsub hd)
        · simp only [List.mem_singleton] at h
          subst h
          exact List.mem_map_of_mem he)
      simpa using this
    obtain ⟨ov4, w4, e4, hown4, k4, hb4⟩ := a_append (P := P) (ρ := ext (ext (ext (ext (ext (ext (ext ρ 18 []) 18 [.tuple #[.bool true, e.key, e.val]]) (18 + 1) [.bool true]) (18 + 1 + 1) [.tuple #[e.key, e.val]]) (18 + 1 + 1 + 1) [e.key]) (18 + 1 + 1 + 1 + 1) [ov1]) (18 + 1 + 1 + 1 + 1 + 1) [.slice (some ⟨w2.heap.size, 0, none⟩) 1 1]) (w := w3) (t := c.tKeys) (tx := c.tKeys) (x := .tmp 22) (y := .tmp 23) T.keys hinf hz hsz hzc rfl rfl (hown2.keep k3 (by simp)) (hr3.src T.keys (by
        intro u hu
        simp only [List.mem_singleton] at hu
        subst hu
        rw [hkey]; rfl)) (by
        have : (dn.length + 1) * inf.bytes ≤ 4294967296 * 8 := Nat.mul_le_mul (by omega) hby
        omega) (by omega)
    refine s_act e4 (fun p hp => (by cases hp)) ?_
    have hlt1 := hown2.lt
    have hnob : ob ∉ blkOf ov1 := fun h => (hov1 ob h).2.2 rfl
    have ho4 : Has w4 ob [ov1] := (ho2.keep k3 (by simp)).keep k4 hnob
    have hl2 := ho2.lt
    obtain ⟨w5, e5, h5, k5⟩ := a_store1 (P := P) (ρ := ext (ext (ext (ext (ext (ext (ext (ext ρ 18 []) 18 [.tuple #[.bool true, e.key, e.val]]) (18 + 1) [.bool true]) (18 + 1 + 1) [.tuple #[e.key, e.val]]) (18 + 1 + 1 + 1) [e.key]) (18 + 1 + 1 + 1 + 1) [ov1]) (18 + 1 + 1 + 1 + 1 + 1) [.slice (some ⟨w2.heap.size, 0, none⟩) 1 1]) (18 + 1 + 1 + 1 + 1 + 1 + 1) [ov4]) (w := w4) (t := c.tKeys) (x := .tmp 12) (y := .tmp 24) (b := ob) (o := 0) T.oneKeys (by show ext _ _ _ 12 = _; rw [ext_lt (by omega), ext_lt (by omega), ext_lt (by omega), ext_lt (by omega), ext_lt (by omega), ext_lt (by omega), ext_lt (by omega), ext_lt (by omega)]; exact h12) rfl hown4.one ho4 (by simp)
    refine s_unit e5 (fun p hp => (by cases hp)) ?_
    have hs2 := k2.size
    have hs3 := k3.size
    have hs4 := k4.size
    have hov4 : ∀ b ∈ blkOf ov4, B ≤ b ∧ b ≠ it ∧ b ≠ ob := fun b hb' => by
      rcases hb4 b hb' with h | h
      · exact hov1 b h
      · have := hi2.lt
        exact ⟨by omega, by omega, by omega⟩
    have hi5 : IterIs w5 it mb clock ((dn ++ [e]).map (·.born)) clock := by
      rw [List.map_append]
      exact ((hi2.keep k3 (by simp)).keep k4 (fun h => (hov1 it h).2.1 rfl)).keep k5 (by simp only [List.mem_singleton]; exact hio)
    refine ⟨_, rfl, ⟨dn ++ [e], ov4, (M ++ [it]) ++ (blkOf ov1 ++ [ob]), rfl, ?_, ?_, hi5, h5, ?_, hov4, ?_, ?_⟩, ?_⟩
    · intro x hx
      rcases List.mem_append.1 hx with h | h
      · exact hsub h
      · simp only [List.mem_singleton] at h; rw [h]; exact he
    · rw [List.map_append, List.nodup_append]
      refine ⟨hnd, by simp, fun a ha b hb' => ?_⟩
      simp only [List.map_cons, List.map_nil, List.mem_singleton] at hb'
      subst hb'
      exact fun h => hnew (h ▸ ha)
    · have := hown4.keep k5 (fun b hb' => by simp only [List.mem_singleton]; exact (hov4 b hb').2.2)
      rw [List.map_append, List.length_append]
      simpa [hkey] using this
    · refine ((k1.mono fun x hx => ?_).trans (k2.mono fun x hx => ?_)).trans (((k3.mono (by simp)).trans (k4.mono fun x hx => ?_)).trans (k5.mono fun x hx => ?_))
      · exact List.mem_append_left _ (List.mem_append_left _ hx)
      · exact List.mem_append_left _ (List.mem_append_right _ hx)
      · exact List.mem_append_right _ (List.mem_append_left _ hx)
      · exact List.mem_append_right _ (List.mem_append_right _ hx)
    · intro b hb'
      rcases List.mem_append.1 hb' with h | h
      · rcases List.mem_append.1 h with h | h
        · exact hM b h
        · simp only [List.mem_singleton] at h; omega
      · rcases List.mem_append.1 h with h | h
        · exact (hov1 b h).1
        · simp only [List.mem_singleton] at h; omega
    · have hsz5 : (match w5.heap[it]? with | some (.mapIter _ _ seen _) => seen.size | _ => 0) = dn.length + 1 := by
        unfold IterIs at hi5
        rw [hi5]
        simp
      rw [hsz1, hsz5]
      omega

end

end Go.Kf


namespace Go.Kf

open Go

def EntR (w : World) (e : MapEntry) (p : Nat × List UInt8) : Prop := e.key = .int .u32 p.1 ∧ Ro w e.val 1 p.2.length (bcells p.2)

def EntsR (w : World) : List MapEntry → TM → Prop
  | [], [] => True
  | e :: es, p :: m => EntR w e p ∧ EntsR w es m
  | _, _ => False

def TagsR (w : World) (m : TM) (v : Value) : Prop :=
  (v = .map none ∧ m = []) ∨ ∃ b es clock, v = .map (some b) ∧ w.heap[b]? = some (.map es clock) ∧ EntsR w es.toList m ∧ es.toList.Pairwise (fun a b => a.born < b.born) ∧ (∀ e ∈ es.toList, e.born < clock) ∧
    (∀ p ∈ m, p.1 < 2 ^ 32) ∧ (m.map (·.1)).Nodup ∧ m ≠ []

theorem EntsR.len {w : World} : ∀ {es : List MapEntry} {m : TM}, EntsR w es m → es.length = m.length
  | [], [], _ => rfl
  | _ :: _, _ :: _, ⟨_, h⟩ => by simp [EntsR.len h]
  | [], _ :: _, h => h.elim
  | _ :: _, [], h => h.elim

theorem EntsR.get {w : World} : ∀ {es : List MapEntry} {m : TM} {i : Nat} {p : Nat × List UInt8}, EntsR w es m → m[i]? = some p → ∃ e, es[i]? = some e ∧ EntR w e p
  | e :: es, q :: m, 0, p, ⟨h, _⟩, hi => by
    simp only [List.getElem?_cons_zero, Option.some.injEq] at hi
    subst hi
    exact ⟨e, rfl, h⟩
  | e :: es, q :: m, i + 1, p, ⟨_, h⟩, hi => by
    simp only [List.getElem?_cons_succ] at hi ⊢
    exact EntsR.get h hi
  | [], [], _, _, _, hi => by simp at hi
  | [], _ :: _, _, _, h, _ => h.elim
  | _ :: _, [], _, _, h, _ => h.elim

theorem EntsR.keyInts {w : World} : ∀ {es : List MapEntry} {m : TM}, EntsR w es m → es.map keyInt = m.map fun p => (p.1 : Int)
  | [], [], _ => rfl
  | e :: es, p :: m, ⟨h, h2⟩ => by
    simp only [List.map_cons, EntsR.keyInts h2]
    congr 1
    simp [keyInt, h.1]
  | [], _ :: _, h => h.elim
  | _ :: _, [], h => h.elim

theorem EntsR.keys {w : World} : ∀ {es : List MapEntry} {m : TM}, EntsR w es m → Keys32 es
  | [], [], _ => fun e h => by cases h
  | e :: es, p :: m, ⟨h1, h2⟩ => fun x hx => by
    rcases List.mem_cons.1 hx with h | h
    · rw [h]; exact ⟨_, h1.1⟩
    · exact EntsR.keys h2 x h
  | [], _ :: _, h => h.elim
  | _ :: _, [], h => h.elim

theorem EntR.is {w : World} {e : MapEntry} {p : Nat × List UInt8} (h : EntR w e p) (k : Nat) : keyIs k e = decide (p.1 = k) := by
  simp only [keyIs, h.1]
  by_cases hk : p.1 = k
  · simp [hk]
  · have : ((k : Int) == (p.1 : Int)) = false := by simp; omega
    simp [hk, this]

/-- Kept, whatever changes elsewhere. -/
theorem TagsR.keep {w w' : World} {m : TM} {v : Value} (h : TagsR w m v) (hk : Keeps [] w w') : TagsR w' m v := by
  rcases h with h | ⟨b, es, clock, hv, hh, he, hr⟩
  · exact .inl h
  · refine .inr ⟨b, es, clock, hv, ?_, ?_, hr⟩
    · rw [hk.block b (Array.getElem?_eq_some_iff.1 hh).1 (by simp)]; exact hh
    · exact imp he
  where imp : ∀ {es : List MapEntry} {m : TM}, EntsR w es m → EntsR w' es m
  | [], [], _ => trivial
  | _ :: _, _ :: _, hh => ⟨⟨hh.1.1, hh.1.2.keep hk⟩, imp hh.2⟩
  | [], _ :: _, hh => hh.elim
  | _ :: _, [], hh => hh.elim

end Go.Kf

namespace Go.Kf

open Go

def tmGet (m : TM) (k : Nat) : List UInt8 := match m.find? (fun p => Nat.beq p.1 k) with
  | some p => p.2
  | none => []

def leInt (a b : Int) : Bool := decide (a ≤ b)

/-- Tags by rising numbers. -/
def sortTM (m : TM) : TM := ((m.map fun p => (p.1 : Int)).mergeSort leInt).map fun k => (k.toNat, tmGet m k.toNat)

theorem sorted_eq {ks ks' : List Int} (h : ks'.Perm ks) (hs : ks'.Pairwise (· ≤ ·)) : ks' = ks.mergeSort leInt := by
  have h2 := List.pairwise_mergeSort (le := leInt) (fun a b c h1 h2 => by simp only [leInt, decide_eq_true_eq] at *; omega) (fun a b => by simp only [leInt, Bool.or_eq_true, decide_eq_true_eq]; omega) ks
  refine List.Perm.eq_of_pairwise (le := fun a b => a ≤ b) (fun a b _ _ h1 h2 => by omega) hs (h2.imp fun h => by simpa [leInt] using h) (h.trans (List.mergeSort_perm ks leInt).symm)

theorem tmGet_eq : ∀ {m : TM} {i : Nat} {p : Nat × List UInt8}, (m.map (·.1)).Nodup → m[i]? = some p → tmGet m p.1 = p.2
  | q :: m, 0, p, _, hi => by
    simp only [List.getElem?_cons_zero, Option.some.injEq] at hi
    subst hi
    simp [tmGet]
  | q :: m, i + 1, p, hn, hi => by
    simp only [List.map_cons, List.nodup_cons] at hn
    simp only [List.getElem?_cons_succ] at hi
    have hne : ¬ q.1 = p.1 := fun e => hn.1 (e ▸ List.mem_map_of_mem (List.mem_of_getElem? hi))
    have := tmGet_eq hn.2 hi
    unfold tmGet at this ⊢
    rw [List.find?_cons_of_neg (by simp [hne])]
    exact this
  | [], _, _, _, hi => by simp at hi

def tEach (c : Nums) (gLess fSort : Nat) : Tr :=
  gGet (.tmp 0) c.tTags 0 c.tMap 2 <| .op (.call { callee := .builtin .len, args := ⟨[.tmp 4]⟩, argTypes := ⟨[c.tMap]⟩ }) none [] <| .op (.binOp .eql c.tInt (.tmp 5) (.const (.int .i64 0)) c.tInt) none [] <| .cond (.tmp 6) (.ret []) <|
  gGet (.tmp 0) c.tTags 0 c.tMap 7 <| .op (.call { callee := .builtin .len, args := ⟨[.tmp 9]⟩, argTypes := ⟨[c.tMap]⟩ }) none [] <| .op (.makeSlice c.tKeys (.const (.int .i64 0)) (.tmp 10)) none [] <| .op (.alloc c.tKeys) none [] <| .op (.store c.tKeys (.tmp 12) (.tmp 11)) none [] <|
  gGet (.tmp 0) c.tTags 0 c.tMap 14 <| .op (.range c.tMap (.tmp 16)) none [] <| gRange c <|
  .op (.load c.tKeys (.tmp 12)) none [] <| .op (.makeInterface c.tKeys (.tmp 20)) none [] <| .op (.makeFunc (.func gLess) ⟨[]⟩ ⟨[.tmp 12]⟩) none [] <| .op (callOp fSort [.tmp 21, .tmp 22]) none [] <| .op (.load c.tKeys (.tmp 12)) none [] <|
  .op (.call { callee := .builtin .len, args := ⟨[.tmp 24]⟩, argTypes := ⟨[c.tKeys]⟩ }) none [] <| .loop 1 [.const (.int .i64 0)] <| .op (.binOp .lss c.tInt (.tmp 26) (.tmp 25) c.tInt) none [] <| .cond (.tmp 27)
    (.op (.indexAddr c.tKeys (.tmp 24) (.tmp 26)) none [] <| .op (.load c.tU32 (.tmp 28)) none [] <| gGet (.tmp 0) c.tTags 0 c.tMap 30 <| .op (.lookup c.tMap (.tmp 32) (.tmp 29) false) none [] <|
      .op (.call { callee := .value (.tmp 1), args := ⟨[.tmp 29, .tmp 33]⟩, argTypes := #[] }) none [] <| .op (.binOp .add c.tInt (.tmp 26) (.const (.int .i64 1)) c.tInt) none [] <| .to 1 [.tmp 35]) (.ret [])

theorem Reads.blk_lt {w : World} {v : Value} {sz n : Nat} {xs : List Value} (h : Reads w v sz n xs) : ∀ b ∈ blkOf v, b < w.heap.size := by
  rcases h.2 with ⟨rfl, _⟩ | ⟨b, o, cap, cs, rfl, _, hh, _⟩
  · intro b hb; cases hb
  · intro x hx
    simp only [blkOf, List.mem_singleton] at hx
    subst hx
    exact hh.lt

/-- What is owed for the closure's call, and what Each then gives. -/
def EachGives (P : Program) (f : Nat) : Prop := ∀ (w0 w : World) (V o gCl : Nat) (cs : List Value) (mv cap : Value) (m : TM) (J : Nat → TM → World → Prop) (M0 : List Nat),
  Has w0 V cs → cs[o]? = some mv → TagsR w0 m mv → m.length < 1073741826 → Keeps [] w0 w → (∀ b ∈ M0, w0.heap.size ≤ b ∧ b < w.heap.size) → (∀ w', Keeps [] w w' → J w'.heap.size [] w') →
  (∀ (h : Nat) (pre : TM) (p : Nat × List UInt8) (v : Value) (w1 : World), J h pre w1 → h ≤ w1.heap.size → w.heap.size ≤ h → (pre.length < m.length ∧ ∃ j, pre ++ [p] = (sortTM m).take j) → Ro w1 v 1 p.2.length (bcells p.2) → Ro w0 v 1 p.2.length (bcells p.2) → p ∈ m → Gives P gCl [.int .u32 p.1, v, cap] w1 fun _ w2 => J h (pre ++ [p]) w2 ∧ ∃ M, Keeps M w1 w2 ∧ ∀ b ∈ M, b ∈ M0 ∨ h ≤ b) →
  Gives P f [ptr V o, .func (.func gCl) #[] #[cap]] w fun _ w' => (∃ h, w.heap.size ≤ h ∧ J h (sortTM m) w') ∧ Keeps M0 w w'

section

variable {P : Program} {c : Nums}

theorem v_makeFunc1 {ρ : Nat → Value} {g : Nat} {x : Operand} {v : Value} (hx : ev ρ x = v) : Val P ρ (.makeFunc (.func g) ⟨[]⟩ ⟨[x]⟩) (.func (.func g) #[] #[v]) := by
  subst hx
  exact v_makeFunc

theorem pair_eq {α : Type} {a b c d : α} (h1 : a = c) (h2 : b = d) : [a, b] = [c, d] := by rw [h1, h2]

theorem sortTM_nil : sortTM [] = [] := by simp [sortTM]

theorem each_gives {f gLess fSort : Nat} (F : RdFacts P c) (T : TagFacts P c) (hS : SortGives P c fSort gLess) (hT : treeIn P f noOrc [.tmp 0, .tmp 1] 2 = tEach c gLess fSort) : EachGives P f := by
  intro w0 w V o gCl cs mv cap m J M0 hV hmv htags hml k0 hM0 hJ0 hJ
  refine gives_in (ρ := en [ptr V o, .func (.func gCl) #[] #[cap]]) F.mix hT (Nat.le_refl _) rfl (by simp [opBelow]) ?_
  have hmv' : cs[o + 0]? = some mv := hmv
  refine s_get (b := V) (o := o) T.f0 T.oneMap rfl (hV.keep k0 (by simp)) hmv' ?_
  rcases htags with ⟨rfl, rfl⟩ | ⟨mb, esA, clock, rfl, hmA, he, hp, hborn, h32, hnd, hne⟩
  · refine s_val (v_lenNilMap T.map rfl) ?_
    refine s_val (v_cmp (kk := .i64) (a := 0) (b := 0) (r := true) rfl rfl rfl) ?_
    refine s_cond (b := true) rfl (fun _ => s_ret0 ⟨⟨_, Nat.le_refl _, by rw [sortTM_nil]; exact hJ0 w .refl⟩, .refl⟩) (fun h => by cases h)
  obtain ⟨es, rfl⟩ : ∃ es, esA = ⟨es⟩ := ⟨esA.toList, rfl⟩
  have hm0 : MapIs w0 mb es clock := hmA
  simp only at he hp hborn
  have hlen := he.len
  have hpos : 0 < es.length := by
    rw [hlen]
    exact List.length_pos_iff.2 hne
  have hk32 := he.keys
  have hne0 : ((es.length : Int) == 0) = false := by
    have h : (es.length : Int) ≠ 0 := by omega
    exact beq_eq_false_iff_ne.2 h
  refine s_lok (l_lenMap T.map rfl (hm0.keep k0 (by simp))) ?_
  refine s_val (v_cmp (kk := .i64) (a := es.length) (b := 0) (r := false) rfl rfl (by rw [cmpOf, hne0])) ?_
  refine s_cond (b := false) rfl (fun h => by cases h) fun _ => ?_
  refine s_get (b := V) (o := o) T.f0 T.oneMap rfl (hV.keep k0 (by simp)) hmv' ?_
  refine s_lok (l_lenMap T.map rfl (hm0.keep k0 (by simp))) ?_
  obtain ⟨inf, z, hinf, hz, hsz, hzc, hby⟩ := info_of T.zeroU32
  generalize hρ : ext (ext (ext (ext (ext (en [ptr V o, .func (.func gCl) #[] #[cap]]) 2 _) _ _) _ _) _ _) _ _ = ρ1
  have r0 : ρ1 0 = ptr V o := by subst hρ; rfl
  have r1 : ρ1 1 = .func (.func gCl) #[] #[cap] := by subst hρ; rfl
  have r10 : ρ1 10 = .int .i64 es.length := by subst hρ; rfl
  clear hρ
  obtain ⟨w1, e1, h1, k1, z1⟩ := a_makeSlice (P := P) (ρ := ρ1) (w := w) (t := c.tKeys) (x := .const (.int .i64 0)) (y := .tmp 10) (k1 := .i64) (k2 := .i64) (l := 0) (c := es.length) T.keys hinf hz (by rw [hzc, hsz]) (by rw [hsz]; decide) rfl r10 (Int.le_refl _) (by omega) (by
    have : inf.bytes * es.length ≤ 8 * 1073741826 := Nat.mul_le_mul hby (by omega)
    have h2 : ((inf.bytes * es.length : Nat) : Int) = (inf.bytes : Int) * es.length := Int.natCast_mul _ _
    omega) (by omega)
  refine s_act e1 (fun p hp => (by cases hp)) ?_
  obtain ⟨w2, e2, h2, k2, z2⟩ := a_alloc (P := P) (ρ := ext ρ1 (7 + 3 + 1) [.slice (some ⟨w.heap.size, 0, none⟩) (0 : Int).toNat ((es.length : Nat) : Int).toNat]) (w := w1) T.zeroKeys
  refine s_act e2 (fun p hp => (by cases hp)) ?_
  obtain ⟨w3, e3, h3, k3⟩ := a_store1 (P := P) (ρ := ext (ext ρ1 (7 + 3 + 1) [.slice (some ⟨w.heap.size, 0, none⟩) (0 : Int).toNat ((es.length : Nat) : Int).toNat]) (7 + 3 + 1 + 1) [.pointer (some ⟨w1.heap.size, 0, none⟩)]) (w := w2) (t := c.tKeys) (x := .tmp 12) (y := .tmp 11) (b := w1.heap.size) (o := 0) (v := .slice (some ⟨w.heap.size, 0, none⟩) 0 es.length) T.oneKeys rfl rfl rfl h2 (by simp [Value.cells])
  refine s_unit e3 (fun p hp => (by cases hp)) ?_
  have k03 : Keeps [] w w3 := ((k1.trans k2).mono (by simp) |>.trans k3).less fun x hx => .inr (by simp only [List.mem_singleton] at hx; omega)
  have kw03 := k0.trans k03
  refine s_get (n := 14) (b := V) (o := o) T.f0 T.oneMap (by show ext _ _ _ 0 = _; rw [ext_lt (by omega), ext_lt (by omega), ext_lt (by omega), r0]) (hV.keep kw03 (by simp)) hmv' ?_
  obtain ⟨w4, e4, hi4, k4, z4⟩ := a_range (P := P) (w := w3) (t := c.tMap) (x := .tmp 16) (ρ := ext (ext (ext (ext ρ1 (7 + 3 + 1) [.slice (some ⟨w.heap.size, 0, none⟩) (0 : Int).toNat ((es.length : Nat) : Int).toNat]) (7 + 3 + 1 + 1) [.pointer (some ⟨w1.heap.size, 0, none⟩)]) (7 + 3 + 1 + 1 + 1) [undef]) 14 [ptr V o, ptr V (o + 0), .map (some mb)]) T.map rfl (hm0.keep kw03 (by simp))
  refine s_act e4 (fun p hp => (by cases hp)) ?_
  have s1 := k1.size
  have s2 := k2.size
  have s3 := k3.size
  have s4 := k4.size
  have s0 := k0.size
  have hm0lt := hm0.lt
  have hVlt := hV.lt
  have k04 := k03.trans k4
  have hcap : Has w4 w.heap.size ((List.replicate ((es.length : Nat) : Int).toNat z.cells.toList).flatten) := ((h1.keep k2 (by simp)).keep k3 (by simp only [List.mem_singleton]; omega)).keep k4 (by simp)
  have hflat : ((List.replicate ((es.length : Nat) : Int).toNat z.cells.toList).flatten).length = es.length := by
    rw [List.length_flatten, List.map_replicate, List.sum_replicate_nat]
    have : z.cells.toList.length = 1 := by simpa using hzc
    rw [this]; simp
  have hown : Own w4 (.slice (some ⟨w.heap.size, 0, none⟩) 0 es.length) 1 0 [] := ⟨rfl, .inr ⟨w.heap.size, es.length, _, rfl, by simpa using hcap, Nat.zero_le _, by omega, by simpa using hflat⟩⟩
  have ho4 : Has w4 w1.heap.size [.slice (some ⟨w.heap.size, 0, none⟩) 0 es.length] := by
    have := h3.keep k4 (by simp)
    simpa [Value.cells] using this
  generalize hρ2 : ext (ext (ext (ext (ext ρ1 _ _) _ _) _ _) 14 _) (14 + 3) _ = ρ2
  have q0 : ρ2 0 = ptr V o := by subst hρ2; rw [ext_lt (by omega), ext_lt (by omega), ext_lt (by omega), ext_lt (by omega), ext_lt (by omega), r0]
  have q1 : ρ2 1 = .func (.func gCl) #[] #[cap] := by subst hρ2; rw [ext_lt (by omega), ext_lt (by omega), ext_lt (by omega), ext_lt (by omega), ext_lt (by omega), r1]
  have q12 : ρ2 12 = ptr w1.heap.size := by subst hρ2; rw [ext_lt (by omega), ext_lt (by omega), ext_lt (by omega)]; exact ext_at
  have q17 : ρ2 17 = ptr w3.heap.size := by subst hρ2; exact ext_at
  clear hρ2
  refine s_range (B := w.heap.size) T q17 q12 hi4 ((hm0.keep kw03 (by simp)).keep k4 (by simp)) hk32 hp hborn ho4 hown (by omega) (by omega) (by omega) (fun b hb => by simp only [blkOf, List.mem_singleton] at hb; omega) (by omega) (by omega) ?_
  intro w5 ρ3 ov ks M Δ hΔ hag hperm ho5 hown5 hov5 k5 hM
  have hkl : ks.length = es.length := by rw [hperm.length_eq, List.length_map]
  rcases hown5.2 with ⟨_, h0⟩ | ⟨kb, kcap, spare, rfl, hk5, _, _, _⟩
  · omega
  have hkb := hov5 kb (by simp [blkOf])
  have p12 : ρ3 12 = ptr w1.heap.size := by rw [hag 12 (by omega)]; exact q12
  refine s_lok (l_load1 (b := w1.heap.size) (o := 0) T.oneKeys p12 ho5 rfl) ?_
  refine s_val (v_makeIface (v := .slice (some ⟨kb, 0, none⟩) ks.length kcap) T.keys ext_at) ?_
  refine s_val (v_makeFunc1 (v := ptr w1.heap.size) (by show ext _ _ _ 12 = _; rw [ext_lt (by omega), ext_lt (by omega)]; exact p12)) ?_
  have k05 : Keeps [] w w5 := ((k04.mono (by simp)).trans k5).less fun x hx => .inr (hM x hx)
  refine s_callx (hS w5 w1.heap.size kb kcap ks spare ho5 hk5 (fun e => hkb.2 e.symm) (by omega) (by omega)) (pair_eq (by show ext _ _ _ 21 = _; rw [ext_lt (by omega)]; exact ext_at) ext_at) fun u w6 ⟨ks', kcs, hperm', hsort, hk6, hkc, k6⟩ => ?_
  have hks : ks' = (m.map fun p => (p.1 : Int)).mergeSort leInt := sorted_eq (hperm'.trans (hperm.trans (by rw [he.keyInts]))) hsort
  have hkl' : ks'.length = ks.length := hperm'.length_eq
  have ho6 : Has w6 w1.heap.size [.slice (some ⟨kb, 0, none⟩) ks.length kcap] := ho5.keep k6 (by simp only [List.mem_singleton]; exact fun e => hkb.2 e.symm)
  have s6 := k6.size
  have s5 := k5.size
  have k06 : Keeps [] w w6 := ((k05.mono (by simp)).trans k6).less fun x hx => .inr (by simp only [List.mem_singleton] at hx; omega)
  refine s_lok (l_load1 (b := w1.heap.size) (o := 0) T.oneKeys (by show ext _ _ _ 12 = _; rw [ext_lt (by omega), ext_lt (by omega), ext_lt (by omega), ext_lt (by omega)]; exact p12) ho6 rfl) ?_
  refine s_val (v_len (a := some ⟨kb, 0, none⟩) (l := ks.length) (c := kcap) T.keys rfl) ?_
  generalize hρ4 : ext (ext (ext (ext (ext (ext ρ3 20 _) _ _) _ _) _ _) _ _) _ _ = ρ4
  have t0 : ρ4 0 = ptr V o := by subst hρ4; rw [ext_lt (by omega), ext_lt (by omega), ext_lt (by omega), ext_lt (by omega), ext_lt (by omega), ext_lt (by omega), hag 0 (by omega), q0]
  have t1 : ρ4 1 = .func (.func gCl) #[] #[cap] := by subst hρ4; rw [ext_lt (by omega), ext_lt (by omega), ext_lt (by omega), ext_lt (by omega), ext_lt (by omega), ext_lt (by omega), hag 1 (by omega), q1]
  have t24 : ρ4 24 = .slice (some ⟨kb, 0, none⟩) ks.length kcap := by subst hρ4; rw [ext_lt (by omega)]; exact ext_at
  have t25 : ρ4 25 = .int .i64 ks.length := by subst hρ4; exact ext_at
  clear hρ4
  have hkb6 := hk6.lt
  have hob6 := ho6.lt
  have hloop := s_count (P := P) (R := fun _ w' => (∃ h, w.heap.size ≤ h ∧ J h (sortTM m) w') ∧ Keeps M0 w w') (Γ := Δ) (n := 26) (q := 25) (ρ := ρ4) (w := w6) (kk := .i64) (t := c.tInt) (m := ks.length) (ri := [])
    (body := .op (.indexAddr c.tKeys (.tmp 24) (.tmp 26)) none [] <| .op (.load c.tU32 (.tmp 28)) none [] <| gGet (.tmp 0) c.tTags 0 c.tMap 30 <| .op (.lookup c.tMap (.tmp 32) (.tmp 29) false) none [] <|
      .op (.call { callee := .value (.tmp 1), args := ⟨[.tmp 29, .tmp 33]⟩, argTypes := #[] }) none [] <| .op (.binOp .add c.tInt (.tmp 26) (.const (.int .i64 1)) c.tInt) none [] <| .to 1 [.tmp 35]) (after := .ret [])
    (fun j w' => J w6.heap.size ((sortTM m).take j) w' ∧ ∃ M, Keeps M w6 w' ∧ ∀ b ∈ M, b ∈ M0 ∨ w6.heap.size ≤ b) (by omega) t25 ⟨by simpa using hJ0 w6 k06, [], .refl, fun b hb => by cases hb⟩ ?_ ?_
  · rw [hΔ] at hloop
    exact hloop
  · rintro j hj w7 vr ⟨hJ7, M7, k7, hM7⟩ hvr J2 hJ2
    obtain rfl : vr = [] := List.eq_nil_of_length_eq_zero hvr
    simp only [List.length_nil, Nat.add_zero, List.nil_append]
    have hj' : j < ks.length := by omega
    have hjs : j < ks'.length := by omega
    have hnot : ∀ b, w.heap.size ≤ b → b < w6.heap.size → b ∉ M7 := fun b hb hb' hbM => by
      rcases hM7 b hbM with h | h
      · have := (hM0 b h).2; omega
      · omega
    have k07 : Keeps [] w0 w7 := ((k0.mono (by simp)).trans ((k06.mono (by simp)).trans k7)).less fun x hx => .inr (by
      rcases hM7 x hx with h | h
      · exact (hM0 x h).1
      · omega)
    have hk7 : Has w7 kb kcs := hk6.keep k7 (hnot kb (by omega) hkb6)
    have hidx := v_indexAddr (P := P) (ρ := ext ρ4 26 [.int .i64 j, .bool true]) (t := c.tKeys) (x := .tmp 24) (i := .tmp 26) (b := kb) (o := 0) (l := ks.length) (c := kcap) (j := j) (kk := .i64) T.keys (chk_size T.zeroU32) (by show ext _ _ _ 24 = _; rw [ext_lt (by omega)]; exact t24) ext_at (by omega) (by omega)
    rw [Int.toNat_natCast, Nat.mul_one] at hidx
    refine s_val hidx ?_
    have hcell : kcs[0 + j]? = some (encK ks'[j]) := by rw [Nat.zero_add]; exact hkc j hjs
    refine s_lok (l_load1 (b := kb) (o := 0 + j) T.oneU32 ext_at hk7 hcell) ?_
    refine s_get (n := 30) (b := V) (o := o) T.f0 T.oneMap (by show ext _ _ _ 0 = _; rw [ext_lt (by omega), ext_lt (by omega), ext_lt (by omega)]; exact t0) (hV.keep k07 (by simp)) hmv' ?_
    -- the key's entry
    have hmem : ks'[j] ∈ m.map fun p => (p.1 : Int) := by
      have h1 : ks'[j] ∈ ks' := List.getElem_mem _
      rw [← he.keyInts]
      exact hperm.mem_iff.1 (hperm'.mem_iff.1 h1)
    obtain ⟨p, hpm, hpk⟩ := List.mem_map.1 hmem
    obtain ⟨i, hi, hip⟩ := List.getElem_of_mem hpm
    have hmi : m[i]? = some p := by rw [List.getElem?_eq_getElem hi, hip]
    obtain ⟨e, hei, hent⟩ := he.get hmi
    obtain ⟨hkey, hoct⟩ := hent
    have hkis : keyIs ks'[j] e = true := by rw [← hpk]; simp [keyIs, hkey]
    have hbefore : ∀ j' e', j' < i → es[j']? = some e' → keyIs ks'[j] e' = false := by
      intro j' e' hlt he'
      have hj'l : j' < m.length := by omega
      obtain ⟨e2, he2, hent2⟩ := he.get (i := j') (p := m[j']) (List.getElem?_eq_getElem hj'l)
      obtain rfl : e2 = e' := by rw [he'] at he2; simpa using he2.symm
      rw [← hpk, EntR.is hent2]
      have hne : m[j'].1 ≠ p.1 := by
        rw [← hip]
        have h1 := List.pairwise_iff_getElem.1 (List.nodup_iff_pairwise_ne.1 hnd) j' i (by simpa using hj'l) (by simpa using hi) hlt
        simpa using h1
      simp [hne]
    refine s_lok (l_lookup (j := i) (n := ks'[j]) (e := e) T.map F.u32 (by show ext _ 30 _ 32 = _; rfl) (by
      show ext _ _ _ 29 = _
      rw [ext_lt (by omega), show (29 : Nat) = 26 + 0 + 2 + 1 from rfl, ext_at]; rfl) (hm0.keep k07 (by simp)) hk32 hei hkis hbefore) ?_
    have hoct7 := hoct.keep k07
    have hnext : (sortTM m).take (j + 1) = (sortTM m).take j ++ [p] := by
      have hsl : (sortTM m).length = ks'.length := by rw [hks]; simp [sortTM]
      have hget : (sortTM m)[j]'(by omega) = p := by
        simp only [sortTM, List.getElem_map, ← hks, ← hpk]
        rw [Int.toNat_natCast, tmGet_eq hnd hmi]
      rw [List.take_succ_eq_append_getElem (by omega), hget]
    have hclo := hJ w6.heap.size ((sortTM m).take j) p e.val w7 hJ7 k7.size k06.size ⟨by rw [List.length_take]; omega, j + 1, hnext.symm⟩ hoct7 hoct hpm
    refine s_callv (g := gCl) (f := 1) (caps := [cap]) (args := [.int .u32 p.1, e.val]) (by
      rw [ext_lt (by omega), ext_lt (by omega), ext_lt (by omega), ext_lt (by omega), ext_lt (by omega)]; exact t1) (pair_eq (by
      show ext _ _ _ 29 = _
      rw [ext_lt (by omega), ext_lt (by omega), show (29 : Nat) = 26 + 0 + 2 + 1 from rfl, ext_at, ← hpk]; rfl) ext_at) hclo fun u w8 ⟨hJ8, M8, k8, hM8⟩ => ?_
    refine s_val (v_arith (kk := .i64) (a := j) (b := 1) (r := ((j + 1 : Nat) : Int)) (by
      show ext _ _ _ 26 = _
      rw [ext_lt (by omega), ext_lt (by omega), ext_lt (by omega), ext_lt (by omega), ext_lt (by omega)]; exact ext_at) rfl ?_) ?_
    · simp only [arithOf, Option.some.injEq]; rw [IntKind.wrap_i64]; omega
    refine ⟨J2, by rw [List.getElem?_append_right (by omega), hΔ]; rfl, ?_⟩
    have hlast := hJ2 [] w8 rfl ⟨?_, M7 ++ M8, (k7.mono fun x hx => List.mem_append_left _ hx).trans (k8.mono fun x hx => List.mem_append_right _ hx), fun b hb => by
      rcases List.mem_append.1 hb with h | h
      · exact hM7 b h
      · exact hM8 b h⟩
    · show J2 [ext _ (30 + 3 + 1 + 1) _ 35] w8
      rw [show (35 : Nat) = 30 + 3 + 1 + 1 from rfl, ext_at]
      exact hlast
    · rw [hnext]
      exact hJ8
  · rintro w7 vr J2 ⟨hJ7, M7, k7, hM7⟩ hvr
    have hsl : (sortTM m).length = ks.length := by rw [← hkl', hks]; simp [sortTM]
    rw [Int.toNat_natCast, List.take_of_length_le (by omega)] at hJ7
    refine s_ret0 ⟨⟨_, k06.size, hJ7⟩, ((k06.mono (by simp)).trans k7).less fun x hx => ?_⟩
    rcases hM7 x hx with h | h
    · exact .inl h
    · exact .inr (by have := k06.size; omega)

end

end Go.Kf

namespace Go.Kf

open Go

theorem TagRows.key {w : World} {A : Nat → Prop} : ∀ {u : TM} {cs : List Value} {i : Nat} {p : Nat × List UInt8}, TagRows w A u cs → u[i]? = some p → cs[i * 2]? = some (.int .u32 p.1)
  | [], _, _, _, _, hi => by simp at hi
  | q :: u, _, 0, p, ⟨v, r, e, _, _⟩, hi => by
    simp only [List.getElem?_cons_zero, Option.some.injEq] at hi
    subst hi
    rw [e]; rfl
  | q :: u, _, i + 1, p, ⟨v, r, e, _, h⟩, hi => by
    simp only [List.getElem?_cons_succ] at hi
    rw [e, show (i + 1) * 2 = i * 2 + 1 + 1 by omega]
    simp only [List.getElem?_cons_succ]
    exact TagRows.key h hi

end Go.Kf

namespace Go.Kf

open Go

section

variable {P : Program} {c : Nums}

theorem sortTM_len (m : TM) : (sortTM m).length = m.length := by simp [sortTM]

end

end Go.Kf

namespace Go.Kf

open Go

theorem wrap_u32 (l : List UInt8) (h : l.length = 4) : IntKind.u32.wrap (Lib.beNat l) = Lib.beNat l := by
  have := beNat_lt l
  rw [h] at this
  simp only [IntKind.wrap, IntKind.bits, IntKind.signed]
  simp; omega

section

variable {P : Program} {c : Nums} {R : Value → World → Prop} {w : World} {rb D : Nat} {r : Rd}

end

end Go.Kf


namespace Go.Kf

open Go

section

variable {P : Program} {c : Nums} {s : SN} {R : Value → World → Prop} {Γ : List (List Value → World → Prop)} {n : Nat} {ρ : Nat → Value} {w : World} {k : Tr}

theorem same_ro (F : RdFacts P c) {f : Nat} (hT : treeIn P f noOrc [.tmp 0, .tmp 1] 2 = tSame c) {v1 v2 : Value} {l1 l2 : List UInt8} (hbig : l1.length < 2 ^ 62 ∨ l2.length < 2 ^ 62) (h1 : Ro w v1 1 l1.length (bcells l1)) (h2 : Ro w v2 1 l2.length (bcells l2)) : Yields P f [v1, v2] w (.bool (decide (l1 = l2))) := same_gives F hT w v1 v2 l1 l2 hbig h1 h2

end

end Go.Kf

namespace Go.Kf

open Go

/-- The field of a list's things. -/
def PF.one (f : PF) : PF := .mk f.elem f.fr f.to (-1) (-1) f.dflt f.elem f.sub

section

variable {P : Program} {c : Nums} {s : SN} {R : Value → World → Prop} {Γ : List (List Value → World → Prop)} {n : Nat} {ρ : Nat → Value} {w : World} {k : Tr}

end

end Go.Kf

namespace Go.Kf

open Go

section

variable {P : Program} {c : Nums} {s : SN} {R : Value → World → Prop} {Γ : List (List Value → World → Prop)} {n : Nat} {ρ : Nat → Value} {w : World} {k : Tr}

theorem take0 {cs : List Value} {n : Nat} (h : cs.length = n) : (cs.drop 0).take n = cs := by rw [List.drop_zero, List.take_of_length_le (by omega)]

end

end Go.Kf

namespace Go.Kf

open Go

def tFits1 (c : Nums) (s : SN) : Tr :=
  .op (.box c.sTree (.tmp 0)) none [] <|
  .op (.fieldAddr c.sTree (.tmp 1) 1) none [] <|
  .op (.load c.tBytes (.tmp 2)) none [] <|
  .op (.call { callee := (.builtin .len), args := ⟨[(.tmp 3)]⟩, argTypes := ⟨[c.tBytes]⟩ }) none [] <|
  .op (.binOp .gtr c.tInt (.tmp 4) (.const (.int .i64 2147483647)) c.tInt) none [] <|
  .cond (.tmp 5) (
    .ret [((.const (.bool false)), none)]
  ) (
    .op (.fieldAddr c.sTree (.tmp 1) 3) none [] <|
    .op (.load c.sTrees (.tmp 6)) none [] <|
    .op (.call { callee := (.builtin .len), args := ⟨[(.tmp 7)]⟩, argTypes := ⟨[c.sTrees]⟩ }) none [] <|
    .op (.binOp .gtr c.tInt (.tmp 8) (.const (.int .i64 2147483647)) c.tInt) none [] <|
    .cond (.tmp 9) (
      .ret [((.const (.bool false)), none)]
    ) (
      .op (.fieldAddr c.sTree (.tmp 1) 4) none [] <|
      .op (.load c.sTagL (.tmp 10)) none [] <|
      .op (callOp s.fits2 [(.tmp 11)]) none [] <|
      .op (.unOp .not c.tBool (.tmp 12)) none [] <|
      .cond (.tmp 13) (
        .ret [((.const (.bool false)), none)]
      ) (
        .ret [((.const (.bool true)), none)]
      )
    )
  )

def tFits2 (c : Nums) (s : SN) : Tr :=
  .op (.call { callee := (.builtin .len), args := ⟨[(.tmp 0)]⟩, argTypes := ⟨[c.sTagL]⟩ }) none [] <|
  .op (.binOp .gtr c.tInt (.tmp 1) (.const (.int .i64 2147483647)) c.tInt) none [] <|
  .cond (.tmp 2) (
    .ret [((.const (.bool false)), none)]
  ) (
    .op (.call { callee := (.builtin .len), args := ⟨[(.tmp 0)]⟩, argTypes := ⟨[c.sTagL]⟩ }) none [] <|
    .loop 0 [(.const (.bool false)), (.const (.int .i64 0))] <|
    .op (.binOp .lss c.tInt (.tmp 5) (.tmp 3) c.tInt) none [] <|
    .cond (.tmp 6) (
      .op (.indexAddr c.sTagL (.tmp 0) (.tmp 5)) none [] <|
      .op (.load c.sTag (.tmp 7)) none [] <|
      .op (.alloc c.sTag) none [] <|
      .op (.store c.sTag (.tmp 9) (.tmp 8)) none [] <|
      .op (.load c.sTag (.tmp 9)) none [] <|
      .op (callOp s.fits3 [(.tmp 11)]) none [] <|
      .op (.unOp .not c.tBool (.tmp 12)) none [] <|
      .cond (.tmp 13) (
        .ret [((.const (.bool false)), none)]
      ) (
        .op (.binOp .add c.tInt (.tmp 5) (.const (.int .i64 1)) c.tInt) none [] <|
        .to 0 [(.tmp 4), (.tmp 14)]
      )
    ) (
      .ret [((.const (.bool true)), none)]
    )
  )

def tFits3 (c : Nums) : Tr :=
  .op (.box c.sTag (.tmp 0)) none [] <|
  .op (.fieldAddr c.sTag (.tmp 1) 1) none [] <|
  .op (.load c.tBytes (.tmp 2)) none [] <|
  .op (.call { callee := (.builtin .len), args := ⟨[(.tmp 3)]⟩, argTypes := ⟨[c.tBytes]⟩ }) none [] <|
  .op (.binOp .gtr c.tInt (.tmp 4) (.const (.int .i64 2147483647)) c.tInt) none [] <|
  .cond (.tmp 5) (
    .ret [((.const (.bool false)), none)]
  ) (
    .ret [((.const (.bool true)), none)]
  )

/-- The reference's functions' trees. -/
structure SpTrees (P : Program) (c : Nums) (s : SN) : Prop where
  has : treeIn P s.has noOrc [.tmp 0, .tmp 1] 2 = tHas c s
  null : treeIn P s.null noOrc [.tmp 0, .tmp 1, .tmp 2] 3 = tNull c s
  whole : treeIn P s.whole noOrc [.tmp 0] 1 = tWhole c
  things : treeIn P s.things noOrc [.tmp 0] 1 = tThings c
  at_ : treeIn P s.at_ noOrc [.tmp 0, .tmp 1] 2 = tAt c
  uv : treeIn P s.uv noOrc [.tmp 0] 1 = tUv c
  fixed : treeIn P s.fixed noOrc [.tmp 0, .tmp 1] 2 = tFixed c
  width : treeIn P s.width noOrc [.tmp 0] 1 = tWidth c
  counted : treeIn P s.counted noOrc [.tmp 0, .tmp 1, .tmp 2, .tmp 3] 4 = tCounted c s
  value : treeIn P s.value noOrc [.tmp 0, .tmp 1, .tmp 2, .tmp 3, .tmp 4, .tmp 5] 6 = tValue c s
  fld : treeIn P s.fld noOrc [.tmp 0, .tmp 1, .tmp 2, .tmp 3] 4 = tField c s
  part : treeIn P s.part noOrc [.tmp 0, .tmp 1, .tmp 2, .tmp 3] 4 = tPart c s
  known : treeIn P s.known noOrc [.tmp 0] 1 = tKnown c s
  unknown : treeIn P s.unknown noOrc [.tmp 0, .tmp 1] 2 = tUnknown c s
  write : treeIn P s.write noOrc [.tmp 0, .tmp 1, .tmp 2] 3 = tWrite c s

/-- Those of the bounds. -/
structure FitTrees (P : Program) (c : Nums) (s : SN) : Prop where
  fits1 : treeIn P s.fits1 noOrc [.tmp 0] 1 = tFits1 c s
  fits2 : treeIn P s.fits2 noOrc [.tmp 0] 1 = tFits2 c s
  fits3 : treeIn P s.fits3 noOrc [.tmp 0] 1 = tFits3 c

section

variable {P : Program} {c : Nums} {s : SN}

theorem smalls_of (S : SpFacts P c s) (T : SpTrees P c s) : Smalls P s where
  has := fun _ _ _ v h => has_gives S T.has h v
  null := fun _ _ _ _ _ v h ht => null_gives S T.null h ht v
  whole := fun _ _ _ h => whole_gives S T.whole h
  things := fun _ _ _ _ h ht => things_gives S T.things h ht
  at_ := fun _ _ _ i ht => at_gives S T.at_ ht i
  width := fun _ x => width_gives S T.width x
  fixed := fun _ x m hm => fixed_gives S T.fixed x m hm
  uv := fun _ x hx => uv_gives S T.uv x hx
  counted := fun _ fl nu x m hx hm => counted_gives S (fun _ x m hm => fixed_gives S T.fixed x m hm) (fun _ x hx => uv_gives S T.uv x hx) T.counted fl nu x m hx hm

theorem unknown_all (S : SpFacts P c s) (T : SpTrees P c s) {fs : List PF} (h : PF.plains fs = true) (hl : fs.length < 65536) : UnknownOf P s fs := by
  have ht : ∀ f ∈ fs, f.tag < 0 := fun f hf => PF.plain_tag (PF.plains_mem h f hf)
  refine unknown_gives S (fun w fv hfv => ?_) T.unknown
  rw [pKnown_plain 0 ht]
  exact known_plain S T.known ht hfv (by omega)

mutual
theorem field_all (S : SpFacts P c s) (T : SpTrees P c s) : ∀ f : PF, f.plain = true → FieldOf P s f
  | .mk k fr to n g d e sub, h => by
    have hs := PF.plain_sub h
    have hl := PF.plain_len h
    have hp : PartOf P s sub := part_step S (smalls_of S T) T.known T.part (fun f hf => PF.plain_tag (PF.plains_mem hs f hf)) (by simp only [PF.sub] at hl; omega) (fields_all S T sub hs) (unknown_all S T hs hl)
    exact field_step S (smalls_of S T) T.fld (f := .mk k fr to n g d e sub) (fun w fv t ts kind nu fl v hf ht hok hl => value_gives S (smalls_of S T) T.value hp kind nu fl v hf ht hok hl) hp
theorem fields_all (S : SpFacts P c s) (T : SpTrees P c s) : ∀ fs : List PF, PF.plains fs = true → ∀ f ∈ fs, FieldOf P s f
  | [], _, f, hf => by cases hf
  | x :: l, h, f, hf => by
    simp only [PF.plains, Bool.and_eq_true] at h
    rcases List.mem_cons.1 hf with e | hf
    · rw [e]; exact field_all S T x h.1
    · exact fields_all S T l h.2 f hf
end

theorem part_all (S : SpFacts P c s) (T : SpTrees P c s) {fs : List PF} (h : PF.plains fs = true) (hl : fs.length < 65536) : PartOf P s fs :=
  part_step S (smalls_of S T) T.known T.part (fun f hf => PF.plain_tag (PF.plains_mem h f hf)) (by omega) (fields_all S T fs h) (unknown_all S T h hl)

theorem write_gives (S : SpFacts P c s) (T : SpTrees P c s) {fs : List PF} (h : PF.plains fs = true) (hlen : fs.length < 65536) {w : World} {fv : Value} {t : PT} {ts : List Value} (x v : Int) (hfv : FieldsV w fs fv) (ht : TreeC w t ts) (hok : t.ok) (hl : (pWrite fs x v t).length ≤ maxW) :
    YieldsO P s.write [.agg ⟨[fv, .int .i64 x]⟩, .int .i64 v, .agg ⟨ts⟩] w (pWrite fs x v t) := by
  have htl := ht.len
  refine gives_in (ρ := en [_, _, _]) S.rd.mix T.write (Nat.le_refl _) rfl (by simp [opBelow]) ?_
  refine s_box rfl fun w1 hx1 k1 z1 => ?_
  refine s_box rfl fun w2 hy2 k2 z2 => ?_
  have hx2 := hx1.keep k2 (by simp)
  have k02 := k1.trans k2
  have hp := part_all S T h hlen
  refine s_fl S.m0 S.oneFields rfl rfl hx2 rfl (s_fl S.m1 S.oneInt rfl rfl hx2 rfl ?_)
  refine s_val (v_cmp (kk := .i64) (a := x) (b := 0) (r := decide (x ≥ 0)) rfl rfl rfl) ?_
  unfold pWrite at hl ⊢
  refine s_cond (b := decide (x ≥ 0)) rfl (fun hb => ?_) fun hb => ?_
  · refine s_fl S.m1 S.oneInt rfl rfl hx2 rfl ?_
    refine s_val (v_cmp (kk := .i64) (a := v) (b := x) (r := decide (v ≥ x)) rfl rfl rfl) ?_
    have hfx : pFlex x v = decide (v ≥ x) := by
      unfold pFlex
      rw [show decide (0 ≤ x) = true from hb]
      rfl
    rw [hfx] at hl ⊢
    refine s_lok (l_loadN (b := w1.heap.size) (o := 0) S.ty.agg rfl hy2 (by omega)) ?_
    rw [take0 htl]
    exact s_callO (hp w2 fv v _ t ts (hfv.keep k02) (TreeC.keep k02 _ _ ht) hok hl) rfl fun u w3 hM => ⟨fun p hp => (by cases hp), s_ret1 (hM.under k02)⟩
  · have hfx : pFlex x v = false := by
      unfold pFlex
      rw [show decide (0 ≤ x) = false from hb]
      rfl
    rw [hfx] at hl ⊢
    refine s_lok (l_loadN (b := w1.heap.size) (o := 0) S.ty.agg rfl hy2 (by omega)) ?_
    rw [take0 htl]
    exact s_callO (hp w2 fv v _ t ts (hfv.keep k02) (TreeC.keep k02 _ _ ht) hok hl) rfl fun u w3 hM => ⟨fun p hp => (by cases hp), s_ret1 (hM.under k02)⟩

/-- Whether it fits or not. -/
def Answers (P : Program) (f : Nat) (args : List Value) (w : World) : Prop := Gives P f args w fun u w' => (∃ b, u = .bool b) ∧ Keeps [] w w'

theorem fits3_gives (S : SpFacts P c s) (T : FitTrees P c s) {w : World} {kv vv : Value} {l : List UInt8} (h : Ro w vv 1 l.length (bcells l)) : Answers P s.fits3 [.agg ⟨[kv, vv]⟩] w := by
  refine gives_in (ρ := en [_]) S.rd.mix T.fits3 (Nat.le_refl _) rfl (by simp [opBelow]) ?_
  refine s_box rfl fun w1 hx1 k1 z1 => ?_
  obtain ⟨a, cp, e⟩ := h.form
  refine s_fl S.ty.g1 S.rd.oneBytes rfl rfl hx1 rfl (s_val (v_len (a := a) (l := l.length) (c := cp) S.rd.bytes e) ?_)
  refine s_val (v_cmp (kk := .i64) (a := l.length) (b := 2147483647) (r := decide ((l.length : Int) > 2147483647)) rfl rfl rfl) ?_
  exact s_cond (b := decide ((l.length : Int) > 2147483647)) rfl (fun _ => s_ret1 ⟨⟨_, rfl⟩, k1⟩) fun _ => s_ret1 ⟨⟨_, rfl⟩, k1⟩

theorem fits2_gives (S : SpFacts P c s) (T : FitTrees P c s) {w : World} {uv : Value} {u : TM} {ucs : List Value} (h : Ro w uv 2 u.length ucs) (ht : TagsC w u ucs) (hl : u.length < 2 ^ 62) : Answers P s.fits2 [uv] w := by
  refine gives_in (ρ := en [_]) S.rd.mix T.fits2 (Nat.le_refl _) rfl (by simp [opBelow]) ?_
  obtain ⟨a, cp, e⟩ := h.form
  refine s_val (v_len (a := a) (l := u.length) (c := cp) S.ty.slTag e) ?_
  refine s_val (v_cmp (kk := .i64) (a := u.length) (b := 2147483647) (r := decide ((u.length : Int) > 2147483647)) rfl rfl rfl) ?_
  refine s_cond (b := decide ((u.length : Int) > 2147483647)) rfl (fun _ => s_ret1 ⟨⟨_, rfl⟩, .refl⟩) fun _ => ?_
  refine s_val (v_len (a := a) (l := u.length) (c := cp) S.ty.slTag e) ?_
  refine s_countV (n := 4) (q := 3) (kk := .i64) (m := u.length) (ri := [.const (.bool false)]) (Γ := []) (fun j vr w' => vr = [.bool false] ∧ Keeps [] w w') (by omega) rfl ⟨rfl, .refl⟩ ?_ ?_
  · rintro j hj w1 vr ⟨rfl, k1⟩ hvr J hJ
    have hj' : j < u.length := by omega
    refine s_eachT (w0 := w) (tv := uv) (m := u) (j := j) S (h.keep k1) ht rfl rfl hj' fun w2 a2 b vv hh hvv k2 hb => ?_
    refine s_lok (l_loadN (b := b) (o := 0) S.ty.aggTag rfl hh (show 0 + 2 ≤ 2 by omega)) ?_
    refine s_callx (fits3_gives S T (kv := .int .u32 u[j].1) (hvv.keep (k1.trans k2))) rfl fun x w3 ⟨⟨q, hq⟩, k3⟩ => ?_
    subst hq
    refine s_val (v_not (b := q) rfl) ?_
    refine s_cond (b := !q) rfl (fun _ => s_ret1 ⟨⟨_, rfl⟩, (k1.trans k2).trans k3⟩) fun _ => ?_
    refine s_val (v_arith (kk := .i64) (a := j) (b := 1) (r := ((j + 1 : Nat) : Int)) rfl rfl ?_) ?_
    · simp only [arithOf, Option.some.injEq]; rw [IntKind.wrap_i64]; omega
    exact ⟨J, rfl, hJ [_] _ rfl ⟨rfl, (k1.trans k2).trans k3⟩⟩
  · rintro w1 vr J ⟨rfl, k1⟩ hvr
    exact s_ret1 ⟨⟨_, rfl⟩, k1⟩

theorem fits1_gives (S : SpFacts P c s) (T : FitTrees P c s) {w : World} {t : PT} {ts : List Value} (ht : TreeC w t ts) : Answers P s.fits1 [.agg ⟨ts⟩] w := by
  have hl := ht.lens
  obtain ⟨sv, lv, uv, lcs, ucs, rfl, t1, t2, t3, t4, t5⟩ := ht.cells
  refine gives_in (ρ := en [_]) S.rd.mix T.fits1 (Nat.le_refl _) rfl (by simp [opBelow]) ?_
  refine s_box rfl fun w1 hx1 k1 z1 => ?_
  obtain ⟨a, cp, e⟩ := t1.form
  refine s_fl S.ty.f1 S.rd.oneBytes rfl rfl hx1 rfl (s_val (v_len (a := a) (l := t.s.length) (c := cp) S.rd.bytes e) ?_)
  refine s_val (v_cmp (kk := .i64) (a := t.s.length) (b := 2147483647) (r := decide ((t.s.length : Int) > 2147483647)) rfl rfl rfl) ?_
  refine s_cond (b := decide ((t.s.length : Int) > 2147483647)) rfl (fun _ => s_ret1 ⟨⟨_, rfl⟩, k1⟩) fun _ => ?_
  obtain ⟨a2, cp2, e2⟩ := t2.form
  refine s_fl S.ty.f3 S.ty.oneTrees rfl rfl hx1 rfl (s_val (v_len (a := a2) (l := t.l.length) (c := cp2) S.ty.sl e2) ?_)
  refine s_val (v_cmp (kk := .i64) (a := t.l.length) (b := 2147483647) (r := decide ((t.l.length : Int) > 2147483647)) rfl rfl rfl) ?_
  refine s_cond (b := decide ((t.l.length : Int) > 2147483647)) rfl (fun _ => s_ret1 ⟨⟨_, rfl⟩, k1⟩) fun _ => ?_
  refine s_fl S.ty.f4 S.ty.oneTagL rfl rfl hx1 rfl ?_
  refine s_callx (fits2_gives S T (t4.keep k1) (TagsC.keep k1 _ _ t5) (by omega)) rfl fun x w3 ⟨⟨q, hq⟩, k3⟩ => ?_
  subst hq
  refine s_val (v_not (b := q) rfl) ?_
  exact s_cond (b := !q) rfl (fun _ => s_ret1 ⟨⟨_, rfl⟩, k1.trans k3⟩) fun _ => s_ret1 ⟨⟨_, rfl⟩, k1.trans k3⟩

end

end Go.Kf


namespace Go.Kf

open Go

variable {P : Program} {c : Nums} {s : SN}

def chkSp (P : Program) (c : Nums) (s : SN) : Bool :=
  decide (aggTy P s.field = some 8) && decide (fieldOff P s.field 0 = some 0) && decide (fieldOff P s.field 1 = some 1) && decide (fieldOff P s.field 2 = some 2) && decide (fieldOff P s.field 3 = some 3) && decide (fieldOff P s.field 4 = some 4) &&
  decide (fieldOff P s.field 5 = some 5) && decide (fieldOff P s.field 6 = some 6) && decide (fieldOff P s.field 7 = some 7) && oneTy P s.fields && decide (aggTy P s.msg = some 2) && decide (fieldOff P s.msg 0 = some 0) && decide (fieldOff P s.msg 1 = some 1) && oneTy P c.tInt

theorem SpFacts.of (h1 : RdFacts P c) (h2 : TyFacts P c c.sTree c.sTrees c.sTagL c.sTag) (h3 : GotFacts P c) (h4 : RowFacts P s.field 8) (h5 : chkSp P c s = true) (h6 : P.underlying s.fields = some (.slice s.field))
    (h7 : P.underlying c.tU64 = some (.int .u64)) (h8 : zeroTy P c.tU8 = some (.int .u8 0, 1)) (h9 : chkInfo P c.tU8 1 8 = true) (h10 : chkZero P s.field 8 = true) (h11 : chkZero P c.sTag 2 = true) (h12 : buildPlan P c.sTag = some ([.int .u32 0, .slice none 0 0], [(0, 1), (1, 1)])) : SpFacts P c s := by
  unfold chkSp at h5
  simp only [Bool.and_eq_true, decide_eq_true_eq] at h5
  obtain ⟨⟨⟨⟨⟨⟨⟨⟨⟨⟨⟨⟨⟨a1, a2⟩, a3⟩, a4⟩, a5⟩, a6⟩, a7⟩, a8⟩, a9⟩, a10⟩, a11⟩, a12⟩, a13⟩, a14⟩ := h5
  refine ⟨h1, h2, h3, a1, a2, a3, a4, a5, a6, a7, a8, a9, h6, a10, a11, a12, a13, a14, h7, ?_, zero_of h10, zero_of h11, h4, h12⟩
  obtain ⟨inf, z, hi, hz, hs, hc, hb⟩ := info_of h9
  refine ⟨inf, hi, ?_, hs, hb⟩
  unfold zeroTy at h8
  rw [hi] at h8
  simp only [hz, Option.some.injEq, Prod.mk.injEq] at h8
  rw [hz, h8.1]

end Go.Kf


namespace Go.Kf

open Go Go.ChangeShapes Go.WideShapes Go.RowKit

/-- How much a tree says. -/
def tagsWt : TM → Nat
  | [] => 0
  | p :: m => 3 + p.2.length + tagsWt m

mutual
def PT.wt : PT → Nat
  | .mk _ s _ l u => 6 + s.length + PT.wts l + tagsWt u
def PT.wts : List PT → Nat
  | [] => 0
  | t :: r => t.wt + PT.wts r
end

theorem PT.wts_append : ∀ (a b : List PT), PT.wts (a ++ b) = PT.wts a + PT.wts b
  | [], b => by simp [PT.wts]
  | t :: a, b => by rw [List.cons_append, PT.wts, PT.wts_append a b, PT.wts]; omega

theorem tagsWt_append : ∀ (a b : TM), tagsWt (a ++ b) = tagsWt a + tagsWt b
  | [], b => by simp [tagsWt]
  | t :: a, b => by rw [List.cons_append, tagsWt, tagsWt_append a b, tagsWt]; omega

/-- How a reading's bulk is counted. -/
structure BulkLaws {H : Type} (B : DataW H → Nat) (BA : List (DataW H) → Nat) : Prop where
  agg : ∀ l, B (.agg l) = BA l + 1
  slice : ∀ e r, B (.slice e r) = BA e + BA r + 1
  pos : ∀ d, 1 ≤ B d
  nil : BA [] = 0
  cons : ∀ d r, BA (d :: r) = B d + BA r

/-- A struct's fields: their types, where they lie. -/
def chkStruct (P : Program) (t : Nat) (l : List (Nat × Nat)) : Bool := match P.underlying t with
  | some (.struct fs) => decide (fs.toList.map (fun f => (f.type, f.offset)) = l)
  | _ => false

theorem struct_of {P : Program} {t : Nat} {l : List (Nat × Nat)} (h : chkStruct P t l = true) : ∃ fs, P.underlying t = some (.struct fs) ∧ fs.toList.map (fun f => (f.type, f.offset)) = l := by
  unfold chkStruct at h
  split at h
  · rename_i fs hf
    exact ⟨fs, hf, by simpa using h⟩
  · cases h

/-- The tree's types, as a row's reading asks them. -/
structure RowTypes (P : Program) (c : Nums) : Prop where
  tree : chkStruct P c.sTree [(c.tI64, 0), (c.tBytes, 1), (c.tBool, 2), (c.sTrees, 3), (c.sTagL, 4)] = true
  tag : chkStruct P c.sTag [(c.tU32, 0), (c.tBytes, 1)] = true
  cells : [P.cellsOf c.tI64, P.cellsOf c.tBytes, P.cellsOf c.tBool, P.cellsOf c.sTrees, P.cellsOf c.sTagL, P.cellsOf c.tU32, P.cellsOf c.tU8, P.cellsOf c.sTree, P.cellsOf c.sTag] = [1, 1, 1, 1, 1, 1, 1, 5, 2]
  laid : laidOutB P = true
  rr : P.readableRec c.sTree = true
  row : c.sTree < P.types.size

theorem struct_parts {H : Type} {enc : TypeId × Value → H} {P : Program} {w : World} {base : Nat} {sp : Nat → Bool} {hd : Bool} {fuel t : Nat} {cs : List Value} {x : DataW H × List MemPlace} {l : List (Nat × Nat)} (h : chkStruct P t l = true) (hx : DataW.trod enc P w base sp hd fuel t cs = some x) :
    ∃ (xs : List (DataW H × List MemPlace)) (n : Nat), fuel = n + 1 ∧ x.1 = .agg (xs.map (·.1)) ∧ cs.length = P.cellsOf t ∧ xs.length = l.length ∧ ∀ (i : Nat) (p : Nat × Nat), l[i]? = some p → DataW.trod enc P w base sp hd n p.1 ((cs.drop p.2).take (P.cellsOf p.1)) = xs[i]? := by
  obtain ⟨fs, hf, hm⟩ := struct_of h
  obtain ⟨xs, n, h1, h2, h3, h4, h5⟩ := DataW.trod_struct hf hx
  refine ⟨xs, n, h1, by rw [h2], h3, by rw [h4, ← hm]; simp, fun i p hp => ?_⟩
  subst hm
  rw [List.getElem?_map] at hp
  cases hfi : fs.toList[i]? with
  | none => rw [hfi] at hp; cases hp
  | some f =>
    rw [hfi] at hp
    simp only [Option.map_some, Option.some.injEq] at hp
    subst hp
    exact h5 i f (by rwa [Array.getElem?_toList] at hfi)

theorem addr_spot {w : World} {a : Addr} {v : Value} (h : w.cell? a = some v) : a = ⟨a.block, a.off, none⟩ := by
  unfold World.cell? at h
  split at h
  · split at h
    · cases h
    · rename_i hs
      cases a with
      | mk b o s =>
        cases s with
        | none => rfl
        | some _ => simp at hs
  · cases h

section

variable {H : Type} {enc : TypeId × Value → H} {P : Program} {c : Nums} {s : SN} {w : World} {B : DataW H → Nat} {BA : List (DataW H) → Nat}

theorem bulk_len (L : BulkLaws B BA) : ∀ l : List (DataW H), l.length ≤ BA l
  | [] => by simp
  | d :: r => by
    have := L.pos d
    have := bulk_len L r
    rw [L.cons, List.length_cons]
    omega

/-- Octets of an argument. -/
theorem open_octets (S : SpFacts P c s) (T : RowTypes P c) (L : BulkLaws B BA) {fuel : Nat} {cs : List Value} {x : DataW H × List MemPlace} (h : DataW.trod enc P w 0 (fun _ => true) true fuel c.tBytes cs = some x) :
    ∃ v l, cs = [v] ∧ Ro w v 1 l.length (bcells l) ∧ l.length + 1 ≤ B x.1 := by
  have hc := T.cells
  simp only [List.cons.injEq] at hc
  rcases open_ints S.rd.bytes S.rd.u8 hc.2.2.2.2.2.2.1 h with ⟨rfl, rfl⟩ | ⟨a, len, cap, zs, rfl, _, hle, hmx, hzl, rfl, hcell, hwf⟩
  · exact ⟨_, [], rfl, Ro.nil w 1, L.pos _⟩
  · simp only [if_true] at hzl
    have hz8 : ∀ z ∈ zs, ∃ m : Nat, z = m ∧ m < 256 := fun z hz => lit_u8 (hwf z hz)
    refine ⟨_, (zs.take len).map fun z => UInt8.ofNat z.toNat, rfl, ?_, ?_⟩
    · have hlen : ((zs.take len).map fun z => UInt8.ofNat z.toNat).length = len := by rw [List.length_map, List.length_take]; omega
      refine ⟨by rw [bcells_length]; omega, ?_⟩
      rw [hlen]
      by_cases h0 : len = 0
      · exact .inl ⟨h0, _, _, by rw [h0]⟩
      · have hz0 : 0 < zs.length := by omega
        have e0 := hcell 0 hz0
        have ha0 : a.add 0 = a := by simp [Addr.add]
        rw [ha0] at e0
        have hsp := addr_spot e0
        refine .inr ⟨a.block, a.off, cap, by rw [← hsp], cell_block e0, hle, fun i hi => ?_⟩
        have hi' : i < zs.length := by omega
        have e1 := hcell i hi'
        rw [hsp, addr_add] at e1
        rw [e1]
        obtain ⟨m, hm, hlt⟩ := hz8 zs[i] (List.getElem_mem _)
        simp only [bcells, List.getElem?_map, List.getElem?_take, show i < len by omega, if_true, List.getElem?_eq_getElem hi', Option.map_some, List.getD_eq_getElem?_getD, Option.getD_some, hm, Int.toNat_natCast]
        congr 2
        have : (UInt8.ofNat m).toNat = m := by rw [UInt8.toNat_ofNat']; omega
        rw [this]
    · rw [L.slice]
      have := bulk_len L (lits .u8 (zs.take len))
      have e : (lits (H := H) .u8 (zs.take len)).length = (zs.take len).length := by simp [lits]
      rw [List.length_map]
      omega

/-- Elements of an argument's slice, one after another. -/
theorem open_elems {e sz fuel : Nat} {a : Addr} {len : Nat} {elems : List (DataW H × List MemPlace)} (hsz : P.cellsOf e = sz) (hlen : elems.length = len)
    (hel : ∀ i, i < len → (w.cells? 0 (a.add (i * P.cellsOf e)) (P.cellsOf e)).bind (DataW.trod enc P w 0 (fun _ => true) true fuel e) = elems[i]?) :
    ∀ i (hi : i < elems.length), ∃ cs, cs.length = sz ∧ (∀ q, q < sz → w.cell? ((a.add (i * sz)).add q) = cs[q]?) ∧ DataW.trod enc P w 0 (fun _ => true) true fuel e cs = some elems[i] := by
  intro i hi
  have h := hel i (by omega)
  rw [List.getElem?_eq_getElem hi, Option.bind_eq_some_iff] at h
  obtain ⟨cs, h1, h2⟩ := h
  obtain ⟨_, h3, h4⟩ := World.cells?_some h1
  rw [hsz] at h3 h4
  exact ⟨cs, h3, h4, h2⟩

theorem bulk_take (L : BulkLaws B BA) (l : List (DataW H)) {j : Nat} (hj : j < l.length) : BA (l.take (j + 1)) = BA (l.take j) + B l[j] := by
  induction l generalizing j with
  | nil => simp at hj
  | cons d r ih =>
    cases j with
    | zero => simp [L.cons, L.nil]
    | succ j =>
      rw [List.take_succ_cons, L.cons, ih (by simpa using hj), List.take_succ_cons, L.cons, List.getElem_cons_succ]
      omega

/-- Rows of elements, joined. -/
theorem open_row' {sz : Nat} {X : Type} {C : List X → List Value → Prop} {W : List X → Nat} (L : BulkLaws B BA) (hsz : 0 < sz) {a : Addr} {elems : List (DataW H × List MemPlace)} (hC0 : C [] []) (hW0 : W [] = 0)
    (hC : ∀ xs cs i (hi : i < elems.length), xs.length = i → C xs cs → (∀ q, q < i * sz → w.cell? (a.add q) = cs[q]?) → cs.length = i * sz → W xs ≤ BA ((elems.map (·.1)).take i) → ∃ y ys, C (xs ++ [y]) (cs ++ ys) ∧ ys.length = sz ∧ (∀ q, q < sz → w.cell? ((a.add (i * sz)).add q) = ys[q]?) ∧ W (xs ++ [y]) ≤ W xs + B elems[i].1) :
    ∀ k, k ≤ elems.length → ∃ xs cs, xs.length = k ∧ C xs cs ∧ cs.length = k * sz ∧ (∀ q, q < k * sz → w.cell? (a.add q) = cs[q]?) ∧ W xs ≤ BA ((elems.map (·.1)).take k)
  | 0, _ => ⟨[], [], rfl, hC0, by simp, fun q hq => by simp at hq, by rw [hW0]; omega⟩
  | k + 1, hk => by
    obtain ⟨xs, cs, h1, h2, h3, h4, h5⟩ := open_row' L hsz hC0 hW0 hC k (by omega)
    obtain ⟨y, ys, g1, g2, g3, g4⟩ := hC xs cs k (by omega) h1 h2 h4 h3 h5
    refine ⟨xs ++ [y], cs ++ ys, by rw [List.length_append, h1]; rfl, g1, by rw [List.length_append, h3, g2, Nat.add_mul]; omega, fun q hq => ?_, ?_⟩
    · by_cases hq2 : q < k * sz
      · rw [List.getElem?_append_left (by omega)]
        exact h4 q hq2
      · rw [List.getElem?_append_right (by omega), h3]
        have h6 : q - k * sz < sz := by rw [Nat.add_mul] at hq; omega
        have h7 := g3 (q - k * sz) h6
        rw [← h7]
        congr 1
        have hsp : ∃ b o, a.add (k * sz) = ⟨b, o, none⟩ ∧ ∀ r, a.add (k * sz + r) = ⟨b, o + r, none⟩ := by
          have h8 := g3 0 hsz
          have h9 : ys[0]? ≠ none := by rw [List.getElem?_eq_getElem (by omega)]; simp
          cases hv : w.cell? ((a.add (k * sz)).add 0) with
          | none => rw [hv] at h8; exact absurd h8.symm h9
          | some v =>
            have e0 : (a.add (k * sz)).add 0 = a.add (k * sz) := by simp [Addr.add]
            rw [e0] at hv
            have hs := addr_spot hv
            refine ⟨(a.add (k * sz)).block, (a.add (k * sz)).off, hs, fun r => ?_⟩
            by_cases hk0 : k * sz = 0
            · rw [hk0, Nat.zero_add]
              have e1 : a.add 0 = a := by simp [Addr.add]
              rw [hk0, e1] at hs
              rw [e1]
              rw [hs, addr_add]
            · have e2 : a.add (k * sz + r) = { a with off := a.off + (k * sz + r), spot := none } := by simp [Addr.add]; omega
              have e3 : a.add (k * sz) = { a with off := a.off + k * sz, spot := none } := by simp [Addr.add, hk0]
              rw [e2, e3]
              simp only [Nat.add_assoc]
        obtain ⟨b, o, e1, e2⟩ := hsp
        rw [e1, addr_add, show q = k * sz + (q - k * sz) by omega, e2]
        congr 1
        omega
    · rw [bulk_take L _ (by simpa using by omega)]
      simp only [List.getElem_map]
      omega

theorem bulk_mem (L : BulkLaws B BA) {d : DataW H} : ∀ {l : List (DataW H)}, d ∈ l → B d ≤ BA l
  | [], h => by cases h
  | y :: l, h => by
    rw [L.cons]
    rcases List.mem_cons.1 h with rfl | h
    · omega
    · have := bulk_mem L h
      omega

theorem TreesC.append : ∀ {a b : List PT} {x y : List Value}, TreesC w a x → TreesC w b y → TreesC w (a ++ b) (x ++ y)
  | [], b, x, y, h1, h2 => by simp only [TreesC] at h1; subst h1; exact h2
  | t :: a, b, x, y, ⟨c1, c2, e, h1, h3⟩, h2 => ⟨c1, c2 ++ y, by rw [e, List.append_assoc], h1, TreesC.append h3 h2⟩

/-- Cells that a slice shows. -/
theorem ro_of_cells {a : Addr} {len cap sz : Nat} {cs : List Value} (hsz : 0 < sz) (hl : cs.length = len * sz) (hc : len ≤ cap) (h : ∀ q, q < len * sz → w.cell? (a.add q) = cs[q]?) : Ro w (.slice (some a) len cap) sz len cs := by
  refine ⟨hl, ?_⟩
  by_cases h0 : len = 0
  · exact .inl ⟨h0, _, _, by rw [h0]⟩
  · have hpos : 0 < len * sz := Nat.mul_pos (by omega) hsz
    have e0 := h 0 hpos
    have ha0 : a.add 0 = a := by simp [Addr.add]
    rw [ha0, List.getElem?_eq_getElem (by omega)] at e0
    have hsp := addr_spot e0
    refine .inr ⟨a.block, a.off, cap, by rw [← hsp], cell_block e0, hc, fun i hi => ?_⟩
    have e1 := h i hi
    rwa [hsp, addr_add] at e1

theorem wf_u32 {n : Int} (h : (Lit.int .u32 n).wf = true) : ∃ m : Nat, n = m ∧ m < 4294967296 := by
  simp only [Lit.wf, Bool.and_eq_true, decide_eq_true_eq] at h
  have e1 : IntKind.u32.min = 0 := rfl
  have e2 : IntKind.u32.max = 4294967295 := rfl
  rw [e1, e2] at h
  exact ⟨n.toNat, by omega, by omega⟩

theorem wf_i64 {n : Int} (h : (Lit.int .i64 n).wf = true) : IntKind.i64.wrap n = n := by
  simp only [Lit.wf, Bool.and_eq_true, decide_eq_true_eq] at h
  have e1 : IntKind.i64.min = -9223372036854775808 := rfl
  have e2 : IntKind.i64.max = 9223372036854775807 := rfl
  rw [e1, e2] at h
  exact i64_small (by omega) (by omega)

/-- A tag of an argument. -/
theorem open_tag (S : SpFacts P c s) (T : RowTypes P c) (L : BulkLaws B BA) {fuel : Nat} {cs : List Value} {x : DataW H × List MemPlace} (h : DataW.trod enc P w 0 (fun _ => true) true fuel c.sTag cs = some x) :
    ∃ q : Nat × List UInt8, TagsC w [q] cs ∧ q.1 < 4294967296 ∧ 3 + q.2.length ≤ B x.1 := by
  have hc := T.cells
  simp only [List.cons.injEq] at hc
  obtain ⟨c1, c2, c3, c4, c5, c6, c7, c8, c9, _⟩ := hc
  obtain ⟨xs, n, rfl, hx1, hlen, hxl, hget⟩ := struct_parts T.tag h
  rw [c9] at hlen
  match xs, hxl with
  | [y0, y1], _ =>
  match cs, hlen with
  | [v0, v1], _ =>
  have h0 := hget 0 (c.tU32, 0) rfl
  have h1 := hget 1 (c.tBytes, 1) rfl
  rw [c6] at h0
  rw [c2] at h1
  obtain ⟨n0, e0, hy0, w0⟩ := DataW.trod_int S.rd.u32 (show _ = some y0 from h0)
  obtain ⟨v, l, e1, hro, hb⟩ := open_octets S T L (show _ = some y1 from h1)
  obtain ⟨m, rfl, hm⟩ := wf_u32 w0
  simp at e0 e1
  subst e0
  subst e1
  refine ⟨(m, l), ⟨v1, [], rfl, hro, rfl⟩, hm, ?_⟩
  rw [hx1, L.agg]
  simp only [List.map_cons, List.map_nil, L.cons, L.nil]
  have := L.pos y0.1
  omega

/-- A tree of an argument. -/
theorem open_tree (S : SpFacts P c s) (T : RowTypes P c) (L : BulkLaws B BA) : ∀ (fuel : Nat) {cs : List Value} {x : DataW H × List MemPlace}, DataW.trod enc P w 0 (fun _ => true) true fuel c.sTree cs = some x → B x.1 < 4294967296 →
    ∃ t : PT, TreeC w t cs ∧ t.ok ∧ t.wt ≤ B x.1 := by
  intro fuel
  induction fuel using Nat.strongRecOn with
  | ind fuel ih =>
  intro cs x h hB
  have hc := T.cells
  simp only [List.cons.injEq] at hc
  obtain ⟨c1, c2, c3, c4, c5, c6, c7, c8, c9, _⟩ := hc
  obtain ⟨xs, n, rfl, hx1, hlen, hxl, hget⟩ := struct_parts T.tree h
  rw [c8] at hlen
  match xs, hxl with
  | [y0, y1, y2, y3, y4], _ =>
  match cs, hlen with
  | [v0, v1, v2, v3, v4], _ =>
  have h0 := hget 0 (c.tI64, 0) rfl
  have h1 := hget 1 (c.tBytes, 1) rfl
  have h2 := hget 2 (c.tBool, 2) rfl
  have h3 := hget 3 (c.sTrees, 3) rfl
  have h4 := hget 4 (c.sTagL, 4) rfl
  rw [c1] at h0
  rw [c2] at h1
  rw [c3] at h2
  rw [c4] at h3
  rw [c5] at h4
  rw [hx1, L.agg] at hB ⊢
  simp only [List.map_cons, List.map_nil, L.cons, L.nil] at hB ⊢
  obtain ⟨n0, e0, hy0, w0⟩ := DataW.trod_int S.ty.i64 (show _ = some y0 from h0)
  obtain ⟨sv, l, e1, hro, hb1⟩ := open_octets S T L (show _ = some y1 from h1)
  obtain ⟨b, e2, hy2⟩ := DataW.trod_bool S.ty.bool (show _ = some y2 from h2)
  simp at e0 e1 e2
  subst e0
  subst e1
  subst e2
  have p0 := L.pos y0.1
  have p2 := L.pos y2.1
  -- the things
  obtain ⟨tl, lcs, hl1, hl2, hl3, hl4⟩ : ∃ (tl : List PT) (lcs : List Value), Ro w v3 5 tl.length lcs ∧ TreesC w tl lcs ∧ (∀ t ∈ tl, t.ok) ∧ PT.wts tl + 1 ≤ B y3.1 := by
    rcases DataW.trod_slice S.ty.sl (show _ = some y3 from h3) with ⟨e3, rfl⟩ | ⟨a, len, cap, elems, rest, m, hm, e3, rfl, _, hle, _, hel0, hel, _⟩
    · simp at e3
      subst e3
      exact ⟨[], [], Ro.nil w 5, rfl, (fun t ht => by cases ht), L.pos _⟩
    · simp at e3
      subst e3
      have hE := open_elems (e := c.sTree) (sz := 5) (len := len) c8 hel0 hel
      simp only at hB ⊢
      rw [L.slice] at hB ⊢
      obtain ⟨tl, lcs, k1, k2, k3, k4, k5⟩ := open_row' (w := w) (sz := 5) (X := PT) (C := fun ts cs => TreesC w ts cs ∧ ∀ t ∈ ts, t.ok) (W := PT.wts) L (by omega) (a := a) (elems := elems) ⟨rfl, fun t ht => by cases ht⟩ rfl (by
        intro ts cs i hi _ hC _ _ _
        obtain ⟨ys, g1, g2, g3⟩ := hE i hi
        have hbm : B elems[i].1 ≤ BA (elems.map (·.1)) := bulk_mem L (List.mem_map.2 ⟨_, List.getElem_mem hi, rfl⟩)
        obtain ⟨t, t1, t2, t3⟩ := ih m (by omega) g3 (by omega)
        refine ⟨t, ys, ⟨TreesC.append hC.1 ⟨ys, [], by simp, t1, rfl⟩, fun u hu => ?_⟩, g1, g2, ?_⟩
        · rcases List.mem_append.1 hu with hu | hu
          · exact hC.2 u hu
          · simp only [List.mem_singleton] at hu; subst hu; exact t2
        · rw [PT.wts_append]
          simp only [PT.wts]
          omega) elems.length (Nat.le_refl _)
      rw [List.take_of_length_le (by simp)] at k5
      refine ⟨tl, lcs, ?_, k2.1, k2.2, by omega⟩
      rw [k1, hel0]
      rw [hel0] at k3 k4
      exact ro_of_cells (by omega) k3 hle k4
  obtain ⟨ul, ucs, hu1, hu2, hu3, hu4, hu5⟩ : ∃ (ul : TM) (ucs : List Value), Ro w v4 2 ul.length ucs ∧ TagsC w ul ucs ∧ (∀ p ∈ ul, p.1 < 4294967296) ∧ tagsWt ul + 1 ≤ B y4.1 ∧ ul.length ≤ tagsWt ul := by
    rcases DataW.trod_slice S.ty.slTag (show _ = some y4 from h4) with ⟨e3, rfl⟩ | ⟨a, len, cap, elems, rest, m, hm, e3, rfl, _, hle, _, hel0, hel, _⟩
    · simp at e3
      subst e3
      exact ⟨[], [], Ro.nil w 2, rfl, (fun t ht => by cases ht), L.pos _, Nat.le_refl _⟩
    · simp at e3
      subst e3
      have hE := open_elems (e := c.sTag) (sz := 2) (len := len) c9 hel0 hel
      simp only at hB ⊢
      rw [L.slice] at hB ⊢
      obtain ⟨tl, lcs, k1, k2, k3, k4, k5⟩ := open_row' (w := w) (sz := 2) (X := Nat × List UInt8) (C := fun ts cs => TagsC w ts cs ∧ (∀ p ∈ ts, p.1 < 4294967296) ∧ ts.length ≤ tagsWt ts) (W := tagsWt) L (by omega) (a := a) (elems := elems) ⟨rfl, (fun t ht => by cases ht), Nat.le_refl _⟩ rfl (by
        intro ts cs i hi _ hC _ _ _
        obtain ⟨ys, g1, g2, g3⟩ := hE i hi
        obtain ⟨q, t1, t2, t3⟩ := open_tag S T L g3
        refine ⟨q, ys, ⟨TagsC.append hC.1 t1, fun u hu => ?_, ?_⟩, g1, g2, ?_⟩
        · rcases List.mem_append.1 hu with hu | hu
          · exact hC.2.1 u hu
          · simp only [List.mem_singleton] at hu; subst hu; exact t2
        · have := hC.2.2
          rw [tagsWt_append, List.length_append]
          simp only [tagsWt, List.length_singleton]
          omega
        · rw [tagsWt_append]
          simp only [tagsWt]
          omega) elems.length (Nat.le_refl _)
      rw [List.take_of_length_le (by simp)] at k5
      refine ⟨tl, lcs, ?_, k2.1, k2.2.1, by omega, k2.2.2⟩
      rw [k1, hel0]
      rw [hel0] at k3 k4
      exact ro_of_cells (by omega) k3 hle k4
  have hwl : tl.length ≤ PT.wts tl := by
    clear hl1 hl2 hl3 hl4
    induction tl with
    | nil => simp [PT.wts]
    | cons t r ihr =>
      have : 1 ≤ t.wt := by cases t; simp only [PT.wt]; omega
      simp only [PT.wts, List.length_cons]
      omega
  refine ⟨.mk n0 l b tl ul, ⟨v1, v3, v4, lcs, ucs, rfl, hro, hl1, hl2, hu1, hu2, by omega, by omega, by omega⟩, ⟨wf_i64 w0, hu3, PT.oks_of hl3⟩, ?_⟩
  simp only [PT.wt]
  omega

end

end Go.Kf

namespace Go.Kf

open Go Go.ChangeShapes Go.WideShapes Go.RowKit

theorem below_keeps {w w' : World} (h : Keeps [] w w') : Below w.heap.size w w' := ⟨h.os, h.tape, h.output, h.size, fun k hk => h.block k hk (by simp)⟩

theorem law_rowT {H : Type} {enc : TypeId × Value → H} {P : Program} {c : Nums} {sn : SN} {fn : Func} {s : ChangeSpec} {tU tB : Nat} {B : DataW H → Nat} {BA : List (DataW H) → Nat} (S : SpFacts P c sn) (T : RowTypes P c) (L : BulkLaws B BA)
    (hp : fn.params = #[tU, c.sTree]) (hr : fn.resultTypes = #[tB]) (hu : P.underlying tU = some (.int .u8)) (hb : P.underlying tB = some .bool)
    (hs : ∀ (H : Type) (d1 d2 : DataW H), s.fn H [d1, d2] = { results := [.lit (.bool true)], args := [d1, d2] }) (hvs : s.vars = []) {W : World} {base : Nat} {args : Array Value} {ds gs : List (DataW H)} {before : List MemPlace}
    (hval : ∀ (j : Nat) t v, fn.params[j]? = some t → args[j]? = some v → Value.okWide P W .any base t v) (hW : DataW.Whole enc P fn.params.toList s.vars false W args.toList ds gs before) (hB : BA (ds ++ gs) ≤ 1048576) :
    ∃ (n : Nat) (t : PT) (ts : List Value), n < 256 ∧ args = #[.int .u8 n, .agg ⟨ts⟩] ∧ TreeC W t ts ∧ t.ok ∧ t.wt ≤ 1048576 ∧ ∀ W', Keeps [] W W' → s.post enc P fn false true false false W args (.bool true) W' := by
  have hlt := hW.lt
  have hW0 := hW
  obtain ⟨p, q, hA, hV, rfl, hfz, hnd⟩ := hW
  rw [hvs] at hV
  obtain ⟨rfl, rfl⟩ := trodVars_none hV
  rw [hp] at hA hval
  obtain ⟨v0, vs0, d0, ds0, p0, q0, hargs, rfl, rfl, h0, r0⟩ := trodAll_cons hA
  obtain ⟨v1, vs1, d1, ds1, p1, q1, rfl, rfl, rfl, h1, r1⟩ := trodAll_cons r0
  obtain ⟨rfl, rfl, rfl⟩ := trodAll_nil r1
  obtain rfl : args = #[v0, v1] := by cases args; simp_all
  obtain ⟨n0, rfl, rfl, rfl, hw0⟩ := open_int hu (hval 0 tU v0 rfl rfl) h0
  obtain ⟨n, rfl, hn⟩ := lit_u8 hw0
  obtain ⟨fs, hfs, _⟩ := struct_of T.tree
  obtain ⟨cs, rfl, _⟩ := okWide_struct hfs (hval 1 c.sTree v1 rfl rfl)
  simp only [List.append_nil, L.cons, L.nil] at hB
  obtain ⟨fuel, hf⟩ := id h1
  obtain ⟨ts⟩ := cs
  obtain ⟨t, ht, hok, hwt⟩ := open_tree S T L fuel (x := (d1, p1)) hf (by show B d1 < _; omega)
  have hwt : t.wt ≤ B d1 := hwt
  refine ⟨n, t, ts, hn, rfl, ht, hok, by omega, fun W' hk => ?_⟩
  refine ⟨_, _, _, [], [] ++ (p1 ++ []), [], hW0, ?_, ?_, ?_, ?_, fun h => by cases h⟩
  · rw [List.append_nil, hs, hr]
    exact trodAll_cons_mk (shut_bool hb _) trodAll_mk0
  · rw [List.append_nil, hs, hp]
    refine trodAll_cons_mk ⟨1, trod_int_mk 0 hu hw0⟩ (trodAll_cons_mk (Below.trod T.laid T.rr T.row h1 (below_keeps hk) fun x hx => hlt x (by simpa using hx)) trodAll_mk0)
  · rw [hvs, List.append_nil, hs]; rfl
  · exact World.keptBut_mono (fun p hp => ⟨hp, .inr (.inl (by simpa using hp))⟩) (keptBut_keeps hk _)

end Go.Kf

namespace Go.Kf

open Go

theorem beFrom_eq : ∀ (l : List UInt8) (a : Nat), Lib.beFrom a l = a * 256 ^ l.length + Lib.beNat l
  | [], a => by simp [Lib.beNat, Lib.beFrom]
  | b :: l, a => by
    have e1 : Lib.beFrom a (b :: l) = Lib.beFrom (a * 256 + b.toNat) l := rfl
    have e2 : Lib.beNat (b :: l) = Lib.beFrom (0 * 256 + b.toNat) l := rfl
    rw [e1, e2, beFrom_eq l, beFrom_eq l (0 * 256 + b.toNat), List.length_cons, Nat.pow_succ]
    simp only [Nat.zero_mul, Nat.zero_add, Nat.add_mul, Nat.add_assoc]
    congr 1
    rw [Nat.mul_assoc, Nat.mul_comm 256]

theorem emod_split (n d : Int) (hd : 0 < d) : n % (d * 256) = (n / d % 256) * d + n % d := by
  have h1 := Int.emod_add_mul_ediv n d
  have h2 := Int.emod_add_mul_ediv (n / d) 256
  have h3 := Int.emod_nonneg n (show d ≠ 0 by omega)
  have h4 := Int.emod_lt_of_pos n hd
  have h5 := Int.emod_nonneg (n / d) (show (256 : Int) ≠ 0 by omega)
  have h6 := Int.emod_lt_of_pos (n / d) (show (0 : Int) < 256 by omega)
  have h7 : n = (n / d % 256) * d + n % d + d * 256 * (n / d / 256) := by
    calc n = n % d + d * (n / d) := h1.symm
      _ = n % d + d * (n / d % 256 + 256 * (n / d / 256)) := by rw [h2]
      _ = (n / d % 256) * d + n % d + d * 256 * (n / d / 256) := by rw [Int.mul_add, Int.mul_comm d (n / d % 256), ← Int.mul_assoc]; omega
  have h8 : (n / d % 256) * d ≤ 255 * d := Int.mul_le_mul_of_nonneg_right (by omega) (by omega)
  have h9 : 0 ≤ (n / d % 256) * d := Int.mul_nonneg h5 (by omega)
  conv => lhs; rw [h7]
  rw [Int.add_mul_emod_self_left, Int.emod_eq_of_lt (by omega) (by omega)]

theorem octOf_toNat (n : Int) (k : Nat) : ((octOf n k).toNat : Int) = n / 2 ^ (8 * k) % 256 := by
  unfold octOf
  have h5 := Int.emod_nonneg (n / 2 ^ (8 * k)) (show (256 : Int) ≠ 0 by omega)
  have h6 := Int.emod_lt_of_pos (n / 2 ^ (8 * k)) (show (0 : Int) < 256 by omega)
  rw [UInt8.toNat_ofNat']
  omega

theorem beNat_fixed (n : Int) : ∀ k : Nat, ((Lib.beNat (pFixed n k) : Nat) : Int) = n % 2 ^ (8 * k)
  | 0 => by simp [pFixed, Lib.beNat, Lib.beFrom, Int.emod_one]
  | k + 1 => by
    have hp : (0 : Int) < 2 ^ (8 * k) := Int.pow_pos (by omega)
    have e1 : (2 : Int) ^ (8 * (k + 1)) = 2 ^ (8 * k) * 256 := by rw [Nat.mul_add, Int.pow_add]; rfl
    have e2 : ((256 ^ k : Nat) : Int) = 2 ^ (8 * k) := by
      rw [Int.pow_mul]
      simp
    rw [pFixed, Lib.beNat, Lib.beFrom, beFrom_eq, pFixed_length, e1, emod_split n _ hp, ← octOf_toNat, ← beNat_fixed n k, ← e2]
    simp

theorem rFix_fixed (n : Int) (N : Nat) (rest : List UInt8) (nl : Bool) : rFix N ⟨pFixed n N ++ rest, false, nl⟩ = ((n % 2 ^ (8 * N)).toNat, ⟨rest, false, nl⟩) := by
  have hl := pFixed_length n N
  unfold rFix
  rw [if_neg (by simp only [List.length_append]; omega)]
  simp only [List.take_left' hl, List.drop_left' hl, ← beNat_fixed n N, Int.toNat_natCast]

theorem pUvN_pos (k n : Nat) : 1 ≤ (pUvN k n).length := by
  cases k with
  | zero => simp [pUvN]
  | succ k => rw [pUvN]; split <;> simp

theorem uvarAt_pUvN : ∀ (k i x n : Nat) (rest : List UInt8), i ≤ 4 → 4 ≤ k + i → n < 2 ^ (32 - 7 * i) → uvarAt i x (pUvN k n ++ rest) = (x + n * 2 ^ (7 * i), ((i + (pUvN k n).length : Nat) : Int)) := by
  intro k
  induction k with
  | zero =>
    intro i x n rest hi hk hn
    obtain rfl : i = 4 := by omega
    have hn : n < 16 := hn
    have e : (UInt8.ofNat n).toNat = n := by rw [UInt8.toNat_ofNat']; omega
    simp only [pUvN, List.singleton_append, uvarAt, if_true, e, if_pos (show n ≤ 15 by omega), List.length_singleton]
    rfl
  | succ k ih =>
    intro i x n rest hi hk hn
    by_cases h4 : i = 4
    · subst h4
      have hn : n < 16 := hn
      have e : (UInt8.ofNat n).toNat = n := by rw [UInt8.toNat_ofNat']; omega
      simp only [pUvN, if_neg (show ¬ 127 < n by omega), List.singleton_append, uvarAt, if_true, e, if_pos (show n ≤ 15 by omega), List.length_singleton]
      rfl
    · by_cases h : 127 < n
      · have e : (UInt8.ofNat (n % 128 + 128)).toNat = n % 128 + 128 := by rw [UInt8.toNat_ofNat']; omega
        have hp : (2 : Nat) ^ (32 - 7 * i) = 2 ^ (32 - 7 * (i + 1)) * 128 := by
          rw [show 32 - 7 * i = 32 - 7 * (i + 1) + 7 by omega, Nat.pow_add]
        have hp2 : (2 : Nat) ^ (7 * (i + 1)) = 128 * 2 ^ (7 * i) := by
          rw [show 7 * (i + 1) = 7 + 7 * i by omega, Nat.pow_add]
        have hdiv : n / 128 < 2 ^ (32 - 7 * (i + 1)) := by
          rw [hp] at hn
          exact Nat.div_lt_of_lt_mul (by rw [Nat.mul_comm]; exact hn)
        simp only [pUvN, if_pos h, List.cons_append, uvarAt, if_neg h4, e, if_neg (show ¬ n % 128 + 128 < 128 by omega)]
        have hm : (n % 128 + 128) % 128 = n % 128 := by omega
        rw [hm, ih (i + 1) _ _ rest (by omega) (by omega) hdiv, hp2, List.length_cons]
        have hs : n % 128 * 2 ^ (7 * i) + n / 128 * (128 * 2 ^ (7 * i)) = n * 2 ^ (7 * i) := by
          rw [← Nat.mul_assoc, ← Nat.add_mul]
          congr 1
          omega
        rw [Nat.add_assoc, hs]
        congr 2
        omega
      · have e : (UInt8.ofNat n).toNat = n := by rw [UInt8.toNat_ofNat']; omega
        simp only [pUvN, if_neg h, List.singleton_append, uvarAt, if_neg h4, e, if_pos (show n < 128 by omega), List.length_singleton]

theorem rUv_pUv (n : Nat) (h : n < 4294967296) (rest : List UInt8) (nl : Bool) : rUv ⟨pUv n ++ rest, false, nl⟩ = (n, ⟨rest, false, nl⟩) := by
  have h1 : uvar (pUv n ++ rest) = (n, (((pUv n).length : Nat) : Int)) := by
    unfold uvar pUv
    rw [uvarAt_pUvN 10 0 0 n rest (by omega) (by omega) h]
    simp
  have h2 : 1 ≤ (pUv n).length := pUvN_pos 10 n
  unfold rUv
  simp only [h1]
  rw [if_neg (by omega), Int.toNat_natCast, List.drop_left' rfl]

theorem rSpan_left (s rest : List UInt8) (nl : Bool) (m : Int) (hm : m = s.length) : rSpan m ⟨s ++ rest, false, nl⟩ = ((s, nl), ⟨rest, false, nl⟩) := by
  unfold rSpan
  subst hm
  rw [if_neg (by simp only [List.length_append]; omega), Int.toNat_natCast, List.take_left' rfl, List.drop_left' rfl]

theorem pWhole_length (l : List UInt8) : (pWhole l).length ≤ 32767 := by unfold pWhole; rw [List.length_take]; omega

theorem wrap_i8_mod (n : Int) : IntKind.i8.wrap ((n % 2 ^ (8 * 1)).toNat : Int) = IntKind.i8.wrap n := by
  simp only [IntKind.wrap, IntKind.bits, IntKind.signed]; simp; omega

theorem wrap_i16_mod (n : Int) : IntKind.i16.wrap ((n % 2 ^ (8 * 2)).toNat : Int) = IntKind.i16.wrap n := by
  simp only [IntKind.wrap, IntKind.bits, IntKind.signed]; simp; omega

theorem wrap_i32_mod (n : Int) : IntKind.i32.wrap ((n % 2 ^ (8 * 4)).toNat : Int) = IntKind.i32.wrap n := by
  simp only [IntKind.wrap, IntKind.bits, IntKind.signed]; simp; omega

theorem wrap_i64_mod (n : Int) : IntKind.i64.wrap ((n % 2 ^ (8 * 8)).toNat : Int) = IntKind.i64.wrap n := by
  simp only [IntKind.wrap, IntKind.bits, IntKind.signed]; simp; omega

theorem wrap_u16_mod (n : Int) : IntKind.u16.wrap ((n % 2 ^ (8 * 2)).toNat : Int) = IntKind.u16.wrap n := by
  simp only [IntKind.wrap, IntKind.bits, IntKind.signed]; simp; omega

theorem wrap_i16_small (n : Nat) (h : n ≤ 32767) : IntKind.i16.wrap (n : Int) = n := by
  simp only [IntKind.wrap, IntKind.bits, IntKind.signed]; simp; omega

theorem wrap_i32_small (n : Nat) (h : n ≤ 32767) : IntKind.i32.wrap (n : Int) = n := by
  simp only [IntKind.wrap, IntKind.bits, IntKind.signed]; simp; omega

/-- Does a function of the reader read what is written of such a kind? -/
def pkFor (kind : Int) (may fl : Bool) : PK → Bool
  | .num N k => !may && ((decide (kind = 1) && decide (N = 1) && decide (k = .i8)) || (decide (kind = 2) && decide (N = 2) && decide (k = .i16)) || (decide (kind = 3) && decide (N = 4) && decide (k = .i32)) || (decide (kind = 4) && decide (N = 8) && decide (k = .i64)) || (decide (kind = 5) && decide (N = 2) && decide (k = .u16)))
  | .bool => !may && decide (kind = 0)
  | .str => decide (kind = 8) && !may && !fl
  | .cstr => decide (kind = 8) && !may && fl
  | .nstr => decide (kind = 8) && may && !fl
  | .cnstr => decide (kind = 8) && may && fl
  | .bytes => decide (kind = 9) && !may && !fl
  | .cbytes => decide (kind = 9) && !may && fl
  | .nbytes => decide (kind = 9) && !fl
  | .cnbytes => decide (kind = 9) && fl
  | .uuid => !may && decide (kind = 7)
  | .tags => false

/-- What is read then. -/
def valOf (null : Bool) (t : PT) : PK → FV
  | .num _ k => .one (.int k (k.wrap t.n))
  | .bool => .one (.bool (t.n % 2 != 0))
  | .str => .text (pWhole t.s)
  | .cstr => .text (pWhole t.s)
  | .nstr => .ntext (if null then none else some (pWhole t.s))
  | .cnstr => .ntext (if null then none else some (pWhole t.s))
  | .bytes => .octs false (pWhole t.s)
  | .cbytes => .octs false (pWhole t.s)
  | .nbytes => .octs null (if null then [] else pWhole t.s)
  | .cnbytes => .octs null (if null then [] else pWhole t.s)
  | .uuid => .uuid (pId t.s)
  | .tags => .tags []

theorem pId_length (s : List UInt8) : (pId s).length = 16 := by unfold pId; rw [List.length_take, List.length_append, List.length_replicate]; omega

theorem PK.reads {kind : Int} {may fl : Bool} {pk : PK} (h : pkFor kind may fl pk = true) (t : PT) {null : Bool} (hn : null = true → may = true) (pp : PT → List UInt8) (rest : List UInt8) :
    pk.run ⟨pValue pp kind null fl t ++ rest, false, false⟩ = (valOf null t pk, ⟨rest, false, false⟩) := by
  have hwl := pWhole_length t.s
  cases pk with
  | num N k =>
    simp only [pkFor, Bool.and_eq_true, Bool.or_eq_true, decide_eq_true_eq] at h
    rcases h.2 with (((⟨⟨rfl, rfl⟩, rfl⟩ | ⟨⟨rfl, rfl⟩, rfl⟩) | ⟨⟨rfl, rfl⟩, rfl⟩) | ⟨⟨rfl, rfl⟩, rfl⟩) | ⟨⟨rfl, rfl⟩, rfl⟩
    · have e : pValue pp 1 null fl t = pFixed t.n 1 := rfl
      simp only [PK.run, e, rFix_fixed, wrap_i8_mod, valOf]
    · have e : pValue pp 2 null fl t = pFixed t.n 2 := rfl
      simp only [PK.run, e, rFix_fixed, wrap_i16_mod, valOf]
    · have e : pValue pp 3 null fl t = pFixed t.n 4 := rfl
      simp only [PK.run, e, rFix_fixed, wrap_i32_mod, valOf]
    · have e : pValue pp 4 null fl t = pFixed t.n 8 := rfl
      simp only [PK.run, e, rFix_fixed, wrap_i64_mod, valOf]
    · have e : pValue pp 5 null fl t = pFixed t.n 2 := rfl
      simp only [PK.run, e, rFix_fixed, wrap_u16_mod, valOf]
  | bool =>
    simp only [pkFor, Bool.and_eq_true, decide_eq_true_eq] at h
    obtain ⟨_, rfl⟩ := h
    have e : pValue pp 0 null fl t = [UInt8.ofNat (t.n % 2).toNat] := rfl
    have e2 : (UInt8.ofNat (t.n % 2).toNat).toNat = (t.n % 2).toNat := by rw [UInt8.toNat_ofNat']; omega
    simp only [PK.run, rBool, e, rFix, List.singleton_append, List.length_cons, if_neg (show ¬ rest.length + 1 < 1 by omega), List.take_succ_cons, List.take_zero, Lib.beNat, Lib.beFrom, e2, List.drop_succ_cons, List.drop_zero, valOf]
    congr 3
    have : t.n % 2 = 0 ∨ t.n % 2 = 1 := by omega
    rcases this with h | h <;> simp [h]
  | str =>
    simp only [pkFor, Bool.and_eq_true, decide_eq_true_eq, Bool.not_eq_true'] at h
    obtain ⟨⟨rfl, rfl⟩, rfl⟩ := h
    have hnf : null = false := by cases null <;> simp_all
    subst hnf
    have e : pValue pp 8 false false t = pFixed (pWhole t.s).length 2 ++ pWhole t.s := rfl
    have e2 : rStr ⟨pFixed (pWhole t.s).length 2 ++ pWhole t.s ++ rest, false, false⟩ = (pWhole t.s, ⟨rest, false, false⟩) := by
      unfold rStr
      rw [List.append_assoc, rFix_fixed]
      simp only [wrap_i16_mod, wrap_i16_small _ hwl, rSpan_left _ _ _ _ rfl]
    simp only [PK.run, e, e2, valOf]
  | cstr =>
    simp only [pkFor, Bool.and_eq_true, decide_eq_true_eq, Bool.not_eq_true'] at h
    obtain ⟨⟨rfl, rfl⟩, rfl⟩ := h
    have hnf : null = false := by cases null <;> simp_all
    subst hnf
    have e : pValue pp 8 false true t = pUv ((pWhole t.s).length + 1) ++ pWhole t.s := rfl
    have e2 : rCStr ⟨pUv ((pWhole t.s).length + 1) ++ pWhole t.s ++ rest, false, false⟩ = (pWhole t.s, ⟨rest, false, false⟩) := by
      unfold rCStr
      rw [List.append_assoc, rUv_pUv _ (by omega)]
      simp only [rSpan_left (pWhole t.s) rest false _ (show (((pWhole t.s).length + 1 : Nat) : Int) - 1 = (pWhole t.s).length by omega)]
    simp only [PK.run, e, e2, valOf]
  | nstr =>
    simp only [pkFor, Bool.and_eq_true, decide_eq_true_eq, Bool.not_eq_true'] at h
    obtain ⟨⟨rfl, rfl⟩, rfl⟩ := h
    cases null with
    | false =>
      have e : pValue pp 8 false false t = pFixed (pWhole t.s).length 2 ++ pWhole t.s := rfl
      have e2 : rNStr ⟨pFixed (pWhole t.s).length 2 ++ pWhole t.s ++ rest, false, false⟩ = (some (pWhole t.s), ⟨rest, false, false⟩) := by
        unfold rNStr
        rw [List.append_assoc, rFix_fixed]
        simp only [wrap_i16_mod, wrap_i16_small _ hwl, rSpan_left _ _ _ _ rfl]
        rw [if_neg (by omega)]
      simp only [PK.run, e, e2, valOf, Bool.false_eq_true, if_false]
    | true =>
      have e : pValue pp 8 true false t = pFixed (-1) 2 := rfl
      have e2 : rNStr ⟨pFixed (-1) 2 ++ rest, false, false⟩ = (none, ⟨rest, false, false⟩) := by
        unfold rNStr
        rw [rFix_fixed]
        simp only [wrap_i16_mod]
        rw [if_pos (by decide)]
      simp only [PK.run, e, e2, valOf, if_true]
  | cnstr =>
    simp only [pkFor, Bool.and_eq_true, decide_eq_true_eq] at h
    obtain ⟨⟨rfl, rfl⟩, rfl⟩ := h
    cases null with
    | false =>
      have e : pValue pp 8 false true t = pUv ((pWhole t.s).length + 1) ++ pWhole t.s := rfl
      have e2 : rCNStr ⟨pUv ((pWhole t.s).length + 1) ++ pWhole t.s ++ rest, false, false⟩ = (some (pWhole t.s), ⟨rest, false, false⟩) := by
        unfold rCNStr
        rw [List.append_assoc, rUv_pUv _ (by omega)]
        simp only [rSpan_left (pWhole t.s) rest false _ (show (((pWhole t.s).length + 1 : Nat) : Int) - 1 = (pWhole t.s).length by omega)]
        rw [if_neg (by omega)]
      simp only [PK.run, e, e2, valOf, Bool.false_eq_true, if_false]
    | true =>
      have e : pValue pp 8 true true t = pUv 0 := rfl
      have e2 : rCNStr ⟨pUv 0 ++ rest, false, false⟩ = (none, ⟨rest, false, false⟩) := by
        unfold rCNStr
        rw [rUv_pUv _ (by omega)]
        simp only
        rw [if_pos (by decide)]
      simp only [PK.run, e, e2, valOf, if_true]
  | bytes =>
    simp only [pkFor, Bool.and_eq_true, decide_eq_true_eq, Bool.not_eq_true'] at h
    obtain ⟨⟨rfl, rfl⟩, rfl⟩ := h
    have hnf : null = false := by cases null <;> simp_all
    subst hnf
    have e : pValue pp 9 false false t = pFixed (pWhole t.s).length 4 ++ pWhole t.s := rfl
    have e2 : rBytes ⟨pFixed (pWhole t.s).length 4 ++ pWhole t.s ++ rest, false, false⟩ = ((pWhole t.s, false), ⟨rest, false, false⟩) := by
      unfold rBytes
      rw [List.append_assoc, rFix_fixed]
      simp only [wrap_i32_mod, wrap_i32_small _ hwl, rSpan_left _ _ _ _ rfl]
      rw [if_neg (by omega)]
    simp only [PK.run, e, e2, valOf]
  | cbytes =>
    simp only [pkFor, Bool.and_eq_true, decide_eq_true_eq, Bool.not_eq_true'] at h
    obtain ⟨⟨rfl, rfl⟩, rfl⟩ := h
    have hnf : null = false := by cases null <;> simp_all
    subst hnf
    have e : pValue pp 9 false true t = pUv ((pWhole t.s).length + 1) ++ pWhole t.s := rfl
    have e2 : rCBytes ⟨pUv ((pWhole t.s).length + 1) ++ pWhole t.s ++ rest, false, false⟩ = ((pWhole t.s, false), ⟨rest, false, false⟩) := by
      unfold rCBytes
      rw [List.append_assoc, rUv_pUv _ (by omega)]
      simp only [rSpan_left (pWhole t.s) rest false _ (show (((pWhole t.s).length + 1 : Nat) : Int) - 1 = (pWhole t.s).length by omega)]
      rw [if_neg (by omega)]
    simp only [PK.run, e, e2, valOf]
  | nbytes =>
    simp only [pkFor, Bool.and_eq_true, decide_eq_true_eq, Bool.not_eq_true'] at h
    obtain ⟨rfl, rfl⟩ := h
    cases null with
    | false =>
      have e : pValue pp 9 false false t = pFixed (pWhole t.s).length 4 ++ pWhole t.s := rfl
      have e2 : rNBytes ⟨pFixed (pWhole t.s).length 4 ++ pWhole t.s ++ rest, false, false⟩ = ((pWhole t.s, false), ⟨rest, false, false⟩) := by
        unfold rNBytes
        rw [List.append_assoc, rFix_fixed]
        simp only [wrap_i32_mod, wrap_i32_small _ hwl, rSpan_left _ _ _ _ rfl]
        rw [if_neg (by omega)]
      simp only [PK.run, e, e2, valOf, Bool.false_eq_true, if_false]
    | true =>
      have e : pValue pp 9 true false t = pFixed (-1) 4 := rfl
      have e2 : rNBytes ⟨pFixed (-1) 4 ++ rest, false, false⟩ = (([], true), ⟨rest, false, false⟩) := by
        unfold rNBytes
        rw [rFix_fixed]
        simp only [wrap_i32_mod]
        rw [if_pos (by decide)]
      simp only [PK.run, e, e2, valOf, if_true]
  | cnbytes =>
    simp only [pkFor, Bool.and_eq_true, decide_eq_true_eq] at h
    obtain ⟨rfl, rfl⟩ := h
    cases null with
    | false =>
      have e : pValue pp 9 false true t = pUv ((pWhole t.s).length + 1) ++ pWhole t.s := rfl
      have e2 : rCNBytes ⟨pUv ((pWhole t.s).length + 1) ++ pWhole t.s ++ rest, false, false⟩ = ((pWhole t.s, false), ⟨rest, false, false⟩) := by
        unfold rCNBytes
        rw [List.append_assoc, rUv_pUv _ (by omega)]
        simp only [rSpan_left (pWhole t.s) rest false _ (show (((pWhole t.s).length + 1 : Nat) : Int) - 1 = (pWhole t.s).length by omega)]
        rw [if_neg (by omega)]
      simp only [PK.run, e, e2, valOf, Bool.false_eq_true, if_false]
    | true =>
      have e : pValue pp 9 true true t = pUv 0 := rfl
      have e2 : rCNBytes ⟨pUv 0 ++ rest, false, false⟩ = (([], true), ⟨rest, false, false⟩) := by
        unfold rCNBytes
        rw [rUv_pUv _ (by omega)]
        simp only
        rw [if_pos (by decide)]
      simp only [PK.run, e, e2, valOf, if_true]
  | uuid =>
    simp only [pkFor, Bool.and_eq_true, decide_eq_true_eq] at h
    obtain ⟨_, rfl⟩ := h
    have hl := pId_length t.s
    have e : pValue pp 7 null fl t = pId t.s := rfl
    simp only [PK.run, e, rUuid, rSpan_left (pId t.s) rest false 16 (by rw [hl]; rfl), valOf, padTo, hl]
    simp [List.take_of_length_le (Nat.le_of_eq hl)]
  | tags => cases h

/-- Does a list's length so read be that which is written? -/
def lkFor (may fl : Bool) : LenK → Bool
  | .len => !may && !fl
  | .clen => !may && fl
  | .nlen => may && !fl
  | .nclen => may && fl

theorem LenK.reads {may fl : Bool} {lk : LenK} (h : lkFor may fl lk = true) {null : Bool} (hn : null = true → may = true) {n : Nat} (hnl : n ≤ 32767) (h0 : null = true → n = 0) {rest : List UInt8} (hr : n ≤ rest.length) :
    ∃ m : Int, lk.run ⟨pCounted fl null n 4 ++ rest, false, false⟩ = (m, ⟨rest, false, false⟩) ∧ m.toNat = n ∧ (may = true → lk.nilAt m = null) := by
  have k1 : ∀ m : Int, IntKind.i32.wrap ((m % 2 ^ (8 * 4)).toNat : Int) = IntKind.i32.wrap m := wrap_i32_mod
  have pos : null = false → fl = false → rLen ⟨pCounted fl null n 4 ++ rest, false, false⟩ = ((n : Int), ⟨rest, false, false⟩) := by
    rintro rfl rfl
    have e : pCounted false false n 4 = pFixed n 4 := rfl
    unfold rLen
    rw [e, rFix_fixed]
    simp only [k1, wrap_i32_small n hnl]
    rw [if_neg (by omega)]
  have neg : null = true → fl = false → rLen ⟨pCounted fl null n 4 ++ rest, false, false⟩ = (-1, ⟨rest, false, false⟩) := by
    rintro rfl rfl
    have e : pCounted false true n 4 = pFixed (-1) 4 := rfl
    have e2 : IntKind.i32.wrap (-1) = -1 := by decide
    unfold rLen
    rw [e, rFix_fixed]
    simp only [k1, e2]
    rw [if_neg (by omega)]
  have w2 : IntKind.i32.wrap (IntKind.i32.wrap ((n + 1 : Nat) : Int) - 1) = n := by
    simp only [IntKind.wrap, IntKind.bits, IntKind.signed]; simp; omega
  have cpos : null = false → fl = true → rCLen ⟨pCounted fl null n 4 ++ rest, false, false⟩ = ((n : Int), ⟨rest, false, false⟩) := by
    rintro rfl rfl
    have e : pCounted true false n 4 = pUv (n + 1) := rfl
    unfold rCLen
    rw [e, rUv_pUv _ (by omega)]
    simp only [w2]
    rw [if_neg (by omega)]
  have cneg : null = true → fl = true → rCLen ⟨pCounted fl null n 4 ++ rest, false, false⟩ = (-1, ⟨rest, false, false⟩) := by
    rintro rfl rfl
    have e : pCounted true true n 4 = pUv 0 := rfl
    have e2 : IntKind.i32.wrap (IntKind.i32.wrap ((0 : Nat) : Int) - 1) = -1 := by decide
    unfold rCLen
    rw [e, rUv_pUv _ (by omega)]
    simp only [e2]
    rw [if_neg (by omega)]
  cases lk with
  | len =>
    simp only [lkFor, Bool.and_eq_true, Bool.not_eq_true'] at h
    have hnf : null = false := by cases null <;> simp_all
    exact ⟨n, pos hnf h.2, by simp, fun hm => by rw [h.1] at hm; cases hm⟩
  | clen =>
    simp only [lkFor, Bool.and_eq_true, Bool.not_eq_true'] at h
    have hnf : null = false := by cases null <;> simp_all
    exact ⟨n, cpos hnf h.2, by simp, fun hm => by rw [h.1] at hm; cases hm⟩
  | nlen =>
    simp only [lkFor, Bool.and_eq_true, Bool.not_eq_true'] at h
    cases null with
    | false => exact ⟨n, pos rfl h.2, by simp, fun _ => by simp [LenK.nilAt, LenK.nul]⟩
    | true => exact ⟨-1, neg rfl h.2, by rw [h0 rfl]; rfl, fun _ => by simp [LenK.nilAt, LenK.nul]⟩
  | nclen =>
    simp only [lkFor, Bool.and_eq_true] at h
    cases null with
    | false => exact ⟨n, cpos rfl h.2, by simp, fun _ => by simp [LenK.nilAt, LenK.nul]⟩
    | true => exact ⟨-1, cneg rfl h.2, by rw [h0 rfl]; rfl, fun _ => by simp [LenK.nilAt, LenK.nul]⟩

end Go.Kf

namespace Go.Kf

open Go

def wholeTags (u : TM) : TM := u.map fun q => (q.1, pWhole q.2)

/-- This is what a value of a kind is. -/
def RepV (kind : Int) (may null : Bool) (t : PT) : FV → Prop
  | .one (.int k x) => x = k.wrap t.n ∧ ((kind = 1 ∧ k = .i8) ∨ (kind = 2 ∧ k = .i16) ∨ (kind = 3 ∧ k = .i32) ∨ (kind = 4 ∧ k = .i64) ∨ (kind = 5 ∧ k = .u16))
  | .one (.bool b) => kind = 0 ∧ b = (t.n % 2 != 0)
  | .text l => kind = 8 ∧ null = false ∧ l = pWhole t.s
  | .ntext o => kind = 8 ∧ o = if null then none else some (pWhole t.s)
  | .octs nl l => kind = 9 ∧ (may = true → nl = null) ∧ l = if null then [] else pWhole t.s
  | .uuid l => kind = 7 ∧ l = pId t.s
  | _ => False

mutual
def RepF (v : Int) (fl : Bool) : PF → PT → FV → Prop
  | .mk k fr to nul g d e sub, t, x => match x with
    | .list nl rows => k = 11 ∧ ((decide (0 ≤ nul) && decide (nul ≤ v)) = true → nl = pNull (.mk k fr to nul g d e sub) v t) ∧ rows.length = (if pNull (.mk k fr to nul g d e sub) v t then [] else pThings t.l).length ∧
      ∀ (j : Nat) (y : PT) (r : List FV), (if pNull (.mk k fr to nul g d e sub) v t then [] else pThings t.l)[j]? = some y → rows[j]? = some r → (e = 10 → RepFs v fl sub y r 0 0 ∧ (fl = true → r[sub.length]? = some (.tags (wholeTags (pUnknown sub y.u))))) ∧ (e ≠ 10 → ∃ z, r = [z] ∧ RepV e false false y z)
    | .sub gs => k = 10 ∧ nul < 0 ∧ RepFs v fl sub t gs 0 0 ∧ (fl = true → gs[sub.length]? = some (.tags (wholeTags (pUnknown sub t.u))))
    | x => RepV k (decide (0 ≤ nul) && decide (nul ≤ v)) (pNull (.mk k fr to nul g d e sub) v t) t x
def RepFs (v : Int) (fl : Bool) : List PF → PT → List FV → Nat → Nat → Prop
  | [], _, _, _, _ => True
  | f :: r, t, gs, i, p => (pHas f v = true → ∃ x, gs[p]? = some x ∧ RepF v fl f (pAt t i) x) ∧ RepFs v fl r t gs (i + 1) (p + 1)
end

/-- A whole part's values. -/
def RepPart (v : Int) (fl : Bool) (fs : List PF) (t : PT) (gs : List FV) (p : Nat) : Prop := RepFs v fl fs t gs 0 p ∧ (fl = true → gs[p + fs.length]? = some (.tags (wholeTags (pUnknown fs t.u))))

theorem RepFs.congr {v : Int} {fl : Bool} {gs gs' : List FV} : ∀ {fs : List PF} {t : PT} {i p : Nat}, (∀ q, p ≤ q → q < p + fs.length → gs'[q]? = gs[q]?) → RepFs v fl fs t gs i p → RepFs v fl fs t gs' i p
  | [], _, _, _, _, _ => trivial
  | f :: r, t, i, p, h, h2 => by
    simp only [RepFs] at h2 ⊢
    refine ⟨fun hh => ?_, RepFs.congr (fun q h3 h4 => h q (by omega) (by simp only [List.length_cons]; omega)) h2.2⟩
    rw [h p (Nat.le_refl _) (by simp only [List.length_cons]; omega)]
    exact h2.1 hh

theorem RepF.one {v : Int} {fl : Bool} {f : PF} {t : PT} {pk : PK} (h : RepV f.kind (decide (0 ≤ f.nul) && decide (f.nul ≤ v)) (pNull f v t) t (valOf (pNull f v t) t pk)) : RepF v fl f t (valOf (pNull f v t) t pk) := by
  cases f
  cases pk <;> exact h

end Go.Kf

namespace Go.Kf

open Go

def PK.plainText : PK → Bool
  | .str => true
  | .cstr => true
  | _ => false

def pEndB (fl : Bool) (u : TM) : List UInt8 := if fl then pUv u.length ++ pTags u else []

theorem tmSet_new : ∀ {m : TM} {k : Nat} {l : List UInt8}, (∀ p ∈ m, p.1 ≠ k) → tmSet m k l = m ++ [(k, l)]
  | [], _, _, _ => rfl
  | p :: m, k, l, h => by
    rw [tmSet, if_neg (h p (by simp)), tmSet_new fun q hq => h q (by simp [hq])]
    rfl

theorem wholeTags_keys (u : TM) : (wholeTags u).map (·.1) = u.map (·.1) := by simp [wholeTags]

theorem sortTM_id {m : TM} (h : m.Pairwise fun a b => a.1 < b.1) : sortTM m = m := by
  have hn : (m.map (·.1)).Nodup := List.Pairwise.map _ (fun a b (h : a.1 < b.1) => Nat.ne_of_lt h) h
  have hs : (m.map fun p => (p.1 : Int)).Pairwise (· ≤ ·) := List.Pairwise.map _ (fun a b (h : a.1 < b.1) => by omega) h
  unfold sortTM
  rw [← sorted_eq (List.Perm.refl _) hs, List.map_map]
  apply List.ext_getElem (by simp)
  intro i h1 h2
  rw [List.getElem_map]
  simp only [Function.comp_def, Int.toNat_natCast]
  rw [tmGet_eq hn (List.getElem?_eq_getElem h2)]

theorem pPut_asc {q : Nat × List UInt8} : ∀ {m : TM}, m.Pairwise (fun a b => a.1 < b.1) → (pPut q m).Pairwise (fun a b => a.1 < b.1) ∧ ∀ p ∈ pPut q m, p = q ∨ p ∈ m
  | [], _ => by simp [pPut]
  | x :: m, h => by
    have h' := List.pairwise_cons.1 h
    obtain ⟨i1, i2⟩ := pPut_asc (q := q) h'.2
    rw [pPut]
    by_cases h1 : x.1 < q.1
    · rw [if_pos h1]
      refine ⟨List.pairwise_cons.2 ⟨fun p hp => ?_, i1⟩, fun p hp => ?_⟩
      · rcases i2 p hp with rfl | hp
        · exact h1
        · exact h'.1 p hp
      · rcases List.mem_cons.1 hp with rfl | hp
        · simp
        · exact (i2 p hp).imp id fun h => by simp [h]
    · rw [if_neg h1]
      by_cases h2 : x.1 = q.1
      · rw [if_pos h2]
        exact ⟨h, fun p hp => .inr hp⟩
      · rw [if_neg h2]
        refine ⟨List.pairwise_cons.2 ⟨fun p hp => ?_, h⟩, fun p hp => ?_⟩
        · rcases List.mem_cons.1 hp with rfl | hp
          · omega
          · have := h'.1 p hp
            omega
        · rcases List.mem_cons.1 hp with rfl | hp
          · simp
          · exact .inr hp

theorem pUnknownN_asc (least : Nat) : ∀ {u out : TM}, out.Pairwise (fun a b => a.1 < b.1) → (pUnknownN least u out).Pairwise fun a b => a.1 < b.1
  | [], _, h => h
  | q :: u, out, h => by
    rw [pUnknownN]
    refine pUnknownN_asc least ?_
    split
    · exact h
    · exact (pPut_asc h).1

theorem pNull_may {f : PF} {v : Int} {t : PT} (h : pNull f v t = true) : (decide (0 ≤ f.nul) && decide (f.nul ≤ v)) = true := by
  unfold pNull at h
  simp only [Bool.and_eq_true] at h ⊢
  exact ⟨h.1.2, h.2⟩

theorem pkFor_kind {kind : Int} {may fl : Bool} {pk : PK} (h : pkFor kind may fl pk = true) : kind ≠ 10 ∧ kind ≠ 11 := by
  cases pk <;> simp only [pkFor, Bool.and_eq_true, Bool.or_eq_true, decide_eq_true_eq] at h <;> first | omega | cases h

theorem list_written {f : PF} {v : Int} {fl : Bool} {t : PT} (h11 : f.kind = 11) : pField f v fl t = pCounted fl (pNull f v t) (if pNull f v t then [] else pThings t.l).length 4 ++ ((if pNull f v t then [] else pThings t.l).map fun x => pValue (fun y => pPart f.sub v fl y) f.elem false fl x).flatten := by
  rw [pField_eq]
  unfold pFieldOf
  simp only
  rw [if_pos h11]

end Go.Kf
