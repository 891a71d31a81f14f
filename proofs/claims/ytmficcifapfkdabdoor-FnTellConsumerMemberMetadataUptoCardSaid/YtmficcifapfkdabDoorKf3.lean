/- The library for this proof, part 3: trees of function bodies, and what the package's functions do. -/
import Derived.Test.YtmficcifapfkdabDoorKf2
import Derived.OpenShut
import Derived.ChangeSlices
import Derived.LaidSub
import Derived.Shelf.Bin.BEUint16
import Derived.Shelf.Bin.BEUint32
import Derived.Shelf.Bin.BEUint64
import Derived.MapKept
import Derived.Shelf.GgSortFunc.Whole
import Derived.Shelf.GgSortFunc.Tiny
import Derived.Sort.LotA

namespace Go.Kf

open Go

/-- The numbers of the reference's types and functions. -/
structure SN where
  field : Nat
  fields : Nat
  msg : Nat
  has : Nat
  null : Nat
  whole : Nat
  things : Nat
  at_ : Nat
  uv : Nat
  fixed : Nat
  width : Nat
  counted : Nat
  value : Nat
  fld : Nat
  part : Nat
  known : Nat
  usual : Nat
  unknown : Nat
  write : Nat
  flex : Nat
  number : Nat
  usualG : Nat
  told1 : Nat
  told : Nat
  same : Nat
  fits1 : Nat
  fits2 : Nat
  fits3 : Nat

def tHas (c : Nums) (s : SN) : Tr :=
  .op (.box s.field (.tmp 0)) none [] <|
  .op (.fieldAddr s.field (.tmp 2) 1) none [] <|
  .op (.load c.tInt (.tmp 3)) none [] <|
  .op (.binOp .leq c.tInt (.tmp 4) (.tmp 1) c.tInt) none [] <|
  .cond (.tmp 5) (
    .op (.fieldAddr s.field (.tmp 2) 2) none [] <|
    .op (.load c.tInt (.tmp 6)) none [] <|
    .op (.binOp .lss c.tInt (.tmp 7) (.const (.int .i64 0)) c.tInt) none [] <|
    .cond (.tmp 8) (
      .ret [((.const (.bool true)), none)]
    ) (
      .op (.fieldAddr s.field (.tmp 2) 2) none [] <|
      .op (.load c.tInt (.tmp 9)) none [] <|
      .op (.binOp .leq c.tInt (.tmp 1) (.tmp 10) c.tInt) none [] <|
      .ret [((.tmp 11), none)]
    )
  ) (
    .ret [((.const (.bool false)), none)]
  )

def tNull (c : Nums) (s : SN) : Tr :=
  .op (.box s.field (.tmp 0)) none [] <|
  .op (.box c.sTree (.tmp 2)) none [] <|
  .op (.fieldAddr c.sTree (.tmp 4) 2) none [] <|
  .op (.load c.tBool (.tmp 5)) none [] <|
  .cond (.tmp 6) (
    .op (.fieldAddr s.field (.tmp 3) 3) none [] <|
    .op (.load c.tInt (.tmp 7)) none [] <|
    .op (.binOp .geq c.tInt (.tmp 8) (.const (.int .i64 0)) c.tInt) none [] <|
    .cond (.tmp 9) (
      .op (.fieldAddr s.field (.tmp 3) 3) none [] <|
      .op (.load c.tInt (.tmp 10)) none [] <|
      .op (.binOp .geq c.tInt (.tmp 1) (.tmp 11) c.tInt) none [] <|
      .ret [((.tmp 12), none)]
    ) (
      .ret [((.const (.bool false)), none)]
    )
  ) (
    .ret [((.const (.bool false)), none)]
  )

def tWhole (c : Nums) : Tr :=
  .op (.call { callee := (.builtin .len), args := ⟨[(.tmp 0)]⟩, argTypes := ⟨[c.tBytes]⟩ }) none [] <|
  .op (.call { callee := (.builtin .min), args := ⟨[(.tmp 1), (.const (.int .i64 32767))]⟩, argTypes := ⟨[c.tInt, c.tInt]⟩ }) none [] <|
  .op (.slice c.tBytes (.tmp 0) none (some (.tmp 2)) none) none [] <|
  .ret [((.tmp 3), none)]

def tThings (c : Nums) : Tr :=
  .op (.call { callee := (.builtin .len), args := ⟨[(.tmp 0)]⟩, argTypes := ⟨[c.sTrees]⟩ }) none [] <|
  .op (.call { callee := (.builtin .min), args := ⟨[(.tmp 1), (.const (.int .i64 32767))]⟩, argTypes := ⟨[c.tInt, c.tInt]⟩ }) none [] <|
  .op (.slice c.sTrees (.tmp 0) none (some (.tmp 2)) none) none [] <|
  .ret [((.tmp 3), none)]

def tAt (c : Nums) : Tr :=
  .op (.box c.sTree (.tmp 0)) none [] <|
  .op (.alloc c.sTree) none [] <|
  .op (.fieldAddr c.sTree (.tmp 2) 3) none [] <|
  .op (.load c.sTrees (.tmp 4)) none [] <|
  .op (.call { callee := (.builtin .len), args := ⟨[(.tmp 5)]⟩, argTypes := ⟨[c.sTrees]⟩ }) none [] <|
  .op (.binOp .lss c.tInt (.tmp 1) (.tmp 6) c.tInt) none [] <|
  .cond (.tmp 7) (
    .op (.fieldAddr c.sTree (.tmp 2) 3) none [] <|
    .op (.load c.sTrees (.tmp 8)) none [] <|
    .op (.indexAddr c.sTrees (.tmp 9) (.tmp 1)) none [] <|
    .op (.load c.sTree (.tmp 10)) none [] <|
    .op (.store c.sTree (.tmp 3) (.tmp 11)) none [] <|
    .ret [((.tmp 3), (some c.sTree))]
  ) (
    .op (.build c.sTree ⟨[]⟩) none [] <|
    .op (.store c.sTree (.tmp 3) (.tmp 8)) none [] <|
    .ret [((.tmp 3), (some c.sTree))]
  )

def tUv (c : Nums) : Tr :=
  .loop 0 [(.const (.slice none 0 0)), (.tmp 0)] <|
  .op (.binOp .gtr c.tU64 (.tmp 2) (.const (.int .u64 127)) c.tU64) none [] <|
  .cond (.tmp 3) (
    .op (.binOp .and c.tU64 (.tmp 2) (.const (.int .u64 127)) c.tU64) none [] <|
    .op (.convert c.tU64 c.tU8 (.tmp 4)) none [] <|
    .op (.binOp .or c.tU8 (.tmp 5) (.const (.int .u8 128)) c.tU8) none [] <|
    .op (.buildSlice c.tBytes 1 ⟨[(0, (.tmp 6))]⟩) none [] <|
    .op (.call { callee := (.builtin .append), args := ⟨[(.tmp 1), (.tmp 7)]⟩, argTypes := ⟨[c.tBytes, c.tBytes]⟩ }) none [] <|
    .op (.binOp .shr c.tU64 (.tmp 2) (.const (.int .u64 7)) c.tUint) none [] <|
    .to 0 [(.tmp 8), (.tmp 9)]
  ) (
    .op (.convert c.tU64 c.tU8 (.tmp 2)) none [] <|
    .op (.buildSlice c.tBytes 1 ⟨[(0, (.tmp 4))]⟩) none [] <|
    .op (.call { callee := (.builtin .append), args := ⟨[(.tmp 1), (.tmp 5)]⟩, argTypes := ⟨[c.tBytes, c.tBytes]⟩ }) none [] <|
    .ret [((.tmp 6), none)]
  )

def tFixed (c : Nums) : Tr :=
  .op (.binOp .sub c.tInt (.tmp 1) (.const (.int .i64 1)) c.tInt) none [] <|
  .loop 0 [(.const (.slice none 0 0)), (.tmp 2)] <|
  .op (.binOp .geq c.tInt (.tmp 4) (.const (.int .i64 0)) c.tInt) none [] <|
  .cond (.tmp 5) (
    .op (.binOp .mul c.tInt (.const (.int .i64 8)) (.tmp 4) c.tInt) none [] <|
    .op (.binOp .shr c.tI64 (.tmp 0) (.tmp 6) c.tInt) none [] <|
    .op (.convert c.tI64 c.tU8 (.tmp 7)) none [] <|
    .op (.buildSlice c.tBytes 1 ⟨[(0, (.tmp 8))]⟩) none [] <|
    .op (.call { callee := (.builtin .append), args := ⟨[(.tmp 3), (.tmp 9)]⟩, argTypes := ⟨[c.tBytes, c.tBytes]⟩ }) none [] <|
    .op (.binOp .sub c.tInt (.tmp 4) (.const (.int .i64 1)) c.tInt) none [] <|
    .to 0 [(.tmp 10), (.tmp 11)]
  ) (
    .ret [((.tmp 3), none)]
  )

def tWidth (c : Nums) : Tr :=
  .op (.binOp .eql c.tInt (.tmp 0) (.const (.int .i64 1)) c.tInt) none [] <|
  .cond (.tmp 1) (
    .ret [((.const (.int .i64 1)), none)]
  ) (
    .op (.binOp .eql c.tInt (.tmp 0) (.const (.int .i64 2)) c.tInt) none [] <|
    .join 0 (
      .cond (.tmp 2) (
        .to 0 [(.tmp 2)]
      ) (
        .op (.binOp .eql c.tInt (.tmp 0) (.const (.int .i64 5)) c.tInt) none [] <|
        .to 0 [(.tmp 3)]
      )
    ) 1 <|
    .cond (.tmp 3) (
      .ret [((.const (.int .i64 2)), none)]
    ) (
      .op (.binOp .eql c.tInt (.tmp 0) (.const (.int .i64 3)) c.tInt) none [] <|
      .cond (.tmp 4) (
        .ret [((.const (.int .i64 4)), none)]
      ) (
        .ret [((.const (.int .i64 8)), none)]
      )
    )
  )

def tCounted (c : Nums) (s : SN) : Tr :=
  .cond (.tmp 0) (
    .cond (.tmp 1) (
      .op (.buildSlice c.tBytes 1 ⟨[(0, (.const (.int .u8 0)))]⟩) none [] <|
      .ret [((.tmp 4), none)]
    ) (
      .cond (.tmp 0) (
        .op (.convert c.tInt c.tU64 (.tmp 2)) none [] <|
        .op (.binOp .add c.tU64 (.tmp 4) (.const (.int .u64 1)) c.tU64) none [] <|
        .op (callOp s.uv [(.tmp 5)]) none [] <|
        .ret [((.tmp 6), none)]
      ) (
        .cond (.tmp 1) (
          .op (callOp s.fixed [(.const (.int .i64 (-1))), (.tmp 3)]) none [] <|
          .ret [((.tmp 4), none)]
        ) (
          .op (callOp s.fixed [(.tmp 2), (.tmp 3)]) none [] <|
          .ret [((.tmp 4), none)]
        )
      )
    )
  ) (
    .cond (.tmp 0) (
      .op (.convert c.tInt c.tU64 (.tmp 2)) none [] <|
      .op (.binOp .add c.tU64 (.tmp 4) (.const (.int .u64 1)) c.tU64) none [] <|
      .op (callOp s.uv [(.tmp 5)]) none [] <|
      .ret [((.tmp 6), none)]
    ) (
      .cond (.tmp 1) (
        .op (callOp s.fixed [(.const (.int .i64 (-1))), (.tmp 3)]) none [] <|
        .ret [((.tmp 4), none)]
      ) (
        .op (callOp s.fixed [(.tmp 2), (.tmp 3)]) none [] <|
        .ret [((.tmp 4), none)]
      )
    )
  )

def tFlex (c : Nums) (s : SN) : Tr :=
  .op (.box s.msg (.tmp 0)) none [] <|
  .op (.fieldAddr s.msg (.tmp 2) 1) none [] <|
  .op (.load c.tInt (.tmp 3)) none [] <|
  .op (.binOp .geq c.tInt (.tmp 4) (.const (.int .i64 0)) c.tInt) none [] <|
  .cond (.tmp 5) (
    .op (.fieldAddr s.msg (.tmp 2) 1) none [] <|
    .op (.load c.tInt (.tmp 6)) none [] <|
    .op (.binOp .geq c.tInt (.tmp 1) (.tmp 7) c.tInt) none [] <|
    .ret [((.tmp 8), none)]
  ) (
    .ret [((.const (.bool false)), none)]
  )

def tNumber (c : Nums) : Tr :=
  .op (.binOp .eql c.tInt (.tmp 0) (.const (.int .i64 0)) c.tInt) none [] <|
  .cond (.tmp 2) (
    .op (.binOp .and c.tI64 (.tmp 1) (.const (.int .i64 1)) c.tI64) none [] <|
    .ret [((.tmp 3), none)]
  ) (
    .op (.binOp .eql c.tInt (.tmp 0) (.const (.int .i64 1)) c.tInt) none [] <|
    .cond (.tmp 3) (
      .op (.convert c.tI64 c.tI8 (.tmp 1)) none [] <|
      .op (.convert c.tI8 c.tI64 (.tmp 4)) none [] <|
      .ret [((.tmp 5), none)]
    ) (
      .op (.binOp .eql c.tInt (.tmp 0) (.const (.int .i64 2)) c.tInt) none [] <|
      .cond (.tmp 4) (
        .op (.convert c.tI64 c.tI16 (.tmp 1)) none [] <|
        .op (.convert c.tI16 c.tI64 (.tmp 5)) none [] <|
        .ret [((.tmp 6), none)]
      ) (
        .op (.binOp .eql c.tInt (.tmp 0) (.const (.int .i64 3)) c.tInt) none [] <|
        .cond (.tmp 5) (
          .op (.convert c.tI64 c.tI32 (.tmp 1)) none [] <|
          .op (.convert c.tI32 c.tI64 (.tmp 6)) none [] <|
          .ret [((.tmp 7), none)]
        ) (
          .op (.binOp .eql c.tInt (.tmp 0) (.const (.int .i64 5)) c.tInt) none [] <|
          .cond (.tmp 6) (
            .op (.convert c.tI64 c.tU16 (.tmp 1)) none [] <|
            .op (.convert c.tU16 c.tI64 (.tmp 7)) none [] <|
            .ret [((.tmp 8), none)]
          ) (
            .ret [((.tmp 1), none)]
          )
        )
      )
    )
  )

/-- The kinds of numbers that are narrowed, too. -/
structure NumTys (P : Program) (c : Nums) : Prop where
  i8 : P.underlying c.tI8 = some (.int .i8)
  u16 : P.underlying c.tU16 = some (.int .u16)

/-- What the reference's functions ask of the types. -/
structure SpFacts (P : Program) (c : Nums) (s : SN) : Prop where
  rd : RdFacts P c
  ty : TyFacts P c c.sTree c.sTrees c.sTagL c.sTag
  got : GotFacts P c
  agg : aggTy P s.field = some 8
  f0 : fieldOff P s.field 0 = some 0
  f1 : fieldOff P s.field 1 = some 1
  f2 : fieldOff P s.field 2 = some 2
  f3 : fieldOff P s.field 3 = some 3
  f4 : fieldOff P s.field 4 = some 4
  f5 : fieldOff P s.field 5 = some 5
  f6 : fieldOff P s.field 6 = some 6
  f7 : fieldOff P s.field 7 = some 7
  sl : P.underlying s.fields = some (.slice s.field)
  oneFields : oneTy P s.fields = true
  msg : aggTy P s.msg = some 2
  m0 : fieldOff P s.msg 0 = some 0
  m1 : fieldOff P s.msg 1 = some 1
  oneInt : oneTy P c.tInt = true
  u64 : P.underlying c.tU64 = some (.int .u64)
  zero8 : ∃ inf, P.info? c.tU8 = some inf ∧ inf.zero = some (.int .u8 0) ∧ inf.size = 1 ∧ inf.bytes ≤ 8
  zField : ∃ z, zeroTy P s.field = some (z, 8) ∧ z.cells.size = 8
  zTag : ∃ z, zeroTy P c.sTag = some (z, 2) ∧ z.cells.size = 2
  rowF : RowFacts P s.field 8
  planTag : buildPlan P c.sTag = some ([.int .u32 0, .slice none 0 0], [(0, 1), (1, 1)])

theorem SpFacts.szF {P : Program} {c : Nums} {s : SN} (S : SpFacts P c s) : (P.info? s.field).map (·.size) = some 8 := (aggTy_spec (w := default) S.agg).2

theorem SpFacts.szT {P : Program} {c : Nums} {s : SN} (S : SpFacts P c s) : (P.info? c.sTree).map (·.size) = some 5 := (aggTy_spec (w := default) S.ty.agg).2

theorem SpFacts.szG {P : Program} {c : Nums} {s : SN} (S : SpFacts P c s) : (P.info? c.sTag).map (·.size) = some 2 := (aggTy_spec (w := default) S.ty.aggTag).2

/-- The function yields this value; what was there is as it was. -/
def Yields (P : Program) (f : Nat) (args : List Value) (w : World) (v : Value) : Prop := Gives P f args w fun u w' => u = v ∧ Keeps [] w w'

/-- The function yields new octets. -/
def YieldsO (P : Program) (f : Nat) (args : List Value) (w : World) (l : List UInt8) : Prop := Gives P f args w fun u w' => Own w' u 1 l.length (bcells l) ∧ (∀ b ∈ blkOf u, w.heap.size ≤ b) ∧ Keeps [] w w'

section

variable {P : Program} {c : Nums} {s : SN} {R : Value → World → Prop} {Γ : List (List Value → World → Prop)} {n : Nat} {ρ : Nat → Value} {w : World} {k : Tr}

theorem v_min {t1 t2 : Nat} {x y : Operand} {kk k2 : IntKind} {a b : Int} (hx : ev ρ x = .int kk a) (hy : ev ρ y = .int k2 b) : Val P ρ (.call { callee := .builtin .min, args := ⟨[x, y]⟩, argTypes := ⟨[t1, t2]⟩ }) (.int kk (if b < a then b else a)) := fun w => by
  unfold runOp bareOp
  have e1 : (Array.map (ev ρ) ⟨[x, y]⟩ : Array Value) = ⟨[.int kk a, .int k2 b]⟩ := by simp [hx, hy]
  simp only [execOp, resolve, pure_bind, invoke, builtin, Sem.run_bind, e1, Builtin.min_]
  simp [Builtin.min2]

theorem v_shr {t u : Nat} {x y : Operand} {kk k2 : IntKind} {a : Int} {j : Nat} (hx : ev ρ x = .int kk a) (hy : ev ρ y = .int k2 j) (hj : j ≤ kk.bits) : Val P ρ (.binOp .shr t x y u) (.int kk (a / 2 ^ j)) := fun w => by
  unfold runOp bareOp
  simp only [execOp, hx, hy]
  simp [eqGuard, binOp, Op.shift, Nat.min_eq_left hj, show ¬ ((j : Int) < 0) by omega, Int.fdiv_eq_ediv_of_nonneg a (show (0 : Int) ≤ 2 ^ j from Int.pow_nonneg (by omega))]

/-- A counted loop that carries values. -/
theorem s_countV {kk : IntKind} {t q : Nat} {m : Int} {ri : List Operand} {body after : Tr} (Q : Nat → List Value → World → Prop) (hqn : q < n) (hq : ρ q = .int kk m) (h0 : Q 0 (ri.map (ev ρ)) w)
    (hbody : ∀ j, j < m.toNat → ∀ (w' : World) (vr : List Value), Q j vr w' → vr.length = ri.length → ∀ J : List Value → World → Prop, (∀ (vr' : List Value) (w'' : World), vr'.length = ri.length → Q (j + 1) vr' w'' → J (vr' ++ [.int kk ((j + 1 : Nat) : Int)]) w'') →
      body.sem P R (Γ ++ [J]) (n + ri.length + 2) (ext ρ n (vr ++ [.int kk j, .bool true])) w')
    (hafter : ∀ (w' : World) (vr : List Value) (J : List Value → World → Prop), Q m.toNat vr w' → vr.length = ri.length → after.sem P R (Γ ++ [J]) (n + ri.length + 2) (ext ρ n (vr ++ [.int kk m.toNat, .bool false])) w') :
    (Tr.loop Γ.length (ri ++ [.const (.int kk 0)]) (.op (.binOp .lss t (.tmp (n + ri.length)) (.tmp q) t) none [] (.cond (.tmp (n + ri.length + 1)) body after))).sem P R Γ n ρ w := by
  refine ⟨rfl, fun vs w' => ∃ (vr : List Value) (j : Nat), vs = vr ++ [.int kk j] ∧ vr.length = ri.length ∧ j ≤ m.toNat ∧ Q j vr w', fun vs _ => m.toNat - (match vs.getLast? with
    | some (.int _ j) => j.toNat
    | _ => 0), ⟨ri.map (ev ρ), 0, by simp [ev], by simp, by omega, h0⟩, ?_⟩
  rintro vs w' _ ⟨vr, j, rfl, hvr, hj, hQ⟩
  rw [List.length_append, List.length_singleton]
  have e1 : ext ρ n (vr ++ [.int kk j]) (n + ri.length) = .int kk j := by
    rw [ext_ge, ← hvr]; simp
  refine s_val (v_cmp (kk := kk) (a := j) (b := m) (r := decide ((j : Int) < m)) e1 ((ext_lt hqn).trans hq) rfl) ?_
  have e2 := ext_ext ρ n (vr ++ [.int kk j]) [.bool (decide ((j : Int) < m))]
  rw [List.length_append, List.length_singleton, hvr, List.append_assoc] at e2
  rw [e2]
  have e3 : ext ρ n (vr ++ ([.int kk j] ++ [.bool (decide ((j : Int) < m))])) (n + ri.length + 1) = .bool (decide ((j : Int) < m)) := by
    rw [Nat.add_assoc, ext_ge, ← hvr]; simp
  refine s_cond (b := decide ((j : Int) < m)) e3 (fun hb => ?_) fun hb => ?_
  · have hlt : (j : Int) < m := by simpa using hb
    rw [decide_eq_true hlt]
    refine hbody j (by omega) w' vr hQ hvr _ fun vr' w'' hl hQ' => ⟨⟨vr', j + 1, rfl, hl, by omega, hQ'⟩, ?_⟩
    simp
    omega
  · have hge : ¬ (j : Int) < m := by simpa using hb
    rw [decide_eq_false hge]
    obtain rfl : j = m.toNat := by omega
    exact hafter w' vr _ hQ hvr

/-- A field, unfolded. -/
theorem FieldC.cells {f : PF} {cs : List Value} (h : FieldC w f cs) : ∃ sv, cs = [.int .i64 f.kind, .int .i64 f.fr, .int .i64 f.to, .int .i64 f.nul, .int .i64 f.tag, .int .i64 f.dflt, .int .i64 f.elem, sv] ∧ FieldsV w f.sub sv := by
  cases f
  obtain ⟨sv, scs, e, h1, h2⟩ := h
  exact ⟨sv, e, scs, h1, h2⟩

theorem TreeC.cells {t : PT} {cs : List Value} (h : TreeC w t cs) : ∃ sv lv uv lcs ucs, cs = [.int .i64 t.n, sv, .bool t.null, lv, uv] ∧ Ro w sv 1 t.s.length (bcells t.s) ∧ Ro w lv 5 t.l.length lcs ∧ TreesC w t.l lcs ∧ Ro w uv 2 t.u.length ucs ∧ TagsC w t.u ucs := by
  cases t
  obtain ⟨sv, lv, uv, lcs, ucs, e, h1, h2, h3, h4, h5, _⟩ := h
  exact ⟨sv, lv, uv, lcs, ucs, e, h1, h2, h3, h4, h5⟩

theorem TreeC.lens {t : PT} {cs : List Value} (h : TreeC w t cs) : t.s.length < 4294967296 ∧ t.l.length < 4294967296 ∧ t.u.length < 4294967296 := by
  cases t
  obtain ⟨sv, lv, uv, lcs, ucs, e, h1, h2, h3, h4, h5, h6⟩ := h
  exact h6

theorem has_gives (S : SpFacts P c s) (hT : treeIn P s.has noOrc [.tmp 0, .tmp 1] 2 = tHas c s) {f : PF} {cs : List Value} (h : FieldC w f cs) (v : Int) : Yields P s.has [.agg ⟨cs⟩, .int .i64 v] w (.bool (pHas f v)) := by
  obtain ⟨sv, rfl, _⟩ := h.cells
  refine gives_in (ρ := en [_, _]) S.rd.mix hT (Nat.le_refl _) rfl (by simp [opBelow]) ?_
  refine s_box rfl fun w1 hx1 k1 z1 => ?_
  refine s_fl S.f1 S.oneInt rfl rfl hx1 rfl ?_
  refine s_val (v_cmp (kk := .i64) (a := f.fr) (b := v) (r := decide (f.fr ≤ v)) rfl rfl rfl) ?_
  refine s_cond (b := decide (f.fr ≤ v)) rfl (fun hb => ?_) fun hb => s_ret1 ⟨by simp [pHas, hb, ev], k1⟩
  refine s_fl S.f2 S.oneInt rfl rfl hx1 rfl ?_
  refine s_val (v_cmp (kk := .i64) (a := f.to) (b := 0) (r := decide (f.to < 0)) rfl rfl rfl) ?_
  refine s_cond (b := decide (f.to < 0)) rfl (fun hb2 => s_ret1 ⟨by simp [pHas, hb, hb2, ev], k1⟩) fun hb2 => ?_
  refine s_fl S.f2 S.oneInt rfl rfl hx1 rfl ?_
  refine s_val (v_cmp (kk := .i64) (a := v) (b := f.to) (r := decide (v ≤ f.to)) rfl rfl rfl) ?_
  exact s_ret1 ⟨by simp only [pHas, hb, hb2, Bool.true_and, Bool.false_or]; rfl, k1⟩

theorem null_gives (S : SpFacts P c s) (hT : treeIn P s.null noOrc [.tmp 0, .tmp 1, .tmp 2] 3 = tNull c s) {f : PF} {t : PT} {cs ts : List Value} (h : FieldC w f cs) (ht : TreeC w t ts) (v : Int) : Yields P s.null [.agg ⟨cs⟩, .int .i64 v, .agg ⟨ts⟩] w (.bool (pNull f v t)) := by
  obtain ⟨sv, rfl, _⟩ := h.cells
  obtain ⟨s1, lv, uv, lcs, ucs, rfl, _⟩ := ht.cells
  refine gives_in (ρ := en [_, _, _]) S.rd.mix hT (Nat.le_refl _) rfl (by simp [opBelow]) ?_
  refine s_box rfl fun w1 hx1 k1 z1 => ?_
  refine s_box rfl fun w2 hx2 k2 z2 => ?_
  have hx1 := hx1.keep k2 (by simp)
  have k12 : Keeps [] w w2 := k1.trans k2
  refine s_fl S.ty.f2 S.rd.oneBool rfl rfl hx2 rfl ?_
  refine s_cond (b := t.null) rfl (fun hb => ?_) fun hb => s_ret1 ⟨by simp [pNull, hb, ev], k12⟩
  refine s_fl S.f3 S.oneInt rfl rfl hx1 rfl ?_
  refine s_val (v_cmp (kk := .i64) (a := f.nul) (b := 0) (r := decide (f.nul ≥ 0)) rfl rfl rfl) ?_
  refine s_cond (b := decide (f.nul ≥ 0)) rfl (fun hb2 => ?_) fun hb2 => s_ret1 ⟨by simp only [pNull]; rw [show decide (0 ≤ f.nul) = false from hb2]; simp [ev], k12⟩
  refine s_fl S.f3 S.oneInt rfl rfl hx1 rfl ?_
  refine s_val (v_cmp (kk := .i64) (a := v) (b := f.nul) (r := decide (v ≥ f.nul)) rfl rfl rfl) ?_
  exact s_ret1 ⟨by simp only [pNull]; rw [show decide (0 ≤ f.nul) = true from hb2, hb]; rfl, k12⟩

theorem flex_gives (S : SpFacts P c s) (hT : treeIn P s.flex noOrc [.tmp 0, .tmp 1] 2 = tFlex c s) (fv : Value) (x v : Int) : Yields P s.flex [.agg ⟨[fv, .int .i64 x]⟩, .int .i64 v] w (.bool (pFlex x v)) := by
  refine gives_in (ρ := en [_, _]) S.rd.mix hT (Nat.le_refl _) rfl (by simp [opBelow]) ?_
  refine s_box rfl fun w1 hx1 k1 z1 => ?_
  refine s_fl S.m1 S.oneInt rfl rfl hx1 rfl ?_
  refine s_val (v_cmp (kk := .i64) (a := x) (b := 0) (r := decide (x ≥ 0)) rfl rfl rfl) ?_
  refine s_cond (b := decide (x ≥ 0)) rfl (fun hb => ?_) fun hb => s_ret1 ⟨by simp only [pFlex]; rw [show decide (0 ≤ x) = false from hb]; rfl, k1⟩
  refine s_fl S.m1 S.oneInt rfl rfl hx1 rfl ?_
  refine s_val (v_cmp (kk := .i64) (a := v) (b := x) (r := decide (v ≥ x)) rfl rfl rfl) ?_
  exact s_ret1 ⟨by simp only [pFlex]; rw [show decide (0 ≤ x) = true from hb]; rfl, k1⟩

theorem take_min {α : Type} (l : List α) : l.take 32767 = l.take (if (32767 : Int) < (l.length : Int) then (32767 : Int) else (l.length : Int)).toNat := by
  split
  · rfl
  · rw [List.take_of_length_le (by omega), List.take_of_length_le (by omega)]

theorem whole_gives (S : SpFacts P c s) (hT : treeIn P s.whole noOrc [.tmp 0] 1 = tWhole c) {v : Value} {l : List UInt8} (h : Ro w v 1 l.length (bcells l)) : Gives P s.whole [v] w fun u w' => w' = w ∧ ∀ w0, Ro w0 v 1 l.length (bcells l) → Ro w0 u 1 (pWhole l).length (bcells (pWhole l)) := by
  refine gives_in (ρ := en [v]) S.rd.mix hT (Nat.le_refl _) rfl (by simp [opBelow]) ?_
  obtain ⟨a, cp, rfl⟩ := h.form
  refine s_val (v_len (a := a) (l := l.length) (c := cp) S.rd.bytes rfl) ?_
  refine s_val (v_min (kk := .i64) (a := l.length) (b := 32767) rfl rfl) ?_
  have hcap : l.length ≤ cp := by
    rcases h.2 with ⟨h0, _⟩ | ⟨_, _, _, e, _, hc, _⟩
    · omega
    · simp only [Value.slice.injEq] at e; omega
  refine s_val (v_sliceTo (a := a) (l := l.length) (c := cp) (k := .i64) (h := if (32767 : Int) < (l.length : Int) then (32767 : Int) else (l.length : Int)) S.rd.bytes S.rd.szU8 rfl rfl (by split <;> omega) (by split <;> omega)) ?_
  refine s_ret1 ⟨rfl, fun w0 h => ?_⟩
  have h2 := h.to (m := (if (32767 : Int) < (l.length : Int) then (32767 : Int) else (l.length : Int)).toNat) (by split <;> omega)
  rw [Nat.mul_one, bcells_take, ← take_min] at h2
  have e : (pWhole l).length = (if (32767 : Int) < (l.length : Int) then (32767 : Int) else (l.length : Int)).toNat := by
    unfold pWhole
    rw [take_min, List.length_take]
    split <;> omega
  rw [e]
  exact h2

theorem things0_gives (S : SpFacts P c s) (hT : treeIn P s.things noOrc [.tmp 0] 1 = tThings c) {v : Value} {l : List PT} {cs : List Value} (h : Ro w v 5 l.length cs) : Gives P s.things [v] w fun u w' => w' = w ∧ ∃ cs', (∀ w0, Ro w0 v 5 l.length cs → Ro w0 u 5 (pThings l).length cs') ∧ ∀ w0, TreesC w0 l cs → TreesC w0 (pThings l) cs' := by
  refine gives_in (ρ := en [v]) S.rd.mix hT (Nat.le_refl _) rfl (by simp [opBelow]) ?_
  obtain ⟨a, cp, rfl⟩ := h.form
  refine s_val (v_len (a := a) (l := l.length) (c := cp) S.ty.sl rfl) ?_
  refine s_val (v_min (kk := .i64) (a := l.length) (b := 32767) rfl rfl) ?_
  have hcap : l.length ≤ cp := by
    rcases h.2 with ⟨h0, _⟩ | ⟨_, _, _, e, _, hc, _⟩
    · omega
    · simp only [Value.slice.injEq] at e; omega
  refine s_val (v_sliceTo (a := a) (l := l.length) (c := cp) (k := .i64) (h := if (32767 : Int) < (l.length : Int) then (32767 : Int) else (l.length : Int)) S.ty.sl S.szT rfl rfl (by split <;> omega) (by split <;> omega)) ?_
  have e : (pThings l).length = (if (32767 : Int) < (l.length : Int) then (32767 : Int) else (l.length : Int)).toNat := by
    unfold pThings
    rw [take_min, List.length_take]
    split <;> omega
  refine s_ret1 ⟨rfl, _, fun w0 hr => ?_, fun w0 ht => (show l.take (pThings l).length = pThings l by unfold pThings; rw [List.length_take, List.take_eq_take_min]; simp) ▸ ht.take (pThings l).length⟩
  show Ro w0 (.slice a (if (32767 : Int) < (l.length : Int) then (32767 : Int) else (l.length : Int)).toNat cp) 5 _ _
  rw [← e]
  exact hr.to (m := (pThings l).length) (by rw [e]; split <;> omega)

theorem things_gives (S : SpFacts P c s) (hT : treeIn P s.things noOrc [.tmp 0] 1 = tThings c) {v : Value} {l : List PT} {cs : List Value} (h : Ro w v 5 l.length cs) (ht : TreesC w l cs) : Gives P s.things [v] w fun u w' => w' = w ∧ ∃ cs', Ro w u 5 (pThings l).length cs' ∧ TreesC w (pThings l) cs' :=
  (things0_gives S hT h).mono fun _ _ ⟨h1, cs', h2, h3⟩ => ⟨h1, cs', h2 w h, h3 w ht⟩

theorem at0_gives (S : SpFacts P c s) (hT : treeIn P s.at_ noOrc [.tmp 0, .tmp 1] 2 = tAt c) {t : PT} {ts : List Value} {w0 : World} (k0 : Keeps [] w0 w) (ht : TreeC w0 t ts) (i : Nat) : Gives P s.at_ [.agg ⟨ts⟩, .int .i64 i] w fun u w' => Keeps [] w w' ∧ ∃ cs, u = .agg ⟨cs⟩ ∧ TreeC w0 (pAt t i) cs := by
  obtain ⟨sv, lv, uv, lcs, ucs, rfl, h1, h2, h3, h4, h5⟩ := ht.cells
  refine gives_in (ρ := en [_, _]) S.rd.mix hT (Nat.le_refl _) rfl (by simp [opBelow]) ?_
  refine s_box rfl fun w1 hx1 k1 z1 => ?_
  refine s_alloc S.got.zero fun w2 hz2 k2 z2 => ?_
  have hx1 := hx1.keep k2 (by simp)
  have k12 : Keeps [] w w2 := k1.trans k2
  obtain ⟨a, q, e⟩ := h2.form
  refine s_fl S.ty.f3 S.ty.oneTrees rfl rfl hx1 rfl (s_val (v_len (a := a) (l := t.l.length) (c := q) S.ty.sl e) ?_)
  refine s_val (v_cmp (kk := .i64) (a := i) (b := t.l.length) (r := decide ((i : Int) < t.l.length)) rfl rfl rfl) ?_
  refine s_cond (b := decide ((i : Int) < t.l.length)) rfl (fun hb => ?_) fun hb => ?_
  · have hlt : i < t.l.length := by
      have : (i : Int) < t.l.length := by simpa using hb
      omega
    refine s_fl S.ty.f3 S.ty.oneTrees rfl rfl hx1 rfl ?_
    have h2' := h2.keep (k0.trans k12)
    obtain ⟨b, o, cap, e2, hbl, hel, hcell⟩ := h2'.elem hlt (by omega)
    have htr := TreesC.get h3 hlt
    refine s_val (v_indexAddr (b := b) (o := o) (l := t.l.length) (c := cap) (j := i) (kk := .i64) S.ty.sl S.szT e2 rfl (by omega) (by omega)) ?_
    rw [Int.toNat_natCast]
    refine s_lok (l_cellN (b := b) (o := o + i * 5) S.ty.agg ext_at hel hcell) ?_
    refine s_storeAll (b := w1.heap.size) (old := zeroTree) (cs := (lcs.drop (i * 5)).take 5) (by rw [hel]; exact S.ty.agg) rfl rfl hz2 (by rw [hel]; rfl) htr.ones fun w3 h3' k3 => ?_
    have k13 : Keeps [] w w3 := ((k12.mono (by simp)).trans k3).less fun x hx => .inr (by simp only [List.mem_singleton] at hx; have := k1.size; omega)
    refine s_retAgg (b := w1.heap.size) rfl h3' (by rw [hel]; exact S.ty.agg) ⟨k13, _, rfl, ?_⟩
    have : pAt t i = t.l[i] := by unfold pAt; rw [List.getD_eq_getElem?_getD, List.getElem?_eq_getElem hlt]; rfl
    rw [this]
    exact TreesC.get h3 hlt
  · have hge : ¬ (i : Int) < t.l.length := by simpa using hb
    refine s_val (v_build (cells := zeroTree) S.got.plan (fun p hp => by cases hp) rfl) ?_
    refine s_storeAll (b := w1.heap.size) (old := zeroTree) (cs := zeroTree) S.ty.agg rfl rfl hz2 rfl (zeroTree_at w (fun _ => True)).ones fun w3 h3' k3 => ?_
    have k13 : Keeps [] w w3 := ((k12.mono (by simp)).trans k3).less fun x hx => .inr (by simp only [List.mem_singleton] at hx; have := k1.size; omega)
    refine s_retAgg (b := w1.heap.size) rfl h3' S.ty.agg ⟨k13, _, rfl, ?_⟩
    have : pAt t i = .zero := by unfold pAt; rw [List.getD_eq_getElem?_getD, List.getElem?_eq_none (by omega)]; rfl
    rw [this]
    exact TreeC.zero w0

theorem at_gives (S : SpFacts P c s) (hT : treeIn P s.at_ noOrc [.tmp 0, .tmp 1] 2 = tAt c) {t : PT} {ts : List Value} (ht : TreeC w t ts) (i : Nat) : Gives P s.at_ [.agg ⟨ts⟩, .int .i64 i] w fun u w' => Keeps [] w w' ∧ ∃ cs, u = .agg ⟨cs⟩ ∧ TreeC w' (pAt t i) cs :=
  (at0_gives S hT .refl ht i).mono fun _ _ ⟨k, cs, h1, h2⟩ => ⟨k, cs, h1, TreeC.keep k _ _ h2⟩

theorem width_gives (S : SpFacts P c s) (hT : treeIn P s.width noOrc [.tmp 0] 1 = tWidth c) (x : Int) : Yields P s.width [.int .i64 x] w (.int .i64 (pWidth x)) := by
  refine gives_in (ρ := en [_]) S.rd.mix hT (Nat.le_refl _) rfl (by simp [opBelow]) ?_
  refine s_val (v_cmp (kk := .i64) (a := x) (b := 1) (r := x == 1) rfl rfl rfl) ?_
  refine s_cond (b := x == 1) rfl (fun hb => s_ret1 ⟨by simp at hb; subst hb; rfl, .refl⟩) fun h1 => ?_
  refine s_val (v_cmp (kk := .i64) (a := x) (b := 2) (r := x == 2) rfl rfl rfl) ?_
  refine ⟨rfl, fun vs w' => vs = [.bool (x == 2 || x == 5)] ∧ w' = w, ?_, ?_⟩
  · refine s_cond (b := x == 2) rfl (fun hb => ⟨_, rfl, by simp [ev, ext, hb], rfl⟩) fun hb => ?_
    refine s_val (v_cmp (kk := .i64) (a := x) (b := 5) (r := x == 5) rfl rfl rfl) ?_
    exact ⟨_, rfl, by simp [ev, ext, hb], rfl⟩
  · rintro vs w' _ ⟨rfl, rfl⟩
    simp at h1
    refine s_cond (b := x == 2 || x == 5) rfl (fun hb => s_ret1 ⟨by simp at hb; simp [pWidth, h1, hb, ev], .refl⟩) fun hb => ?_
    refine s_val (v_cmp (kk := .i64) (a := x) (b := 3) (r := x == 3) rfl rfl rfl) ?_
    simp at hb
    refine s_cond (b := x == 3) rfl (fun h3 => s_ret1 ⟨by simp at h3; subst h3; rfl, .refl⟩) fun h3 => s_ret1 ⟨by simp at h3; simp [pWidth, h1, hb, h3, ev], .refl⟩

end

end Go.Kf

namespace Go.Kf

open Go

theorem wraps_u64 (n : Int) (h0 : 0 ≤ n) (h1 : n < 2 ^ 64) : IntKind.u64.wrap n = n := by
  simp only [IntKind.wrap, IntKind.bits, IntKind.signed]
  simp
  omega

theorem and1_i64 (n : Int) : bits .and .i64 n 1 = n % 2 := by
  have h : ((BitVec.ofInt 64 n) &&& (BitVec.ofInt 64 1)).toNat = (n % 2).toNat := by
    rw [BitVec.toNat_and, BitVec.toNat_ofInt, show (BitVec.ofInt 64 1).toNat = 1 from rfl, Nat.and_one_is_mod]
    omega
  show IntKind.i64.wrap (((BitVec.ofInt 64 n) &&& (BitVec.ofInt 64 1)).toNat : Int) = n % 2
  rw [h, IntKind.wrap_i64]
  omega

theorem and127_u64 (m : Nat) (_h : m < 2 ^ 64) : bits .and .u64 m 127 = ((m % 128 : Nat) : Int) := by
  have h2 : ((BitVec.ofInt 64 (m : Int)) &&& (BitVec.ofInt 64 127)).toNat = m % 128 := by
    rw [BitVec.toNat_and, BitVec.toNat_ofInt, show (BitVec.ofInt 64 127).toNat = 2 ^ 7 - 1 from rfl, Nat.and_two_pow_sub_one_eq_mod]
    omega
  show IntKind.u64.wrap (((BitVec.ofInt 64 (m : Int)) &&& (BitVec.ofInt 64 127)).toNat : Int) = _
  rw [h2, wraps_u64 _ (by omega) (by omega)]

theorem or128_u8 (m : Nat) (h : m < 128) : bits .or .u8 m 128 = ((m + 128 : Nat) : Int) := by
  have h2 : ∀ x : Fin 128, bits .or .u8 (x.val : Int) 128 = ((x.val + 128 : Nat) : Int) := by decide +kernel
  exact h2 ⟨m, h⟩

theorem wrap_u8' (n : Int) : IntKind.u8.wrap n = n % 256 := IntKind.wrap_u8 n

/-- An octet of a number, as it stands in memory. -/
theorem octCell (n : Int) : (Value.int .u8 (IntKind.u8.wrap n)) = .int .u8 ((UInt8.ofNat (n % 256).toNat).toNat : Int) := by
  rw [wrap_u8', UInt8.toNat_ofNat']
  congr 1
  omega

theorem pFixed_length (n : Int) : ∀ k : Nat, (pFixed n k).length = k
  | 0 => rfl
  | k + 1 => by simp [pFixed, pFixed_length n k]

section

variable {P : Program} {c : Nums} {s : SN} {R : Value → World → Prop} {Γ : List (List Value → World → Prop)} {n : Nat} {ρ : Nat → Value} {w : World} {k : Tr}

/-- Octets that are made: on top of w0. -/
def MadeO (w0 w : World) (v : Value) (l : List UInt8) : Prop := Own w v 1 l.length (bcells l) ∧ (∀ b ∈ blkOf v, w0.heap.size ≤ b) ∧ Keeps [] w0 w

theorem MadeO.nil (w : World) : MadeO w w (.slice none 0 0) [] := ⟨Own.nil w 1, (fun b hb => by cases hb), .refl⟩

theorem MadeO.drawn {w0 : World} {v : Value} {l : List UInt8} (h : MadeO w0 w v l) (d : Nat) : MadeO w0 { w with drawn := d } v l := ⟨h.1.keep (keeps_drawn w [] _) (by simp), h.2.1, h.2.2.trans (keeps_drawn w [] _)⟩

theorem MadeO.more {w0 w1 : World} {v : Value} {l : List UInt8} (h : MadeO w0 w v l) (hk : Keeps [] w w1) : MadeO w0 w1 v l := ⟨h.1.keep hk (by simp), h.2.1, h.2.2.trans hk⟩

theorem MadeO.one {w0 : World} {v : Value} {l : List UInt8} (h : MadeO w0 w v l) : v.oneCell' = true := h.1.reads.one

/-- append(a, b...) of octets. -/
theorem s_appendO {x y : Operand} {v u : Value} {l1 l2 : List UInt8} {w0 : World} {Fo : List (Op × Nat)} (S : SpFacts P c s) (hx : ev ρ x = v) (hy : ev ρ y = u) (h1 : MadeO w0 w v l1) (h2 : Src P 1 c.tBytes u l2.length (bcells l2) w) (hl : (l1 ++ l2).length ≤ 1099511627776)
    (hk : ∀ v' w', MadeO w0 w' v' (l1 ++ l2) → Keeps (blkOf v) w w' → (∀ p ∈ Fo, runOp P ρ p.1 w' = .ok (.value (ρ p.2)) w') ∧ k.sem P R Γ (n + 1) (ext ρ n [v']) w') :
    (Tr.op (.call { callee := .builtin .append, args := ⟨[x, y]⟩, argTypes := ⟨[c.tBytes, c.tBytes]⟩ }) none Fo k).sem P R Γ n ρ w := by
  obtain ⟨inf, hi, hz, hsz, hb⟩ := S.zero8
  rw [List.length_append] at hl
  obtain ⟨v', w', e, ho, kk, hbl⟩ := a_append (P := P) (ρ := ρ) (w := w) (tx := c.tBytes) S.rd.bytes hi hz hsz rfl hx hy h1.1 h2 (by
    calc (l1.length + l2.length) * inf.bytes ≤ 1099511627776 * 8 := Nat.mul_le_mul hl hb
      _ ≤ 140737488355328 := by decide) (by omega)
  have s0 := h1.2.2.size
  have hm : MadeO w0 w' v' (l1 ++ l2) := ⟨by rw [List.length_append, bcells_append]; exact ho, fun b hb => (hbl b hb).elim (h1.2.1 b) fun h => by omega,
    ((h1.2.2.mono (by simp)).trans kk).less fun b hb => .inr (h1.2.1 b hb)⟩
  exact s_act e (hk v' w' hm kk).1 (hk v' w' hm kk).2

/-- []byte{x} -/
theorem s_litO {y : Operand} {b : UInt8} (S : SpFacts P c s) (hy : ev ρ y = .int .u8 (b.toNat : Int)) (hk : ∀ v' w', MadeO w w' v' [b] → k.sem P R Γ (n + 1) (ext ρ n [v']) w') :
    (Tr.op (.buildSlice c.tBytes 1 ⟨[(0, y)]⟩) none [] k).sem P R Γ n ρ w := by
  obtain ⟨inf, hi, hz, hsz, hb⟩ := S.zero8
  obtain ⟨w', e1, hh, kk, hs⟩ := a_sliceOne (P := P) (ρ := ρ) (w := w) (x := y) (z := .int .u8 0) (cs := [.int .u8 (b.toNat : Int)]) S.rd.bytes (by simp [zeroTy, hi, hz, hsz]) (by simp) (by simp) (by rw [hy]; rfl)
  refine s_act e1 (fun p hp => by cases hp) (hk _ w' ⟨⟨rfl, .inr ⟨w.heap.size, 1, [], rfl, by simpa [bcells] using hh, Nat.le_refl _, by decide, rfl⟩⟩, fun b' hb' => ?_, kk⟩)
  simp only [blkOf, List.mem_singleton] at hb'
  omega

/-- append(a, x), of an octet. -/
theorem s_pushO {x y : Operand} {v : Value} {l : List UInt8} {b : UInt8} {w0 : World} (S : SpFacts P c s) (hx : ev ρ x = v) (hbx : opBelow n x) (hy : ev ρ y = .int .u8 (b.toNat : Int)) (h1 : MadeO w0 w v l) (hl : l.length + 1 ≤ 1099511627776)
    (hk : ∀ u v' w', MadeO w0 w' v' (l ++ [b]) → k.sem P R Γ (n + 2) (ext (ext ρ n [u]) (n + 1) [v']) w') :
    (Tr.op (.buildSlice c.tBytes 1 ⟨[(0, y)]⟩) none [] <| Tr.op (.call { callee := .builtin .append, args := ⟨[x, .tmp n]⟩, argTypes := ⟨[c.tBytes, c.tBytes]⟩ }) none [] k).sem P R Γ n ρ w := by
  refine s_litO S hy fun u w1 hM => ?_
  exact s_appendO (l2 := [b]) S (by rw [ev_ext hbx]; exact hx) ext_at (h1.more hM.2.2) (hM.1.reads.src S.rd.bytes (bcells_one _)) (by simpa using hl) fun v' w2 hm kk => ⟨fun p hp => (by cases hp), hk u v' w2 hm⟩

theorem fixed_gives (S : SpFacts P c s) (hT : treeIn P s.fixed noOrc [.tmp 0, .tmp 1] 2 = tFixed c) (x : Int) (m : Nat) (hm : m ≤ 8) : YieldsO P s.fixed [.int .i64 x, .int .i64 m] w (pFixed x m) := by
  refine gives_in (ρ := en [_, _]) S.rd.mix hT (Nat.le_refl _) rfl (by simp [opBelow]) ?_
  refine s_val (v_arith (kk := .i64) (a := m) (b := 1) (r := (m : Int) - 1) rfl rfl (by simp only [arithOf, Option.some.injEq]; rw [IntKind.wrap_i64]; omega)) ?_
  refine ⟨rfl, fun vs w' => ∃ (v : Value) (j : Nat) (d : List UInt8), vs = [v, .int .i64 ((j : Int) - 1)] ∧ j ≤ m ∧ MadeO w w' v d ∧ d ++ pFixed x j = pFixed x m, fun vs _ => match vs with
    | [_, .int _ j] => (j + 1).toNat
    | _ => 0, ⟨.slice none 0 0, m, [], rfl, Nat.le_refl _, MadeO.nil w, rfl⟩, ?_⟩
  rintro _ w' _ ⟨v, j, d, rfl, hj, hM, hd⟩
  refine s_val (v_cmp (kk := .i64) (a := (j : Int) - 1) (b := 0) (r := decide ((j : Int) - 1 ≥ 0)) rfl rfl rfl) ?_
  refine s_cond (b := decide ((j : Int) - 1 ≥ 0)) rfl (fun hb => ?_) fun hb => ?_
  · obtain ⟨i, rfl⟩ : ∃ i, j = i + 1 := ⟨j - 1, by
      have : (j : Int) - 1 ≥ 0 := by simpa using hb
      omega⟩
    have hi : (((i + 1 : Nat) : Int) - 1) = (i : Int) := by omega
    rw [hi] at hb ⊢
    refine s_val (v_arith (kk := .i64) (a := 8) (b := i) (r := ((8 * i : Nat) : Int)) rfl rfl (by simp only [arithOf, Option.some.injEq]; rw [IntKind.wrap_i64]; omega)) ?_
    refine s_val (v_shr (kk := .i64) (k2 := .i64) (a := x) (j := 8 * i) rfl rfl (by simp only [IntKind.bits]; omega)) ?_
    refine s_val (v_conv (k1 := .i64) (k2 := .u8) (a := x / 2 ^ (8 * i)) S.ty.i64 S.rd.u8 rfl) ?_
    have hl : d.length + (i + 1) = m := by
      have := congrArg List.length hd
      rw [List.length_append, pFixed_length, pFixed_length] at this
      exact this
    refine s_pushO (v := v) (l := d) (b := octOf x i) (w0 := w) S rfl (by simp [opBelow]) (octCell (x / 2 ^ (8 * i))) hM (by omega) fun _ v' w2 hM2 => ?_
    refine s_val (v_arith (kk := .i64) (a := i) (b := 1) (r := (i : Int) - 1) rfl rfl (by simp only [arithOf, Option.some.injEq]; rw [IntKind.wrap_i64]; omega)) ?_
    refine ⟨_, rfl, ⟨v', i, d ++ [octOf x i], rfl, by omega, hM2, by rw [List.append_assoc]; exact hd⟩, ?_⟩
    show ((i : Int) - 1 + 1).toNat < ((i : Int) + 1).toNat
    omega
  · have h0 : j = 0 := by
      have : ¬ (j : Int) - 1 ≥ 0 := by simpa using hb
      omega
    subst h0
    rw [pFixed, List.append_nil] at hd
    subst hd
    exact s_ret1 hM

theorem uv_gives (S : SpFacts P c s) (hT : treeIn P s.uv noOrc [.tmp 0] 1 = tUv c) (x : Nat) (hx : x < 2 ^ 64) : YieldsO P s.uv [.int .u64 x] w (pUv x) := by
  refine gives_in (ρ := en [_]) S.rd.mix hT (Nat.le_refl _) rfl (by simp [opBelow]) ?_
  refine ⟨rfl, fun vs w' => ∃ (v : Value) (q m : Nat) (d : List UInt8), vs = [v, .int .u64 m] ∧ m < 128 ^ (q + 1) ∧ m < 2 ^ 64 ∧ MadeO w w' v d ∧ d ++ pUvN q m = pUv x ∧ d.length + q = 10, fun vs _ => match vs with
    | [_, .int _ j] => j.toNat
    | _ => 0, ⟨.slice none 0 0, 10, x, [], rfl, by omega, hx, MadeO.nil w, rfl, rfl⟩, ?_⟩
  rintro _ w' _ ⟨v, q, m, d, rfl, hq, hm, hM, hd, hl⟩
  refine s_val (v_cmp (kk := .u64) (a := m) (b := 127) (r := decide ((m : Int) > 127)) rfl rfl rfl) ?_
  refine s_cond (b := decide ((m : Int) > 127)) rfl (fun hb => ?_) fun hb => ?_
  · have hgt : 127 < m := by
      have : (m : Int) > 127 := by simpa using hb
      omega
    obtain ⟨p, rfl⟩ : ∃ p, q = p + 1 := by
      cases q with
      | zero => simp at hq; omega
      | succ p => exact ⟨p, rfl⟩
    refine s_val (v_bits (op := .and) (kk := .u64) (.inl rfl) rfl rfl (and127_u64 m hm)) ?_
    refine s_val (v_conv (k1 := .u64) (k2 := .u8) (a := ((m % 128 : Nat) : Int)) S.u64 S.rd.u8 rfl) ?_
    have e1 : IntKind.u8.wrap ((m % 128 : Nat) : Int) = ((m % 128 : Nat) : Int) := by rw [wrap_u8']; omega
    rw [e1]
    refine s_val (v_bits (op := .or) (kk := .u8) (.inr rfl) rfl rfl (or128_u8 (m % 128) (by omega))) ?_
    refine s_pushO (v := v) (l := d) (b := UInt8.ofNat (m % 128 + 128)) (w0 := w) S rfl (by simp [opBelow]) (show _ = Value.int .u8 (((UInt8.ofNat (m % 128 + 128)).toNat : Nat) : Int) by rw [UInt8.toNat_ofNat', Nat.mod_eq_of_lt (show m % 128 + 128 < 2 ^ 8 by omega)]; rfl) hM (by omega) fun _ v' w2 hM2 => ?_
    refine s_val (v_shr (kk := .u64) (k2 := .u64) (a := m) (j := 7) rfl rfl (by decide)) ?_
    have e2 : ((m : Int) / 2 ^ 7) = ((m / 128 : Nat) : Int) := by omega
    rw [e2]
    refine ⟨_, rfl, ⟨v', p, m / 128, d ++ [UInt8.ofNat (m % 128 + 128)], rfl, ?_, by omega, hM2, ?_, by simp; omega⟩, ?_⟩
    · rw [Nat.pow_succ] at hq
      exact Nat.div_lt_of_lt_mul (by rw [Nat.mul_comm]; exact hq)
    · rw [← hd, pUvN, if_pos hgt, List.append_assoc]
      rfl
    · show ((m / 128 : Nat) : Int).toNat < (m : Int).toNat
      omega
  · have hle : ¬ 127 < m := by
      have : ¬ (m : Int) > 127 := by simpa using hb
      omega
    refine s_val (v_conv (k1 := .u64) (k2 := .u8) (a := (m : Int)) S.u64 S.rd.u8 rfl) ?_
    have e1 : IntKind.u8.wrap (m : Int) = (m : Int) := by rw [wrap_u8']; omega
    rw [e1]
    refine s_pushO (v := v) (l := d) (b := UInt8.ofNat m) (w0 := w) S rfl (by simp [opBelow]) (show _ = Value.int .u8 (((UInt8.ofNat m).toNat : Nat) : Int) by rw [UInt8.toNat_ofNat', Nat.mod_eq_of_lt (show m < 2 ^ 8 by omega)]; rfl) hM (by omega) fun _ v' w2 hM2 => ?_
    have hfin : d ++ [UInt8.ofNat m] = pUv x := by
      rw [← hd]
      cases q with
      | zero => rfl
      | succ p => rw [pUvN, if_neg hle]
    rw [hfin] at hM2
    exact s_ret1 hM2

theorem pUvN_length : ∀ (q m : Nat), (pUvN q m).length ≤ q + 1
  | 0, _ => by simp [pUvN]
  | q + 1, m => by
    rw [pUvN]
    split
    · have := pUvN_length q (m / 128); simp; omega
    · simp

theorem pUv_length (m : Nat) : (pUv m).length ≤ 11 := pUvN_length 10 m

theorem counted_gives (S : SpFacts P c s) (hF : ∀ (w : World) (x : Int) (m : Nat), m ≤ 8 → YieldsO P s.fixed [.int .i64 x, .int .i64 m] w (pFixed x m)) (hU : ∀ (w : World) (x : Nat), x < 2 ^ 64 → YieldsO P s.uv [.int .u64 x] w (pUv x))
    (hT : treeIn P s.counted noOrc [.tmp 0, .tmp 1, .tmp 2, .tmp 3] 4 = tCounted c s) (fl nu : Bool) (x m : Nat) (hx : x < 2 ^ 62) (hm : m ≤ 8) : YieldsO P s.counted [.bool fl, .bool nu, .int .i64 x, .int .i64 m] w (pCounted fl nu x m) := by
  refine gives_in (ρ := en [_, _, _, _]) S.rd.mix hT (Nat.le_refl _) rfl (by simp [opBelow]) ?_
  have hlen : ∀ {k2 : Tr}, (∀ (u1 u2 : Value), k2.sem P (fun u w' => Own w' u 1 (pUv (x + 1)).length (bcells (pUv (x + 1))) ∧ (∀ b ∈ blkOf u, w.heap.size ≤ b) ∧ Keeps [] w w') [] 6 (ext (ext (en [.bool fl, .bool nu, .int .i64 x, .int .i64 m]) 4 [.int .u64 x]) 5 [.int .u64 ((x + 1 : Nat) : Int)]) w) →
      (Tr.op (.convert c.tInt c.tU64 (.tmp 2)) none [] <| Tr.op (.binOp .add c.tU64 (.tmp 4) (.const (.int .u64 1)) c.tU64) none [] k2).sem P (fun u w' => Own w' u 1 (pUv (x + 1)).length (bcells (pUv (x + 1))) ∧ (∀ b ∈ blkOf u, w.heap.size ≤ b) ∧ Keeps [] w w') [] 4 (en [.bool fl, .bool nu, .int .i64 x, .int .i64 m]) w := fun hk2 => by
    refine s_val (v_conv (k1 := .i64) (k2 := .u64) (a := (x : Int)) S.rd.int S.u64 rfl) ?_
    rw [wraps_u64 _ (by omega) (by omega)]
    refine s_val (v_arith (kk := .u64) (a := x) (b := 1) (r := ((x + 1 : Nat) : Int)) rfl rfl ?_) (hk2 undef undef)
    simp only [arithOf, Option.some.injEq]; rw [wraps_u64 _ (by omega) (by omega)]; omega
  cases fl
  · refine s_cond (b := false) rfl (fun h => by cases h) fun _ => ?_
    refine s_cond (b := false) rfl (fun h => by cases h) fun _ => ?_
    cases nu
    · refine s_cond (b := false) rfl (fun h => by cases h) fun _ => ?_
      exact s_callx (hF w x m hm) rfl fun v w' h => s_ret1 h
    · refine s_cond (b := true) rfl (fun _ => ?_) fun h => by cases h
      exact s_callx (hF w (-1) m hm) rfl fun v w' h => s_ret1 h
  · refine s_cond (b := true) rfl (fun _ => ?_) fun h => by cases h
    cases nu
    · refine s_cond (b := false) rfl (fun h => by cases h) fun _ => ?_
      refine s_cond (b := true) rfl (fun _ => ?_) fun h => by cases h
      exact hlen fun _ _ => s_callx (hU w (x + 1) (by omega)) rfl fun v w' h => s_ret1 h
    · refine s_cond (b := true) rfl (fun _ => ?_) fun h => by cases h
      exact s_litO (b := 0) S rfl fun v' w1 hM => s_ret1 hM

end

end Go.Kf

namespace Go.Kf

open Go

def tValue (c : Nums) (s : SN) : Tr :=
  .op (.box c.sTree (.tmp 5)) none [] <|
  .op (.binOp .eql c.tInt (.tmp 0) (.const (.int .i64 0)) c.tInt) none [] <|
  .cond (.tmp 7) (
    .op (.fieldAddr c.sTree (.tmp 6) 0) none [] <|
    .op (.load c.tI64 (.tmp 8)) none [] <|
    .op (.binOp .and c.tI64 (.tmp 9) (.const (.int .i64 1)) c.tI64) none [] <|
    .op (.convert c.tI64 c.tU8 (.tmp 10)) none [] <|
    .op (.buildSlice c.tBytes 1 ⟨[(0, (.tmp 11))]⟩) none [] <|
    .ret [((.tmp 12), none)]
  ) (
    .op (.binOp .eql c.tInt (.tmp 0) (.const (.int .i64 7)) c.tInt) none [] <|
    .cond (.tmp 8) (
      .op (.makeSlice c.tBytes (.const (.int .i64 16)) (.const (.int .i64 16))) none [] <|
      .op (.fieldAddr c.sTree (.tmp 6) 1) none [] <|
      .op (.load c.tBytes (.tmp 10)) none [] <|
      .op (.call { callee := (.builtin .copy), args := ⟨[(.tmp 9), (.tmp 11)]⟩, argTypes := ⟨[c.tBytes, c.tBytes]⟩ }) none [] <|
      .ret [((.tmp 9), none)]
    ) (
      .op (.binOp .eql c.tInt (.tmp 0) (.const (.int .i64 8)) c.tInt) none [] <|
      .cond (.tmp 9) (
        .op (.fieldAddr c.sTree (.tmp 6) 1) none [] <|
        .op (.load c.tBytes (.tmp 10)) none [] <|
        .op (callOp s.whole [(.tmp 11)]) none [] <|
        .join 0 (
          .cond (.tmp 2) (
            .to 0 [(.const (.slice none 0 0))]
          ) (
            .to 0 [(.tmp 12)]
          )
        ) 1 <|
        .op (.call { callee := (.builtin .len), args := ⟨[(.tmp 13)]⟩, argTypes := ⟨[c.tBytes]⟩ }) none [] <|
        .op (callOp s.counted [(.tmp 4), (.tmp 2), (.tmp 14), (.const (.int .i64 2))]) none [] <|
        .op (.call { callee := (.builtin .append), args := ⟨[(.tmp 15), (.tmp 13)]⟩, argTypes := ⟨[c.tBytes, c.tBytes]⟩ }) none [] <|
        .ret [((.tmp 16), none)]
      ) (
        .op (.binOp .eql c.tInt (.tmp 0) (.const (.int .i64 9)) c.tInt) none [] <|
        .cond (.tmp 10) (
          .op (.fieldAddr c.sTree (.tmp 6) 1) none [] <|
          .op (.load c.tBytes (.tmp 11)) none [] <|
          .op (callOp s.whole [(.tmp 12)]) none [] <|
          .join 0 (
            .cond (.tmp 2) (
              .to 0 [(.const (.slice none 0 0))]
            ) (
              .to 0 [(.tmp 13)]
            )
          ) 1 <|
          .op (.call { callee := (.builtin .len), args := ⟨[(.tmp 14)]⟩, argTypes := ⟨[c.tBytes]⟩ }) none [] <|
          .op (callOp s.counted [(.tmp 4), (.tmp 2), (.tmp 15), (.const (.int .i64 4))]) none [] <|
          .op (.call { callee := (.builtin .append), args := ⟨[(.tmp 16), (.tmp 14)]⟩, argTypes := ⟨[c.tBytes, c.tBytes]⟩ }) none [] <|
          .ret [((.tmp 17), none)]
        ) (
          .op (.binOp .eql c.tInt (.tmp 0) (.const (.int .i64 10)) c.tInt) none [] <|
          .cond (.tmp 11) (
            .op (.load c.sTree (.tmp 6)) none [] <|
            .op (callOp s.part [(.tmp 1), (.tmp 3), (.tmp 4), (.tmp 12)]) none [] <|
            .ret [((.tmp 13), none)]
          ) (
            .draw <|
            .pur (.fieldAddr c.sTree (.tmp 6) 0) none <|
            .lok (.load c.tI64 (.tmp 12)) none <|
            .op (callOp s.width [(.tmp 0)]) none [((.load c.tI64 (.tmp 12)), 13)] <|
            .op (callOp s.fixed [(.tmp 13), (.tmp 14)]) none [] <|
            .ret [((.tmp 15), none)]
          )
        )
      )
    )
  )

def tField (c : Nums) (s : SN) : Tr :=
  .op (.box s.field (.tmp 0)) none [] <|
  .op (.box c.sTree (.tmp 3)) none [] <|
  .op (.load s.field (.tmp 4)) none [] <|
  .op (.load c.sTree (.tmp 5)) none [] <|
  .op (callOp s.null [(.tmp 6), (.tmp 1), (.tmp 7)]) none [] <|
  .op (.fieldAddr s.field (.tmp 4) 0) none [] <|
  .op (.load c.tInt (.tmp 9)) none [] <|
  .op (.binOp .eql c.tInt (.tmp 10) (.const (.int .i64 11)) c.tInt) none [] <|
  .cond (.tmp 11) (
    .op (.fieldAddr c.sTree (.tmp 5) 3) none [] <|
    .op (.load c.sTrees (.tmp 12)) none [] <|
    .op (callOp s.things [(.tmp 13)]) none [] <|
    .join 0 (
      .cond (.tmp 8) (
        .to 0 [(.const (.slice none 0 0))]
      ) (
        .to 0 [(.tmp 14)]
      )
    ) 1 <|
    .op (.call { callee := (.builtin .len), args := ⟨[(.tmp 15)]⟩, argTypes := ⟨[c.sTrees]⟩ }) none [] <|
    .op (callOp s.counted [(.tmp 2), (.tmp 8), (.tmp 16), (.const (.int .i64 4))]) none [] <|
    .op (.call { callee := (.builtin .len), args := ⟨[(.tmp 15)]⟩, argTypes := ⟨[c.sTrees]⟩ }) none [] <|
    .loop 0 [(.tmp 17), (.const (.int .i64 0))] <|
    .op (.binOp .lss c.tInt (.tmp 20) (.tmp 18) c.tInt) none [] <|
    .cond (.tmp 21) (
      .draw <|
      .pur (.fieldAddr s.field (.tmp 4) 6) none <|
      .lok (.load c.tInt (.tmp 22)) none <|
      .pur (.fieldAddr s.field (.tmp 4) 7) none <|
      .lok (.load s.fields (.tmp 24)) none <|
      .pur (.indexAddr c.sTrees (.tmp 15) (.tmp 20)) none <|
      .lok (.load c.sTree (.tmp 26)) none <|
      .op (callOp s.value [(.tmp 23), (.tmp 25), (.const (.bool false)), (.tmp 1), (.tmp 2), (.tmp 27)]) none [] <|
      .op (.call { callee := (.builtin .append), args := ⟨[(.tmp 19), (.tmp 28)]⟩, argTypes := ⟨[c.tBytes, c.tBytes]⟩ }) none [] <|
      .op (.binOp .add c.tInt (.tmp 20) (.const (.int .i64 1)) c.tInt) none [] <|
      .to 0 [(.tmp 29), (.tmp 30)]
    ) (
      .ret [((.tmp 19), none)]
    )
  ) (
    .op (.fieldAddr s.field (.tmp 4) 0) none [] <|
    .op (.load c.tInt (.tmp 12)) none [] <|
    .op (.binOp .eql c.tInt (.tmp 13) (.const (.int .i64 10)) c.tInt) none [] <|
    .cond (.tmp 14) (
      .op (.fieldAddr s.field (.tmp 4) 3) none [] <|
      .op (.load c.tInt (.tmp 15)) none [] <|
      .op (.binOp .geq c.tInt (.tmp 16) (.const (.int .i64 0)) c.tInt) none [] <|
      .cond (.tmp 17) (
        .cond (.tmp 8) (
          .op (callOp s.fixed [(.const (.int .i64 (-1))), (.const (.int .i64 1))]) none [] <|
          .ret [((.tmp 18), none)]
        ) (
          .draw <|
          .pur (.fieldAddr s.field (.tmp 4) 7) none <|
          .lok (.load s.fields (.tmp 18)) none <|
          .lok (.load c.sTree (.tmp 5)) none <|
          .op (callOp s.fixed [(.const (.int .i64 1)), (.const (.int .i64 1))]) none [((.load c.sTree (.tmp 5)), 20), ((.load s.fields (.tmp 18)), 19)] <|
          .op (callOp s.part [(.tmp 19), (.tmp 1), (.tmp 2), (.tmp 20)]) none [] <|
          .op (.call { callee := (.builtin .append), args := ⟨[(.tmp 21), (.tmp 22)]⟩, argTypes := ⟨[c.tBytes, c.tBytes]⟩ }) none [] <|
          .ret [((.tmp 23), none)]
        )
      ) (
        .op (.fieldAddr s.field (.tmp 4) 0) none [] <|
        .op (.load c.tInt (.tmp 18)) none [] <|
        .op (.fieldAddr s.field (.tmp 4) 7) none [] <|
        .op (.load s.fields (.tmp 20)) none [] <|
        .op (.load c.sTree (.tmp 5)) none [] <|
        .op (callOp s.value [(.tmp 19), (.tmp 21), (.tmp 8), (.tmp 1), (.tmp 2), (.tmp 22)]) none [] <|
        .ret [((.tmp 23), none)]
      )
    ) (
      .op (.fieldAddr s.field (.tmp 4) 0) none [] <|
      .op (.load c.tInt (.tmp 15)) none [] <|
      .op (.fieldAddr s.field (.tmp 4) 7) none [] <|
      .op (.load s.fields (.tmp 17)) none [] <|
      .op (.load c.sTree (.tmp 5)) none [] <|
      .op (callOp s.value [(.tmp 16), (.tmp 18), (.tmp 8), (.tmp 1), (.tmp 2), (.tmp 19)]) none [] <|
      .ret [((.tmp 20), none)]
    )
  )

def tWrite (c : Nums) (s : SN) : Tr :=
  .op (.box s.msg (.tmp 0)) none [] <|
  .op (.box c.sTree (.tmp 2)) none [] <|
  .op (.fieldAddr s.msg (.tmp 3) 0) none [] <|
  .op (.load s.fields (.tmp 5)) none [] <|
  .op (.fieldAddr s.msg (.tmp 3) 1) none [] <|
  .op (.load c.tInt (.tmp 7)) none [] <|
  .op (.binOp .geq c.tInt (.tmp 8) (.const (.int .i64 0)) c.tInt) none [] <|
  .cond (.tmp 9) (
    .op (.fieldAddr s.msg (.tmp 3) 1) none [] <|
    .op (.load c.tInt (.tmp 10)) none [] <|
    .op (.binOp .geq c.tInt (.tmp 1) (.tmp 11) c.tInt) none [] <|
    .op (.load c.sTree (.tmp 4)) none [] <|
    .op (callOp s.part [(.tmp 6), (.tmp 1), (.tmp 12), (.tmp 13)]) none [] <|
    .ret [((.tmp 14), none)]
  ) (
    .op (.load c.sTree (.tmp 4)) none [] <|
    .op (callOp s.part [(.tmp 6), (.tmp 1), (.const (.bool false)), (.tmp 10)]) none [] <|
    .ret [((.tmp 11), none)]
  )

mutual
/-- What a tree says fits its kinds. -/
def PT.ok : PT → Prop
  | .mk n _ _ l u => IntKind.i64.wrap n = n ∧ (∀ p ∈ u, p.1 < 4294967296) ∧ PT.oks l
def PT.oks : List PT → Prop
  | [] => True
  | t :: r => t.ok ∧ PT.oks r
end

theorem PT.oks_mem : ∀ {l : List PT}, PT.oks l → ∀ t ∈ l, t.ok
  | [], _, t, h => by cases h
  | x :: l, ⟨h1, h2⟩, t, h => by
    rcases List.mem_cons.1 h with rfl | h
    · exact h1
    · exact PT.oks_mem h2 t h

theorem PT.oks_of : ∀ {l : List PT}, (∀ t ∈ l, t.ok) → PT.oks l
  | [], _ => trivial
  | x :: l, h => ⟨h x (by simp), PT.oks_of fun t ht => h t (by simp [ht])⟩

theorem PT.ok_zero : PT.zero.ok := ⟨by decide, (fun p hp => by cases hp), trivial⟩

theorem PT.ok.l {t : PT} (h : t.ok) : ∀ x ∈ t.l, x.ok := by
  cases t
  exact PT.oks_mem h.2.2

theorem PT.ok.at {t : PT} (h : t.ok) (i : Nat) : (pAt t i).ok := by
  unfold pAt
  rw [List.getD_eq_getElem?_getD]
  by_cases hi : i < t.l.length
  · rw [List.getElem?_eq_getElem hi]; exact h.l _ (List.getElem_mem hi)
  · rw [List.getElem?_eq_none (by omega)]; exact PT.ok_zero

theorem PT.ok.u {t : PT} (h : t.ok) : ∀ p ∈ t.u, p.1 < 4294967296 := by
  cases t
  exact h.2.1

theorem PT.ok.n {t : PT} (h : t.ok) : IntKind.i64.wrap t.n = t.n := by
  cases t
  exact h.1

/-- How long what is written may get. -/
def maxW : Nat := 1099511627776

section

variable {P : Program} {c : Nums} {s : SN} {R : Value → World → Prop} {Γ : List (List Value → World → Prop)} {n : Nat} {ρ : Nat → Value} {w : World} {k : Tr}

def PartOf (P : Program) (s : SN) (fs : List PF) : Prop := ∀ (w : World) (fv : Value) (v : Int) (fl : Bool) (t : PT) (ts : List Value), FieldsV w fs fv → TreeC w t ts → t.ok → (pPart fs v fl t).length ≤ maxW → YieldsO P s.part [fv, .int .i64 v, .bool fl, .agg ⟨ts⟩] w (pPart fs v fl t)

def FieldOf (P : Program) (s : SN) (f : PF) : Prop := ∀ (w : World) (v : Int) (fl : Bool) (t : PT) (cs ts : List Value), FieldC w f cs → TreeC w t ts → t.ok → (pField f v fl t).length ≤ maxW → YieldsO P s.fld [.agg ⟨cs⟩, .int .i64 v, .bool fl, .agg ⟨ts⟩] w (pField f v fl t)

/-- The reference's small functions. -/
structure Smalls (P : Program) (s : SN) : Prop where
  has : ∀ (w : World) (f : PF) (cs : List Value) (v : Int), FieldC w f cs → Yields P s.has [.agg ⟨cs⟩, .int .i64 v] w (.bool (pHas f v))
  null : ∀ (w : World) (f : PF) (t : PT) (cs ts : List Value) (v : Int), FieldC w f cs → TreeC w t ts → Yields P s.null [.agg ⟨cs⟩, .int .i64 v, .agg ⟨ts⟩] w (.bool (pNull f v t))
  whole : ∀ (w : World) (v : Value) (l : List UInt8), Ro w v 1 l.length (bcells l) → Gives P s.whole [v] w fun u w' => w' = w ∧ ∀ w0, Ro w0 v 1 l.length (bcells l) → Ro w0 u 1 (pWhole l).length (bcells (pWhole l))
  things : ∀ (w : World) (v : Value) (l : List PT) (cs : List Value), Ro w v 5 l.length cs → TreesC w l cs → Gives P s.things [v] w fun u w' => w' = w ∧ ∃ cs', Ro w u 5 (pThings l).length cs' ∧ TreesC w (pThings l) cs'
  at_ : ∀ (w : World) (t : PT) (ts : List Value) (i : Nat), TreeC w t ts → Gives P s.at_ [.agg ⟨ts⟩, .int .i64 i] w fun u w' => Keeps [] w w' ∧ ∃ cs, u = .agg ⟨cs⟩ ∧ TreeC w' (pAt t i) cs
  width : ∀ (w : World) (x : Int), Yields P s.width [.int .i64 x] w (.int .i64 (pWidth x))
  fixed : ∀ (w : World) (x : Int) (m : Nat), m ≤ 8 → YieldsO P s.fixed [.int .i64 x, .int .i64 m] w (pFixed x m)
  uv : ∀ (w : World) (x : Nat), x < 2 ^ 64 → YieldsO P s.uv [.int .u64 x] w (pUv x)
  counted : ∀ (w : World) (fl nu : Bool) (x m : Nat), x < 2 ^ 62 → m ≤ 8 → YieldsO P s.counted [.bool fl, .bool nu, .int .i64 x, .int .i64 m] w (pCounted fl nu x m)

theorem pWidth_le (k : Int) : pWidth k ≤ 8 := by
  unfold pWidth
  split
  · omega
  · split
    · omega
    · split <;> omega

/-- A call whose value is new octets. -/
theorem s_callO {f : Nat} {xs : List Operand} {args : List Value} {l : List UInt8} {Fo : List (Op × Nat)} (h : YieldsO P f args w l) (hx : xs.map (ev ρ) = args)
    (hk : ∀ v w', MadeO w w' v l → (∀ p ∈ Fo, runOp P ρ p.1 w' = .ok (.value (ρ p.2)) w') ∧ k.sem P R Γ (n + 1) (ext ρ n [v]) w') : (Tr.op (callOp f xs) none Fo k).sem P R Γ n ρ w := by
  subst hx
  exact s_call h fun v w' hp => hk v w' hp

/-- make([]byte, 16), and what is copied there. -/
theorem s_id {v : Value} {l : List UInt8} {b o : Nat} {bc : List Value} {p : Operand} (S : SpFacts P c s) (hp : ev ρ p = ptr b o) (hbp : opBelow n p) (hh : Has w b bc) (hv : bc[o + 1]? = some v) (hr : Ro w v 1 l.length (bcells l))
    (hk : ∀ v' w', MadeO w w' v' (pId l) → k.sem P R Γ (n + 4) (ext (ext (ext (ext ρ n [v']) (n + 1) [ptr b (o + 1)]) (n + 2) [v]) (n + 3) [goInt (Nat.min l.length 16)]) w') :
    (Tr.op (.makeSlice c.tBytes (.const (.int .i64 16)) (.const (.int .i64 16))) none [] <| Tr.op (.fieldAddr c.sTree p 1) none [] <| Tr.op (.load c.tBytes (.tmp (n + 1))) none [] <|
      Tr.op (.call { callee := .builtin .copy, args := ⟨[.tmp n, .tmp (n + 2)]⟩, argTypes := ⟨[c.tBytes, c.tBytes]⟩ }) none [] k).sem P R Γ n ρ w := by
  obtain ⟨inf, hi, hz, hsz, hb⟩ := S.zero8
  obtain ⟨w1, e1, h1, k1, z1⟩ := a_makeSlice (P := P) (ρ := ρ) (w := w) (x := .const (.int .i64 16)) (y := .const (.int .i64 16)) S.rd.bytes hi hz (by rw [hsz]; rfl) (by omega) rfl rfl (by decide) (by decide) (by omega) (by decide)
  refine s_act e1 (fun p hp => (by cases hp)) ?_
  have hh1 := hh.keep k1 (by simp)
  refine s_fl S.ty.f1 S.rd.oneBytes (by rw [ev_ext hbp]; exact hp) rfl hh1 hv ?_
  have hr1 := hr.keep k1
  have hy : ev (ext (ext (ext ρ n [.slice (some ⟨w.heap.size, 0, none⟩) 16 16]) (n + 1) [ptr b (o + 1)]) (n + 2) [v]) (.tmp (n + 2)) = v := ext_at
  have hx : ev (ext (ext (ext ρ n [.slice (some ⟨w.heap.size, 0, none⟩) 16 16]) (n + 1) [ptr b (o + 1)]) (n + 2) [v]) (.tmp n) = .slice (some ⟨w.heap.size, 0, none⟩) 16 16 := by
    show ext _ _ _ n = _
    rw [ext_lt (by omega), ext_lt (by omega)]; exact ext_at
  have hz16 : (List.replicate (16 : Int).toNat (Value.int .u8 0).cells.toList).flatten = List.replicate 16 (Value.int .u8 0) := rfl
  rw [hz16] at h1
  obtain ⟨w2, h2, h3, h4⟩ := storeCells_run (P := P) ((bcells l).take 16) w1 w.heap.size 0 0 _ h1 (by simp; omega) fun u hu => bcells_one l u (List.mem_of_mem_take hu)
  have hlo : (Builtin.lenOf v).run P w1 = .ok l.length w1 := by
    obtain ⟨a, cp, rfl⟩ := hr.form
    rfl
  have hfc : (Builtin.firstCells 1 (Nat.min l.length 16) v).run P w1 = .ok ⟨(bcells l).take 16⟩ w1 := by
    by_cases h0 : l.length = 0
    · have : l = [] := List.eq_nil_of_length_eq_zero h0
      subst this
      obtain ⟨a, cp, rfl⟩ := hr.form
      cases a <;> simp [Builtin.firstCells, bcells, loadCells, loadCellsFrom]
    · obtain ⟨b2, o2, cap, e2, _, hcell⟩ := hr1.at (by omega)
      subst e2
      have hm : Nat.min l.length 16 * 1 ≤ l.length := by rw [Nat.mul_one]; exact Nat.min_le_left _ _
      have h5 := loadCellsFrom_cells (P := P) (w := w1) (b := b2) (o := o2) (xs := bcells l) (fun i hi => hcell i (by rw [bcells_length] at hi; omega)) (Nat.min l.length 16 * 1) 0 #[] (by rw [bcells_length]; omega)
      unfold Builtin.firstCells
      show (loadCells ⟨b2, o2, none⟩ _).run P w1 = _
      unfold loadCells
      rw [h5]
      congr 1
      apply Array.ext'
      simp only [List.drop_zero, Array.toList_append, List.nil_append, Nat.mul_one]
      rw [show (16 : Nat) = 16 from rfl, List.take_eq_take_iff, bcells_length]
      exact Nat.min_assoc _ _ _ |>.trans (by rw [Nat.min_comm 16 l.length, ← Nat.min_assoc, Nat.min_self])
  have e3 : runOp P (ext (ext (ext ρ n [.slice (some ⟨w.heap.size, 0, none⟩) 16 16]) (n + 1) [ptr b (o + 1)]) (n + 2) [v]) (.call { callee := .builtin .copy, args := ⟨[.tmp n, .tmp (n + 2)]⟩, argTypes := ⟨[c.tBytes, c.tBytes]⟩ }) w1 = .ok (.value (goInt (Nat.min l.length 16))) w2 := by
    have e1 : (Array.map (ev (ext (ext (ext ρ n [.slice (some ⟨w.heap.size, 0, none⟩) 16 16]) (n + 1) [ptr b (o + 1)]) (n + 2) [v])) ⟨[.tmp n, .tmp (n + 2)]⟩ : Array Value) = ⟨[.slice (some ⟨w.heap.size, 0, none⟩) 16 16, v]⟩ := by
      simp only [List.map_toArray, List.map_cons, List.map_nil, hx, hy]
    unfold runOp bareOp
    simp only [execOp, resolve, pure_bind, invoke, builtin, Sem.run_bind, e1]
    unfold Builtin.copy_
    simp [run_under S.rd.bytes, size_run S.rd.szU8, hlo, hfc, h2]
  refine s_act e3 (fun p hp => (by cases hp)) (hk _ w2 ⟨⟨?_, .inr ⟨w.heap.size, 16, [], ?_, ?_, ?_, by decide, ?_⟩⟩, fun b' hb' => ?_, ?_⟩)
  · rw [bcells_length, Nat.mul_one]
  · have : (pId l).length = 16 := by simp [pId]
    rw [this]; rfl
  · have : splice (List.replicate 16 (Value.int .u8 0)) 0 ((bcells l).take 16) = bcells (pId l) ++ [] := by
      have hrep : (List.replicate 16 (Value.int .u8 0)) = bcells (List.replicate 16 0) := by simp [bcells]
      rw [hrep, List.append_nil, bcells_take]
      unfold splice pId
      rw [List.take_zero, List.nil_append, Nat.zero_add, bcells_drop, ← bcells_append, bcells_length]
      congr 1
      rw [List.take_append, List.take_replicate, List.drop_replicate]
      congr 2
      rw [List.length_take]
      omega
    rw [← this]
    exact h3
  · simp [pId]
  · simp [pId, bcells_length]
  · simp only [blkOf, List.mem_singleton] at hb'
    omega
  · exact ((k1.mono (by simp)).trans h4).less fun b hb => .inr (by simp only [List.mem_singleton] at hb; omega)

theorem pCounted_length (fl nu : Bool) (x m : Nat) : (pCounted fl nu x m).length ≤ m + 11 := by
  unfold pCounted
  split
  · split
    · simp
    · have := pUv_length (x + 1); omega
  · split <;> rw [pFixed_length] <;> omega

/-- What is written of a text, or octets: from the null, or the whole, on. -/
theorem sem_text {w0 : World} {u : Value} {l : List UInt8} {nu fl : Bool} {m : Nat} {xv : Nat} (S : SpFacts P c s) (Q : Smalls P s) (hm : m ≤ 8) (h5 : 5 ≤ n) (hx : ρ xv = u) (h2 : ρ 2 = .bool nu) (h4 : ρ 4 = .bool fl) (hk0 : Keeps [] w0 w) (hu : Ro w u 1 (pWhole l).length (bcells (pWhole l)))
    (hR : ∀ v w', MadeO w0 w' v (let s := if nu then [] else pWhole l; pCounted fl nu s.length m ++ s) → R v w') :
    (Tr.join 0 (.cond (.tmp 2) (.to 0 [.const (.slice none 0 0)]) (.to 0 [.tmp xv])) 1 <|
      Tr.op (.call { callee := .builtin .len, args := ⟨[.tmp n]⟩, argTypes := ⟨[c.tBytes]⟩ }) none [] <|
      Tr.op (callOp s.counted [.tmp 4, .tmp 2, .tmp (n + 1), .const (.int .i64 m)]) none [] <|
      Tr.op (.call { callee := .builtin .append, args := ⟨[.tmp (n + 2), .tmp n]⟩, argTypes := ⟨[c.tBytes, c.tBytes]⟩ }) none [] <| .ret [(.tmp (n + 3), none)]).sem P R [] n ρ w := by
  refine ⟨rfl, fun vs w' => w' = w ∧ ∃ v, vs = [v] ∧ Ro w v 1 (if nu then [] else pWhole l).length (bcells (if nu then [] else pWhole l)), ?_, ?_⟩
  · refine s_cond (b := nu) h2 (fun hb => ⟨_, rfl, rfl, _, rfl, ?_⟩) fun hb => ⟨_, rfl, rfl, _, rfl, ?_⟩
    · rw [hb]; exact Ro.nil w 1
    · rw [hb]
      show Ro w (ρ xv) 1 _ _
      rw [hx]
      exact hu
  · rintro vs w' _ ⟨rfl, v, rfl, hr⟩
    have hlen : (if nu then [] else pWhole l).length ≤ 32767 := by
      split
      · simp
      · unfold pWhole; rw [List.length_take]; omega
    obtain ⟨a, cp, e⟩ := hr.form
    refine s_val (v_len (a := a) (l := (if nu then [] else pWhole l).length) (c := cp) S.rd.bytes (ext_at.trans e)) ?_
    refine s_callO (Q.counted w' fl nu (if nu then [] else pWhole l).length m (by omega) hm) ?_ fun v2 w2 hM => ⟨fun p hp => (by cases hp), ?_⟩
    · have e4 : ev (ext (ext ρ n [v]) (n + 1) [.int .i64 ((if nu then [] else pWhole l).length : Nat)]) (.tmp 4) = .bool fl := by show ext _ _ _ 4 = _; rw [ext_lt (by omega), ext_lt (by omega)]; exact h4
      have e2 : ev (ext (ext ρ n [v]) (n + 1) [.int .i64 ((if nu then [] else pWhole l).length : Nat)]) (.tmp 2) = .bool nu := by show ext _ _ _ 2 = _; rw [ext_lt (by omega), ext_lt (by omega)]; exact h2
      have e1 : ev (ext (ext ρ n [v]) (n + 1) [.int .i64 ((if nu then [] else pWhole l).length : Nat)]) (.tmp (n + 1)) = .int .i64 ((if nu then [] else pWhole l).length : Nat) := ext_at
      simp only [List.map_cons, List.map_nil, e4, e2, e1]
      rfl
    · have hM0 : MadeO w0 w2 v2 _ := ⟨hM.1, fun b hb => Nat.le_trans hk0.size (hM.2.1 b hb), hk0.trans hM.2.2⟩
      have ev1 : ev (ext (ext (ext ρ n [v]) (n + 1) [.int .i64 ((if nu then [] else pWhole l).length : Nat)]) (n + 2) [v2]) (.tmp n) = v := by show ext _ _ _ n = _; rw [ext_lt (by omega), ext_lt (by omega)]; exact ext_at
      refine s_appendO (v := v2) (u := v) (l2 := if nu then [] else pWhole l) S ext_at ev1 hM0 ((hr.keep hM.2.2).src S.rd.bytes (bcells_one _)) ?_ fun v3 w3 hM3 _ => ⟨fun p hp => (by cases hp), s_ret1 (hR _ _ ?_)⟩
      · have := pCounted_length fl nu (if nu then [] else pWhole l).length m
        rw [List.length_append]
        omega
      · show MadeO w0 w3 (ext _ _ _ _) _
        rw [ext_at]
        exact hM3

theorem value_gives (S : SpFacts P c s) (Q : Smalls P s) (hT : treeIn P s.value noOrc [.tmp 0, .tmp 1, .tmp 2, .tmp 3, .tmp 4, .tmp 5] 6 = tValue c s) {sub : List PF} (hP : PartOf P s sub) {fv : Value} {t : PT} {ts : List Value} (kind : Int) (nu fl : Bool) (v : Int) (hf : FieldsV w sub fv) (ht : TreeC w t ts) (hok : t.ok)
    (hl : (pValue (fun y => pPart sub v fl y) kind nu fl t).length ≤ maxW) : YieldsO P s.value [.int .i64 kind, fv, .bool nu, .int .i64 v, .bool fl, .agg ⟨ts⟩] w (pValue (fun y => pPart sub v fl y) kind nu fl t) := by
  have htc := ht
  obtain ⟨sv, lv, uv, lcs, ucs, rfl, h1, h2, h3, h4, h5⟩ := ht.cells
  refine gives_in (ρ := en [_, _, _, _, _, _]) S.rd.mix hT (Nat.le_refl _) rfl (by simp [opBelow]) ?_
  unfold pValue at hl ⊢
  refine s_box rfl fun w1 hx1 k1 z1 => ?_
  refine s_val (v_cmp (kk := .i64) (a := kind) (b := 0) (r := kind == 0) rfl rfl rfl) ?_
  refine s_cond (b := kind == 0) rfl (fun hb => ?_) fun hb => ?_
  · rw [if_pos (by simpa using hb)]
    refine s_fl S.ty.f0 S.ty.oneI64 rfl rfl hx1 rfl ?_
    refine s_val (v_bits (op := .and) (kk := .i64) (.inl rfl) rfl rfl (and1_i64 t.n)) ?_
    refine s_val (v_conv (k1 := .i64) (k2 := .u8) (a := t.n % 2) S.ty.i64 S.rd.u8 rfl) ?_
    refine s_litO (b := UInt8.ofNat (t.n % 2).toNat) S ?_ fun v' w2 hM => s_ret1 ⟨hM.1, fun b hb => Nat.le_trans k1.size (hM.2.1 b hb), k1.trans hM.2.2⟩
    show Value.int .u8 (IntKind.u8.wrap (t.n % 2)) = _
    rw [wrap_u8', UInt8.toNat_ofNat']
    congr 1
    omega
  rw [if_neg (by simpa using hb)] at hl ⊢
  refine s_val (v_cmp (kk := .i64) (a := kind) (b := 7) (r := kind == 7) rfl rfl rfl) ?_
  refine s_cond (b := kind == 7) rfl (fun hb => ?_) fun hb => ?_
  · rw [if_pos (by simpa using hb)]
    refine s_id (v := sv) (l := t.s) (b := w.heap.size) (o := 0) S rfl (by simp [opBelow]) hx1 rfl (h1.keep k1) fun v' w2 hM => s_ret1 ⟨hM.1, fun b hb => Nat.le_trans k1.size (hM.2.1 b hb), k1.trans hM.2.2⟩
  rw [if_neg (by simpa using hb)] at hl ⊢
  refine s_val (v_cmp (kk := .i64) (a := kind) (b := 8) (r := kind == 8) rfl rfl rfl) ?_
  refine s_cond (b := kind == 8) rfl (fun hb => ?_) fun hb => ?_
  · rw [if_pos (by simpa using hb)]
    refine s_fl S.ty.f1 S.rd.oneBytes rfl rfl hx1 rfl ?_
    refine s_callx (Q.whole w1 sv t.s (h1.keep k1)) rfl fun u w2 ⟨hw, hu⟩ => ?_
    subst hw
    exact sem_text (w0 := w) (xv := 12) S Q (by decide) (by decide) rfl rfl rfl k1 (hu _ (h1.keep k1)) fun v w' h => h
  rw [if_neg (by simpa using hb)] at hl ⊢
  refine s_val (v_cmp (kk := .i64) (a := kind) (b := 9) (r := kind == 9) rfl rfl rfl) ?_
  refine s_cond (b := kind == 9) rfl (fun hb => ?_) fun hb => ?_
  · rw [if_pos (by simpa using hb)]
    refine s_fl S.ty.f1 S.rd.oneBytes rfl rfl hx1 rfl ?_
    refine s_callx (Q.whole w1 sv t.s (h1.keep k1)) rfl fun u w2 ⟨hw, hu⟩ => ?_
    subst hw
    exact sem_text (w0 := w) (xv := 13) S Q (by decide) (by decide) rfl rfl rfl k1 (hu _ (h1.keep k1)) fun v w' h => h
  rw [if_neg (by simpa using hb)] at hl ⊢
  refine s_val (v_cmp (kk := .i64) (a := kind) (b := 10) (r := kind == 10) rfl rfl rfl) ?_
  refine s_cond (b := kind == 10) rfl (fun hb => ?_) fun hb => ?_
  · rw [if_pos (by simpa using hb)] at hl ⊢
    refine s_lok (l_loadN (b := w.heap.size) (o := 0) S.ty.agg rfl hx1 (show 0 + 5 ≤ 5 by omega)) ?_
    refine s_callO (hP w1 fv v fl t _ (hf.keep k1) (TreeC.keep k1 _ _ htc) hok hl) rfl fun v' w2 hM => ⟨fun p hp => (by cases hp), s_ret1 ⟨hM.1, fun b hb => Nat.le_trans k1.size (hM.2.1 b hb), k1.trans hM.2.2⟩⟩
  rw [if_neg (by simpa using hb)] at hl ⊢
  show Tr.sem _ _ _ _ _ _ { w1 with drawn := w1.drawn + 1 }
  have hd : Keeps [] w1 { w1 with drawn := w1.drawn + 1 } := keeps_drawn w1 _ _
  generalize ({ w1 with drawn := w1.drawn + 1 } : World) = w2 at hd ⊢
  have hx2 := hx1.keep hd (by simp)
  refine p_fl S.ty.f0 S.ty.oneI64 rfl rfl hx2 rfl ?_
  refine s_call (xs := [.tmp 0]) (Q.width w2 kind) fun u w3 ⟨hu, k3⟩ => ⟨?_, ?_⟩
  · intro p hp
    simp only [List.mem_singleton] at hp
    subst hp
    exact l_load1 (b := w.heap.size) (o := 0) S.ty.oneI64 rfl (hx2.keep k3 (by simp)) rfl
  · subst hu
    refine s_callO (Q.fixed w3 t.n (pWidth kind) (pWidth_le kind)) rfl fun v' w4 hM => ⟨fun p hp => (by cases hp), s_ret1 ?_⟩
    have k03 := (k1.trans hd).trans k3
    exact ⟨hM.1, fun b hb => Nat.le_trans k03.size (hM.2.1 b hb), k03.trans hM.2.2⟩

end

end Go.Kf

namespace Go.Kf

open Go

section

variable {P : Program} {c : Nums} {s : SN} {R : Value → World → Prop} {Γ : List (List Value → World → Prop)} {n : Nat} {ρ : Nat → Value} {w : World} {k : Tr}

theorem MadeO.under {w0 w1 : World} {v : Value} {l : List UInt8} (h : MadeO w1 w v l) (hk : Keeps [] w0 w1) : MadeO w0 w v l := ⟨h.1, fun b hb => Nat.le_trans hk.size (h.2.1 b hb), hk.trans h.2.2⟩

def ValueOf (P : Program) (s : SN) (sub : List PF) : Prop := ∀ (w : World) (fv : Value) (t : PT) (ts : List Value) (kind : Int) (nu fl : Bool) (v : Int), FieldsV w sub fv → TreeC w t ts → t.ok → (pValue (fun y => pPart sub v fl y) kind nu fl t).length ≤ maxW →
  YieldsO P s.value [.int .i64 kind, fv, .bool nu, .int .i64 v, .bool fl, .agg ⟨ts⟩] w (pValue (fun y => pPart sub v fl y) kind nu fl t)

theorem flatten_take {f : PT → List UInt8} {l : List PT} {j : Nat} (hj : j < l.length) : ((l.take (j + 1)).map f).flatten = ((l.take j).map f).flatten ++ f l[j] := by
  rw [List.take_succ_eq_append_getElem hj, List.map_append, List.flatten_append]
  simp

theorem flatten_le {f : PT → List UInt8} {l : List PT} (j : Nat) : ((l.take j).map f).flatten.length ≤ (l.map f).flatten.length := by
  have h : (l.map f).flatten = ((l.take j).map f).flatten ++ ((l.drop j).map f).flatten := by
    rw [← List.flatten_append, ← List.map_append, List.take_append_drop]
  rw [h, List.length_append]
  omega

theorem field_step (S : SpFacts P c s) (Q : Smalls P s) (hT : treeIn P s.fld noOrc [.tmp 0, .tmp 1, .tmp 2, .tmp 3] 4 = tField c s) {f : PF} (hV : ValueOf P s f.sub) (hP : PartOf P s f.sub) : FieldOf P s f := by
  intro w v fl t cs ts hfc ht hok hl
  rw [pField_eq] at hl ⊢
  have hfc0 := hfc
  obtain ⟨fv, rfl, hfs⟩ := hfc.cells
  have htc := ht
  obtain ⟨sv, lv, uv, lcs, ucs, rfl, h1, h2, h3, h4, h5⟩ := ht.cells
  refine gives_in (ρ := en [_, _, _, _]) S.rd.mix hT (Nat.le_refl _) rfl (by simp [opBelow]) ?_
  refine s_box rfl fun w1 hx1 k1 z1 => ?_
  refine s_box rfl fun w2 hy2 k2 z2 => ?_
  have hx2 := hx1.keep k2 (by simp)
  have k02 : Keeps [] w w2 := k1.trans k2
  refine s_lok (l_loadN (b := w.heap.size) (o := 0) S.agg rfl hx2 (show 0 + 8 ≤ 8 by omega)) ?_
  refine s_lok (l_loadN (b := w1.heap.size) (o := 0) S.ty.agg rfl hy2 (show 0 + 5 ≤ 5 by omega)) ?_
  refine s_callx (Q.null w2 f t _ _ v (FieldC.keep k02 _ _ hfc0) (TreeC.keep k02 _ _ htc)) rfl fun u w3 ⟨hu, k3⟩ => ?_
  subst hu
  have k03 := k02.trans k3
  have hx3 := hx2.keep k3 (by simp)
  have hy3 := hy2.keep k3 (by simp)
  refine s_fl S.f0 S.oneInt rfl rfl hx3 rfl ?_
  refine s_val (v_cmp (kk := .i64) (a := f.kind) (b := 11) (r := f.kind == 11) rfl rfl rfl) ?_
  unfold pFieldOf at hl ⊢
  simp only at hl ⊢
  refine s_cond (b := f.kind == 11) rfl (fun hb => ?_) fun hb => ?_
  · rw [if_pos (by simpa using hb)] at hl ⊢
    refine s_fl S.ty.f3 S.ty.oneTrees rfl rfl hy3 rfl ?_
    refine s_callx (Q.things w3 lv t.l lcs (h2.keep k03) (TreesC.keep k03 _ _ h3)) rfl fun u w4 ⟨hw, tcs, hr, htr⟩ => ?_
    subst hw
    generalize hll : (if pNull f v t = true then [] else pThings t.l) = l at hl ⊢
    have hl7 : l.length ≤ 32767 := by
      rw [← hll]
      split
      · simp
      · unfold pThings; rw [List.length_take]; omega
    have hlok : ∀ x ∈ l, x.ok := by
      intro x hx
      rw [← hll] at hx
      split at hx
      · cases hx
      · exact hok.l x (List.mem_of_mem_take hx)
    refine ⟨rfl, fun vs w' => w' = w4 ∧ ∃ u, vs = [u] ∧ ∃ cs', Ro w4 u 5 l.length cs' ∧ TreesC w4 l cs', ?_, ?_⟩
    · refine s_cond (b := pNull f v t) rfl (fun hb => ⟨_, rfl, rfl, _, rfl, ?_⟩) fun hb => ⟨_, rfl, rfl, _, rfl, ?_⟩
      · rw [hb] at hll
        subst hll
        exact ⟨[], Ro.nil w4 5, rfl⟩
      · rw [hb] at hll
        subst hll
        exact ⟨tcs, hr, htr⟩
    · rintro vs w' _ ⟨rfl, u, rfl, cs', hr', htr'⟩
      obtain ⟨a, cp, e⟩ := hr'.form
      refine s_val (v_len (a := a) (l := l.length) (c := cp) S.ty.sl e) ?_
      refine s_callO (Q.counted w' fl (pNull f v t) l.length 4 (by omega) (by decide)) rfl fun v2 w5 hM => ⟨fun p hp => (by cases hp), ?_⟩
      refine s_val (v_len (a := a) (l := l.length) (c := cp) S.ty.sl e) ?_
      have k35 := hM.2.2
      refine s_countV (n := 19) (q := 18) (kk := .i64) (m := l.length) (ri := [.tmp 17]) (Γ := []) (fun j vr w'' => ∃ acc, vr = [acc] ∧ MadeO w' w'' acc (pCounted fl (pNull f v t) l.length 4 ++ ((l.take j).map fun x => pValue (fun y => pPart f.sub v fl y) f.elem false fl x).flatten)) (by omega) rfl
        ⟨v2, rfl, by simpa using hM⟩ ?_ ?_
      · rintro j hj w6 vr ⟨acc, rfl, hA⟩ hvr J hJ
        have hj' : j < l.length := by omega
        show Tr.sem _ _ _ _ _ _ { w6 with drawn := w6.drawn + 1 }
        have hd : Keeps [] w6 { w6 with drawn := w6.drawn + 1 } := keeps_drawn w6 _ _
        have hA7 := hA.drawn (w6.drawn + 1)
        generalize ({ w6 with drawn := w6.drawn + 1 } : World) = w7 at hd hA7 ⊢
        have k37 : Keeps [] w' w7 := hA.2.2.trans hd
        have k07 := k03.trans k37
        have hx7 := hx3.keep k37 (by simp)
        refine p_fl S.f6 S.oneInt rfl rfl hx7 rfl ?_
        refine p_fl S.f7 S.oneFields rfl rfl hx7 rfl ?_
        obtain ⟨b, o, cap, e2, hbl, hel, hcell⟩ := (hr'.keep k37).elem hj' (by omega)
        have htj := TreesC.get (TreesC.keep k37 _ _ htr') hj'
        refine p_val (v_indexAddr (b := b) (o := o) (l := l.length) (c := cap) (j := j) (kk := .i64) S.ty.sl S.szT e2 rfl (by omega) (by omega)) ?_
        rw [Int.toNat_natCast]
        refine l_lok (l_cellN (b := b) (o := o + j * 5) S.ty.agg ext_at hel hcell) ?_
        rw [List.length_append] at hl
        have hle1 := flatten_le (f := fun x => pValue (fun y => pPart f.sub v fl y) f.elem false fl x) (l := l) (j + 1)
        rw [flatten_take hj', List.length_append] at hle1
        have hlj : (pValue (fun y => pPart f.sub v fl y) f.elem false fl l[j]).length ≤ maxW := by omega
        refine s_callO (hV w7 fv l[j] _ f.elem false fl v (hfs.keep k07) htj (hlok _ (List.getElem_mem hj')) hlj) rfl fun v3 w8 hM8 => ⟨fun p hp => (by cases hp), ?_⟩
        refine s_appendO (v := acc) (u := v3) (l2 := pValue (fun y => pPart f.sub v fl y) f.elem false fl l[j]) S rfl rfl (hA7.more hM8.2.2) (hM8.1.reads.src S.rd.bytes (bcells_one _)) (by simp only [List.length_append, maxW] at hl hle1 ⊢; omega) fun v4 w9 hM9 _ => ⟨fun p hp => (by cases hp), ?_⟩
        refine s_val (v_arith (kk := .i64) (a := j) (b := 1) (r := ((j + 1 : Nat) : Int)) rfl rfl ?_) ?_
        · simp only [arithOf, Option.some.injEq]; rw [IntKind.wrap_i64]; omega
        refine ⟨J, rfl, hJ [v4] _ rfl ⟨v4, rfl, ?_⟩⟩
        · rw [flatten_take hj', ← List.append_assoc]
          exact hM9
      · rintro w6 vr J ⟨acc, rfl, hA⟩ hvr
        rw [Int.toNat_natCast, List.take_length] at hA
        exact s_ret1 (hA.under k03)
  · have hne : ¬ f.kind = 11 := by simpa using hb
    rw [if_neg hne] at hl ⊢
    refine s_fl S.f0 S.oneInt rfl rfl hx3 rfl ?_
    refine s_val (v_cmp (kk := .i64) (a := f.kind) (b := 10) (r := f.kind == 10) rfl rfl rfl) ?_
    refine s_cond (b := f.kind == 10) rfl (fun hb2 => ?_) fun hb2 => ?_
    · have h10 : f.kind = 10 := by simpa using hb2
      refine s_fl S.f3 S.oneInt rfl rfl hx3 rfl ?_
      refine s_val (v_cmp (kk := .i64) (a := f.nul) (b := 0) (r := decide (f.nul ≥ 0)) rfl rfl rfl) ?_
      refine s_cond (b := decide (f.nul ≥ 0)) rfl (fun hb3 => ?_) fun hb3 => ?_
      · rw [if_pos ⟨h10, by simpa using hb3⟩] at hl ⊢
        refine s_cond (b := pNull f v t) rfl (fun hb4 => ?_) fun hb4 => ?_
        · rw [if_pos hb4]
          exact s_callO (Q.fixed w3 (-1) 1 (by decide)) rfl fun v2 w4 hM => ⟨fun p hp => (by cases hp), s_ret1 (hM.under k03)⟩
        · rw [if_neg (by simp [hb4])] at hl ⊢
          show Tr.sem _ _ _ _ _ _ { w3 with drawn := w3.drawn + 1 }
          have hd : Keeps [] w3 { w3 with drawn := w3.drawn + 1 } := keeps_drawn w3 _ _
          generalize ({ w3 with drawn := w3.drawn + 1 } : World) = w4 at hd ⊢
          have hx4 := hx3.keep hd (by simp)
          have hy4 := hy3.keep hd (by simp)
          have k04 := k03.trans hd
          refine p_fl S.f7 S.oneFields rfl rfl hx4 rfl ?_
          refine l_lok (l_loadN (b := w1.heap.size) (o := 0) S.ty.agg rfl hy4 (show 0 + 5 ≤ 5 by omega)) ?_
          refine s_callO (Q.fixed w4 1 1 (by decide)) rfl fun v2 w5 hM => ⟨fun p hp => ?_, ?_⟩
          · simp only [List.mem_cons, List.not_mem_nil, or_false] at hp
            rcases hp with rfl | rfl
            · exact l_loadN (b := w1.heap.size) (o := 0) S.ty.agg rfl (hy4.keep hM.2.2 (by simp)) (show 0 + 5 ≤ 5 by omega)
            · exact l_load1 (b := w.heap.size) (o := 7) S.oneFields rfl (hx4.keep hM.2.2 (by simp)) rfl
          · have k05 := k04.trans hM.2.2
            rw [List.length_append] at hl
            refine s_callO (hP w5 fv v fl t _ (hfs.keep k05) (TreeC.keep k05 _ _ htc) hok (by omega)) rfl fun v3 w6 hM6 => ⟨fun p hp => (by cases hp), ?_⟩
            exact s_appendO (v := v2) (u := v3) (l2 := pPart f.sub v fl t) S rfl rfl ((hM.under k04).more hM6.2.2) (hM6.1.reads.src S.rd.bytes (bcells_one _)) (by rw [List.length_append]; exact hl) fun v4 w9 hM9 _ => ⟨fun p hp => (by cases hp), s_ret1 hM9⟩
      · rw [if_neg (fun hh => by simp at hb3; omega)] at hl ⊢
        refine s_fl S.f0 S.oneInt rfl rfl hx3 rfl (s_fl S.f7 S.oneFields rfl rfl hx3 rfl ?_)
        refine s_lok (l_loadN (b := w1.heap.size) (o := 0) S.ty.agg rfl hy3 (show 0 + 5 ≤ 5 by omega)) ?_
        exact s_callO (hV w3 fv t _ f.kind (pNull f v t) fl v (hfs.keep k03) (TreeC.keep k03 _ _ htc) hok hl) rfl fun v2 w4 hM => ⟨fun p hp => (by cases hp), s_ret1 (hM.under k03)⟩
    · rw [if_neg (fun hh => by simp at hb2; omega)] at hl ⊢
      refine s_fl S.f0 S.oneInt rfl rfl hx3 rfl (s_fl S.f7 S.oneFields rfl rfl hx3 rfl ?_)
      refine s_lok (l_loadN (b := w1.heap.size) (o := 0) S.ty.agg rfl hy3 (show 0 + 5 ≤ 5 by omega)) ?_
      exact s_callO (hV w3 fv t _ f.kind (pNull f v t) fl v (hfs.keep k03) (TreeC.keep k03 _ _ htc) hok hl) rfl fun v2 w4 hM => ⟨fun p hp => (by cases hp), s_ret1 (hM.under k03)⟩

end

end Go.Kf

namespace Go.Kf

open Go

def tPart (c : Nums) (s : SN) : Tr :=
  .op (.box c.sTree (.tmp 3)) none [] <|
  .op (.call { callee := (.builtin .len), args := ⟨[(.tmp 0)]⟩, argTypes := ⟨[s.fields]⟩ }) none [] <|
  .loop 0 [(.const (.slice none 0 0)), (.const (.int .i64 0))] <|
  .op (.binOp .lss c.tInt (.tmp 7) (.tmp 5) c.tInt) none [] <|
  .cond (.tmp 8) (
    .op (.indexAddr s.fields (.tmp 0) (.tmp 7)) none [] <|
    .op (.load s.field (.tmp 9)) none [] <|
    .op (.alloc s.field) none [] <|
    .op (.store s.field (.tmp 11) (.tmp 10)) none [] <|
    .op (.fieldAddr s.field (.tmp 11) 4) none [] <|
    .op (.load c.tInt (.tmp 13)) none [] <|
    .op (.binOp .lss c.tInt (.tmp 14) (.const (.int .i64 0)) c.tInt) none [] <|
    .cond (.tmp 15) (
      .op (.load s.field (.tmp 11)) none [] <|
      .op (callOp s.has [(.tmp 16), (.tmp 1)]) none [] <|
      .join 1 (
        .cond (.tmp 17) (
          .draw <|
          .lok (.load s.field (.tmp 11)) none <|
          .lok (.load c.sTree (.tmp 4)) none <|
          .op (callOp s.at_ [(.tmp 19), (.tmp 7)]) none [((.load s.field (.tmp 11)), 18)] <|
          .op (callOp s.fld [(.tmp 18), (.tmp 1), (.tmp 2), (.tmp 20)]) none [] <|
          .op (.call { callee := (.builtin .append), args := ⟨[(.tmp 6), (.tmp 21)]⟩, argTypes := ⟨[c.tBytes, c.tBytes]⟩ }) none [] <|
          .to 1 [(.tmp 22)]
        ) (
          .to 1 [(.tmp 6)]
        )
      ) 1 <|
      .op (.binOp .add c.tInt (.tmp 7) (.const (.int .i64 1)) c.tInt) none [] <|
      .to 0 [(.tmp 18), (.tmp 19)]
    ) (
      .op (.binOp .add c.tInt (.tmp 7) (.const (.int .i64 1)) c.tInt) none [] <|
      .to 0 [(.tmp 6), (.tmp 16)]
    )
  ) (
    .op (.unOp .not c.tBool (.tmp 2)) none [] <|
    .cond (.tmp 9) (
      .ret [((.tmp 6), none)]
    ) (
      .op (callOp s.known [(.tmp 0)]) none [] <|
      .op (.convert c.tU32 c.tInt (.tmp 10)) none [] <|
      .loop 1 [(.const (.slice none 0 0)), (.const (.int .i64 0)), (.const (.int .i64 0))] <|
      .op (.binOp .lss c.tInt (.tmp 14) (.tmp 11) c.tInt) none [] <|
      .cond (.tmp 15) (
        .op (.call { callee := (.builtin .len), args := ⟨[(.tmp 0)]⟩, argTypes := ⟨[s.fields]⟩ }) none [] <|
        .loop 2 [(.tmp 12), (.tmp 13), (.const (.int .i64 0))] <|
        .op (.binOp .lss c.tInt (.tmp 19) (.tmp 16) c.tInt) none [] <|
        .cond (.tmp 20) (
          .op (.indexAddr s.fields (.tmp 0) (.tmp 19)) none [] <|
          .op (.load s.field (.tmp 21)) none [] <|
          .op (.alloc s.field) none [] <|
          .op (.store s.field (.tmp 23) (.tmp 22)) none [] <|
          .draw <|
          .pur (.fieldAddr s.field (.tmp 23) 4) none <|
          .lok (.load c.tInt (.tmp 25)) none <|
          .pur (.binOp .eql c.tInt (.tmp 26) (.tmp 14) c.tInt) none <|
          .cond (.tmp 27) (
            .lok (.load s.field (.tmp 23)) none <|
            .lok (.load c.sTree (.tmp 4)) none <|
            .op (callOp s.at_ [(.tmp 29), (.tmp 19)]) none [((.load s.field (.tmp 23)), 28), ((.load c.tInt (.tmp 25)), 26)] <|
            .op (callOp s.usual [(.tmp 28), (.tmp 30)]) none [((.load c.tInt (.tmp 25)), 26)] <|
            .pur (.unOp .not c.tBool (.tmp 31)) none <|
            .join 3 (
              .cond (.tmp 32) (
                .draw <|
                .lok (.load s.field (.tmp 23)) none <|
                .lok (.load c.sTree (.tmp 4)) none <|
                .op (callOp s.at_ [(.tmp 34), (.tmp 19)]) none [((.load s.field (.tmp 23)), 33)] <|
                .op (callOp s.fld [(.tmp 33), (.tmp 1), (.tmp 2), (.tmp 35)]) none [] <|
                .op (.convert c.tInt c.tU64 (.tmp 14)) none [] <|
                .op (callOp s.uv [(.tmp 37)]) none [] <|
                .op (.call { callee := (.builtin .append), args := ⟨[(.tmp 17), (.tmp 38)]⟩, argTypes := ⟨[c.tBytes, c.tBytes]⟩ }) none [] <|
                .op (.call { callee := (.builtin .len), args := ⟨[(.tmp 36)]⟩, argTypes := ⟨[c.tBytes]⟩ }) none [] <|
                .op (.convert c.tInt c.tU64 (.tmp 40)) none [] <|
                .op (callOp s.uv [(.tmp 41)]) none [] <|
                .op (.call { callee := (.builtin .append), args := ⟨[(.tmp 39), (.tmp 42)]⟩, argTypes := ⟨[c.tBytes, c.tBytes]⟩ }) none [] <|
                .op (.call { callee := (.builtin .append), args := ⟨[(.tmp 43), (.tmp 36)]⟩, argTypes := ⟨[c.tBytes, c.tBytes]⟩ }) none [] <|
                .op (.binOp .add c.tInt (.tmp 18) (.const (.int .i64 1)) c.tInt) none [] <|
                .to 3 [(.tmp 44), (.tmp 45)]
              ) (
                .to 3 [(.tmp 17), (.tmp 18)]
              )
            ) 2 <|
            .op (.binOp .add c.tInt (.tmp 19) (.const (.int .i64 1)) c.tInt) none [] <|
            .to 2 [(.tmp 33), (.tmp 34), (.tmp 35)]
          ) (
            .op (.binOp .add c.tInt (.tmp 19) (.const (.int .i64 1)) c.tInt) none [] <|
            .to 2 [(.tmp 17), (.tmp 18), (.tmp 28)]
          )
        ) (
          .op (.binOp .add c.tInt (.tmp 14) (.const (.int .i64 1)) c.tInt) none [] <|
          .to 1 [(.tmp 17), (.tmp 18), (.tmp 21)]
        )
      ) (
        .op (.fieldAddr c.sTree (.tmp 4) 4) none [] <|
        .op (.load c.sTagL (.tmp 16)) none [] <|
        .op (callOp s.unknown [(.tmp 0), (.tmp 17)]) none [] <|
        .op (.call { callee := (.builtin .len), args := ⟨[(.tmp 18)]⟩, argTypes := ⟨[c.sTagL]⟩ }) none [] <|
        .loop 2 [(.tmp 12), (.tmp 13), (.const (.int .i64 0))] <|
        .op (.binOp .lss c.tInt (.tmp 22) (.tmp 19) c.tInt) none [] <|
        .cond (.tmp 23) (
          .op (.indexAddr c.sTagL (.tmp 18) (.tmp 22)) none [] <|
          .op (.load c.sTag (.tmp 24)) none [] <|
          .op (.alloc c.sTag) none [] <|
          .op (.store c.sTag (.tmp 26) (.tmp 25)) none [] <|
          .op (.fieldAddr c.sTag (.tmp 26) 1) none [] <|
          .op (.load c.tBytes (.tmp 28)) none [] <|
          .op (callOp s.whole [(.tmp 29)]) none [] <|
          .op (.fieldAddr c.sTag (.tmp 26) 0) none [] <|
          .op (.load c.tU32 (.tmp 31)) none [] <|
          .op (.convert c.tU32 c.tU64 (.tmp 32)) none [] <|
          .op (callOp s.uv [(.tmp 33)]) none [] <|
          .op (.call { callee := (.builtin .append), args := ⟨[(.tmp 20), (.tmp 34)]⟩, argTypes := ⟨[c.tBytes, c.tBytes]⟩ }) none [] <|
          .op (.call { callee := (.builtin .len), args := ⟨[(.tmp 30)]⟩, argTypes := ⟨[c.tBytes]⟩ }) none [] <|
          .op (.convert c.tInt c.tU64 (.tmp 36)) none [] <|
          .op (callOp s.uv [(.tmp 37)]) none [] <|
          .op (.call { callee := (.builtin .append), args := ⟨[(.tmp 35), (.tmp 38)]⟩, argTypes := ⟨[c.tBytes, c.tBytes]⟩ }) none [] <|
          .op (.call { callee := (.builtin .append), args := ⟨[(.tmp 39), (.tmp 30)]⟩, argTypes := ⟨[c.tBytes, c.tBytes]⟩ }) none [] <|
          .op (.binOp .add c.tInt (.tmp 21) (.const (.int .i64 1)) c.tInt) none [] <|
          .op (.binOp .add c.tInt (.tmp 22) (.const (.int .i64 1)) c.tInt) none [] <|
          .to 2 [(.tmp 40), (.tmp 41), (.tmp 42)]
        ) (
          .op (.convert c.tInt c.tU64 (.tmp 21)) none [] <|
          .op (callOp s.uv [(.tmp 24)]) none [] <|
          .op (.call { callee := (.builtin .append), args := ⟨[(.tmp 6), (.tmp 25)]⟩, argTypes := ⟨[c.tBytes, c.tBytes]⟩ }) none [] <|
          .op (.call { callee := (.builtin .append), args := ⟨[(.tmp 26), (.tmp 20)]⟩, argTypes := ⟨[c.tBytes, c.tBytes]⟩ }) none [] <|
          .ret [((.tmp 27), none)]
        )
      )
    )
  )

def tKnown (c : Nums) (s : SN) : Tr :=
  .op (.call { callee := (.builtin .len), args := ⟨[(.tmp 0)]⟩, argTypes := ⟨[s.fields]⟩ }) none [] <|
  .loop 0 [(.const (.int .u32 0)), (.const (.int .i64 0))] <|
  .op (.binOp .lss c.tInt (.tmp 3) (.tmp 1) c.tInt) none [] <|
  .cond (.tmp 4) (
    .op (.indexAddr s.fields (.tmp 0) (.tmp 3)) none [] <|
    .op (.load s.field (.tmp 5)) none [] <|
    .op (.alloc s.field) none [] <|
    .op (.store s.field (.tmp 7) (.tmp 6)) none [] <|
    .op (.fieldAddr s.field (.tmp 7) 4) none [] <|
    .op (.load c.tInt (.tmp 9)) none [] <|
    .op (.binOp .geq c.tInt (.tmp 10) (.const (.int .i64 0)) c.tInt) none [] <|
    .join 1 (
      .cond (.tmp 11) (
        .op (.fieldAddr s.field (.tmp 7) 4) none [] <|
        .op (.load c.tInt (.tmp 12)) none [] <|
        .op (.convert c.tInt c.tU32 (.tmp 13)) none [] <|
        .op (.binOp .add c.tU32 (.tmp 14) (.const (.int .u32 1)) c.tU32) none [] <|
        .op (.call { callee := (.builtin .max), args := ⟨[(.tmp 2), (.tmp 15)]⟩, argTypes := ⟨[c.tU32, c.tU32]⟩ }) none [] <|
        .to 1 [(.tmp 16)]
      ) (
        .to 1 [(.tmp 2)]
      )
    ) 1 <|
    .op (.binOp .add c.tInt (.tmp 3) (.const (.int .i64 1)) c.tInt) none [] <|
    .to 0 [(.tmp 12), (.tmp 13)]
  ) (
    .ret [((.tmp 2), none)]
  )

mutual
/-- No field has a tag, nor has one within. -/
def PF.plain : PF → Bool
  | .mk k _ _ _ g _ e sub => decide (g < 0) && decide (sub.length < 65536) && (!decide (k = 11) || !decide (e = 11)) && PF.plains sub
def PF.plains : List PF → Bool
  | [] => true
  | f :: r => f.plain && PF.plains r
end

theorem PF.plains_mem : ∀ {l : List PF}, PF.plains l = true → ∀ f ∈ l, f.plain = true
  | [], _, f, h => by cases h
  | x :: l, hl, f, h => by
    simp only [PF.plains, Bool.and_eq_true] at hl
    rcases List.mem_cons.1 h with rfl | h
    · exact hl.1
    · exact PF.plains_mem hl.2 f h

theorem PF.plain_tag {f : PF} (h : f.plain = true) : f.tag < 0 := by
  cases f
  simp only [PF.plain, Bool.and_eq_true, decide_eq_true_eq] at h
  exact h.1.1.1

theorem PF.plain_sub {f : PF} (h : f.plain = true) : PF.plains f.sub = true := by
  cases f
  simp only [PF.plain, Bool.and_eq_true] at h
  exact h.2

theorem PF.plain_len {f : PF} (h : f.plain = true) : f.sub.length < 65536 := by
  cases f
  simp only [PF.plain, Bool.and_eq_true, decide_eq_true_eq] at h
  exact h.1.1.2

theorem PF.plain_elem {f : PF} (h : f.plain = true) (h11 : f.kind = 11) : f.elem ≠ 11 := by
  cases f
  simp only [PF.plain, Bool.and_eq_true, decide_eq_true_eq] at h
  intro he
  have h1 := h.1.2
  simp only [PF.kind, PF.elem] at h11 he
  rw [h11, he] at h1
  simp at h1

theorem pKnown_plain : ∀ {fs : List PF} (n : Nat), (∀ f ∈ fs, f.tag < 0) → pKnown fs n = n
  | [], _, _ => rfl
  | f :: r, n, h => by
    have := h f (by simp)
    rw [pKnown, if_neg (by omega)]
    exact pKnown_plain n fun g hg => h g (by simp [hg])

theorem pTagged_plain : ∀ {fs : List PF} (v : Int) (fl : Bool) (t : PT) (i : Nat), (∀ f ∈ fs, f.tag < 0) → pTagged fs v fl t i = []
  | [], _, _, _, _, _ => by rw [pTagged]
  | f :: r, v, fl, t, i, h => by
    have := h f (by simp)
    rw [pTagged, if_neg (by omega), List.nil_append]
    exact pTagged_plain v fl t (i + 1) fun g hg => h g (by simp [hg])

/-- What is written of a part without tags. -/
theorem pPart_plain {fs : List PF} (h : ∀ f ∈ fs, f.tag < 0) (v : Int) (fl : Bool) (t : PT) : pPart fs v fl t = pPlain fs v fl t 0 ++ if fl then pUv (pUnknown fs t.u).length ++ pTags (pUnknown fs t.u) else [] := by
  unfold pPart
  rw [pTagged_plain v fl t 0 h, pEnd]
  cases fl
  · rfl
  · have : ((List.range (pKnown fs 0)).flatMap fun (k : Nat) => ([] : List (Int × List UInt8)).filter fun p => p.1 == (k : Int)) = [] := by simp
    simp only [this, if_true]
    simp

def pOne (f : PF) (v : Int) (fl : Bool) (t : PT) : List UInt8 := if decide (f.tag < 0) && pHas f v then pField f v fl t else []

theorem pPlain_cons (f : PF) (r : List PF) (v : Int) (fl : Bool) (t : PT) (i : Nat) : pPlain (f :: r) v fl t i = pOne f v fl (pAt t i) ++ pPlain r v fl t (i + 1) := by rw [pPlain]; rfl

theorem pPlain_take : ∀ {fs : List PF} {j : Nat} (v : Int) (fl : Bool) (t : PT) (i : Nat) (hj : j < fs.length), pPlain (fs.take (j + 1)) v fl t i = pPlain (fs.take j) v fl t i ++ pOne fs[j] v fl (pAt t (i + j))
  | f :: r, 0, v, fl, t, i, _ => by
    simp only [List.take_succ_cons, List.take_zero, pPlain_cons, List.getElem_cons_zero, Nat.add_zero]
    rw [pPlain, pPlain]; simp
  | f :: r, j + 1, v, fl, t, i, hj => by
    rw [List.take_succ_cons, pPlain_cons, pPlain_take v fl t (i + 1) (by simpa using hj), List.take_succ_cons, pPlain_cons, List.append_assoc, List.getElem_cons_succ, show i + 1 + j = i + (j + 1) by omega]

theorem pPlain_append : ∀ (a b : List PF) (v : Int) (fl : Bool) (t : PT) (i : Nat), pPlain (a ++ b) v fl t i = pPlain a v fl t i ++ pPlain b v fl t (i + a.length)
  | [], b, v, fl, t, i => by simp [pPlain]
  | f :: r, b, v, fl, t, i => by rw [List.cons_append, pPlain_cons, pPlain_cons, pPlain_append r b, List.append_assoc, List.length_cons, show i + 1 + r.length = i + (r.length + 1) by omega]

theorem pPlain_le (fs : List PF) (j : Nat) (v : Int) (fl : Bool) (t : PT) : (pPlain (fs.take j) v fl t 0).length ≤ (pPlain fs v fl t 0).length := by
  conv => rhs; rw [← List.take_append_drop j fs, pPlain_append, List.length_append]
  omega

theorem pTags_take {m : TM} {j : Nat} (hj : j < m.length) : pTags (m.take (j + 1)) = pTags (m.take j) ++ pTag1 m[j].1 (pWhole m[j].2) := by
  unfold pTags
  rw [List.take_succ_eq_append_getElem hj, List.map_append, List.flatten_append]
  simp

theorem pTags_le (m : TM) (j : Nat) : (pTags (m.take j)).length ≤ (pTags m).length := by
  have h : pTags m = pTags (m.take j) ++ pTags (m.drop j) := by
    unfold pTags
    rw [← List.flatten_append, ← List.map_append, List.take_append_drop]
  rw [h, List.length_append]
  omega

section

variable {P : Program} {c : Nums} {s : SN} {R : Value → World → Prop} {Γ : List (List Value → World → Prop)} {n : Nat} {ρ : Nat → Value} {w : World} {k : Tr}

/-- A field of a list, in a variable of its own. -/
theorem s_eachF {x i : Operand} {fv : Value} {fs : List PF} {j : Nat} (S : SpFacts P c s) (hfv : FieldsV w fs fv) (hx : ev ρ x = fv) (hi : ev ρ i = .int .i64 j) (hj : j < fs.length)
    (hk : ∀ (w' : World) (a : Value) (b : Nat) (cs : List Value), Has w' b cs → FieldC w' fs[j] cs → Keeps [] w w' → w.heap.size ≤ b → k.sem P R Γ (n + 4) (ext (ext (ext (ext ρ n [a]) (n + 1) [.agg ⟨cs⟩]) (n + 2) [ptr b]) (n + 3) [undef]) w') :
    (Tr.op (.indexAddr s.fields x i) none [] <| Tr.op (.load s.field (.tmp n)) none [] <| Tr.op (.alloc s.field) none [] <| Tr.op (.store s.field (.tmp (n + 2)) (.tmp (n + 1))) none [] k).sem P R Γ n ρ w := by
  obtain ⟨fcs, hr, hfc⟩ := hfv
  obtain ⟨b, o, cap, e, hbl, hel, hcell⟩ := hr.elem hj (by omega)
  refine s_val (v_indexAddr (b := b) (o := o) (l := fs.length) (c := cap) (j := j) (kk := .i64) S.sl S.szF (hx.trans e) hi (by omega) (by omega)) ?_
  rw [Int.toNat_natCast]
  refine s_lok (l_cellN (b := b) (o := o + j * 8) S.agg ext_at hel hcell) ?_
  obtain ⟨z, hz, hzc⟩ := S.zField
  refine s_alloc hz fun w1 h1 k1 z1 => ?_
  have hf := FieldsC.get hfc hj
  have e1 : ev (ext (ext (ext ρ n [ptr b (o + j * 8)]) (n + 1) [.agg ⟨(fcs.drop (j * 8)).take 8⟩]) (n + 2) [ptr w.heap.size]) (.tmp (n + 1)) = .agg ⟨(fcs.drop (j * 8)).take 8⟩ := by show ext _ _ _ (n + 1) = _; rw [ext_lt (by omega)]; exact ext_at
  refine s_storeAll (b := w.heap.size) (cs := (fcs.drop (j * 8)).take 8) (by rw [hel]; exact S.agg) ext_at (congrArg Value.cells e1) h1 (by rw [hel]; simpa using hzc) hf.ones fun w2 h2 k2 => ?_
  have k02 : Keeps [] w w2 := ((k1.mono (by simp)).trans k2).less fun x hx => .inr (by simp only [List.mem_singleton] at hx; omega)
  exact hk w2 _ _ _ h2 (FieldC.keep k02 _ _ hf) k02 (Nat.le_refl _)

/-- A tag of a list, in a variable of its own. -/
theorem s_eachT {x i : Operand} {tv : Value} {m : TM} {tcs : List Value} {j : Nat} {w0 : World} (S : SpFacts P c s) (hr : Ro w tv 2 m.length tcs) (ht : TagsC w0 m tcs) (hx : ev ρ x = tv) (hi : ev ρ i = .int .i64 j) (hj : j < m.length)
    (hk : ∀ (w' : World) (a : Value) (b : Nat) (vv : Value), Has w' b [.int .u32 m[j].1, vv] → Ro w0 vv 1 m[j].2.length (bcells m[j].2) → Keeps [] w w' → w.heap.size ≤ b → k.sem P R Γ (n + 4) (ext (ext (ext (ext ρ n [a]) (n + 1) [.agg ⟨[.int .u32 m[j].1, vv]⟩]) (n + 2) [ptr b]) (n + 3) [undef]) w') :
    (Tr.op (.indexAddr c.sTagL x i) none [] <| Tr.op (.load c.sTag (.tmp n)) none [] <| Tr.op (.alloc c.sTag) none [] <| Tr.op (.store c.sTag (.tmp (n + 2)) (.tmp (n + 1))) none [] k).sem P R Γ n ρ w := by
  obtain ⟨b, o, cap, e, hbl, hel, hcell⟩ := hr.elem hj (by omega)
  refine s_val (v_indexAddr (b := b) (o := o) (l := m.length) (c := cap) (j := j) (kk := .i64) S.ty.slTag S.szG (hx.trans e) hi (by omega) (by omega)) ?_
  rw [Int.toNat_natCast]
  refine s_lok (l_cellN (b := b) (o := o + j * 2) S.ty.aggTag ext_at hel hcell) ?_
  obtain ⟨z, hz, hzc⟩ := S.zTag
  refine s_alloc hz fun w1 h1 k1 z1 => ?_
  obtain ⟨vv, hc2, hvv⟩ := ht.get hj
  have h1v := hvv.one
  rw [hc2]
  have e1 : ev (ext (ext (ext ρ n [ptr b (o + j * 2)]) (n + 1) [.agg ⟨[.int .u32 m[j].1, vv]⟩]) (n + 2) [ptr w.heap.size]) (.tmp (n + 1)) = .agg ⟨[.int .u32 m[j].1, vv]⟩ := by show ext _ _ _ (n + 1) = _; rw [ext_lt (by omega)]; exact ext_at
  refine s_storeAll (b := w.heap.size) (cs := [.int .u32 m[j].1, vv]) S.ty.aggTag ext_at (congrArg Value.cells e1) h1 (by simpa using hzc) (fun q hq => by
    simp only [List.mem_cons, List.not_mem_nil, or_false] at hq
    rcases hq with rfl | rfl
    · rfl
    · exact h1v) fun w2 h2 k2 => ?_
  have k02 : Keeps [] w w2 := ((k1.mono (by simp)).trans k2).less fun x hx => .inr (by simp only [List.mem_singleton] at hx; omega)
  exact hk w2 _ _ _ h2 hvv k02 (Nat.le_refl _)

theorem known_plain (S : SpFacts P c s) (hT : treeIn P s.known noOrc [.tmp 0] 1 = tKnown c s) {fs : List PF} {fv : Value} (hp : ∀ f ∈ fs, f.tag < 0) (hfv : FieldsV w fs fv) (hlen : fs.length < 2 ^ 31) : Yields P s.known [fv] w (.int .u32 0) := by
  refine gives_in (ρ := en [fv]) S.rd.mix hT (Nat.le_refl _) rfl (by simp [opBelow]) ?_
  have hfv0 := hfv
  obtain ⟨fcs, hr, hfc⟩ := hfv
  obtain ⟨a, cp, e⟩ := hr.form
  refine s_val (v_len (a := a) (l := fs.length) (c := cp) S.sl e) ?_
  refine s_countV (n := 2) (q := 1) (kk := .i64) (m := fs.length) (ri := [.const (.int .u32 0)]) (Γ := []) (fun j vr w' => vr = [.int .u32 0] ∧ Keeps [] w w') (by omega) rfl ⟨rfl, .refl⟩ ?_ ?_
  · rintro j hj w1 vr ⟨rfl, k1⟩ hvr J hJ
    have hj' : j < fs.length := by omega
    refine s_eachF (fv := fv) (fs := fs) (j := j) S (hfv0.keep k1) rfl rfl hj' fun w2 a b cs hh hf k2 hb => ?_
    obtain ⟨sv, rfl, _⟩ := hf.cells
    have hneg := hp _ (List.getElem_mem hj')
    refine s_fl S.f4 S.oneInt rfl rfl hh rfl ?_
    refine s_val (v_cmp (kk := .i64) (a := (fs[j]'hj').tag) (b := 0) (r := decide ((fs[j]'hj').tag ≥ 0)) rfl rfl rfl) ?_
    refine ⟨rfl, fun vs w' => vs = [.int .u32 0] ∧ w' = w2, ?_, ?_⟩
    · refine s_cond (b := decide ((fs[j]'hj').tag ≥ 0)) rfl (fun hb => ?_) fun hb => ⟨_, rfl, rfl, rfl⟩
      simp at hb
      omega
    · rintro vs w' _ ⟨rfl, rfl⟩
      refine s_val (v_arith (kk := .i64) (a := j) (b := 1) (r := ((j + 1 : Nat) : Int)) rfl rfl ?_) ?_
      · simp only [arithOf, Option.some.injEq]; rw [IntKind.wrap_i64]; omega
      exact ⟨J, rfl, hJ [_] _ rfl ⟨rfl, k1.trans k2⟩⟩
  · rintro w1 vr J ⟨rfl, k1⟩ hvr
    exact s_ret1 ⟨rfl, k1⟩

/-- The unknown tags. -/
def UnknownOf (P : Program) (s : SN) (fs : List PF) : Prop := ∀ (w0 w : World) (fv uv : Value) (u : TM) (ucs : List Value), FieldsV w fs fv → Ro w uv 2 u.length ucs → TagsC w0 u ucs → (∀ p ∈ u, p.1 < 4294967296) →
  Gives P s.unknown [fv, uv] w fun r w' => ∃ cs, Own w' r 2 (pUnknown fs u).length cs ∧ TagsC w0 (pUnknown fs u) cs ∧ (∀ b ∈ blkOf r, w.heap.size ≤ b) ∧ Keeps [] w w'

theorem pPut_mem {q : Nat × List UInt8} : ∀ {m : TM} {p : Nat × List UInt8}, p ∈ pPut q m → p = q ∨ p ∈ m
  | [], p, h => by simpa [pPut] using h
  | x :: m, p, h => by
    unfold pPut at h
    split at h
    · rcases List.mem_cons.1 h with rfl | h
      · exact .inr (by simp)
      · exact (pPut_mem h).imp id fun h => by simp [h]
    · split at h
      · exact .inr h
      · rcases List.mem_cons.1 h with rfl | h
        · exact .inl rfl
        · exact .inr h

theorem pUnknownN_mem (least : Nat) : ∀ {u out : TM} {p : Nat × List UInt8}, p ∈ pUnknownN least u out → p ∈ u ∨ p ∈ out
  | [], out, p, h => .inr h
  | q :: u, out, p, h => by
    rcases pUnknownN_mem least (u := u) h with h | h
    · exact .inl (by simp [h])
    · split at h
      · exact .inr h
      · rcases pPut_mem h with rfl | h
        · exact .inl (by simp)
        · exact .inr h

theorem pUnknown_mem {fs : List PF} {u : TM} {p : Nat × List UInt8} (h : p ∈ pUnknown fs u) : p ∈ u := by
  rcases pUnknownN_mem _ h with h | h
  · exact List.mem_of_mem_take h
  · cases h

theorem pPut_length (q : Nat × List UInt8) : ∀ m : TM, (pPut q m).length ≤ m.length + 1
  | [] => by simp [pPut]
  | x :: m => by
    unfold pPut
    split
    · have := pPut_length q m; simp; omega
    · split <;> simp

theorem pUnknownN_length (least : Nat) : ∀ (u out : TM), (pUnknownN least u out).length ≤ out.length + u.length
  | [], out => by simp [pUnknownN]
  | q :: u, out => by
    rw [pUnknownN]
    refine Nat.le_trans (pUnknownN_length least u _) ?_
    rw [List.length_cons]
    split
    · omega
    · have := pPut_length q out
      omega

theorem pUnknown_length (fs : List PF) (u : TM) : (pUnknown fs u).length ≤ 32767 := by
  have h := pUnknownN_length (pKnown fs 0) (u.take 32767) []
  unfold pUnknown
  rw [List.length_take] at h
  simp at h
  omega

end

end Go.Kf

namespace Go.Kf

open Go

section

variable {P : Program} {c : Nums} {s : SN} {R : Value → World → Prop} {Γ : List (List Value → World → Prop)} {n : Nat} {ρ : Nat → Value} {w : World} {k : Tr}

theorem pTag1_length (k : Nat) (b : List UInt8) : (pTag1 k b).length = (pUv k).length + (pUv b.length).length + b.length := by
  unfold pTag1
  simp only [List.length_append]

theorem part_step (S : SpFacts P c s) (Q : Smalls P s) (hK : treeIn P s.known noOrc [.tmp 0] 1 = tKnown c s) (hT : treeIn P s.part noOrc [.tmp 0, .tmp 1, .tmp 2, .tmp 3] 4 = tPart c s) {fs : List PF} (hp : ∀ f ∈ fs, f.tag < 0) (hlen : fs.length < 2 ^ 31) (hF : ∀ f ∈ fs, FieldOf P s f) (hU : UnknownOf P s fs) : PartOf P s fs := by
  intro w fv v fl t ts hfv ht hok hl
  rw [pPart_plain hp] at hl ⊢
  have htc := ht
  have hfv0 := hfv
  obtain ⟨fcs, hr, hfc⟩ := hfv
  obtain ⟨sv, lv, uv, lcs, ucs, rfl, h1, h2, h3, h4, h5⟩ := ht.cells
  rw [List.length_append] at hl
  refine gives_in (ρ := en [_, _, _, _]) S.rd.mix hT (Nat.le_refl _) rfl (by simp [opBelow]) ?_
  refine s_box rfl fun w1 hx1 k1 z1 => ?_
  obtain ⟨a, cp, e⟩ := hr.form
  refine s_val (v_len (a := a) (l := fs.length) (c := cp) S.sl e) ?_
  refine s_countV (n := 6) (q := 5) (kk := .i64) (m := fs.length) (ri := [.const (.slice none 0 0)]) (Γ := []) (fun j vr w' => ∃ acc, vr = [acc] ∧ MadeO w1 w' acc (pPlain (fs.take j) v fl t 0)) (by omega) rfl ⟨_, rfl, by rw [List.take_zero, pPlain]; exact MadeO.nil w1⟩ ?_ ?_
  · rintro j hj w2 vr ⟨acc, rfl, hA⟩ hvr J hJ
    have hj' : j < fs.length := by omega
    have k02 := k1.trans hA.2.2
    refine s_eachF (fv := fv) (fs := fs) (j := j) S (hfv0.keep k02) rfl rfl hj' fun w3 a3 b cs hh hf k3 hb => ?_
    have hf0 := hf
    obtain ⟨sv3, rfl, _⟩ := hf.cells
    have hneg := hp _ (List.getElem_mem hj')
    have k13 := hA.2.2.trans k3
    have hle := pPlain_le fs (j + 1) v fl t
    rw [pPlain_take v fl t 0 hj', Nat.zero_add, List.length_append] at hle
    refine s_fl S.f4 S.oneInt rfl rfl hh rfl ?_
    refine s_val (v_cmp (kk := .i64) (a := (fs[j]'hj').tag) (b := 0) (r := decide ((fs[j]'hj').tag < 0)) rfl rfl rfl) ?_
    refine s_cond (b := decide ((fs[j]'hj').tag < 0)) rfl (fun hb1 => ?_) fun hb1 => (by simp at hb1; omega)
    refine s_lok (l_loadN (b := b) (o := 0) S.agg rfl hh (show 0 + 8 ≤ 8 by omega)) ?_
    refine s_callx (Q.has w3 fs[j] _ v hf0) rfl fun u w4 ⟨hu, k4⟩ => ?_
    subst hu
    have hf4 := FieldC.keep k4 _ _ hf0
    have hh4 := hh.keep k4 (by simp)
    have hA4 := (hA.more k3).more k4
    have k14 := k13.trans k4
    refine ⟨rfl, fun vs w' => ∃ acc', vs = [acc'] ∧ MadeO w1 w' acc' (pPlain (fs.take (j + 1)) v fl t 0), ?_, ?_⟩
    · refine s_cond (b := pHas fs[j] v) rfl (fun hb2 => ?_) fun hb2 => ⟨_, rfl, acc, rfl, ?_⟩
      · show Tr.sem _ _ _ _ _ _ { w4 with drawn := w4.drawn + 1 }
        have hd : Keeps [] w4 { w4 with drawn := w4.drawn + 1 } := keeps_drawn w4 _ _
        have hA5 := hA4.drawn (w4.drawn + 1)
        generalize ({ w4 with drawn := w4.drawn + 1 } : World) = w5 at hd hA5 ⊢
        have hh5 := hh4.keep hd (by simp)
        have hx5 := (hx1.keep k14 (by simp)).keep hd (by simp)
        have k15 := k14.trans hd
        refine l_lok (l_loadN (b := b) (o := 0) S.agg rfl hh5 (show 0 + 8 ≤ 8 by omega)) ?_
        refine l_lok (l_loadN (b := w.heap.size) (o := 0) S.ty.agg rfl hx5 (show 0 + 5 ≤ 5 by omega)) ?_
        refine s_call (xs := [.tmp 19, .tmp 7]) (Q.at_ w5 t _ j (TreeC.keep (k1.trans k15) _ _ htc)) fun u w6 ⟨k6, tcs, hu, htj⟩ => ⟨?_, ?_⟩
        · intro p hp
          simp only [List.mem_singleton] at hp
          subst hp
          exact l_loadN (b := b) (o := 0) S.agg rfl (hh5.keep k6 (by simp)) (show 0 + 8 ≤ 8 by omega)
        subst hu
        have hone : pOne fs[j] v fl (pAt t j) = pField fs[j] v fl (pAt t j) := by
          unfold pOne
          rw [if_pos (by rw [Bool.and_eq_true]; exact ⟨hb1, hb2⟩)]
        rw [hone] at hle
        refine s_callO (hF fs[j] (List.getElem_mem hj') w6 v fl (pAt t j) _ tcs (FieldC.keep (hd.trans k6) _ _ hf4) htj (hok.at j) (by omega)) rfl fun v3 w7 hM7 => ⟨fun p hp => (by cases hp), ?_⟩
        refine s_appendO (v := acc) (u := v3) (l2 := pField fs[j] v fl (pAt t j)) S rfl rfl ((hA5.more k6).more hM7.2.2) (hM7.1.reads.src S.rd.bytes (bcells_one _)) (by rw [List.length_append]; unfold maxW at hl; omega) fun v4 w8 hM8 _ => ⟨fun p hp => (by cases hp), ?_⟩
        refine ⟨_, rfl, v4, rfl, ?_⟩
        rw [pPlain_take v fl t 0 hj', Nat.zero_add, hone]
        exact hM8
      · have hone : pOne fs[j] v fl (pAt t j) = [] := by
          unfold pOne
          rw [if_neg (by rw [hb2, Bool.and_false]; simp)]
        rw [pPlain_take v fl t 0 hj', Nat.zero_add, hone, List.append_nil]
        exact hA4
    · rintro vs w' _ ⟨acc', rfl, hA'⟩
      refine s_val (v_arith (kk := .i64) (a := j) (b := 1) (r := ((j + 1 : Nat) : Int)) rfl rfl ?_) ?_
      · simp only [arithOf, Option.some.injEq]; rw [IntKind.wrap_i64]; omega
      exact ⟨J, rfl, hJ [_] _ rfl ⟨acc', rfl, hA'⟩⟩
  · rintro w2 vr J ⟨acc, rfl, hA⟩ hvr
    rw [Int.toNat_natCast, List.take_length] at hA
    refine s_val (v_not (b := fl) rfl) ?_
    refine s_cond (b := !fl) rfl (fun hb => ?_) fun hb => ?_
    · have : fl = false := by simpa using hb
      subst this
      refine s_ret1 ?_
      rw [if_neg (by simp), List.append_nil]
      exact hA.under k1
    · have : fl = true := by simpa using hb
      subst this
      simp only [if_true] at hl ⊢
      have k02 := k1.trans hA.2.2
      refine s_callx (known_plain S hK hp (hfv0.keep k02) hlen) rfl fun u w3 ⟨hu, k3⟩ => ?_
      subst hu
      refine s_val (v_conv (k1 := .u32) (k2 := .i64) (a := 0) S.rd.u32 S.rd.int rfl) ?_
      have k13 := hA.2.2.trans k3
      refine s_countV (n := 12) (q := 11) (kk := .i64) (m := 0) (ri := [.const (.slice none 0 0), .const (.int .i64 0)]) (Γ := [J]) (fun j vr w' => vr = [.slice none 0 0, .int .i64 0] ∧ w' = w3) (by omega) rfl ⟨rfl, rfl⟩ (fun j hj => by simp at hj) ?_
      rintro w' vr J1 ⟨rfl, rfl⟩ hvr
      have hx3 := hx1.keep k13 (by simp)
      refine s_fl S.ty.f4 S.ty.oneTagL rfl rfl hx3 rfl ?_
      have k03 := k1.trans k13
      refine s_callx (hU w' w' fv uv t.u ucs (hfv0.keep k03) (h4.keep k03) (TagsC.keep k03 _ _ h5) hok.u) rfl fun tv w4 ⟨tcs, hown, htg', _, k4⟩ => ?_
      have htg := TagsC.keep k4 _ _ htg'
      generalize hun : pUnknown fs t.u = un at hl hown htg ⊢
      have hun7 : un.length ≤ 32767 := by rw [← hun]; exact pUnknown_length fs t.u
      have hkeys : ∀ p ∈ un, p.1 < 4294967296 := fun p hp => hok.u p (pUnknown_mem (hun ▸ hp))
      have hrt := Ro.of_reads hown.reads
      obtain ⟨a4, c4, e4⟩ := hrt.form
      refine s_val (v_len (a := a4) (l := un.length) (c := c4) S.ty.slTag e4) ?_
      have k14 := k13.trans k4
      rw [List.length_append] at hl
      refine s_countV (n := 20) (q := 19) (kk := .i64) (m := un.length) (ri := [.tmp 12, .tmp 13]) (Γ := [J, J1]) (fun j vr w' => ∃ acc', vr = [acc', .int .i64 j] ∧ MadeO w4 w' acc' (pTags (un.take j))) (by omega) rfl ⟨_, rfl, MadeO.nil w4⟩ ?_ ?_
      · rintro j hj w5 vr ⟨acc', rfl, hB⟩ hvr J2 hJ2
        have hj' : j < un.length := by omega
        have hle := pTags_le un (j + 1)
        rw [pTags_take hj', List.length_append, pTag1_length] at hle
        have hkey := hkeys _ (List.getElem_mem hj')
        refine s_eachT (tv := tv) (m := un) (j := j) S (hrt.keep hB.2.2) htg rfl rfl hj' fun w6 a6 b vv hh hvv k6 hb => ?_
        refine s_fl S.ty.g1 S.rd.oneBytes rfl rfl hh rfl ?_
        refine s_callx (Q.whole w6 vv un[j].2 (hvv.keep (hB.2.2.trans k6))) rfl fun u w7 ⟨hw, hu⟩ => ?_
        subst hw
        replace hu := hu w4 hvv
        refine s_fl S.ty.g0 S.ty.oneU32 rfl rfl hh rfl ?_
        refine s_val (v_conv (k1 := .u32) (k2 := .u64) (a := ((un[j]'hj').1 : Int)) S.rd.u32 S.u64 rfl) ?_
        rw [wraps_u64 _ (by omega) (by omega)]
        have hw7 : (pWhole (un[j]'hj').2).length ≤ 32767 := by unfold pWhole; rw [List.length_take]; omega
        refine s_callO (Q.uv w7 (un[j]'hj').1 (by omega)) rfl fun v8 w8 hM8 => ⟨fun p hp => (by cases hp), ?_⟩
        refine s_appendO (v := acc') (u := v8) (l2 := pUv (un[j]'hj').1) S rfl rfl ((hB.more k6).more hM8.2.2) (hM8.1.reads.src S.rd.bytes (bcells_one _)) (by rw [List.length_append]; unfold maxW at hl; omega) fun v9 w9 hM9 kk9 => ⟨fun p hp => (by cases hp), ?_⟩
        obtain ⟨au, cu, eu⟩ := hu.form
        refine s_val (v_len (a := au) (l := (pWhole (un[j]'hj').2).length) (c := cu) S.rd.bytes eu) ?_
        refine s_val (v_conv (k1 := .i64) (k2 := .u64) (a := ((pWhole (un[j]'hj').2).length : Int)) S.rd.int S.u64 rfl) ?_
        rw [wraps_u64 _ (by omega) (by omega)]
        refine s_callO (Q.uv w9 (pWhole (un[j]'hj').2).length (by omega)) rfl fun v10 w10 hM10 => ⟨fun p hp => (by cases hp), ?_⟩
        refine s_appendO (v := v9) (u := v10) (l2 := pUv (pWhole (un[j]'hj').2).length) S rfl rfl (hM9.more hM10.2.2) (hM10.1.reads.src S.rd.bytes (bcells_one _)) (by simp only [List.length_append]; unfold maxW at hl; omega) fun v11 w11 hM11 kk11 => ⟨fun p hp => (by cases hp), ?_⟩
        refine s_appendO (v := v11) (u := u) (l2 := pWhole (un[j]'hj').2) S rfl rfl hM11 ((hu.keep hM11.2.2).src S.rd.bytes (bcells_one _)) (by simp only [List.length_append]; unfold maxW at hl; omega) fun v12 w12 hM12 kk12 => ⟨fun p hp => (by cases hp), ?_⟩
        refine s_val (v_arith (kk := .i64) (a := j) (b := 1) (r := ((j + 1 : Nat) : Int)) rfl rfl ?_) ?_
        · simp only [arithOf, Option.some.injEq]; rw [IntKind.wrap_i64]; omega
        refine s_val (v_arith (kk := .i64) (a := j) (b := 1) (r := ((j + 1 : Nat) : Int)) rfl rfl ?_) ?_
        · simp only [arithOf, Option.some.injEq]; rw [IntKind.wrap_i64]; omega
        refine ⟨J2, rfl, hJ2 [_, _] _ rfl ⟨v12, rfl, ?_⟩⟩
        rw [pTags_take hj', pTag1, ← List.append_assoc, ← List.append_assoc]
        exact hM12
      · rintro w5 vr J2 ⟨acc', rfl, hB⟩ hvr
        rw [Int.toNat_natCast, List.take_length] at hB
        refine s_val (v_conv (k1 := .i64) (k2 := .u64) (a := (un.length : Int)) S.rd.int S.u64 rfl) ?_
        rw [wraps_u64 _ (by omega) (by omega)]
        refine s_callO (Q.uv w5 un.length (by omega)) rfl fun v6 w6 hM6 => ⟨fun p hp => (by cases hp), ?_⟩
        have k36 := (k4.trans hB.2.2).trans hM6.2.2
        refine s_appendO (v := acc) (u := v6) (l2 := pUv un.length) S rfl rfl ((hA.more k3).more k36) (hM6.1.reads.src S.rd.bytes (bcells_one _)) (by rw [List.length_append]; unfold maxW at hl; omega) fun v7 w7 hM7 kk7 => ⟨fun p hp => (by cases hp), ?_⟩
        have hown7 : Own w7 acc' 1 (pTags un).length (bcells (pTags un)) := (hB.more hM6.2.2).1.keep kk7 fun b hb hb' => by
          have h5 := hB.2.1 b hb
          have h6 := hA.1.lt b hb'
          have h7 := k3.size
          have h8 := k4.size
          omega
        refine s_appendO (v := v7) (u := acc') (l2 := pTags un) S rfl rfl hM7 (hown7.reads.src S.rd.bytes (bcells_one _)) (by simp only [List.length_append]; unfold maxW at hl; omega) fun v8 w8 hM8 kk8 => ⟨fun p hp => (by cases hp), s_ret1 ?_⟩
        rw [List.append_assoc] at hM8
        exact hM8.under k1

end

end Go.Kf

namespace Go.Kf

open Go

/-- Room is made at t14 for the tag that t12 points to. -/
def gIns (c : Nums) (n : Nat) : Tr :=
  .op (.build c.sTag ⟨[]⟩) none [] <|
  .op (.buildSlice c.sTagL 1 ⟨[(0, (.tmp n))]⟩) none [] <|
  .op (.call { callee := (.builtin .append), args := ⟨[(.tmp 7), (.tmp (n + 1))]⟩, argTypes := ⟨[c.sTagL, c.sTagL]⟩ }) none [] <|
  .op (.call { callee := (.builtin .len), args := ⟨[(.tmp (n + 2))]⟩, argTypes := ⟨[c.sTagL]⟩ }) none [] <|
  .op (.binOp .sub c.tInt (.tmp (n + 3)) (.const (.int .i64 1)) c.tInt) none [] <|
  .loop 2 [(.tmp (n + 4))] <|
  .op (.binOp .gtr c.tInt (.tmp (n + 5)) (.tmp 14) c.tInt) none [] <|
  .cond (.tmp (n + 6)) (
    .op (.binOp .sub c.tInt (.tmp (n + 5)) (.const (.int .i64 1)) c.tInt) none [] <|
    .op (.indexAddr c.sTagL (.tmp (n + 2)) (.tmp (n + 7))) none [] <|
    .op (.load c.sTag (.tmp (n + 8))) none [] <|
    .op (.indexAddr c.sTagL (.tmp (n + 2)) (.tmp (n + 5))) none [] <|
    .op (.store c.sTag (.tmp (n + 10)) (.tmp (n + 9))) none [] <|
    .op (.binOp .sub c.tInt (.tmp (n + 5)) (.const (.int .i64 1)) c.tInt) none [] <|
    .to 2 [(.tmp (n + 12))]
  ) (
    .op (.load c.sTag (.tmp 12)) none [] <|
    .op (.indexAddr c.sTagL (.tmp (n + 2)) (.tmp 14)) none [] <|
    .op (.store c.sTag (.tmp (n + 8)) (.tmp (n + 7))) none [] <|
    .op (.binOp .add c.tInt (.tmp 8) (.const (.int .i64 1)) c.tInt) none [] <|
    .to 0 [(.tmp (n + 2)), (.tmp (n + 10))]
  )

def gSkip (c : Nums) (n : Nat) : Tr := .op (.binOp .add c.tInt (.tmp 8) (.const (.int .i64 1)) c.tInt) none [] <| .to 0 [(.tmp 7), (.tmp n)]

/-- The tag's key held against the one at t14. -/
def gSame (c : Nums) (n : Nat) : Tr :=
  .draw <|
  .pur (.fieldAddr c.sTag (.tmp 12) 0) none <|
  .lok (.load c.tU32 (.tmp n)) none <|
  .pur (.binOp .lss c.tU32 (.tmp (n + 1)) (.tmp 2) c.tU32) none <|
  .cond (.tmp (n + 2)) (gSkip c (n + 3)) (
    .pur (.call { callee := (.builtin .len), args := ⟨[(.tmp 7)]⟩, argTypes := ⟨[c.sTagL]⟩ }) none <|
    .pur (.binOp .lss c.tInt (.tmp 14) (.tmp (n + 3)) c.tInt) none <|
    .cond (.tmp (n + 4)) (
      .pur (.indexAddr c.sTagL (.tmp 7) (.tmp 14)) none <|
      .pur (.fieldAddr c.sTag (.tmp (n + 5)) 0) none <|
      .lok (.load c.tU32 (.tmp (n + 6))) none <|
      .pur (.fieldAddr c.sTag (.tmp 12) 0) none <|
      .lok (.load c.tU32 (.tmp (n + 8))) none <|
      .pur (.binOp .eql c.tU32 (.tmp (n + 7)) (.tmp (n + 9)) c.tU32) none <|
      .cond (.tmp (n + 10)) (gSkip c (n + 11)) (gIns c (n + 11))
    ) (gIns c (n + 5))
  )

def tUnknown (c : Nums) (s : SN) : Tr :=
  .op (callOp s.known [(.tmp 0)]) none [] <|
  .op (.call { callee := (.builtin .len), args := ⟨[(.tmp 1)]⟩, argTypes := ⟨[c.sTagL]⟩ }) none [] <|
  .op (.call { callee := (.builtin .min), args := ⟨[(.tmp 3), (.const (.int .i64 32767))]⟩, argTypes := ⟨[c.tInt, c.tInt]⟩ }) none [] <|
  .op (.slice c.sTagL (.tmp 1) none (some (.tmp 4)) none) none [] <|
  .op (.call { callee := (.builtin .len), args := ⟨[(.tmp 5)]⟩, argTypes := ⟨[c.sTagL]⟩ }) none [] <|
  .loop 0 [(.const (.slice none 0 0)), (.const (.int .i64 0))] <|
  .op (.binOp .lss c.tInt (.tmp 8) (.tmp 6) c.tInt) none [] <|
  .cond (.tmp 9) (
    .op (.indexAddr c.sTagL (.tmp 5) (.tmp 8)) none [] <|
    .op (.load c.sTag (.tmp 10)) none [] <|
    .op (.alloc c.sTag) none [] <|
    .op (.store c.sTag (.tmp 12) (.tmp 11)) none [] <|
    .loop 1 [(.const (.int .i64 0))] <|
    .draw <|
    .pur (.call { callee := (.builtin .len), args := ⟨[(.tmp 7)]⟩, argTypes := ⟨[c.sTagL]⟩ }) none <|
    .pur (.binOp .lss c.tInt (.tmp 14) (.tmp 15) c.tInt) none <|
    .cond (.tmp 16) (
      .pur (.indexAddr c.sTagL (.tmp 7) (.tmp 14)) none <|
      .pur (.fieldAddr c.sTag (.tmp 17) 0) none <|
      .lok (.load c.tU32 (.tmp 18)) none <|
      .pur (.fieldAddr c.sTag (.tmp 12) 0) none <|
      .lok (.load c.tU32 (.tmp 20)) none <|
      .pur (.binOp .lss c.tU32 (.tmp 19) (.tmp 21) c.tU32) none <|
      .cond (.tmp 22) (
        .op (.binOp .add c.tInt (.tmp 14) (.const (.int .i64 1)) c.tInt) none [] <|
        .to 1 [(.tmp 23)]
      ) (gSame c 23)
    ) (gSame c 17)
  ) (.ret [((.tmp 7), none)])

theorem pPut_at {q : Nat × List UInt8} : ∀ {m : TM} {i : Nat}, (∀ p ∈ m.take i, p.1 < q.1) → (hi : i ≤ m.length) → (∀ h : i < m.length, ¬ m[i].1 < q.1) → pPut q m = if h : i < m.length then (if m[i].1 = q.1 then m else m.take i ++ q :: m.drop i) else m ++ [q]
  | [], i, _, hi, _ => by
    simp at hi
    subst hi
    simp [pPut]
  | x :: m, 0, _, _, h2 => by
    have h3 := h2 (by simp)
    simp only [List.getElem_cons_zero] at h3
    unfold pPut
    rw [if_neg h3]
    simp
  | x :: m, i + 1, h1, hi, h2 => by
    have h3 : x.1 < q.1 := h1 x (by simp)
    unfold pPut
    rw [if_pos h3, pPut_at (m := m) (i := i) (fun p hp => h1 p (by simp [hp])) (by simpa using hi) fun h => h2 (by simpa using h)]
    by_cases hlt : i < m.length
    · rw [dif_pos hlt, dif_pos (by simpa using hlt)]
      simp only [List.getElem_cons_succ]
      split
      · rfl
      · simp
    · rw [dif_neg hlt, dif_neg (by simpa using hlt)]
      rfl

theorem pUnknownN_snoc (least : Nat) (q : Nat × List UInt8) : ∀ (a out : TM), pUnknownN least (a ++ [q]) out = if q.1 < least then pUnknownN least a out else pPut q (pUnknownN least a out)
  | [], out => by simp [pUnknownN]
  | x :: a, out => by rw [List.cons_append, pUnknownN, pUnknownN_snoc least q a]; rfl

theorem TagsC.append {w : World} : ∀ {a b : TM} {x y : List Value}, TagsC w a x → TagsC w b y → TagsC w (a ++ b) (x ++ y)
  | [], b, x, y, h1, h2 => by simp only [TagsC] at h1; subst h1; exact h2
  | p :: a, b, x, y, ⟨v, r, e, h1, h3⟩, h2 => ⟨v, r ++ y, by rw [e]; rfl, h1, h3.append h2⟩

theorem TagsC.drop {w : World} : ∀ {m : TM} {cs : List Value} (k : Nat), TagsC w m cs → TagsC w (m.drop k) (cs.drop (k * 2))
  | _, _, 0, h => by simpa using h
  | [], _, k + 1, h => by simp only [TagsC] at h; subst h; simp [TagsC]
  | p :: m, _, k + 1, ⟨v, r, e, h1, h2⟩ => by
    subst e
    rw [show (k + 1) * 2 = k * 2 + 1 + 1 by omega]
    exact TagsC.drop k h2

section

variable {P : Program} {c : Nums} {s : SN} {R : Value → World → Prop} {Γ : List (List Value → World → Prop)} {n : Nat} {ρ : Nat → Value} {w : World} {k : Tr}

theorem splice_mid {a g z v : List Value} (h : g.length = v.length) : splice (a ++ g ++ z) a.length v = a ++ v ++ z := by
  have h1 : (a ++ g ++ z).take a.length = a := by rw [List.append_assoc, List.take_left' rfl]
  have h2 : (a ++ g ++ z).drop (a.length + v.length) = z := by rw [← h, ← List.length_append, List.drop_left' rfl]
  unfold splice
  rw [h1, h2]

theorem pair_eq' {a b x y : Value} (h1 : a = x) (h2 : b = y) : [a, b] = [x, y] := by rw [h1, h2]

theorem sem_ins {acc : Value} {tb i j m : Nat} {cs : List Value} {kv vv : Value} {w1 : World} {J I1 : List Value → World → Prop} (S : SpFacts P c s) (h7 : ρ 7 = acc) (h8 : ρ 8 = .int .i64 j) (h12 : ρ 12 = ptr tb) (h14 : ρ 14 = .int .i64 i) (hn : 15 ≤ n)
    (hown : Own w acc 2 m cs) (hfr : ∀ b ∈ blkOf acc, w1.heap.size ≤ b) (htag : Has w tb [kv, vv]) (hcs : ∀ u ∈ cs, u.oneCell' = true) (hkv : kv.oneCell' = true) (hvv : vv.oneCell' = true) (htb : tb ∉ blkOf acc) (hi : i ≤ m) (hm : m < 2147483648) (hj : j < 2147483648) (hk1 : Keeps [] w1 w)
    (hJ : ∀ acc' w', Own w' acc' 2 (m + 1) (cs.take (i * 2) ++ [kv, vv] ++ cs.drop (i * 2)) → (∀ b ∈ blkOf acc', w1.heap.size ≤ b) → Keeps [] w1 w' → J [acc', .int .i64 ((j + 1 : Nat) : Int)] w') : (gIns c n).sem P R [J, I1] n ρ w := by
  have hcl : cs.length = m * 2 := hown.1
  refine s_val (v_build (cells := [.int .u32 0, .slice none 0 0]) S.planTag (fun p hp => by cases hp) rfl) ?_
  refine s_oneSlice (sz := 2) (cs := [.int .u32 0, .slice none 0 0]) S.got.rowTag S.ty.slTag (by show (ext _ _ _ n).cells = _; rw [ext_at]; rfl) rfl fun w2 hsl k2 z2 => ⟨fun p hp => (by cases hp), ?_⟩
  have lt : ∀ {ρ : Nat → Value} {a q : Nat} {v : Value}, q < a → ext ρ a [v] q = ρ q := fun h => ext_lt h
  refine s_appendOne (v := acc) (u := .slice (some ⟨w.heap.size, 0, none⟩) 1 1) S.got.rowTag S.ty.slTag (by show ext _ _ _ 7 = _; rw [lt (by omega), lt (by omega)]; exact h7) ext_at (hown.keep k2 (by simp)) hsl (fun q hq => by
    simp only [List.mem_cons, List.not_mem_nil, or_false] at hq
    rcases hq with rfl | rfl <;> rfl) (by omega) fun acc' w3 hown3 k3 hb3 => ⟨fun p hp => (by cases hp), ?_⟩
  generalize hρ : ext (ext (ext ρ n [.agg ⟨[.int .u32 0, .slice none 0 0]⟩]) (n + 1) [.slice (some ⟨w.heap.size, 0, none⟩) 1 1]) (n + 2) [acc'] = ρ3
  have p8 : ρ3 8 = .int .i64 j := by subst hρ; rw [lt (by omega), lt (by omega), lt (by omega)]; exact h8
  have p12 : ρ3 12 = ptr tb := by subst hρ; rw [lt (by omega), lt (by omega), lt (by omega)]; exact h12
  have p14 : ρ3 14 = .int .i64 i := by subst hρ; rw [lt (by omega), lt (by omega), lt (by omega)]; exact h14
  have pa : ρ3 (n + 2) = acc' := by subst hρ; exact ext_at
  have hfr3 : ∀ b ∈ blkOf acc', w1.heap.size ≤ b := fun b hb => (hb3 b hb).elim (hfr b) fun h => by have := hk1.size; have := k2.size; omega
  have k13 : Keeps [] w1 w3 := ((hk1.trans k2).mono (by simp) |>.trans k3).less fun x hx => .inr (hfr x hx)
  have htag3 : Has w3 tb [kv, vv] := (htag.keep k2 (by simp)).keep k3 htb
  have htl := htag.lt
  rcases hown3.2 with ⟨_, h0⟩ | ⟨b, cap, spare, e3, hh3, hc3, hc63, hlen3⟩
  · omega
  have htb3 : tb ≠ b := fun h => by
    subst h
    have := hb3 tb (by rw [e3]; simp [blkOf])
    rcases this with h | h
    · exact htb h
    · have := k2.size; omega
  refine s_val (v_len (a := some ⟨b, 0, none⟩) (l := m + 1) (c := cap) S.ty.slTag (by show ρ3 (n + 2) = _; rw [pa, e3])) ?_
  refine s_val (v_arith (kk := .i64) (a := ((m + 1 : Nat) : Int)) (b := 1) (r := (m : Int)) ext_at rfl (by simp only [arithOf, Option.some.injEq]; rw [IntKind.wrap_i64]; omega)) ?_
  generalize hρ5 : ext (ext ρ3 (n + 3) [.int .i64 ((m + 1 : Nat) : Int)]) (n + 4) [.int .i64 (m : Int)] = ρ5
  have r8 : ρ5 8 = .int .i64 j := by subst hρ5; rw [lt (by omega), lt (by omega)]; exact p8
  have r12 : ρ5 12 = ptr tb := by subst hρ5; rw [lt (by omega), lt (by omega)]; exact p12
  have r14 : ρ5 14 = .int .i64 i := by subst hρ5; rw [lt (by omega), lt (by omega)]; exact p14
  have ra : ρ5 (n + 2) = acc' := by subst hρ5; rw [lt (by omega), lt (by omega)]; exact pa
  have rm : ρ5 (n + 4) = .int .i64 (m : Int) := by subst hρ5; exact ext_at
  refine ⟨rfl, fun vs w' => ∃ q : Nat, vs = [.int .i64 q] ∧ i ≤ q ∧ q ≤ m ∧ ∃ g : List Value, g.length = 2 ∧ Has w' b (cs.take (q * 2) ++ g ++ (cs.drop (q * 2) ++ spare)) ∧ Keeps [b] w3 w', fun vs _ => match vs with
    | [.int _ q] => q.toNat
    | _ => 0, ⟨m, by show [ρ5 (n + 4)] = _; rw [rm], hi, Nat.le_refl _, [.int .u32 0, .slice none 0 0], rfl, ?_, .refl⟩, ?_⟩
  · rw [List.take_of_length_le (by omega), List.drop_eq_nil_of_le (by omega), List.nil_append]
    exact hh3
  rintro _ w4 _ ⟨q, rfl, hiq, hqm, g, hg, hh4, k4⟩
  show Tr.sem _ _ _ _ (n + 6) (ext ρ5 (n + 5) [.int .i64 (q : Int)]) w4
  have hx5 : ext ρ5 (n + 5) [.int .i64 (q : Int)] (n + 5) = .int .i64 q := ext_at
  refine s_val (v_cmp (kk := .i64) (a := q) (b := i) (r := decide ((q : Int) > i)) hx5 (by show ext _ _ _ 14 = _; rw [lt (by omega)]; exact r14) rfl) ?_
  refine s_cond (b := decide ((q : Int) > i)) ext_at (fun hb => ?_) fun hb => ?_
  · have hgt : i < q := by
      have : (q : Int) > i := by simpa using hb
      omega
    obtain ⟨p, rfl⟩ : ∃ p, q = p + 1 := ⟨q - 1, by omega⟩
    refine s_val (v_arith (kk := .i64) (a := ((p + 1 : Nat) : Int)) (b := 1) (r := (p : Int)) (by show ext _ _ _ (n + 5) = _; rw [lt (by omega)]; exact ext_at) rfl (by simp only [arithOf, Option.some.injEq]; rw [IntKind.wrap_i64]; omega)) ?_
    refine s_val (v_indexAddr (b := b) (o := 0) (l := m + 1) (c := cap) (j := p) (kk := .i64) S.ty.slTag S.szG (by show ext _ _ _ (n + 2) = _; rw [lt (by omega), lt (by omega), lt (by omega), ra, e3]) ext_at (by omega) (by omega)) ?_
    rw [Int.toNat_natCast]
    have hold : (cs.take ((p + 1) * 2)).length = (p + 1) * 2 := by rw [List.length_take]; omega
    refine s_lok (l_loadN (b := b) (o := 0 + p * 2) S.ty.aggTag ext_at hh4 (by simp only [List.length_append, hold]; omega)) ?_
    have hcell : ((cs.take ((p + 1) * 2) ++ g ++ (cs.drop ((p + 1) * 2) ++ spare)).drop (0 + p * 2)).take 2 = (cs.drop (p * 2)).take 2 := by
      rw [Nat.zero_add, List.append_assoc, List.drop_append_of_le_length (by omega), List.take_append_of_le_length (by rw [List.length_drop, hold]; omega), List.drop_take]
      rw [List.take_take]
      congr 1
      omega
    rw [hcell]
    have hcl2 : ((cs.drop (p * 2)).take 2).length = 2 := by rw [List.length_take, List.length_drop]; omega
    refine s_val (v_indexAddr (b := b) (o := 0) (l := m + 1) (c := cap) (j := ((p + 1 : Nat) : Int)) (kk := .i64) S.ty.slTag S.szG (by show ext _ _ _ (n + 2) = _; rw [lt (by omega), lt (by omega), lt (by omega), lt (by omega), lt (by omega), ra, e3]) (by show ext _ _ _ (n + 5) = _; rw [lt (by omega), lt (by omega), lt (by omega), lt (by omega)]; exact ext_at) (by omega) (by omega)) ?_
    rw [Int.toNat_natCast]
    obtain ⟨w5, e5, h5, k5⟩ := a_storeCells (P := P) (w := w4) (t := c.sTag) (x := .tmp (n + 10)) (y := .tmp (n + 9)) (b := b) (o := 0 + (p + 1) * 2) (vs := (cs.drop (p * 2)).take 2) (ρ := ext (ext (ext (ext (ext (ext ρ5 (n + 5) [.int .i64 ((p + 1 : Nat) : Int)]) (n + 6) [.bool (decide (((p + 1 : Nat) : Int) > i))]) (n + 7) [.int .i64 (p : Int)]) (n + 8) [ptr b (0 + p * 2)]) (n + 9) [.agg ⟨(cs.drop (p * 2)).take 2⟩]) (n + 10) [ptr b (0 + (p + 1) * 2)]) (by rw [hcl2]; exact (aggTy_spec (w := w) S.ty.aggTag).2) ext_at (by show (ext _ _ _ (n + 9)).cells = _; rw [lt (by omega), ext_at]; rfl) hh4 (by simp only [List.length_append, hold]; omega) fun u hu => hcs u (List.mem_of_mem_drop (List.mem_of_mem_take hu))
    refine s_unit e5 (fun p hp => (by cases hp)) ?_
    refine s_val (v_arith (kk := .i64) (a := ((p + 1 : Nat) : Int)) (b := 1) (r := (p : Int)) (by show ext _ _ _ (n + 5) = _; rw [lt (by omega), lt (by omega), lt (by omega), lt (by omega), lt (by omega), lt (by omega)]; exact ext_at) rfl (by simp only [arithOf, Option.some.injEq]; rw [IntKind.wrap_i64]; omega)) ?_
    refine ⟨_, rfl, ?_⟩
    generalize hvs : List.map (ev _) [Operand.tmp (n + 12)] = vs
    obtain rfl : vs = [.int .i64 (p : Int)] := by rw [← hvs]; exact congrArg (fun x => [x]) ext_at
    refine ⟨⟨p, rfl, by omega, by omega, (cs.drop (p * 2)).take 2, hcl2, ?_, k4.trans k5⟩, by show (p : Int).toNat < ((p + 1 : Nat) : Int).toNat; omega⟩
    have hs : splice (cs.take ((p + 1) * 2) ++ g ++ (cs.drop ((p + 1) * 2) ++ spare)) (0 + (p + 1) * 2) ((cs.drop (p * 2)).take 2) = cs.take (p * 2) ++ (cs.drop (p * 2)).take 2 ++ (cs.drop (p * 2) ++ spare) := by
      have h1 := splice_mid (a := cs.take ((p + 1) * 2)) (g := g) (z := cs.drop ((p + 1) * 2) ++ spare) (v := (cs.drop (p * 2)).take 2) (by omega)
      rw [hold] at h1
      rw [Nat.zero_add, h1]
      have e1 : cs.take ((p + 1) * 2) = cs.take (p * 2) ++ (cs.drop (p * 2)).take 2 := by rw [show (p + 1) * 2 = p * 2 + 2 by omega, List.take_add]
      have e2 : (cs.drop (p * 2)).take 2 ++ cs.drop ((p + 1) * 2) = cs.drop (p * 2) := by rw [show (p + 1) * 2 = p * 2 + 2 by omega, ← List.drop_drop, List.take_append_drop]
      rw [e1, List.append_assoc, List.append_assoc, List.append_assoc, ← List.append_assoc ((cs.drop (p * 2)).take 2) (cs.drop _) spare, e2]
    rw [hs] at h5
    exact h5
  · obtain rfl : q = i := by
      have : ¬ (q : Int) > i := by simpa using hb
      omega
    refine s_lok (l_loadN (b := tb) (o := 0) S.ty.aggTag (by show ext _ _ _ 12 = _; rw [lt (by omega), lt (by omega)]; exact r12) (htag3.keep k4 (by simp only [List.mem_singleton]; exact htb3)) (show 0 + 2 ≤ 2 by omega)) ?_
    refine s_val (v_indexAddr (b := b) (o := 0) (l := m + 1) (c := cap) (j := (q : Int)) (kk := .i64) S.ty.slTag S.szG (by show ext _ _ _ (n + 2) = _; rw [lt (by omega), lt (by omega), lt (by omega), ra, e3]) (by show ext _ _ _ 14 = _; rw [lt (by omega), lt (by omega), lt (by omega)]; exact r14) (by omega) (by omega)) ?_
    rw [Int.toNat_natCast]
    have hold : (cs.take (q * 2)).length = q * 2 := by rw [List.length_take]; omega
    obtain ⟨w5, e5, h5, k5⟩ := a_storeCells (P := P) (w := w4) (t := c.sTag) (x := .tmp (n + 8)) (y := .tmp (n + 7)) (b := b) (o := 0 + q * 2) (vs := [kv, vv]) (ρ := ext (ext (ext (ext ρ5 (n + 5) [.int .i64 (q : Int)]) (n + 6) [.bool (decide ((q : Int) > q))]) (n + 7) [.agg ⟨[kv, vv]⟩]) (n + 8) [ptr b (0 + q * 2)]) (aggTy_spec (w := w) S.ty.aggTag).2 ext_at (by show (ext _ _ _ (n + 7)).cells = _; rw [lt (by omega), ext_at]; rfl) hh4 (by simp only [List.length_append, hold, List.length_cons, List.length_nil]; omega) (fun u hu => by
      simp only [List.mem_cons, List.not_mem_nil, or_false] at hu
      rcases hu with rfl | rfl
      · exact hkv
      · exact hvv)
    refine s_unit e5 (fun p hp => (by cases hp)) ?_
    refine s_val (v_arith (kk := .i64) (a := (j : Int)) (b := 1) (r := ((j + 1 : Nat) : Int)) (by show ext _ _ _ 8 = _; rw [lt (by omega), lt (by omega), lt (by omega), lt (by omega), lt (by omega)]; exact r8) rfl (by simp only [arithOf, Option.some.injEq]; rw [IntKind.wrap_i64]; omega)) ?_
    refine ⟨J, rfl, ?_⟩
    generalize hvs : List.map (ev _) [Operand.tmp (n + 2), Operand.tmp (n + 10)] = vs
    obtain rfl : vs = [acc', .int .i64 ((j + 1 : Nat) : Int)] := by
      rw [← hvs]
      exact pair_eq' (by show ext _ _ _ (n + 2) = _; rw [lt (by omega), lt (by omega), lt (by omega), lt (by omega), lt (by omega), lt (by omega)]; exact ra) ext_at
    have hs : splice (cs.take (q * 2) ++ g ++ (cs.drop (q * 2) ++ spare)) (0 + q * 2) [kv, vv] = cs.take (q * 2) ++ [kv, vv] ++ (cs.drop (q * 2) ++ spare) := by
      have h1 := splice_mid (a := cs.take (q * 2)) (g := g) (z := cs.drop (q * 2) ++ spare) (v := [kv, vv]) (by simpa using hg)
      rw [hold] at h1
      rw [Nat.zero_add, h1]
    rw [hs, ← List.append_assoc] at h5
    have hll : (cs.take (q * 2) ++ [kv, vv] ++ cs.drop (q * 2)).length = (m + 1) * 2 := by simp only [List.length_append, hold, List.length_drop, List.length_cons, List.length_nil]; omega
    refine hJ acc' w5 ⟨hll, .inr ⟨b, cap, spare, e3, h5, hc3, hc63, ?_⟩⟩ hfr3 ((k13.mono (by simp)).trans (k4.trans k5) |>.less fun x hx => .inr ?_)
    · rw [List.length_append, hll]
      rw [List.length_append, List.length_append, hcl] at hlen3
      simp only [List.length_cons, List.length_nil] at hlen3
      omega
    · simp only [List.mem_singleton] at hx
      subst hx
      exact hfr3 x (by rw [e3]; simp [blkOf])

theorem TagsC.ones : ∀ {m : TM} {cs : List Value}, TagsC w m cs → ∀ u ∈ cs, u.oneCell' = true
  | [], _, h, u, hu => by simp only [TagsC] at h; subst h; cases hu
  | p :: m, _, ⟨v, r, e, h1, h2⟩, u, hu => by
    subst e
    simp only [List.mem_cons] at hu
    rcases hu with rfl | rfl | hu
    · rfl
    · exact h1.one
    · exact TagsC.ones h2 u hu

/-- The key of a tag in an own row. -/
theorem own_key {w1 : World} {acc : Value} {m : TM} {cs : List Value} {i : Nat} (ho : Own w acc 2 m.length cs) (ht : TagsC w1 m cs) (hi : i < m.length) : ∃ b cap spare, acc = .slice (some ⟨b, 0, none⟩) m.length cap ∧ Has w b (cs ++ spare) ∧ (cs ++ spare)[0 + i * 2 + 0]? = some (.int .u32 m[i].1) := by
  rcases ho.2 with ⟨_, h0⟩ | ⟨b, cap, spare, e, hh, _⟩
  · omega
  · obtain ⟨v, h1, _⟩ := ht.get hi
    have hl := ho.1
    refine ⟨b, cap, spare, e, hh, ?_⟩
    rw [List.getElem?_append_left (by omega), Nat.zero_add, Nat.add_zero]
    have := congrArg (fun x => x[0]?) h1
    simpa [List.getElem?_take, List.getElem?_drop] using this

theorem own_form {acc : Value} {sz m : Nat} {cs : List Value} (ho : Own w acc sz m cs) : ∃ a cp, acc = .slice a m cp := by
  rcases ho.2 with ⟨rfl, rfl⟩ | ⟨b, cap, spare, e, _⟩
  · exact ⟨_, _, rfl⟩
  · exact ⟨_, _, e⟩

def pStep (least : Nat) (q : Nat × List UInt8) (out : TM) : TM := if q.1 < least then out else pPut q out

theorem sem_same {acc vv : Value} {tb i j least : Nat} {q : Nat × List UInt8} {out : TM} {cs : List Value} {w0 w1 : World} {J I1 : List Value → World → Prop} (S : SpFacts P c s) (h2 : ρ 2 = .int .u32 least) (h7 : ρ 7 = acc) (h8 : ρ 8 = .int .i64 j) (h12 : ρ 12 = ptr tb) (h14 : ρ 14 = .int .i64 i) (hn : 15 ≤ n)
    (hown : Own w acc 2 out.length cs) (hfr : ∀ b ∈ blkOf acc, w1.heap.size ≤ b) (ht : TagsC w0 out cs) (htag : Has w tb [.int .u32 q.1, vv]) (hvv : Ro w0 vv 1 q.2.length (bcells q.2)) (htb : tb ∉ blkOf acc) (hi : i ≤ out.length) (hbelow : ∀ p ∈ out.take i, p.1 < q.1) (hat : ∀ h : i < out.length, ¬ out[i].1 < q.1)
    (hm : out.length < 2147483647) (hj : j < 2147483647) (hk1 : Keeps [] w1 w)
    (hJ : ∀ acc' w' cs', Own w' acc' 2 (pStep least q out).length cs' → (∀ b ∈ blkOf acc', w1.heap.size ≤ b) → TagsC w0 (pStep least q out) cs' → Keeps [] w1 w' → J [acc', .int .i64 ((j + 1 : Nat) : Int)] w') : (gSame c n).sem P R [J, I1] n ρ w := by
  have lt : ∀ {ρ : Nat → Value} {a q : Nat} {v : Value}, q < a → ext ρ a [v] q = ρ q := fun h => ext_lt h
  show Tr.sem _ _ _ _ _ _ { w with drawn := w.drawn + 1 }
  have hd : Keeps [] w { w with drawn := w.drawn + 1 } := keeps_drawn w _ _
  generalize ({ w with drawn := w.drawn + 1 } : World) = w2 at hd ⊢
  have hown2 := hown.keep hd (by simp)
  have htag2 := htag.keep hd (by simp)
  have k12 := hk1.trans hd
  have hvo := hvv.one
  have ins : ∀ (n' : Nat) (ρ' : Nat → Value), 15 ≤ n' → (∀ x, x < 15 → ρ' x = ρ x) → pStep least q out = out.take i ++ q :: out.drop i → (gIns c n').sem P R [J, I1] n' ρ' w2 := by
    intro n' ρ' hn' hρ' hst
    refine sem_ins (acc := acc) (tb := tb) (i := i) (j := j) (m := out.length) (cs := cs) (kv := .int .u32 q.1) (vv := vv) (w1 := w1) S ((hρ' 7 (by omega)).trans h7) ((hρ' 8 (by omega)).trans h8) ((hρ' 12 (by omega)).trans h12) ((hρ' 14 (by omega)).trans h14) hn' hown2 hfr htag2 ht.ones rfl hvo htb hi (by omega) (by omega) k12 fun acc' w' ho' hf' kk => ?_
    have hlen : (pStep least q out).length = out.length + 1 := by rw [hst, List.length_append, List.length_take, List.length_cons, List.length_drop]; omega
    refine hJ acc' w' _ (by rw [hlen]; exact ho') hf' ?_ kk
    rw [hst, List.append_assoc]
    exact (TagsC.take i ht).append (show TagsC w0 (q :: out.drop i) ([.int .u32 q.1, vv] ++ cs.drop (i * 2)) from ⟨vv, _, rfl, hvv, TagsC.drop i ht⟩)
  have skip : ∀ (n' : Nat) (ρ' : Nat → Value), 15 ≤ n' → (∀ x, x < 15 → ρ' x = ρ x) → pStep least q out = out → (gSkip c n').sem P R [J, I1] n' ρ' w2 := by
    intro n' ρ' hn' hρ' hst
    refine s_val (v_arith (kk := .i64) (a := (j : Int)) (b := 1) (r := ((j + 1 : Nat) : Int)) ((hρ' 8 (by omega)).trans h8) rfl (by simp only [arithOf, Option.some.injEq]; rw [IntKind.wrap_i64]; omega)) ?_
    refine ⟨J, rfl, ?_⟩
    generalize hvs : List.map (ev _) [Operand.tmp 7, Operand.tmp n'] = vs
    obtain rfl : vs = [acc, .int .i64 ((j + 1 : Nat) : Int)] := by
      rw [← hvs]
      exact pair_eq' (by show ext _ _ _ 7 = _; rw [lt (by omega)]; exact (hρ' 7 (by omega)).trans h7) ext_at
    exact hJ acc w2 cs (by rw [hst]; exact hown2) hfr (by rw [hst]; exact ht) k12
  refine p_fl S.ty.g0 S.ty.oneU32 (show ev ρ (.tmp 12) = ptr tb from h12) rfl htag2 rfl ?_
  refine p_val (v_cmp (kk := .u32) (a := q.1) (b := least) (r := decide ((q.1 : Int) < least)) ext_at (by show ext _ _ _ 2 = _; rw [lt (by omega), lt (by omega)]; exact h2) rfl) ?_
  refine s_cond (b := decide ((q.1 : Int) < least)) ext_at (fun hb => ?_) fun hb => ?_
  · refine skip _ _ (by omega) (fun x hx => by rw [lt (by omega), lt (by omega), lt (by omega)]) ?_
    unfold pStep
    rw [if_pos (by
      have : (q.1 : Int) < least := by simpa using hb
      omega)]
  have hst : pStep least q out = pPut q out := by
    unfold pStep
    rw [if_neg (by
      have : ¬ (q.1 : Int) < least := by simpa using hb
      omega)]
  have hput := pPut_at hbelow hi hat
  obtain ⟨a, cp, e⟩ := own_form hown2
  refine p_val (v_len (a := a) (l := out.length) (c := cp) S.ty.slTag (by show ext _ _ _ 7 = _; rw [lt (by omega), lt (by omega), lt (by omega), h7, e])) ?_
  refine p_val (v_cmp (kk := .i64) (a := i) (b := out.length) (r := decide ((i : Int) < out.length)) (by show ext _ _ _ 14 = _; rw [lt (by omega), lt (by omega), lt (by omega), lt (by omega)]; exact h14) ext_at rfl) ?_
  refine s_cond (b := decide ((i : Int) < out.length)) ext_at (fun hb2 => ?_) fun hb2 => ?_
  · have hlt : i < out.length := by
      have : (i : Int) < out.length := by simpa using hb2
      omega
    obtain ⟨b, cap, spare, e2, hh, hkey⟩ := own_key hown2 ht hlt
    refine p_val (v_indexAddr (b := b) (o := 0) (l := out.length) (c := cap) (j := (i : Int)) (kk := .i64) S.ty.slTag S.szG (by show ext _ _ _ 7 = _; rw [lt (by omega), lt (by omega), lt (by omega), lt (by omega), lt (by omega), h7, e2]) (by show ext _ _ _ 14 = _; rw [lt (by omega), lt (by omega), lt (by omega), lt (by omega), lt (by omega)]; exact h14) (by omega) (by omega)) ?_
    rw [Int.toNat_natCast]
    refine p_fl S.ty.g0 S.ty.oneU32 ext_at rfl hh hkey ?_
    refine p_fl S.ty.g0 S.ty.oneU32 (by show ext _ _ _ 12 = _; rw [lt (by omega), lt (by omega), lt (by omega), lt (by omega), lt (by omega), lt (by omega), lt (by omega), lt (by omega)]; exact h12) rfl htag2 rfl ?_
    refine p_val (v_cmp (kk := .u32) (a := (out[i]'hlt).1) (b := q.1) (r := (((out[i]'hlt).1 : Int) == q.1)) (by show ext _ _ _ (n + 7) = _; rw [lt (by omega), lt (by omega)]; exact ext_at) ext_at rfl) ?_
    rw [dif_pos hlt] at hput
    refine s_cond (b := (((out[i]'hlt).1 : Int) == q.1)) ext_at (fun hb3 => ?_) fun hb3 => ?_
    · refine skip _ _ (by omega) (fun x hx => by rw [lt (by omega), lt (by omega), lt (by omega), lt (by omega), lt (by omega), lt (by omega), lt (by omega), lt (by omega), lt (by omega), lt (by omega), lt (by omega)]) ?_
      rw [hst, hput, if_pos (by
        have : ((out[i]'hlt).1 : Int) = q.1 := by simpa using hb3
        omega)]
    · refine ins _ _ (by omega) (fun x hx => by rw [lt (by omega), lt (by omega), lt (by omega), lt (by omega), lt (by omega), lt (by omega), lt (by omega), lt (by omega), lt (by omega), lt (by omega), lt (by omega)]) ?_
      rw [hst, hput, if_neg (by
        have : ¬ ((out[i]'hlt).1 : Int) = q.1 := by simpa using hb3
        omega)]
  · have hge : ¬ i < out.length := by
      have : ¬ (i : Int) < out.length := by simpa using hb2
      omega
    refine ins _ _ (by omega) (fun x hx => by rw [lt (by omega), lt (by omega), lt (by omega), lt (by omega), lt (by omega)]) ?_
    rw [hst, hput, dif_neg hge, List.take_of_length_le (by omega), List.drop_eq_nil_of_le (by omega)]

theorem unknown_gives (S : SpFacts P c s) {fs : List PF} (hK : ∀ (w : World) (fv : Value), FieldsV w fs fv → Yields P s.known [fv] w (.int .u32 (pKnown fs 0))) (hT : treeIn P s.unknown noOrc [.tmp 0, .tmp 1] 2 = tUnknown c s) : UnknownOf P s fs := by
  intro w0 w fv uv u ucs hfv hr ht hkey
  refine gives_in (ρ := en [_, _]) S.rd.mix hT (Nat.le_refl _) rfl (by simp [opBelow]) ?_
  refine s_callx (hK w fv hfv) rfl fun x w1 ⟨hx, k1⟩ => ?_
  subst hx
  obtain ⟨a, cp, rfl⟩ := hr.form
  refine s_val (v_len (a := a) (l := u.length) (c := cp) S.ty.slTag rfl) ?_
  refine s_val (v_min (kk := .i64) (a := u.length) (b := 32767) rfl rfl) ?_
  have hcap : u.length ≤ cp := by
    rcases hr.2 with ⟨h0, _⟩ | ⟨_, _, _, e, _, hc, _⟩
    · omega
    · simp only [Value.slice.injEq] at e; omega
  refine s_val (v_sliceTo (a := a) (l := u.length) (c := cp) (k := .i64) (h := if (32767 : Int) < (u.length : Int) then (32767 : Int) else (u.length : Int)) S.ty.slTag S.szG rfl rfl (by split <;> omega) (by split <;> omega)) ?_
  have e : (u.take 32767).length = (if (32767 : Int) < (u.length : Int) then (32767 : Int) else (u.length : Int)).toNat := by
    rw [take_min, List.length_take]
    split <;> omega
  have h2 := (hr.to (m := (u.take 32767).length) (by rw [e]; split <;> omega)).keep k1
  have h3 := ht.take (u.take 32767).length
  have htk : u.take (u.take 32767).length = u.take 32767 := by rw [List.length_take, List.take_eq_take_min]; simp
  rw [htk] at h3
  rw [← e]
  generalize hl : u.take 32767 = l at h2 h3 e ⊢
  have hl7 : l.length ≤ 32767 := by rw [← hl, List.length_take]; omega
  have hkl : ∀ p ∈ l, p.1 < 4294967296 := fun p hp => hkey p (List.mem_of_mem_take (by rw [hl]; exact hp))
  refine s_val (v_len (a := a) (l := l.length) (c := cp) S.ty.slTag rfl) ?_
  refine s_countV (n := 7) (q := 6) (kk := .i64) (m := l.length) (ri := [.const (.slice none 0 0)]) (Γ := []) (fun j vr w' => ∃ acc cs, vr = [acc] ∧ Own w' acc 2 (pUnknownN (pKnown fs 0) (l.take j) []).length cs ∧ (∀ b ∈ blkOf acc, w1.heap.size ≤ b) ∧ TagsC w0 (pUnknownN (pKnown fs 0) (l.take j) []) cs ∧ Keeps [] w1 w') (by omega) rfl
    ⟨_, [], rfl, Own.nil w1 2, (fun b hb => by cases hb), rfl, .refl⟩ ?_ ?_
  · rintro j hj w2 vr ⟨acc, cs, rfl, hown, hfr, htc, k2⟩ hvr J hJ
    have hj' : j < l.length := by omega
    have hsn : pUnknownN (pKnown fs 0) (l.take (j + 1)) [] = pStep (pKnown fs 0) l[j] (pUnknownN (pKnown fs 0) (l.take j) []) := by
      rw [List.take_succ_eq_append_getElem hj', pUnknownN_snoc]
      rfl
    have hol : (pUnknownN (pKnown fs 0) (l.take j) []).length ≤ j := by
      have := pUnknownN_length (pKnown fs 0) (l.take j) []
      rw [List.length_take] at this
      simp at this
      omega
    generalize hout : pUnknownN (pKnown fs 0) (l.take j) [] = out at hown htc hsn hol
    refine s_eachT (w0 := w0) (tv := .slice a l.length cp) (m := l) (j := j) S (h2.keep k2) h3 rfl rfl hj' fun w3 a3 tb vv hh hvv k3 hb => ?_
    have hown3 := hown.keep k3 (by simp)
    have k13 := k2.trans k3
    have htb : tb ∉ blkOf acc := fun h => by have := hown.lt tb h; omega
    refine ⟨rfl, fun vs w' => ∃ i : Nat, vs = [.int .i64 i] ∧ i ≤ out.length ∧ (∀ p ∈ out.take i, p.1 < (l[j]'hj').1) ∧ Keeps [] w3 w', fun vs _ => match vs with
      | [.int _ i] => (out.length : Int).toNat - i.toNat
      | _ => 0, ⟨0, rfl, by omega, (fun p hp => by simp at hp), .refl⟩, ?_⟩
    rintro _ w4 _ ⟨i, rfl, hi, hbelow, k34⟩
    have k14 := k13.trans k34
    show Tr.sem _ _ _ _ _ _ { w4 with drawn := w4.drawn + 1 }
    have hd : Keeps [] w4 { w4 with drawn := w4.drawn + 1 } := keeps_drawn w4 _ _
    generalize ({ w4 with drawn := w4.drawn + 1 } : World) = w5 at hd ⊢
    have hown5 := (hown3.keep k34 (by simp)).keep hd (by simp)
    have htag5 := (hh.keep k34 (by simp)).keep hd (by simp)
    obtain ⟨a5, c5, e5⟩ := own_form hown5
    have fin : ∀ acc' w' cs', Own w' acc' 2 (pStep (pKnown fs 0) l[j] out).length cs' → (∀ b ∈ blkOf acc', w1.heap.size ≤ b) → TagsC w0 (pStep (pKnown fs 0) l[j] out) cs' → Keeps [] w1 w' → J [acc', .int .i64 ((j + 1 : Nat) : Int)] w' := fun acc' w' cs' h4 h5 h6 h7 => hJ [acc'] w' rfl ⟨acc', cs', rfl, by rw [hsn]; exact h4, h5, by rw [hsn]; exact h6, h7⟩
    refine p_val (v_len (a := a5) (l := out.length) (c := c5) S.ty.slTag e5) ?_
    refine p_val (v_cmp (kk := .i64) (a := i) (b := out.length) (r := decide ((i : Int) < out.length)) rfl rfl rfl) ?_
    refine s_cond (b := decide ((i : Int) < out.length)) rfl (fun hb2 => ?_) fun hb2 => ?_
    · have hlt : i < out.length := by
        have : (i : Int) < out.length := by simpa using hb2
        omega
      obtain ⟨b, cap, spare, e2, hh2, hkey2⟩ := own_key hown5 htc hlt
      refine p_val (v_indexAddr (b := b) (o := 0) (l := out.length) (c := cap) (j := (i : Int)) (kk := .i64) S.ty.slTag S.szG e2 rfl (by omega) (by omega)) ?_
      rw [Int.toNat_natCast]
      refine p_fl S.ty.g0 S.ty.oneU32 rfl rfl hh2 hkey2 ?_
      refine p_fl S.ty.g0 S.ty.oneU32 rfl rfl htag5 rfl ?_
      refine p_val (v_cmp (kk := .u32) (a := (out[i]'hlt).1) (b := (l[j]'hj').1) (r := decide (((out[i]'hlt).1 : Int) < (l[j]'hj').1)) rfl rfl rfl) ?_
      refine s_cond (b := decide (((out[i]'hlt).1 : Int) < (l[j]'hj').1)) rfl (fun hb3 => ?_) fun hb3 => ?_
      · have hlt3 : (out[i]'hlt).1 < (l[j]'hj').1 := by
          have : ((out[i]'hlt).1 : Int) < (l[j]'hj').1 := by simpa using hb3
          omega
        refine s_val (v_arith (kk := .i64) (a := i) (b := 1) (r := ((i + 1 : Nat) : Int)) rfl rfl (by simp only [arithOf, Option.some.injEq]; rw [IntKind.wrap_i64]; omega)) ?_
        refine ⟨_, rfl, ⟨i + 1, rfl, by omega, ?_, k34.trans hd⟩, ?_⟩
        · intro p hp
          rw [List.take_succ_eq_append_getElem hlt, List.mem_append] at hp
          rcases hp with hp | hp
          · exact hbelow p hp
          · simp only [List.mem_singleton] at hp
            subst hp
            exact hlt3
        · show (out.length : Int).toNat - ((i + 1 : Nat) : Int).toNat < (out.length : Int).toNat - (i : Int).toNat
          omega
      · refine sem_same (acc := acc) (vv := vv) (tb := tb) (i := i) (j := j) (least := pKnown fs 0) (q := l[j]) (out := out) (cs := cs) (w0 := w0) (w1 := w1) S rfl rfl rfl rfl rfl (by omega) hown5 hfr htc htag5 hvv htb hi hbelow (fun h => ?_) (by omega) (by omega) (k14.trans hd) fin
        have : ¬ ((out[i]'hlt).1 : Int) < (l[j]'hj').1 := by simpa using hb3
        omega
    · refine sem_same (acc := acc) (vv := vv) (tb := tb) (i := i) (j := j) (least := pKnown fs 0) (q := l[j]) (out := out) (cs := cs) (w0 := w0) (w1 := w1) S rfl rfl rfl rfl rfl (by omega) hown5 hfr htc htag5 hvv htb hi hbelow (fun h => ?_) (by omega) (by omega) (k14.trans hd) fin
      have : ¬ (i : Int) < out.length := by simpa using hb2
      omega
  · rintro w2 vr J ⟨acc, cs, rfl, hown, hfr, htc, k2⟩ hvr
    rw [Int.toNat_natCast, List.take_length] at hown htc
    refine s_ret1 ⟨cs, ?_, ?_, fun b hb => Nat.le_trans k1.size (hfr b hb), k1.trans k2⟩
    · unfold pUnknown
      rw [hl]
      exact hown
    · unfold pUnknown
      rw [hl]
      exact htc

end

end Go.Kf

namespace Go.Kf

open Go

mutual
def Ty.wd : Ty → Nat
  | .uuid => 16
  | .sub ts => tyWds ts
  | _ => 1
def tyWds : List Ty → Nat
  | [] => 0
  | t :: ts => t.wd + tyWds ts
end

theorem okF_num {f : FV} {k : IntKind} (h : okF f (.num k)) : ∃ x, f = .one (.int k x) ∧ k.wrap x = x := by
  cases f with
  | one v => obtain ⟨x, rfl, h⟩ := h; exact ⟨x, rfl, h⟩
  | ptr o => cases o <;> simp [okF] at h
  | _ => simp [okF] at h

theorem okF_bool {f : FV} (h : okF f .bool) : ∃ b, f = .one (.bool b) := by
  cases f with
  | one v => obtain ⟨x, rfl⟩ := h; exact ⟨x, rfl⟩
  | ptr o => cases o <;> simp [okF] at h
  | _ => simp [okF] at h

theorem okF_text {f : FV} (h : okF f .text) : ∃ l, f = .text l ∧ l.length ≤ big := by
  cases f with
  | text l => exact ⟨l, rfl, h.2⟩
  | ptr o => cases o <;> simp [okF] at h
  | _ => simp [okF] at h

theorem okF_ntext {f : FV} (h : okF f .ntext) : ∃ o, f = .ntext o ∧ ∀ l, o = some l → l.length ≤ big := by
  cases f with
  | ntext l => exact ⟨l, rfl, h.2⟩
  | ptr o => cases o <;> simp [okF] at h
  | _ => simp [okF] at h

theorem okF_octs {f : FV} (h : okF f .octs) : ∃ nl l, f = .octs nl l ∧ l.length ≤ big := by
  cases f with
  | octs nl l => exact ⟨nl, l, rfl, h.2⟩
  | ptr o => cases o <;> simp [okF] at h
  | _ => simp [okF] at h

theorem okF_uuid {f : FV} (h : okF f .uuid) : ∃ l, f = .uuid l ∧ l.length = 16 := by
  cases f with
  | uuid l => exact ⟨l, rfl, h.2⟩
  | ptr o => cases o <;> simp [okF] at h
  | _ => simp [okF] at h

theorem okF_tags {f : FV} (h : okF f .tags) : ∃ m, f = .tags m ∧ m.length ≤ big ∧ ∀ p ∈ m, p.2.length ≤ big := by
  cases f with
  | tags m => exact ⟨m, rfl, h.2⟩
  | ptr o => cases o <;> simp [okF] at h
  | _ => simp [okF] at h

theorem okF_list {f : FV} {ts : List Ty} (h : okF f (.list ts)) : ∃ nl rows, f = .list nl rows ∧ rows.length ≤ big ∧ okRows rows ts := by
  cases f with
  | list nl rows => exact ⟨nl, rows, rfl, h.1, h.2⟩
  | ptr o => cases o <;> simp [okF] at h
  | _ => simp [okF] at h

theorem okF_sub {f : FV} {ts : List Ty} (h : okF f (.sub ts)) : ∃ fs, f = .sub fs ∧ okFs fs ts := by
  cases f with
  | sub fs => exact ⟨fs, rfl, h⟩
  | ptr o => cases o <;> simp [okF] at h
  | _ => simp [okF] at h

theorem okF_ptr {f : FV} {ts : List Ty} (h : okF f (.ptr ts)) : ∃ o, f = .ptr o ∧ ∀ fs, o = some fs → okFs fs ts := by
  cases f with
  | ptr o => cases o with
    | none => exact ⟨none, rfl, fun fs h => by cases h⟩
    | some fs => exact ⟨some fs, rfl, fun fs' h' => by cases h'; exact h⟩
  | _ => simp [okF] at h

mutual
theorem okF_wd : ∀ (f : FV) (t : Ty), okF f t → f.wd = t.wd
  | f, .num k, h => by obtain ⟨x, rfl, _⟩ := okF_num h; rfl
  | f, .bool, h => by obtain ⟨x, rfl⟩ := okF_bool h; rfl
  | f, .uuid, h => by obtain ⟨x, rfl, _⟩ := okF_uuid h; rfl
  | f, .text, h => by obtain ⟨x, rfl, _⟩ := okF_text h; rfl
  | f, .ntext, h => by obtain ⟨x, rfl, _⟩ := okF_ntext h; rfl
  | f, .octs, h => by obtain ⟨_, x, rfl, _⟩ := okF_octs h; rfl
  | f, .tags, h => by obtain ⟨x, rfl, _⟩ := okF_tags h; rfl
  | f, .list ts, h => by obtain ⟨_, x, rfl, _⟩ := okF_list h; rfl
  | f, .ptr ts, h => by obtain ⟨x, rfl, _⟩ := okF_ptr h; rfl
  | f, .sub ts, h => by
    obtain ⟨fs, rfl, hf⟩ := okF_sub h
    simp only [FV.wd, Ty.wd]
    exact okFs_wds fs ts hf
theorem okFs_wds : ∀ (fs : List FV) (ts : List Ty), okFs fs ts → wds fs = tyWds ts
  | [], ts, h => by simp only [okFs] at h; subst h; rfl
  | f :: fs, [], h => by simp only [okFs] at h
  | f :: fs, t :: ts, h => by
    simp only [okFs] at h
    simp only [wds, tyWds, okF_wd f t h.1, okFs_wds fs ts h.2]
end

theorem okFs_map : ∀ (fs : List FV) (ts : List Ty), okFs fs ts → fs.map FV.wd = ts.map Ty.wd
  | [], ts, h => by simp only [okFs] at h; subst h; rfl
  | f :: fs, [], h => by simp only [okFs] at h
  | f :: fs, t :: ts, h => by
    simp only [okFs] at h
    simp only [List.map_cons, okF_wd f t h.1, okFs_map fs ts h.2]

/-- The row j of a list. -/
theorem RowsAt.at {D : Nat} {w : World} {lo sz : Nat} : ∀ {rows : List (List FV)} {cs : List Value} {j : Nat}, RowsAt D w lo rows cs → (∀ r ∈ rows, wds r = sz) → (hj : j < rows.length) → ∃ a m z, cs = a ++ m ++ z ∧ a.length = j * sz ∧ FsAt D w lo rows[j] m
  | [], _, _, _, _, hj => by simp at hj
  | r :: rows, _, 0, ⟨c1, c2, e, h1, _⟩, _, _ => ⟨[], c1, c2, by simpa using e, by simp, h1⟩
  | r :: rows, _, j + 1, ⟨c1, c2, e, h1, h2⟩, hs, hj => by
    obtain ⟨a, m, z, e2, ha, hm⟩ := RowsAt.at (j := j) h2 (fun x hx => hs x (List.mem_cons_of_mem _ hx)) (by simpa using hj)
    refine ⟨c1 ++ a, m, z, by rw [e, e2]; simp, ?_, by simpa using hm⟩
    rw [List.length_append, ha, FsAt.len r c1 h1, hs r List.mem_cons_self, Nat.add_mul]
    omega

theorem okRows_wds {rows : List (List FV)} {ts : List Ty} (h : okRows rows ts) : ∀ r ∈ rows, wds r = tyWds ts := fun r hr => okFs_wds r ts (okRows_mem h r hr)

section

variable {P : Program} {c : Nums}

/-- A step of the telling, over values of these types. -/
def StepTell (P : Program) (c : Nums) (S : Nat) (ts : List Ty) (s : TStep) (q : Nat) (tf : List FV → PT) : Prop :=
  ∀ (R : Value → World → Prop) (w0 : World) (N D V lo : Nat) (pre post : List Value) (fs : List FV), okFs fs ts → TIn w0 D V lo pre post fs → q < N → V < w0.heap.size → SemT P c R w0 N S V pre s q (tf fs)

def FieldTy (P : Program) (S : Nat) (ts : List Ty) (i off : Nat) (t : Ty) : Prop := fieldOff P S i = some off ∧ ((ts.map Ty.wd).take i).sum = off ∧ ts[i]? = some t

theorem FieldTy.ok {S i off : Nat} {ts : List Ty} {t : Ty} (h : FieldTy P S ts i off t) : FieldOk P S (ts.map Ty.wd) i off := ⟨h.1, h.2.1⟩

def fvGet (fs : List FV) (i : Nat) : FV := fs.getD i (.text [])

theorem fvGet_eq {fs : List FV} {i : Nat} {f : FV} (h : fs[i]? = some f) : fvGet fs i = f := by
  unfold fvGet
  rw [List.getD_eq_getElem?_getD, h]; rfl

/-- Kinds that 64 bits hold. -/
def IntKind.fits (k : IntKind) : Prop := ∀ x, k.wrap x = x → IntKind.i64.wrap x = x

theorem fits_i8 : IntKind.fits .i8 := fun x h => by
  simp only [IntKind.wrap, IntKind.bits, IntKind.signed] at h ⊢; simp at h ⊢; omega

theorem fits_i16 : IntKind.fits .i16 := fun x h => by
  simp only [IntKind.wrap, IntKind.bits, IntKind.signed] at h ⊢; simp at h ⊢; omega

theorem fits_i32 : IntKind.fits .i32 := fun x h => by
  simp only [IntKind.wrap, IntKind.bits, IntKind.signed] at h ⊢; simp at h ⊢; omega

theorem fits_u16 : IntKind.fits .u16 := fun x h => by
  simp only [IntKind.wrap, IntKind.bits, IntKind.signed] at h ⊢; simp at h ⊢; omega

theorem told_num {S i ty q off : Nat} {ik : IntKind} {ts : List Ty} (Z : TyFacts P c c.tTree c.tTrees c.tTagL c.tTag) (K : TellFacts P c) (hF : FieldTy P S ts i off (.num ik)) (hty : P.underlying ty = some (.int ik)) (hone : oneTy P ty = true) (hk : IntKind.fits ik) :
    StepTell P c S ts (.num i ty q) q fun fs => tellPrim (fvGet fs i) := by
  intro R w0 N D V lo pre post fs hok hin hq _
  obtain ⟨f, hf, hft⟩ := okFs_get hok hF.2.2
  obtain ⟨x, rfl, hx⟩ := okF_num hft
  simp only [fvGet_eq hf]
  exact tell_num Z K.plan hin (okFs_map _ _ hok) hF.ok hq hty hone hf (hk x hx)

theorem told_text {S i q off : Nat} {ts : List Ty} (F : RdFacts P c) (Z : TyFacts P c c.tTree c.tTrees c.tTagL c.tTag) (K : TellFacts P c) (hstr : oneTy P c.tStr = true) (hF : FieldTy P S ts i off .text) : StepTell P c S ts (.text i q) q fun fs => tellPrim (fvGet fs i) := by
  intro R w0 N D V lo pre post fs hok hin hq _
  obtain ⟨f, hf, hft⟩ := okFs_get hok hF.2.2
  obtain ⟨l, rfl, hl⟩ := okF_text hft
  simp only [fvGet_eq hf]
  exact tell_text F hstr Z K.plan hin (okFs_map _ _ hok) hF.ok hq hf hl

/-- A function that tells one cell's value, by its type. -/
def TellCellTy (P : Program) (f : Nat) (t : Ty) : Prop := t.wd = 1 ∧ ∀ (D lo : Nat) (fv : FV), okF fv t → TellCell P f D lo fv

theorem told_call {S f i ty q off : Nat} {t : Ty} {ts : List Ty} (Z : TyFacts P c c.tTree c.tTrees c.tTagL c.tTag) (hF : FieldTy P S ts i off t) (hone : oneTy P ty = true) (hC : TellCellTy P f t) : StepTell P c S ts (.call f i ty q) q fun fs => tellPrim (fvGet fs i) := by
  intro R w0 N D V lo pre post fs hok hin hq _
  obtain ⟨fv, hf, hft⟩ := okFs_get hok hF.2.2
  simp only [fvGet_eq hf]
  exact tell_call Z hin (okFs_map _ _ hok) hF.ok hq hone hf ((okF_wd fv t hft).trans hC.1) (hC.2 D lo fv hft)

/-- An element of a list, told. -/
def ElTell (P : Program) (c : Nums) (el : TEl) (ts : List Ty) (g : List FV → PT) : Prop :=
  ∀ (w : World) (D lo B : Nat) (a m z : List Value) (r : List FV), Has w B (a ++ m ++ z) → FsAt D w lo r m → okFs r ts → ElLaid P c el B a.length (g r) w

theorem el_sub {f : Nat} {ts : List Ty} {g : List FV → PT} (h : TellOf P f ts g) : ElTell P c (.sub f) ts g := fun w D lo B a m z r hh hf hok w' k' =>
  h w' D B lo a z m r hok (hh.keep k' (by simp)) (FsAt.keep k' lo (fun b hb => by cases hb) _ _ hf)

theorem el_text (hstr : oneTy P c.tStr = true) : ElTell P c .text [.text] fun r => tellPrim (fvGet r 0) := by
  intro w D lo B a m z r hh hf hok
  obtain ⟨f, hr, hft⟩ := okFs_get (i := 0) hok rfl
  obtain ⟨l, rfl, hl⟩ := okF_text hft
  simp only [fvGet_eq hr]
  obtain ⟨a1, m1, z1, e, ha, hm, _⟩ := hf.split hr
  have : a1 = [] := List.eq_nil_of_length_eq_zero (by rw [ha]; rfl)
  subst this
  simp only [FAt] at hm
  subst hm
  exact ⟨_, _, hh, by rw [e, List.append_assoc, List.getElem?_append_right (Nat.le_refl _), Nat.sub_self]; rfl, ⟨l, rfl, hl, rfl⟩, hstr⟩

theorem el_num {ty : Nat} {ik : IntKind} (hty : P.underlying ty = some (.int ik)) (hone : oneTy P ty = true) (hk : IntKind.fits ik) : ElTell P c (.num ty) [.num ik] fun r => tellPrim (fvGet r 0) := by
  intro w D lo B a m z r hh hf hok
  obtain ⟨f, hr, hft⟩ := okFs_get (i := 0) hok rfl
  obtain ⟨x, rfl, hx⟩ := okF_num hft
  simp only [fvGet_eq hr]
  obtain ⟨a1, m1, z1, e, ha, hm, _⟩ := hf.split hr
  have : a1 = [] := List.eq_nil_of_length_eq_zero (by rw [ha]; rfl)
  subst this
  obtain ⟨rfl, _⟩ := hm
  exact ⟨_, _, hh, by rw [e, List.append_assoc, List.getElem?_append_right (Nat.le_refl _), Nat.sub_self]; rfl, ⟨ik, x, rfl, hty, hk x hx, rfl⟩, hone⟩

/-- What a list is told as. -/
def tellList (g : List FV → PT) : FV → PT
  | .list nl rows => .mk 0 [] nl (rows.map g) []
  | _ => .zero

theorem told_list {S i tySl q T sz off : Nat} {el : TEl} {ets ts : List Ty} {g : List FV → PT} (F : RdFacts P c) (Z : TyFacts P c c.tTree c.tTrees c.tTagL c.tTag) (K : TellFacts P c) (hF : FieldTy P S ts i off (.list ets)) (hone : oneTy P tySl = true) (hsl : P.underlying tySl = some (.slice T)) (hsz : (P.info? T).map (·.size) = some sz)
    (hw : tyWds ets = sz) (hE : ElTell P c el ets g) : StepTell P c S ts (.list i tySl q el) q fun fs => tellList g (fvGet fs i) := by
  intro R w0 N D V lo pre post fs hok hin hq hV
  obtain ⟨f, hf, hft⟩ := okFs_get hok hF.2.2
  obtain ⟨nl, rows, rfl, hl, hrows⟩ := okF_list hft
  simp only [fvGet_eq hf]
  refine tell_list (tl := rows.map g) F Z K.plan K.row K.coin hin (okFs_map _ _ hok) hF.ok hq hone hsl hsz hf (by simp) (by simp only [List.length_map, big] at hl ⊢; omega) hV fun w B rcs kk hB hr j hj => ?_
  have hj' : j < rows.length := by simpa using hj
  obtain ⟨a, m, z, e, ha, hm⟩ := hr.at (j := j) (fun r hr => (okRows_wds hrows r hr).trans hw) hj'
  subst e
  have := hE w D (B + 1) B a m z rows[j] hB hm (okRows_mem hrows _ (List.getElem_mem _))
  rw [ha] at this
  rw [Nat.zero_add, List.getElem_map]
  exact this

/-- What a part is told as. -/
def tellPart (g : List FV → PT) : FV → PT
  | .sub fs => g fs
  | _ => .zero

/-- Steps and what they tell. -/
def StepsTell (P : Program) (c : Nums) (S : Nat) (ts : List Ty) : List TStep → List (List FV → PT) → Nat → Prop
  | [], [], _ => True
  | s :: ss, t :: tl, q => StepTell P c S ts s q t ∧ StepsTell P c S ts ss tl (q + 1)
  | _, _, _ => False

theorem steps_told {S : Nat} {ts : List Ty} {R : Value → World → Prop} {w0 : World} {N D V lo : Nat} {pre post : List Value} {fs : List FV} (hok : okFs fs ts) (hin : TIn w0 D V lo pre post fs) (hV : V < w0.heap.size) :
    ∀ (ss : List TStep) (tfs : List (List FV → PT)) (q : Nat), StepsTell P c S ts ss tfs q → q + tfs.length ≤ N → StepsT P c R w0 N S V pre ss (tfs.map (· fs)) q
  | [], [], _, _, _ => trivial
  | [], _ :: _, _, h, _ => h.elim
  | _ :: _, [], _, h, _ => h.elim
  | s :: ss, t :: tl, q, ⟨h1, h2⟩, hq => by
    simp only [List.length_cons] at hq
    exact ⟨h1 R w0 N D V lo pre post fs hok hin (by omega) hV, steps_told hok hin hV ss tl (q + 1) h2 (by omega)⟩

/-- A struct without tags. -/
theorem told_of {f S N : Nat} {ts : List Ty} {ss : List TStep} {tfs : List (List FV → PT)} (F : RdFacts P c) (Z : TyFacts P c c.tTree c.tTrees c.tTagL c.tTag) (K : TellFacts P c) (hT : treeIn P f noOrc [.tmp 0] 1 = gTell c S N ss) (hN : tfs.length = N) (hsm : N ≤ 1024) (hs : StepsTell P c S ts ss tfs 0) :
    TellOf P f ts fun fs => .mk 0 [] false (tfs.map (· fs)) [] := by
  intro w D V lo pre post mid fs hok hh hf
  exact tell_gives F Z K hT (by simpa using hN) hsm fun R => steps_told hok ⟨mid, hh, hf⟩ hh.lt ss tfs 0 hs (by omega)

end

end Go.Kf




namespace Go.Kf

open Go Go.ChangeShapes Go.WideShapes Go.RowKit

theorem lit_u8 {n : Int} (h : (Lit.int .u8 n).wf = true) : ∃ m : Nat, n = m ∧ m < 256 := by
  simp only [Lit.wf, Bool.and_eq_true, decide_eq_true_eq] at h
  have e1 : IntKind.u8.min = 0 := rfl
  have e2 : IntKind.u8.max = 255 := rfl
  rw [e1, e2] at h
  exact ⟨n.toNat, by omega, by omega⟩

theorem cell_block {w : World} {a : Addr} {v : Value} (h : w.cell? a = some v) : a.block < w.heap.size := by
  unfold World.cell? at h
  cases hb : w.heap[a.block]? with
  | none => rw [hb] at h; cases h
  | some o => exact (Array.getElem?_eq_some_iff.1 hb).1

theorem keptBut_keeps {w w' : World} (hk : Keeps [] w w') (may : MemPlace → Prop) : w.keptBut w' may := by
  refine ⟨hk.os, hk.output, fun i hi => ?_⟩
  rw [hk.block i hi (by simp)]
  split <;> simp_all

/-- The listed error's variable. -/
theorem err_at {P : Program} {W : World} {name nm : String} {d : DataW Unit} {g t : Nat} (hg : P.globalNamed name = some g) (ht : (P.globals[g]?).map (·.type) = some t) (hu : ∃ ms, P.underlying t = some (.interface ms)) (hn : (DataW.iface nm d : DataW Unit).handleName?.isNone = true) (hL : laidMetH P [(name, .iface nm d)] W) :
    ∃ u v, ErrAt W g (.iface u v) := by
  have hL' : laidMet P [(name, .iface nm d)] W := by
    unfold laidMetH at hL
    have : ([(name, DataW.iface nm d)].filter fun x => x.2.handleName?.isSome) = [] := by
      simp only [List.filter_cons, List.filter_nil]
      rw [if_neg (by simpa using hn)]
    rw [this] at hL
    exact hL
  obtain ⟨ps, ⟨g', t', cs, fuel, p, q, hg', ht', hv, htr, _⟩, _⟩ := hL'
  obtain rfl : g = g' := by rw [hg] at hg'; simpa using hg'
  obtain rfl : t = t' := by rw [ht] at ht'; simpa using ht'
  obtain ⟨ms, hu⟩ := hu
  unfold World.var? at hv
  rw [hg] at hv
  simp only [Option.bind_some] at hv
  cases hb : W.heap[g]? with
  | none => rw [hb] at hv; cases hv
  | some o =>
    rw [hb] at hv
    obtain ⟨c, ty, fr, rfl⟩ : ∃ c ty fr, o = .cells c ty fr := by cases o <;> first | exact ⟨_, _, _, rfl⟩ | cases hv
    simp only [Option.some.injEq] at hv
    subst hv
    cases fuel with
    | zero => simp [DataW.trod] at htr
    | succ fuel =>
      unfold DataW.trod at htr
      rw [hu] at htr
      obtain ⟨u, v, hcs⟩ : ∃ u v, c.toList = [.iface u v] := by
        match hc : c.toList with
        | [.iface u v] => exact ⟨u, v, rfl⟩
        | [.nilIface] => rw [hc] at htr; simp at htr
        | [] => rw [hc] at htr; simp at htr
        | _ :: _ :: _ => rw [hc] at htr; simp at htr
        | [.bool _] => rw [hc] at htr; simp at htr
        | [.int _ _] => rw [hc] at htr; simp at htr
        | [.string _] => rw [hc] at htr; simp at htr
        | [.pointer _] => rw [hc] at htr; simp at htr
        | [.slice _ _ _] => rw [hc] at htr; simp at htr
        | [.map _] => rw [hc] at htr; simp at htr
        | [.agg _] => rw [hc] at htr; simp at htr
        | [x] => rw [hc] at htr; cases x <;> simp_all
      refine ⟨u, v, ?_, (Array.getElem?_eq_some_iff.1 hb).1⟩
      unfold World.cell?
      rw [show (⟨g, 0, none⟩ : Addr).block = g from rfl, hb]
      simp only [Option.isSome_none, Bool.false_eq_true, if_false]
      rw [← Array.getElem?_toList, hcs]
      rfl

end Go.Kf




namespace Go.Kf

open Go Go.Shelf Go.Proofs

variable {P : Program} {ρ : Ren}

theorem be_cell {w : World} {b o i : Nat} {cs : List Value} {l : List UInt8} (hh : Has w b cs) (hx : (cs.drop o).take (l.length * 1) = bcells l) (hi : i < l.length) : w.cell? ⟨b, o + i, none⟩ = some (.int .u8 l[i].toNat) := by
  refine hh.cell ?_
  have h1 : (bcells l)[i]? = some (.int .u8 l[i].toNat) := by simp [bcells, hi]
  rw [← hx, List.getElem?_take, if_pos (by omega), List.getElem?_drop] at h1
  exact h1

theorem be16 {f : Nat} (L : LaysBin.n36 P ρ) (hf : ρ.f 36 = f) (hg : goFn P f = true) : BeGives P f 2 .u16 := by
  subst hf
  intro w v l hl hr
  rcases hr.2 with ⟨_, h0⟩ | ⟨b, o, cap, cs, rfl, hc, hh, hlen, hx⟩
  · omega
  · refine ⟨hg, Calls.mono (Proofs.Any.binary_BE_Uint16 L b o l.length cap l[0] l[1] w hl (be_cell (i := 0) hh hx (by omega)) (be_cell (i := 1) hh hx (by omega))) fun e w' ⟨he, hb⟩ => ?_⟩
    subst he
    refine ⟨?_, .ofBelow hb⟩
    match l, hl with
    | b0 :: b1 :: r, _ => rfl

theorem be32 {f : Nat} (L : LaysBin.n39 P ρ) (hf : ρ.f 39 = f) (hg : goFn P f = true) : BeGives P f 4 .u32 := by
  subst hf
  intro w v l hl hr
  rcases hr.2 with ⟨_, h0⟩ | ⟨b, o, cap, cs, rfl, hc, hh, hlen, hx⟩
  · omega
  · refine ⟨hg, Calls.mono (Proofs.Any.binary_BE_Uint32 L b o l.length cap l[0] l[1] l[2] l[3] w hl (be_cell (i := 0) hh hx (by omega)) (be_cell (i := 1) hh hx (by omega)) (be_cell (i := 2) hh hx (by omega)) (be_cell (i := 3) hh hx (by omega))) fun e w' ⟨he, hb⟩ => ?_⟩
    subst he
    refine ⟨?_, .ofBelow hb⟩
    match l, hl with
    | b0 :: b1 :: b2 :: b3 :: r, _ => rfl

end Go.Kf


namespace Go.Kf

open Go

variable {P : Program} {c : Nums}

def chkZero (P : Program) (t s : Nat) : Bool := match zeroTy P t with
  | some (z, s') => Nat.beq s' s && Nat.beq z.cells.size s
  | none => false

theorem zero_of {t s : Nat} (h : chkZero P t s = true) : ∃ z, zeroTy P t = some (z, s) ∧ z.cells.size = s := by
  unfold chkZero at h
  split at h
  · rename_i z s' hz
    simp only [Bool.and_eq_true] at h
    obtain rfl := Nat.eq_of_beq_eq_true h.1
    exact ⟨z, hz, Nat.eq_of_beq_eq_true h.2⟩
  · cases h

def chkInfo (P : Program) (t s m : Nat) : Bool := match P.info? t with
  | some i => match i.zero with
    | some z => Nat.beq i.size s && Nat.beq z.cells.size s && Nat.ble i.bytes m
    | none => false
  | none => false

theorem info_of {t s m : Nat} (h : chkInfo P t s m = true) : ∃ inf z, P.info? t = some inf ∧ inf.zero = some z ∧ inf.size = s ∧ z.cells.size = s ∧ inf.bytes ≤ m := by
  unfold chkInfo at h
  split at h
  · rename_i i hi
    split at h
    · rename_i z hz
      simp only [Bool.and_eq_true] at h
      exact ⟨i, z, hi, hz, Nat.eq_of_beq_eq_true h.1.1, Nat.eq_of_beq_eq_true h.1.2, Nat.le_of_ble_eq_true h.2⟩
    · cases h
  · cases h

theorem StrFacts.of (h : chkZero P c.tStr 1 = true) (h1 : oneTy P c.tStr = true) : StrFacts P c := ⟨zero_of h, h1⟩

theorem RowFacts.of {T sz : Nat} (h : chkInfo P T sz 1024 = true) (ha : aggTy P T = some sz) (hp : 0 < sz ∧ sz ≤ 1024) : RowFacts P T sz := ⟨info_of h, ha, hp⟩

theorem OctFacts.of (h : chkInfo P c.tU8 1 8 = true) : OctFacts P c := ⟨info_of h⟩

theorem ListOk.of {tySl T sz : Nat} (h1 : P.underlying tySl = some (.slice T)) (h2 : oneTy P tySl = true) (h3 : chkInfo P T sz 65536 = true) (h4 : 0 < sz) : ListOk P c tySl T sz := by
  obtain ⟨i, z, hi, hz, hs, hc, hb⟩ := info_of h3
  exact ⟨h1, h2, i, z, hi, hz, hs, hc, h4, hb⟩

def chkPlan (P : Program) (t n : Nat) (fs : List (Nat × Nat)) : Bool := match buildPlan P t with
  | some (z, gs) => Nat.beq z.length n && decide (gs = fs)
  | none => false

theorem plan_of {t n : Nat} {fs : List (Nat × Nat)} (h : chkPlan P t n fs = true) : ∃ z, buildPlan P t = some (z, fs) ∧ z.length = n := by
  unfold chkPlan at h
  split at h
  · rename_i z gs hz
    simp only [Bool.and_eq_true, decide_eq_true_eq] at h
    obtain rfl := h.2
    exact ⟨z, hz, Nat.eq_of_beq_eq_true h.1⟩
  · cases h

theorem GotFacts.of (h1 : buildPlan P c.sTree = some (zeroTree, [(0, 1), (1, 1), (2, 1), (3, 1), (4, 1)])) (h2 : chkPlan P c.sTag 2 [(0, 1), (1, 1)] = true) (h3 : zeroTy P c.sTree = some (.agg ⟨zeroTree⟩, 5)) (h4 : chkZero P c.tTree 5 = true) (h5 : chkZero P c.tTag 2 = true)
    (h6 : RowFacts P c.sTree 5) (h7 : RowFacts P c.sTag 2) : GotFacts P c := ⟨h1, plan_of h2, h3, zero_of h4, zero_of h5, h6, h7⟩

theorem RfFacts.of {S : Nat} (h1 : buildPlan P c.tRd = some ([.slice none 0 0, .bool false], [(0, 1), (1, 1)])) (h2 : zeroTy P c.tRd = some (.agg #[.slice none 0 0, .bool false], 2)) (h3 : (P.info? c.tRd).map (·.size) = some 2) (h4 : fieldOff P S 0 = some 0) (h5 : oneTy P c.tI16 = true) : RfFacts P c S :=
  ⟨⟨false, h1, rfl⟩, h2, h3, h4, h5⟩

def isIface : Option TypeDesc → Bool
  | some (.interface _) => true
  | _ => false

theorem iface_of {t : Nat} (h : isIface (P.underlying t) = true) : ∃ ms, P.underlying t = some (.interface ms) := by
  unfold isIface at h
  split at h
  · rename_i ms hm; exact ⟨ms, hm⟩
  · cases h

end Go.Kf


namespace Go.Kf

open Go

section

variable {P : Program} {ρ : Nat → Value} {w : World}

/-- A key's entry. -/
def keyIs (n : Int) (e : MapEntry) : Bool := match e.key with
  | .int _ m => n == m
  | _ => false

/-- An update, of the entries. -/
def esSet : List MapEntry → Int → Value → Nat → List MapEntry
  | [], n, v, clock => [{ key := .int .u32 n, val := v, born := clock }]
  | e :: es, n, v, clock => if keyIs n e then { e with key := .int .u32 n, val := v } :: es else e :: esSet es n v clock

end

end Go.Kf

namespace Go.Kf

open Go

theorem EntsAt.any {D : Nat} {w w' : World} {M : List Nat} {es : List MapEntry} {m : TM} (h : ∀ L, EntsAt D w L es m) (hk : Keeps M w w') (hD : D ∉ M) : ∀ L, EntsAt D w' L es m := by
  intro L
  have hb : ∃ B, ∀ b ∈ M, b < B := by
    clear hD hk
    induction M with
    | nil => exact ⟨0, fun b hb => by cases hb⟩
    | cons x M ih =>
      obtain ⟨B, hB⟩ := ih
      exact ⟨B + x + 1, fun b hb => by
        rcases List.mem_cons.1 hb with h | h
        · omega
        · have := hB b h; omega⟩
  obtain ⟨B, hB⟩ := hb
  exact EntsAt.imp (fun e p ⟨he, nl, ho⟩ => ⟨he, nl, (ho.keep hk (fun b hb => ⟨fun e => hD (by rw [← e]; exact hb), by have := hB b hb; omega⟩)).mono (Nat.le_add_right L B)⟩) (h (L + B))

theorem EntAt.is {D L : Nat} {w : World} {e : MapEntry} {p : Nat × List UInt8} (h : EntAt D w L e p) (k : Nat) : keyIs k e = decide (p.1 = k) := by
  simp only [keyIs, h.1]
  by_cases hk : p.1 = k
  · simp [hk]
  · have : ((k : Int) == (p.1 : Int)) = false := by simp; omega
    simp [hk, this]

theorem EntsAt.set {D L k clock : Nat} {w : World} {l : List UInt8} {v : Value} (hv : ∃ nl, OctAt w D L nl l v) : ∀ {es : List MapEntry} {m : TM}, EntsAt D w L es m → EntsAt D w L (esSet es k v clock) (tmSet m k l)
  | [], [], _ => ⟨⟨rfl, hv⟩, trivial⟩
  | e :: es, p :: m, ⟨h1, h2⟩ => by
    simp only [esSet, tmSet, h1.is k, decide_eq_true_eq]
    split
    · exact ⟨⟨rfl, hv⟩, h2⟩
    · exact ⟨h1, EntsAt.set hv h2⟩
  | [], _ :: _, h => h.elim
  | _ :: _, [], h => h.elim

section

variable {P : Program} {c : Nums}

theorem OctAt.any {D : Nat} {w w' : World} {M : List Nat} {nl : Bool} {l : List UInt8} {v : Value} (h : ∀ L, OctAt w D L nl l v) (hk : Keeps M w w') (hD : D ∉ M) : ∀ L, OctAt w' D L nl l v := by
  intro L
  have h1 := h L
  refine ⟨h1.1.keep hk (fun b hb hbM => ?_), h1.2.1, h1.2.2⟩
  rcases (h (b + 1)).2.2 b hb with e | e
  · exact hD (e ▸ hbM)
  · omega

end

end Go.Kf


namespace Go.Kf

open Go

def EntR (w : World) (e : MapEntry) (p : Nat × List UInt8) : Prop := e.key = .int .u32 p.1 ∧ Ro w e.val 1 p.2.length (bcells p.2)

def EntsR (w : World) : List MapEntry → TM → Prop
  | [], [] => True
  | e :: es, p :: m => EntR w e p ∧ EntsR w es m
  | _, _ => False

def TagsR (w : World) (m : TM) (v : Value) : Prop :=
  (v = .map none ∧ m = []) ∨ ∃ b es clock, v = .map (some b) ∧ w.heap[b]? = some (.map es clock) ∧ EntsR w es.toList m ∧ es.toList.Pairwise (fun a b => a.born < b.born) ∧ (∀ e ∈ es.toList, e.born < clock) ∧
    (∀ p ∈ m, p.1 < 2 ^ 32) ∧ (m.map (·.1)).Nodup ∧ m ≠ []

theorem EntsAt.r {D lo : Nat} {w : World} : ∀ {es : List MapEntry} {m : TM}, EntsAt D w lo es m → EntsR w es m
  | [], [], _ => trivial
  | _ :: _, _ :: _, hh => ⟨⟨hh.1.1, by obtain ⟨nl, h⟩ := hh.1.2; exact Ro.of_reads h.1⟩, EntsAt.r hh.2⟩
  | [], _ :: _, hh => hh.elim
  | _ :: _, [], hh => hh.elim

theorem TagsAt.r {D lo : Nat} {w : World} {m : TM} {v : Value} (h : TagsAt D w lo m v) : TagsR w m v := by
  rcases h with h | ⟨b, es, clock, hb, hv, hh, he, hr⟩
  · exact .inl h
  · exact .inr ⟨b, es, clock, hv, hh, he.r, hr⟩

theorem EntsR.len {w : World} : ∀ {es : List MapEntry} {m : TM}, EntsR w es m → es.length = m.length
  | [], [], _ => rfl
  | _ :: _, _ :: _, ⟨_, h⟩ => by simp [EntsR.len h]
  | [], _ :: _, h => h.elim
  | _ :: _, [], h => h.elim

theorem EntsR.get {w : World} : ∀ {es : List MapEntry} {m : TM} {i : Nat} {p : Nat × List UInt8}, EntsR w es m → m[i]? = some p → ∃ e, es[i]? = some e ∧ EntR w e p
  | e :: es, q :: m, 0, p, ⟨h, _⟩, hi => by
    simp only [List.getElem?_cons_zero, Option.some.injEq] at hi
    subst hi
    exact ⟨e, rfl, h⟩
  | e :: es, q :: m, i + 1, p, ⟨_, h⟩, hi => by
    simp only [List.getElem?_cons_succ] at hi ⊢
    exact EntsR.get h hi
  | [], [], _, _, _, hi => by simp at hi
  | [], _ :: _, _, _, h, _ => h.elim
  | _ :: _, [], _, _, h, _ => h.elim

theorem EntR.is {w : World} {e : MapEntry} {p : Nat × List UInt8} (h : EntR w e p) (k : Nat) : keyIs k e = decide (p.1 = k) := by
  simp only [keyIs, h.1]
  by_cases hk : p.1 = k
  · simp [hk]
  · have : ((k : Int) == (p.1 : Int)) = false := by simp; omega
    simp [hk, this]

/-- Kept, whatever changes elsewhere. -/
theorem TagsR.keep {w w' : World} {m : TM} {v : Value} (h : TagsR w m v) (hk : Keeps [] w w') : TagsR w' m v := by
  rcases h with h | ⟨b, es, clock, hv, hh, he, hr⟩
  · exact .inl h
  · refine .inr ⟨b, es, clock, hv, ?_, ?_, hr⟩
    · rw [hk.block b (Array.getElem?_eq_some_iff.1 hh).1 (by simp)]; exact hh
    · exact imp he
  where imp : ∀ {es : List MapEntry} {m : TM}, EntsR w es m → EntsR w' es m
  | [], [], _ => trivial
  | _ :: _, _ :: _, hh => ⟨⟨hh.1.1, hh.1.2.keep hk⟩, imp hh.2⟩
  | [], _ :: _, hh => hh.elim
  | _ :: _, [], hh => hh.elim

end Go.Kf

namespace Go.Kf

open Go

def tmGet (m : TM) (k : Nat) : List UInt8 := match m.find? (fun p => Nat.beq p.1 k) with
  | some p => p.2
  | none => []

def leInt (a b : Int) : Bool := decide (a ≤ b)

/-- Tags by rising numbers. -/
def sortTM (m : TM) : TM := ((m.map fun p => (p.1 : Int)).mergeSort leInt).map fun k => (k.toNat, tmGet m k.toNat)

theorem sorted_eq {ks ks' : List Int} (h : ks'.Perm ks) (hs : ks'.Pairwise (· ≤ ·)) : ks' = ks.mergeSort leInt := by
  have h2 := List.pairwise_mergeSort (le := leInt) (fun a b c h1 h2 => by simp only [leInt, decide_eq_true_eq] at *; omega) (fun a b => by simp only [leInt, Bool.or_eq_true, decide_eq_true_eq]; omega) ks
  refine List.Perm.eq_of_pairwise (le := fun a b => a ≤ b) (fun a b _ _ h1 h2 => by omega) hs (h2.imp fun h => by simpa [leInt] using h) (h.trans (List.mergeSort_perm ks leInt).symm)

theorem tmGet_eq : ∀ {m : TM} {i : Nat} {p : Nat × List UInt8}, (m.map (·.1)).Nodup → m[i]? = some p → tmGet m p.1 = p.2
  | q :: m, 0, p, _, hi => by
    simp only [List.getElem?_cons_zero, Option.some.injEq] at hi
    subst hi
    simp [tmGet]
  | q :: m, i + 1, p, hn, hi => by
    simp only [List.map_cons, List.nodup_cons] at hn
    simp only [List.getElem?_cons_succ] at hi
    have hne : ¬ q.1 = p.1 := fun e => hn.1 (e ▸ List.mem_map_of_mem (List.mem_of_getElem? hi))
    have := tmGet_eq hn.2 hi
    unfold tmGet at this ⊢
    rw [List.find?_cons_of_neg (by simp [hne])]
    exact this
  | [], _, _, _, hi => by simp at hi

section

variable {P : Program} {c : Nums}

theorem sortTM_nil : sortTM [] = [] := by simp [sortTM]

end

end Go.Kf

namespace Go.Kf

open Go

theorem TagRows.key {w : World} {A : Nat → Prop} : ∀ {u : TM} {cs : List Value} {i : Nat} {p : Nat × List UInt8}, TagRows w A u cs → u[i]? = some p → cs[i * 2]? = some (.int .u32 p.1)
  | [], _, _, _, _, hi => by simp at hi
  | q :: u, _, 0, p, ⟨v, r, e, _, _⟩, hi => by
    simp only [List.getElem?_cons_zero, Option.some.injEq] at hi
    subst hi
    rw [e]; rfl
  | q :: u, _, i + 1, p, ⟨v, r, e, _, h⟩, hi => by
    simp only [List.getElem?_cons_succ] at hi
    rw [e, show (i + 1) * 2 = i * 2 + 1 + 1 by omega]
    simp only [List.getElem?_cons_succ]
    exact TagRows.key h hi

end Go.Kf

namespace Go.Kf

open Go

section

variable {P : Program} {c : Nums}

def tellTags : FV → TM
  | .tags m => sortTM m
  | _ => []

end

end Go.Kf

namespace Go.Kf

open Go

def tOctetsTree (c : Nums) : Tr := .op (.alloc c.tTree) none [] <| .op (.call { callee := .builtin .append, args := ⟨[nilV, .tmp 0]⟩, argTypes := ⟨[c.tBytes, c.tBytes]⟩ }) none [] <| .op (.binOp .eql c.tBytes (.tmp 0) nilV c.tBytes) none [] <|
  .op (.build c.tTree ⟨[(1, .tmp 2), (2, .tmp 3)]⟩) none [] <| .op (.store c.tTree (.tmp 1) (.tmp 4)) none [] <| .ret [(.tmp 1, some c.tTree)]

section

variable {P : Program} {c : Nums} {R : Value → World → Prop} {Γ : List (List Value → World → Prop)} {n : Nat} {ρ : Nat → Value} {w w0 : World} {k : Tr} {N : Nat} {ts : List PT} {u : TM} {uv : Value} {D V lo S : Nat} {pre post : List Value} {fs : List FV}

/-- A copy of octets, whatever their bound. -/
theorem copy_any {x : Operand} {v : Value} {l : List UInt8} (F : RdFacts P c) (O : OctFacts P c) (hx : ev ρ x = v) (hr : Reads w v 1 l.length (bcells l)) (hl : l.length ≤ big) :
    ∃ v' w', runOp P ρ (.call { callee := .builtin .append, args := ⟨[nilV, x]⟩, argTypes := ⟨[c.tBytes, c.tBytes]⟩ }) w = .ok (.value v') w' ∧ Own w' v' 1 l.length (bcells l) ∧ Keeps [] w w' ∧ (∀ b ∈ blkOf v', w.heap.size ≤ b) := by
  obtain ⟨inf, z, hi, hz, hsz, hzc, hby⟩ := O.info
  obtain ⟨v', w', e, ho, hk, hb⟩ := a_append (P := P) (ρ := ρ) (w := w) (t := c.tBytes) (tx := c.tBytes) (x := nilV) (y := x) F.bytes hi hz hsz hzc rfl hx (Own.nil w 1) (hr.src F.bytes (bcells_one l)) (by
    have : (0 + l.length) * inf.bytes ≤ 1073741825 * 8 := Nat.mul_le_mul (by simp only [big] at hl; omega) hby
    omega) (by simp only [big] at hl; omega)
  rw [Nat.zero_add, List.nil_append] at ho
  refine ⟨v', w', e, ho, hk, fun b hb' => ?_⟩
  rcases hb b hb' with h | h
  · cases h
  · exact h

theorem octetsTree_gives {f : Nat} (F : RdFacts P c) (O : OctFacts P c) (Z : TyFacts P c c.tTree c.tTrees c.tTagL c.tTag) (K : TellFacts P c) (hT : treeIn P f noOrc [.tmp 0] 1 = tOctetsTree c) : TellCellTy P f .octs := by
  refine ⟨rfl, fun D lo fv hok w v hv => ?_⟩
  obtain ⟨nl, l, rfl, hl⟩ := okF_octs hok
  obtain ⟨v0, e0, ho⟩ := hv
  obtain rfl : v = v0 := by simpa using e0
  refine gives_in (ρ := en [v]) F.mix hT (Nat.le_refl _) rfl (by simp [opBelow]) ?_
  refine s_alloc K.zero fun w1 h1 k1 z1 => ?_
  have ho1 := ho.keep k1 (fun b hb => by cases hb)
  obtain ⟨v2, w2, e2, hown, k2, hb2⟩ := copy_any (ρ := ext (en [v]) 1 [ptr w.heap.size]) (x := .tmp 0) (w := w1) F O rfl ho1.1 hl
  refine s_act e2 (fun p hp => (by cases hp)) ?_
  obtain ⟨a, cp, hva, _⟩ := ho1.1.form
  have hnl : a.isNone = nl := by
    rw [← ho.2.1, hva]
    cases a <;> rfl
  refine s_val (v_eqlSlice (op := .eql) (a := a) (l := l.length) (c := cp) (r := nl) F.bytes hva rfl (.inl ⟨rfl, hnl.symm⟩)) ?_
  refine s_val (v_build (cells := [.int .i64 0, v2, .bool nl, .slice none 0 0, .slice none 0 0]) K.plan (fun q hq => by
    simp only [List.mem_cons, List.not_mem_nil, or_false] at hq
    rcases hq with rfl | rfl
    · exact hown.one
    · rfl) rfl) ?_
  have s1 := k1.size
  refine s_storeAll (b := w.heap.size) (old := zeroTree) (cs := [.int .i64 0, v2, .bool nl, .slice none 0 0, .slice none 0 0]) Z.agg rfl rfl (h1.keep k2 (by simp)) rfl (fun q hq => by
    simp only [List.mem_cons, List.not_mem_nil, or_false] at hq
    rcases hq with rfl | rfl | rfl | rfl | rfl
    · rfl
    · exact hown.one
    · rfl
    · rfl
    · rfl) fun w3 h3 k3 => ?_
  refine s_retAgg (b := w.heap.size) rfl h3 Z.agg ⟨⟨_, rfl, oct_tree (.of (hown.keep k3 fun b hb => by have := hb2 b hb; simp only [List.mem_singleton]; omega).reads (fun b hb => by have := hb2 b hb; omega) (by simp only [big] at hl; omega)) nl⟩, ?_⟩
  exact ((k1.trans k2).mono (by simp) |>.trans k3).less fun x hx => .inr (by simp only [List.mem_singleton] at hx; omega)

end

end Go.Kf

namespace Go.Kf

open Go

section

variable {P : Program} {c : Nums} {R : Value → World → Prop} {w : World} {rb D : Nat} {r : Rd}

def tTextTree (c : Nums) : Tr := .op (.alloc c.tTree) none [] <| .op (.binOp .eql c.tPStr (.tmp 0) (.const (.pointer none)) c.tPStr) none [] <| .cond (.tmp 2)
  (.op (.build c.tTree ⟨[(2, .const (.bool true))]⟩) none [] <| .op (.store c.tTree (.tmp 1) (.tmp 3)) none [] <| .ret [(.tmp 1, some c.tTree)])
  (.op (.nilCheck (.tmp 0)) none [] <| .op (.load c.tStr (.tmp 3)) none [] <| .op (.convert c.tStr c.tBytes (.tmp 4)) none [] <| .op (.build c.tTree ⟨[(1, .tmp 5)]⟩) none [] <| .op (.store c.tTree (.tmp 1) (.tmp 6)) none [] <| .ret [(.tmp 1, some c.tTree)])

theorem textTree_gives {f e : Nat} (F : RdFacts P c) (Z : TyFacts P c c.tTree c.tTrees c.tTagL c.tTag) (K : TellFacts P c) (hstr : oneTy P c.tStr = true) (hp : P.underlying c.tPStr = some (.pointer e)) (hT : treeIn P f noOrc [.tmp 0] 1 = tTextTree c) : TellCellTy P f .ntext := by
  refine ⟨rfl, fun D lo fv hok w v hv => ?_⟩
  obtain ⟨o, rfl, hl⟩ := okF_ntext hok
  obtain ⟨v0, e0, ho⟩ := hv
  obtain rfl : v = v0 := by simpa using e0
  refine gives_in (ρ := en [v]) F.mix hT (Nat.le_refl _) rfl (by simp [opBelow]) ?_
  refine s_alloc K.zero fun w1 h1 k1 z1 => ?_
  have hout : ∀ (t : PT) (cs : List Value) (w2 w3 : World), TreeAt w2 (fun b => w.heap.size < b) t cs → Keeps [] w w2 → Has w3 w.heap.size cs → Keeps [w.heap.size] w2 w3 → (∃ cs', (Value.agg ⟨cs⟩) = .agg ⟨cs'⟩ ∧ TreeAt w3 (fun b => w.heap.size ≤ b) t cs') ∧ Keeps [] w w3 := by
    intro t cs w2 w3 ht k2 _ k3
    refine ⟨⟨cs, rfl, TreeAt.keep k3 (fun b hb h' => by simp only [List.mem_singleton] at hb; omega) (fun b h' _ => by omega) _ _ ht⟩, ((k2.mono (by simp)).trans k3).less fun x hx => .inr (by simp only [List.mem_singleton] at hx; omega)⟩
  cases o with
  | none =>
    simp only [NStrAt] at ho
    subst ho
    refine s_val (v_eqlPtr (op := .eql) (a := none) (r := true) hp rfl rfl (.inl ⟨rfl, rfl⟩)) ?_
    refine s_cond (b := true) rfl (fun _ => ?_) (fun h => by cases h)
    refine s_val (v_build (cells := [.int .i64 0, .slice none 0 0, .bool true, .slice none 0 0, .slice none 0 0]) K.plan (fun q hq => by
      simp only [List.mem_singleton] at hq; subst hq; rfl) rfl) ?_
    have ht : TreeAt w1 (fun b => w.heap.size < b) (.mk 0 [] true [] []) [.int .i64 0, .slice none 0 0, .bool true, .slice none 0 0, .slice none 0 0] := oct_tree ⟨Ro.nil _ 1, (fun h => absurd rfl h), by decide⟩ true
    refine s_storeAll (b := w.heap.size) (old := zeroTree) (cs := [.int .i64 0, .slice none 0 0, .bool true, .slice none 0 0, .slice none 0 0]) Z.agg rfl rfl h1 rfl ht.ones fun w3 h3 k3 => ?_
    exact s_retAgg (b := w.heap.size) rfl h3 Z.agg (hout _ _ w1 w3 ht k1 h3 k3)
  | some l =>
    obtain ⟨b, hb, rfl, hh⟩ := ho
    have hl' := hl l rfl
    refine s_val (v_eqlPtr (op := .eql) (a := some ⟨b, 0, none⟩) (r := false) hp rfl rfl (.inl ⟨rfl, rfl⟩)) ?_
    refine s_cond (b := false) rfl (fun h => by cases h) fun _ => ?_
    refine s_val (v_nilCheck (a := ⟨b, 0, none⟩) rfl) ?_
    refine s_lok (l_load1 (b := b) (o := 0) hstr rfl (hh.keep k1 (by simp)) rfl) ?_
    obtain ⟨v2, w2, e2, ho2, k2, hb2⟩ := a_stringBytes (P := P) (ρ := ext (ext (ext (ext (en [ptr b]) 1 [ptr w.heap.size]) (1 + 1) [.bool false]) (1 + 1 + 1) [.pointer (some ⟨b, 0, none⟩)]) (1 + 1 + 1 + 1) [.string (strOf l)]) (s := c.tStr) (d := c.tBytes) (x := .tmp 4) (w := w1) (l := l) F.str F.bytes F.u8 rfl (by simp only [big] at hl'; omega)
    refine s_act e2 (fun p hp => (by cases hp)) ?_
    refine s_val (v_build (cells := [.int .i64 0, v2, .bool false, .slice none 0 0, .slice none 0 0]) K.plan (fun q hq => by
      simp only [List.mem_singleton] at hq; subst hq; exact ho2.one) rfl) ?_
    have ht : TreeAt w2 (fun b => w.heap.size < b) (.mk 0 l false [] []) [.int .i64 0, v2, .bool false, .slice none 0 0, .slice none 0 0] := oct_tree (.of ho2.reads (fun x hx => by
      rw [hb2] at hx
      simp only [List.mem_singleton] at hx
      omega) (by simp only [big] at hl'; omega)) false
    refine s_storeAll (b := w.heap.size) (old := zeroTree) (cs := [.int .i64 0, v2, .bool false, .slice none 0 0, .slice none 0 0]) Z.agg rfl rfl (h1.keep k2 (by simp)) rfl ht.ones fun w3 h3 k3 => ?_
    exact s_retAgg (b := w.heap.size) rfl h3 Z.agg (hout _ _ w2 w3 ht (k1.trans k2) h3 k3)

end

end Go.Kf


namespace Go.Kf

open Go

def tUsualG (c : Nums) (s : SN) : Tr :=
  .op (.box c.sTree (.tmp 1)) none [] <|
  .op (.fieldAddr c.sTree (.tmp 2) 4) none [] <|
  .op (.load c.sTagL (.tmp 3)) none [] <|
  .op (.call { callee := (.builtin .len), args := ⟨[(.tmp 4)]⟩, argTypes := ⟨[c.sTagL]⟩ }) none [] <|
  .op (.binOp .gtr c.tInt (.tmp 5) (.const (.int .i64 0)) c.tInt) none [] <|
  .cond (.tmp 6) (
    .ret [((.const (.bool false)), none)]
  ) (
    .op (.call { callee := (.builtin .len), args := ⟨[(.tmp 0)]⟩, argTypes := ⟨[s.fields]⟩ }) none [] <|
    .loop 0 [(.const (.bool false)), (.const (.int .i64 0))] <|
    .op (.binOp .lss c.tInt (.tmp 9) (.tmp 7) c.tInt) none [] <|
    .cond (.tmp 10) (
      .op (.indexAddr s.fields (.tmp 0) (.tmp 9)) none [] <|
      .op (.load s.field (.tmp 11)) none [] <|
      .op (.alloc s.field) none [] <|
      .op (.store s.field (.tmp 13) (.tmp 12)) none [] <|
      .op (.load c.sTree (.tmp 2)) none [] <|
      .op (callOp s.at_ [(.tmp 15), (.tmp 9)]) none [] <|
      .op (.alloc c.sTree) none [] <|
      .op (.store c.sTree (.tmp 17) (.tmp 16)) none [] <|
      .op (.fieldAddr s.field (.tmp 13) 0) none [] <|
      .op (.load c.tInt (.tmp 19)) none [] <|
      .op (.binOp .eql c.tInt (.tmp 20) (.const (.int .i64 8)) c.tInt) none [] <|
      .join 1 (
        .cond (.tmp 21) (
          .op (.fieldAddr c.sTree (.tmp 17) 2) none [] <|
          .op (.load c.tBool (.tmp 22)) none [] <|
          .op (.fieldAddr s.field (.tmp 13) 3) none [] <|
          .op (.load c.tInt (.tmp 24)) none [] <|
          .op (.binOp .geq c.tInt (.tmp 25) (.const (.int .i64 0)) c.tInt) none [] <|
          .op (.binOp .neq c.tBool (.tmp 23) (.tmp 26) c.tBool) none [] <|
          .cond (.tmp 27) (
            .ret [((.const (.bool false)), none)]
          ) (
            .op (.fieldAddr c.sTree (.tmp 17) 1) none [] <|
            .op (.load c.tBytes (.tmp 28)) none [] <|
            .op (.call { callee := (.builtin .len), args := ⟨[(.tmp 29)]⟩, argTypes := ⟨[c.tBytes]⟩ }) none [] <|
            .op (.binOp .gtr c.tInt (.tmp 30) (.const (.int .i64 0)) c.tInt) none [] <|
            .cond (.tmp 31) (
              .ret [((.const (.bool false)), none)]
            ) (
              .to 1 [(.tmp 8)]
            )
          )
        ) (
          .op (.binOp .eql c.tInt (.tmp 20) (.const (.int .i64 7)) c.tInt) none [] <|
          .join 2 (
            .cond (.tmp 22) (
              .draw <|
              .pur (.fieldAddr c.sTree (.tmp 17) 1) none <|
              .lok (.load c.tBytes (.tmp 23)) none <|
              .op (.makeSlice c.tBytes (.const (.int .i64 16)) (.const (.int .i64 16))) none [((.load c.tBytes (.tmp 23)), 24)] <|
              .op (callOp s.same [(.tmp 24), (.tmp 25)]) none [] <|
              .pur (.unOp .not c.tBool (.tmp 26)) none <|
              .cond (.tmp 27) (
                .ret [((.const (.bool false)), none)]
              ) (
                .to 2 [(.tmp 8)]
              )
            ) (
              .op (.binOp .eql c.tInt (.tmp 20) (.const (.int .i64 9)) c.tInt) none [] <|
              .join 3 (
                .cond (.tmp 23) (
                  .to 3 [(.tmp 23)]
                ) (
                  .op (.binOp .eql c.tInt (.tmp 20) (.const (.int .i64 11)) c.tInt) none [] <|
                  .to 3 [(.tmp 24)]
                )
              ) 1 <|
              .join 3 (
                .cond (.tmp 24) (
                  .op (.fieldAddr c.sTree (.tmp 17) 1) none [] <|
                  .op (.load c.tBytes (.tmp 25)) none [] <|
                  .op (.call { callee := (.builtin .len), args := ⟨[(.tmp 26)]⟩, argTypes := ⟨[c.tBytes]⟩ }) none [] <|
                  .op (.binOp .gtr c.tInt (.tmp 27) (.const (.int .i64 0)) c.tInt) none [] <|
                  .cond (.tmp 28) (
                    .ret [((.const (.bool false)), none)]
                  ) (
                    .op (.fieldAddr c.sTree (.tmp 17) 3) none [] <|
                    .op (.load c.sTrees (.tmp 29)) none [] <|
                    .op (.call { callee := (.builtin .len), args := ⟨[(.tmp 30)]⟩, argTypes := ⟨[c.sTrees]⟩ }) none [] <|
                    .op (.binOp .gtr c.tInt (.tmp 31) (.const (.int .i64 0)) c.tInt) none [] <|
                    .cond (.tmp 32) (
                      .ret [((.const (.bool false)), none)]
                    ) (
                      .to 3 [(.tmp 8)]
                    )
                  )
                ) (
                  .op (.binOp .eql c.tInt (.tmp 20) (.const (.int .i64 10)) c.tInt) none [] <|
                  .join 4 (
                    .cond (.tmp 25) (
                      .op (.fieldAddr s.field (.tmp 13) 3) none [] <|
                      .op (.load c.tInt (.tmp 26)) none [] <|
                      .op (.binOp .geq c.tInt (.tmp 27) (.const (.int .i64 0)) c.tInt) none [] <|
                      .cond (.tmp 28) (
                        .op (.fieldAddr c.sTree (.tmp 17) 2) none [] <|
                        .op (.load c.tBool (.tmp 29)) none [] <|
                        .op (.unOp .not c.tBool (.tmp 30)) none [] <|
                        .cond (.tmp 31) (
                          .ret [((.const (.bool false)), none)]
                        ) (
                          .op (.fieldAddr s.field (.tmp 13) 3) none [] <|
                          .op (.load c.tInt (.tmp 32)) none [] <|
                          .op (.binOp .lss c.tInt (.tmp 33) (.const (.int .i64 0)) c.tInt) none [] <|
                          .cond (.tmp 34) (
                            .op (.fieldAddr s.field (.tmp 13) 7) none [] <|
                            .op (.load s.fields (.tmp 35)) none [] <|
                            .op (.load c.sTree (.tmp 17)) none [] <|
                            .op (callOp s.usualG [(.tmp 36), (.tmp 37)]) none [] <|
                            .op (.unOp .not c.tBool (.tmp 38)) none [] <|
                            .cond (.tmp 39) (
                              .ret [((.const (.bool false)), none)]
                            ) (
                              .to 4 [(.tmp 8)]
                            )
                          ) (
                            .to 4 [(.tmp 8)]
                          )
                        )
                      ) (
                        .op (.fieldAddr s.field (.tmp 13) 3) none [] <|
                        .op (.load c.tInt (.tmp 29)) none [] <|
                        .op (.binOp .lss c.tInt (.tmp 30) (.const (.int .i64 0)) c.tInt) none [] <|
                        .cond (.tmp 31) (
                          .op (.fieldAddr s.field (.tmp 13) 7) none [] <|
                          .op (.load s.fields (.tmp 32)) none [] <|
                          .op (.load c.sTree (.tmp 17)) none [] <|
                          .op (callOp s.usualG [(.tmp 33), (.tmp 34)]) none [] <|
                          .op (.unOp .not c.tBool (.tmp 35)) none [] <|
                          .cond (.tmp 36) (
                            .ret [((.const (.bool false)), none)]
                          ) (
                            .to 4 [(.tmp 8)]
                          )
                        ) (
                          .to 4 [(.tmp 8)]
                        )
                      )
                    ) (
                      .draw <|
                      .pur (.fieldAddr c.sTree (.tmp 17) 0) none <|
                      .lok (.load c.tI64 (.tmp 26)) none <|
                      .pur (.fieldAddr s.field (.tmp 13) 0) none <|
                      .lok (.load c.tInt (.tmp 28)) none <|
                      .pur (.fieldAddr s.field (.tmp 13) 5) none <|
                      .lok (.load c.tI64 (.tmp 30)) none <|
                      .op (callOp s.number [(.tmp 29), (.tmp 31)]) none [((.load c.tI64 (.tmp 26)), 27)] <|
                      .pur (.binOp .neq c.tI64 (.tmp 27) (.tmp 32) c.tI64) none <|
                      .cond (.tmp 33) (
                        .ret [((.const (.bool false)), none)]
                      ) (
                        .to 4 [(.tmp 8)]
                      )
                    )
                  ) 1 <|
                  .to 3 [(.tmp 26)]
                )
              ) 1 <|
              .to 2 [(.tmp 25)]
            )
          ) 1 <|
          .to 1 [(.tmp 23)]
        )
      ) 1 <|
      .op (.binOp .add c.tInt (.tmp 9) (.const (.int .i64 1)) c.tInt) none [] <|
      .to 0 [(.tmp 22), (.tmp 23)]
    ) (
      .ret [((.const (.bool true)), none)]
    )
  )

theorem fits_of {k : IntKind} (h : IntKind.fits k) (x : Int) : IntKind.i64.wrap (k.wrap x) = k.wrap x := h _ (wrap_wrap k x)

theorem pUsualGots_get : ∀ {fs : List PF} {t : PT} {i : Nat}, pUsualGots fs t i = true ↔ ∀ j (hj : j < fs.length), pUsualGot fs[j] (pAt t (i + j)) = true
  | [], t, i => by simp [pUsualGots]
  | f :: r, t, i => by
    rw [pUsualGots, Bool.and_eq_true, pUsualGots_get (fs := r)]
    constructor
    · rintro ⟨h1, h2⟩ j hj
      cases j with
      | zero => exact h1
      | succ j =>
        have := h2 j (by simpa using hj)
        rw [show i + (j + 1) = i + 1 + j by omega]
        simpa using this
    · intro h
      refine ⟨h 0 (by simp), fun j hj => ?_⟩
      have := h (j + 1) (by simpa using hj)
      rw [show i + 1 + j = i + (j + 1) by omega]
      simpa using this

theorem pUsualGots_false {fs : List PF} {t : PT} {j : Nat} (hj : j < fs.length) (h : pUsualGot fs[j] (pAt t j) = false) : pUsualGots fs t 0 = false := by
  cases hh : pUsualGots fs t 0 with
  | false => rfl
  | true =>
    have := pUsualGots_get.1 hh j hj
    rw [Nat.zero_add, h] at this
    cases this

def UsualOf (P : Program) (s : SN) (fs : List PF) : Prop := ∀ (w : World) (fv : Value) (t : PT) (ts : List Value), FieldsV w fs fv → TreeC w t ts → Yields P s.usualG [fv, .agg ⟨ts⟩] w (.bool (t.u.isEmpty && pUsualGots fs t 0))

theorem pUsualGot_eq (f : PF) (x : PT) : pUsualGot f x = pUsualGotOf (fun y => y.u.isEmpty && pUsualGots f.sub y 0) f x := by
  cases f; rw [pUsualGot]; rfl

section

variable {P : Program} {c : Nums} {s : SN} {R : Value → World → Prop} {Γ : List (List Value → World → Prop)} {n : Nat} {ρ : Nat → Value} {w : World} {k : Tr}

theorem number_gives (S : SpFacts P c s) (Nt : NumTys P c) (hT : treeIn P s.number noOrc [.tmp 0, .tmp 1] 2 = tNumber c) (kind x : Int) : Yields P s.number [.int .i64 kind, .int .i64 x] w (.int .i64 (pNumber kind x)) := by
  refine gives_in (ρ := en [_, _]) S.rd.mix hT (Nat.le_refl _) rfl (by simp [opBelow]) ?_
  unfold pNumber
  refine s_val (v_cmp (kk := .i64) (a := kind) (b := 0) (r := kind == 0) rfl rfl rfl) ?_
  refine s_cond (b := kind == 0) rfl (fun hb => ?_) fun hb => ?_
  · rw [if_pos (by simpa using hb)]
    exact s_val (v_bits (op := .and) (kk := .i64) (.inl rfl) rfl rfl (and1_i64 x)) (s_ret1 ⟨rfl, .refl⟩)
  rw [if_neg (by simpa using hb)]
  refine s_val (v_cmp (kk := .i64) (a := kind) (b := 1) (r := kind == 1) rfl rfl rfl) ?_
  refine s_cond (b := kind == 1) rfl (fun hb => ?_) fun hb => ?_
  · rw [if_pos (by simpa using hb)]
    refine s_val (v_conv (k1 := .i64) (k2 := .i8) (a := x) S.ty.i64 Nt.i8 rfl) (s_val (v_conv (k1 := .i8) (k2 := .i64) (a := IntKind.i8.wrap x) Nt.i8 S.ty.i64 rfl) ?_)
    rw [fits_of fits_i8]
    exact s_ret1 ⟨rfl, .refl⟩
  rw [if_neg (by simpa using hb)]
  refine s_val (v_cmp (kk := .i64) (a := kind) (b := 2) (r := kind == 2) rfl rfl rfl) ?_
  refine s_cond (b := kind == 2) rfl (fun hb => ?_) fun hb => ?_
  · rw [if_pos (by simpa using hb)]
    refine s_val (v_conv (k1 := .i64) (k2 := .i16) (a := x) S.ty.i64 S.rd.i16 rfl) (s_val (v_conv (k1 := .i16) (k2 := .i64) (a := IntKind.i16.wrap x) S.rd.i16 S.ty.i64 rfl) ?_)
    rw [fits_of fits_i16]
    exact s_ret1 ⟨rfl, .refl⟩
  rw [if_neg (by simpa using hb)]
  refine s_val (v_cmp (kk := .i64) (a := kind) (b := 3) (r := kind == 3) rfl rfl rfl) ?_
  refine s_cond (b := kind == 3) rfl (fun hb => ?_) fun hb => ?_
  · rw [if_pos (by simpa using hb)]
    refine s_val (v_conv (k1 := .i64) (k2 := .i32) (a := x) S.ty.i64 S.rd.i32 rfl) (s_val (v_conv (k1 := .i32) (k2 := .i64) (a := IntKind.i32.wrap x) S.rd.i32 S.ty.i64 rfl) ?_)
    rw [fits_of fits_i32]
    exact s_ret1 ⟨rfl, .refl⟩
  rw [if_neg (by simpa using hb)]
  refine s_val (v_cmp (kk := .i64) (a := kind) (b := 5) (r := kind == 5) rfl rfl rfl) ?_
  refine s_cond (b := kind == 5) rfl (fun hb => ?_) fun hb => ?_
  · rw [if_pos (by simpa using hb)]
    refine s_val (v_conv (k1 := .i64) (k2 := .u16) (a := x) S.ty.i64 Nt.u16 rfl) (s_val (v_conv (k1 := .u16) (k2 := .i64) (a := IntKind.u16.wrap x) Nt.u16 S.ty.i64 rfl) ?_)
    rw [fits_of fits_u16]
    exact s_ret1 ⟨rfl, .refl⟩
  rw [if_neg (by simpa using hb)]
  exact s_ret1 ⟨rfl, .refl⟩

/-- make([]byte, 16) -/
theorem s_zeros16 {Fo : List (Op × Nat)} (S : SpFacts P c s) (hk : ∀ v' w', MadeO w w' v' (List.replicate 16 0) → (∀ p ∈ Fo, runOp P ρ p.1 w' = .ok (.value (ρ p.2)) w') ∧ k.sem P R Γ (n + 1) (ext ρ n [v']) w') :
    (Tr.op (.makeSlice c.tBytes (.const (.int .i64 16)) (.const (.int .i64 16))) none Fo k).sem P R Γ n ρ w := by
  obtain ⟨inf, hi, hz, hsz, hb⟩ := S.zero8
  obtain ⟨w1, e1, h1, k1, z1⟩ := a_makeSlice (P := P) (ρ := ρ) (w := w) (x := .const (.int .i64 16)) (y := .const (.int .i64 16)) S.rd.bytes hi hz (by rw [hsz]; rfl) (by omega) rfl rfl (by decide) (by decide) (by omega) (by decide)
  have hm : MadeO w w1 (.slice (some ⟨w.heap.size, 0, none⟩) 16 16) (List.replicate 16 0) := by
    refine ⟨⟨rfl, .inr ⟨w.heap.size, 16, [], rfl, (show Has w1 _ (List.replicate 16 (.int .u8 0)) from h1), by decide, by decide, rfl⟩⟩, fun b hb => ?_, k1⟩
    simp only [blkOf, List.mem_singleton] at hb
    omega
  exact s_act e1 (hk _ w1 hm).1 (hk _ w1 hm).2

theorem same_ro (F : RdFacts P c) {f : Nat} (hT : treeIn P f noOrc [.tmp 0, .tmp 1] 2 = tSame c) {v1 v2 : Value} {l1 l2 : List UInt8} (hbig : l1.length < 2 ^ 62 ∨ l2.length < 2 ^ 62) (h1 : Ro w v1 1 l1.length (bcells l1)) (h2 : Ro w v2 1 l2.length (bcells l2)) : Yields P f [v1, v2] w (.bool (decide (l1 = l2))) := same_gives F hT w v1 v2 l1 l2 hbig h1 h2

theorem usual_step (S : SpFacts P c s) (Q : Smalls P s) (hS : ∀ (w : World) (v1 v2 : Value) (l1 l2 : List UInt8), (l1.length < 2 ^ 62 ∨ l2.length < 2 ^ 62) → Ro w v1 1 l1.length (bcells l1) → Ro w v2 1 l2.length (bcells l2) → Yields P s.same [v1, v2] w (.bool (decide (l1 = l2)))) (hN : ∀ (w : World) (kind x : Int), Yields P s.number [.int .i64 kind, .int .i64 x] w (.int .i64 (pNumber kind x)))
    (hT : treeIn P s.usualG noOrc [.tmp 0, .tmp 1] 2 = tUsualG c s) {fs : List PF} (hlen : fs.length < 65536) (ih : ∀ f ∈ fs, UsualOf P s f.sub) : UsualOf P s fs := by
  intro w fv t ts hfv ht
  have htc := ht
  have hfv0 := hfv
  obtain ⟨fcs, hr, hfc⟩ := hfv
  obtain ⟨sv, lv, uv, lcs, ucs, rfl, h1, h2, h3, h4, h5⟩ := ht.cells
  refine gives_in (ρ := en [_, _]) S.rd.mix hT (Nat.le_refl _) rfl (by simp [opBelow]) ?_
  refine s_box rfl fun w1 hx1 k1 z1 => ?_
  obtain ⟨au, cu, eu⟩ := h4.form
  refine s_fl S.ty.f4 S.ty.oneTagL rfl rfl hx1 rfl (s_val (v_len (a := au) (l := t.u.length) (c := cu) S.ty.slTag eu) ?_)
  refine s_val (v_cmp (kk := .i64) (a := t.u.length) (b := 0) (r := decide ((t.u.length : Int) > 0)) rfl rfl rfl) ?_
  refine s_cond (b := decide ((t.u.length : Int) > 0)) rfl (fun hb => s_ret1 ⟨?_, k1⟩) fun hb => ?_
  · have : 0 < t.u.length := by
      have : (t.u.length : Int) > 0 := by simpa using hb
      omega
    have he : t.u.isEmpty = false := by
      cases hu : t.u with
      | nil => rw [hu] at this; simp at this
      | cons => rfl
    rw [he]
    rfl
  have hemp : t.u.isEmpty = true := by
    have : ¬ (t.u.length : Int) > 0 := by simpa using hb
    rw [List.isEmpty_iff_length_eq_zero]
    omega
  rw [hemp, Bool.true_and]
  obtain ⟨a, cp, e⟩ := hr.form
  refine s_val (v_len (a := a) (l := fs.length) (c := cp) S.sl e) ?_
  refine s_countV (n := 8) (q := 7) (kk := .i64) (m := fs.length) (ri := [.const (.bool false)]) (Γ := []) (fun j vr w' => vr = [.bool false] ∧ Keeps [] w1 w' ∧ ∀ i (hi : i < fs.length), i < j → pUsualGot fs[i] (pAt t i) = true) (by omega) rfl ⟨rfl, .refl, fun i _ h => by omega⟩ ?_ ?_
  · rintro j hj w2 vr ⟨rfl, k12, hall⟩ hvr J hJ
    have hj' : j < fs.length := by omega
    have k02 := k1.trans k12
    refine s_eachF (fv := fv) (fs := fs) (j := j) S (hfv0.keep k02) rfl rfl hj' fun w3 a3 b cs hh hf k3 hb => ?_
    have hf0 := hf
    obtain ⟨sv3, rfl, hsub⟩ := hf.cells
    have k13 := k12.trans k3
    have hx3 := hx1.keep k13 (by simp)
    refine s_lok (l_loadN (b := w.heap.size) (o := 0) S.ty.agg rfl hx3 (show 0 + 5 ≤ 5 by omega)) ?_
    refine s_callx (Q.at_ w3 t _ j (TreeC.keep (k1.trans k13) _ _ htc)) rfl fun u w4 ⟨k4, tcs, hu, htj⟩ => ?_
    subst hu
    refine s_alloc S.got.zero fun w5 hz5 k5 z5 => ?_
    have hl5 := htj.len
    refine s_storeAll (b := w4.heap.size) (old := zeroTree) (cs := tcs) (by rw [hl5]; exact S.ty.agg) rfl rfl hz5 (by rw [hl5]; rfl) htj.ones fun w6 hy6 k6 => ?_
    have k46 : Keeps [] w4 w6 := ((k5.mono (by simp)).trans k6).less fun x hx => .inr (by simp only [List.mem_singleton] at hx; omega)
    have k36 := k4.trans k46
    have k16 := k13.trans k36
    have hh6 := hh.keep k36 (by simp)
    have ht6 := TreeC.keep k46 _ _ htj
    generalize hx : pAt t j = x at htj ht6
    have hxl := ht6.lens
    have ht60 := ht6
    obtain ⟨xs, xl, xu, xlc, xuc, rfl, g1, g2, g3, g4, g5⟩ := ht6.cells
    have fin : ∀ w', pUsualGot fs[j] x = true → Keeps [] w6 w' → J [.bool false, .int .i64 ((j + 1 : Nat) : Int)] w' := fun w' hg hk => hJ [_] w' rfl ⟨rfl, k16.trans hk, fun i hi hij => by
      by_cases hij2 : i = j
      · subst hij2; rw [hx]; exact hg
      · exact hall i hi (by omega)⟩
    have bad : ∀ w', pUsualGot fs[j] x = false → Keeps [] w6 w' → (fun u w' => u = Value.bool (pUsualGots fs t 0) ∧ Keeps [] w w') (.bool false) w' := fun w' hg hk => ⟨by rw [pUsualGots_false hj' (by rw [hx]; exact hg)], (k1.trans k16).trans hk⟩
    rw [pUsualGot_eq] at fin bad
    generalize hff : fs[j]'hj' = f at fin bad hsub hh6
    have hih := ih f (by rw [← hff]; exact List.getElem_mem hj')
    unfold pUsualGotOf at fin bad
    generalize hG : (if f.kind = 8 then _ else _ : Bool) = G at fin bad
    refine s_fl S.f0 S.oneInt rfl rfl hh6 rfl ?_
    refine s_val (v_cmp (kk := .i64) (a := f.kind) (b := 8) (r := f.kind == 8) rfl rfl rfl) ?_
    refine ⟨rfl, fun vs w' => vs = [.bool false] ∧ Keeps [] w6 w' ∧ G = true, ?_, ?_⟩
    · refine s_cond (b := f.kind == 8) rfl (fun hb => ?_) fun hb => ?_
      · rw [if_pos (by simpa using hb)] at hG
        refine s_fl S.ty.f2 S.rd.oneBool rfl rfl hy6 rfl (s_fl S.f3 S.oneInt rfl rfl hh6 rfl ?_)
        refine s_val (v_cmp (kk := .i64) (a := f.nul) (b := 0) (r := decide (f.nul ≥ 0)) rfl rfl rfl) ?_
        refine s_val (v_eqlBool (op := .neq) (a := x.null) (b := decide (f.nul ≥ 0)) (r := x.null != decide (f.nul ≥ 0)) S.ty.bool rfl rfl (.inr ⟨rfl, rfl⟩)) ?_
        refine s_cond (b := x.null != decide (f.nul ≥ 0)) rfl (fun hb2 => s_ret1 (bad w6 ?_ .refl)) fun hb2 => ?_
        · rw [← hG, show (x.null == decide (0 ≤ f.nul)) = false by simpa [bne] using hb2]
          rfl
        obtain ⟨sa, cps, es⟩ := g1.form
        refine s_fl S.ty.f1 S.rd.oneBytes rfl rfl hy6 rfl (s_val (v_len (a := sa) (l := x.s.length) (c := cps) S.rd.bytes es) ?_)
        refine s_val (v_cmp (kk := .i64) (a := x.s.length) (b := 0) (r := decide ((x.s.length : Int) > 0)) rfl rfl rfl) ?_
        have hemp : x.s.isEmpty = !decide ((x.s.length : Int) > 0) := by cases x.s <;> simp
        refine s_cond (b := decide ((x.s.length : Int) > 0)) rfl (fun hb3 => s_ret1 (bad w6 ?_ .refl)) fun hb3 => ⟨_, rfl, rfl, .refl, ?_⟩
        · rw [← hG, hemp, hb3, Bool.not_true, Bool.and_false]
        · rw [← hG, hemp, hb3, show (x.null == decide (0 ≤ f.nul)) = true by simpa [bne] using hb2]
          rfl
      rw [if_neg (by simpa using hb)] at hG
      refine s_val (v_cmp (kk := .i64) (a := f.kind) (b := 7) (r := f.kind == 7) rfl rfl rfl) ?_
      refine ⟨rfl, fun vs w' => vs = [.bool false] ∧ Keeps [] w6 w' ∧ G = true, ?_, fun vs w' _ ⟨h1, h2, h3⟩ => ⟨_, rfl, by subst h1; exact ⟨rfl, h2, h3⟩⟩⟩
      refine s_cond (b := f.kind == 7) rfl (fun hb => ?_) fun hb => ?_
      · rw [if_pos (by simpa using hb)] at hG
        show Tr.sem _ _ _ _ _ _ { w6 with drawn := w6.drawn + 1 }
        have hd : Keeps [] w6 { w6 with drawn := w6.drawn + 1 } := keeps_drawn w6 _ _
        generalize ({ w6 with drawn := w6.drawn + 1 } : World) = w7 at hd ⊢
        have hy7 := hy6.keep hd (by simp)
        refine p_fl S.ty.f1 S.rd.oneBytes rfl rfl hy7 rfl ?_
        refine s_zeros16 S fun v8 w8 hM => ⟨fun p hp => ?_, ?_⟩
        · simp only [List.mem_singleton] at hp
          subst hp
          exact l_load1 (b := w4.heap.size) (o := 1) S.rd.oneBytes rfl (hy7.keep hM.2.2 (by simp)) rfl
        have hs8 : x.s.length < 2 ^ 62 := by omega
        refine s_callx (hS w8 xs v8 x.s (List.replicate 16 0) (.inl hs8) ((g1.keep hd).keep hM.2.2) (Ro.of_reads hM.1.reads)) rfl fun u w9 ⟨hu, k9⟩ => ?_
        subst hu
        refine p_val (v_not (b := decide (x.s = List.replicate 16 0)) rfl) ?_
        refine s_cond (b := !decide (x.s = List.replicate 16 0)) rfl (fun hb3 => s_ret1 (bad w9 ?_ ((hd.trans hM.2.2).trans k9))) fun hb3 => ⟨_, rfl, rfl, (hd.trans hM.2.2).trans k9, ?_⟩
        · rw [← hG]; simpa using hb3
        · rw [← hG]; simpa using hb3
      rw [if_neg (by simpa using hb)] at hG
      refine s_val (v_cmp (kk := .i64) (a := f.kind) (b := 9) (r := f.kind == 9) rfl rfl rfl) ?_
      refine ⟨rfl, fun vs w' => vs = [.bool (f.kind == 9 || f.kind == 11)] ∧ w' = w6, ?_, ?_⟩
      · refine s_cond (b := f.kind == 9) rfl (fun hb => ⟨_, rfl, by simp [ev, ext, hb], rfl⟩) fun hb => ?_
        refine s_val (v_cmp (kk := .i64) (a := f.kind) (b := 11) (r := f.kind == 11) rfl rfl rfl) ?_
        exact ⟨_, rfl, by simp [ev, ext, hb], rfl⟩
      rintro vs w7 _ ⟨rfl, hw7⟩
      rw [hw7]
      clear hw7
      refine ⟨rfl, fun vs w' => vs = [.bool false] ∧ Keeps [] w6 w' ∧ G = true, ?_, fun vs w' _ ⟨h1, h2, h3⟩ => ⟨_, rfl, by subst h1; exact ⟨rfl, h2, h3⟩⟩⟩
      refine s_cond (b := f.kind == 9 || f.kind == 11) rfl (fun hb => ?_) fun hb => ?_
      · rw [if_pos (by simpa using hb)] at hG
        obtain ⟨sa, cps, es⟩ := g1.form
        obtain ⟨la, cpl, el⟩ := g2.form
        refine s_fl S.ty.f1 S.rd.oneBytes rfl rfl hy6 rfl (s_val (v_len (a := sa) (l := x.s.length) (c := cps) S.rd.bytes es) ?_)
        refine s_val (v_cmp (kk := .i64) (a := x.s.length) (b := 0) (r := decide ((x.s.length : Int) > 0)) rfl rfl rfl) ?_
        have hemp : x.s.isEmpty = !decide ((x.s.length : Int) > 0) := by cases x.s <;> simp
        refine s_cond (b := decide ((x.s.length : Int) > 0)) rfl (fun hb3 => s_ret1 (bad w6 ?_ .refl)) fun hb3 => ?_
        · rw [← hG, hemp, hb3]; rfl
        refine s_fl S.ty.f3 S.ty.oneTrees rfl rfl hy6 rfl (s_val (v_len (a := la) (l := x.l.length) (c := cpl) S.ty.sl el) ?_)
        refine s_val (v_cmp (kk := .i64) (a := x.l.length) (b := 0) (r := decide ((x.l.length : Int) > 0)) rfl rfl rfl) ?_
        have hemp2 : x.l.isEmpty = !decide ((x.l.length : Int) > 0) := by cases x.l <;> simp
        refine s_cond (b := decide ((x.l.length : Int) > 0)) rfl (fun hb4 => s_ret1 (bad w6 ?_ .refl)) fun hb4 => ⟨_, rfl, rfl, .refl, ?_⟩
        · rw [← hG, hemp2, hb4, Bool.not_true, Bool.and_false]
        · rw [← hG, hemp, hemp2, hb3, hb4]; rfl
      rw [if_neg (by simpa using hb)] at hG
      refine s_val (v_cmp (kk := .i64) (a := f.kind) (b := 10) (r := f.kind == 10) rfl rfl rfl) ?_
      refine ⟨rfl, fun vs w' => vs = [.bool false] ∧ Keeps [] w6 w' ∧ G = true, ?_, fun vs w' _ ⟨h1, h2, h3⟩ => ⟨_, rfl, by subst h1; exact ⟨rfl, h2, h3⟩⟩⟩
      refine s_cond (b := f.kind == 10) rfl (fun hb => ?_) fun hb => ?_
      · rw [if_pos (by simpa using hb)] at hG
        refine s_fl S.f3 S.oneInt rfl rfl hh6 rfl ?_
        refine s_val (v_cmp (kk := .i64) (a := f.nul) (b := 0) (r := decide (f.nul ≥ 0)) rfl rfl rfl) ?_
        refine s_cond (b := decide (f.nul ≥ 0)) rfl (fun hb2 => ?_) fun hb2 => ?_
        · have hge : 0 ≤ f.nul := by simpa using hb2
          rw [if_pos hge] at hG
          refine s_fl S.ty.f2 S.rd.oneBool rfl rfl hy6 rfl ?_
          refine s_val (v_not (b := x.null) rfl) ?_
          refine s_cond (b := !x.null) rfl (fun hb3 => s_ret1 (bad w6 (by rw [← hG]; simpa using hb3) .refl)) fun hb3 => ?_
          refine s_fl S.f3 S.oneInt rfl rfl hh6 rfl ?_
          refine s_val (v_cmp (kk := .i64) (a := f.nul) (b := 0) (r := decide (f.nul < 0)) rfl rfl rfl) ?_
          refine s_cond (b := decide (f.nul < 0)) rfl (fun hb4 => (by simp at hb4; omega)) fun _ => ⟨_, rfl, rfl, .refl, by rw [← hG]; simpa using hb3⟩
        · have hlt : f.nul < 0 := by simp at hb2; omega
          rw [if_neg (by omega)] at hG
          refine s_fl S.f3 S.oneInt rfl rfl hh6 rfl ?_
          refine s_val (v_cmp (kk := .i64) (a := f.nul) (b := 0) (r := decide (f.nul < 0)) rfl rfl rfl) ?_
          refine s_cond (b := decide (f.nul < 0)) rfl (fun _ => ?_) fun hb4 => (by simp at hb4; omega)
          refine s_fl S.f7 S.oneFields rfl rfl hh6 rfl ?_
          refine s_lok (l_loadN (b := w4.heap.size) (o := 0) S.ty.agg rfl hy6 (show 0 + 5 ≤ 5 by omega)) ?_
          refine s_callx (hih w6 sv3 x _ (hsub.keep k36) ht60) rfl fun u w7 ⟨hu, k7⟩ => ?_
          subst hu
          refine s_val (v_not (b := x.u.isEmpty && pUsualGots f.sub x 0) rfl) ?_
          refine s_cond (b := !(x.u.isEmpty && pUsualGots f.sub x 0)) rfl (fun hb3 => s_ret1 (bad w7 (by rw [← hG]; simpa only [Bool.not_eq_true'] using hb3) k7)) fun hb3 => ⟨_, rfl, rfl, k7, by rw [← hG]; simpa only [Bool.not_eq_false'] using hb3⟩
      · rw [if_neg (by simpa using hb)] at hG
        show Tr.sem _ _ _ _ _ _ { w6 with drawn := w6.drawn + 1 }
        have hd : Keeps [] w6 { w6 with drawn := w6.drawn + 1 } := keeps_drawn w6 _ _
        generalize ({ w6 with drawn := w6.drawn + 1 } : World) = w7 at hd ⊢
        have hy7 := hy6.keep hd (by simp)
        have hh7 := hh6.keep hd (by simp)
        refine p_fl S.ty.f0 S.ty.oneI64 rfl rfl hy7 rfl (p_fl S.f0 S.oneInt rfl rfl hh7 rfl (p_fl S.f5 S.ty.oneI64 rfl rfl hh7 rfl ?_))
        refine s_call (xs := [.tmp 29, .tmp 31]) (hN w7 f.kind f.dflt) fun u w8 ⟨hu, k8⟩ => ⟨?_, ?_⟩
        · intro p hp
          simp only [List.mem_singleton] at hp
          subst hp
          exact l_load1 (b := w4.heap.size) (o := 0) S.ty.oneI64 rfl (hy7.keep k8 (by simp)) rfl
        subst hu
        refine p_val (v_cmp (kk := .i64) (a := x.n) (b := pNumber f.kind f.dflt) (r := x.n != pNumber f.kind f.dflt) rfl rfl rfl) ?_
        refine s_cond (b := x.n != pNumber f.kind f.dflt) rfl (fun hb3 => s_ret1 (bad w8 (by rw [← hG]; simpa using hb3) (hd.trans k8))) fun hb3 => ⟨_, rfl, rfl, hd.trans k8, by rw [← hG]; simpa using hb3⟩
    · rintro vs w' _ ⟨rfl, kk, hg⟩
      refine s_val (v_arith (kk := .i64) (a := j) (b := 1) (r := ((j + 1 : Nat) : Int)) rfl rfl ?_) ?_
      · simp only [arithOf, Option.some.injEq]; rw [IntKind.wrap_i64]; omega
      exact ⟨J, rfl, fin w' hg kk⟩
  · rintro w2 vr J ⟨rfl, k12, hall⟩ hvr
    refine s_ret1 ⟨?_, k1.trans k12⟩
    rw [pUsualGots_get.2 fun j hj => by rw [Nat.zero_add]; exact hall j hj (by simpa using hj)]
    rfl

end

end Go.Kf

namespace Go.Kf

open Go

/-- Behind the looking at null. -/
def gTail (c : Nums) (s : SN) (n : Nat) : Tr :=
  .cond (.tmp 10) (
    .ret [((.const (.bool true)), none)]
  ) (
    .op (.fieldAddr s.field (.tmp 5) 0) none [] <|
    .op (.load c.tInt (.tmp n)) none [] <|
    .op (.binOp .eql c.tInt (.tmp (n + 1)) (.const (.int .i64 8)) c.tInt) none [] <|
    .join 0 (
      .cond (.tmp (n + 2)) (
        .to 0 [(.tmp (n + 2))]
      ) (
        .op (.binOp .eql c.tInt (.tmp (n + 1)) (.const (.int .i64 9)) c.tInt) none [] <|
        .to 0 [(.tmp (n + 3))]
      )
    ) 1 <|
    .cond (.tmp (n + 3)) (
      .draw <|
      .pur (.fieldAddr c.sTree (.tmp 7) 1) none <|
      .lok (.load c.tBytes (.tmp (n + 4))) none <|
      .pur (.fieldAddr c.sTree (.tmp 6) 1) none <|
      .lok (.load c.tBytes (.tmp (n + 6))) none <|
      .op (callOp s.whole [(.tmp (n + 7))]) none [((.load c.tBytes (.tmp (n + 4))), n + 5)] <|
      .op (callOp s.same [(.tmp (n + 5)), (.tmp (n + 8))]) none [] <|
      .ret [((.tmp (n + 9)), none)]
    ) (
      .op (.binOp .eql c.tInt (.tmp (n + 1)) (.const (.int .i64 7)) c.tInt) none [] <|
      .cond (.tmp (n + 4)) (
        .op (.makeSlice c.tBytes (.const (.int .i64 16)) (.const (.int .i64 16))) none [] <|
        .op (.fieldAddr c.sTree (.tmp 6) 1) none [] <|
        .op (.load c.tBytes (.tmp (n + 6))) none [] <|
        .op (.call { callee := (.builtin .copy), args := ⟨[(.tmp (n + 5)), (.tmp (n + 7))]⟩, argTypes := ⟨[c.tBytes, c.tBytes]⟩ }) none [] <|
        .op (.fieldAddr c.sTree (.tmp 7) 1) none [] <|
        .op (.load c.tBytes (.tmp (n + 9))) none [] <|
        .op (callOp s.same [(.tmp (n + 10)), (.tmp (n + 5))]) none [] <|
        .ret [((.tmp (n + 11)), none)]
      ) (
        .op (.binOp .eql c.tInt (.tmp (n + 1)) (.const (.int .i64 10)) c.tInt) none [] <|
        .cond (.tmp (n + 5)) (
          .op (.fieldAddr s.field (.tmp 5) 7) none [] <|
          .op (.load s.fields (.tmp (n + 6))) none [] <|
          .op (.load c.sTree (.tmp 6)) none [] <|
          .op (.load c.sTree (.tmp 7)) none [] <|
          .op (callOp s.told [(.tmp (n + 7)), (.tmp 1), (.tmp 2), (.tmp (n + 8)), (.tmp (n + 9))]) none [] <|
          .ret [((.tmp (n + 10)), none)]
        ) (
          .op (.binOp .eql c.tInt (.tmp (n + 1)) (.const (.int .i64 11)) c.tInt) none [] <|
          .cond (.tmp (n + 6)) (
            .op (.fieldAddr c.sTree (.tmp 6) 3) none [] <|
            .op (.load c.sTrees (.tmp (n + 7))) none [] <|
            .op (callOp s.things [(.tmp (n + 8))]) none [] <|
            .op (.fieldAddr c.sTree (.tmp 7) 3) none [] <|
            .op (.load c.sTrees (.tmp (n + 10))) none [] <|
            .op (.call { callee := (.builtin .len), args := ⟨[(.tmp (n + 11))]⟩, argTypes := ⟨[c.sTrees]⟩ }) none [] <|
            .op (.call { callee := (.builtin .len), args := ⟨[(.tmp (n + 9))]⟩, argTypes := ⟨[c.sTrees]⟩ }) none [] <|
            .op (.binOp .neq c.tInt (.tmp (n + 12)) (.tmp (n + 13)) c.tInt) none [] <|
            .cond (.tmp (n + 14)) (
              .ret [((.const (.bool false)), none)]
            ) (
              .op (.load s.field (.tmp 5)) none [] <|
              .op (.alloc s.field) none [] <|
              .op (.store s.field (.tmp (n + 16)) (.tmp (n + 15))) none [] <|
              .op (.fieldAddr s.field (.tmp 5) 6) none [] <|
              .op (.load c.tInt (.tmp (n + 18))) none [] <|
              .op (.fieldAddr s.field (.tmp (n + 16)) 0) none [] <|
              .op (.store c.tInt (.tmp (n + 20)) (.tmp (n + 19))) none [] <|
              .op (.fieldAddr s.field (.tmp (n + 16)) 3) none [] <|
              .op (.store c.tInt (.tmp (n + 22)) (.const (.int .i64 (-1)))) none [] <|
              .op (.fieldAddr s.field (.tmp (n + 16)) 4) none [] <|
              .op (.store c.tInt (.tmp (n + 24)) (.const (.int .i64 (-1)))) none [] <|
              .op (.call { callee := (.builtin .len), args := ⟨[(.tmp (n + 9))]⟩, argTypes := ⟨[c.sTrees]⟩ }) none [] <|
              .loop 0 [(.const (.bool false)), (.const (.int .i64 0))] <|
              .op (.binOp .lss c.tInt (.tmp (n + 28)) (.tmp (n + 26)) c.tInt) none [] <|
              .cond (.tmp (n + 29)) (
                .draw <|
                .lok (.load s.field (.tmp (n + 16))) none <|
                .pur (.indexAddr c.sTrees (.tmp (n + 9)) (.tmp (n + 28))) none <|
                .lok (.load c.sTree (.tmp (n + 31))) none <|
                .pur (.fieldAddr c.sTree (.tmp 7) 3) none <|
                .lok (.load c.sTrees (.tmp (n + 33))) none <|
                .pur (.indexAddr c.sTrees (.tmp (n + 34)) (.tmp (n + 28))) none <|
                .lok (.load c.sTree (.tmp (n + 35))) none <|
                .op (callOp s.told1 [(.tmp (n + 30)), (.tmp 1), (.tmp 2), (.tmp (n + 32)), (.tmp (n + 36))]) none [((.load c.sTrees (.tmp (n + 33))), n + 34)] <|
                .pur (.unOp .not c.tBool (.tmp (n + 37))) none <|
                .cond (.tmp (n + 38)) (
                  .ret [((.const (.bool false)), none)]
                ) (
                  .op (.binOp .add c.tInt (.tmp (n + 28)) (.const (.int .i64 1)) c.tInt) none [] <|
                  .to 0 [(.tmp (n + 27)), (.tmp (n + 39))]
                )
              ) (
                .ret [((.const (.bool true)), none)]
              )
            )
          ) (
            .draw <|
            .pur (.fieldAddr c.sTree (.tmp 7) 0) none <|
            .lok (.load c.tI64 (.tmp (n + 7))) none <|
            .pur (.fieldAddr s.field (.tmp 5) 0) none <|
            .lok (.load c.tInt (.tmp (n + 9))) none <|
            .pur (.fieldAddr c.sTree (.tmp 6) 0) none <|
            .lok (.load c.tI64 (.tmp (n + 11))) none <|
            .op (callOp s.number [(.tmp (n + 10)), (.tmp (n + 12))]) none [((.load c.tI64 (.tmp (n + 7))), n + 8)] <|
            .pur (.binOp .eql c.tI64 (.tmp (n + 8)) (.tmp (n + 13)) c.tI64) none <|
            .ret [((.tmp (n + 14)), none)]
          )
        )
      )
    )
  )

/-- Null is told where it may be. -/
def gNulls (c : Nums) (s : SN) (n : Nat) : Tr :=
  .op (.fieldAddr c.sTree (.tmp 7) 2) none [] <| .op (.load c.tBool (.tmp n)) none [] <| .op (.binOp .neq c.tBool (.tmp (n + 1)) (.tmp 10) c.tBool) none [] <| .cond (.tmp (n + 2)) (.ret [((.const (.bool false)), none)]) (gTail c s (n + 3))

def gKindIs (c : Nums) (s : SN) (n : Nat) (k : Int) (t e : Tr) : Tr :=
  .op (.fieldAddr s.field (.tmp 5) 0) none [] <| .op (.load c.tInt (.tmp n)) none [] <| .op (.binOp .eql c.tInt (.tmp (n + 1)) (.const (.int .i64 k)) c.tInt) none [] <| .cond (.tmp (n + 2)) t e

def tTold1 (c : Nums) (s : SN) : Tr :=
  .op (.box s.field (.tmp 0)) none [] <|
  .op (.box c.sTree (.tmp 3)) none [] <|
  .op (.box c.sTree (.tmp 4)) none [] <|
  .op (.load s.field (.tmp 5)) none [] <|
  .op (.load c.sTree (.tmp 6)) none [] <|
  .op (callOp s.null [(.tmp 8), (.tmp 1), (.tmp 9)]) none [] <|
  .op (.fieldAddr s.field (.tmp 5) 3) none [] <|
  .op (.load c.tInt (.tmp 11)) none [] <|
  .op (.binOp .geq c.tInt (.tmp 12) (.const (.int .i64 0)) c.tInt) none [] <|
  .cond (.tmp 13) (
    .op (.fieldAddr s.field (.tmp 5) 3) none [] <|
    .op (.load c.tInt (.tmp 14)) none [] <|
    .op (.binOp .geq c.tInt (.tmp 1) (.tmp 15) c.tInt) none [] <|
    gKindIs c s 17 8 (gNulls c s 20) <| gKindIs c s 20 10 (gNulls c s 23) <| .cond (.tmp 16) (gNulls c s 23) (gTail c s 23)
  ) (gKindIs c s 14 8 (gNulls c s 17) <| gKindIs c s 17 10 (gNulls c s 20) (gTail c s 20))

def pTail (tt : PT → PT → Bool) (f : PF) (v : Int) (t got : PT) : Bool :=
  if pNull f v t then true
  else if f.kind = 11 then decide (got.l.length = (pThings t.l).length) && pAll2 (fun x y => !(decide (f.elem = 8 ∨ f.elem = 10) && y.null) && pToldV tt f.elem x y) (pThings t.l) got.l
  else pToldV tt f.kind t got

theorem pToldOf_eq (tt : PT → PT → Bool) (f : PF) (v : Int) (t got : PT) : pToldOf tt f v t got =
    if (decide (f.kind = 8) || decide (f.kind = 10) || (decide (0 ≤ f.nul) && decide (f.nul ≤ v))) && (got.null != pNull f v t) then false else pTail tt f v t got := rfl

theorem pTold1_eq (f : PF) (v : Int) (fl : Bool) (x got : PT) : pTold1 f v fl x got = pToldOf (fun y z => pTold f.sub v fl y z) f v x got := by
  cases f; rw [pTold1]; rfl

def ToldOf (P : Program) (s : SN) (fs : List PF) : Prop := ∀ (w : World) (fv : Value) (v : Int) (fl : Bool) (t got : PT) (ts gs : List Value), FieldsV w fs fv → TreeC w t ts → TreeC w got gs → t.ok → Yields P s.told [fv, .int .i64 v, .bool fl, .agg ⟨ts⟩, .agg ⟨gs⟩] w (.bool (pTold fs v fl t got))

def Told1Of (P : Program) (s : SN) (f : PF) : Prop := ∀ (w : World) (v : Int) (fl : Bool) (t got : PT) (cs ts gs : List Value), FieldC w f cs → TreeC w t ts → TreeC w got gs → t.ok → Yields P s.told1 [.agg ⟨cs⟩, .int .i64 v, .bool fl, .agg ⟨ts⟩, .agg ⟨gs⟩] w (.bool (pTold1 f v fl t got))

/-- The field of a list's things. -/
def PF.one (f : PF) : PF := .mk f.elem f.fr f.to (-1) (-1) f.dflt f.elem f.sub

theorem pNull_one (f : PF) (v : Int) (t : PT) : pNull f.one v t = false := by
  unfold pNull
  have : f.one.nul = -1 := rfl
  rw [this]
  simp

theorem pTold1_one {f : PF} (hne : f.elem ≠ 11) (v : Int) (fl : Bool) (x y : PT) : pTold1 f.one v fl x y = (!(decide (f.elem = 8 ∨ f.elem = 10) && y.null) && pToldV (fun y z => pTold f.sub v fl y z) f.elem x y) := by
  rw [pTold1_eq, pToldOf_eq]
  unfold pTail
  rw [pNull_one]
  have h1 : f.one.nul = -1 := rfl
  have h2 : f.one.kind = f.elem := rfl
  have h3 : f.one.sub = f.sub := rfl
  rw [h1, h2, h3, if_neg hne]
  by_cases h : f.elem = 8 ∨ f.elem = 10
  · rcases h with h | h <;> rw [h] <;> cases y.null <;> simp
  · have h8 : f.elem ≠ 8 := fun e => h (.inl e)
    have h10 : f.elem ≠ 10 := fun e => h (.inr e)
    simp [h8, h10]

theorem pAll2_get {f : PT → PT → Bool} : ∀ {l r : List PT}, l.length = r.length → (pAll2 f l r = true ↔ ∀ j (h1 : j < l.length) (h2 : j < r.length), f l[j] r[j] = true)
  | [], [], _ => by simp [pAll2]
  | x :: l, y :: r, h => by
    rw [pAll2, Bool.and_eq_true, pAll2_get (by simpa using h)]
    constructor
    · rintro ⟨h1, h2⟩ j hj1 hj2
      cases j with
      | zero => exact h1
      | succ j => exact h2 j (by simpa using hj1) (by simpa using hj2)
    · intro h3
      exact ⟨h3 0 (by simp) (by simp), fun j h1 h2 => h3 (j + 1) (by simpa using h1) (by simpa using h2)⟩

section

variable {P : Program} {c : Nums} {s : SN} {R : Value → World → Prop} {Γ : List (List Value → World → Prop)} {n : Nat} {ρ : Nat → Value} {w : World} {k : Tr}

/-- What telling rests on. -/
structure Tells (P : Program) (s : SN) : Prop where
  same : ∀ (w : World) (v1 v2 : Value) (l1 l2 : List UInt8), (l1.length < 2 ^ 62 ∨ l2.length < 2 ^ 62) → Ro w v1 1 l1.length (bcells l1) → Ro w v2 1 l2.length (bcells l2) → Yields P s.same [v1, v2] w (.bool (decide (l1 = l2)))
  number : ∀ (w : World) (kind x : Int), Yields P s.number [.int .i64 kind, .int .i64 x] w (.int .i64 (pNumber kind x))

theorem sem_tail {fb tb gb : Nat} {f : PF} {t got : PT} {fcs ts gs : List Value} {w0 : World} {v : Int} {fl : Bool} (S : SpFacts P c s) (Q : Smalls P s) (L : Tells P s) (hn : n = 20 ∨ n = 23 ∨ n = 26) (hS : ToldOf P s f.sub) (h1 : f.kind = 11 → f.elem ≠ 11 ∧ Told1Of P s f.one)
    (q1 : ρ 1 = .int .i64 v) (q2 : ρ 2 = .bool fl) (q5 : ρ 5 = ptr fb) (q6 : ρ 6 = ptr tb) (q7 : ρ 7 = ptr gb) (q10 : ρ 10 = .bool (pNull f v t)) (hf : Has w fb fcs) (ht : Has w tb ts) (hg : Has w gb gs) (hfc : FieldC w f fcs) (htc : TreeC w t ts) (hgc : TreeC w got gs) (hok : t.ok) (hk : Keeps [] w0 w) :
    (gTail c s n).sem P (fun u w' => u = .bool (pTail (fun y z => pTold f.sub v fl y z) f v t got) ∧ Keeps [] w0 w') [] n ρ w := by
  have hfc0 := hfc
  have htc0 := htc
  have hgc0 := hgc
  have htl := htc.lens
  have hgl := hgc.lens
  obtain ⟨fv, rfl, hsub⟩ := hfc.cells
  obtain ⟨sv, lv, uv, lcs, ucs, rfl, t1, t2, t3, t4, t5⟩ := htc.cells
  obtain ⟨sg, lg, ug, lgc, ugc, rfl, g1, g2, g3, g4, g5⟩ := hgc.cells
  generalize hG : pTail (fun y z => pTold f.sub v fl y z) f v t got = G
  unfold pTail at hG
  rcases hn with rfl | rfl | rfl
  all_goals
    refine s_cond (b := pNull f v t) q10 (fun hb => s_ret1 ⟨by rw [← hG, if_pos hb]; rfl, hk⟩) fun hb => ?_
    rw [if_neg (by rw [hb]; simp)] at hG
    refine s_fl S.f0 S.oneInt q5 rfl hf rfl ?_
    refine s_val (v_cmp (kk := .i64) (a := f.kind) (b := 8) (r := f.kind == 8) rfl rfl rfl) ?_
    refine ⟨rfl, fun vs w' => vs = [.bool (f.kind == 8 || f.kind == 9)] ∧ w' = w, ?_, ?_⟩
    · refine s_cond (b := f.kind == 8) rfl (fun hb => ⟨_, rfl, by simp [ev, ext, hb], rfl⟩) fun hb => ?_
      refine s_val (v_cmp (kk := .i64) (a := f.kind) (b := 9) (r := f.kind == 9) rfl rfl rfl) ?_
      exact ⟨_, rfl, by simp [ev, ext, hb], rfl⟩
    rintro vs w7 _ ⟨rfl, hw7⟩
    rw [hw7]
    clear hw7
    refine s_cond (b := f.kind == 8 || f.kind == 9) rfl (fun hb => ?_) fun hb => ?_
    · have hkk : f.kind = 8 ∨ f.kind = 9 := by simpa using hb
      rw [if_neg (by omega)] at hG
      unfold pToldV at hG
      rw [if_pos hkk] at hG
      show Tr.sem _ _ _ _ _ _ { w with drawn := w.drawn + 1 }
      have hd : Keeps [] w { w with drawn := w.drawn + 1 } := keeps_drawn w _ _
      generalize ({ w with drawn := w.drawn + 1 } : World) = w2 at hd ⊢
      have hg2 := hg.keep hd (by simp)
      have ht2 := ht.keep hd (by simp)
      refine p_fl S.ty.f1 S.rd.oneBytes q7 rfl hg2 rfl (p_fl S.ty.f1 S.rd.oneBytes q6 rfl ht2 rfl ?_)
      refine s_call (Q.whole w2 sv t.s (t1.keep hd)) fun u w3 ⟨hw, hu⟩ => ⟨?_, ?_⟩
      · intro p hp
        simp only [List.mem_singleton] at hp
        subst hp
        rw [hw]
        exact l_load1 (b := gb) (o := 1) S.rd.oneBytes rfl hg2 rfl
      rw [hw]
      refine s_callx (L.same w2 sg u got.s (pWhole t.s) (.inl (by omega)) (g1.keep hd) (hu w2 (t1.keep hd))) rfl fun x w4 ⟨hx, k4⟩ => s_ret1 ⟨?_, (hk.trans hd).trans k4⟩
      rw [← hG]
      exact hx
    have hkk : f.kind ≠ 8 ∧ f.kind ≠ 9 := by simpa using hb
    have hv8 : ∀ (x y : PT), pToldV (fun y z => pTold f.sub v fl y z) f.kind x y = if f.kind = 7 then decide (y.s = pId x.s) else if f.kind = 10 then pTold f.sub v fl x y else decide (y.n = pNumber f.kind x.n) := fun x y => by
      unfold pToldV
      rw [if_neg (by omega)]
    rw [hv8] at hG
    refine s_val (v_cmp (kk := .i64) (a := f.kind) (b := 7) (r := f.kind == 7) rfl rfl rfl) ?_
    refine s_cond (b := f.kind == 7) rfl (fun hb => ?_) fun hb => ?_
    · have h7 : f.kind = 7 := by simpa using hb
      rw [if_neg (by omega), if_pos h7] at hG
      refine s_id (v := sv) (l := t.s) (b := tb) (o := 0) S q6 (by simp [opBelow]) ht rfl t1 fun v' w2 hM => ?_
      have hg2 := hg.keep hM.2.2 (by simp)
      refine s_fl S.ty.f1 S.rd.oneBytes q7 rfl hg2 rfl ?_
      refine s_callx (L.same w2 sg v' got.s (pId t.s) (.inl (by omega)) (g1.keep hM.2.2) (Ro.of_reads hM.1.reads)) rfl fun x w4 ⟨hx, k4⟩ => s_ret1 ⟨?_, (hk.trans hM.2.2).trans k4⟩
      rw [← hG]
      exact hx
    have h7 : f.kind ≠ 7 := by simpa using hb
    rw [if_neg h7] at hG
    refine s_val (v_cmp (kk := .i64) (a := f.kind) (b := 10) (r := f.kind == 10) rfl rfl rfl) ?_
    refine s_cond (b := f.kind == 10) rfl (fun hb => ?_) fun hb => ?_
    · have h10 : f.kind = 10 := by simpa using hb
      rw [if_neg (by omega), if_pos h10] at hG
      refine s_fl S.f7 S.oneFields q5 rfl hf rfl ?_
      refine s_lok (l_loadN (b := tb) (o := 0) S.ty.agg q6 ht (show 0 + 5 ≤ 5 by omega)) (s_lok (l_loadN (b := gb) (o := 0) S.ty.agg q7 hg (show 0 + 5 ≤ 5 by omega)) ?_)
      refine s_callx (hS w fv v fl t got _ _ hsub htc0 hgc0 hok) (by show [fv, ρ 1, ρ 2, Value.agg _, Value.agg _] = _; rw [q1, q2]; rfl) fun x w4 ⟨hx, k4⟩ => s_ret1 ⟨?_, hk.trans k4⟩
      rw [← hG]
      exact hx
    have h10 : f.kind ≠ 10 := by simpa using hb
    rw [if_neg h10] at hG
    refine s_val (v_cmp (kk := .i64) (a := f.kind) (b := 11) (r := f.kind == 11) rfl rfl rfl) ?_
    refine s_cond (b := f.kind == 11) rfl (fun hb => ?_) fun hb => ?_
    · have h11 : f.kind = 11 := by simpa using hb
      rw [if_pos h11] at hG
      obtain ⟨hne, hone⟩ := h1 h11
      refine s_fl S.ty.f3 S.ty.oneTrees q6 rfl ht rfl ?_
      refine s_callx (Q.things w lv t.l lcs t2 t3) rfl fun u w3 ⟨hw, tcs, hr, htr⟩ => ?_
      rw [hw]
      clear hw
      refine s_fl S.ty.f3 S.ty.oneTrees q7 rfl hg rfl ?_
      obtain ⟨la, cpl, el⟩ := g2.form
      obtain ⟨ua, cpu, eu⟩ := hr.form
      refine s_val (v_len (a := la) (l := got.l.length) (c := cpl) S.ty.sl el) ?_
      refine s_val (v_len (a := ua) (l := (pThings t.l).length) (c := cpu) S.ty.sl eu) ?_
      refine s_val (v_cmp (kk := .i64) (a := got.l.length) (b := (pThings t.l).length) (r := ((got.l.length : Int) != (pThings t.l).length)) rfl rfl rfl) ?_
      refine s_cond (b := ((got.l.length : Int) != (pThings t.l).length)) rfl (fun hb2 => s_ret1 ⟨?_, hk⟩) fun hb2 => ?_
      · have hne2 : got.l.length ≠ (pThings t.l).length := fun e => by rw [e] at hb2; simp at hb2
        rw [← hG, decide_eq_false hne2]
        rfl
      have hleq : got.l.length = (pThings t.l).length := by
        have : (got.l.length : Int) = (pThings t.l).length := by simpa using hb2
        omega
      rw [decide_eq_true hleq, Bool.true_and] at hG
      have hl7 : (pThings t.l).length ≤ 32767 := by unfold pThings; rw [List.length_take]; omega
      have hlok : ∀ x ∈ pThings t.l, x.ok := fun x hx => hok.l x (List.mem_of_mem_take hx)
      generalize hlg : pThings t.l = l at hr htr eu hG hleq hl7 hlok
      refine s_lok (l_loadN (b := fb) (o := 0) S.agg q5 hf (show 0 + 8 ≤ 8 by omega)) ?_
      obtain ⟨z, hz, hzc⟩ := S.zField
      refine s_alloc hz fun w4 hn4 k4 z4 => ?_
      have hfl := hf.lt
      refine s_storeAll (b := w.heap.size) (cs := [.int .i64 f.kind, .int .i64 f.fr, .int .i64 f.to, .int .i64 f.nul, .int .i64 f.tag, .int .i64 f.dflt, .int .i64 f.elem, fv]) S.agg rfl rfl hn4 (by simpa using hzc) hfc0.ones fun w5 hn5 k5 => ?_
      have hf5 := (hf.keep k4 (by simp)).keep k5 (by simp only [List.mem_singleton]; omega)
      refine s_fl S.f6 S.oneInt q5 rfl hf5 rfl ?_
      refine s_fs (b := w.heap.size) (o := 0) (v := .int .i64 f.elem) S.f0 S.oneInt rfl rfl rfl (by simp [opBelow]) rfl hn5 (show 0 + 0 < 8 by omega) fun w6 hn6 k6 => ?_
      refine s_fs (b := w.heap.size) (o := 0) (v := .int .i64 (-1)) S.f3 S.oneInt rfl rfl rfl (by simp [opBelow]) rfl hn6 (show 0 + 3 < 8 by omega) fun w7 hn7 k7 => ?_
      refine s_fs (b := w.heap.size) (o := 0) (v := .int .i64 (-1)) S.f4 S.oneInt rfl rfl rfl (by simp [opBelow]) rfl hn7 (show 0 + 4 < 8 by omega) fun w8 hn8 k8 => ?_
      have k08 : Keeps [] w w8 := ((k4.mono (by simp)).trans (((k5.trans k6).trans k7).trans k8)).less fun x hx => .inr (by simp only [List.mem_singleton] at hx; omega)
      refine s_val (v_len (a := ua) (l := l.length) (c := cpu) S.ty.sl eu) ?_
      have honeC : ∀ w', Keeps [] w w' → FieldC w' f.one [.int .i64 f.elem, .int .i64 f.fr, .int .i64 f.to, .int .i64 (-1), .int .i64 (-1), .int .i64 f.dflt, .int .i64 f.elem, fv] := fun w' kk => by
        obtain ⟨scs, hs1, hs2⟩ := hsub.keep kk
        exact ⟨fv, scs, rfl, hs1, hs2⟩
      have hall := pAll2_get (f := fun x y => !(decide (f.elem = 8 ∨ f.elem = 10) && y.null) && pToldV (fun y z => pTold f.sub v fl y z) f.elem x y) hleq.symm
      refine s_countV (kk := .i64) (m := l.length) (ri := [.const (.bool false)]) (Γ := []) (fun j vr w' => vr = [.bool false] ∧ Keeps [] w8 w' ∧ ∀ i (h1 : i < l.length) (h2 : i < got.l.length), i < j → (!(decide (f.elem = 8 ∨ f.elem = 10) && (got.l[i]'h2).null) && pToldV (fun y z => pTold f.sub v fl y z) f.elem (l[i]'h1) (got.l[i]'h2)) = true) (by omega) rfl ⟨rfl, .refl, fun i _ _ h => by omega⟩ ?_ ?_
      · rintro j hj w9 vr ⟨rfl, k89, hsofar⟩ hvr J hJ
        have hj' : j < l.length := by omega
        have hj2 : j < got.l.length := by omega
        show Tr.sem _ _ _ _ _ _ { w9 with drawn := w9.drawn + 1 }
        have hd : Keeps [] w9 { w9 with drawn := w9.drawn + 1 } := keeps_drawn w9 _ _
        generalize ({ w9 with drawn := w9.drawn + 1 } : World) = w10 at hd ⊢
        have k8a := k89.trans hd
        have k0a := k08.trans k8a
        refine l_lok (l_loadN (b := w.heap.size) (o := 0) S.agg rfl (hn8.keep k8a (by simp)) (show 0 + 8 ≤ 8 by omega)) ?_
        obtain ⟨b1, o1, cap1, e1, _, hel1, hcell1⟩ := (hr.keep k0a).elem hj' (by omega)
        have htj := TreesC.get (TreesC.keep k0a _ _ htr) hj'
        refine p_val (v_indexAddr (b := b1) (o := o1) (l := l.length) (c := cap1) (j := j) (kk := .i64) S.ty.sl S.szT e1 rfl (by omega) (by omega)) ?_
        rw [Int.toNat_natCast]
        refine l_lok (l_cellN (b := b1) (o := o1 + j * 5) S.ty.agg rfl hel1 hcell1) ?_
        have hga := hg.keep k0a (by simp)
        refine p_fl S.ty.f3 S.ty.oneTrees q7 rfl hga rfl ?_
        obtain ⟨b2, o2, cap2, e2, _, hel2, hcell2⟩ := (g2.keep k0a).elem hj2 (by omega)
        have hgj := TreesC.get (TreesC.keep k0a _ _ g3) hj2
        refine p_val (v_indexAddr (b := b2) (o := o2) (l := got.l.length) (c := cap2) (j := j) (kk := .i64) S.ty.sl S.szT e2 rfl (by omega) (by omega)) ?_
        rw [Int.toNat_natCast]
        refine l_lok (l_cellN (b := b2) (o := o2 + j * 5) S.ty.agg rfl hel2 hcell2) ?_
        have hcall := hone w10 v fl l[j] got.l[j] _ _ _ (honeC w10 k0a) htj hgj (hlok _ (List.getElem_mem hj'))
        rw [pTold1_one hne] at hcall
        generalize hB : (!(decide (f.elem = 8 ∨ f.elem = 10) && (got.l[j]'hj2).null) && pToldV (fun y z => pTold f.sub v fl y z) f.elem (l[j]'hj') (got.l[j]'hj2)) = B at hcall
        refine s_call (Post := fun u w' => u = .bool B ∧ Keeps [] w10 w') (by
          show Gives P s.told1 [Value.agg _, ρ 1, ρ 2, Value.agg _, Value.agg _] w10 _
          rw [q1, q2]
          exact hcall) fun u w11 ⟨hu, k11⟩ => ⟨?_, ?_⟩
        · intro p hp
          simp only [List.mem_singleton] at hp
          subst hp
          exact l_load1 (b := gb) (o := 3) S.ty.oneTrees rfl (hga.keep k11 (by simp)) rfl
        subst hu
        refine p_val (v_not (b := B) rfl) ?_
        refine s_cond (b := !B) rfl (fun hb3 => s_ret1 ⟨?_, (hk.trans k0a).trans k11⟩) fun hb3 => ?_
        · have hB0 : B = false := by simpa using hb3
          have : G = false := by
            cases hGv : G with
            | false => rfl
            | true =>
              rw [hGv] at hG
              have := hall.1 hG j hj' hj2
              rw [hB, hB0] at this
              cases this
          rw [this]
          rfl
        · have hB1 : B = true := by simpa using hb3
          refine s_val (v_arith (kk := .i64) (a := j) (b := 1) (r := ((j + 1 : Nat) : Int)) rfl rfl ?_) ?_
          · simp only [arithOf, Option.some.injEq]; rw [IntKind.wrap_i64]; omega
          refine ⟨J, rfl, hJ [_] _ rfl ⟨rfl, k8a.trans k11, fun i hi1 hi2 hij => ?_⟩⟩
          by_cases hij2 : i = j
          · subst hij2; rw [hB]; exact hB1
          · exact hsofar i hi1 hi2 (by omega)
      · rintro w9 vr J ⟨rfl, k89, hsofar⟩ hvr
        refine s_ret1 ⟨?_, (hk.trans k08).trans k89⟩
        rw [← hG, hall.2 fun j h1 h2 => hsofar j h1 h2 (by simpa using h1)]
        rfl
    · have h11 : f.kind ≠ 11 := by simpa using hb
      rw [if_neg h11] at hG
      show Tr.sem _ _ _ _ _ _ { w with drawn := w.drawn + 1 }
      have hd : Keeps [] w { w with drawn := w.drawn + 1 } := keeps_drawn w _ _
      generalize ({ w with drawn := w.drawn + 1 } : World) = w2 at hd ⊢
      have hg2 := hg.keep hd (by simp)
      have ht2 := ht.keep hd (by simp)
      have hf2 := hf.keep hd (by simp)
      refine p_fl S.ty.f0 S.ty.oneI64 q7 rfl hg2 rfl (p_fl S.f0 S.oneInt q5 rfl hf2 rfl (p_fl S.ty.f0 S.ty.oneI64 q6 rfl ht2 rfl ?_))
      refine s_call (L.number w2 f.kind t.n) fun u w8 ⟨hu, k8⟩ => ⟨?_, ?_⟩
      · intro p hp
        simp only [List.mem_singleton] at hp
        subst hp
        exact l_load1 (b := gb) (o := 0) S.ty.oneI64 rfl (hg2.keep k8 (by simp)) rfl
      subst hu
      refine p_val (v_cmp (kk := .i64) (a := got.n) (b := pNumber f.kind t.n) (r := got.n == pNumber f.kind t.n) rfl rfl rfl) ?_
      refine s_ret1 ⟨?_, (hk.trans hd).trans k8⟩
      rw [← hG]
      rfl

end

end Go.Kf

namespace Go.Kf

open Go

def gToldIt (c : Nums) (s : SN) (n : Nat) : Tr :=
  .draw <|
  .lok (.load s.field (.tmp 18)) none <|
  .lok (.load c.sTree (.tmp 22)) none <|
  .pur (.fieldAddr c.sTree (.tmp 6) 3) none <|
  .lok (.load c.sTrees (.tmp (n + 2))) none <|
  .pur (.indexAddr c.sTrees (.tmp (n + 3)) (.tmp 14)) none <|
  .lok (.load c.sTree (.tmp (n + 4))) none <|
  .op (callOp s.told1 [(.tmp n), (.tmp 1), (.tmp 2), (.tmp (n + 1)), (.tmp (n + 5))]) none [((.load c.sTrees (.tmp (n + 2))), n + 3)] <|
  .pur (.unOp .not c.tBool (.tmp (n + 6))) none <|
  .cond (.tmp (n + 7)) (.ret [((.const (.bool false)), none)]) (
    .op (.binOp .add c.tInt (.tmp 14) (.const (.int .i64 1)) c.tInt) none [] <|
    .to 0 [(.tmp 13), (.tmp (n + 8))])

def gUsualEnd (c : Nums) (n : Nat) : Tr :=
  .pur (.unOp .not c.tBool (.tmp n)) none <|
  .cond (.tmp (n + 1)) (.ret [((.const (.bool false)), none)]) (
    .op (.binOp .add c.tInt (.tmp 14) (.const (.int .i64 1)) c.tInt) none [] <|
    .to 0 [(.tmp 13), (.tmp (n + 2))])

def gUsualIt (c : Nums) (s : SN) (n : Nat) : Tr :=
  .draw <|
  .lok (.load s.field (.tmp 18)) none <|
  .pur (.fieldAddr c.sTree (.tmp 6) 3) none <|
  .lok (.load c.sTrees (.tmp (n + 1))) none <|
  .pur (.indexAddr c.sTrees (.tmp (n + 2)) (.tmp 14)) none <|
  .lok (.load c.sTree (.tmp (n + 3))) none <|
  .both (
    .op (.buildSlice s.fields 1 ⟨[(0, (.tmp n))]⟩) none [((.load c.sTree (.tmp (n + 3))), n + 4), ((.load c.sTrees (.tmp (n + 1))), n + 2)] <|
    .op (.buildSlice c.sTrees 1 ⟨[(0, (.tmp (n + 4)))]⟩) none [((.load c.sTrees (.tmp (n + 1))), n + 2)] <|
    .pur (.build c.sTree ⟨[(3, (.tmp (n + 6)))]⟩) none <|
    .op (callOp s.usualG [(.tmp (n + 5)), (.tmp (n + 7))]) none [((.load c.sTrees (.tmp (n + 1))), n + 2)] <|
    gUsualEnd c (n + 8)
  ) (
    .op (.buildSlice c.sTrees 1 ⟨[(0, (.tmp (n + 4)))]⟩) none [((.load c.sTrees (.tmp (n + 1))), n + 2), ((.load s.field (.tmp 18)), n)] <|
    .pur (.build c.sTree ⟨[(3, (.tmp (n + 5)))]⟩) none <|
    .op (.buildSlice s.fields 1 ⟨[(0, (.tmp n))]⟩) none [((.load c.sTrees (.tmp (n + 1))), n + 2)] <|
    .op (callOp s.usualG [(.tmp (n + 7)), (.tmp (n + 6))]) none [((.load c.sTrees (.tmp (n + 1))), n + 2)] <|
    gUsualEnd c (n + 8)
  )

/-- Has it a tag, and is it told of therefore? -/
def gTagged (c : Nums) (s : SN) (n : Nat) : Tr :=
  .op (.fieldAddr s.field (.tmp 18) 4) none [] <|
  .op (.load c.tInt (.tmp n)) none [] <|
  .op (.binOp .geq c.tInt (.tmp (n + 1)) (.const (.int .i64 0)) c.tInt) none [] <|
  .cond (.tmp (n + 2)) (
    .cond (.tmp 2) (
      .op (.load s.field (.tmp 18)) none [] <|
      .op (.load c.sTree (.tmp 22)) none [] <|
      .op (callOp s.usual [(.tmp (n + 3)), (.tmp (n + 4))]) none [] <|
      .op (.unOp .not c.tBool (.tmp (n + 5))) none [] <|
      .cond (.tmp (n + 6)) (gToldIt c s (n + 7)) (gUsualIt c s (n + 7))
    ) (gUsualIt c s (n + 3))
  ) (gUsualIt c s (n + 3))

def tTold (c : Nums) (s : SN) : Tr :=
  .op (.box c.sTree (.tmp 3)) none [] <|
  .op (.box c.sTree (.tmp 4)) none [] <|
  .op (.fieldAddr c.sTree (.tmp 6) 3) none [] <|
  .op (.load c.sTrees (.tmp 7)) none [] <|
  .op (.call { callee := (.builtin .len), args := ⟨[(.tmp 8)]⟩, argTypes := ⟨[c.sTrees]⟩ }) none [] <|
  .op (.call { callee := (.builtin .len), args := ⟨[(.tmp 0)]⟩, argTypes := ⟨[s.fields]⟩ }) none [] <|
  .op (.binOp .neq c.tInt (.tmp 9) (.tmp 10) c.tInt) none [] <|
  .cond (.tmp 11) (
    .ret [((.const (.bool false)), none)]
  ) (
    .op (.call { callee := (.builtin .len), args := ⟨[(.tmp 0)]⟩, argTypes := ⟨[s.fields]⟩ }) none [] <|
    .loop 0 [(.const (.bool false)), (.const (.int .i64 0))] <|
    .op (.binOp .lss c.tInt (.tmp 14) (.tmp 12) c.tInt) none [] <|
    .cond (.tmp 15) (
      .op (.indexAddr s.fields (.tmp 0) (.tmp 14)) none [] <|
      .op (.load s.field (.tmp 16)) none [] <|
      .op (.alloc s.field) none [] <|
      .op (.store s.field (.tmp 18) (.tmp 17)) none [] <|
      .op (.load c.sTree (.tmp 5)) none [] <|
      .op (callOp s.at_ [(.tmp 20), (.tmp 14)]) none [] <|
      .op (.alloc c.sTree) none [] <|
      .op (.store c.sTree (.tmp 22) (.tmp 21)) none [] <|
      .op (.fieldAddr s.field (.tmp 18) 4) none [] <|
      .op (.load c.tInt (.tmp 24)) none [] <|
      .op (.binOp .lss c.tInt (.tmp 25) (.const (.int .i64 0)) c.tInt) none [] <|
      .cond (.tmp 26) (
        .op (.load s.field (.tmp 18)) none [] <|
        .op (callOp s.has [(.tmp 27), (.tmp 1)]) none [] <|
        .cond (.tmp 28) (gToldIt c s 29) (gTagged c s 29)
      ) (gTagged c s 27)
    ) (
      .op (.fieldAddr c.sTree (.tmp 5) 4) none [] <|
      .op (.load c.sTagL (.tmp 16)) none [] <|
      .op (callOp s.unknown [(.tmp 0), (.tmp 17)]) none [] <|
      .op (.unOp .not c.tBool (.tmp 2)) none [] <|
      .join 1 (
        .cond (.tmp 19) (
          .to 1 [(.const (.slice none 0 0))]
        ) (
          .to 1 [(.tmp 18)]
        )
      ) 1 <|
      .op (.fieldAddr c.sTree (.tmp 6) 4) none [] <|
      .op (.load c.sTagL (.tmp 21)) none [] <|
      .op (.call { callee := (.builtin .len), args := ⟨[(.tmp 22)]⟩, argTypes := ⟨[c.sTagL]⟩ }) none [] <|
      .op (.call { callee := (.builtin .len), args := ⟨[(.tmp 20)]⟩, argTypes := ⟨[c.sTagL]⟩ }) none [] <|
      .op (.binOp .neq c.tInt (.tmp 23) (.tmp 24) c.tInt) none [] <|
      .cond (.tmp 25) (
        .ret [((.const (.bool false)), none)]
      ) (
        .op (.call { callee := (.builtin .len), args := ⟨[(.tmp 20)]⟩, argTypes := ⟨[c.sTagL]⟩ }) none [] <|
        .loop 1 [(.tmp 13), (.const (.int .i64 0))] <|
        .op (.binOp .lss c.tInt (.tmp 28) (.tmp 26) c.tInt) none [] <|
        .cond (.tmp 29) (
          .op (.indexAddr c.sTagL (.tmp 20) (.tmp 28)) none [] <|
          .op (.load c.sTag (.tmp 30)) none [] <|
          .op (.alloc c.sTag) none [] <|
          .op (.store c.sTag (.tmp 32) (.tmp 31)) none [] <|
          .draw <|
          .pur (.fieldAddr c.sTree (.tmp 6) 4) none <|
          .lok (.load c.sTagL (.tmp 34)) none <|
          .pur (.indexAddr c.sTagL (.tmp 35) (.tmp 28)) none <|
          .pur (.fieldAddr c.sTag (.tmp 36) 0) none <|
          .lok (.load c.tU32 (.tmp 37)) none <|
          .pur (.fieldAddr c.sTag (.tmp 32) 0) none <|
          .lok (.load c.tU32 (.tmp 39)) none <|
          .pur (.binOp .neq c.tU32 (.tmp 38) (.tmp 40) c.tU32) none <|
          .cond (.tmp 41) (
            .ret [((.const (.bool false)), none)]
          ) (
            .pur (.fieldAddr c.sTree (.tmp 6) 4) none <|
            .lok (.load c.sTagL (.tmp 42)) none <|
            .pur (.indexAddr c.sTagL (.tmp 43) (.tmp 28)) none <|
            .pur (.fieldAddr c.sTag (.tmp 44) 1) none <|
            .lok (.load c.tBytes (.tmp 45)) none <|
            .pur (.fieldAddr c.sTag (.tmp 32) 1) none <|
            .lok (.load c.tBytes (.tmp 47)) none <|
            .op (callOp s.whole [(.tmp 48)]) none [((.load c.tBytes (.tmp 45)), 46), ((.load c.sTagL (.tmp 42)), 43), ((.load c.tU32 (.tmp 39)), 40), ((.load c.tU32 (.tmp 37)), 38), ((.load c.sTagL (.tmp 34)), 35)] <|
            .op (callOp s.same [(.tmp 46), (.tmp 49)]) none [((.load c.sTagL (.tmp 42)), 43), ((.load c.tU32 (.tmp 39)), 40), ((.load c.tU32 (.tmp 37)), 38), ((.load c.sTagL (.tmp 34)), 35)] <|
            .pur (.unOp .not c.tBool (.tmp 50)) none <|
            .cond (.tmp 51) (
              .ret [((.const (.bool false)), none)]
            ) (
              .op (.binOp .add c.tInt (.tmp 28) (.const (.int .i64 1)) c.tInt) none [] <|
              .to 1 [(.tmp 27), (.tmp 52)]
            )
          )
        ) (
          .ret [((.const (.bool true)), none)]
        )
      )
    )
  )

theorem pTagsTold_get : ∀ {l r : TM}, l.length = r.length → (pTagsTold l r = true ↔ ∀ j (h1 : j < l.length) (h2 : j < r.length), r[j].1 = l[j].1 ∧ r[j].2 = pWhole l[j].2)
  | [], [], _ => by simp [pTagsTold]
  | x :: l, y :: r, h => by
    rw [pTagsTold, Bool.and_eq_true, Bool.and_eq_true, decide_eq_true_eq, decide_eq_true_eq, pTagsTold_get (by simpa using h)]
    constructor
    · rintro ⟨h1, h2⟩ j hj1 hj2
      cases j with
      | zero => exact h1
      | succ j => exact h2 j (by simpa using hj1) (by simpa using hj2)
    · intro h3
      exact ⟨h3 0 (by simp) (by simp), fun j h1 h2 => h3 (j + 1) (by simpa using h1) (by simpa using h2)⟩

/-- What is asked of a field of a part. -/
def pToldAt (f : PF) (v : Int) (fl : Bool) (x got : PT) : Bool :=
  if (f.tag < 0 ∧ pHas f v = true) ∨ (0 ≤ f.tag ∧ fl = true ∧ pUsual f x = false) then pTold1 f v fl x got else pUsualGot f got

theorem pTolds_get : ∀ {fs : List PF} {v : Int} {fl : Bool} {t got : PT} {i : Nat}, pTolds fs v fl t got i = true ↔ ∀ j (hj : j < fs.length), pToldAt fs[j] v fl (pAt t (i + j)) (pAt got (i + j)) = true
  | [], v, fl, t, got, i => by simp [pTolds]
  | f :: r, v, fl, t, got, i => by
    rw [pTolds, Bool.and_eq_true, pTolds_get (fs := r)]
    constructor
    · rintro ⟨h1, h2⟩ j hj
      cases j with
      | zero => exact h1
      | succ j =>
        have := h2 j (by simpa using hj)
        rw [show i + (j + 1) = i + 1 + j by omega]
        exact this
    · intro h
      refine ⟨h 0 (by simp), fun j hj => ?_⟩
      have := h (j + 1) (by simpa using hj)
      rw [show i + 1 + j = i + (j + 1) by omega]
      exact this

section

variable {P : Program} {c : Nums} {s : SN} {R : Value → World → Prop} {Γ : List (List Value → World → Prop)} {n : Nat} {ρ : Nat → Value} {w : World} {k : Tr}

theorem told1_gives (S : SpFacts P c s) (Q : Smalls P s) (L : Tells P s) (hT : treeIn P s.told1 noOrc [.tmp 0, .tmp 1, .tmp 2, .tmp 3, .tmp 4] 5 = tTold1 c s) {f : PF} (hS : ToldOf P s f.sub) (h1 : f.kind = 11 → f.elem ≠ 11 ∧ Told1Of P s f.one) : Told1Of P s f := by
  intro w v fl t got cs ts gs hfc ht hg hok
  rw [pTold1_eq, pToldOf_eq]
  have hfc0 := hfc
  have htc0 := ht
  have hgc0 := hg
  refine gives_in (ρ := en [_, _, _, _, _]) S.rd.mix hT (Nat.le_refl _) rfl (by simp [opBelow]) ?_
  have hfl := hfc.len
  have htl := ht.len
  have hgl := hg.len
  refine s_box rfl fun w1 hx1 k1 z1 => ?_
  refine s_box rfl fun w2 hy2 k2 z2 => ?_
  refine s_box rfl fun w3 hz3 k3 z3 => ?_
  have hx3 := (hx1.keep k2 (by simp)).keep k3 (by simp)
  have hy3 := hy2.keep k3 (by simp)
  have k03 := (k1.trans k2).trans k3
  refine s_lok (l_loadN (b := w.heap.size) (o := 0) S.agg rfl hx3 (by omega)) (s_lok (l_loadN (b := w1.heap.size) (o := 0) S.ty.agg rfl hy3 (by omega)) ?_)
  rw [List.drop_zero, List.drop_zero, List.take_of_length_le (by omega), List.take_of_length_le (by omega)]
  refine s_callx (Q.null w3 f t cs ts v (FieldC.keep k03 _ _ hfc0) (TreeC.keep k03 _ _ htc0)) rfl fun u w4 ⟨hu, k4⟩ => ?_
  subst hu
  have hx4 := hx3.keep k4 (by simp)
  have hy4 := hy3.keep k4 (by simp)
  have hz4 := hz3.keep k4 (by simp)
  have k04 := k03.trans k4
  have hfc4 := FieldC.keep k04 _ _ hfc0
  have htc4 := TreeC.keep k04 _ _ htc0
  have hgc4 := TreeC.keep k04 _ _ hgc0
  obtain ⟨fv, ecs, hsub⟩ := hfc0.cells
  obtain ⟨sg, lg, ug, lgc, ugc, eg, _⟩ := hgc0.cells
  have hkind : cs[0 + 0]? = some (.int .i64 f.kind) := by rw [ecs]; rfl
  have hnul : cs[0 + 3]? = some (.int .i64 f.nul) := by rw [ecs]; rfl
  have hgn : gs[0 + 2]? = some (.bool got.null) := by rw [eg]; rfl
  refine s_fl S.f3 S.oneInt rfl rfl hx4 hnul ?_
  refine s_val (v_cmp (kk := .i64) (a := f.nul) (b := 0) (r := decide (f.nul ≥ 0)) rfl rfl rfl) ?_
  generalize hcnd : ((decide (f.kind = 8) || decide (f.kind = 10) || (decide (0 ≤ f.nul) && decide (f.nul ≤ v))) : Bool) = cnd
  have tail : ∀ (n : Nat) (ρ' : Nat → Value), n = 20 ∨ n = 23 ∨ n = 26 → ρ' 1 = .int .i64 v → ρ' 2 = .bool fl → ρ' 5 = ptr w.heap.size → ρ' 6 = ptr w1.heap.size → ρ' 7 = ptr w2.heap.size → ρ' 10 = .bool (pNull f v t) → (cnd && (got.null != pNull f v t)) = false →
      (gTail c s n).sem P (fun u w' => u = .bool (if (cnd && (got.null != pNull f v t)) = true then false else pTail (fun y z => pTold f.sub v fl y z) f v t got) ∧ Keeps [] w w') [] n ρ' w4 := by
    intro n ρ' hn q1 q2 q5 q6 q7 q10 hc
    rw [if_neg (by rw [hc]; simp)]
    exact sem_tail S Q L hn hS h1 q1 q2 q5 q6 q7 q10 hx4 hy4 hz4 hfc4 htc4 hgc4 hok k04
  have nulls : ∀ (n : Nat) (ρ' : Nat → Value), n = 17 ∨ n = 20 ∨ n = 23 → ρ' 1 = .int .i64 v → ρ' 2 = .bool fl → ρ' 5 = ptr w.heap.size → ρ' 6 = ptr w1.heap.size → ρ' 7 = ptr w2.heap.size → ρ' 10 = .bool (pNull f v t) → cnd = true →
      (gNulls c s n).sem P (fun u w' => u = .bool (if (cnd && (got.null != pNull f v t)) = true then false else pTail (fun y z => pTold f.sub v fl y z) f v t got) ∧ Keeps [] w w') [] n ρ' w4 := by
    intro n ρ' hn q1 q2 q5 q6 q7 q10 hc
    rcases hn with rfl | rfl | rfl
    all_goals
      refine s_fl S.ty.f2 S.rd.oneBool q7 rfl hz4 hgn ?_
      refine s_val (v_eqlBool (op := .neq) (a := got.null) (b := pNull f v t) (r := got.null != pNull f v t) S.ty.bool rfl q10 (.inr ⟨rfl, rfl⟩)) ?_
      refine s_cond (b := got.null != pNull f v t) rfl (fun hb => s_ret1 ⟨by rw [if_pos (by rw [hc, hb]; rfl)]; rfl, k04⟩) fun hb => ?_
      exact tail _ _ (by simp) q1 q2 q5 q6 q7 q10 (by rw [hb, Bool.and_false])
  refine s_cond (b := decide (f.nul ≥ 0)) rfl (fun hb => ?_) fun hb => ?_
  · have hge : 0 ≤ f.nul := by simpa using hb
    refine s_fl S.f3 S.oneInt rfl rfl hx4 hnul ?_
    refine s_val (v_cmp (kk := .i64) (a := v) (b := f.nul) (r := decide (v ≥ f.nul)) rfl rfl rfl) ?_
    refine s_fl S.f0 S.oneInt rfl rfl hx4 hkind ?_
    refine s_val (v_cmp (kk := .i64) (a := f.kind) (b := 8) (r := f.kind == 8) rfl rfl rfl) ?_
    refine s_cond (b := f.kind == 8) rfl (fun hb2 => ?_) fun hb2 => ?_
    · exact nulls 20 _ (by simp) rfl rfl rfl rfl rfl rfl (by rw [← hcnd]; simp at hb2; simp [hb2])
    refine s_fl S.f0 S.oneInt rfl rfl hx4 hkind ?_
    refine s_val (v_cmp (kk := .i64) (a := f.kind) (b := 10) (r := f.kind == 10) rfl rfl rfl) ?_
    refine s_cond (b := f.kind == 10) rfl (fun hb3 => ?_) fun hb3 => ?_
    · exact nulls 23 _ (by simp) rfl rfl rfl rfl rfl rfl (by rw [← hcnd]; simp at hb3; simp [hb3])
    refine s_cond (b := decide (v ≥ f.nul)) rfl (fun hb4 => ?_) fun hb4 => ?_
    · exact nulls 23 _ (by simp) rfl rfl rfl rfl rfl rfl (by rw [← hcnd]; simp at hb4; simp [hb4, hge])
    · refine tail 23 _ (by simp) rfl rfl rfl rfl rfl rfl ?_
      have : cnd = false := by
        rw [← hcnd]
        simp at hb2 hb3 hb4
        simp [hb2, hb3]
        omega
      rw [this]
      rfl
  · have hlt : ¬ 0 ≤ f.nul := by simpa using hb
    refine s_fl S.f0 S.oneInt rfl rfl hx4 hkind ?_
    refine s_val (v_cmp (kk := .i64) (a := f.kind) (b := 8) (r := f.kind == 8) rfl rfl rfl) ?_
    refine s_cond (b := f.kind == 8) rfl (fun hb2 => ?_) fun hb2 => ?_
    · exact nulls 17 _ (by simp) rfl rfl rfl rfl rfl rfl (by rw [← hcnd]; simp at hb2; simp [hb2])
    refine s_fl S.f0 S.oneInt rfl rfl hx4 hkind ?_
    refine s_val (v_cmp (kk := .i64) (a := f.kind) (b := 10) (r := f.kind == 10) rfl rfl rfl) ?_
    refine s_cond (b := f.kind == 10) rfl (fun hb3 => ?_) fun hb3 => ?_
    · exact nulls 20 _ (by simp) rfl rfl rfl rfl rfl rfl (by rw [← hcnd]; simp at hb3; simp [hb3])
    · refine tail 20 _ (by simp) rfl rfl rfl rfl rfl rfl ?_
      have : cnd = false := by
        rw [← hcnd]
        simp at hb2 hb3
        simp [hb2, hb3]
        omega
      rw [this]
      rfl

theorem take0 {cs : List Value} {n : Nat} (h : cs.length = n) : (cs.drop 0).take n = cs := by rw [List.drop_zero, List.take_of_length_le (by omega)]

theorem told_step (S : SpFacts P c s) (Q : Smalls P s) (L : Tells P s) (hT : treeIn P s.told noOrc [.tmp 0, .tmp 1, .tmp 2, .tmp 3, .tmp 4] 5 = tTold c s) {fs : List PF} (hp : ∀ f ∈ fs, f.tag < 0) (hlen : fs.length < 65536) (hF : ∀ f ∈ fs, Told1Of P s f) (hUs : ∀ f ∈ fs, UsualOf P s [f]) (hU : UnknownOf P s fs) : ToldOf P s fs := by
  intro w fv v fl t got ts gs hfv ht hg hok
  have htc := ht
  have hgc := hg
  have hgl := hg.lens
  have hfv0 := hfv
  obtain ⟨fcs, hr, hfc⟩ := hfv
  obtain ⟨sv, lv, uv, lcs, ucs, rfl, t1, t2, t3, t4, t5⟩ := ht.cells
  obtain ⟨sg, lg, ug, lgc, ugc, rfl, g1, g2, g3, g4, g5⟩ := hg.cells
  generalize hG : pTold fs v fl t got = G
  unfold pTold at hG
  refine gives_in (ρ := en [_, _, _, _, _]) S.rd.mix hT (Nat.le_refl _) rfl (by simp [opBelow]) ?_
  refine s_box rfl fun w1 hx1 k1 z1 => ?_
  refine s_box rfl fun w2 hy2 k2 z2 => ?_
  have hx2 := hx1.keep k2 (by simp)
  have k02 : Keeps [] w w2 := k1.trans k2
  obtain ⟨la, cpl, el⟩ := g2.form
  refine s_fl S.ty.f3 S.ty.oneTrees rfl rfl hy2 rfl (s_val (v_len (a := la) (l := got.l.length) (c := cpl) S.ty.sl el) ?_)
  obtain ⟨a, cp, e⟩ := hr.form
  refine s_val (v_len (a := a) (l := fs.length) (c := cp) S.sl e) ?_
  refine s_val (v_cmp (kk := .i64) (a := got.l.length) (b := fs.length) (r := ((got.l.length : Int) != fs.length)) rfl rfl rfl) ?_
  refine s_cond (b := ((got.l.length : Int) != fs.length)) rfl (fun hb2 => s_ret1 ⟨?_, k02⟩) fun hb2 => ?_
  · have hne2 : got.l.length ≠ fs.length := fun e => by rw [e] at hb2; simp at hb2
    rw [← hG, decide_eq_false hne2]
    rfl
  have hleq : got.l.length = fs.length := by
    have : (got.l.length : Int) = fs.length := by simpa using hb2
    omega
  rw [decide_eq_true hleq, Bool.true_and] at hG
  refine s_val (v_len (a := a) (l := fs.length) (c := cp) S.sl e) ?_
  refine s_countV (n := 13) (q := 12) (kk := .i64) (m := fs.length) (ri := [.const (.bool false)]) (Γ := []) (fun j vr w' => vr = [.bool false] ∧ Keeps [] w2 w' ∧ ∀ i (hi : i < fs.length), i < j → pToldAt fs[i] v fl (pAt t i) (pAt got i) = true) (by omega) rfl ⟨rfl, .refl, fun i _ h => by omega⟩ ?_ ?_
  · rintro j hj w3 vr ⟨rfl, k23, hall⟩ hvr J hJ
    have hj' : j < fs.length := by omega
    have hjg : j < got.l.length := by omega
    have k03 := k02.trans k23
    refine s_eachF (fv := fv) (fs := fs) (j := j) S (hfv0.keep k03) rfl rfl hj' fun w4 a4 b cs hh hf k4 hb => ?_
    have hf0 := hf
    have hneg := hp _ (List.getElem_mem hj')
    have k24 := k23.trans k4
    have hx4 := hx2.keep k24 (by simp)
    refine s_lok (l_loadN (b := w.heap.size) (o := 0) S.ty.agg rfl hx4 (show 0 + 5 ≤ 5 by omega)) ?_
    refine s_callx (Q.at_ w4 t _ j (TreeC.keep (k02.trans k24) _ _ htc)) rfl fun u w5 ⟨k5, tcs, hu, htj⟩ => ?_
    subst hu
    refine s_alloc S.got.zero fun w6 hz6 k6 z6 => ?_
    have hl5 := htj.len
    refine s_storeAll (b := w5.heap.size) (old := zeroTree) (cs := tcs) (by rw [hl5]; exact S.ty.agg) rfl rfl hz6 (by rw [hl5]; rfl) htj.ones fun w7 hy7 k7 => ?_
    have k57 : Keeps [] w5 w7 := ((k6.mono (by simp)).trans k7).less fun x hx => .inr (by simp only [List.mem_singleton] at hx; omega)
    have k47 := k5.trans k57
    have k27 := k24.trans k47
    have hh7 := hh.keep k47 (by simp)
    have hg7 := hy2.keep k27 (by simp)
    have hf7 := FieldC.keep k47 _ _ hf0
    have ht7 := TreeC.keep k57 _ _ htj
    have hfl := hf0.len
    have hpag : pAt got j = got.l[j] := by unfold pAt; rw [List.getD_eq_getElem?_getD, List.getElem?_eq_getElem hjg]; rfl
    obtain ⟨sv4, ecs, hsub⟩ := hf0.cells
    have htag : cs[0 + 4]? = some (.int .i64 (fs[j]'hj').tag) := by rw [ecs]; rfl
    have fin : ∀ w', pToldAt fs[j] v fl (pAt t j) got.l[j] = true → Keeps [] w7 w' → J [.bool false, .int .i64 ((j + 1 : Nat) : Int)] w' := fun w' hg hk => hJ [_] w' rfl ⟨rfl, k27.trans hk, fun i hi hij => by
      by_cases hij2 : i = j
      · subst hij2; rw [hpag]; exact hg
      · exact hall i hi (by omega)⟩
    have bad : ∀ w', pToldAt fs[j] v fl (pAt t j) got.l[j] = false → Keeps [] w7 w' → (fun u w' => u = Value.bool G ∧ Keeps [] w w') (.bool false) w' := fun w' hgg hk => ⟨by
      have : G = false := by
        cases hGv : G with
        | false => rfl
        | true =>
          rw [hGv, Bool.and_eq_true] at hG
          have := pTolds_get.1 hG.1 j hj'
          rw [Nat.zero_add, hpag, hgg] at this
          cases this
      rw [this], (k02.trans k27).trans hk⟩
    refine s_fl S.f4 S.oneInt rfl rfl hh7 htag ?_
    refine s_val (v_cmp (kk := .i64) (a := (fs[j]'hj').tag) (b := 0) (r := decide ((fs[j]'hj').tag < 0)) rfl rfl rfl) ?_
    refine s_cond (b := decide ((fs[j]'hj').tag < 0)) rfl (fun hb1 => ?_) fun hb1 => (by simp at hb1; omega)
    refine s_lok (l_loadN (b := b) (o := 0) S.agg rfl hh7 (by omega)) ?_
    rw [take0 hfl]
    refine s_callx (Q.has w7 fs[j] _ v hf7) rfl fun u w8 ⟨hu, k8⟩ => ?_
    subst hu
    have hh8 := hh7.keep k8 (by simp)
    have hf8 := FieldC.keep k8 _ _ hf7
    have ht8 := TreeC.keep k8 _ _ ht7
    have hy8 := hy7.keep k8 (by simp)
    have hg8 := hg7.keep k8 (by simp)
    refine s_cond (b := pHas fs[j] v) rfl (fun hb2 => ?_) fun hb2 => ?_
    · have hat : pToldAt fs[j] v fl (pAt t j) got.l[j] = pTold1 fs[j] v fl (pAt t j) got.l[j] := by
        unfold pToldAt
        rw [if_pos (.inl ⟨hneg, hb2⟩)]
      rw [hat] at fin bad
      show Tr.sem _ _ _ _ _ _ { w8 with drawn := w8.drawn + 1 }
      have hd : Keeps [] w8 { w8 with drawn := w8.drawn + 1 } := keeps_drawn w8 _ _
      generalize ({ w8 with drawn := w8.drawn + 1 } : World) = w9 at hd ⊢
      have k09 := ((k02.trans k27).trans k8).trans hd
      refine l_lok (l_loadN (b := b) (o := 0) S.agg rfl (hh8.keep hd (by simp)) (by omega)) ?_
      rw [take0 hfl]
      refine l_lok (l_loadN (b := w5.heap.size) (o := 0) S.ty.agg rfl (hy8.keep hd (by simp)) (by omega)) ?_
      rw [take0 hl5]
      have hg9 := hg8.keep hd (by simp)
      refine p_fl S.ty.f3 S.ty.oneTrees rfl rfl hg9 rfl ?_
      obtain ⟨b2, o2, cap2, e2, _, hel2, hcell2⟩ := (g2.keep k09).elem hjg (by omega)
      have hgj := TreesC.get (TreesC.keep k09 _ _ g3) hjg
      refine p_val (v_indexAddr (b := b2) (o := o2) (l := got.l.length) (c := cap2) (j := j) (kk := .i64) S.ty.sl S.szT e2 rfl (by omega) (by omega)) ?_
      rw [Int.toNat_natCast]
      refine l_lok (l_cellN (b := b2) (o := o2 + j * 5) S.ty.agg rfl hel2 hcell2) ?_
      refine s_call (hF fs[j] (List.getElem_mem hj') w9 v fl (pAt t j) got.l[j] _ _ _ (FieldC.keep hd _ _ hf8) (TreeC.keep hd _ _ ht8) hgj (hok.at j)) fun u w10 ⟨hu, k10⟩ => ⟨?_, ?_⟩
      · intro p hp
        simp only [List.mem_singleton] at hp
        subst hp
        exact l_load1 (b := w1.heap.size) (o := 3) S.ty.oneTrees rfl (hg9.keep k10 (by simp)) rfl
      subst hu
      have k7a := (k8.trans hd).trans k10
      refine p_val (v_not (b := pTold1 fs[j] v fl (pAt t j) got.l[j]) rfl) ?_
      refine s_cond (b := !pTold1 fs[j] v fl (pAt t j) got.l[j]) rfl (fun hb3 => s_ret1 (bad w10 (by simpa using hb3) k7a)) fun hb3 => ?_
      refine s_val (v_arith (kk := .i64) (a := j) (b := 1) (r := ((j + 1 : Nat) : Int)) rfl rfl ?_) ?_
      · simp only [arithOf, Option.some.injEq]; rw [IntKind.wrap_i64]; omega
      exact ⟨J, rfl, fin w10 (by simpa using hb3) k7a⟩
    · have hat : pToldAt fs[j] v fl (pAt t j) got.l[j] = pUsualGot fs[j] got.l[j] := by
        unfold pToldAt
        rw [if_neg (by
          rintro (⟨_, h⟩ | ⟨h, _⟩)
          · rw [hb2] at h; cases h
          · omega)]
      rw [hat] at fin bad
      refine s_fl S.f4 S.oneInt rfl rfl hh8 htag ?_
      refine s_val (v_cmp (kk := .i64) (a := (fs[j]'hj').tag) (b := 0) (r := decide ((fs[j]'hj').tag ≥ 0)) rfl rfl rfl) ?_
      refine s_cond (b := decide ((fs[j]'hj').tag ≥ 0)) rfl (fun hb3 => (by simp at hb3; omega)) fun _ => ?_
      show Tr.sem _ _ _ _ _ _ { w8 with drawn := w8.drawn + 1 }
      have hd : Keeps [] w8 { w8 with drawn := w8.drawn + 1 } := keeps_drawn w8 _ _
      generalize ({ w8 with drawn := w8.drawn + 1 } : World) = w9 at hd ⊢
      have k09 := ((k02.trans k27).trans k8).trans hd
      have hh9 := hh8.keep hd (by simp)
      have hf9 := FieldC.keep hd _ _ hf8
      refine l_lok (l_loadN (b := b) (o := 0) S.agg rfl hh9 (by omega)) ?_
      rw [take0 hfl]
      have hg9 := hg8.keep hd (by simp)
      refine p_fl S.ty.f3 S.ty.oneTrees rfl rfl hg9 rfl ?_
      obtain ⟨b2, o2, cap2, e2, hbl2, hel2, hcell2⟩ := (g2.keep k09).elem hjg (by omega)
      have hgj := TreesC.get (TreesC.keep k09 _ _ g3) hjg
      have hgjl := hgj.len
      refine p_val (v_indexAddr (b := b2) (o := o2) (l := got.l.length) (c := cap2) (j := j) (kk := .i64) S.ty.sl S.szT e2 rfl (by omega) (by omega)) ?_
      rw [Int.toNat_natCast]
      refine l_lok (l_cellN (b := b2) (o := o2 + j * 5) S.ty.agg rfl hel2 hcell2) ?_
      have ldT : ∀ (ρ : Nat → Value) (x : Operand) (w' : World), ev ρ x = ptr b2 (o2 + j * 5) → Keeps [] w9 w' → runOp P ρ (.load c.sTree x) w' = .ok (.value (.agg ⟨(lgc.drop (j * 5)).take 5⟩)) w' := fun ρ x w' hx kk => l_cellN (b := b2) (o := o2 + j * 5) S.ty.agg hx hel2 fun i hi => by rw [cell_keep kk hbl2 (by simp)]; exact hcell2 i hi
      have hone : pUsualGots [fs[j]] (PT.mk 0 [] false [got.l[j]] []) 0 = pUsualGot fs[j] got.l[j] := by
        rw [pUsualGots, pUsualGots, Bool.and_true]
        rfl
      have ending : ∀ (ρ' : Nat → Value) (w' : World) (q : Bool), ρ' 13 = .bool false → ρ' 14 = .int .i64 j → ρ' 40 = .bool q → q = pUsualGot fs[j] got.l[j] → Keeps [] w9 w' →
          (gUsualEnd c 40).sem P (fun u w' => u = .bool G ∧ Keeps [] w w') ([] ++ [J]) 41 ρ' w' := by
        intro ρ' w' q h13 h14 h40 hq kk
        have k7a := (k8.trans hd).trans kk
        refine p_val (v_not (b := q) h40) ?_
        refine s_cond (b := !q) rfl (fun hb3 => s_ret1 (bad w' (by rw [← hq]; simpa using hb3) k7a)) fun hb3 => ?_
        refine s_val (v_arith (kk := .i64) (a := j) (b := 1) (r := ((j + 1 : Nat) : Int)) h14 rfl (by simp only [arithOf, Option.some.injEq]; rw [IntKind.wrap_i64]; omega)) ?_
        refine ⟨J, rfl, ?_⟩
        generalize hvs : List.map (ev _) [Operand.tmp 13, Operand.tmp (40 + 2)] = vs
        obtain rfl : vs = [.bool false, .int .i64 ((j + 1 : Nat) : Int)] := by rw [← hvs]; exact pair_eq' h13 rfl
        exact fin w' (by rw [← hq]; simpa using hb3) k7a
      have mkF : ∀ (w' : World) (v' : Value), Reads w' v' 8 1 cs → Keeps [] w9 w' → FieldsV w' [fs[j]] v' := fun w' v' hr' kk => ⟨cs, .of_reads hr', ⟨cs, [], by simp, FieldC.keep kk _ _ hf9, rfl⟩⟩
      have mkT : ∀ (w' : World) (v' : Value), Reads w' v' 5 1 ((lgc.drop (j * 5)).take 5) → Keeps [] w9 w' → TreeC w' (PT.mk 0 [] false [got.l[j]] []) [.int .i64 0, .slice none 0 0, .bool false, v', .slice none 0 0] := fun w' v' hr' kk =>
        ⟨_, v', _, _, [], rfl, Ro.nil w' 1, .of_reads hr', ⟨_, [], by simp, TreeC.keep kk _ _ hgj, rfl⟩, Ro.nil w' 2, rfl, by simp⟩
      refine ⟨?_, ?_⟩
      · refine s_oneSlice (sz := 8) (cs := cs) S.rowF S.sl rfl hfl fun w10 hsl1 k10 z10 => ⟨?_, ?_⟩
        · intro p hp
          simp only [List.mem_cons, List.not_mem_nil, or_false] at hp
          rcases hp with rfl | rfl
          · exact ldT _ _ _ rfl k10
          · exact l_load1 (b := w1.heap.size) (o := 3) S.ty.oneTrees rfl (hg9.keep k10 (by simp)) rfl
        refine s_oneSlice (sz := 5) (cs := (lgc.drop (j * 5)).take 5) S.got.row S.ty.sl rfl hgjl fun w11 hsl2 k11 z11 => ⟨?_, ?_⟩
        · intro p hp
          simp only [List.mem_singleton] at hp
          subst hp
          exact l_load1 (b := w1.heap.size) (o := 3) S.ty.oneTrees rfl ((hg9.keep k10 (by simp)).keep k11 (by simp)) rfl
        refine p_val (v_build (cells := [.int .i64 0, .slice none 0 0, .bool false, .slice (some ⟨w10.heap.size, 0, none⟩) 1 1, .slice none 0 0]) S.got.plan (fun p hp => by
          simp only [List.mem_singleton] at hp
          subst hp
          rfl) rfl) ?_
        have k911 := k10.trans k11
        refine s_call (hUs fs[j] (List.getElem_mem hj') w11 _ _ _ (FieldsV.keep k11 (mkF w10 _ hsl1 k10)) (mkT w11 _ hsl2 k911)) fun u w12 ⟨hu, k12⟩ => ⟨?_, ?_⟩
        · intro p hp
          simp only [List.mem_singleton] at hp
          subst hp
          exact l_load1 (b := w1.heap.size) (o := 3) S.ty.oneTrees rfl (((hg9.keep k10 (by simp)).keep k11 (by simp)).keep k12 (by simp)) rfl
        subst hu
        exact ending _ w12 _ rfl rfl rfl (by rw [hone]; rfl) (k911.trans k12)
      · refine s_oneSlice (sz := 5) (cs := (lgc.drop (j * 5)).take 5) S.got.row S.ty.sl rfl hgjl fun w10 hsl2 k10 z10 => ⟨?_, ?_⟩
        · intro p hp
          simp only [List.mem_cons, List.not_mem_nil, or_false] at hp
          rcases hp with rfl | rfl
          · exact l_load1 (b := w1.heap.size) (o := 3) S.ty.oneTrees rfl (hg9.keep k10 (by simp)) rfl
          · refine (l_loadN (b := b) (o := 0) S.agg rfl (hh9.keep k10 (by simp)) (by omega)).trans ?_
            rw [take0 hfl]
            rfl
        refine p_val (v_build (cells := [.int .i64 0, .slice none 0 0, .bool false, .slice (some ⟨w9.heap.size, 0, none⟩) 1 1, .slice none 0 0]) S.got.plan (fun p hp => by
          simp only [List.mem_singleton] at hp
          subst hp
          rfl) rfl) ?_
        refine s_oneSlice (sz := 8) (cs := cs) S.rowF S.sl rfl hfl fun w11 hsl1 k11 z11 => ⟨?_, ?_⟩
        · intro p hp
          simp only [List.mem_singleton] at hp
          subst hp
          exact l_load1 (b := w1.heap.size) (o := 3) S.ty.oneTrees rfl ((hg9.keep k10 (by simp)).keep k11 (by simp)) rfl
        have k911 := k10.trans k11
        refine s_call (hUs fs[j] (List.getElem_mem hj') w11 _ _ _ (mkF w11 _ hsl1 k911) (TreeC.keep k11 _ _ (mkT w10 _ hsl2 k10))) fun u w12 ⟨hu, k12⟩ => ⟨?_, ?_⟩
        · intro p hp
          simp only [List.mem_singleton] at hp
          subst hp
          exact l_load1 (b := w1.heap.size) (o := 3) S.ty.oneTrees rfl (((hg9.keep k10 (by simp)).keep k11 (by simp)).keep k12 (by simp)) rfl
        subst hu
        exact ending _ w12 _ rfl rfl rfl (by rw [hone]; rfl) (k911.trans k12)
  · rintro w3 vr J ⟨rfl, k23, hall⟩ hvr
    rw [pTolds_get.2 fun j hj => by rw [Nat.zero_add]; exact hall j hj (by simpa using hj), Bool.true_and] at hG
    unfold pToldEnd at hG
    have hx3 := hx2.keep k23 (by simp)
    have hy3 := hy2.keep k23 (by simp)
    have k03 := k02.trans k23
    refine s_fl S.ty.f4 S.ty.oneTagL rfl rfl hx3 rfl ?_
    refine s_callx (hU w3 w3 fv uv t.u ucs (hfv0.keep k03) (t4.keep k03) (TagsC.keep k03 _ _ t5) hok.u) rfl fun tv w4 ⟨tcs, hown, htg', _, k4⟩ => ?_
    have htg := TagsC.keep k4 _ _ htg'
    have hy4 := hy3.keep k4 (by simp)
    have k04 := k03.trans k4
    refine s_val (v_not (b := fl) rfl) ?_
    generalize hun : (if fl = true then pUnknown fs t.u else []) = un at hG
    dsimp only at hG
    have hun7 : un.length ≤ 32767 := by
      rw [← hun]
      split
      · exact pUnknown_length fs t.u
      · simp
    refine ⟨rfl, fun vs w' => w' = w4 ∧ ∃ u, vs = [u] ∧ ∃ cs', Ro w4 u 2 un.length cs' ∧ TagsC w4 un cs', ?_, ?_⟩
    · refine s_cond (b := !fl) rfl (fun hb => ⟨_, rfl, rfl, _, rfl, ?_⟩) fun hb => ⟨_, rfl, rfl, _, rfl, ?_⟩
      · have : fl = false := by simpa using hb
        subst this
        rw [← hun]
        exact ⟨[], Ro.nil w4 2, rfl⟩
      · have : fl = true := by simpa using hb
        subst this
        rw [← hun]
        exact ⟨tcs, Ro.of_reads hown.reads, htg⟩
    rintro vs w5 _ ⟨hw5, u, rfl, cs', hru, htu⟩
    rw [hw5]
    clear hw5
    obtain ⟨ga, gc, ge⟩ := g4.form
    obtain ⟨ua, uc, ue⟩ := hru.form
    refine s_fl S.ty.f4 S.ty.oneTagL rfl rfl hy4 rfl (s_val (v_len (a := ga) (l := got.u.length) (c := gc) S.ty.slTag ge) ?_)
    refine s_val (v_len (a := ua) (l := un.length) (c := uc) S.ty.slTag ue) ?_
    refine s_val (v_cmp (kk := .i64) (a := got.u.length) (b := un.length) (r := ((got.u.length : Int) != un.length)) rfl rfl rfl) ?_
    refine s_cond (b := ((got.u.length : Int) != un.length)) rfl (fun hb2 => s_ret1 ⟨?_, k04⟩) fun hb2 => ?_
    · have hne2 : got.u.length ≠ un.length := fun e => by rw [e] at hb2; simp at hb2
      rw [← hG, decide_eq_false hne2]
      rfl
    have hleq2 : got.u.length = un.length := by
      have : (got.u.length : Int) = un.length := by simpa using hb2
      omega
    rw [decide_eq_true hleq2, Bool.true_and] at hG
    have hall2 := pTagsTold_get hleq2.symm
    refine s_val (v_len (a := ua) (l := un.length) (c := uc) S.ty.slTag ue) ?_
    refine s_countV (n := 27) (q := 26) (kk := .i64) (m := un.length) (ri := [.tmp 13]) (Γ := [J]) (fun j vr w' => vr = [.bool false] ∧ Keeps [] w4 w' ∧ ∀ i (h1 : i < un.length) (h2 : i < got.u.length), i < j → (got.u[i]'h2).1 = (un[i]'h1).1 ∧ (got.u[i]'h2).2 = pWhole (un[i]'h1).2) (by omega) rfl ⟨rfl, .refl, fun i _ _ h => by omega⟩ ?_ ?_
    · rintro j hj w6 vr ⟨rfl, k46, hsofar⟩ hvr J2 hJ2
      have hj' : j < un.length := by omega
      have hj2 : j < got.u.length := by omega
      refine s_eachT (w0 := w4) (tv := u) (m := un) (j := j) S (hru.keep k46) htu rfl rfl hj' fun w7 a7 b vv hh hvv k7 hb => ?_
      show Tr.sem _ _ _ _ _ _ { w7 with drawn := w7.drawn + 1 }
      have hd : Keeps [] w7 { w7 with drawn := w7.drawn + 1 } := keeps_drawn w7 _ _
      generalize ({ w7 with drawn := w7.drawn + 1 } : World) = w8 at hd ⊢
      have k48 := (k46.trans k7).trans hd
      have hh8 := hh.keep hd (by simp)
      have hy8 := hy4.keep k48 (by simp)
      obtain ⟨b2, o2, cap2, e2, hbl2, hel2, hcell2⟩ := (g4.keep (k04.trans k48)).elem hj2 (by omega)
      obtain ⟨vg, hcg, hvg⟩ := TagsC.get (TagsC.keep (k04.trans k48) _ _ g5) hj2
      have hc0 : w8.cell? ⟨b2, o2 + j * 2 + 0, none⟩ = some (.int .u32 (got.u[j]'hj2).1) := by rw [hcell2 0 (by omega), hcg]; rfl
      have hc1 : w8.cell? ⟨b2, o2 + j * 2 + 1, none⟩ = some vg := by rw [hcell2 1 (by omega), hcg]; rfl
      have ld : ∀ (ρ : Nat → Value) (x : Operand) (w' : World) (ty i : Nat) (v : Value), oneTy P ty = true → ev ρ x = ptr b2 (o2 + j * 2 + i) → w8.cell? ⟨b2, o2 + j * 2 + i, none⟩ = some v → Keeps [] w8 w' → runOp P ρ (.load ty x) w' = .ok (.value v) w' := fun ρ x w' ty i v h1 hx hv kk => l_cell1 h1 hx (by rw [cell_keep kk hbl2 (by simp)]; exact hv)
      have bad : ∀ w', ¬ ((got.u[j]'hj2).1 = (un[j]'hj').1 ∧ (got.u[j]'hj2).2 = pWhole (un[j]'hj').2) → Keeps [] w8 w' → (fun u w' => u = Value.bool G ∧ Keeps [] w w') (.bool false) w' := fun w' hgg hk => ⟨by
        have : G = false := by
          cases hGv : G with
          | false => rfl
          | true =>
            rw [hGv] at hG
            exact absurd (hall2.1 hG j hj' hj2) hgg
        rw [this], (k04.trans k48).trans hk⟩
      refine p_fl S.ty.f4 S.ty.oneTagL rfl rfl hy8 rfl ?_
      refine p_val (v_indexAddr (b := b2) (o := o2) (l := got.u.length) (c := cap2) (j := j) (kk := .i64) S.ty.slTag S.szG e2 rfl (by omega) (by omega)) ?_
      rw [Int.toNat_natCast]
      refine p_val (v_field (b := b2) (o := o2 + j * 2) S.ty.g0 rfl) ?_
      refine l_lok (ld _ _ w8 _ 0 _ S.ty.oneU32 rfl hc0 .refl) ?_
      refine p_fl S.ty.g0 S.ty.oneU32 rfl rfl hh8 rfl ?_
      refine p_val (v_cmp (kk := .u32) (a := (got.u[j]'hj2).1) (b := (un[j]'hj').1) (r := (((got.u[j]'hj2).1 : Int) != (un[j]'hj').1)) rfl rfl rfl) ?_
      refine s_cond (b := (((got.u[j]'hj2).1 : Int) != (un[j]'hj').1)) rfl (fun hb3 => s_ret1 (bad w8 (fun h => by rw [h.1] at hb3; simp at hb3) .refl)) fun hb3 => ?_
      have hkey : (got.u[j]'hj2).1 = (un[j]'hj').1 := by
        have : ((got.u[j]'hj2).1 : Int) = (un[j]'hj').1 := by simpa using hb3
        omega
      refine p_fl S.ty.f4 S.ty.oneTagL rfl rfl hy8 rfl ?_
      refine p_val (v_indexAddr (b := b2) (o := o2) (l := got.u.length) (c := cap2) (j := j) (kk := .i64) S.ty.slTag S.szG e2 rfl (by omega) (by omega)) ?_
      rw [Int.toNat_natCast]
      refine p_val (v_field (b := b2) (o := o2 + j * 2) S.ty.g1 rfl) ?_
      refine l_lok (ld _ _ w8 _ 1 _ S.rd.oneBytes rfl hc1 .refl) ?_
      refine p_fl S.ty.g1 S.rd.oneBytes rfl rfl hh8 rfl ?_
      have lds : ∀ (ρ' : Nat → Value) (w' : World), Keeps [] w8 w' → ρ' 45 = ptr b2 (o2 + j * 2 + 1) → ρ' 46 = vg → ρ' 42 = ptr w1.heap.size 4 → ρ' 43 = ug → ρ' 39 = ptr b 0 → ρ' 40 = .int .u32 (un[j]'hj').1 → ρ' 37 = ptr b2 (o2 + j * 2 + 0) → ρ' 38 = .int .u32 (got.u[j]'hj2).1 → ρ' 34 = ptr w1.heap.size 4 → ρ' 35 = ug →
          ∀ p ∈ [((Op.load c.tBytes (.tmp 45)), 46), ((Op.load c.sTagL (.tmp 42)), 43), ((Op.load c.tU32 (.tmp 39)), 40), ((Op.load c.tU32 (.tmp 37)), 38), ((Op.load c.sTagL (.tmp 34)), 35)], runOp P ρ' p.1 w' = .ok (.value (ρ' p.2)) w' := by
        intro ρ' w' kk q45 q46 q42 q43 q39 q40 q37 q38 q34 q35 p hp
        simp only [List.mem_cons, List.not_mem_nil, or_false] at hp
        rcases hp with rfl | rfl | rfl | rfl | rfl
        · show _ = Result.ok (Next.value (ρ' 46)) w'
          rw [q46]; exact ld _ _ w' _ 1 _ S.rd.oneBytes q45 hc1 kk
        · show _ = Result.ok (Next.value (ρ' 43)) w'
          rw [q43]; exact l_load1 (b := w1.heap.size) (o := 4) S.ty.oneTagL q42 (hy8.keep kk (by simp)) rfl
        · show _ = Result.ok (Next.value (ρ' 40)) w'
          rw [q40]; exact l_load1 (b := b) (o := 0) S.ty.oneU32 q39 (hh8.keep kk (by simp)) rfl
        · show _ = Result.ok (Next.value (ρ' 38)) w'
          rw [q38]; exact ld _ _ w' _ 0 _ S.ty.oneU32 q37 hc0 kk
        · show _ = Result.ok (Next.value (ρ' 35)) w'
          rw [q35]; exact l_load1 (b := w1.heap.size) (o := 4) S.ty.oneTagL q34 (hy8.keep kk (by simp)) rfl
      refine s_call (Q.whole w8 vv un[j].2 (hvv.keep k48)) fun x w9 ⟨hw9, hx⟩ => ⟨?_, ?_⟩
      · rw [hw9]
        exact lds _ w8 .refl rfl rfl rfl rfl rfl rfl rfl rfl rfl rfl
      rw [hw9]
      have hul : (pWhole (un[j]'hj').2).length < 2 ^ 62 := by unfold pWhole; rw [List.length_take]; omega
      refine s_call (L.same w8 vg x (got.u[j]'hj2).2 (pWhole (un[j]'hj').2) (.inr hul) hvg (hx w8 (hvv.keep k48))) fun y w10 ⟨hy, k10⟩ => ⟨fun p hp => lds _ w10 k10 rfl rfl rfl rfl rfl rfl rfl rfl rfl rfl p (List.mem_cons_of_mem _ hp), ?_⟩
      subst hy
      refine p_val (v_not (b := decide ((got.u[j]'hj2).2 = pWhole (un[j]'hj').2)) rfl) ?_
      refine s_cond (b := !decide ((got.u[j]'hj2).2 = pWhole (un[j]'hj').2)) rfl (fun hb4 => s_ret1 (bad w10 (fun h => by simp at hb4; exact hb4 h.2) k10)) fun hb4 => ?_
      refine s_val (v_arith (kk := .i64) (a := j) (b := 1) (r := ((j + 1 : Nat) : Int)) rfl rfl ?_) ?_
      · simp only [arithOf, Option.some.injEq]; rw [IntKind.wrap_i64]; omega
      refine ⟨J2, rfl, hJ2 [_] _ rfl ⟨rfl, k48.trans k10, fun i hi1 hi2 hij => ?_⟩⟩
      by_cases hij2 : i = j
      · subst hij2; exact ⟨hkey, by simpa using hb4⟩
      · exact hsofar i hi1 hi2 (by omega)
    · rintro w6 vr J2 ⟨rfl, k46, hsofar⟩ hvr
      refine s_ret1 ⟨?_, k04.trans k46⟩
      rw [← hG, hall2.2 fun j h1 h2 => hsofar j h1 h2 (by simpa using h1)]
      rfl

end

end Go.Kf
