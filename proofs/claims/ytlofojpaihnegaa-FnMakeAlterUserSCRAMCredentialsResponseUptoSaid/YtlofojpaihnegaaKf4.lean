/- The library for this proof, part 4: trees of function bodies, and what the package's functions do. -/
import Derived.Test.YtlofojpaihnegaaKf3


namespace Go.Kf

open Go

/-- Tags whose octets lie below L, in a map from h0 on. -/
def TagsY (L h0 : Nat) (w : World) (m : TM) (v : Value) : Prop :=
  (v = .map none ∧ m = []) ∨ ∃ b es clock, h0 ≤ b ∧ v = .map (some b) ∧ MapIs w b es clock ∧ EntsA (fun x => x < L) w es m ∧ es.Pairwise (fun a b => a.born < b.born) ∧ (∀ e ∈ es, e.born < clock) ∧
    (∀ p ∈ m, p.1 < 2 ^ 32) ∧ (m.map (·.1)).Nodup ∧ m ≠ []

theorem TagsY.one {L h0 : Nat} {w : World} {m : TM} {v : Value} (h : TagsY L h0 w m v) : v.oneCell' = true := by
  rcases h with ⟨rfl, _⟩ | ⟨b, _, _, _, rfl, _⟩ <;> rfl

theorem TagsY.a {L h0 : Nat} {A : Nat → Prop} {w : World} {m : TM} {v : Value} (h : TagsY L h0 w m v) (h1 : ∀ b, b < L → A b) (h2 : ∀ b, h0 ≤ b → A b) : TagsA A w m v := by
  rcases h with h | ⟨b, es, clock, hb, hv, hm, he, hr⟩
  · exact .inl h
  · exact .inr ⟨b, ⟨es⟩, clock, h2 b hb, hv, hm, EntsA.imp (fun e p ⟨a1, a2, a3⟩ => ⟨a1, a2, fun hn x hx => h1 x (a3 hn x hx)⟩) he, hr⟩

theorem EntsA.keys {A : Nat → Prop} {w : World} : ∀ {es : List MapEntry} {m : TM}, EntsA A w es m → Keys32 es
  | [], [], _ => fun e h => by cases h
  | e :: es, p :: m, ⟨h1, h2⟩ => fun x hx => by
    rcases List.mem_cons.1 hx with h | h
    · rw [h]; exact ⟨_, h1.1⟩
    · exact EntsA.keys h2 x h
  | [], _ :: _, h => h.elim
  | _ :: _, [], h => h.elim

theorem EntA.is {A : Nat → Prop} {w : World} {e : MapEntry} {p : Nat × List UInt8} (h : EntA A w e p) (k : Nat) : keyIs k e = decide (p.1 = k) := by
  simp only [keyIs, h.1]
  by_cases hk : p.1 = k
  · simp [hk]
  · have : ((k : Int) == (p.1 : Int)) = false := by simp; omega
    simp [hk, this]

theorem EntsA.set {A : Nat → Prop} {k clock : Nat} {w : World} {l : List UInt8} {v : Value} (hv : Ro w v 1 l.length (bcells l)) (ha : l.length ≠ 0 → ∀ b ∈ blkOf v, A b) : ∀ {es : List MapEntry} {m : TM}, EntsA A w es m → EntsA A w (esSet es k v clock) (tmSet m k l)
  | [], [], _ => ⟨⟨rfl, hv, ha⟩, trivial⟩
  | e :: es, p :: m, ⟨h1, h2⟩ => by
    simp only [esSet, tmSet, h1.is k, decide_eq_true_eq]
    split
    · exact ⟨⟨rfl, hv, ha⟩, h2⟩
    · exact ⟨h1, EntsA.set hv ha h2⟩
  | [], _ :: _, h => h.elim
  | _ :: _, [], h => h.elim

/-- Below L nothing is written. -/
theorem EntsA.keepL {L : Nat} {w w' : World} {M : List Nat} {es : List MapEntry} {m : TM} (h : EntsA (fun x => x < L) w es m) (hk : Keeps M w w') (hM : ∀ b ∈ M, L ≤ b) : EntsA (fun x => x < L) w' es m :=
  EntsA.imp (fun _ _ he => EntA.keep he hk (fun b hb h => by have := hM b hb; omega) (fun _ h _ => h)) h

def TagSetY (P : Program) (f : Nat) : Prop := ∀ (L h0 V o k : Nat) (w : World) (cs : List Value) (m : TM) (mv v : Value) (l : List UInt8), Has w V cs → cs[o]? = some mv → TagsY L h0 w m mv → L ≤ V → V < h0 → h0 ≤ w.heap.size → k < 2 ^ 32 → Ro w v 1 l.length (bcells l) → (l.length ≠ 0 → ∀ b ∈ blkOf v, b < L) →
  Gives P f [ptr V o, .int .u32 k, v] w fun _ w' => ∃ mv', Has w' V (cs.set o mv') ∧ TagsY L h0 w' (tmSet m k l) mv' ∧ ∃ M, Keeps M w w' ∧ ∀ b ∈ M, b = V ∨ h0 ≤ b

section

variable {P : Program} {c : Nums}

theorem tagSetY_gives {f : Nat} (F : RdFacts P c) (T : TagFacts P c) (hT : treeIn P f noOrc [.tmp 0, .tmp 1, .tmp 2] 3 = tTagSet c) : TagSetY P f := by
  intro L h0 V o k w cs m mv v l hh hcm hz hLV hVh hsz hk hro hblk
  refine gives_in (ρ := en [ptr V o, .int .u32 k, v]) F.mix hT (Nat.le_refl _) rfl (by simp [opBelow]) ?_
  have hol : o < cs.length := (List.getElem?_eq_some_iff.1 hcm).1
  -- the rest, once a map lies there
  have rest : ∀ (w1 : World) (ρ : Nat → Value) (Γ : List (List Value → World → Prop)) (b : Nat) (es : List MapEntry) (clock : Nat) (M : List Nat), ρ 0 = ptr V o → ρ 1 = .int .u32 k → ρ 2 = v → Has w1 V (cs.set o (.map (some b))) → h0 ≤ b → MapIs w1 b es clock → EntsA (fun x => x < L) w1 es m → es.Pairwise (fun a b => a.born < b.born) → (∀ e ∈ es, e.born < clock) →
      (∀ p ∈ m, p.1 < 2 ^ 32) → (m.map (·.1)).Nodup → Keeps M w w1 → (∀ b ∈ M, b = V ∨ h0 ≤ b) →
      (gGet (.tmp 0) c.tTags 0 c.tMap 7 <| .op (.mapUpdate c.tMap (.tmp 9) (.tmp 1) (.tmp 2)) none [] <| .ret []).sem P (fun _ w' => ∃ mv', Has w' V (cs.set o mv') ∧ TagsY L h0 w' (tmSet m k l) mv' ∧ ∃ M, Keeps M w w' ∧ ∀ b ∈ M, b = V ∨ h0 ≤ b) Γ 7 ρ w1 := by
    intro w1 ρ Γ b es clock M r0 r1 r2 hh1 hb hm he hp hborn h32 hnd k1 hM
    refine s_get T.f0 T.oneMap (show ev ρ (.tmp 0) = ptr V o from r0) hh1 (by rw [Nat.add_zero, List.getElem?_set_self hol]) ?_
    obtain ⟨w2, e2, hm2, k2⟩ := a_mapUpdate (P := P) (ρ := ext ρ 7 [ptr V o, ptr V (o + 0), .map (some b)]) (w := w1) (t := c.tMap) (m := .tmp 9) (k := .tmp 1) (x := .tmp 2) (n := (k : Int)) (v := v) T.map F.u32 rfl (by show ext ρ 7 _ 1 = _; rw [ext_lt (by omega)]; exact r1) (by show ext ρ 7 _ 2 = _; rw [ext_lt (by omega)]; exact r2) hm he.keys
    have hM1 : ∀ b ∈ M, L ≤ b := fun b hb' => by rcases hM b hb' with h | h <;> omega
    have hM2 : ∀ x ∈ [b], L ≤ x := fun x hx => by simp only [List.mem_singleton] at hx; omega
    have hro1 : Ro w1 v 1 l.length (bcells l) := hro.keepM k1 fun hn x hx hxM => by have := hblk hn x hx; have := hM1 x hxM; omega
    have hro2 : Ro w2 v 1 l.length (bcells l) := hro1.keepM k2 fun hn x hx hxM => by have := hblk hn x hx; have := hM2 x hxM; omega
    refine s_unit e2 (fun p hp => (by cases hp)) (s_ret0 ⟨.map (some b), hh1.keep k2 (by simp only [List.mem_singleton]; omega), .inr ⟨b, _, _, hb, rfl, hm2, (he.keepL k2 hM2).set hro2 hblk, (esSet_ok hp hborn).1, (esSet_ok hp hborn).2, tmSet_lt h32 hk, tmSet_nodup hnd, tmSet_ne _ _ _⟩, M ++ [b], (k1.mono fun x hx => List.mem_append_left _ hx).trans (k2.mono fun x hx => List.mem_append_right _ hx), fun x hx => ?_⟩)
    rcases List.mem_append.1 hx with h | h
    · exact hM x h
    · simp only [List.mem_singleton] at h
      subst h
      exact .inr hb
  refine s_get T.f0 T.oneMap (show ev _ (.tmp 0) = ptr V o from rfl) hh (by rw [Nat.add_zero]; exact hcm) ?_
  rcases hz with ⟨rfl, rfl⟩ | ⟨b, es, clock, hb, rfl, hm, he, hp, hborn, h32, hnd, hne⟩
  · refine s_val (v_eqlMap (op := .eql) (a := none) (r := true) T.map rfl rfl (.inl ⟨rfl, rfl⟩)) ?_
    refine ⟨rfl, fun _ w' => ∃ b, Has w' V (cs.set o (.map (some b))) ∧ h0 ≤ b ∧ MapIs w' b [] 0 ∧ Keeps [V] w w', ?_, ?_⟩
    · refine s_cond (b := true) rfl (fun _ => ?_) (fun h => by cases h)
      obtain ⟨w1, e1, hm1, k1, z1⟩ := a_makeMap (P := P) (ρ := ext (ext (en [ptr V o, .int .u32 k, v]) 3 [ptr V o, ptr V (o + 0), .map none]) 6 [.bool true]) (w := w) (t := c.tMap)
      refine s_act e1 (fun p hp => (by cases hp)) ?_
      refine s_set (n := 8) (v := .map (some w.heap.size)) T.f0 T.oneMap rfl rfl (by simp [opBelow]) rfl (hh.keep k1 (by simp)) (by rw [Nat.add_zero]; exact hol) fun w2 h2 k2 => ?_
      refine ⟨_, rfl, w.heap.size, h2, hsz, hm1.keep k2 (by simp only [List.mem_singleton]; omega), (k1.mono (by simp)).trans k2⟩
    · rintro vs w1 hvs ⟨b, h1, hb, hm1, k1⟩
      obtain rfl : vs = [] := List.eq_nil_of_length_eq_zero hvs
      exact rest w1 _ _ b [] 0 [V] rfl rfl rfl h1 hb hm1 trivial List.Pairwise.nil (fun e he => by cases he) (fun p hp => by cases hp) List.nodup_nil k1 (fun x hx => .inl (by simpa using hx))
  · refine s_val (v_eqlMap (op := .eql) (a := some b) (r := false) T.map rfl rfl (.inl ⟨rfl, rfl⟩)) ?_
    refine ⟨rfl, fun _ w' => w' = w, ?_, ?_⟩
    · exact s_cond (b := false) rfl (fun h => by cases h) (fun _ => ⟨_, rfl, rfl⟩)
    · rintro vs w1 hvs rfl
      obtain rfl : vs = [] := List.eq_nil_of_length_eq_zero hvs
      refine rest w1 _ _ b es clock [] rfl rfl rfl ?_ hb hm he hp hborn h32 hnd .refl (fun x hx => by cases hx)
      rw [show cs.set o (.map (some b)) = cs from by
        rw [← (List.getElem?_eq_some_iff.1 hcm).2]; exact List.set_getElem_self hol]
      exact hh

/-- Rising numbers: what is set is what was given. -/
theorem tmSet_take {u : TM} (h : (u.map (·.1)).Nodup) {j : Nat} (hj : j < u.length) : tmSet (u.take j) u[j].1 u[j].2 = u.take (j + 1) := by
  rw [List.take_succ_eq_append_getElem hj]
  refine tmSet_new fun p hp e => ?_
  obtain ⟨i, hi, rfl⟩ := List.getElem_of_mem hp
  rw [List.length_take] at hi
  rw [List.getElem_take] at e
  have hi2 : i < u.length := by omega
  have h1 : (u.map (·.1))[i]? = (u.map (·.1))[j]? := by
    rw [List.getElem?_map, List.getElem?_map, List.getElem?_eq_getElem hi2, List.getElem?_eq_getElem hj, Option.map_some, Option.map_some, e]
  have := (List.getElem?_inj (by rw [List.length_map]; exact hi2) h).1 h1
  omega

variable {ρ : Nat → Value} {w : World}

theorem loadRo {v : Value} {l : List UInt8} {a : Addr} {n cp m : Nat} (hr : Ro w v 1 l.length (bcells l)) (hv : v = .slice (some a) n cp) (hm : m ≤ l.length) : (loadCells a m).run P w = .ok ⟨(bcells l).take m⟩ w := by
  by_cases h0 : m = 0
  · subst h0
    simp [loadCells, loadCellsFrom]
  · obtain ⟨b2, o2, cap, e2, _, hcell⟩ := hr.at (by omega)
    rw [e2] at hv
    injection hv with h1 _ _
    injection h1 with h1
    subst h1
    have h5 := loadCellsFrom_cells (P := P) (w := w) (b := b2) (o := o2) (xs := bcells l) (fun i hi => hcell i (by rw [bcells_length] at hi; omega)) m 0 #[] (by rw [bcells_length]; omega)
    unfold loadCells
    rw [h5]
    simp

theorem l_bytesStringRo {s d e : Nat} {x : Operand} {v : Value} {l : List UInt8} (hs : P.underlying s = some (.slice e)) (he : P.underlying e = some (.int .u8)) (hd : P.underlying d = some .string) (hx : ev ρ x = v) (hr : Ro w v 1 l.length (bcells l)) :
    runOp P ρ (.convert s d x) w = .ok (.value (.string (strOf l))) w := by
  unfold runOp bareOp
  simp only [execOp, hx, Sem.run_bind]
  have key : (convert s d v).run P w = .ok (.string (strOf l)) w := by
    obtain ⟨a, cap, e1⟩ := hr.form
    subst e1
    rw [run_convert_bytes_string w s d e a l.length cap hs he hd]
    cases a with
    | none =>
      have : l = [] := by
        rcases hr.2 with ⟨h0, _⟩ | ⟨b, o, cp, h1, _⟩
        · exact List.eq_nil_of_length_eq_zero h0
        · cases h1
      subst this
      rfl
    | some a =>
      have h1 := loadRo (P := P) (m := l.length) hr rfl (Nat.le_refl _)
      have e1 : (bcells l).take l.length = (l.map fun b : UInt8 => (b.toNat : Int)).map (Value.int .u8) := by
        rw [List.take_of_length_le (by rw [bcells_length]; exact Nat.le_refl _)]
        simp [bcells]
      rw [e1] at h1
      rw [run_bytesToString w a l.length cap _ h1, foldl_push]
      congr 2
      show (⟨#[] ++ ⟨l⟩⟩ : ByteArray) = strOf l
      simp [strOf]
  rw [key]
  rfl

def TextOf (P : Program) (f : Nat) : Prop := ∀ (w : World) (t : PT) (cs : List Value), TreeC w t cs → Gives P f [.agg ⟨cs⟩] w fun u w' => NStrA (fun b => w.heap.size ≤ b) w' (if t.null then none else some t.s) u ∧ Keeps [] w w'

def OctetsOf (P : Program) (f : Nat) : Prop := ∀ (w : World) (t : PT) (cs : List Value), TreeC w t cs → Gives P f [.agg ⟨cs⟩] w fun u w' => OctA (fun b => w.heap.size ≤ b) w' t.null (if t.null then [] else t.s) u ∧ Keeps [] w w'

def Sixteen (P : Program) (f : Nat) : Prop := ∀ (w : World) (v : Value) (l : List UInt8), Ro w v 1 l.length (bcells l) → Gives P f [v] w fun u w' => u = .agg ⟨bcells (pId l)⟩ ∧ Keeps [] w w'

theorem textOf_gives {f : Nat} (F : RdFacts P c) (Z : TyFacts P c c.tTree c.tTrees c.tTagL c.tTag) (X : StrFacts P c) (hs : P.underlying c.tStr = some .string) (hT : treeIn P f noOrc [.tmp 0] 1 = tTextOf c) : TextOf P f := by
  intro w t cs htc
  obtain ⟨sv, lv0, uv, lcs, ucs, etc, e1, e2, e3, e4, e5⟩ := htc.cells
  subst etc
  refine gives_in (ρ := en [_]) F.mix hT (Nat.le_refl _) rfl (by simp [opBelow]) ?_
  refine s_box rfl fun w1 hx1 k1 z1 => ?_
  refine s_fl Z.f2 F.oneBool rfl rfl hx1 rfl ?_
  refine s_cond (b := t.null) rfl (fun hb => s_ret1 ⟨by rw [hb]; rfl, k1⟩) fun hb => ?_
  refine s_fl Z.f1 F.oneBytes rfl rfl hx1 rfl ?_
  refine s_lok (l_bytesStringRo F.bytes F.u8 hs rfl (e1.keep k1)) ?_
  obtain ⟨z, hz, hzc⟩ := X.zero
  have hzl : z.cells.toList.length = 1 := by simpa using hzc
  refine s_alloc hz fun w2 h2 k2 z2 => ?_
  obtain ⟨w3, e6, h6, k6⟩ := a_store1 (P := P) (ρ := ext (ext (ext (ext (ext (ext (ext (en [_]) 1 [ptr w.heap.size]) 2 [ptr w.heap.size 2]) 3 [.bool t.null]) 4 [ptr w.heap.size 1]) 5 [sv]) 6 [.string (strOf t.s)]) 7 [ptr w1.heap.size]) (w := w2) (t := c.tStr) (x := .tmp 7) (y := .tmp 6) X.one rfl rfl rfl h2 (by rw [hzl]; exact Nat.one_pos)
  refine s_unit e6 (fun p hp => (by cases hp)) ?_
  have h6' : Has w3 w1.heap.size [.string (strOf t.s)] := by
    match hz1 : z.cells.toList, hzl with
    | [x0], _ => rw [hz1] at h6; exact h6
  have s1 := k1.size
  have s2 := k2.size
  refine s_ret1 ⟨?_, ((k1.trans k2).mono (by simp)).trans k6 |>.less fun x hx => .inr (by simp only [List.mem_singleton] at hx; omega)⟩
  rw [hb]
  exact ⟨w1.heap.size, s1, rfl, h6'⟩

end

end Go.Kf


namespace Go.Kf

open Go

def Dset.flat : Dset → Bool
  | .set .. => true
  | .sub .. => false

def Dset.sets (p : Nat) (f : PF) : Dset → Bool
  | .set i _ _ v => Nat.beq i p && decide ((tellPrim (.one v)).n = pNumber f.kind f.dflt)
  | .sub .. => false

end Go.Kf


namespace Go.Kf

open Go

/-- A field that is a cell. -/
def cellOf (P : Program) (t : TypeId) (i : Nat) : Option Nat := match P.underlying t with
  | some (.struct fs) => match fs[i]? with
    | some f => bif oneTy P f.type then some f.offset else none
    | none => none
  | _ => none

section

variable {P : Program} {ρ : Nat → Value}

theorem v_part {t : TypeId} {i off : Nat} {x : Operand} {cs : List Value} {v : Value} (ht : cellOf P t i = some off) (h : ev ρ x = .agg ⟨cs⟩) (hv : cs[off]? = some v) : Val P ρ (.field t x i) v := fun w => by
  unfold cellOf at ht
  split at ht
  · rename_i fs hu
    cases hf : fs[i]? with
    | none => simp only [hf] at ht; cases ht
    | some f =>
      simp only [hf] at ht
      cases h1 : oneTy P f.type with
      | false => simp only [h1] at ht; cases ht
      | true =>
        simp only [h1, cond, Option.some.injEq] at ht
        have hv' : (⟨cs⟩ : Array Value)[off]? = some v := by simpa using hv
        unfold runOp bareOp
        simp only [execOp, h, Instr.field, Sem.run_bind, run_under hu, Result.andThen_ok, hf, asAgg, Sem.run_pure, part, (oneTy_spec (w := w) h1).1, Bool.false_eq_true, if_false, ht, hv']
  · cases ht

end

section

variable {P : Program} {c : Nums} {s : SN} {w : World}

end

end Go.Kf


namespace Go.Kf

open Go

def gFSet (ck : Bool) (S i ty : Nat) (V x : Operand) (n : Nat) (k : Nat → Tr) : Tr := match ck with
  | true => .op (.nilCheck V) none [] <| .op (.fieldAddr S (.tmp n) i) none [] <| .op (.store ty (.tmp (n + 1)) x) none [] (k (n + 3))
  | false => .op (.fieldAddr S V i) none [] <| .op (.store ty (.tmp n) x) none [] (k (n + 2))

def gAt (c : Nums) (s : SN) (T : Operand) (q n : Nat) (k : Tr) : Tr := .op (.load c.sTree T) none [] <| .op (callOp s.at_ [.tmp n, .const (.int .i64 (q : Int))]) none [] k

/-- A value out of the tree at .tmp a; K gets the value's place. -/
def gVal (c : Nums) (ty f a : Nat) (K : Nat → Tr) : FK → Tr
  | .num .i64 => .op (.field c.sTree (.tmp a) 0) none [] (K (a + 1))
  | .num _ => .op (.field c.sTree (.tmp a) 0) none [] <| .op (.convert c.tI64 ty (.tmp (a + 1))) none [] (K (a + 2))
  | .bool => .op (.field c.sTree (.tmp a) 0) none [] <| .op (.binOp .and c.tI64 (.tmp (a + 1)) (.const (.int .i64 1)) c.tI64) none [] <| .op (.binOp .eql c.tI64 (.tmp (a + 2)) (.const (.int .i64 1)) c.tI64) none [] (K (a + 3))
  | .text => .op (.field c.sTree (.tmp a) 1) none [] <| .op (.convert c.tBytes c.tStr (.tmp (a + 1))) none [] (K (a + 2))
  | .ntext => .op (callOp f [.tmp a]) none [] (K (a + 1))
  | .octs => .op (callOp f [.tmp a]) none [] (K (a + 1))
  | .uuid => .op (.field c.sTree (.tmp a) 1) none [] <| .op (callOp f [.tmp (a + 1)]) none [] (K (a + 2))

/-- The body of the loop that fills a list; m: the list's first place behind the address of the part. -/
def gListBody (c : Nums) (S i tySl f : Nat) (V x : Operand) (j n d : Nat) : Bool → Tr
  | true => .pur (.nilCheck V) none <| .pur (.fieldAddr S (.tmp n) i) none <| .lok (.load tySl (.tmp (n + 1))) none <| .lok (.load c.sTree x) none <|
    .op (callOp f [.tmp (n + 3)]) none [(.load tySl (.tmp (n + 1)), n + 2)] <| .op (.buildSlice tySl 1 ⟨[(0, .tmp (n + 4))]⟩) none [(.load tySl (.tmp (n + 1)), n + 2)] <|
    .op (.call { callee := .builtin .append, args := ⟨[.tmp (n + 2), .tmp (n + 5)]⟩, argTypes := ⟨[tySl, tySl]⟩ }) none [] <|
    .pur (.nilCheck V) none <| .pur (.fieldAddr S (.tmp (n + 7)) i) none <| .op (.store tySl (.tmp (n + 8)) (.tmp (n + 6))) none [] <|
    .op (.binOp .add c.tInt (.tmp j) (.const (.int .i64 1)) c.tInt) none [] <| .to d [.tmp (n + 10)]
  | false => .pur (.fieldAddr S V i) none <| .lok (.load tySl (.tmp n)) none <| .lok (.load c.sTree x) none <|
    .op (callOp f [.tmp (n + 2)]) none [(.load tySl (.tmp n), n + 1)] <| .op (.buildSlice tySl 1 ⟨[(0, .tmp (n + 3))]⟩) none [(.load tySl (.tmp n), n + 1)] <|
    .op (.call { callee := .builtin .append, args := ⟨[.tmp (n + 1), .tmp (n + 4)]⟩, argTypes := ⟨[tySl, tySl]⟩ }) none [] <|
    .pur (.fieldAddr S V i) none <| .op (.store tySl (.tmp (n + 6)) (.tmp (n + 5))) none [] <|
    .op (.binOp .add c.tInt (.tmp j) (.const (.int .i64 1)) c.tInt) none [] <| .to d [.tmp (n + 8)]

def gFStep (c : Nums) (s : SN) (ck : Bool) (S : Nat) (V T : Operand) : FStep → Nat → Nat → (Nat → Tr) → Tr
  | .prim fk i q _ ty f, n, _, k => gAt c s T q n <| gVal c ty f (n + 1) (fun x => gFSet ck S i ty V (.tmp x) (x + 1) k) fk
  | .sub i q _ ty f _ _, n, _, k => gAt c s T q n <| .op (callOp f [.tmp (n + 1)]) none [] <| gFSet ck S i ty V (.tmp (n + 2)) (n + 3) k
  | .listS i q _ tySl _ f _ _, n, d, k => gAt c s T q n <| .op (.field c.sTree (.tmp (n + 1)) 2) none [] <| .op (.unOp .not c.tBool (.tmp (n + 2))) none [] <|
    .join d (
      .cond (.tmp (n + 3)) (
        gAt c s T q (n + 4) <| .op (.field c.sTree (.tmp (n + 5)) 3) none [] <| .op (.call { callee := .builtin .len, args := ⟨[.tmp (n + 6)]⟩, argTypes := ⟨[c.sTrees]⟩ }) none [] <|
        .op (.makeSlice tySl (.const (.int .i64 0)) (.tmp (n + 7))) none [] <| gFSet ck S i tySl V (.tmp (n + 8)) (n + 9) fun m =>
        gAt c s T q m <| .op (.field c.sTree (.tmp (m + 1)) 3) none [] <| .op (.call { callee := .builtin .len, args := ⟨[.tmp (m + 2)]⟩, argTypes := ⟨[c.sTrees]⟩ }) none [] <|
        .loop (d + 1) [.const (.int .i64 0)] <| .op (.binOp .lss c.tInt (.tmp (m + 4)) (.tmp (m + 3)) c.tInt) none [] <|
        .cond (.tmp (m + 5)) (
          .op (.indexAddr c.sTrees (.tmp (m + 2)) (.tmp (m + 4))) none [] <| .op (.load c.sTree (.tmp (m + 6))) none [] <| .op (.alloc c.sTree) none [] <| .op (.store c.sTree (.tmp (m + 8)) (.tmp (m + 7))) none [] <|
          .draw <| gListBody c S i tySl f V (.tmp (m + 8)) (m + 4) (m + 10) (d + 1) ck
        ) (.to d [])
      ) (.to d [])
    ) 0 (k (n + 4))
  | .listP .., _, _, _ => .stuck
  | .tags i _ f, n, d, k => .op (.fieldAddr c.sTree T 4) none [] <| .op (.load c.sTagL (.tmp n)) none [] <| .op (.call { callee := .builtin .len, args := ⟨[.tmp (n + 1)]⟩, argTypes := ⟨[c.sTagL]⟩ }) none [] <|
    .loop d [.const (.int .i64 0)] <| .op (.binOp .lss c.tInt (.tmp (n + 3)) (.tmp (n + 2)) c.tInt) none [] <|
    .cond (.tmp (n + 4)) (
      .op (.indexAddr c.sTagL (.tmp (n + 1)) (.tmp (n + 3))) none [] <| .op (.load c.sTag (.tmp (n + 5))) none [] <| .op (.alloc c.sTag) none [] <| .op (.store c.sTag (.tmp (n + 7)) (.tmp (n + 6))) none [] <|
      match ck with
      | true => .draw <| .pur (.nilCheck V) none <| .pur (.fieldAddr S (.tmp (n + 9)) i) none <| .pur (.fieldAddr c.sTag (.tmp (n + 7)) 0) none <| .lok (.load c.tU32 (.tmp (n + 11))) none <| .pur (.fieldAddr c.sTag (.tmp (n + 7)) 1) none <| .lok (.load c.tBytes (.tmp (n + 13))) none <|
        .op (callOp f [.tmp (n + 10), .tmp (n + 12), .tmp (n + 14)]) none [] <| .op (.binOp .add c.tInt (.tmp (n + 3)) (.const (.int .i64 1)) c.tInt) none [] <| .to d [.tmp (n + 16)]
      | false => .op (.fieldAddr S V i) none [] <| .op (.fieldAddr c.sTag (.tmp (n + 7)) 0) none [] <| .op (.load c.tU32 (.tmp (n + 10))) none [] <| .op (.fieldAddr c.sTag (.tmp (n + 7)) 1) none [] <| .op (.load c.tBytes (.tmp (n + 12))) none [] <|
        .op (callOp f [.tmp (n + 9), .tmp (n + 11), .tmp (n + 13)]) none [] <| .op (.binOp .add c.tInt (.tmp (n + 3)) (.const (.int .i64 1)) c.tInt) none [] <| .to d [.tmp (n + 15)]
    ) (k (n + 5))

/-- How many loops stay open behind a step. -/
def FStep.dl : FStep → Nat
  | .tags .. => 1
  | _ => 0

def gFSteps (c : Nums) (s : SN) (ck : Bool) (S : Nat) (V T : Operand) : List FStep → Nat → Nat → (Nat → Tr) → Tr
  | [], n, _, k => k n
  | x :: r, n, d, k => gFStep c s ck S V T x n d fun n' => gFSteps c s ck S V T r n' (d + x.dl) k

def gFill (c : Nums) (s : SN) (S : Nat) (ss : List FStep) : Tr := .op (.box c.sTree (.tmp 1)) none [] <| gFSteps c s true S (.tmp 0) (.tmp 2) ss 3 0 fun _ => .ret []

def gMake (c : Nums) (s : SN) (S : Nat) (ss : List FStep) : Tr := .op (.box c.sTree (.tmp 0)) none [] <| .op (.alloc S) none [] <| .op (.alloc S) none [] <|
  gFSteps c s false S (.tmp 3) (.tmp 1) ss 4 0 fun n => .op (.load S (.tmp 3)) none [] <| .op (.store S (.tmp 2) (.tmp n)) none [] <| .ret [(.tmp 2, some S)]

end Go.Kf

namespace Go.Kf

open Go

/-- Alike below n. -/
def Agree (n : Nat) (ρ ρ' : Nat → Value) : Prop := ∀ y, opBelow n y → ev ρ' y = ev ρ y

theorem Agree.refl {n : Nat} {ρ : Nat → Value} : Agree n ρ ρ := fun _ _ => rfl

theorem Agree.ex {n : Nat} {ρ : Nat → Value} {vs : List Value} : Agree n ρ (ext ρ n vs) := fun _ h => ev_ext h

theorem Agree.trans {n m : Nat} {ρ ρ1 ρ2 : Nat → Value} (h1 : Agree n ρ ρ1) (h2 : Agree m ρ1 ρ2) (hle : n ≤ m) : Agree n ρ ρ2 := fun y h => (h2 y (h.mono hle)).trans (h1 y h)

theorem Agree.ex' {n m : Nat} {ρ ρ1 : Nat → Value} {vs : List Value} (h1 : Agree n ρ ρ1) (hle : n ≤ m) : Agree n ρ (ext ρ1 m vs) := h1.trans Agree.ex hle

theorem Agree.tmp {n m : Nat} {ρ ρ1 : Nat → Value} (h1 : Agree n ρ ρ1) (hm : m < n) : ρ1 m = ρ m := h1 (.tmp m) hm

mutual
def PT.tidy : PT → Prop
  | .mk n _ _ l u => IntKind.i64.wrap n = n ∧ (u.map (·.1)).Nodup ∧ (∀ p ∈ u, p.1 < 2 ^ 32) ∧ PT.tidys l
def PT.tidys : List PT → Prop
  | [] => True
  | t :: r => t.tidy ∧ PT.tidys r
end

theorem PT.tidys_mem : ∀ {l : List PT}, PT.tidys l → ∀ t ∈ l, t.tidy
  | [], _, t, h => by cases h
  | x :: l, ⟨h1, h2⟩, t, h => by
    rcases List.mem_cons.1 h with rfl | h
    · exact h1
    · exact PT.tidys_mem h2 t h

theorem PT.tidys_of : ∀ {l : List PT}, (∀ t ∈ l, t.tidy) → PT.tidys l
  | [], _ => trivial
  | x :: _, h => ⟨h x (by simp), PT.tidys_of fun t ht => h t (by simp [ht])⟩

theorem PT.tidy.n {t : PT} (h : t.tidy) : IntKind.i64.wrap t.n = t.n := by cases t; exact h.1

theorem PT.tidy.nodup {t : PT} (h : t.tidy) : (t.u.map (·.1)).Nodup := by cases t; exact h.2.1

theorem PT.tidy.keys {t : PT} (h : t.tidy) : ∀ p ∈ t.u, p.1 < 2 ^ 32 := by cases t; exact h.2.2.1

theorem PT.tidy.l {t : PT} (h : t.tidy) : ∀ x ∈ t.l, x.tidy := by cases t; exact PT.tidys_mem h.2.2.2

theorem PT.tidy_zero : PT.zero.tidy := ⟨rfl, List.nodup_nil, (fun p hp => by cases hp), trivial⟩

theorem PT.tidy.at {t : PT} (h : t.tidy) (i : Nat) : (pAt t i).tidy := by
  unfold pAt
  rw [List.getD_eq_getElem?_getD]
  cases hi : t.l[i]? with
  | none => exact PT.tidy_zero
  | some x => exact h.l x (List.mem_of_getElem? hi)

/-- The struct's cells, and what they say; nothing but the struct and what is new has been written. -/
structure FlC (w0 wS : World) (V : Nat) (w : World) (fs : List FV) (cs : List Value) : Prop where
  has : Has w V cs
  fs : FsA (FitA w0 wS) w fs cs
  k : Keeps [V] wS w

/-- Where a function that fills stands: the struct, the tree. -/
structure FCtx (w0 wS : World) (V tb : Nat) (t : PT) (tcs : List Value) : Prop where
  tc : TreeC w0 t tcs
  tidy : t.tidy
  lo : w0.heap.size ≤ V
  hi : V < wS.heap.size
  htb : Has wS tb tcs
  ne : tb ≠ V
  k0 : Keeps [] w0 wS

section

variable {w0 wS w w' : World} {V tb : Nat} {t : PT} {tcs cs : List Value} {fs : List FV}

theorem FCtx.notA (C : FCtx w0 wS V tb t tcs) : ¬ FitA w0 wS V := fun h => by
  have h1 := C.lo
  have h2 := C.hi
  rcases h with h | h <;> omega

theorem FCtx.base (C : FCtx w0 wS V tb t tcs) (h : Keeps [V] wS w) : Keeps [] w0 w := ((C.k0.mono (by simp)).trans h).less fun x hx => .inr (by simp only [List.mem_singleton] at hx; have := C.lo; omega)

theorem FCtx.tree (C : FCtx w0 wS V tb t tcs) (h : Keeps [V] wS w) : Has w tb tcs := C.htb.keep h (by simp only [List.mem_singleton]; exact C.ne)

theorem FlC.keep (h : FlC w0 wS V w fs cs) (C : FCtx w0 wS V tb t tcs) (kk : Keeps [] w w') : FlC w0 wS V w' fs cs :=
  ⟨h.has.keep kk (by simp), FsA.keep kk (fun b hb => by cases hb) (fun _ h _ => h) _ _ h.fs, h.k.trans (kk.mono (by simp))⟩

/-- A field is set. -/
theorem FlC.put {P : Program} {S i off : Nat} {ts : List Ty} {ty : Ty} {f' : FV} {m' : List Value} (h : FlC w0 wS V w fs cs) (C : FCtx w0 wS V tb t tcs) (hw : fs.map FV.wd = ts.map Ty.wd) (hF : FieldTy P S ts i off ty) (hl : f'.wd = ty.wd) (hml : m'.length = ty.wd) :
    off + m'.length ≤ cs.length ∧ (fs.set i f').map FV.wd = ts.map Ty.wd ∧ ∀ w', Keeps [V] w w' → FAtA (FitA w0 wS) w' f' m' → Has w' V (splice cs off m') → FlC w0 wS V w' (fs.set i f') (splice cs off m') := by
  have hti : (ts.map Ty.wd)[i]? = some ty.wd := by rw [List.getElem?_map, hF.2.2]; rfl
  have hfi : (fs.map FV.wd)[i]? = some ty.wd := by rw [hw]; exact hti
  rw [List.getElem?_map] at hfi
  obtain ⟨f, hf, hfw⟩ := Option.map_eq_some_iff.1 hfi
  have key : ∀ w', Keeps [V] w w' → ∃ a m z, cs = a ++ m ++ z ∧ a.length = off ∧ m.length = ty.wd ∧ ∀ (f' : FV) (m' : List Value), FAtA (FitA w0 wS) w' f' m' → FsA (FitA w0 wS) w' (fs.set i f') (a ++ m' ++ z) := fun w' kk => by
    have hfs' : FsA (FitA w0 wS) w' fs cs := FsA.keep kk (fun b hb => by simp only [List.mem_singleton] at hb; rw [hb]; exact C.notA) (fun _ h _ => h) _ _ h.fs
    obtain ⟨a, m, z, e, ha, hm, hset⟩ := hfs'.split hf
    refine ⟨a, m, z, e, ?_, ?_, hset⟩
    · rw [ha, wds_eq, List.map_take, hw]; exact hF.2.1
    · rw [FAtA.len f m hm]; exact hfw
  obtain ⟨a, m, z, e, ha, hm, _⟩ := key w (Keeps.refl)
  refine ⟨by rw [e, List.length_append, List.length_append, ha, hm, hml]; omega, map_wd_set hw hti hl, fun w' kk hfa hh => ⟨hh, ?_, h.k.trans kk⟩⟩
  obtain ⟨a, m, z, e, ha, hm, hset⟩ := key w' kk
  have : splice cs off m' = a ++ m' ++ z := by
    rw [e, ← ha]
    exact splice_mid (by rw [hm, hml])
  rw [this]
  exact hset f' m' hfa

end

section

variable {P : Program} {c : Nums} {s : SN} {R : Value → World → Prop} {Γ : List (List Value → World → Prop)} {n : Nat} {ρ : Nat → Value} {w w0 : World}

/-- A field is stored. -/
theorem s_fset {ck : Bool} {S i ty off V : Nat} {Vo x : Operand} {cs m' : List Value} {k : Nat → Tr} (hfo : fieldOff P S i = some off) (hsz : (P.info? ty).map (·.size) = some m'.length) (hV : ev ρ Vo = ptr V) (hbV : opBelow n Vo) (hx : (ev ρ x).cells = ⟨m'⟩) (hbx : opBelow n x) (h1 : ∀ u ∈ m', u.oneCell' = true) (hh : Has w V cs) (hl : off + m'.length ≤ cs.length)
    (hk : ∀ n' ρ' w', n ≤ n' → Agree n ρ ρ' → Has w' V (splice cs off m') → Keeps [V] w w' → (k n').sem P R Γ n' ρ' w') : (gFSet ck S i ty Vo x n k).sem P R Γ n ρ w := by
  cases ck with
  | true =>
    refine s_val (v_nilCheck hV) (s_val (v_field (b := V) (o := 0) hfo ext_at) ?_)
    obtain ⟨w', e1, h2, k2⟩ := a_storeCells (P := P) (ρ := ext (ext ρ n [ptr V]) (n + 1) [.pointer (some ⟨V, 0 + off, none⟩)]) (w := w) (t := ty) (x := .tmp (n + 1)) (y := x) (b := V) (o := 0 + off) (vs := m') hsz ext_at (by rw [ev_ext' hbx (by omega), ev_ext hbx]; exact hx) hh (by omega) h1
    rw [Nat.zero_add] at h2
    exact s_unit e1 (fun p hp => (by cases hp)) (hk (n + 3) _ w' (by omega) (((Agree.ex).ex' (by omega)).ex' (by omega)) h2 k2)
  | false =>
    refine s_val (v_field (b := V) (o := 0) hfo hV) ?_
    obtain ⟨w', e1, h2, k2⟩ := a_storeCells (P := P) (ρ := ext ρ n [.pointer (some ⟨V, 0 + off, none⟩)]) (w := w) (t := ty) (x := .tmp n) (y := x) (b := V) (o := 0 + off) (vs := m') hsz ext_at (by rw [ev_ext hbx]; exact hx) hh (by omega) h1
    rw [Nat.zero_add] at h2
    exact s_unit e1 (fun p hp => (by cases hp)) (hk (n + 2) _ w' (by omega) ((Agree.ex).ex' (by omega)) h2 k2)

/-- The tree of a field. -/
theorem s_at {T : Operand} {q tb : Nat} {k : Tr} {t : PT} {tcs : List Value} (S : SpFacts P c s) (hAt : treeIn P s.at_ noOrc [.tmp 0, .tmp 1] 2 = tAt c) (htc : TreeC w0 t tcs) (htb : Has w tb tcs) (k0 : Keeps [] w0 w) (hT : ev ρ T = ptr tb)
    (hk : ∀ ρ' w' acs, Agree n ρ ρ' → ρ' (n + 1) = .agg ⟨acs⟩ → TreeC w0 (pAt t q) acs → Keeps [] w w' → k.sem P R Γ (n + 2) ρ' w') : (gAt c s T q n k).sem P R Γ n ρ w := by
  have htl := htc.len
  refine s_lok (l_loadN (b := tb) (o := 0) S.ty.agg hT htb (by omega)) ?_
  rw [take0 htl]
  refine s_callx (at0_gives S hAt k0 htc q) (by
    simp only [List.map_cons, List.map_nil]
    rw [show ev (ext ρ n [.agg ⟨tcs⟩]) (.tmp n) = .agg ⟨tcs⟩ from ext_at]
    rfl) fun u w' ⟨kk, acs, hu, hac⟩ => ?_
  subst hu
  exact hk _ w' acs ((Agree.ex).ex' (by omega)) ext_at hac kk

/-- What a value's making asks. -/
def FkOk (P : Program) (ty f : Nat) : FK → Prop
  | .num k => P.underlying ty = some (.int k)
  | .ntext => TextOf P f
  | .octs => OctetsOf P f
  | .uuid => Sixteen P f
  | _ => True

/-- The cells of a struct value. -/
structure FillFacts (P : Program) (c : Nums) : Prop where
  c0 : cellOf P c.sTree 0 = some 0
  c1 : cellOf P c.sTree 1 = some 1
  c2 : cellOf P c.sTree 2 = some 2
  c3 : cellOf P c.sTree 3 = some 3

theorem pId_length16 (l : List UInt8) : (pId l).length = 16 := by simp [pId]

theorem s_gval {fk : FK} {ty f a : Nat} {K : Nat → Tr} {wS : World} {y : PT} {acs : List Value} (S : SpFacts P c s) (X : FillFacts P c) (hf : FkOk P ty f fk) (ha : ρ a = .agg ⟨acs⟩) (hac : TreeC w0 y acs) (htd : y.tidy) (k0 : Keeps [] w0 w) (hS : wS.heap.size ≤ w.heap.size)
    (hk : ∀ x ρ' w' m', a < x → Agree (a + 1) ρ ρ' → (ev ρ' (.tmp x)).cells = ⟨m'⟩ → (∀ u ∈ m', u.oneCell' = true) → FAtA (FitA w0 wS) w' (fillV fk y) m' → Keeps [] w w' → (K x).sem P R Γ (x + 1) ρ' w') : (gVal c ty f a K fk).sem P R Γ (a + 1) ρ w := by
  obtain ⟨sv, lv, uv, lcs, ucs, e, h1, h2, h3, h4, h5⟩ := hac.cells
  have hn : acs[0]? = some (.int .i64 y.n) := by rw [e]; rfl
  have hs : acs[1]? = some sv := by rw [e]; rfl
  have one : ∀ {v : Value}, v.oneCell' = true → ∀ u ∈ [v], u.oneCell' = true := fun h u hu => by simp only [List.mem_singleton] at hu; rw [hu]; exact h
  have hnum : ∀ k : IntKind, P.underlying ty = some (.int k) → (∀ x ρ' w' m', a < x → Agree (a + 1) ρ ρ' → (ev ρ' (.tmp x)).cells = ⟨m'⟩ → (∀ u ∈ m', u.oneCell' = true) → FAtA (FitA w0 wS) w' (fillV (.num k) y) m' → Keeps [] w w' → (K x).sem P R Γ (x + 1) ρ' w') →
      (Tr.op (.field c.sTree (.tmp a) 0) none [] <| Tr.op (.convert c.tI64 ty (.tmp (a + 1))) none [] (K (a + 2))).sem P R Γ (a + 1) ρ w := fun k hty hk => by
    refine s_val (v_part X.c0 ha hn) ?_
    refine s_val (v_conv (k1 := .i64) (a := y.n) S.ty.i64 hty ext_at) ?_
    refine hk (a + 2) _ w [.int k (k.wrap y.n)] (by omega) ((Agree.ex).ex' (by omega)) (congrArg Value.cells (show ext _ _ _ (a + 2) = _ from ext_at)) (one rfl) ⟨rfl, rfl⟩ .refl
  cases fk with
  | num k =>
    cases k with
    | i64 =>
      refine s_val (v_part X.c0 ha hn) ?_
      refine hk (a + 1) _ w [.int .i64 y.n] (by omega) Agree.ex (congrArg Value.cells (show ext _ _ _ (a + 1) = _ from ext_at)) (one rfl) ⟨by rw [htd.n], rfl⟩ .refl
    | i8 => exact hnum .i8 hf hk
    | i16 => exact hnum .i16 hf hk
    | i32 => exact hnum .i32 hf hk
    | u8 => exact hnum .u8 hf hk
    | u16 => exact hnum .u16 hf hk
    | u32 => exact hnum .u32 hf hk
    | u64 => exact hnum .u64 hf hk
  | bool =>
    refine s_val (v_part X.c0 ha hn) ?_
    refine s_val (v_bits (op := .and) (kk := .i64) (a := y.n) (b := 1) (.inl rfl) ext_at rfl (and1_i64 y.n)) ?_
    refine s_val (v_cmp (kk := .i64) (a := y.n % 2) (b := 1) (r := y.n % 2 == 1) ext_at rfl rfl) ?_
    refine hk (a + 3) _ w [.bool (y.n % 2 == 1)] (by omega) (((Agree.ex).ex' (by omega)).ex' (by omega)) (congrArg Value.cells (show ext _ _ _ (a + 3) = _ from ext_at)) (one rfl) ⟨rfl, rfl⟩ .refl
  | text =>
    refine s_val (v_part X.c1 ha hs) ?_
    refine s_lok (l_bytesStringRo S.rd.bytes S.rd.u8 S.rd.str ext_at (h1.keep k0)) ?_
    refine hk (a + 2) _ w [.string (strOf y.s)] (by omega) ((Agree.ex).ex' (by omega)) (congrArg Value.cells (show ext _ _ _ (a + 2) = _ from ext_at)) (one rfl) rfl .refl
  | ntext =>
    refine s_callx (hf w y acs (TreeC.keep k0 _ _ hac)) (by simp only [List.map_cons, List.map_nil]; rw [show ev ρ (.tmp a) = .agg ⟨acs⟩ from ha]) fun u w' ⟨hu, kk⟩ => ?_
    have huo : u.oneCell' = true := by
      revert hu
      cases (if y.null then none else some y.s) with
      | none => intro hu; simp only [NStrA] at hu; rw [hu]; rfl
      | some l => rintro ⟨b, _, hb, _⟩; rw [hb]; rfl
    refine hk (a + 1) _ w' [u] (by omega) Agree.ex ?_ (one huo) ⟨u, rfl, ?_⟩ kk
    · rw [show ev (ext ρ (a + 1) [u]) (.tmp (a + 1)) = u from ext_at]
      cases u <;> first | rfl | (simp [Value.oneCell'] at huo; done)
    · revert hu
      cases (if y.null then none else some y.s) with
      | none => exact id
      | some l => rintro ⟨b, hb, e1, e2⟩; exact ⟨b, .inr (by omega), e1, e2⟩
  | octs =>
    refine s_callx (hf w y acs (TreeC.keep k0 _ _ hac)) (by simp only [List.map_cons, List.map_nil]; rw [show ev ρ (.tmp a) = .agg ⟨acs⟩ from ha]) fun u w' ⟨hu, kk⟩ => ?_
    have huo : u.oneCell' = true := hu.1.one
    refine hk (a + 1) _ w' [u] (by omega) Agree.ex ?_ (one huo) ?_ kk
    · rw [show ev (ext ρ (a + 1) [u]) (.tmp (a + 1)) = u from ext_at]
      cases u <;> first | rfl | (simp [Value.oneCell'] at huo; done)
    · have hA : ∀ b ∈ blkOf u, FitA w0 wS b := fun b hb => .inr (by have := hu.2.2 b hb; omega)
      show FAtA _ _ (if y.null = true then FV.octs true [] else FV.octs false y.s) [u]
      cases hnl : y.null with
      | true => rw [hnl] at hu; exact ⟨u, rfl, hu.1, hu.2.1, hA⟩
      | false => rw [hnl] at hu; exact ⟨u, rfl, hu.1, hu.2.1, hA⟩
  | uuid =>
    refine s_val (v_part X.c1 ha hs) ?_
    refine s_callx (hf w sv y.s (h1.keep k0)) (by simp only [List.map_cons, List.map_nil]; rw [show ev (ext ρ (a + 1) [sv]) (.tmp (a + 1)) = sv from ext_at]) fun u w' ⟨hu, kk⟩ => ?_
    subst hu
    refine hk (a + 2) _ w' (bcells (pId y.s)) (by omega) ((Agree.ex).ex' (by omega)) (congrArg Value.cells (show ext _ _ _ (a + 2) = _ from ext_at)) (bcells_one _) ⟨rfl, pId_length16 _⟩ kk

end

end Go.Kf

namespace Go.Kf

open Go

section

variable {A : Nat → Prop} {w : World}

theorem NStrA.one {o : Option (List UInt8)} {v : Value} (h : NStrA A w o v) : v.oneCell' = true := by
  cases o with
  | none => simp only [NStrA] at h; rw [h]; rfl
  | some l => obtain ⟨b, _, e, _⟩ := h; rw [e]; rfl

theorem TagsA.one {m : TM} {v : Value} (h : TagsA A w m v) : v.oneCell' = true := by
  rcases h with ⟨rfl, _⟩ | ⟨_, _, _, _, rfl, _⟩ <;> rfl

theorem ones_one {v : Value} (h : v.oneCell' = true) : ∀ u ∈ [v], u.oneCell' = true := fun u hu => by simp only [List.mem_singleton] at hu; rw [hu]; exact h

mutual
theorem FAtA.ones : ∀ (f : FV) (cs : List Value), FAtA A w f cs → ∀ u ∈ cs, u.oneCell' = true
  | .one _, _, ⟨e, h⟩ => by subst e; exact ones_one h
  | .uuid l, _, ⟨e, _⟩ => by subst e; exact bcells_one l
  | .text _, _, e => by simp only [FAtA] at e; subst e; exact ones_one rfl
  | .ntext _, _, ⟨v, e, h⟩ => by subst e; exact ones_one h.one
  | .octs _ _, _, ⟨v, e, h⟩ => by subst e; exact ones_one h.1.one
  | .tags _, _, ⟨v, e, h⟩ => by subst e; exact ones_one h.one
  | .list _ _, _, .inl ⟨_, e, _⟩ => by subst e; exact ones_one rfl
  | .list _ _, _, .inr ⟨_, _, _, _, _, e, _⟩ => by subst e; exact ones_one rfl
  | .ptr none, _, e => by simp only [FAtA] at e; subst e; exact ones_one rfl
  | .ptr (some _), _, ⟨_, _, _, e, _⟩ => by subst e; exact ones_one rfl
  | .sub fs, cs, h => FsA.ones fs cs h
theorem FsA.ones : ∀ (fs : List FV) (cs : List Value), FsA A w fs cs → ∀ u ∈ cs, u.oneCell' = true
  | [], _, h => by simp only [FsA] at h; subst h; intro u hu; cases hu
  | f :: fs, _, ⟨c1, c2, e, h1, h2⟩ => by
    subst e; intro u hu
    rcases List.mem_append.1 hu with h | h
    · exact FAtA.ones f c1 h1 u h
    · exact FsA.ones fs c2 h2 u h
end

end

theorem tyWds_eq : ∀ ts : List Ty, tyWds ts = (ts.map Ty.wd).sum
  | [] => rfl
  | t :: ts => by simp [tyWds, tyWds_eq ts]

/-- A step of the filling, as it is to be. -/
def SemF (P : Program) (w0 wS : World) (V tb : Nat) (ts : List Ty) (Vo T : Operand) (g : Nat → Nat → (Nat → Tr) → Tr) (pre : List FV → Prop) (e : List FV → List FV) (dl : Nat) : Prop :=
  ∀ (R : Value → World → Prop) (Γ : List (List Value → World → Prop)) (n : Nat) (ρ : Nat → Value) (w : World) (fs : List FV) (cs : List Value) (k : Nat → Tr), fs.map FV.wd = ts.map Ty.wd → pre fs → FlC w0 wS V w fs cs → ev ρ Vo = ptr V → opBelow n Vo → ev ρ T = ptr tb → opBelow n T →
    (∀ (n' : Nat) (Δ : List (List Value → World → Prop)) (ρ' : Nat → Value) (w' : World) (cs' : List Value), n ≤ n' → Δ.length = dl → Agree n ρ ρ' → FlC w0 wS V w' (e fs) cs' → (e fs).map FV.wd = ts.map Ty.wd → (k n').sem P R (Γ ++ Δ) n' ρ' w') → (g n Γ.length k).sem P R Γ n ρ w

/-- A function that makes a part out of a tree. -/
def MakeOf (P : Program) (f : Nat) (us : List Ty) (g : PT → List FV) : Prop := ∀ (w0 w : World) (y : PT) (cs : List Value), TreeC w0 y cs → y.tidy → Keeps [] w0 w →
  Gives P f [.agg ⟨cs⟩] w fun u w' => (∃ ucs, u = .agg ⟨ucs⟩ ∧ FsA (FitA w0 w) w' (g y) ucs ∧ (g y).map FV.wd = us.map Ty.wd) ∧ Keeps [] w w'

def FStep.idx : FStep → Nat
  | .prim _ i _ _ _ _ => i
  | .listS i _ _ _ _ _ _ _ => i
  | .listP _ i _ _ _ _ => i
  | .sub i _ _ _ _ _ _ => i
  | .tags i _ _ => i

/-- What a step makes of the fields. -/
def setF (st : FStep) (t : PT) (fs : List FV) : List FV := fs.set st.idx (fillVal st t (fvGet fs st.idx))

def FStepOk (P : Program) (c : Nums) (S : Nat) (ts : List Ty) : FStep → Prop
  | .prim fk i _ off ty f => FieldTy P S ts i off fk.ty ∧ (P.info? ty).map (·.size) = some fk.ty.wd ∧ FkOk P ty f fk
  | .sub i _ off ty f zs ss => ∃ us, FieldTy P S ts i off (.sub us) ∧ (P.info? ty).map (·.size) = some (Ty.sub us).wd ∧ MakeOf P f us fun y => fillVals ss y zs
  | .listS i _ off tySl T f zs ss => ∃ us, FieldTy P S ts i off (.list us) ∧ oneTy P tySl = true ∧ P.underlying tySl = some (.slice T) ∧ RowFacts P T (us.map Ty.wd).sum ∧ MakeOf P f us fun y => fillVals ss y zs
  | .listP .. => False
  | .tags i off f => FieldTy P S ts i off .tags ∧ TagSetY P f

section

variable {P : Program} {c : Nums} {s : SN} {S : Nat} {ts : List Ty} {w0 wS : World} {V tb : Nat} {t : PT} {tcs : List Value} {ck : Bool} {Vo T : Operand}

theorem fillV_wd (fk : FK) (y : PT) : (fillV fk y).wd = fk.ty.wd := by
  cases fk with
  | octs =>
    show (if y.null = true then FV.octs true [] else FV.octs false y.s).wd = _
    split <;> rfl
  | _ => rfl

theorem semF_prim {fk : FK} {i q off ty f : Nat} (S0 : SpFacts P c s) (X : FillFacts P c) (hAt : treeIn P s.at_ noOrc [.tmp 0, .tmp 1] 2 = tAt c) (C : FCtx w0 wS V tb t tcs) (h : FStepOk P c S ts (.prim fk i q off ty f)) :
    SemF P w0 wS V tb ts Vo T (gFStep c s ck S Vo T (.prim fk i q off ty f)) (fun _ => True) (setF (.prim fk i q off ty f) t) 0 := by
  obtain ⟨hF, hsz, hfk⟩ := h
  intro R Γ n ρ w fs cs k hw _ hfl hV hbV hT hbT hk
  simp only [gFStep]
  refine s_at (t := t) S0 hAt C.tc (C.tree hfl.k) (C.base hfl.k) hT fun ρ1 w1 acs ag1 ha hac k1 => ?_
  have hfl1 := hfl.keep C k1
  refine s_gval (wS := wS) S0 X hfk ha hac (C.tidy.at q) (C.base hfl1.k) hfl1.k.size fun x ρ2 w2 m' hx ag2 hm1 hm2 hm3 k2 => ?_
  have hfl2 := hfl1.keep C k2
  have hml : m'.length = fk.ty.wd := by rw [FAtA.len _ _ hm3, fillV_wd]
  obtain ⟨hl, hwd, hput⟩ := hfl2.put (f' := fillV fk (pAt t q)) (m' := m') C hw hF (fillV_wd _ _) hml
  have ag : Agree n ρ ρ2 := ag1.trans ag2 (by omega)
  refine s_fset (V := V) (m' := m') (n := x + 1) (Vo := Vo) (x := .tmp x) hF.1 (by rw [hml]; exact hsz) ((ag Vo hbV).trans hV) (hbV.mono (by omega)) hm1 (by simp [opBelow]) hm2 hfl2.has hl fun n' ρ' w' hle ag' hh' kk' => ?_
  have hfl' := hput w' kk' (FAtA.keep kk' (fun b hb => by simp only [List.mem_singleton] at hb; rw [hb]; exact C.notA) (fun _ h _ => h) _ _ hm3) hh'
  have := hk n' [] ρ' w' _ (by omega) rfl (ag.trans ag' (by omega)) hfl' hwd
  simpa using this

theorem semF_sub {i q off ty f : Nat} {zs : List FV} {ss : List FStep} (S0 : SpFacts P c s) (hAt : treeIn P s.at_ noOrc [.tmp 0, .tmp 1] 2 = tAt c) (C : FCtx w0 wS V tb t tcs) (h : FStepOk P c S ts (.sub i q off ty f zs ss)) :
    SemF P w0 wS V tb ts Vo T (gFStep c s ck S Vo T (.sub i q off ty f zs ss)) (fun _ => True) (setF (.sub i q off ty f zs ss) t) 0 := by
  obtain ⟨us, hF, hsz, hM⟩ := h
  intro R Γ n ρ w fs cs k hw _ hfl hV hbV hT hbT hk
  simp only [gFStep]
  refine s_at (t := t) S0 hAt C.tc (C.tree hfl.k) (C.base hfl.k) hT fun ρ1 w1 acs ag1 ha hac k1 => ?_
  have hfl1 := hfl.keep C k1
  refine s_callx (hM w0 w1 (pAt t q) acs hac (C.tidy.at q) (C.base hfl1.k)) (by simp only [List.map_cons, List.map_nil]; rw [show ev ρ1 (.tmp (n + 1)) = .agg ⟨acs⟩ from ha]) fun u w2 ⟨⟨ucs, hu, hfs, hgw⟩, k2⟩ => ?_
  subst hu
  have hfl2 := hfl1.keep C k2
  have hs1 := hfl1.k.size
  have hA : FsA (FitA w0 wS) w2 (fillVals ss (pAt t q) zs) ucs := FsA.keep (M := []) .refl (fun b hb => by cases hb) (fun b h _ => h.imp id fun h => Nat.le_trans hs1 h) _ _ hfs
  have hwd1 : (FV.sub (fillVals ss (pAt t q) zs)).wd = (Ty.sub us).wd := by
    show wds (fillVals ss (pAt t q) zs) = tyWds us
    rw [wds_eq, hgw, tyWds_eq]
  have hml : ucs.length = (Ty.sub us).wd := by rw [← hwd1]; exact FsA.len _ _ hfs
  obtain ⟨hl, hwd, hput⟩ := hfl2.put (f' := .sub (fillVals ss (pAt t q) zs)) (m' := ucs) C hw hF hwd1 hml
  have ag : Agree n ρ (ext ρ1 (n + 2) [.agg ⟨ucs⟩]) := ag1.ex' (by omega)
  refine s_fset (V := V) (m' := ucs) (n := n + 3) (Vo := Vo) (x := .tmp (n + 2)) hF.1 (by rw [hml]; exact hsz) ((ag Vo hbV).trans hV) (hbV.mono (by omega)) (by rw [show ev (ext ρ1 (n + 2) [.agg ⟨ucs⟩]) (.tmp (n + 2)) = .agg ⟨ucs⟩ from ext_at]; rfl) (by simp [opBelow]) (FsA.ones _ _ hfs) hfl2.has hl fun n' ρ' w' hle ag' hh' kk' => ?_
  have hfl' := hput w' kk' (FsA.keep kk' (fun b hb => by simp only [List.mem_singleton] at hb; rw [hb]; exact C.notA) (fun _ h _ => h) _ _ hA) hh'
  have := hk n' [] ρ' w' _ (by omega) rfl (ag.trans ag' (by omega)) hfl' hwd
  simpa using this

end

end Go.Kf

namespace Go.Kf

open Go

section

variable {P : Program} {c : Nums} {s : SN} {S : Nat} {ts : List Ty} {w0 wS : World} {V tb : Nat} {t : PT} {tcs : List Value} {ck : Bool} {Vo T : Operand}

theorem semF_tags {i off f : Nat} (S0 : SpFacts P c s) (C : FCtx w0 wS V tb t tcs) (h : FStepOk P c S ts (.tags i off f)) :
    SemF P w0 wS V tb ts Vo T (gFStep c s ck S Vo T (.tags i off f)) (fun fs => fs[i]? = some (.tags [])) (setF (.tags i off f) t) 1 := by
  obtain ⟨hF, hSet⟩ := h
  intro R Γ n ρ w fs cs k hw hpre hfl hV hbV hT hbT hk
  obtain ⟨sv, lv, uv, lcs, ucs, etc, h1, h2, h3, h4, h5⟩ := C.tc.cells
  obtain ⟨a, cp, eu⟩ := h4.form
  obtain ⟨hl, hwd, hput⟩ := hfl.put (f' := .tags t.u) (m' := [.map none]) C hw hF rfl rfl
  have hoff : off < cs.length := hl
  have hsw := hfl.k.size
  have hlo := C.lo
  have hhi := C.hi
  -- what lies there
  have h0 : cs[off]? = some (.map none) := by
    obtain ⟨a', m, z, e, ha, hm, _⟩ := hfl.fs.split hpre
    obtain ⟨v, rfl, hv⟩ := hm
    have ha2 : a'.length = off := by rw [ha, wds_eq, List.map_take, hw]; exact hF.2.1
    rcases hv with ⟨rfl, _⟩ | ⟨_, _, _, _, _, _, _, _, _, _, _, hne⟩
    · rw [e, ← ha2, List.append_assoc, List.getElem?_append_right (Nat.le_refl _), Nat.sub_self]; rfl
    · exact absurd rfl hne
  have hset0 : cs.set off (.map none) = cs := by
    rw [← (List.getElem?_eq_some_iff.1 h0).2]; exact List.set_getElem_self hoff
  simp only [gFStep]
  refine s_fl S0.ty.f4 S0.ty.oneTagL hT rfl (C.tree hfl.k) (show tcs[0 + 4]? = some uv by rw [etc]; rfl) ?_
  refine s_val (v_len (a := a) (l := t.u.length) (c := cp) S0.ty.slTag (ext_at.trans eu)) ?_
  refine s_count (n := n + 3) (q := n + 2) (kk := .i64) (m := t.u.length) (ri := []) (Γ := Γ) (fun j w' => ∃ mv, Has w' V (cs.set off mv) ∧ TagsY w0.heap.size w.heap.size w' (t.u.take j) mv ∧ Keeps [V] w w') (by omega) ext_at
    ⟨.map none, by rw [hset0]; exact hfl.has, .inl ⟨rfl, by simp⟩, .refl⟩ ?_ ?_
  · rintro j hj w' vr ⟨mv, hh, hty, kk⟩ hvr J hJ
    obtain rfl : vr = [] := List.eq_nil_of_length_eq_zero hvr
    have hj' : j < t.u.length := by omega
    have kb : Keeps [] w0 w' := C.base (hfl.k.trans kk)
    refine s_eachT (w0 := w0) (tv := uv) (m := t.u) (j := j) S0 (h4.keep kb) h5 (by
      show ext _ (n + 3) _ (n + 1) = _
      rw [ext_lt (by omega), ext_lt (by omega)]; exact ext_at) (by
      show ext _ (n + 3) _ (n + 3) = _
      exact ext_at) hj' fun w6 a6 b vv hh6 hvv k6 hb6 => ?_
    have sk := kk.size
    -- the last part, however the operands were got
    have fin : ∀ (w7 w8 : World) (mv' : Value), Keeps [] w' w7 → (∃ M, Keeps M w7 w8 ∧ ∀ x ∈ M, x = V ∨ w.heap.size ≤ x) → Has w8 V ((cs.set off mv).set off mv') → TagsY w0.heap.size w.heap.size w8 (tmSet (t.u.take j) t.u[j].1 t.u[j].2) mv' → J [.int .i64 ((j + 1 : Nat) : Int)] w8 := by
      rintro w7 w8 mv' k7 ⟨M, k8, hM⟩ hh8 hty8
      rw [List.set_set] at hh8
      rw [tmSet_take C.tidy.nodup hj'] at hty8
      have kall : Keeps [V] w w8 := ((((kk.trans (k7.mono (by simp))).mono fun x hx => List.mem_append_left _ hx).trans (k8.mono fun x hx => List.mem_append_right _ hx)) : Keeps ([V] ++ M) w w8).less fun x hx => by
        rcases List.mem_append.1 hx with h | h
        · exact .inl h
        · rcases hM x h with h | h
          · exact .inl (by simp [h])
          · exact .inr h
      exact hJ [] _ rfl ⟨mv', hh8, hty8, kall⟩
    have call : ∀ (w7 : World), Keeps [] w' w7 → Gives P f [ptr V off, .int .u32 (t.u[j].1 : Nat), vv] w7 fun _ w8 => J [.int .i64 ((j + 1 : Nat) : Int)] w8 := fun w7 k7 => by
      have k07 : Keeps [] w0 w7 := kb.trans k7
      have s7 := k7.size
      have hty7 : TagsY w0.heap.size w.heap.size w7 (t.u.take j) mv := by
        rcases hty with h | ⟨b', es, clock, hb, hv, hm, he, hr⟩
        · exact .inl h
        · exact .inr ⟨b', es, clock, hb, hv, hm.keep k7 (by simp), he.keepL k7 (fun b hb => by cases hb), hr⟩
      refine (hSet w0.heap.size w.heap.size V off t.u[j].1 w7 (cs.set off mv) (t.u.take j) mv vv t.u[j].2 (hh.keep k7 (by simp)) (List.getElem?_set_self hoff) hty7 hlo (by omega) (by omega) (C.tidy.keys _ (List.getElem_mem hj')) (hvv.keep k07) fun hn x hx => hvv.blk hn x hx).mono fun _ w8 ⟨mv', e1, e2, e3⟩ => fin w7 w8 mv' k7 e3 e1 e2
    generalize hρ6 : ext (ext (ext (ext (ext (ext (ext (ext ρ n [ptr tb (0 + 4)]) (n + 1) [uv]) (n + 2) [.int .i64 (t.u.length : Nat)]) (n + 3) ([] ++ [.int .i64 j, .bool true])) (n + 3 + ([] : List Operand).length + 2) [a6]) (n + 3 + ([] : List Operand).length + 2 + 1) [.agg ⟨[.int .u32 (t.u[j].1 : Nat), vv]⟩]) (n + 3 + ([] : List Operand).length + 2 + 2) [ptr b]) (n + 3 + ([] : List Operand).length + 2 + 3) [undef] = ρ6
    have ag : Agree n ρ ρ6 := by
      rw [← hρ6]
      exact ((((((((Agree.ex).ex' (by omega)).ex' (by omega)).ex' (by omega)).ex' (by simp <;> omega)).ex' (by simp <;> omega)).ex' (by simp <;> omega)).ex' (by simp <;> omega))
    have r3 : ρ6 (n + 3) = .int .i64 j := by
      rw [← hρ6, ext_lt (by simp <;> omega), ext_lt (by simp <;> omega), ext_lt (by simp <;> omega), ext_lt (by simp <;> omega)]; exact ext_at
    have r7 : ρ6 (n + 7) = ptr b := by
      rw [← hρ6, ext_lt (by simp <;> omega)]; exact ext_at
    clear hρ6
    have hVo := (ag Vo hbV).trans hV
    have hb9 : opBelow (n + 9) Vo := hbV.mono (by omega)
    cases ck with
    | true =>
      show Tr.sem _ _ _ _ _ _ { w6 with drawn := w6.drawn + 1 }
      have hd : Keeps [] w6 { w6 with drawn := w6.drawn + 1 } := keeps_drawn w6 _ _
      generalize ({ w6 with drawn := w6.drawn + 1 } : World) = w7 at hd ⊢
      have hh7 := hh6.keep hd (by simp)
      refine p_val (n := n + 9) (v_nilCheck hVo) (p_val (v_field (b := V) (o := 0) hF.1 ext_at) ?_)
      refine p_fl (n := n + 11) (b := b) (o := 0) S0.ty.g0 S0.ty.oneU32 (by
        show ext _ _ _ (n + 7) = _
        rw [ext_lt (by omega), ext_lt (by omega)]; exact r7) rfl hh7 rfl ?_
      refine p_fl (n := n + 13) (b := b) (o := 0) S0.ty.g1 S0.rd.oneBytes (by
        show ext _ _ _ (n + 7) = _
        rw [ext_lt (by omega), ext_lt (by omega), ext_lt (by omega), ext_lt (by omega)]; exact r7) rfl hh7 rfl ?_
      refine s_callx (call w7 (k6.trans hd)) (by
        simp only [List.map_cons, List.map_nil]
        congr 1
        · show ext _ _ _ (n + 10) = _
          rw [ext_lt (by omega), ext_lt (by omega), ext_lt (by omega), ext_lt (by omega)]
          rw [Nat.zero_add]
          exact ext_at
        · congr 1
          · show ext _ _ _ (n + 12) = _
            rw [ext_lt (by omega), ext_lt (by omega)]; exact ext_at
          · congr 1
            exact ext_at) fun u w8 hJ8 => ?_
      refine s_val (v_arith (kk := .i64) (a := j) (b := 1) (r := ((j + 1 : Nat) : Int)) (by
        show ext _ _ _ (n + 3) = _
        rw [ext_lt (by omega), ext_lt (by omega), ext_lt (by omega), ext_lt (by omega), ext_lt (by omega), ext_lt (by omega), ext_lt (by omega)]; exact r3) rfl ?_) ?_
      · have := (C.tc.lens).2.2
        simp only [arithOf, Option.some.injEq]; rw [IntKind.wrap_i64]; omega
      exact ⟨J, by rw [List.getElem?_append_right (Nat.le_refl _), Nat.sub_self]; rfl, by
        simp only [List.map_cons, List.map_nil]
        rw [show ev (ext _ (n + 16) [Value.int .i64 ((j + 1 : Nat) : Int)]) (.tmp (n + 16)) = .int .i64 ((j + 1 : Nat) : Int) from ext_at]
        exact hJ8⟩
    | false =>
      refine s_val (n := n + 9) (v_field (b := V) (o := 0) hF.1 hVo) ?_
      refine s_fl (n := n + 10) (b := b) (o := 0) S0.ty.g0 S0.ty.oneU32 (by
        show ext _ _ _ (n + 7) = _
        rw [ext_lt (by omega)]; exact r7) rfl hh6 rfl ?_
      refine s_fl (n := n + 12) (b := b) (o := 0) S0.ty.g1 S0.rd.oneBytes (by
        show ext _ _ _ (n + 7) = _
        rw [ext_lt (by omega), ext_lt (by omega), ext_lt (by omega)]; exact r7) rfl hh6 rfl ?_
      refine s_callx (call w6 k6) (by
        simp only [List.map_cons, List.map_nil]
        congr 1
        · show ext _ _ _ (n + 9) = _
          rw [ext_lt (by omega), ext_lt (by omega), ext_lt (by omega), ext_lt (by omega)]
          rw [Nat.zero_add]
          exact ext_at
        · congr 1
          · show ext _ _ _ (n + 11) = _
            rw [ext_lt (by omega), ext_lt (by omega)]; exact ext_at
          · congr 1
            exact ext_at) fun u w8 hJ8 => ?_
      refine s_val (v_arith (kk := .i64) (a := j) (b := 1) (r := ((j + 1 : Nat) : Int)) (by
        show ext _ _ _ (n + 3) = _
        rw [ext_lt (by omega), ext_lt (by omega), ext_lt (by omega), ext_lt (by omega), ext_lt (by omega), ext_lt (by omega)]; exact r3) rfl ?_) ?_
      · have := (C.tc.lens).2.2
        simp only [arithOf, Option.some.injEq]; rw [IntKind.wrap_i64]; omega
      exact ⟨J, by rw [List.getElem?_append_right (Nat.le_refl _), Nat.sub_self]; rfl, by
        simp only [List.map_cons, List.map_nil]
        rw [show ev (ext _ (n + 15) [Value.int .i64 ((j + 1 : Nat) : Int)]) (.tmp (n + 15)) = .int .i64 ((j + 1 : Nat) : Int) from ext_at]
        exact hJ8⟩
  · rintro w' vr J ⟨mv, hh, hty, kk⟩ hvr
    obtain rfl : vr = [] := List.eq_nil_of_length_eq_zero hvr
    rw [Int.toNat_natCast, List.take_length] at hty
    obtain ⟨_, _, hput2⟩ := hfl.put (f' := .tags t.u) (m' := [mv]) C hw hF rfl rfl
    have hfl' := hput2 w' kk ⟨mv, rfl, hty.a (fun b hb => .inl hb) fun b hb => .inr (by omega)⟩ (by rw [splice_one _ _ _ hoff]; exact hh)
    refine hk (n + 5) [J] _ w' _ (by omega) rfl ((((Agree.ex).ex' (by omega)).ex' (by omega)).ex' (by omega)) hfl' hwd

end

end Go.Kf

namespace Go.Kf

open Go

section

variable {A : Nat → Prop} {w : World}

theorem FsA.snoc {f : FV} {c : List Value} (h : FAtA A w f c) : ∀ {fs : List FV} {cs : List Value}, FsA A w fs cs → FsA A w (fs ++ [f]) (cs ++ c)
  | [], _, h2 => by simp only [FsA] at h2; subst h2; exact ⟨c, [], by simp, h, rfl⟩
  | x :: fs, _, ⟨c1, c2, e, h1, h2⟩ => ⟨c1, c2 ++ c, by rw [e]; simp, h1, FsA.snoc h h2⟩

/-- Rows, one behind another, and what is left. -/
theorem RowsA.of : ∀ {rows : List (List FV)} {xs : List Value} (rest : List Value), FsA A w (rows.map .sub) xs → RowsA A w rows (xs ++ rest)
  | [], _, _, _ => trivial
  | r :: rows, _, rest, ⟨c1, c2, e, h1, h2⟩ => ⟨c1, c2 ++ rest, by rw [e]; simp, h1, RowsA.of rest h2⟩

end

section

variable {P : Program} {c : Nums} {s : SN} {R : Value → World → Prop} {Γ : List (List Value → World → Prop)} {n : Nat} {ρ : Nat → Value} {w w0 : World}

theorem sem_listBody {ck : Bool} {Sx i off tySl Tel f d sz xb Vb j jn : Nat} {V x : Operand} {us : List Ty} {g : PT → List FV} {cs' zc xs : List Value} {lv : Value} {z : PT} {J : List Value → World → Prop} (S0 : SpFacts P c s) (hM : MakeOf P f us g) (hR : RowFacts P Tel sz) (hsz : sz = (us.map Ty.wd).sum) (hsl : P.underlying tySl = some (.slice Tel)) (hone : oneTy P tySl = true) (hfo : fieldOff P Sx i = some off)
    (hV : ev ρ V = ptr Vb) (hbV : opBelow n V) (hx : ev ρ x = ptr xb) (hbx : opBelow n x) (hj : ρ j = .int .i64 jn) (hjn : j < n) (hh : Has w Vb cs') (hcell : cs'[off]? = some lv) (hxh : Has w xb zc) (hz : TreeC w0 z zc) (htd : z.tidy) (k0 : Keeps [] w0 w) (hown : Own w lv sz jn xs) (hne : Vb ∉ blkOf lv) (hlen : jn < 4294967296) (hG : Γ[d]? = some J)
    (hJ : ∀ (lv' : Value) (w1 w2 w' : World) (ucs : List Value), FsA (FitA w0 w) w1 (g z) ucs → Keeps [] w w1 → Own w2 lv' sz (jn + 1) (xs ++ ucs) → Keeps (blkOf lv) w1 w2 → (∀ b ∈ blkOf lv', b ∈ blkOf lv ∨ w1.heap.size ≤ b) → Keeps [Vb] w2 w' → Has w' Vb (cs'.set off lv') → J [.int .i64 ((jn + 1 : Nat) : Int)] w') :
    (gListBody c Sx i tySl f V x j n d ck).sem P R Γ n ρ w := by
  have hzl := hz.len
  have hoff : off < cs'.length := (List.getElem?_eq_some_iff.1 hcell).1
  cases ck with
  | true =>
    have ldL : ∀ (w' : World) (ρ' : Nat → Value), Has w' Vb cs' → ρ' (n + 1) = ptr Vb (0 + off) → runOp P ρ' (.load tySl (.tmp (n + 1))) w' = .ok (.value lv) w' := fun w' ρ' h e => l_load1 (b := Vb) (o := 0 + off) hone e h (by rw [Nat.zero_add]; exact hcell)
    refine p_val (v_nilCheck hV) (p_val (v_field (b := Vb) (o := 0) hfo ext_at) ?_)
    refine l_lok (ldL w _ hh ext_at) ?_
    refine l_lok (l_loadN (b := xb) (o := 0) S0.ty.agg (by rw [ev_ext' hbx (by omega), ev_ext' hbx (by omega), ev_ext hbx]; exact hx) hxh (by omega)) ?_
    rw [take0 hzl]
    refine s_callF (hM w0 w z zc hz htd k0) (by simp only [List.map_cons, List.map_nil]; rw [show ev (ext _ (n + 3) [Value.agg ⟨zc⟩]) (.tmp (n + 3)) = .agg ⟨zc⟩ from ext_at]) fun u w1 ⟨⟨ucs, hu, hfs, hgw⟩, k1⟩ => ⟨?_, ?_⟩
    · intro p hp
      simp only [List.mem_singleton] at hp
      subst hp
      exact (ldL w1 _ (hh.keep k1 (by simp)) (by rw [ext_lt (by omega), ext_lt (by omega)]; exact ext_at)).trans (congrArg (fun q => Result.ok (Next.value q) w1) (show lv = ext _ _ _ (n + 2) by rw [ext_lt (by omega)]; exact ext_at.symm))
    subst hu
    have hul : ucs.length = sz := by rw [FsA.len _ _ hfs, wds_eq, hgw, hsz]
    refine s_oneSlice (n := n + 5) (x := .tmp (n + 4)) (cs := ucs) hR hsl (by rw [show ev (ext _ (n + 4) [Value.agg ⟨ucs⟩]) (.tmp (n + 4)) = .agg ⟨ucs⟩ from ext_at]; rfl) hul fun w2 hsl2 k2 z2 => ⟨?_, ?_⟩
    · intro p hp
      simp only [List.mem_singleton] at hp
      subst hp
      exact (ldL w2 _ ((hh.keep k1 (by simp)).keep k2 (by simp)) (by rw [ext_lt (by omega), ext_lt (by omega), ext_lt (by omega)]; exact ext_at)).trans (congrArg (fun q => Result.ok (Next.value q) w2) (show lv = ext _ _ _ (n + 2) by rw [ext_lt (by omega), ext_lt (by omega)]; exact ext_at.symm))
    refine s_appendOne (n := n + 6) (v := lv) (u := .slice (some ⟨w1.heap.size, 0, none⟩) 1 1) hR hsl (by
      show ext _ _ _ (n + 2) = _
      rw [ext_lt (by omega), ext_lt (by omega), ext_lt (by omega)]; exact ext_at) ext_at ((hown.keep k1 (by simp)).keep k2 (by simp)) hsl2 (FsA.ones _ _ hfs) hlen fun lv' w3 hown3 k3 hb3 => ⟨fun p hp => (by cases hp), ?_⟩
    have hh3 : Has w3 Vb cs' := ((hh.keep k1 (by simp)).keep k2 (by simp)).keep k3 hne
    refine p_val (n := n + 7) (v_nilCheck (by rw [ev_ext' hbV (by omega), ev_ext' hbV (by omega), ev_ext' hbV (by omega), ev_ext' hbV (by omega), ev_ext' hbV (by omega), ev_ext' hbV (by omega), ev_ext hbV]; exact hV)) ?_
    refine p_fs (n := n + 8) (b := Vb) (o := 0) (v := lv') hfo hone ext_at rfl (by
      show ext _ _ _ (n + 6) = _
      rw [ext_lt (by omega)]; exact ext_at) (by simp [opBelow]) hown3.one hh3 (by rw [Nat.zero_add]; exact hoff) fun w4 hh4 k4 => ?_
    rw [Nat.zero_add] at hh4
    refine s_val (v_arith (kk := .i64) (a := jn) (b := 1) (r := ((jn + 1 : Nat) : Int)) (by
      show ext _ _ _ j = _
      rw [ext_lt (by omega), ext_lt (by omega), ext_lt (by omega), ext_lt (by omega), ext_lt (by omega), ext_lt (by omega), ext_lt (by omega), ext_lt (by omega), ext_lt (by omega), ext_lt (by omega)]; exact hj) rfl ?_) ?_
    · simp only [arithOf, Option.some.injEq]; rw [IntKind.wrap_i64]; omega
    refine ⟨J, hG, ?_⟩
    simp only [List.map_cons, List.map_nil]
    rw [show ev (ext _ (n + 10) [Value.int .i64 ((jn + 1 : Nat) : Int)]) (.tmp (n + 10)) = .int .i64 ((jn + 1 : Nat) : Int) from ext_at]
    have h12 : FsA (FitA w0 w) w2 (g z) ucs := FsA.keep k2 (fun b hb => by cases hb) (fun _ h _ => h) _ _ hfs
    exact hJ lv' w2 w3 w4 ucs h12 (k1.trans k2) hown3 k3 hb3 k4 hh4
  | false =>
    have ldL : ∀ (w' : World) (ρ' : Nat → Value), Has w' Vb cs' → ρ' n = ptr Vb (0 + off) → runOp P ρ' (.load tySl (.tmp n)) w' = .ok (.value lv) w' := fun w' ρ' h e => l_load1 (b := Vb) (o := 0 + off) hone e h (by rw [Nat.zero_add]; exact hcell)
    refine p_val (v_field (b := Vb) (o := 0) hfo hV) ?_
    refine l_lok (ldL w _ hh ext_at) ?_
    refine l_lok (l_loadN (b := xb) (o := 0) S0.ty.agg (by rw [ev_ext' hbx (by omega), ev_ext hbx]; exact hx) hxh (by omega)) ?_
    rw [take0 hzl]
    refine s_callF (hM w0 w z zc hz htd k0) (by simp only [List.map_cons, List.map_nil]; rw [show ev (ext _ (n + 2) [Value.agg ⟨zc⟩]) (.tmp (n + 2)) = .agg ⟨zc⟩ from ext_at]) fun u w1 ⟨⟨ucs, hu, hfs, hgw⟩, k1⟩ => ⟨?_, ?_⟩
    · intro p hp
      simp only [List.mem_singleton] at hp
      subst hp
      exact (ldL w1 _ (hh.keep k1 (by simp)) (by rw [ext_lt (by omega), ext_lt (by omega)]; exact ext_at)).trans (congrArg (fun q => Result.ok (Next.value q) w1) (show lv = ext _ _ _ (n + 1) by rw [ext_lt (by omega)]; exact ext_at.symm))
    subst hu
    have hul : ucs.length = sz := by rw [FsA.len _ _ hfs, wds_eq, hgw, hsz]
    refine s_oneSlice (n := n + 4) (x := .tmp (n + 3)) (cs := ucs) hR hsl (by rw [show ev (ext _ (n + 3) [Value.agg ⟨ucs⟩]) (.tmp (n + 3)) = .agg ⟨ucs⟩ from ext_at]; rfl) hul fun w2 hsl2 k2 z2 => ⟨?_, ?_⟩
    · intro p hp
      simp only [List.mem_singleton] at hp
      subst hp
      exact (ldL w2 _ ((hh.keep k1 (by simp)).keep k2 (by simp)) (by rw [ext_lt (by omega), ext_lt (by omega), ext_lt (by omega)]; exact ext_at)).trans (congrArg (fun q => Result.ok (Next.value q) w2) (show lv = ext _ _ _ (n + 1) by rw [ext_lt (by omega), ext_lt (by omega)]; exact ext_at.symm))
    refine s_appendOne (n := n + 5) (v := lv) (u := .slice (some ⟨w1.heap.size, 0, none⟩) 1 1) hR hsl (by
      show ext _ _ _ (n + 1) = _
      rw [ext_lt (by omega), ext_lt (by omega), ext_lt (by omega)]; exact ext_at) ext_at ((hown.keep k1 (by simp)).keep k2 (by simp)) hsl2 (FsA.ones _ _ hfs) hlen fun lv' w3 hown3 k3 hb3 => ⟨fun p hp => (by cases hp), ?_⟩
    have hh3 : Has w3 Vb cs' := ((hh.keep k1 (by simp)).keep k2 (by simp)).keep k3 hne
    refine p_fs (n := n + 6) (b := Vb) (o := 0) (v := lv') hfo hone (by rw [ev_ext' hbV (by omega), ev_ext' hbV (by omega), ev_ext' hbV (by omega), ev_ext' hbV (by omega), ev_ext' hbV (by omega), ev_ext hbV]; exact hV) rfl ext_at (by simp [opBelow]) hown3.one hh3 (by rw [Nat.zero_add]; exact hoff) fun w4 hh4 k4 => ?_
    rw [Nat.zero_add] at hh4
    refine s_val (v_arith (kk := .i64) (a := jn) (b := 1) (r := ((jn + 1 : Nat) : Int)) (by
      show ext _ _ _ j = _
      rw [ext_lt (by omega), ext_lt (by omega), ext_lt (by omega), ext_lt (by omega), ext_lt (by omega), ext_lt (by omega), ext_lt (by omega), ext_lt (by omega)]; exact hj) rfl ?_) ?_
    · simp only [arithOf, Option.some.injEq]; rw [IntKind.wrap_i64]; omega
    refine ⟨J, hG, ?_⟩
    simp only [List.map_cons, List.map_nil]
    rw [show ev (ext _ (n + 8) [Value.int .i64 ((jn + 1 : Nat) : Int)]) (.tmp (n + 8)) = .int .i64 ((jn + 1 : Nat) : Int) from ext_at]
    have h12 : FsA (FitA w0 w) w2 (g z) ucs := FsA.keep k2 (fun b hb => by cases hb) (fun _ h _ => h) _ _ hfs
    exact hJ lv' w2 w3 w4 ucs h12 (k1.trans k2) hown3 k3 hb3 k4 hh4

end

end Go.Kf

namespace Go.Kf

open Go

section

variable {P : Program} {c : Nums} {s : SN} {S : Nat} {ts : List Ty} {w0 wS : World} {V tb : Nat} {t : PT} {tcs : List Value} {ck : Bool} {Vo T : Operand}

theorem own_slice {w : World} {v : Value} {sz n : Nat} {xs : List Value} (h : Own w v sz (n + 1) xs) : ∃ b cap, v = .slice (some ⟨b, 0, none⟩) (n + 1) cap := by
  rcases h.2 with ⟨_, h⟩ | ⟨b, cap, _, e, _⟩
  · cases h
  · exact ⟨b, cap, e⟩

theorem semF_list {i q off tySl Tel f : Nat} {zs : List FV} {ss : List FStep} (S0 : SpFacts P c s) (X : FillFacts P c) (hAt : treeIn P s.at_ noOrc [.tmp 0, .tmp 1] 2 = tAt c) (C : FCtx w0 wS V tb t tcs) (h : FStepOk P c S ts (.listS i q off tySl Tel f zs ss)) :
    SemF P w0 wS V tb ts Vo T (gFStep c s ck S Vo T (.listS i q off tySl Tel f zs ss)) (fun _ => True) (setF (.listS i q off tySl Tel f zs ss) t) 0 := by
  obtain ⟨us, hF, hone, hsl, hR, hM⟩ := h
  intro R Γ n ρ w fs cs k hw _ hfl hV hbV hT hbT hk
  have hlo := C.lo
  have hhi := C.hi
  have hsz1 : (P.info? tySl).map (·.size) = some 1 := (oneTy_spec (w := w) hone).2
  obtain ⟨f0, hf0⟩ : ∃ f0, fs[i]? = some f0 := by
    have hti : (fs.map FV.wd)[i]? = some (Ty.list us).wd := by rw [hw, List.getElem?_map, hF.2.2]; rfl
    rw [List.getElem?_map] at hti
    obtain ⟨f, hf, _⟩ := Option.map_eq_some_iff.1 hti
    exact ⟨f, hf⟩
  simp only [gFStep]
  refine s_at (t := t) S0 hAt C.tc (C.tree hfl.k) (C.base hfl.k) hT fun ρ1 w1 acs ag1 ha hac k1 => ?_
  have hfl1 := hfl.keep C k1
  have htd := C.tidy.at q
  have hset : setF (.listS i q off tySl Tel f zs ss) t fs = fs.set i (if (pAt t q).null then f0 else .list false ((pAt t q).l.map fun y => fillVals ss y zs)) := by
    simp only [setF, FStep.idx, fillVal, fvGet_eq hf0]
  rw [hset] at hk
  generalize hy : pAt t q = y at hac htd hk hset
  obtain ⟨sv, lv1, uv, lcs1, ucs1, e1, _⟩ := hac.cells
  refine s_val (v_part X.c2 ha (show acs[2]? = some (.bool y.null) by rw [e1]; rfl)) ?_
  refine s_val (v_not (b := y.null) ext_at) ?_
  have ag3 : Agree n ρ (ext (ext ρ1 (n + 2) [.bool y.null]) (n + 3) [.bool (!y.null)]) := (ag1.ex' (by omega)).ex' (by omega)
  have r3 : ext (ext ρ1 (n + 2) [.bool y.null]) (n + 3) [.bool (!y.null)] (n + 3) = .bool (!y.null) := ext_at
  generalize ext (ext ρ1 (n + 2) [.bool y.null]) (n + 3) [.bool (!y.null)] = ρ3 at ag3 r3 ⊢
  refine ⟨rfl, fun vs w' => vs = [] ∧ ∃ cs', FlC w0 wS V w' (fs.set i (if y.null then f0 else .list false (y.l.map fun y => fillVals ss y zs))) cs' ∧ (fs.set i (if y.null then f0 else .list false (y.l.map fun y => fillVals ss y zs))).map FV.wd = ts.map Ty.wd, ?_, ?_⟩
  case refine_2 =>
    rintro vs w' hvs ⟨rfl, cs', h1, h2⟩
    have := hk (n + 4) [] (ext ρ3 (n + 4) []) w' cs' (by omega) rfl (ag3.ex' (by omega)) h1 h2
    rw [List.append_nil] at this
    exact this
  generalize hJ1 : (fun (vs : List Value) (w' : World) => vs = [] ∧ ∃ cs', FlC w0 wS V w' (fs.set i (if y.null then f0 else .list false (y.l.map fun y => fillVals ss y zs))) cs' ∧ (fs.set i (if y.null then f0 else .list false (y.l.map fun y => fillVals ss y zs))).map FV.wd = ts.map Ty.wd) = J1
  refine s_cond (b := !y.null) r3 (fun hb => ?_) fun hb => ?_
  case refine_2 =>
    refine ⟨J1, by rw [List.getElem?_append_right (Nat.le_refl _), Nat.sub_self]; rfl, ?_⟩
    rw [← hJ1]
    have hnull : y.null = true := by simpa using hb
    rw [if_pos hnull, show fs.set i f0 = fs by
      rw [← (List.getElem?_eq_some_iff.1 hf0).2]; exact List.set_getElem_self _]
    exact ⟨rfl, cs, hfl1, hw⟩
  have hnull : y.null = false := by simpa using hb
  rw [hnull] at hJ1
  simp only [Bool.false_eq_true, if_false] at hJ1
  refine s_at (n := n + 4) (t := t) S0 hAt C.tc (C.tree hfl1.k) (C.base hfl1.k) ((ag3 T hbT).trans hT) fun ρ4 w2 acs2 ag4 ha4 hac4 k2 => ?_
  rw [hy] at hac4
  have hfl2 := hfl1.keep C k2
  obtain ⟨sv2, lv2, uv2, lcs2, ucs2, e2, _, g2, _⟩ := hac4.cells
  obtain ⟨a2, cp2, f2⟩ := g2.form
  refine s_val (v_part X.c3 ha4 (show acs2[3]? = some lv2 by rw [e2]; rfl)) ?_
  refine s_val (v_len (a := a2) (l := y.l.length) (c := cp2) S0.ty.sl (ext_at.trans f2)) ?_
  obtain ⟨inf, z0, hi, hz, hs, hzc, hbt⟩ := hR.info
  have hpos := hR.pos.1
  have hyl : y.l.length < 4294967296 := hac4.lens.2.1
  obtain ⟨w3, e3, h3, k3, z3⟩ := a_makeSlice (P := P) (ρ := ext (ext ρ4 (n + 6) [lv2]) (n + 7) [.int .i64 (y.l.length : Nat)]) (w := w2) (x := .const (.int .i64 0)) (y := .tmp (n + 7)) (l := 0) (c := y.l.length) hsl hi hz (by rw [hzc, hs]) (by omega) rfl ext_at (by decide) (by omega) (by
    have : inf.bytes * y.l.length ≤ 1024 * 4294967296 := Nat.mul_le_mul hbt (by omega)
    have h2 : ((inf.bytes * y.l.length : Nat) : Int) ≤ 281474976710656 := by omega
    rwa [Int.natCast_mul] at h2) (by omega)
  refine s_act e3 (fun p hp => (by cases hp)) ?_
  have hfl3 := hfl2.keep C k3
  obtain ⟨hl, hwd, _⟩ := hfl3.put (f' := .list false (y.l.map fun y => fillVals ss y zs)) (m' := [lv2]) C hw hF rfl rfl
  have hoff : off < cs.length := hl
  have ag8 : Agree n ρ (ext (ext (ext ρ4 (n + 6) [lv2]) (n + 7) [.int .i64 (y.l.length : Nat)]) (n + 8) [.slice (some ⟨w2.heap.size, 0, none⟩) (0 : Int).toNat (y.l.length : Int).toNat]) := (((ag3.trans ag4 (by omega)).ex' (by omega)).ex' (by omega)).ex' (by omega)
  refine s_fset (V := V) (m' := [.slice (some ⟨w2.heap.size, 0, none⟩) 0 y.l.length]) (n := n + 9) (Vo := Vo) (x := .tmp (n + 8)) hF.1 hsz1 ((ag8 Vo hbV).trans hV) (hbV.mono (by omega)) (congrArg Value.cells (show ext _ _ _ (n + 8) = _ from ext_at)) (by simp [opBelow]) (ones_one rfl) hfl3.has hl fun n' ρ5 w4 hle ag5 hh4 k4 => ?_
  rw [splice_one _ _ _ hoff] at hh4
  have s02 := hfl2.k.size
  have k24 : Keeps [V] w2 w4 := (k3.mono (by simp)).trans k4
  have kS4 : Keeps [V] wS w4 := hfl2.k.trans k24
  have ag9 : Agree n ρ ρ5 := ag8.trans ag5 (by omega)
  refine s_at (n := n') (t := t) S0 hAt C.tc (C.tree kS4) (C.base kS4) ((ag9 T hbT).trans hT) fun ρ6 w5 acs3 ag6 ha6 hac6 k5 => ?_
  rw [hy] at hac6
  have ag10 : Agree n ρ ρ6 := ag9.trans ag6 (by omega)
  obtain ⟨sv3, lv3, uv3, lcs3, ucs3, e6, _, g3, g4, _⟩ := hac6.cells
  obtain ⟨a3, cp3, f3⟩ := g3.form
  refine s_val (v_part X.c3 ha6 (show acs3[3]? = some lv3 by rw [e6]; rfl)) ?_
  refine s_val (v_len (a := a3) (l := y.l.length) (c := cp3) S0.ty.sl (ext_at.trans f3)) ?_
  have hh5 := hh4.keep k5 (by simp)
  have k25 : Keeps [V] w2 w5 := k24.trans (k5.mono (by simp))
  have s34 := k4.size
  have s45 := k5.size
  generalize hrw : (y.l.map fun y => fillVals ss y zs) = rows at hJ1 hwd
  have hrl : rows.length = y.l.length := by rw [← hrw, List.length_map]
  have hlabel : Γ.length + 1 = (Γ ++ [J1]).length := by simp
  rw [hlabel]
  refine s_count (n := n' + 4) (q := n' + 3) (kk := .i64) (m := y.l.length) (ri := []) (Γ := Γ ++ [J1]) (fun j w' => ∃ b cap xs, w2.heap.size ≤ b ∧ Has w' V (cs.set off (.slice (some ⟨b, 0, none⟩) j cap)) ∧ Own w' (.slice (some ⟨b, 0, none⟩) j cap) (us.map Ty.wd).sum j xs ∧ FsA (fun x => x < w0.heap.size ∨ (w2.heap.size ≤ x ∧ x ≠ b)) w' ((rows.take j).map .sub) xs ∧ Keeps [V] w2 w') (by omega) ext_at
    ⟨w2.heap.size, y.l.length, [], Nat.le_refl _, hh5, ⟨by simp, .inr ⟨w2.heap.size, y.l.length, _, rfl, by simpa using (h3.keep k4 (by simp only [List.mem_singleton]; omega)).keep k5 (by simp), Nat.zero_le _, by omega, by
      have : z0.cells.toList.length = (us.map Ty.wd).sum := by simpa using hzc
      simp [List.length_flatten, this]⟩⟩, by simp [FsA], k25⟩ ?_ ?_
  · rintro j hj w' vr ⟨b, cap, xs, hb, hh, hown, hrows, kk⟩ hvr J hJ
    obtain rfl : vr = [] := List.eq_nil_of_length_eq_zero hvr
    have hj' : j < y.l.length := by omega
    have kb : Keeps [] w0 w' := C.base (hfl2.k.trans kk)
    have s2k := kk.size
    obtain ⟨b3, o3, cap3, e3', _, hel, hcell⟩ := (g3.keep kb).elem hj' (by omega)
    have htj := TreesC.get g4 hj'
    refine s_val (v_indexAddr (b := b3) (o := o3) (l := y.l.length) (c := cap3) (j := j) (kk := .i64) S0.ty.sl S0.szT (by
      show ext _ (n' + 4) _ (n' + 2) = _
      rw [ext_lt (by omega), ext_lt (by omega)]; exact ext_at.trans e3') (by
      show ext _ (n' + 4) _ (n' + 4) = _
      exact ext_at) (by omega) (by omega)) ?_
    rw [Int.toNat_natCast]
    refine s_lok (l_cellN (b := b3) (o := o3 + j * 5) S0.ty.agg ext_at hel hcell) ?_
    generalize (lcs3.drop (j * 5)).take 5 = cc at htj
    have hcl := htj.len
    refine s_alloc S0.got.zero fun w6 h6 k6 z6 => ?_
    refine s_storeAll (b := w'.heap.size) (old := zeroTree) (cs := cc) (by rw [hcl]; exact S0.ty.agg) ext_at (by
      show (ext _ _ _ (n' + 4 + 2 + 1)).cells = _
      rw [ext_lt (by omega)]; exact congrArg Value.cells ext_at) h6 (by rw [hcl]; rfl) htj.ones fun w7 h7 k7 => ?_
    show Tr.sem _ _ _ _ _ _ { w7 with drawn := w7.drawn + 1 }
    have hd : Keeps [] w7 { w7 with drawn := w7.drawn + 1 } := keeps_drawn w7 _ _
    generalize ({ w7 with drawn := w7.drawn + 1 } : World) = w8 at hd ⊢
    have k68 : Keeps [] w' w8 := (((k6.mono (by simp)).trans k7).less fun x hx => .inr (by simp only [List.mem_singleton] at hx; omega)).trans hd
    have h8 := h7.keep hd (by simp)
    have s68 := k68.size
    generalize hρ8 : ext (ext (ext (ext (ext (ext (ext ρ6 (n' + 2) [lv3]) (n' + 3) [.int .i64 (y.l.length : Nat)]) (n' + 4) ([] ++ [.int .i64 j, .bool true])) (n' + 4 + ([] : List Operand).length + 2) [.pointer (some ⟨b3, o3 + j * 5, none⟩)]) (n' + 4 + ([] : List Operand).length + 2 + 1) [.agg ⟨cc⟩]) (n' + 4 + ([] : List Operand).length + 2 + 1 + 1) [ptr w'.heap.size]) (n' + 4 + ([] : List Operand).length + 2 + 1 + 1 + 1) [undef] = ρ8
    have ag : Agree n ρ ρ8 := by
      rw [← hρ8]
      exact (((((((ag10.ex' (by omega)).ex' (by omega)).ex' (by omega)).ex' (by simp <;> omega)).ex' (by simp <;> omega)).ex' (by simp <;> omega)).ex' (by simp <;> omega))
    have r4 : ρ8 (n' + 4) = .int .i64 j := by
      rw [← hρ8, ext_lt (by simp <;> omega), ext_lt (by simp <;> omega), ext_lt (by simp <;> omega), ext_lt (by simp <;> omega)]; exact ext_at
    have r8 : ρ8 (n' + 8) = ptr w'.heap.size := by
      rw [← hρ8, ext_lt (by simp <;> omega)]; exact ext_at
    clear hρ8
    have hbw : b < w'.heap.size := hown.lt b (by simp [blkOf])
    refine sem_listBody (n := n' + 10) (x := .tmp (n' + 8)) (j := n' + 4) (jn := j) (xb := w'.heap.size) (Vb := V) (lv := .slice (some ⟨b, 0, none⟩) j cap) (cs' := cs.set off (.slice (some ⟨b, 0, none⟩) j cap)) (g := fun y => fillVals ss y zs) (us := us) S0 hM hR rfl hsl hone hF.1 ((ag Vo hbV).trans hV) (hbV.mono (by omega)) r8 (by simp [opBelow]) r4 (by omega) (hh.keep k68 (by simp)) (List.getElem?_set_self hoff) h8 htj (htd.l _ (List.getElem_mem hj')) (kb.trans k68) (hown.keep k68 (by simp)) (by simp only [blkOf, List.mem_singleton]; omega) (by omega) (by rw [List.getElem?_append_right (Nat.le_refl _), Nat.sub_self]; rfl) fun lv' wa wb wc ucs hfs ka hownb kb' hbb kc hhc => ?_
    rw [List.set_set] at hhc
    obtain ⟨b', cap', rfl⟩ := own_slice hownb
    have sa := ka.size
    have sb := kb'.size
    have hbb' : b' = b ∨ wa.heap.size ≤ b' := by
      have := hbb b' (by simp [blkOf])
      simpa [blkOf] using this
    have hb2 : w2.heap.size ≤ b' := by omega
    refine hJ [] _ rfl ⟨b', cap', xs ++ ucs, hb2, hhc, hownb.keep kc (by simp only [blkOf, List.mem_singleton]; omega), ?_, ?_⟩
    · have hj2 : j < rows.length := by omega
      rw [List.take_succ_eq_append_getElem hj2, List.map_append, show rows[j] = fillVals ss y.l[j] zs by simp only [← hrw, List.getElem_map]]
      refine FsA.snoc ?_ ?_
      · show FsA _ wc (fillVals ss y.l[j] zs) ucs
        have f1 : FsA (fun x => FitA w0 w8 x ∧ x < wa.heap.size) wa (fillVals ss y.l[j] zs) ucs := FsA.keep (M := []) .refl (fun b hb => by cases hb) (fun x h hlt => ⟨h, hlt⟩) _ _ hfs
        have f2 : FsA (fun x => FitA w0 w8 x ∧ x < wa.heap.size) wb (fillVals ss y.l[j] zs) ucs := FsA.keep kb' (fun x hx h => by
          simp only [blkOf, List.mem_singleton] at hx
          rcases h.1 with h' | h' <;> omega) (fun _ h _ => h) _ _ f1
        refine FsA.keep kc (fun x hx h => by
          simp only [List.mem_singleton] at hx
          rcases h.1 with h' | h' <;> omega) (fun x h _ => ?_) _ _ f2
        rcases h.1 with h' | h'
        · exact .inl h'
        · refine .inr ⟨by omega, ?_⟩
          rcases hbb' with h5 | h5
          · omega
          · have := h.2; omega
      · have f1 : FsA (fun x => (x < w0.heap.size ∨ (w2.heap.size ≤ x ∧ x ≠ b)) ∧ x < w'.heap.size) wa ((rows.take j).map .sub) xs := FsA.keep (k68.trans ka) (fun b hb => by cases hb) (fun x h hlt => ⟨h, hlt⟩) _ _ hrows
        have f2 : FsA (fun x => (x < w0.heap.size ∨ (w2.heap.size ≤ x ∧ x ≠ b)) ∧ x < w'.heap.size) wb ((rows.take j).map .sub) xs := FsA.keep kb' (fun x hx h => by
          simp only [blkOf, List.mem_singleton] at hx
          rcases h.1 with h' | h'
          · omega
          · exact h'.2 hx) (fun _ h _ => h) _ _ f1
        refine FsA.keep kc (fun x hx h => by
          simp only [List.mem_singleton] at hx
          rcases h.1 with h' | h' <;> omega) (fun x h _ => ?_) _ _ f2
        rcases h.1 with h' | h'
        · exact .inl h'
        · refine .inr ⟨h'.1, ?_⟩
          rcases hbb' with h5 | h5
          · rw [h5]; exact h'.2
          · have := h.2; omega
    · have kk2 : Keeps ([V] ++ [b]) w2 wc := ((kk.mono fun x hx => List.mem_append_left _ hx).trans (((k68.trans ka).mono (by simp)).trans ((kb'.mono fun x hx => List.mem_append_right _ (by simpa [blkOf] using hx)).trans (kc.mono fun x hx => List.mem_append_left _ hx))))
      exact kk2.less fun x hx => by
        rcases List.mem_append.1 hx with h | h
        · exact .inl h
        · simp only [List.mem_singleton] at h
          exact .inr (by omega)
  · rintro w' vr J ⟨b, cap, xs, hb, hh, hown, hrows, kk⟩ hvr
    obtain rfl : vr = [] := List.eq_nil_of_length_eq_zero hvr
    rw [Int.toNat_natCast] at hh hown hrows
    rw [← hrl, List.take_length] at hrows
    refine ⟨J1, by rw [List.append_assoc, List.getElem?_append_right (Nat.le_refl _), Nat.sub_self]; rfl, ?_⟩
    obtain ⟨_, _, hput⟩ := hfl2.put (f' := .list false rows) (m' := [.slice (some ⟨b, 0, none⟩) y.l.length cap]) C hw hF rfl rfl
    rw [← hJ1]
    obtain ⟨b', cap', spare, ev', hhb, hcap, hcap2, _⟩ : ∃ b' cap' spare, Value.slice (some ⟨b, 0, none⟩) y.l.length cap = .slice (some ⟨b', 0, none⟩) y.l.length cap' ∧ Has w' b' (xs ++ spare) ∧ y.l.length ≤ cap' ∧ cap' < 2 ^ 63 ∧ True := by
      rcases hown.2 with ⟨h, _⟩ | ⟨b', cap', spare, e, h1, h2, h3, _⟩
      · cases h
      · exact ⟨b', cap', spare, e, h1, h2, h3, trivial⟩
    injection ev' with e1 _ e2
    injection e1 with e1
    injection e1 with e1
    subst e1
    subst e2
    refine ⟨rfl, _, hput w' kk (.inr ⟨rfl, b, cap, xs ++ spare, .inr (by omega), by rw [hrl], by rw [hrl]; exact hcap, hhb, RowsA.of spare (FsA.keep (M := []) .refl (fun b hb => by cases hb) (fun x h _ => h.imp id fun h => by omega) _ _ hrows)⟩) (by rw [splice_one _ _ _ hoff]; exact hh), hwd⟩

end

end Go.Kf

namespace Go.Kf

open Go

theorem tidy_tags {fs : List PF} {u : TM} (h : ∀ p ∈ u, p.1 < 4294967296) : ((wholeTags (pUnknown fs u)).map (·.1)).Nodup ∧ ∀ p ∈ wholeTags (pUnknown fs u), p.1 < 2 ^ 32 := by
  refine ⟨?_, fun p hp => ?_⟩
  · rw [wholeTags_keys]
    exact List.Pairwise.map _ (fun a b (h : a.1 < b.1) => Nat.ne_of_lt h) (pUnknownN_asc _ List.Pairwise.nil)
  · obtain ⟨q, hq, rfl⟩ := List.mem_map.1 hp
    exact h q (pUnknown_mem hq)

theorem PT.ok.keys {t : PT} (h : t.ok) : ∀ p ∈ t.u, p.1 < 4294967296 := h.u

mutual
theorem pFitted_tidy (v : Int) : ∀ (f : PF) (t : PT), t.ok → (pFitted v f t).tidy
  | .mk k fr to nul g d e sub, t, hok => by
    have hsub := fun (y : PT) (hy : y.ok) => pFits_tidy v sub y 0 hy
    rw [pFitted_eq]
    have flat : ∀ (n : Int) (s : List UInt8) (nl : Bool), IntKind.i64.wrap n = n → (PT.mk n s nl [] []).tidy := fun n s nl h => ⟨h, List.nodup_nil, (fun p hp => by cases hp), trivial⟩
    split
    · exact flat _ _ _ rfl
    split
    · exact ⟨rfl, (tidy_tags hok.keys).1, (tidy_tags hok.keys).2, hsub t hok⟩
    split
    · refine ⟨rfl, List.nodup_nil, (fun p hp => by cases hp), PT.tidys_of fun x hx => ?_⟩
      obtain ⟨y, hy, rfl⟩ := List.mem_map.1 hx
      have hyo : y.ok := hok.l y (List.mem_of_mem_take hy)
      unfold pFitOne
      split
      · exact ⟨rfl, (tidy_tags hyo.keys).1, (tidy_tags hyo.keys).2, hsub y hyo⟩
      split
      · exact flat _ _ _ rfl
      · exact flat _ _ _ hyo.n
    · exact flat _ _ _ hok.n
theorem pFits_tidy (v : Int) : ∀ (fs : List PF) (t : PT) (i : Nat), t.ok → PT.tidys (pFits v fs t i)
  | [], _, _, _ => by simp [pFits, PT.tidys]
  | f :: r, t, i, hok => by
    simp only [pFits, PT.tidys]
    exact ⟨pFitted_tidy v f (pAt t i) (hok.at i), pFits_tidy v r t (i + 1) hok⟩
end

theorem pFit_tidy (v : Int) (fs : List PF) {t : PT} (hok : t.ok) : (pFit v fs t).tidy :=
  ⟨rfl, (tidy_tags hok.keys).1, (tidy_tags hok.keys).2, pFits_tidy v fs t 0 hok⟩

theorem FV.imm0_atA {f : FV} {cs : List Value} (h : f.imm0 = some cs) (A : Nat → Prop) (w : World) : FAtA A w f cs := by
  unfold FV.imm0 at h
  split at h
  · rename_i v
    cases hv : v.oneCell' with
    | false => rw [hv] at h; cases h
    | true => rw [hv] at h; simp only [cond, Option.some.injEq] at h; exact ⟨h.symm, hv⟩
  · rename_i l
    cases hl : Nat.beq l.length 16 with
    | false => rw [hl] at h; cases h
    | true => rw [hl] at h; simp only [cond, Option.some.injEq] at h; exact ⟨h.symm, Nat.eq_of_beq_eq_true hl⟩
  · simp only [Option.some.injEq] at h; exact h.symm
  · simp only [Option.some.injEq] at h; exact ⟨_, h.symm, rfl⟩
  · simp only [Option.some.injEq] at h; exact ⟨_, h.symm, ⟨by simp [bcells], .inl ⟨rfl, rfl⟩⟩, rfl, fun b hb => by cases hb⟩
  · simp only [Option.some.injEq] at h; exact ⟨_, h.symm, .inl ⟨rfl, rfl⟩⟩
  · simp only [Option.some.injEq] at h; exact .inl ⟨rfl, h.symm, rfl⟩
  · simp only [Option.some.injEq] at h; exact h.symm
  · cases h

mutual
theorem FV.imm_atA : ∀ {f : FV} {cs : List Value}, f.imm = some cs → ∀ (A : Nat → Prop) (w : World), FAtA A w f cs
  | .sub fs, cs, h, A, w => by
    simp only [FV.imm] at h
    exact immL_atA h A w
  | .one v, _, h, A, w => FV.imm0_atA (by simpa only [FV.imm] using h) A w
  | .uuid l, _, h, A, w => FV.imm0_atA (by simpa only [FV.imm] using h) A w
  | .text l, _, h, A, w => FV.imm0_atA (by simpa only [FV.imm] using h) A w
  | .ntext o, _, h, A, w => FV.imm0_atA (by simpa only [FV.imm] using h) A w
  | .octs nl l, _, h, A, w => FV.imm0_atA (by simpa only [FV.imm] using h) A w
  | .tags m, _, h, A, w => FV.imm0_atA (by simpa only [FV.imm] using h) A w
  | .list nl rows, _, h, A, w => FV.imm0_atA (by simpa only [FV.imm] using h) A w
  | .ptr o, _, h, A, w => FV.imm0_atA (by simpa only [FV.imm] using h) A w
theorem immL_atA : ∀ {fs : List FV} {cs : List Value}, immL fs = some cs → ∀ (A : Nat → Prop) (w : World), FsA A w fs cs
  | [], cs, h, _, _ => by simp only [immL, Option.some.injEq] at h; exact h.symm
  | f :: fs, cs, h, A, w => by
    simp only [immL] at h
    split at h
    · rename_i a b ha hb
      simp only [Option.some.injEq] at h
      exact ⟨a, b, h.symm, FV.imm_atA ha A w, immL_atA hb A w⟩
    · cases h
end

def preS (st : FStep) (fs : List FV) : Prop := match st with
  | .tags i _ _ => fs[i]? = some (.tags [])
  | _ => True

def runF : List FStep → PT → List FV → List FV
  | [], _, fs => fs
  | st :: ss, t, fs => runF ss t (setF st t fs)

def fillIdx : List FStep → Nat → Bool
  | [], _ => true
  | st :: ss, p => Nat.beq st.idx p && fillIdx ss (p + 1)

def dls : List FStep → Nat
  | [] => 0
  | st :: ss => st.dl + dls ss

theorem fillIdx_le : ∀ {ss : List FStep} {p : Nat}, fillIdx ss p = true → ∀ st ∈ ss, p ≤ st.idx
  | [], _, _, st, h => by cases h
  | x :: ss, p, h, st, hst => by
    simp only [fillIdx, Bool.and_eq_true] at h
    have hx := Nat.eq_of_beq_eq_true h.1
    rcases List.mem_cons.1 hst with rfl | h'
    · omega
    · have := fillIdx_le h.2 st h'; omega

theorem runF_eq {t : PT} : ∀ {ss : List FStep} {p : Nat} {pre zs : List FV}, fillIdx ss p = true → pre.length = p → ss.length = zs.length → runF ss t (pre ++ zs) = pre ++ fillVals ss t zs
  | [], _, _, [], _, _, _ => by simp [runF, fillVals]
  | st :: ss, p, pre, z :: zs, h, hp, hl => by
    simp only [fillIdx, Bool.and_eq_true] at h
    have hx := Nat.eq_of_beq_eq_true h.1
    have hg : fvGet (pre ++ z :: zs) st.idx = z := fvGet_eq (by rw [hx, ← hp, List.getElem?_append_right (Nat.le_refl _), Nat.sub_self]; rfl)
    have hs : setF st t (pre ++ z :: zs) = (pre ++ [fillVal st t z]) ++ zs := by
      unfold setF
      rw [hg, hx, ← hp, List.set_append_right _ _ (Nat.le_refl _), Nat.sub_self]
      simp
    simp only [runF, fillVals]
    rw [hs, runF_eq (p := p + 1) h.2 (by simp [hp]) (by simpa using hl)]
    simp

section

variable {P : Program} {c : Nums} {s : SN} {S : Nat} {ts : List Ty} {w0 wS : World} {V tb : Nat} {t : PT} {tcs : List Value} {ck : Bool} {Vo T : Operand}

theorem semF_step (S0 : SpFacts P c s) (X : FillFacts P c) (hAt : treeIn P s.at_ noOrc [.tmp 0, .tmp 1] 2 = tAt c) (C : FCtx w0 wS V tb t tcs) (st : FStep) (h : FStepOk P c S ts st) : SemF P w0 wS V tb ts Vo T (gFStep c s ck S Vo T st) (preS st) (setF st t) st.dl := by
  cases st with
  | prim fk i q off ty f => exact semF_prim S0 X hAt C h
  | listS i q off tySl Tel f zs ss => exact semF_list S0 X hAt C h
  | listP => exact h.elim
  | sub i q off ty f zs ss => exact semF_sub S0 hAt C h
  | tags i off f => exact semF_tags S0 C h

theorem semF_steps (S0 : SpFacts P c s) (X : FillFacts P c) (hAt : treeIn P s.at_ noOrc [.tmp 0, .tmp 1] 2 = tAt c) (C : FCtx w0 wS V tb t tcs) : ∀ (ss : List FStep) (p : Nat), fillIdx ss p = true → (∀ st ∈ ss, FStepOk P c S ts st) →
    SemF P w0 wS V tb ts Vo T (gFSteps c s ck S Vo T ss) (fun fs => ∀ st ∈ ss, preS st fs) (runF ss t) (dls ss)
  | [], _, _, _ => by
    intro R Γ n ρ w fs cs k hw _ hfl hV hbV hT hbT hk
    have := hk n [] ρ w cs (Nat.le_refl _) rfl .refl hfl hw
    simpa [gFSteps] using this
  | st :: ss, p, hidx, hok => by
    intro R Γ n ρ w fs cs k hw hpre hfl hV hbV hT hbT hk
    simp only [fillIdx, Bool.and_eq_true] at hidx
    have hx := Nat.eq_of_beq_eq_true hidx.1
    simp only [gFSteps]
    refine semF_step S0 X hAt C st (hok st (by simp)) R Γ n ρ w fs cs (fun n' => gFSteps c s ck S Vo T ss n' (Γ.length + st.dl) k) hw (hpre st (by simp)) hfl hV hbV hT hbT fun n1 Δ1 ρ1 w1 cs1 h1 hΔ ag1 hfl1 hw1 => ?_
    have hd : Γ.length + st.dl = (Γ ++ Δ1).length := by rw [List.length_append, hΔ]
    show (gFSteps c s ck S Vo T ss n1 (Γ.length + st.dl) k).sem P R (Γ ++ Δ1) n1 ρ1 w1
    rw [hd]
    refine semF_steps S0 X hAt C ss (p + 1) hidx.2 (fun x hx => hok x (by simp [hx])) R (Γ ++ Δ1) n1 ρ1 w1 _ cs1 k hw1 (fun x hx' => ?_) hfl1 ((ag1 Vo hbV).trans hV) (hbV.mono h1) ((ag1 T hbT).trans hT) (hbT.mono h1) fun n2 Δ2 ρ2 w2 cs2 h2 hΔ2 ag2 hfl2 hw2 => ?_
    · have hne := fillIdx_le hidx.2 x hx'
      have h0 := hpre x (by simp [hx'])
      cases x with
      | tags i off f =>
        simp only [preS] at h0 ⊢
        simp only [FStep.idx] at hne
        unfold setF
        rw [List.getElem?_set_ne (by omega)]
        exact h0
      | _ => trivial
    · have := hk n2 (Δ1 ++ Δ2) ρ2 w2 cs2 (by omega) (by simp [hΔ, hΔ2, dls]) (ag1.trans ag2 h1) hfl2 hw2
      rwa [← List.append_assoc] at this

def preB (st : FStep) (fs : List FV) : Bool := match st with
  | .tags i _ _ => match fs[i]? with
    | some (.tags []) => true
    | _ => false
  | _ => true

theorem preS_of {ss : List FStep} {fs : List FV} (h : ss.all (fun st => preB st fs) = true) : ∀ st ∈ ss, preS st fs := fun st hst => by
  have h1 := List.all_eq_true.1 h st hst
  cases st with
  | tags i off f =>
    simp only [preB] at h1
    split at h1
    · assumption
    · cases h1
  | _ => trivial

def FStepsOk (P : Program) (c : Nums) (S : Nat) (ts : List Ty) : List FStep → Prop
  | [] => True
  | st :: ss => FStepOk P c S ts st ∧ FStepsOk P c S ts ss

theorem stepsOk_all : ∀ {ss : List FStep}, FStepsOk P c S ts ss → ∀ st ∈ ss, FStepOk P c S ts st
  | [], _, st, h => by cases h
  | x :: ss, ⟨h1, h2⟩, st, h => by
    rcases List.mem_cons.1 h with rfl | h
    · exact h1
    · exact stepsOk_all h2 st h

/-- A part is made. -/
theorem make_gives {f : Nat} {zs : List FV} {ss : List FStep} {cells : List Value} (S0 : SpFacts P c s) (X : FillFacts P c) (hAt : treeIn P s.at_ noOrc [.tmp 0, .tmp 1] 2 = tAt c) (hz : zeroTy P S = some (.agg ⟨cells⟩, cells.length)) (hagg : aggTy P S = some cells.length) (himm : immL zs = some cells) (hwd : zs.map FV.wd = ts.map Ty.wd)
    (hidx : fillIdx ss 0 = true) (hlen : ss.length = zs.length) (hpre : ∀ st ∈ ss, preS st zs) (hok : ∀ st ∈ ss, FStepOk P c S ts st) (hT : treeIn P f noOrc [.tmp 0] 1 = gMake c s S ss) : MakeOf P f ts fun y => fillVals ss y zs := by
  intro w0 w y ycs hyc htd k0
  refine gives_in (ρ := en [.agg ⟨ycs⟩]) S0.rd.mix hT (Nat.le_refl _) rfl (by simp [opBelow]) ?_
  unfold gMake
  refine s_box rfl fun w1 h1 k1 z1 => ?_
  refine s_alloc hz fun w2 h2 k2 z2 => ?_
  refine s_alloc hz fun w3 h3 k3 z3 => ?_
  have s0 := k0.size
  have s12 := k2.size
  have s23 := k3.size
  have C : FCtx w0 w3 w2.heap.size w.heap.size y ycs := ⟨hyc, htd, by omega, by omega, (h1.keep k2 (by simp)).keep k3 (by simp), by omega, ((k0.trans k1).trans k2).trans k3⟩
  refine semF_steps (ck := false) (Vo := .tmp 3) (T := .tmp 1) S0 X hAt C ss 0 hidx hok _ [] 4 _ w3 zs cells _ hwd hpre ⟨h3, immL_atA himm _ _, .refl⟩ rfl (by simp [opBelow]) rfl (by simp [opBelow]) fun n' Δ ρ' w4 cs' hle _ ag hfl hw' => ?_
  have hrun : runF ss y zs = fillVals ss y zs := runF_eq (pre := []) hidx rfl hlen
  rw [hrun] at hfl hw'
  have hcl : cs'.length = cells.length := by
    have e1 := FsA.len _ _ hfl.fs
    have e2 := FsA.len _ _ (immL_atA himm (fun _ => True) w)
    rw [e1, e2, wds_eq, wds_eq, hw', hwd]
  have hV : ρ' 3 = ptr w2.heap.size := ag.tmp (by omega)
  have hR : ρ' 2 = ptr w1.heap.size := ag.tmp (by omega)
  refine s_lok (l_loadN (b := w2.heap.size) (o := 0) hagg hV hfl.has (by omega)) ?_
  rw [take0 hcl]
  have h2' : Has w4 w1.heap.size cells := (h2.keep k3 (by simp)).keep hfl.k (by simp only [List.mem_singleton]; omega)
  refine s_storeAll (b := w1.heap.size) (old := cells) (cs := cs') (by rw [hcl]; exact hagg) (by
    show ext _ n' _ 2 = _
    rw [ext_lt (by omega)]; exact hR) (congrArg Value.cells (show ext _ n' _ n' = _ from ext_at)) h2' hcl.symm (FsA.ones _ _ hfl.fs) fun w5 h5 k5 => ?_
  refine s_retAgg (b := w1.heap.size) (by
    show ext _ _ _ 2 = _
    rw [ext_lt (by omega), ext_lt (by omega)]; exact hR) h5 (by rw [hcl]; exact hagg) ⟨⟨cs', rfl, ?_, hw'⟩, ?_⟩
  · exact FsA.keep k5 (fun b hb h => by
      simp only [List.mem_singleton] at hb
      rcases h with h | h <;> omega) (fun b h _ => h.imp id fun h => by omega) _ _ hfl.fs
  · exact (((k1.trans k2).trans k3).mono (by simp) |>.trans ((hfl.k.mono (fun x hx => List.mem_append_left [w1.heap.size] hx)).trans (k5.mono fun x hx => List.mem_append_right _ hx))).less fun x hx => .inr (by
      simp only [List.mem_append, List.mem_singleton] at hx
      omega)

/-- A message is filled. -/
def FillOf (P : Program) (f : Nat) (ts : List Ty) (pre : List FV → Prop) (e : PT → List FV → List FV) : Prop := ∀ (w0 w : World) (V : Nat) (t : PT) (tcs cs : List Value) (fs : List FV), TreeC w0 t tcs → t.tidy → Keeps [] w0 w → w0.heap.size ≤ V → Has w V cs → FsA (FitA w0 w) w fs cs → fs.map FV.wd = ts.map Ty.wd → pre fs →
  Gives P f [ptr V, .agg ⟨tcs⟩] w fun _ w' => (∃ cs', Has w' V cs' ∧ FsA anyB w' (e t fs) cs') ∧ Keeps [V] w w'

theorem fill_gives {f p : Nat} {ss : List FStep} (S0 : SpFacts P c s) (X : FillFacts P c) (hAt : treeIn P s.at_ noOrc [.tmp 0, .tmp 1] 2 = tAt c) (hidx : fillIdx ss p = true) (hok : ∀ st ∈ ss, FStepOk P c S ts st) (hT : treeIn P f noOrc [.tmp 0, .tmp 1] 2 = gFill c s S ss) : FillOf P f ts (fun fs => ∀ st ∈ ss, preS st fs) fun t fs => runF ss t fs := by
  intro w0 w V t tcs cs fs htc htd k0 hlo hh hfs hwd hpre
  refine gives_in (ρ := en [ptr V, .agg ⟨tcs⟩]) S0.rd.mix hT (Nat.le_refl _) rfl (by simp [opBelow]) ?_
  unfold gFill
  refine s_box rfl fun w1 h1 k1 z1 => ?_
  have s0 := k0.size
  have hVl := hh.lt
  have C : FCtx w0 w1 V w.heap.size t tcs := ⟨htc, htd, hlo, by omega, h1, by omega, k0.trans k1⟩
  have hfs1 : FsA (FitA w0 w1) w1 fs cs := FsA.keep k1 (fun b hb => by cases hb) (fun b h hlt => by
    rcases h with h | h
    · exact .inl h
    · omega) _ _ hfs
  refine semF_steps (ck := true) (Vo := .tmp 0) (T := .tmp 2) S0 X hAt C ss p hidx hok _ [] 3 _ w1 fs cs _ hwd hpre ⟨hh.keep k1 (by simp), hfs1, .refl⟩ rfl (by simp [opBelow]) rfl (by simp [opBelow]) fun n' Δ ρ' w4 cs' hle _ ag hfl hw' => ?_
  exact s_ret0 ⟨⟨cs', hfl.has, FsA.keep (M := []) .refl (fun b hb => by cases hb) (fun _ _ _ => trivial) _ _ hfl.fs⟩, (k1.mono (by simp)).trans hfl.k⟩

end

end Go.Kf

namespace Go.Kf

open Go

section

variable {P : Program} {c : Nums} {s : SN} {w : World}

/-- What the door yields: new octets. -/
def MadeBy (P : Program) (f : Nat) (args : List Value) (w : World) (out : List UInt8) : Prop := Gives P f args w fun u w' => Own w' u 1 out.length (bcells out) ∧ Keeps [] w w'

theorem mkDoor_gives {f fSet fFill fApp S : Nat} {cells tcs : List Value} {t : PT} {ver : Int} {ts : List Ty} {ss : List FStep} {zs : List FV} {ws : List WStep} {ps : List (Nat × Nat)} (F : RdFacts P c) (Z : TyFacts P c c.tTree c.tTrees c.tTagL c.tTag) (hT : treeIn P f noOrc [.tmp 0, .tmp 1] 2 = tMakeDoor c S fSet fFill fApp) (hver : IntKind.i16.wrap ver = ver)
    (hplan : buildPlan P S = some (.int .i16 0 :: cells, ps)) (himm : immL zs = some cells) (hone : oneTy P c.tI16 = true) (hS0 : fieldOff P S 0 = some 0) (hSet : treeIn P fSet noOrc [.tmp 0, .tmp 1] 2 = tSetVersion c S) (hFill : FillOf P fFill ts (fun fs => ∀ st ∈ ss, preS st fs) fun t fs => runF ss t fs) (hidx : fillIdx ss 1 = true) (hlen : ss.length = zs.length) (hpre : ∀ st ∈ ss, preS st (.one (.int .i16 ver) :: zs))
    (hwd : (FV.one (.int .i16 ver) :: zs).map FV.wd = ts.map Ty.wd) (hA : AppTo P fApp ts ver ws) (hok : okFs (.one (.int .i16 ver) :: fillVals ss t zs) ts) (htc : TreeC w t tcs) (htd : t.tidy) (hl : (encSteps ws (.one (.int .i16 ver) :: fillVals ss t zs)).length ≤ maxW) :
    MadeBy P f [.int .i64 ver, .agg ⟨tcs⟩] w (encSteps ws (.one (.int .i16 ver) :: fillVals ss t zs)) := by
  have htl := htc.len
  refine gives_in (ρ := en [.int .i64 ver, .agg ⟨tcs⟩]) F.mix hT (Nat.le_refl _) rfl (by simp [opBelow]) ?_
  unfold tMakeDoor
  refine s_box rfl fun w1 h1 k1 z1 => ?_
  refine s_val (v_build (cells := .int .i16 0 :: cells) hplan (fun p hp => by cases hp) rfl) ?_
  refine s_box rfl fun w2 h2 k2 z2 => ?_
  refine s_val (v_conv (k1 := .i64) (k2 := .i16) (a := ver) F.int F.i16 rfl) ?_
  rw [hver]
  refine s_callx (setVersion_gives F hone hS0 hSet h2 ver) rfl fun u w3 ⟨h3, k3⟩ => ?_
  have s1 := k1.size
  have h13 : Has w3 w.heap.size tcs := (h1.keep k2 (by simp)).keep k3 (by simp only [List.mem_singleton]; omega)
  refine s_lok (l_loadN (b := w.heap.size) (o := 0) Z.agg rfl h13 (by omega)) ?_
  rw [take0 htl]
  have k03 : Keeps [] w w3 := (((k1.trans k2).mono (by simp)).trans k3).less fun x hx => .inr (by simp only [List.mem_singleton] at hx; omega)
  have hfs : FsA (FitA w w3) w3 (.one (.int .i16 ver) :: zs) (.int .i16 ver :: cells) := ⟨[.int .i16 ver], cells, rfl, ⟨rfl, rfl⟩, immL_atA himm _ _⟩
  refine s_callx (hFill w w3 w1.heap.size t tcs _ _ htc htd k03 s1 h3 hfs hwd hpre) rfl fun u w4 ⟨⟨cs', h4, hfs4⟩, k4⟩ => ?_
  have hrun : runF ss t (.one (.int .i16 ver) :: zs) = .one (.int .i16 ver) :: fillVals ss t zs := runF_eq (pre := [.one (.int .i16 ver)]) hidx rfl hlen
  replace hfs4 : FsA anyB w4 (runF ss t (.one (.int .i16 ver) :: zs)) cs' := hfs4
  rw [hrun] at hfs4
  refine s_callx (hA w4 w4 w1.heap.size cs' _ (.slice none 0 0) [] hok rfl h4 hfs4 (MadeO.nil w4) (by rw [List.nil_append]; exact hl)) rfl fun u w5 hm => ?_
  rw [List.nil_append] at hm
  refine s_ret1 ⟨hm.1, ?_⟩
  exact ((k03.mono (by simp)).trans (k4.trans (hm.2.2.mono (by simp)))).less fun x hx => .inr (by simp only [List.mem_singleton] at hx; omega)

theorem mkLaw_gives {f fMax fMsg fVer fFit fOne fGiven fMake n m : Nat} {fs : List PF} {x : Int} {t : PT} {ts : List Value} (S : SpFacts P c s) (T : SpTrees P c s) (M : MkTrees P c s fFit fOne) (Fi : FitTrees P c s) (hSame : treeIn P s.same noOrc [.tmp 0, .tmp 1] 2 = tSame c)
    (hT : treeIn P f noOrc [.tmp 0, .tmp 1] 2 = tMakeLaw c s fMax fMsg fVer fFit fGiven fMake) (hpl : PF.plains fs = true) (hlen : fs.length < 65536) (hMsgZero : ∃ z, zeroTy P s.msg = some (z, 2) ∧ z.cells.toList.length = 2)
    (hMax : ∀ w, Gives P fMax [] w fun v w' => v = .int .i64 m ∧ Keeps [] w w') (hVer : ∀ w, Gives P fVer [.int .u8 n, .int .i64 m] w fun v w' => v = .int .i64 (n % (m + 1) : Nat) ∧ w' = w) (hMsg : MsgFn P fMsg fs x) (hGiven : ∀ x, GotOf P fGiven x)
    (hMake : ∀ (w : World) (cs : List Value), TreeC w (pFit (n % (m + 1) : Nat) fs t) cs → MadeBy P fMake [.int .i64 (n % (m + 1) : Nat), .agg ⟨cs⟩] w (pWrite fs x (n % (m + 1) : Nat) t))
    (hle : (pWrite fs x (n % (m + 1) : Nat) t).length ≤ 1073741824) (ht : TreeC w t ts) (hok : t.ok) : Gives P f [.int .u8 n, .agg ⟨ts⟩] w fun v w' => v = .bool true ∧ Keeps [] w w' := by
  have htl := ht.len
  refine gives_in (ρ := en [.int .u8 n, .agg ⟨ts⟩]) S.rd.mix hT (Nat.le_refl _) rfl (by simp [opBelow]) ?_
  refine s_box rfl fun w1 h2 k1 z1 => ?_
  refine s_lok (l_loadN (b := w.heap.size) (o := 0) S.ty.agg rfl h2 (by omega)) ?_
  rw [take0 htl]
  refine s_callx (fits1_gives S Fi (TreeC.keep k1 _ _ ht)) rfl fun u w2 ⟨⟨q, hq⟩, k2⟩ => ?_
  subst hq
  refine s_val (v_not (b := q) rfl) ?_
  refine s_cond (b := !q) rfl (fun _ => s_ret1 ⟨rfl, k1.trans k2⟩) fun _ => ?_
  refine s_callx (hMax w2) rfl fun v w3 ⟨hv, k3⟩ => ?_
  subst hv
  refine s_val (v_cmp (kk := .i64) (a := m) (b := 0) (r := false) rfl rfl (by simp [cmpOf])) ?_
  refine s_cond (b := false) rfl (fun h => by cases h) fun _ => ?_
  refine s_callx (hMsg w3) rfl fun v w4 ⟨⟨fv, hv, hfv⟩, k4⟩ => ?_
  subst hv
  refine s_callx (hVer w4) rfl fun v w5 ⟨hv, hw⟩ => ?_
  subst hw
  subst hv
  have hone : fv.oneCell' = true := by
    obtain ⟨_, h1, _⟩ := hfv
    exact h1.one
  obtain ⟨zm, hzm, hzs⟩ := hMsgZero
  refine s_alloc hzm fun w6 h6 k6 z6 => ?_
  refine s_storeAll (b := w5.heap.size) (old := zm.cells.toList) (cs := [fv, .int .i64 x]) S.msg rfl rfl h6 hzs (fun u hu => ?_) fun w7 h7 k7 => ?_
  · simp only [List.mem_cons, List.not_mem_nil, or_false] at hu
    rcases hu with rfl | rfl
    · exact hone
    · rfl
  show Tr.sem _ _ _ _ _ _ { w7 with drawn := w7.drawn + 1 }
  have hd : Keeps [] w7 { w7 with drawn := w7.drawn + 1 } := keeps_drawn w7 _ _
  generalize ({ w7 with drawn := w7.drawn + 1 } : World) = w8 at hd ⊢
  have k58 : Keeps [] w5 w8 := (((k6.mono (by simp)).trans k7).less fun y hy => .inr (by simp only [List.mem_singleton] at hy; omega)).trans hd
  have hfv8 : FieldsV w8 fs fv := FieldsV.keep k58 hfv
  have k08 : Keeps [] w w8 := (((k1.trans k2).trans k3).trans k4).trans k58
  have h28 : Has w8 w.heap.size ts := h2.keep (((k2.trans k3).trans k4).trans k58) (by simp)
  have h78 := h7.keep hd (by simp)
  refine p_fl (b := w5.heap.size) (o := 0) S.m0 S.oneFields rfl rfl h78 rfl ?_
  refine l_lok (l_loadN (b := w.heap.size) (o := 0) S.ty.agg rfl h28 (by omega)) ?_
  rw [take0 htl]
  refine l_lok (l_loadN (b := w5.heap.size) (o := 0) S.msg rfl h78 (Nat.le_refl _)) ?_
  rw [show (([fv, Value.int .i64 x].drop 0).take 2) = [fv, .int .i64 x] from rfl]
  refine l_lok (l_loadN (b := w.heap.size) (o := 0) S.ty.agg rfl h28 (by omega)) ?_
  rw [take0 htl]
  have ldT : ∀ (w' : World) (ρ : Nat → Value), Keeps [] w8 w' → ρ 2 = ptr w.heap.size → runOp P ρ (.load c.sTree (.tmp 2)) w' = .ok (.value (.agg ⟨ts⟩)) w' := fun w' ρ kk hρ => by
    have := l_loadN (P := P) (ρ := ρ) (w := w') (x := .tmp 2) (b := w.heap.size) (o := 0) S.ty.agg hρ (h28.keep kk (by simp)) (by omega)
    rwa [take0 htl] at this
  have ldM : ∀ (w' : World) (ρ : Nat → Value), Keeps [] w8 w' → ρ 10 = ptr w5.heap.size → runOp P ρ (.load s.msg (.tmp 10)) w' = .ok (.value (.agg ⟨[fv, .int .i64 x]⟩)) w' := fun w' ρ kk hρ =>
    l_loadN (P := P) (ρ := ρ) (w := w') (x := .tmp 10) (b := w5.heap.size) (o := 0) S.msg hρ (h78.keep kk (by simp)) (Nat.le_refl _)
  refine s_call (xs := [.tmp 13, .tmp 9, .tmp 14]) (fit_all S T M (n % (m + 1) : Nat) hpl hlen w8 w8 t fv ts hfv8 (TreeC.keep k08 _ _ ht) hok .refl) fun u w9 ⟨⟨fcs, hu, hft⟩, k9⟩ => ⟨?_, ?_⟩
  · intro p hp
    simp only [List.mem_cons, List.not_mem_nil, or_false] at hp
    rcases hp with rfl | rfl
    · exact ldT w9 _ k9 rfl
    · exact ldM w9 _ k9 rfl
  subst hu
  refine s_call (xs := [.tmp 17]) (hGiven _ w9 _ fcs hft) fun u w10 ⟨⟨gcs, hu, hgt⟩, k10⟩ => ⟨?_, ?_⟩
  · intro p hp
    simp only [List.mem_cons, List.not_mem_nil, or_false] at hp
    rcases hp with rfl | rfl
    · exact ldT w10 _ (k9.trans k10) rfl
    · exact ldM w10 _ (k9.trans k10) rfl
  subst hu
  refine s_call (xs := [.tmp 9, .tmp 18]) (hMake w10 gcs (TreeC.of_at hgt)) fun u w11 ⟨hown, k11⟩ => ⟨?_, ?_⟩
  · intro p hp
    simp only [List.mem_cons, List.not_mem_nil, or_false] at hp
    rcases hp with rfl | rfl
    · exact ldT w11 _ ((k9.trans k10).trans k11) rfl
    · exact ldM w11 _ ((k9.trans k10).trans k11) rfl
  have k811 := (k9.trans k10).trans k11
  have k011 := k08.trans k811
  have hmx : (1073741824 : Nat) ≤ maxW := by decide
  refine s_callO (write_gives S T hpl hlen x (n % (m + 1) : Nat) (hfv8.keep k811) (TreeC.keep k011 _ _ ht) hok (Nat.le_trans hle hmx)) rfl fun u2 w12 hM => ⟨fun p hp => (by cases hp), ?_⟩
  have hlen2 : (pWrite fs x (n % (m + 1) : Nat) t).length < 2 ^ 62 := by omega
  refine s_callx (same_ro S.rd hSame (.inl hlen2) (Ro.of_reads (hown.keep hM.2.2 (by simp)).reads) (Ro.of_reads hM.1.reads)) rfl fun v w13 ⟨hv, kd⟩ => ?_
  refine s_ret1 ⟨?_, (k011.trans hM.2.2).trans kd⟩
  rw [show ev (ext _ 21 [v]) (.tmp 21) = v from ext_at, hv]
  simp

end

end Go.Kf
