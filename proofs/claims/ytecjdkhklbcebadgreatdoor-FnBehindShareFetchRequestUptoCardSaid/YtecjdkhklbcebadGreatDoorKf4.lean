/- The library for this proof, part 4: trees of function bodies, and what the package's functions do. -/
import Derived.Test.YtecjdkhklbcebadGreatDoorKf3
import Derived.Shelf.GgSortFunc.Whole
import Derived.Shelf.GgSortFunc.Tiny
import Derived.Sort.LotA
import Derived.Carry
/- Unknown tags: how they are read. -/
namespace Go.Kf
open Go

section
variable {P : Program} {c : Nums} {w : World}

def RdSpanA (P : Program) (f : Nat) : Prop := ∀ (w : World) (rb D : Nat) (r : Rd) (m : Int), RdAt w rb D r → Gives P f [ptr rb, .int .i64 m] w fun v w' =>
  (∀ lo, OctAt w' D lo (rSpan m r).1.2 (rSpan m r).1.1 v) ∧ RdAt w' rb D (rSpan m r).2 ∧ Keeps [rb] w w'

theorem spanA_gives {f : Nat} (F : RdFacts P c) (hT : treeIn P f noOrc [.tmp 0, .tmp 1] 2 = tSpan c) : RdSpanA P f := by
  intro w rb D r m h
  refine gives_in (ρ := en [ptr rb, .int .i64 m]) F.mix hT (Nat.le_refl _) rfl (by simp [opBelow]) ?_
  refine s_src F rfl h fun v hv hbv hh => ?_
  obtain ⟨a, cp, hav, hcp, hnil⟩ := hv.1.form
  refine s_val (v_len (a := a) (l := r.l.length) (c := cp) F.bytes hav) ?_
  refine s_val (v_cmp (kk := .i64) (a := r.l.length) (b := m) (r := decide ((r.l.length : Int) < m)) rfl rfl rfl) ?_
  refine s_cond (b := decide ((r.l.length : Int) < m)) rfl (fun hb => ?_) fun hb => ?_
  · have hlt : (r.l.length : Int) < m := by simpa using hb
    refine s_fail F (by omega) rfl h fun w' vs h' k' => ?_
    refine s_ret1 ?_
    simp only [rSpan, hlt, true_or, if_true]
    exact ⟨fun lo => octAt_nil w' D lo, h', k'⟩
  · have hge : ¬ (r.l.length : Int) < m := by simpa using hb
    refine s_val (v_cmp (kk := .i64) (a := m) (b := 0) (r := decide (m < 0)) rfl rfl rfl) ?_
    refine s_cond (b := decide (m < 0)) rfl (fun hb => ?_) fun hb => ?_
    · have hlt : m < 0 := by simpa using hb
      refine s_fail F (by omega) rfl h fun w' vs h' k' => ?_
      refine s_ret1 ?_
      simp only [rSpan, hlt, or_true, if_true]
      exact ⟨fun lo => octAt_nil w' D lo, h', k'⟩
    · have h0 : ¬ m < 0 := by simpa using hb
      obtain ⟨q, rfl⟩ : ∃ q : Nat, m = q := ⟨m.toNat, by omega⟩
      have hq : q ≤ r.l.length := by omega
      refine s_src F rfl h fun v2 hv2 hbv2 hh2 => ?_
      obtain ⟨a2, cp2, hav2, hcp2, hnil2⟩ := hv2.1.form
      refine s_val (v_slice3 (k := .i64) (k' := .i64) (a := a2) (l := r.l.length) (c := cp2) (h := q) F.bytes F.szU8 hav2 rfl rfl (by omega) (by omega)) ?_
      refine s_advance (kk := .i64) (m := q) F (by omega) rfl rfl (by simp [opBelow]) hq h fun w2 vs h2 k2 => ?_
      refine s_ret1 ?_
      simp only [rSpan, hge, h0, or_self, if_false]
      refine ⟨fun lo => ?_, by simpa using h2, k2⟩
      have hr2 := hv2.1
      have hr3 : Reads w (.slice a2 q q) 1 q ((bcells r.l).take (q * 1)) := Reads.to (v := .slice a2 q q) (m := q) (hav2 ▸ hr2) hq q (Nat.le_refl _) (fun e => by have := hnil2 e; omega) rfl
      rw [Nat.mul_one, bcells_take] at hr3
      have hblk : blkOf (.slice a2 q q) = blkOf v2 := by rw [hav2]; cases a2 <;> rfl
      suffices hs : ∀ u, u = .slice a2 q q → OctAt w2 D lo r.isNil (r.l.take (q : Int).toNat) u from hs _ rfl
      rintro u rfl
      refine ⟨?_, ?_, fun b hb => .inl (hbv2 b (hblk ▸ hb))⟩
      · have := hr3.keep k2 (by
          intro b hb hbM
          rw [hblk] at hb
          simp only [List.mem_singleton] at hbM
          exact h.1 (hbM ▸ hbv2 b hb))
        simpa [List.length_take, Nat.min_eq_left hq] using this
      · rw [← hv2.2.1, hav2]
        cases a2 <;> rfl

def tReadTags (c : Nums) (fUv fSpan fSet : Nat) : Tr :=
  .op (.alloc c.tTags) none [] <| .op (.alloc c.tTags) none [] <| .op (callOp fUv [.tmp 0]) none [] <| .loop 0 [.tmp 3] <| .op (.binOp .gtr c.tU32 (.tmp 4) (.const (.int .u32 0)) c.tU32) none [] <|
  .cond (.tmp 5) (.op (callOp fUv [.tmp 0]) none [] <| .op (callOp fUv [.tmp 0]) none [] <| .op (.convert c.tU32 c.tInt (.tmp 7)) none [] <| .op (callOp fSpan [.tmp 0, .tmp 8]) none [] <| .op (callOp fSet [.tmp 2, .tmp 6, .tmp 9]) none [] <|
    .op (.binOp .sub c.tU32 (.tmp 4) (.const (.int .u32 1)) c.tU32) none [] <| .to 0 [.tmp 11])
  (.op (.load c.tTags (.tmp 2)) none [] <| .op (.store c.tTags (.tmp 1) (.tmp 6)) none [] <| .ret [(.tmp 1, some c.tTags)])

theorem readTags_gives {f fUv fSpan fSet : Nat} (F : RdFacts P c) (T : TagFacts P c) (hUv : RdUv P fUv) (hSpan : RdSpanA P fSpan) (hSet : TagSet P fSet) (hT : treeIn P f noOrc [.tmp 0] 1 = tReadTags c fUv fSpan fSet) : RdAny P f .tags := by
  intro w rb D r h
  have hD0 := h.2.1
  have hrb0 : rb < w.heap.size := by obtain ⟨_, _, v, hh, _⟩ := h; exact hh.lt
  have hrD := h.1
  refine gives_in (ρ := en [ptr rb]) F.mix hT (Nat.le_refl _) rfl (by simp [opBelow]) ?_
  refine s_alloc T.zero fun w1 h1 k1 z1 => ?_
  refine s_alloc T.zero fun w2 h2 k2 z2 => ?_
  have k02 : Keeps [] w w2 := k1.trans k2
  refine s_callx (hUv w2 rb D r (h.keep k02 (by simp) (by simp))) rfl fun u w3 ⟨hu, hr3, k3⟩ => ?_
  simp only at hu hr3
  subst hu
  have e1 : w1.heap.size = w.heap.size + 1 := z1
  have s3 := k3.size
  have k03 : Keeps [rb] w w3 := (k02.mono (by simp)).trans k3
  refine ⟨rfl, fun vs w' => ∃ (n : Nat) (m : TM) (r' : Rd) (mv : Value), vs = [.int .u32 n] ∧ n < 2 ^ 32 ∧ RdAt w' rb D r' ∧ Has w' w.heap.size [.map none] ∧ Has w' (w.heap.size + 1) [mv] ∧ TagsZ D w' (w.heap.size + 2) m mv ∧ Keeps [rb] w w' ∧ w.heap.size + 2 ≤ w'.heap.size ∧
    rTagsN n m r' = rTags r, fun vs _ => match vs with
    | [.int _ n] => n.toNat
    | _ => 0, ?_, ?_⟩
  · refine ⟨(rUv r).1, [], (rUv r).2, .map none, rfl, rUv_lt r, hr3, (h1.keep k2 (by simp)).keep k3 (by simp; omega), (e1 ▸ h2).keep k3 (by simp; omega), .inl ⟨rfl, rfl⟩, k03, by omega, rfl⟩
  · rintro vs w4 hvs ⟨n, m, r4, mv, rfl, hn, hr4, hb1, hb2, hz, k04, hs4, hrun⟩
    simp only [List.length_cons, List.length_nil]
    refine s_val (v_cmp (kk := .u32) (a := n) (b := 0) (r := decide ((n : Int) > 0)) rfl rfl rfl) ?_
    refine s_cond (b := decide ((n : Int) > 0)) rfl (fun hpos => ?_) fun hpos => ?_
    · have hp : 0 < n := by have : (n : Int) > 0 := by simpa using hpos
                            omega
      obtain ⟨q, rfl⟩ : ∃ q, n = q + 1 := ⟨n - 1, by omega⟩
      refine s_callx (hUv w4 rb D r4 hr4) rfl fun u w5 ⟨hu, hr5, k5⟩ => ?_
      simp only at hu hr5
      subst hu
      refine s_callx (hUv w5 rb D _ hr5) rfl fun u w6 ⟨hu, hr6, k6⟩ => ?_
      simp only at hu hr6
      subst hu
      refine s_val (v_conv (k1 := .u32) (a := ((rUv (rUv r4).2).1 : Nat)) F.u32 F.int rfl) ?_
      have hw32 : IntKind.i64.wrap ((rUv (rUv r4).2).1 : Nat) = ((rUv (rUv r4).2).1 : Nat) := by
        have := rUv_lt (rUv r4).2
        exact i64_small (by omega) (by omega)
      rw [hw32]
      refine s_callx (hSpan w6 rb D _ _ hr6) rfl fun v w7 ⟨ho, hr7, k7⟩ => ?_
      have k57 : Keeps [rb] w4 w7 := (k5.trans k6).trans k7
      have s57 := k57.size
      have hz7 : TagsZ D w7 (w.heap.size + 2) m mv := hz.keep k57 (by simp only [List.mem_singleton]; exact fun e => hrD e.symm) (fun b hb => by simp only [List.mem_singleton] at hb; omega)
      refine s_callx (hSet D (w.heap.size + 2) (w.heap.size + 1) (rUv r4).1 w7 m mv v _ _ (hb2.keep k57 (by simp only [List.mem_singleton]; omega)) hz7 (by omega) (by omega) (by omega) (by omega) (rUv_lt r4) ho) (by simp only [List.map_cons, List.map_nil]; show [ptr w1.heap.size, _, _] = _; rw [e1]; rfl) fun _ w8 ⟨mv', hb8, hz8, M, k8, hM⟩ => ?_
      have hnin : ∀ b, b < w.heap.size + 1 → b ∉ M := fun b hb hbM => by rcases hM b hbM with h' | h' <;> omega
      refine s_val (v_arith (kk := .u32) (a := ((q + 1 : Nat) : Int)) (b := 1) (r := (q : Int)) rfl rfl ?_) ?_
      · simp only [arithOf, Option.some.injEq, IntKind.wrap, IntKind.bits, IntKind.signed]
        simp; omega
      refine ⟨_, rfl, ⟨q, tmSet m (rUv r4).1 (rSpan (rUv (rUv r4).2).1 (rUv (rUv r4).2).2).1.1, (rSpan (rUv (rUv r4).2).1 (rUv (rUv r4).2).2).2, mv', rfl, by omega, hr7.keep k8 (hnin rb (by omega)) (hnin D (by omega)), (hb1.keep k57 (by simp only [List.mem_singleton]; omega)).keep k8 (hnin _ (by omega)), hb8, hz8, ?_, by have := k8.size; omega, hrun⟩, ?_⟩
      · exact (((k04.trans k57).mono (fun x hx => List.mem_append_left _ hx)).trans (k8.mono fun x hx => List.mem_append_right _ hx) : Keeps ([rb] ++ M) w w8).less fun x hx => by
          rcases List.mem_append.1 hx with h' | h'
          · exact .inl h'
          · rcases hM x h' with h' | h' <;> exact .inr (by omega)
      · show q < (((q + 1 : Nat) : Int)).toNat
        omega
    · have hp : n = 0 := by have : ¬ (n : Int) > 0 := by simpa using hpos
                            omega
      subst hp
      have hst : rTags r = (m, r4) := hrun.symm
      refine s_lok (l_loadN (b := w1.heap.size) (o := 0) (cs := [mv]) T.agg rfl (e1 ▸ hb2) (by simp)) ?_
      refine s_storeAll (b := w.heap.size) (old := [.map none]) (cs := [mv]) T.agg rfl rfl hb1 rfl ?_ fun w5 h5 k5 => ?_
      · intro u hu
        simp only [List.mem_singleton] at hu
        subst hu
        rcases hz with ⟨rfl, _⟩ | ⟨_, _, _, _, rfl, _⟩ <;> rfl
      refine s_retAgg (b := w.heap.size) rfl h5 T.agg ?_
      simp only [PK.run, hst]
      refine ⟨⟨[mv], rfl, mv, rfl, ?_⟩, hr4.keep k5 (by simp only [List.mem_singleton]; omega) (by simp only [List.mem_singleton]; omega), ?_⟩
      · exact (hz.keep k5 (by simp only [List.mem_singleton]; omega) (fun b hb => by simp only [List.mem_singleton] at hb; omega)).at (by omega)
      · exact ((k04.mono (fun x hx => List.mem_append_left [w.heap.size] hx)).trans (k5.mono fun x hx => List.mem_append_right _ hx) : Keeps ([rb] ++ [w.heap.size]) w w5).less fun x hx => by
          rcases List.mem_append.1 hx with h' | h'
          · exact .inl h'
          · simp only [List.mem_singleton] at h'; exact .inr (by omega)
end
end Go.Kf
/- Numbers sorted by the library: what a caller uses. -/
namespace Go.Kf
open Go Go.Sort Go.Proofs

def encK (x : Int) : Value := .int .u32 x

/-- The sort's contract at this closure: two elements or more; one. -/
structure SortAt (P : Program) (c : Nums) (fSort g : Nat) : Prop where
  many : ∀ (blk cap : Nat) (d : Array Int) (lb : Array Value) (w : World), 2 ≤ d.size → d.size < 4611686018427387904 → LessReads P g lb encK ltInt blk 0 d.size w → Go.Sort.Holds encK w blk 0 d → blk < w.heap.size →
    Calls P fSort #[.iface c.tKeys (.slice (some ⟨blk, 0, none⟩) d.size cap), .func (.func g) #[] lb] w fun e w' => e = .returned (.tuple #[]) ∧ ∃ d' n os, PermIn 0 d.size d d' ∧ SortedIn ltInt 0 d.size d' ∧ w' = grow (putRow encK (Go.Sort.ahead w n) blk 0 d') os
  one : ∀ (p : Option Addr) (cap : Nat) (lb : Array Value) (w : World), Calls P fSort #[.iface c.tKeys (.slice p 1 cap), .func (.func g) #[] lb] w fun e w' => e = .returned (.tuple #[]) ∧ ∃ os, w' = grow w os

def tLess (c : Nums) : Tr := .draw <| .lok (.load c.tKeys (.tmp 2)) none <| .pur (.indexAddr c.tKeys (.tmp 3) (.tmp 0)) none <| .lok (.load c.tU32 (.tmp 4)) none <| .lok (.load c.tKeys (.tmp 2)) none <| .pur (.indexAddr c.tKeys (.tmp 6) (.tmp 1)) none <| .lok (.load c.tU32 (.tmp 7)) none <|
  .pur (.binOp .lss c.tU32 (.tmp 5) (.tmp 8) c.tU32) none <| .ret [(.tmp 9, none)]

section
variable {P : Program} {c : Nums} {w : World}

theorem chk_size {t s m : Nat} (h : chkInfo P t s m = true) : (P.info? t).map (·.size) = some s := by
  obtain ⟨i, z, hi, _, hs, _⟩ := info_of h
  simp [hi, hs]

theorem l_cell {t : Nat} {ρ : Nat → Value} {x : Operand} {a : Addr} {v : Value} (ht : oneTy P t = true) (hx : ev ρ x = .pointer (some a)) (hc : w.cell? a = some v) : runOp P ρ (.load t x) w = .ok (.value v) w := by
  unfold runOp bareOp
  simp only [execOp, hx, Instr.loadAt, Instr.sureAddr, loadVar, Sem.run_bind, Sem.run_pure, Result.andThen_ok, (oneTy_spec (w := w) ht).1, Bool.false_eq_true, if_false, run_load, hc]

/-- The closure that compares. -/
theorem less_gives {g : Nat} (F : RdFacts P c) (T : TagFacts P c) (hT : treeIn P g noOrc [.tmp 0, .tmp 1, .tmp 2] 3 = tLess c) {i j n cap kb ob : Nat} {G : Nat → Int} (hi : i < n) (hj : j < n) (hs : w.cell? ⟨ob, 0, none⟩ = some (.slice (some ⟨kb, 0, none⟩) n cap)) (hc : ∀ t, t < n → w.cell? ⟨kb, 0 + t, none⟩ = some (.int .u32 (G t))) :
    Gives P g [.int .i64 i, .int .i64 j, ptr ob] w fun v w' => v = .bool (decide (G i < G j)) ∧ w' = { w with drawn := w.drawn + 1 } := by
  refine gives_in (ρ := en [.int .i64 i, .int .i64 j, ptr ob]) F.mix hT (Nat.le_refl _) rfl (by simp [opBelow]) ?_
  show Tr.sem _ _ _ _ _ _ { w with drawn := w.drawn + 1 }
  have hs' : ({ w with drawn := w.drawn + 1 } : World).cell? ⟨ob, 0, none⟩ = some (.slice (some ⟨kb, 0, none⟩) n cap) := hs
  have hc' : ∀ t, t < n → ({ w with drawn := w.drawn + 1 } : World).cell? ⟨kb, 0 + t, none⟩ = some (.int .u32 (G t)) := hc
  generalize ({ w with drawn := w.drawn + 1 } : World) = w1 at *
  have hsz := chk_size T.zeroU32
  refine l_lok (l_cell T.oneKeys rfl hs') ?_
  have h1 := v_indexAddr (P := P) (ρ := ext (en [.int .i64 i, .int .i64 j, ptr ob]) 3 [.slice (some ⟨kb, 0, none⟩) n cap]) (t := c.tKeys) (x := .tmp 3) (i := .tmp 0) (b := kb) (o := 0) (l := n) (c := cap) (j := i) (kk := .i64) T.keys hsz rfl rfl (by omega) (by omega)
  rw [Int.toNat_natCast, Nat.mul_one] at h1
  refine p_val h1 (l_lok (l_cell T.oneU32 rfl (hc' i hi)) (l_lok (l_cell T.oneKeys rfl hs') ?_))
  have h2 := v_indexAddr (P := P) (ρ := ext (ext (ext (ext (en [.int .i64 i, .int .i64 j, ptr ob]) 3 [.slice (some ⟨kb, 0, none⟩) n cap]) (3 + 1) [.pointer (some ⟨kb, 0 + i, none⟩)]) (3 + 1 + 1) [.int .u32 (G i)]) (3 + 1 + 1 + 1) [.slice (some ⟨kb, 0, none⟩) n cap]) (t := c.tKeys) (x := .tmp 6) (i := .tmp 1) (b := kb) (o := 0) (l := n) (c := cap) (j := j) (kk := .i64) T.keys hsz rfl rfl (by omega) (by omega)
  rw [Int.toNat_natCast, Nat.mul_one] at h2
  refine p_val h2 (l_lok (l_cell T.oneU32 rfl (hc' j hj)) ?_)
  refine p_val (v_cmp (kk := .u32) (a := G i) (b := G j) (r := decide (G i < G j)) rfl rfl rfl) ?_
  exact s_ret1 ⟨rfl, rfl⟩

theorem keeps_grow (w : World) (os : Array Obj) : Keeps [] w (grow w os) := ⟨rfl, rfl, rfl, by simp [grow], fun k hk _ => heap_grow_old w os hk⟩

theorem keeps_putRow (w : World) (blk : Nat) (d : Array Int) (n : Nat) : Keeps [blk] w (putRow encK (Go.Sort.ahead w n) blk 0 d) := by
  refine ⟨rfl, rfl, rfl, by simp [putRow, mapBlock], fun k _ hm => ?_⟩
  simp only [List.mem_singleton] at hm
  simp only [putRow, mapBlock, Array.getElem?_modify]
  rw [if_neg (fun e => hm e.symm)]
  rfl

theorem has_putRow {w : World} {blk : Nat} {cs : List Value} (h : Has w blk cs) (d : Array Int) (n : Nat) : ∃ cs', Has (putRow encK (Go.Sort.ahead w n) blk 0 d) blk cs' ∧ cs'.length = cs.length := by
  obtain ⟨t, fr, hb, hf⟩ := h
  refine ⟨(putCells encK 0 d ⟨cs⟩).toList, ⟨t, fr, ?_, ?_⟩, ?_⟩
  · simp only [putRow, mapBlock, Array.getElem?_modify, if_true]
    show Option.map _ w.heap[blk]? = _
    rw [hb]
    rfl
  · simpa [putCells] using hf
  · simp [putCells]

/-- What a caller of the sort is given. -/
def SortGives (P : Program) (c : Nums) (fSort g : Nat) : Prop := ∀ (w : World) (ob kb cap : Nat) (ks : List Int) (spare : List Value), Has w ob [.slice (some ⟨kb, 0, none⟩) ks.length cap] → Has w kb (ks.map encK ++ spare) → ob ≠ kb → 0 < ks.length → ks.length < 4294967296 →
  Gives P fSort [.iface c.tKeys (.slice (some ⟨kb, 0, none⟩) ks.length cap), .func (.func g) #[] #[ptr ob]] w fun _ w' => ∃ (ks' : List Int) (cs' : List Value), ks'.Perm ks ∧ ks'.Pairwise (· ≤ ·) ∧ Has w' kb cs' ∧ (∀ j (hj : j < ks'.length), cs'[j]? = some (encK ks'[j])) ∧ Keeps [kb] w w'

theorem sort_gives {fSort g : Nat} (F : RdFacts P c) (T : TagFacts P c) (hg : goFn P fSort = true) (hS : SortAt P c fSort g) (hT : treeIn P g noOrc [.tmp 0, .tmp 1, .tmp 2] 3 = tLess c) : SortGives P c fSort g := by
  intro w ob kb cap ks spare ho hk hne hpos hbig
  refine ⟨hg, ?_⟩
  have hcellk : ∀ t, t < ks.length → w.cell? ⟨kb, 0 + t, none⟩ = some (encK (ks.toArray[t]!)) := fun t ht => by
    refine hk.cell ?_
    rw [Nat.zero_add, List.getElem?_append_left (by simpa using ht), List.getElem?_map, List.getElem?_eq_getElem ht]
    simp [ht]
  by_cases h1 : ks.length = 1
  · refine Calls.mono (h1 ▸ hS.one (some ⟨kb, 0, none⟩) cap #[ptr ob] w) fun e w' ⟨he, os, hw⟩ => ?_
    subst he
    subst hw
    refine ⟨ks, _, .refl _, ?_, hk.keep (keeps_grow w os) (by simp), fun j hj => ?_, (keeps_grow w os).mono (by simp)⟩
    · match ks, h1 with
      | [x], _ => simp
    · rw [List.getElem?_append_left (by simpa using hj), List.getElem?_map, List.getElem?_eq_getElem hj]; rfl
  · have hH : Go.Sort.Holds encK w kb 0 ks.toArray := fun j hj => by
      have hj' : j < ks.length := by simpa using hj
      refine ⟨hcellk j hj', ?_⟩
      obtain ⟨t, fr, hb, hf⟩ := hk
      unfold World.frozen?
      rw [show (⟨kb, 0 + j, none⟩ : Addr).block = kb from rfl, hb]
      simp only [Nat.zero_add, Bool.and_eq_false_iff, decide_eq_false_iff_not]
      simp only [List.length_append, List.length_map] at hf
      omega
    have hblk := hk.lt
    have hob := ho.lt
    have hless : LessReads P g #[ptr ob] encK ltInt kb 0 ks.toArray.size w := by
      intro m os dk hsz i j hi hj
      have hsz' : dk.size = ks.length := by simpa using hsz
      have e : sortWorld encK w kb 0 m dk os = putRow encK (grow (Go.Sort.ahead w m) os) kb 0 dk := by
        unfold sortWorld; rw [putRow_grow _ (Go.Sort.ahead w m) _ kb 0 _ hblk]
      have hHg : Go.Sort.Holds encK (grow (Go.Sort.ahead w m) os) kb 0 ks.toArray := holds_grow _ _ _ kb 0 _ hblk (holds_ahead _ _ _ _ _ _ hH)
      obtain ⟨_, hc⟩ := less_gives (w := sortWorld encK w kb 0 m dk os) (g := g) (i := i) (j := j) (n := ks.length) (cap := cap) (kb := kb) (ob := ob) (G := fun t => dk[t]!) F T hT (by simpa using hi) (by simpa using hj)
        (by
          rw [e, cell?_putRow_other _ _ kb 0 dk _ (.inl hne), cell?_grow _ _ _ hob]
          exact ho.cell rfl)
        (fun t ht => by rw [e]; exact cell?_putRow _ _ kb 0 _ dk hHg hsz t (by omega))
      refine Calls.mono hc fun e w' he => ?_
      match e, he with
      | .returned v, ⟨hv, hw⟩ => exact ⟨by rw [hv]; rfl, 1, hw⟩
    have hm := hS.many kb cap ks.toArray #[ptr ob] w (by simp; omega) (by simp; omega) hless hH hblk
    simp only [List.size_toArray] at hm
    refine Calls.mono hm fun e w' ⟨he, d', n, os, hp, hs, hw⟩ => ?_
    subst he
    subst hw
    have hd' : d'.size = ks.length := by simpa using hp.1
    have hperm : d'.toList.Perm ks := by
      have := hp.2.2
      simpa [hd', Array.extract_eq_self_of_le] using this
    obtain ⟨cs', hcs, hcl⟩ := has_putRow hk d' n
    refine ⟨d'.toList, cs', hperm, ?_, hcs.keep (keeps_grow _ os) (by simp), fun j hj => ?_, (keeps_putRow w kb d' n).trans ((keeps_grow _ os).mono (by simp))⟩
    · rw [List.pairwise_iff_getElem]
      intro i j hi hj hij
      have hi' : i < d'.size := by simpa using hi
      have hj' : j < d'.size := by simpa using hj
      have := hs i j (Nat.zero_le _) hij (by omega)
      rw [getElem!_pos d' j hj', getElem!_pos d' i hi'] at this
      simp only [ltInt, decide_eq_false_iff_not] at this
      simp only [Array.getElem_toList]
      omega
    · have hj' : j < d'.size := by simpa using hj
      have h1 := cell?_putRow encK (Go.Sort.ahead w n) kb 0 ks.toArray d' (holds_ahead _ _ _ _ _ _ hH) (by simpa using hd') j hj'
      rw [Nat.zero_add] at h1
      obtain ⟨t, fr, hb, _⟩ := hcs
      unfold World.cell? at h1
      rw [show (⟨kb, j, none⟩ : Addr).block = kb from rfl, hb] at h1
      simp only [Option.isSome_none, Bool.false_eq_true, if_false, List.getElem?_toArray] at h1
      rw [h1, getElem!_pos d' j hj']
      simp
end
end Go.Kf
/- Unknown tags, each told in turn: the loop over the map. -/
namespace Go.Kf
open Go

def keyInt (e : MapEntry) : Int := match e.key with
  | .int _ n => n
  | _ => 0

theorem v_makeIface {P : Program} {ρ : Nat → Value} {t e : Nat} {x : Operand} {v : Value} (ht : P.underlying t = some (.slice e)) (hx : ev ρ x = v) : Val P ρ (.makeInterface t x) (.iface t v) := fun w => by
  unfold runOp bareOp
  simp only [execOp, Instr.makeInterface, Sem.run_bind, run_under ht, Result.andThen_ok, hx, Sem.run_pure]

section
variable {P : Program} {c : Nums} {R : Value → World → Prop} {Γ : List (List Value → World → Prop)} {n : Nat} {ρ : Nat → Value} {w : World} {k : Tr}

/-- A function value, called. -/
theorem s_callv {g f : Nat} {xs : List Operand} {caps args : List Value} {Post : Value → World → Prop} (hf : ρ f = .func (.func g) #[] ⟨caps⟩) (hx : xs.map (ev ρ) = args) (h : Gives P g (args ++ caps) w Post) (hk : ∀ v w', Post v w' → k.sem P R Γ (n + 1) (ext ρ n [v]) w') :
    (Tr.op (.call { callee := .value (.tmp f), args := ⟨xs⟩, argTypes := #[] }) none [] k).sem P R Γ n ρ w := by
  have hrun : runOp P ρ (.call { callee := .value (.tmp f), args := ⟨xs⟩, argTypes := #[] }) w = .ok (.enter g ⟨args ++ caps⟩) w := by
    have hg := h.1
    unfold goFn at hg
    cases hfn : P.funcs[g]? with
    | none => rw [hfn] at hg; cases hg
    | some fn =>
      rw [hfn] at hg
      simp only [Bool.and_eq_true, Bool.not_eq_true'] at hg
      have hb : fn.body.isNone = false := by
        cases hx : fn.body with
        | none => rw [hx] at hg; cases hg.1
        | some c => rfl
      have hfv : ev ρ (.tmp f) = .func (.func g) #[] ⟨caps⟩ := hf
      have ha : Array.map (ev ρ) ⟨xs⟩ = ⟨args⟩ := by rw [← hx]; simp
      unfold runOp bareOp
      simp only [execOp, resolve, hfv, ha, Deferred.ofValue, pure_bind, invoke, callFunc, Sem.run_bind, run_program, Result.andThen_ok, hfn, hg.2, hb]
      simp
  simp only [Tr.sem]
  rw [hrun]
  refine Calls.mono h.2 fun e w' he => ?_
  cases e with
  | returned v => exact ⟨fun u hu => (by cases hu), fun p hp => (by cases hp), hk v w' he⟩
  | panicked c => exact he
  | outgrown => exact he

def gRange (c : Nums) (k : Tr) : Tr :=
  .loop 0 [] <| .op (.next (.tmp 17) false) none [] <| .op (.extract (.tmp 18) 0) none [] <| .cond (.tmp 19)
    (.op (.entry (.tmp 17)) none [] <| .op (.extract (.tmp 20) 0) none [] <| .op (.load c.tKeys (.tmp 12)) none [] <| .op (.buildSlice c.tKeys 1 ⟨[(0, .tmp 21)]⟩) none [] <| .op (.call { callee := .builtin .append, args := ⟨[.tmp 22, .tmp 23]⟩, argTypes := ⟨[c.tKeys, c.tKeys]⟩ }) none [] <| .op (.store c.tKeys (.tmp 12) (.tmp 24)) none [] <| .to 0 []) k

theorem keyInt_enc {es : List MapEntry} (h : Keys32 es) {e : MapEntry} (he : e ∈ es) : e.key = encK (keyInt e) := by
  obtain ⟨m, hm⟩ := h e he
  simp [keyInt, hm, encK]

/-- The keys, in the order in which the map yields them. -/
theorem s_range {it ob mb clock B : Nat} {es : List MapEntry} {ov : Value} (T : TagFacts P c) (h17 : ρ 17 = ptr it) (h12 : ρ 12 = ptr ob) (hi : IterIs w it mb clock [] clock) (hm : MapIs w mb es clock) (h32 : Keys32 es) (hp : es.Pairwise (fun a b => a.born < b.born)) (hb : ∀ e ∈ es, e.born < clock)
    (ho : Has w ob [ov]) (hown : Own w ov 1 0 []) (hio : it ≠ ob) (hit : B ≤ it) (hob : B ≤ ob) (hov : ∀ b ∈ blkOf ov, B ≤ b ∧ b ≠ it ∧ b ≠ ob) (hmb : mb < B) (hlen : es.length < 4294967296)
    (hk : ∀ (w' : World) (ρ' : Nat → Value) (ov' : Value) (ks : List Int) (M : List Nat) (Δ : List (List Value → World → Prop)), Δ.length = 1 → (∀ x, x < 18 → ρ' x = ρ x) → ks.Perm (es.map keyInt) → Has w' ob [ov'] → Own w' ov' 1 ks.length (ks.map encK) → (∀ b ∈ blkOf ov', B ≤ b ∧ b ≠ ob) → Keeps M w w' → (∀ b ∈ M, B ≤ b) → k.sem P R Δ 20 ρ' w') :
    (gRange c k).sem P R [] 18 ρ w := by
  refine ⟨rfl, fun vs w' => ∃ (dn : List MapEntry) (ov' : Value) (M : List Nat), vs = [] ∧ dn ⊆ es ∧ (dn.map (·.born)).Nodup ∧ IterIs w' it mb clock (dn.map (·.born)) clock ∧ Has w' ob [ov'] ∧ Own w' ov' 1 dn.length (dn.map fun e => encK (keyInt e)) ∧ (∀ b ∈ blkOf ov', B ≤ b ∧ b ≠ it ∧ b ≠ ob) ∧ Keeps M w w' ∧ (∀ b ∈ M, B ≤ b),
    fun _ w' => es.length - (match w'.heap[it]? with
      | some (.mapIter _ _ seen _) => seen.size
      | _ => 0), ⟨[], ov, [], rfl, by simp, by simp, hi, ho, hown, hov, .refl, fun b hb => by cases hb⟩, ?_⟩
  rintro vs w1 hvs ⟨dn, ov1, M, rfl, hsub, hnd, hi1, ho1, hown1, hov1, k1, hM⟩
  simp only [List.length_nil, Nat.add_zero]
  have hm1 : MapIs w1 mb es clock := hm.keep k1 (fun h => by have := hM _ h; omega)
  have hs1 := k1.size
  have hsz1 : (match w1.heap[it]? with | some (.mapIter _ _ seen _) => seen.size | _ => 0) = dn.length := by
    unfold IterIs at hi1
    rw [hi1]
    simp
  rcases a_next (P := P) (ρ := ext ρ 18 []) (x := .tmp 17) (by show ext ρ 18 [] 17 = _; rw [ext_lt (by omega)]; exact h17) hi1 hm1 hb with ⟨hall, w2, e2, k2⟩ | ⟨e, he, hnew, w2, e2, hi2, k2⟩
  · refine s_act e2 (fun p hp => (by cases hp)) ?_
    refine s_val (v_extract (vs := #[.bool false]) rfl rfl) ?_
    refine s_cond (b := false) rfl (fun h => by cases h) fun _ => ?_
    have hdn : dn.Perm es := by
      have n1 : dn.Nodup := by
        rw [List.nodup_iff_pairwise_ne, List.pairwise_map] at hnd
        rw [List.nodup_iff_pairwise_ne]
        exact hnd.imp fun h e => h (by rw [e])
      have n2 : es.Nodup := by
        rw [List.nodup_iff_pairwise_ne]
        exact hp.imp fun h e => by rw [e] at h; exact Nat.lt_irrefl _ h
      refine (List.perm_ext_iff_of_nodup n1 n2).2 fun a => ⟨fun h => hsub h, fun h => ?_⟩
      obtain ⟨d, hd, hdb⟩ := List.mem_map.1 (hall a h)
      have hd' := hsub hd
      have : d = a := by
        have inj : ∀ (l : List MapEntry), l.Pairwise (fun a b => a.born < b.born) → ∀ x ∈ l, ∀ y ∈ l, x.born = y.born → x = y := by
          intro l
          induction l with
          | nil => intro _ x hx; cases hx
          | cons z l ih =>
            intro hl x hx y hy hxy
            rw [List.pairwise_cons] at hl
            rcases List.mem_cons.1 hx with rfl | hx' <;> rcases List.mem_cons.1 hy with rfl | hy'
            · rfl
            · have := hl.1 y hy'; omega
            · have := hl.1 x hx'; omega
            · exact ih hl.2 x hx' y hy' hxy
        exact inj es hp d hd' a h hdb
      rw [← this]; exact hd
    refine hk w2 _ ov1 (dn.map keyInt) M _ (by simp) (fun x hx => by rw [ext_lt (by omega), ext_lt (by omega), ext_lt (by omega)]) (hdn.map _) (ho1.keep k2 (by simp)) ?_ (fun b hb => ⟨(hov1 b hb).1, (hov1 b hb).2.2⟩) (k1.trans (k2.mono (by simp))) hM
    rw [List.length_map, List.map_map]
    exact hown1.keep k2 (by simp)
  · refine s_act e2 (fun p hp => (by cases hp)) ?_
    refine s_val (v_extract (vs := #[.bool true, e.key, e.val]) rfl rfl) ?_
    refine s_cond (b := true) rfl (fun _ => ?_) (fun h => by cases h)
    have hm2 : MapIs w2 mb es clock := hm1.keep k2 (by simp only [List.mem_singleton]; omega)
    refine s_lok (l_entry (x := .tmp 17) (by show ext _ _ _ 17 = _; rw [ext_lt (by omega), ext_lt (by omega), ext_lt (by omega)]; exact h17) hi2 hm2 he hp) ?_
    refine s_val (v_extract (vs := #[e.key, e.val]) rfl rfl) ?_
    have ho2 : Has w2 ob [ov1] := ho1.keep k2 (by simp only [List.mem_singleton]; exact fun h => hio h.symm)
    have hown2 : Own w2 ov1 1 dn.length (dn.map fun e => encK (keyInt e)) := hown1.keep k2 (fun b hb => by simp only [List.mem_singleton]; exact (hov1 b hb).2.1)
    refine s_lok (l_load1 (b := ob) (o := 0) T.oneKeys (by show ext _ _ _ 12 = _; rw [ext_lt (by omega), ext_lt (by omega), ext_lt (by omega), ext_lt (by omega), ext_lt (by omega)]; exact h12) ho2 rfl) ?_
    obtain ⟨inf, z, hinf, hz, hsz, hzc, hby⟩ := info_of T.zeroU32
    have hkey := keyInt_enc h32 he
    obtain ⟨w3, e3, h3, k3, s3⟩ := a_sliceOne (P := P) (ρ := ext (ext (ext (ext (ext (ext ρ 18 []) 18 [.tuple #[.bool true, e.key, e.val]]) (18 + 1) [.bool true]) (18 + 1 + 1) [.tuple #[e.key, e.val]]) (18 + 1 + 1 + 1) [e.key]) (18 + 1 + 1 + 1 + 1) [ov1]) (w := w2) (t := c.tKeys) (x := .tmp 21) (z := z) (cs := [e.key]) T.keys (by simp [zeroTy, hinf, hz, hsz]) (by simp) (by simp) (by show (e.key).cells = _; rw [hkey]; rfl)
    refine s_act e3 (fun p hp => (by cases hp)) ?_
    have hr3 : Reads w3 (.slice (some ⟨w2.heap.size, 0, none⟩) 1 1) 1 1 [e.key] := ⟨by simp, .inr ⟨w2.heap.size, 0, 1, [e.key], rfl, Nat.le_refl _, h3, by simp, by simp⟩⟩
    have hdl : dn.length + 1 ≤ es.length := by
      have : (dn.map (·.born) ++ [e.born]).length ≤ (es.map (·.born)).length := List.Nodup.length_le_of_subset (by
        rw [List.nodup_append]
        refine ⟨hnd, by simp, fun a ha b hb' => ?_⟩
        simp only [List.mem_singleton] at hb'
        subst hb'
        exact fun h => hnew (h ▸ ha)) (by
        intro x hx
        rcases List.mem_append.1 hx with h | h
        · obtain ⟨d, hd, rfl⟩ := List.mem_map.1 h
          exact List.mem_map_of_mem (hsub hd)
        · simp only [List.mem_singleton] at h
          subst h
          exact List.mem_map_of_mem he)
      simpa using this
    obtain ⟨ov4, w4, e4, hown4, k4, hb4⟩ := a_append (P := P) (ρ := ext (ext (ext (ext (ext (ext (ext ρ 18 []) 18 [.tuple #[.bool true, e.key, e.val]]) (18 + 1) [.bool true]) (18 + 1 + 1) [.tuple #[e.key, e.val]]) (18 + 1 + 1 + 1) [e.key]) (18 + 1 + 1 + 1 + 1) [ov1]) (18 + 1 + 1 + 1 + 1 + 1) [.slice (some ⟨w2.heap.size, 0, none⟩) 1 1]) (w := w3) (t := c.tKeys) (tx := c.tKeys) (x := .tmp 22) (y := .tmp 23) T.keys hinf hz hsz hzc rfl rfl (hown2.keep k3 (by simp)) (hr3.src T.keys (by
        intro u hu
        simp only [List.mem_singleton] at hu
        subst hu
        rw [hkey]; rfl)) (by
        have : (dn.length + 1) * inf.bytes ≤ 4294967296 * 8 := Nat.mul_le_mul (by omega) hby
        omega) (by omega)
    refine s_act e4 (fun p hp => (by cases hp)) ?_
    have hlt1 := hown2.lt
    have hnob : ob ∉ blkOf ov1 := fun h => (hov1 ob h).2.2 rfl
    have ho4 : Has w4 ob [ov1] := (ho2.keep k3 (by simp)).keep k4 hnob
    have hl2 := ho2.lt
    obtain ⟨w5, e5, h5, k5⟩ := a_store1 (P := P) (ρ := ext (ext (ext (ext (ext (ext (ext (ext ρ 18 []) 18 [.tuple #[.bool true, e.key, e.val]]) (18 + 1) [.bool true]) (18 + 1 + 1) [.tuple #[e.key, e.val]]) (18 + 1 + 1 + 1) [e.key]) (18 + 1 + 1 + 1 + 1) [ov1]) (18 + 1 + 1 + 1 + 1 + 1) [.slice (some ⟨w2.heap.size, 0, none⟩) 1 1]) (18 + 1 + 1 + 1 + 1 + 1 + 1) [ov4]) (w := w4) (t := c.tKeys) (x := .tmp 12) (y := .tmp 24) (b := ob) (o := 0) T.oneKeys (by show ext _ _ _ 12 = _; rw [ext_lt (by omega), ext_lt (by omega), ext_lt (by omega), ext_lt (by omega), ext_lt (by omega), ext_lt (by omega), ext_lt (by omega), ext_lt (by omega)]; exact h12) rfl hown4.one ho4 (by simp)
    refine s_unit e5 (fun p hp => (by cases hp)) ?_
    have hs2 := k2.size
    have hs3 := k3.size
    have hs4 := k4.size
    have hov4 : ∀ b ∈ blkOf ov4, B ≤ b ∧ b ≠ it ∧ b ≠ ob := fun b hb' => by
      rcases hb4 b hb' with h | h
      · exact hov1 b h
      · have := hi2.lt
        exact ⟨by omega, by omega, by omega⟩
    have hi5 : IterIs w5 it mb clock ((dn ++ [e]).map (·.born)) clock := by
      rw [List.map_append]
      exact ((hi2.keep k3 (by simp)).keep k4 (fun h => (hov1 it h).2.1 rfl)).keep k5 (by simp only [List.mem_singleton]; exact hio)
    refine ⟨_, rfl, ⟨dn ++ [e], ov4, (M ++ [it]) ++ (blkOf ov1 ++ [ob]), rfl, ?_, ?_, hi5, h5, ?_, hov4, ?_, ?_⟩, ?_⟩
    · intro x hx
      rcases List.mem_append.1 hx with h | h
      · exact hsub h
      · simp only [List.mem_singleton] at h; rw [h]; exact he
    · rw [List.map_append, List.nodup_append]
      refine ⟨hnd, by simp, fun a ha b hb' => ?_⟩
      simp only [List.map_cons, List.map_nil, List.mem_singleton] at hb'
      subst hb'
      exact fun h => hnew (h ▸ ha)
    · have := hown4.keep k5 (fun b hb' => by simp only [List.mem_singleton]; exact (hov4 b hb').2.2)
      rw [List.map_append, List.length_append]
      simpa [hkey] using this
    · refine ((k1.mono fun x hx => ?_).trans (k2.mono fun x hx => ?_)).trans (((k3.mono (by simp)).trans (k4.mono fun x hx => ?_)).trans (k5.mono fun x hx => ?_))
      · exact List.mem_append_left _ (List.mem_append_left _ hx)
      · exact List.mem_append_left _ (List.mem_append_right _ hx)
      · exact List.mem_append_right _ (List.mem_append_left _ hx)
      · exact List.mem_append_right _ (List.mem_append_right _ hx)
    · intro b hb'
      rcases List.mem_append.1 hb' with h | h
      · rcases List.mem_append.1 h with h | h
        · exact hM b h
        · simp only [List.mem_singleton] at h; omega
      · rcases List.mem_append.1 h with h | h
        · exact (hov1 b h).1
        · simp only [List.mem_singleton] at h; omega
    · have hsz5 : (match w5.heap[it]? with | some (.mapIter _ _ seen _) => seen.size | _ => 0) = dn.length + 1 := by
        unfold IterIs at hi5
        rw [hi5]
        simp
      rw [hsz1, hsz5]
      omega
end
end Go.Kf
/- Unknown tags that are only read: their octets may be anyone's. -/
namespace Go.Kf
open Go

def EntR (w : World) (e : MapEntry) (p : Nat × List UInt8) : Prop := e.key = .int .u32 p.1 ∧ Ro w e.val 1 p.2.length (bcells p.2)

def EntsR (w : World) : List MapEntry → TM → Prop
  | [], [] => True
  | e :: es, p :: m => EntR w e p ∧ EntsR w es m
  | _, _ => False

def TagsR (w : World) (m : TM) (v : Value) : Prop :=
  (v = .map none ∧ m = []) ∨ ∃ b es clock, v = .map (some b) ∧ w.heap[b]? = some (.map es clock) ∧ EntsR w es.toList m ∧ es.toList.Pairwise (fun a b => a.born < b.born) ∧ (∀ e ∈ es.toList, e.born < clock) ∧
    (∀ p ∈ m, p.1 < 2 ^ 32) ∧ (m.map (·.1)).Nodup ∧ m ≠ []

theorem EntsAt.r {D lo : Nat} {w : World} : ∀ {es : List MapEntry} {m : TM}, EntsAt D w lo es m → EntsR w es m
  | [], [], _ => trivial
  | _ :: _, _ :: _, hh => ⟨⟨hh.1.1, by obtain ⟨nl, h⟩ := hh.1.2; exact Ro.of_reads h.1⟩, EntsAt.r hh.2⟩
  | [], _ :: _, hh => hh.elim
  | _ :: _, [], hh => hh.elim

theorem TagsAt.r {D lo : Nat} {w : World} {m : TM} {v : Value} (h : TagsAt D w lo m v) : TagsR w m v := by
  rcases h with h | ⟨b, es, clock, hb, hv, hh, he, hr⟩
  · exact .inl h
  · exact .inr ⟨b, es, clock, hv, hh, he.r, hr⟩

theorem EntsR.len {w : World} : ∀ {es : List MapEntry} {m : TM}, EntsR w es m → es.length = m.length
  | [], [], _ => rfl
  | _ :: _, _ :: _, ⟨_, h⟩ => by simp [EntsR.len h]
  | [], _ :: _, h => h.elim
  | _ :: _, [], h => h.elim

theorem EntsR.get {w : World} : ∀ {es : List MapEntry} {m : TM} {i : Nat} {p : Nat × List UInt8}, EntsR w es m → m[i]? = some p → ∃ e, es[i]? = some e ∧ EntR w e p
  | e :: es, q :: m, 0, p, ⟨h, _⟩, hi => by
    simp only [List.getElem?_cons_zero, Option.some.injEq] at hi
    subst hi
    exact ⟨e, rfl, h⟩
  | e :: es, q :: m, i + 1, p, ⟨_, h⟩, hi => by
    simp only [List.getElem?_cons_succ] at hi ⊢
    exact EntsR.get h hi
  | [], [], _, _, _, hi => by simp at hi
  | [], _ :: _, _, _, h, _ => h.elim
  | _ :: _, [], _, _, h, _ => h.elim

theorem EntsR.keyInts {w : World} : ∀ {es : List MapEntry} {m : TM}, EntsR w es m → es.map keyInt = m.map fun p => (p.1 : Int)
  | [], [], _ => rfl
  | e :: es, p :: m, ⟨h, h2⟩ => by
    simp only [List.map_cons, EntsR.keyInts h2]
    congr 1
    simp [keyInt, h.1]
  | [], _ :: _, h => h.elim
  | _ :: _, [], h => h.elim

theorem EntsR.keys {w : World} : ∀ {es : List MapEntry} {m : TM}, EntsR w es m → Keys32 es
  | [], [], _ => fun e h => by cases h
  | e :: es, p :: m, ⟨h1, h2⟩ => fun x hx => by
    rcases List.mem_cons.1 hx with h | h
    · rw [h]; exact ⟨_, h1.1⟩
    · exact EntsR.keys h2 x h
  | [], _ :: _, h => h.elim
  | _ :: _, [], h => h.elim

theorem EntR.is {w : World} {e : MapEntry} {p : Nat × List UInt8} (h : EntR w e p) (k : Nat) : keyIs k e = decide (p.1 = k) := by
  simp only [keyIs, h.1]
  by_cases hk : p.1 = k
  · simp [hk]
  · have : ((k : Int) == (p.1 : Int)) = false := by simp; omega
    simp [hk, this]

/-- Kept, whatever changes elsewhere. -/
theorem TagsR.keep {w w' : World} {m : TM} {v : Value} (h : TagsR w m v) (hk : Keeps [] w w') : TagsR w' m v := by
  rcases h with h | ⟨b, es, clock, hv, hh, he, hr⟩
  · exact .inl h
  · refine .inr ⟨b, es, clock, hv, ?_, ?_, hr⟩
    · rw [hk.block b (Array.getElem?_eq_some_iff.1 hh).1 (by simp)]; exact hh
    · exact imp he
  where imp : ∀ {es : List MapEntry} {m : TM}, EntsR w es m → EntsR w' es m
  | [], [], _ => trivial
  | _ :: _, _ :: _, hh => ⟨⟨hh.1.1, hh.1.2.keep hk⟩, imp hh.2⟩
  | [], _ :: _, hh => hh.elim
  | _ :: _, [], hh => hh.elim
end Go.Kf
/- Unknown tags, each told in turn: as a whole. -/
namespace Go.Kf
open Go

def tmGet (m : TM) (k : Nat) : List UInt8 := match m.find? (fun p => Nat.beq p.1 k) with
  | some p => p.2
  | none => []

def leInt (a b : Int) : Bool := decide (a ≤ b)

/-- Tags by rising numbers. -/
def sortTM (m : TM) : TM := ((m.map fun p => (p.1 : Int)).mergeSort leInt).map fun k => (k.toNat, tmGet m k.toNat)

theorem sorted_eq {ks ks' : List Int} (h : ks'.Perm ks) (hs : ks'.Pairwise (· ≤ ·)) : ks' = ks.mergeSort leInt := by
  have h2 := List.pairwise_mergeSort (le := leInt) (fun a b c h1 h2 => by simp only [leInt, decide_eq_true_eq] at *; omega) (fun a b => by simp only [leInt, Bool.or_eq_true, decide_eq_true_eq]; omega) ks
  refine List.Perm.eq_of_pairwise (le := fun a b => a ≤ b) (fun a b _ _ h1 h2 => by omega) hs (h2.imp fun h => by simpa [leInt] using h) (h.trans (List.mergeSort_perm ks leInt).symm)

theorem tmGet_eq : ∀ {m : TM} {i : Nat} {p : Nat × List UInt8}, (m.map (·.1)).Nodup → m[i]? = some p → tmGet m p.1 = p.2
  | q :: m, 0, p, _, hi => by
    simp only [List.getElem?_cons_zero, Option.some.injEq] at hi
    subst hi
    simp [tmGet]
  | q :: m, i + 1, p, hn, hi => by
    simp only [List.map_cons, List.nodup_cons] at hn
    simp only [List.getElem?_cons_succ] at hi
    have hne : ¬ q.1 = p.1 := fun e => hn.1 (e ▸ List.mem_map_of_mem (List.mem_of_getElem? hi))
    have := tmGet_eq hn.2 hi
    unfold tmGet at this ⊢
    rw [List.find?_cons_of_neg (by simp [hne])]
    exact this
  | [], _, _, _, hi => by simp at hi

def tEach (c : Nums) (gLess fSort : Nat) : Tr :=
  gGet (.tmp 0) c.tTags 0 c.tMap 2 <| .op (.call { callee := .builtin .len, args := ⟨[.tmp 4]⟩, argTypes := ⟨[c.tMap]⟩ }) none [] <| .op (.binOp .eql c.tInt (.tmp 5) (.const (.int .i64 0)) c.tInt) none [] <| .cond (.tmp 6) (.ret []) <|
  gGet (.tmp 0) c.tTags 0 c.tMap 7 <| .op (.call { callee := .builtin .len, args := ⟨[.tmp 9]⟩, argTypes := ⟨[c.tMap]⟩ }) none [] <| .op (.makeSlice c.tKeys (.const (.int .i64 0)) (.tmp 10)) none [] <| .op (.alloc c.tKeys) none [] <| .op (.store c.tKeys (.tmp 12) (.tmp 11)) none [] <|
  gGet (.tmp 0) c.tTags 0 c.tMap 14 <| .op (.range c.tMap (.tmp 16)) none [] <| gRange c <|
  .op (.load c.tKeys (.tmp 12)) none [] <| .op (.makeInterface c.tKeys (.tmp 20)) none [] <| .op (.makeFunc (.func gLess) ⟨[]⟩ ⟨[.tmp 12]⟩) none [] <| .op (callOp fSort [.tmp 21, .tmp 22]) none [] <| .op (.load c.tKeys (.tmp 12)) none [] <|
  .op (.call { callee := .builtin .len, args := ⟨[.tmp 24]⟩, argTypes := ⟨[c.tKeys]⟩ }) none [] <| .loop 1 [.const (.int .i64 0)] <| .op (.binOp .lss c.tInt (.tmp 26) (.tmp 25) c.tInt) none [] <| .cond (.tmp 27)
    (.op (.indexAddr c.tKeys (.tmp 24) (.tmp 26)) none [] <| .op (.load c.tU32 (.tmp 28)) none [] <| gGet (.tmp 0) c.tTags 0 c.tMap 30 <| .op (.lookup c.tMap (.tmp 32) (.tmp 29) false) none [] <|
      .op (.call { callee := .value (.tmp 1), args := ⟨[.tmp 29, .tmp 33]⟩, argTypes := #[] }) none [] <| .op (.binOp .add c.tInt (.tmp 26) (.const (.int .i64 1)) c.tInt) none [] <| .to 1 [.tmp 35]) (.ret [])

theorem Reads.blk_lt {w : World} {v : Value} {sz n : Nat} {xs : List Value} (h : Reads w v sz n xs) : ∀ b ∈ blkOf v, b < w.heap.size := by
  rcases h.2 with ⟨rfl, _⟩ | ⟨b, o, cap, cs, rfl, _, hh, _⟩
  · intro b hb; cases hb
  · intro x hx
    simp only [blkOf, List.mem_singleton] at hx
    subst hx
    exact hh.lt

/-- What is owed for the closure's call, and what Each then gives. -/
def EachGives (P : Program) (f : Nat) : Prop := ∀ (w0 w : World) (V o gCl : Nat) (cs : List Value) (mv cap : Value) (m : TM) (J : Nat → TM → World → Prop) (M0 : List Nat),
  Has w0 V cs → cs[o]? = some mv → TagsR w0 m mv → m.length < 1073741826 → Keeps [] w0 w → (∀ b ∈ M0, w0.heap.size ≤ b ∧ b < w.heap.size) → (∀ w', Keeps [] w w' → J w'.heap.size [] w') →
  (∀ (h : Nat) (pre : TM) (p : Nat × List UInt8) (v : Value) (w1 : World), J h pre w1 → h ≤ w1.heap.size → w.heap.size ≤ h → (pre.length < m.length ∧ ∃ j, pre ++ [p] = (sortTM m).take j) → Ro w1 v 1 p.2.length (bcells p.2) → Ro w0 v 1 p.2.length (bcells p.2) → p ∈ m → Gives P gCl [.int .u32 p.1, v, cap] w1 fun _ w2 => J h (pre ++ [p]) w2 ∧ ∃ M, Keeps M w1 w2 ∧ ∀ b ∈ M, b ∈ M0 ∨ h ≤ b) →
  Gives P f [ptr V o, .func (.func gCl) #[] #[cap]] w fun _ w' => (∃ h, w.heap.size ≤ h ∧ J h (sortTM m) w') ∧ Keeps M0 w w'

section
variable {P : Program} {c : Nums}

theorem v_makeFunc1 {ρ : Nat → Value} {g : Nat} {x : Operand} {v : Value} (hx : ev ρ x = v) : Val P ρ (.makeFunc (.func g) ⟨[]⟩ ⟨[x]⟩) (.func (.func g) #[] #[v]) := by
  subst hx
  exact v_makeFunc

theorem pair_eq {α : Type} {a b c d : α} (h1 : a = c) (h2 : b = d) : [a, b] = [c, d] := by rw [h1, h2]

theorem sortTM_nil : sortTM [] = [] := by simp [sortTM]

theorem each_gives {f gLess fSort : Nat} (F : RdFacts P c) (T : TagFacts P c) (hS : SortGives P c fSort gLess) (hT : treeIn P f noOrc [.tmp 0, .tmp 1] 2 = tEach c gLess fSort) : EachGives P f := by
  intro w0 w V o gCl cs mv cap m J M0 hV hmv htags hml k0 hM0 hJ0 hJ
  refine gives_in (ρ := en [ptr V o, .func (.func gCl) #[] #[cap]]) F.mix hT (Nat.le_refl _) rfl (by simp [opBelow]) ?_
  have hmv' : cs[o + 0]? = some mv := hmv
  refine s_get (b := V) (o := o) T.f0 T.oneMap rfl (hV.keep k0 (by simp)) hmv' ?_
  rcases htags with ⟨rfl, rfl⟩ | ⟨mb, esA, clock, rfl, hmA, he, hp, hborn, h32, hnd, hne⟩
  · refine s_val (v_lenNilMap T.map rfl) ?_
    refine s_val (v_cmp (kk := .i64) (a := 0) (b := 0) (r := true) rfl rfl rfl) ?_
    refine s_cond (b := true) rfl (fun _ => s_ret0 ⟨⟨_, Nat.le_refl _, by rw [sortTM_nil]; exact hJ0 w .refl⟩, .refl⟩) (fun h => by cases h)
  obtain ⟨es, rfl⟩ : ∃ es, esA = ⟨es⟩ := ⟨esA.toList, rfl⟩
  have hm0 : MapIs w0 mb es clock := hmA
  simp only at he hp hborn
  have hlen := he.len
  have hpos : 0 < es.length := by
    rw [hlen]
    exact List.length_pos_iff.2 hne
  have hk32 := he.keys
  have hne0 : ((es.length : Int) == 0) = false := by
    have h : (es.length : Int) ≠ 0 := by omega
    exact beq_eq_false_iff_ne.2 h
  refine s_lok (l_lenMap T.map rfl (hm0.keep k0 (by simp))) ?_
  refine s_val (v_cmp (kk := .i64) (a := es.length) (b := 0) (r := false) rfl rfl (by rw [cmpOf, hne0])) ?_
  refine s_cond (b := false) rfl (fun h => by cases h) fun _ => ?_
  refine s_get (b := V) (o := o) T.f0 T.oneMap rfl (hV.keep k0 (by simp)) hmv' ?_
  refine s_lok (l_lenMap T.map rfl (hm0.keep k0 (by simp))) ?_
  obtain ⟨inf, z, hinf, hz, hsz, hzc, hby⟩ := info_of T.zeroU32
  generalize hρ : ext (ext (ext (ext (ext (en [ptr V o, .func (.func gCl) #[] #[cap]]) 2 _) _ _) _ _) _ _) _ _ = ρ1
  have r0 : ρ1 0 = ptr V o := by subst hρ; rfl
  have r1 : ρ1 1 = .func (.func gCl) #[] #[cap] := by subst hρ; rfl
  have r10 : ρ1 10 = .int .i64 es.length := by subst hρ; rfl
  clear hρ
  obtain ⟨w1, e1, h1, k1, z1⟩ := a_makeSlice (P := P) (ρ := ρ1) (w := w) (t := c.tKeys) (x := .const (.int .i64 0)) (y := .tmp 10) (k1 := .i64) (k2 := .i64) (l := 0) (c := es.length) T.keys hinf hz (by rw [hzc, hsz]) (by rw [hsz]; decide) rfl r10 (Int.le_refl _) (by omega) (by
    have : inf.bytes * es.length ≤ 8 * 1073741826 := Nat.mul_le_mul hby (by omega)
    have h2 : ((inf.bytes * es.length : Nat) : Int) = (inf.bytes : Int) * es.length := Int.natCast_mul _ _
    omega) (by omega)
  refine s_act e1 (fun p hp => (by cases hp)) ?_
  obtain ⟨w2, e2, h2, k2, z2⟩ := a_alloc (P := P) (ρ := ext ρ1 (7 + 3 + 1) [.slice (some ⟨w.heap.size, 0, none⟩) (0 : Int).toNat ((es.length : Nat) : Int).toNat]) (w := w1) T.zeroKeys
  refine s_act e2 (fun p hp => (by cases hp)) ?_
  obtain ⟨w3, e3, h3, k3⟩ := a_store1 (P := P) (ρ := ext (ext ρ1 (7 + 3 + 1) [.slice (some ⟨w.heap.size, 0, none⟩) (0 : Int).toNat ((es.length : Nat) : Int).toNat]) (7 + 3 + 1 + 1) [.pointer (some ⟨w1.heap.size, 0, none⟩)]) (w := w2) (t := c.tKeys) (x := .tmp 12) (y := .tmp 11) (b := w1.heap.size) (o := 0) (v := .slice (some ⟨w.heap.size, 0, none⟩) 0 es.length) T.oneKeys rfl rfl rfl h2 (by simp [Value.cells])
  refine s_unit e3 (fun p hp => (by cases hp)) ?_
  have k03 : Keeps [] w w3 := ((k1.trans k2).mono (by simp) |>.trans k3).less fun x hx => .inr (by simp only [List.mem_singleton] at hx; omega)
  have kw03 := k0.trans k03
  refine s_get (n := 14) (b := V) (o := o) T.f0 T.oneMap (by show ext _ _ _ 0 = _; rw [ext_lt (by omega), ext_lt (by omega), ext_lt (by omega), r0]) (hV.keep kw03 (by simp)) hmv' ?_
  obtain ⟨w4, e4, hi4, k4, z4⟩ := a_range (P := P) (w := w3) (t := c.tMap) (x := .tmp 16) (ρ := ext (ext (ext (ext ρ1 (7 + 3 + 1) [.slice (some ⟨w.heap.size, 0, none⟩) (0 : Int).toNat ((es.length : Nat) : Int).toNat]) (7 + 3 + 1 + 1) [.pointer (some ⟨w1.heap.size, 0, none⟩)]) (7 + 3 + 1 + 1 + 1) [undef]) 14 [ptr V o, ptr V (o + 0), .map (some mb)]) T.map rfl (hm0.keep kw03 (by simp))
  refine s_act e4 (fun p hp => (by cases hp)) ?_
  have s1 := k1.size
  have s2 := k2.size
  have s3 := k3.size
  have s4 := k4.size
  have s0 := k0.size
  have hm0lt := hm0.lt
  have hVlt := hV.lt
  have k04 := k03.trans k4
  have hcap : Has w4 w.heap.size ((List.replicate ((es.length : Nat) : Int).toNat z.cells.toList).flatten) := ((h1.keep k2 (by simp)).keep k3 (by simp only [List.mem_singleton]; omega)).keep k4 (by simp)
  have hflat : ((List.replicate ((es.length : Nat) : Int).toNat z.cells.toList).flatten).length = es.length := by
    rw [List.length_flatten, List.map_replicate, List.sum_replicate_nat]
    have : z.cells.toList.length = 1 := by simpa using hzc
    rw [this]; simp
  have hown : Own w4 (.slice (some ⟨w.heap.size, 0, none⟩) 0 es.length) 1 0 [] := ⟨rfl, .inr ⟨w.heap.size, es.length, _, rfl, by simpa using hcap, Nat.zero_le _, by omega, by simpa using hflat⟩⟩
  have ho4 : Has w4 w1.heap.size [.slice (some ⟨w.heap.size, 0, none⟩) 0 es.length] := by
    have := h3.keep k4 (by simp)
    simpa [Value.cells] using this
  generalize hρ2 : ext (ext (ext (ext (ext ρ1 _ _) _ _) _ _) 14 _) (14 + 3) _ = ρ2
  have q0 : ρ2 0 = ptr V o := by subst hρ2; rw [ext_lt (by omega), ext_lt (by omega), ext_lt (by omega), ext_lt (by omega), ext_lt (by omega), r0]
  have q1 : ρ2 1 = .func (.func gCl) #[] #[cap] := by subst hρ2; rw [ext_lt (by omega), ext_lt (by omega), ext_lt (by omega), ext_lt (by omega), ext_lt (by omega), r1]
  have q12 : ρ2 12 = ptr w1.heap.size := by subst hρ2; rw [ext_lt (by omega), ext_lt (by omega), ext_lt (by omega)]; exact ext_at
  have q17 : ρ2 17 = ptr w3.heap.size := by subst hρ2; exact ext_at
  clear hρ2
  refine s_range (B := w.heap.size) T q17 q12 hi4 ((hm0.keep kw03 (by simp)).keep k4 (by simp)) hk32 hp hborn ho4 hown (by omega) (by omega) (by omega) (fun b hb => by simp only [blkOf, List.mem_singleton] at hb; omega) (by omega) (by omega) ?_
  intro w5 ρ3 ov ks M Δ hΔ hag hperm ho5 hown5 hov5 k5 hM
  have hkl : ks.length = es.length := by rw [hperm.length_eq, List.length_map]
  rcases hown5.2 with ⟨_, h0⟩ | ⟨kb, kcap, spare, rfl, hk5, _, _, _⟩
  · omega
  have hkb := hov5 kb (by simp [blkOf])
  have p12 : ρ3 12 = ptr w1.heap.size := by rw [hag 12 (by omega)]; exact q12
  refine s_lok (l_load1 (b := w1.heap.size) (o := 0) T.oneKeys p12 ho5 rfl) ?_
  refine s_val (v_makeIface (v := .slice (some ⟨kb, 0, none⟩) ks.length kcap) T.keys ext_at) ?_
  refine s_val (v_makeFunc1 (v := ptr w1.heap.size) (by show ext _ _ _ 12 = _; rw [ext_lt (by omega), ext_lt (by omega)]; exact p12)) ?_
  have k05 : Keeps [] w w5 := ((k04.mono (by simp)).trans k5).less fun x hx => .inr (hM x hx)
  refine s_callx (hS w5 w1.heap.size kb kcap ks spare ho5 hk5 (fun e => hkb.2 e.symm) (by omega) (by omega)) (pair_eq (by show ext _ _ _ 21 = _; rw [ext_lt (by omega)]; exact ext_at) ext_at) fun u w6 ⟨ks', kcs, hperm', hsort, hk6, hkc, k6⟩ => ?_
  have hks : ks' = (m.map fun p => (p.1 : Int)).mergeSort leInt := sorted_eq (hperm'.trans (hperm.trans (by rw [he.keyInts]))) hsort
  have hkl' : ks'.length = ks.length := hperm'.length_eq
  have ho6 : Has w6 w1.heap.size [.slice (some ⟨kb, 0, none⟩) ks.length kcap] := ho5.keep k6 (by simp only [List.mem_singleton]; exact fun e => hkb.2 e.symm)
  have s6 := k6.size
  have s5 := k5.size
  have k06 : Keeps [] w w6 := ((k05.mono (by simp)).trans k6).less fun x hx => .inr (by simp only [List.mem_singleton] at hx; omega)
  refine s_lok (l_load1 (b := w1.heap.size) (o := 0) T.oneKeys (by show ext _ _ _ 12 = _; rw [ext_lt (by omega), ext_lt (by omega), ext_lt (by omega), ext_lt (by omega)]; exact p12) ho6 rfl) ?_
  refine s_val (v_len (a := some ⟨kb, 0, none⟩) (l := ks.length) (c := kcap) T.keys rfl) ?_
  generalize hρ4 : ext (ext (ext (ext (ext (ext ρ3 20 _) _ _) _ _) _ _) _ _) _ _ = ρ4
  have t0 : ρ4 0 = ptr V o := by subst hρ4; rw [ext_lt (by omega), ext_lt (by omega), ext_lt (by omega), ext_lt (by omega), ext_lt (by omega), ext_lt (by omega), hag 0 (by omega), q0]
  have t1 : ρ4 1 = .func (.func gCl) #[] #[cap] := by subst hρ4; rw [ext_lt (by omega), ext_lt (by omega), ext_lt (by omega), ext_lt (by omega), ext_lt (by omega), ext_lt (by omega), hag 1 (by omega), q1]
  have t24 : ρ4 24 = .slice (some ⟨kb, 0, none⟩) ks.length kcap := by subst hρ4; rw [ext_lt (by omega)]; exact ext_at
  have t25 : ρ4 25 = .int .i64 ks.length := by subst hρ4; exact ext_at
  clear hρ4
  have hkb6 := hk6.lt
  have hob6 := ho6.lt
  have hloop := s_count (P := P) (R := fun _ w' => (∃ h, w.heap.size ≤ h ∧ J h (sortTM m) w') ∧ Keeps M0 w w') (Γ := Δ) (n := 26) (q := 25) (ρ := ρ4) (w := w6) (kk := .i64) (t := c.tInt) (m := ks.length) (ri := [])
    (body := .op (.indexAddr c.tKeys (.tmp 24) (.tmp 26)) none [] <| .op (.load c.tU32 (.tmp 28)) none [] <| gGet (.tmp 0) c.tTags 0 c.tMap 30 <| .op (.lookup c.tMap (.tmp 32) (.tmp 29) false) none [] <|
      .op (.call { callee := .value (.tmp 1), args := ⟨[.tmp 29, .tmp 33]⟩, argTypes := #[] }) none [] <| .op (.binOp .add c.tInt (.tmp 26) (.const (.int .i64 1)) c.tInt) none [] <| .to 1 [.tmp 35]) (after := .ret [])
    (fun j w' => J w6.heap.size ((sortTM m).take j) w' ∧ ∃ M, Keeps M w6 w' ∧ ∀ b ∈ M, b ∈ M0 ∨ w6.heap.size ≤ b) (by omega) t25 ⟨by simpa using hJ0 w6 k06, [], .refl, fun b hb => by cases hb⟩ ?_ ?_
  · rw [hΔ] at hloop
    exact hloop
  · rintro j hj w7 vr ⟨hJ7, M7, k7, hM7⟩ hvr J2 hJ2
    obtain rfl : vr = [] := List.eq_nil_of_length_eq_zero hvr
    simp only [List.length_nil, Nat.add_zero, List.nil_append]
    have hj' : j < ks.length := by omega
    have hjs : j < ks'.length := by omega
    have hnot : ∀ b, w.heap.size ≤ b → b < w6.heap.size → b ∉ M7 := fun b hb hb' hbM => by
      rcases hM7 b hbM with h | h
      · have := (hM0 b h).2; omega
      · omega
    have k07 : Keeps [] w0 w7 := ((k0.mono (by simp)).trans ((k06.mono (by simp)).trans k7)).less fun x hx => .inr (by
      rcases hM7 x hx with h | h
      · exact (hM0 x h).1
      · omega)
    have hk7 : Has w7 kb kcs := hk6.keep k7 (hnot kb (by omega) hkb6)
    have hidx := v_indexAddr (P := P) (ρ := ext ρ4 26 [.int .i64 j, .bool true]) (t := c.tKeys) (x := .tmp 24) (i := .tmp 26) (b := kb) (o := 0) (l := ks.length) (c := kcap) (j := j) (kk := .i64) T.keys (chk_size T.zeroU32) (by show ext _ _ _ 24 = _; rw [ext_lt (by omega)]; exact t24) ext_at (by omega) (by omega)
    rw [Int.toNat_natCast, Nat.mul_one] at hidx
    refine s_val hidx ?_
    have hcell : kcs[0 + j]? = some (encK ks'[j]) := by rw [Nat.zero_add]; exact hkc j hjs
    refine s_lok (l_load1 (b := kb) (o := 0 + j) T.oneU32 ext_at hk7 hcell) ?_
    refine s_get (n := 30) (b := V) (o := o) T.f0 T.oneMap (by show ext _ _ _ 0 = _; rw [ext_lt (by omega), ext_lt (by omega), ext_lt (by omega)]; exact t0) (hV.keep k07 (by simp)) hmv' ?_
    -- the key's entry
    have hmem : ks'[j] ∈ m.map fun p => (p.1 : Int) := by
      have h1 : ks'[j] ∈ ks' := List.getElem_mem _
      rw [← he.keyInts]
      exact hperm.mem_iff.1 (hperm'.mem_iff.1 h1)
    obtain ⟨p, hpm, hpk⟩ := List.mem_map.1 hmem
    obtain ⟨i, hi, hip⟩ := List.getElem_of_mem hpm
    have hmi : m[i]? = some p := by rw [List.getElem?_eq_getElem hi, hip]
    obtain ⟨e, hei, hent⟩ := he.get hmi
    obtain ⟨hkey, hoct⟩ := hent
    have hkis : keyIs ks'[j] e = true := by rw [← hpk]; simp [keyIs, hkey]
    have hbefore : ∀ j' e', j' < i → es[j']? = some e' → keyIs ks'[j] e' = false := by
      intro j' e' hlt he'
      have hj'l : j' < m.length := by omega
      obtain ⟨e2, he2, hent2⟩ := he.get (i := j') (p := m[j']) (List.getElem?_eq_getElem hj'l)
      obtain rfl : e2 = e' := by rw [he'] at he2; simpa using he2.symm
      rw [← hpk, EntR.is hent2]
      have hne : m[j'].1 ≠ p.1 := by
        rw [← hip]
        have h1 := List.pairwise_iff_getElem.1 (List.nodup_iff_pairwise_ne.1 hnd) j' i (by simpa using hj'l) (by simpa using hi) hlt
        simpa using h1
      simp [hne]
    refine s_lok (l_lookup (j := i) (n := ks'[j]) (e := e) T.map F.u32 (by show ext _ 30 _ 32 = _; rfl) (by
      show ext _ _ _ 29 = _
      rw [ext_lt (by omega), show (29 : Nat) = 26 + 0 + 2 + 1 from rfl, ext_at]; rfl) (hm0.keep k07 (by simp)) hk32 hei hkis hbefore) ?_
    have hoct7 := hoct.keep k07
    have hnext : (sortTM m).take (j + 1) = (sortTM m).take j ++ [p] := by
      have hsl : (sortTM m).length = ks'.length := by rw [hks]; simp [sortTM]
      have hget : (sortTM m)[j]'(by omega) = p := by
        simp only [sortTM, List.getElem_map, ← hks, ← hpk]
        rw [Int.toNat_natCast, tmGet_eq hnd hmi]
      rw [List.take_succ_eq_append_getElem (by omega), hget]
    have hclo := hJ w6.heap.size ((sortTM m).take j) p e.val w7 hJ7 k7.size k06.size ⟨by rw [List.length_take]; omega, j + 1, hnext.symm⟩ hoct7 hoct hpm
    refine s_callv (g := gCl) (f := 1) (caps := [cap]) (args := [.int .u32 p.1, e.val]) (by
      rw [ext_lt (by omega), ext_lt (by omega), ext_lt (by omega), ext_lt (by omega), ext_lt (by omega)]; exact t1) (pair_eq (by
      show ext _ _ _ 29 = _
      rw [ext_lt (by omega), ext_lt (by omega), show (29 : Nat) = 26 + 0 + 2 + 1 from rfl, ext_at, ← hpk]; rfl) ext_at) hclo fun u w8 ⟨hJ8, M8, k8, hM8⟩ => ?_
    refine s_val (v_arith (kk := .i64) (a := j) (b := 1) (r := ((j + 1 : Nat) : Int)) (by
      show ext _ _ _ 26 = _
      rw [ext_lt (by omega), ext_lt (by omega), ext_lt (by omega), ext_lt (by omega), ext_lt (by omega)]; exact ext_at) rfl ?_) ?_
    · simp only [arithOf, Option.some.injEq]; rw [IntKind.wrap_i64]; omega
    refine ⟨J2, by rw [List.getElem?_append_right (by omega), hΔ]; rfl, ?_⟩
    have hlast := hJ2 [] w8 rfl ⟨?_, M7 ++ M8, (k7.mono fun x hx => List.mem_append_left _ hx).trans (k8.mono fun x hx => List.mem_append_right _ hx), fun b hb => by
      rcases List.mem_append.1 hb with h | h
      · exact hM7 b h
      · exact hM8 b h⟩
    · show J2 [ext _ (30 + 3 + 1 + 1) _ 35] w8
      rw [show (35 : Nat) = 30 + 3 + 1 + 1 from rfl, ext_at]
      exact hlast
    · rw [hnext]
      exact hJ8
  · rintro w7 vr J2 ⟨hJ7, M7, k7, hM7⟩ hvr
    have hsl : (sortTM m).length = ks.length := by rw [← hkl', hks]; simp [sortTM]
    rw [Int.toNat_natCast, List.take_of_length_le (by omega)] at hJ7
    refine s_ret0 ⟨⟨_, k06.size, hJ7⟩, ((k06.mono (by simp)).trans k7).less fun x hx => ?_⟩
    rcases hM7 x hx with h | h
    · exact .inl h
    · exact .inr (by have := k06.size; omega)
end
end Go.Kf
/- Tags that rise already are left as they are. -/
namespace Go.Kf
open Go

theorem TagRows.key {w : World} {A : Nat → Prop} : ∀ {u : TM} {cs : List Value} {i : Nat} {p : Nat × List UInt8}, TagRows w A u cs → u[i]? = some p → cs[i * 2]? = some (.int .u32 p.1)
  | [], _, _, _, _, hi => by simp at hi
  | q :: u, _, 0, p, ⟨v, r, e, _, _⟩, hi => by
    simp only [List.getElem?_cons_zero, Option.some.injEq] at hi
    subst hi
    rw [e]; rfl
  | q :: u, _, i + 1, p, ⟨v, r, e, _, h⟩, hi => by
    simp only [List.getElem?_cons_succ] at hi
    rw [e, show (i + 1) * 2 = i * 2 + 1 + 1 by omega]
    simp only [List.getElem?_cons_succ]
    exact TagRows.key h hi

def tSorted (c : Nums) : Tr :=
  .op (.call { callee := .builtin .len, args := ⟨[.tmp 0]⟩, argTypes := ⟨[c.tTagL]⟩ }) none [] <| .loop 0 [.const (.int .i64 0)] <| .op (.binOp .lss c.tInt (.tmp 2) (.tmp 1) c.tInt) none [] <| .cond (.tmp 3)
    (.loop 1 [.tmp 2] <| .draw <| .pur (.binOp .gtr c.tInt (.tmp 4) (.const (.int .i64 0)) c.tInt) none <| .cond (.tmp 5)
      (.pur (.indexAddr c.tTagL (.tmp 0) (.tmp 4)) none <| .pur (.fieldAddr c.tTag (.tmp 6) 0) none <| .lok (.load c.tU32 (.tmp 7)) none <| .pur (.binOp .sub c.tInt (.tmp 4) (.const (.int .i64 1)) c.tInt) none <|
        .pur (.indexAddr c.tTagL (.tmp 0) (.tmp 9)) none <| .pur (.fieldAddr c.tTag (.tmp 10) 0) none <| .lok (.load c.tU32 (.tmp 11)) none <| .pur (.binOp .lss c.tU32 (.tmp 8) (.tmp 12) c.tU32) none <| .cond (.tmp 13)
        (.draw <| .pur (.binOp .sub c.tInt (.tmp 4) (.const (.int .i64 1)) c.tInt) none <| .pur (.binOp .sub c.tInt (.tmp 4) (.const (.int .i64 1)) c.tInt) none <| .pur (.indexAddr c.tTagL (.tmp 0) (.tmp 15)) none <| .lok (.load c.tTag (.tmp 16)) none <|
          .pur (.indexAddr c.tTagL (.tmp 0) (.tmp 4)) none <| .lok (.load c.tTag (.tmp 18)) none <| .pur (.indexAddr c.tTagL (.tmp 0) (.tmp 4)) none <| .op (.store c.tTag (.tmp 20) (.tmp 17)) none [] <|
          .pur (.indexAddr c.tTagL (.tmp 0) (.tmp 14)) none <| .op (.store c.tTag (.tmp 22) (.tmp 19)) none [] <| .op (.binOp .sub c.tInt (.tmp 4) (.const (.int .i64 1)) c.tInt) none [] <| .to 1 [.tmp 24])
        (.op (.binOp .add c.tInt (.tmp 2) (.const (.int .i64 1)) c.tInt) none [] <| .to 0 [.tmp 14]))
      (.op (.binOp .add c.tInt (.tmp 2) (.const (.int .i64 1)) c.tInt) none [] <| .to 0 [.tmp 6])) (.ret [])

/-- What sorting does to tags that rise. -/
def SortedGives (P : Program) (f : Nat) : Prop := ∀ (w : World) (A : Nat → Prop) (v : Value) (u : TM) (cs : List Value), Reads w v 2 u.length cs → TagRows w A u cs → u.Pairwise (fun a b => a.1 ≤ b.1) → u.length < 4294967296 → Gives P f [v] w fun _ w' => Keeps [] w w'

theorem sorted_gives {P : Program} {c : Nums} {f : Nat} (F : RdFacts P c) (Z : TyFacts P c c.tTree c.tTrees c.tTagL c.tTag) (hT : treeIn P f noOrc [.tmp 0] 1 = tSorted c) : SortedGives P f := by
  intro w A v u cs hr hrows hasc hlen
  refine gives_in (ρ := en [v]) F.mix hT (Nat.le_refl _) rfl (by simp [opBelow]) ?_
  obtain ⟨a, cp, hv, _⟩ := hr.form
  have hszT : (P.info? c.tTag).map (·.size) = some 2 := (aggTy_spec (w := w) Z.aggTag).2
  refine s_val (v_len (a := a) (l := u.length) (c := cp) Z.slTag hv) ?_
  refine s_count (Γ := []) (n := 2) (q := 1) (kk := .i64) (m := u.length) (ri := []) (fun _ w' => Keeps [] w w') (by omega) rfl .refl ?_ ?_
  · rintro j hj w1 vr k1 hvr J hJ
    obtain rfl : vr = [] := List.eq_nil_of_length_eq_zero hvr
    have hj' : j < u.length := by omega
    simp only [List.length_nil, Nat.add_zero, List.nil_append]
    refine ⟨rfl, fun vs w' => vs = [.int .i64 j] ∧ Keeps [] w w', fun _ _ => 0, ⟨rfl, k1⟩, ?_⟩
    rintro vs w2 _ ⟨rfl, k2⟩
    simp only [List.length_cons, List.length_nil]
    show Tr.sem _ _ _ _ _ _ { w2 with drawn := w2.drawn + 1 }
    have k3 : Keeps [] w { w2 with drawn := w2.drawn + 1 } := k2.trans (keeps_drawn w2 _ _)
    generalize ({ w2 with drawn := w2.drawn + 1 } : World) = w3 at k3 ⊢
    refine p_val (v_cmp (kk := .i64) (a := j) (b := 0) (r := decide ((j : Int) > 0)) rfl rfl rfl) ?_
    have hsucc : ∀ (x : Nat) (ρ : Nat → Value) (n : Nat) (w' : World) (Δ : List (List Value → World → Prop)), ρ 2 = .int .i64 j → x = n → Δ[0]? = some J → Keeps [] w w' → (Tr.op (.binOp .add c.tInt (.tmp 2) (.const (.int .i64 1)) c.tInt) none [] <| .to 0 [.tmp x]).sem P (fun _ w' => Keeps [] w w') Δ n ρ w' := by
      intro x ρ n w' Δ h2 hx hΔ hk
      subst hx
      refine s_val (v_arith (kk := .i64) (a := j) (b := 1) (r := ((j + 1 : Nat) : Int)) h2 rfl ?_) ?_
      · simp only [arithOf, Option.some.injEq]; rw [IntKind.wrap_i64]; omega
      · refine ⟨J, hΔ, ?_⟩
        have := hJ [] w' rfl hk
        show J [ext ρ x _ x] w'
        rw [ext_at]
        exact this
    refine s_cond (b := decide ((j : Int) > 0)) rfl (fun hpos => ?_) (fun _ => hsucc 6 _ 6 w3 _ rfl rfl rfl k3)
    obtain ⟨i, rfl⟩ : ∃ i, j = i + 1 := ⟨j - 1, by have : (j : Int) > 0 := by simpa using hpos
                                                   omega⟩
    rcases hr.2 with ⟨_, h0⟩ | ⟨b, o, cap, bcs, rfl, _, hh, hl, rfl⟩
    · omega
    have hh3 := hh.keep k3 (by simp)
    have cell : ∀ x p, u[x]? = some p → x < u.length → bcs[o + x * 2 + 0]? = some (.int .u32 p.1) := by
      intro x p hp hx
      have := hrows.key hp
      rw [List.getElem?_take, if_pos (by omega), List.getElem?_drop] at this
      exact this
    have c1 := cell (i + 1) u[i + 1] (List.getElem?_eq_getElem hj') hj'
    have c0 := cell i (u[i]'(by omega)) (List.getElem?_eq_getElem (by omega)) (by omega)
    have hle : (u[i]'(by omega)).1 ≤ u[i + 1].1 := (List.pairwise_iff_getElem.1 hasc) i (i + 1) (by omega) hj' (by omega)
    generalize hρ : ext (ext (ext (ext (en [_]) _ _) _ _) _ _) _ _ = ρ1
    have r0 : ρ1 0 = .slice (some ⟨b, o, none⟩) u.length cap := by subst hρ; rfl
    have r2 : ρ1 2 = .int .i64 ((i + 1 : Nat) : Int) := by subst hρ; rfl
    have r4 : ρ1 4 = .int .i64 ((i + 1 : Nat) : Int) := by subst hρ; rfl
    clear hρ
    have i1 := v_indexAddr (P := P) (ρ := ρ1) (t := c.tTagL) (x := .tmp 0) (i := .tmp 4) (b := b) (o := o) (l := u.length) (c := cap) (j := ((i + 1 : Nat) : Int)) (kk := .i64) Z.slTag hszT r0 r4 (by omega) (by omega)
    rw [Int.toNat_natCast] at i1
    refine p_val i1 ?_
    refine p_val (v_field (b := b) (o := o + (i + 1) * 2) Z.g0 rfl) ?_
    refine l_lok (l_load1 (b := b) (o := o + (i + 1) * 2 + 0) Z.oneU32 rfl hh3 c1) ?_
    refine p_val (v_arith (kk := .i64) (a := ((i + 1 : Nat) : Int)) (b := 1) (r := (i : Int)) r4 rfl ?_) ?_
    · simp only [arithOf, Option.some.injEq]; rw [IntKind.wrap_i64]; omega
    have i0 := v_indexAddr (P := P) (ρ := ext (ext (ext (ext ρ1 (2 + 2 + 1 + 1) [.pointer (some ⟨b, o + (i + 1) * 2, none⟩)]) (2 + 2 + 1 + 1 + 1) [.pointer (some ⟨b, o + (i + 1) * 2 + 0, none⟩)]) (2 + 2 + 1 + 1 + 1 + 1) [.int .u32 u[i + 1].1]) (2 + 2 + 1 + 1 + 1 + 1 + 1) [.int .i64 i]) (t := c.tTagL) (x := .tmp 0) (i := .tmp 9) (b := b) (o := o) (l := u.length) (c := cap) (j := i) (kk := .i64) Z.slTag hszT
      (by show ext _ _ _ 0 = _; rw [ext_lt (by omega), ext_lt (by omega), ext_lt (by omega), ext_lt (by omega)]; exact r0) rfl (by omega) (by omega)
    rw [Int.toNat_natCast] at i0
    refine p_val i0 ?_
    refine p_val (v_field (b := b) (o := o + i * 2) Z.g0 rfl) ?_
    refine l_lok (l_load1 (b := b) (o := o + i * 2 + 0) Z.oneU32 rfl hh3 c0) ?_
    refine p_val (v_cmp (kk := .u32) (a := (u[i + 1].1 : Nat)) (b := ((u[i]'(by omega)).1 : Nat)) (r := false) rfl rfl (by simp only [cmpOf, Option.some.injEq, decide_eq_false_iff_not]; omega)) ?_
    refine s_cond (b := false) rfl (fun h => by cases h) fun _ => ?_
    exact hsucc 14 _ 14 w3 _ (by rw [ext_lt (by omega), ext_lt (by omega), ext_lt (by omega), ext_lt (by omega), ext_lt (by omega), ext_lt (by omega), ext_lt (by omega), ext_lt (by omega)]; exact r2) rfl rfl k3
  · rintro w1 vr J k1 hvr
    exact s_ret0 k1
end Go.Kf
/- Unknown tags, told. -/
namespace Go.Kf
open Go

/-- While tags are told: so far pre; the row of tags lies from h on. -/
def TJ (w0 : World) (N h : Nat) (pre : TM) (w : World) : Prop := ∃ uv xs, Has w (w0.heap.size + 2) [.int .i64 0, .slice none 0 0, .bool false, rowV w0 N, uv] ∧ Own w uv 2 pre.length xs ∧ (∀ b ∈ blkOf uv, h ≤ b) ∧ TagRows w (fun b => h ≤ b ∧ b ∉ blkOf uv) pre xs

def tTagCl (c : Nums) : Tr :=
  .draw <| .pur (.fieldAddr c.tTree (.tmp 2) 4) none <| .lok (.load c.tTagL (.tmp 3)) none <| .op (.call { callee := .builtin .append, args := ⟨[nilV, .tmp 1]⟩, argTypes := ⟨[c.tBytes, c.tBytes]⟩ }) none [(.load c.tTagL (.tmp 3), 4)] <|
  .pur (.build c.tTag ⟨[(0, .tmp 0), (1, .tmp 5)]⟩) none <| .op (.buildSlice c.tTagL 1 ⟨[(0, .tmp 6)]⟩) none [(.load c.tTagL (.tmp 3), 4)] <| .op (.call { callee := .builtin .append, args := ⟨[.tmp 4, .tmp 7]⟩, argTypes := ⟨[c.tTagL, c.tTagL]⟩ }) none [] <|
  .pur (.fieldAddr c.tTree (.tmp 2) 4) none <| .op (.store c.tTagL (.tmp 9) (.tmp 8)) none [] <| .ret []

/-- The closure that tells a tag. -/
def TagCl (P : Program) (g : Nat) : Prop := ∀ (w0 w1 : World) (N h : Nat) (pre : TM) (p : Nat × List UInt8) (v : Value), TJ w0 N h pre w1 → w0.heap.size + 2 < h → h ≤ w1.heap.size → pre.length < 1073741826 → Ro w1 v 1 p.2.length (bcells p.2) → p.2.length ≤ big →
  Gives P g [.int .u32 p.1, v, ptr (w0.heap.size + 2)] w1 fun _ w2 => TJ w0 N h (pre ++ [p]) w2 ∧ ∃ M, Keeps M w1 w2 ∧ ∀ b ∈ M, b ∈ [w0.heap.size + 2] ∨ h ≤ b

section
variable {P : Program} {c : Nums}

theorem closure_gives {g : Nat} (F : RdFacts P c) (Z : TyFacts P c c.tTree c.tTrees c.tTagL c.tTag) (O : OctFacts P c) (Rw : RowFacts P c.tTag 2) (hPlan : buildPlan P c.tTag = some ([.int .u32 0, .slice none 0 0], [(0, 1), (1, 1)])) (hT : treeIn P g noOrc [.tmp 0, .tmp 1, .tmp 2] 3 = tTagCl c) : TagCl P g := by
  intro w0 w1 N h pre p v ⟨uv, xs, htop, hown, hblk, hrows⟩ hh hsz hpl ho hpb
  refine gives_in (ρ := en [.int .u32 p.1, v, ptr (w0.heap.size + 2)]) F.mix hT (Nat.le_refl _) rfl (by simp [opBelow]) ?_
  show Tr.sem _ _ _ _ _ _ { w1 with drawn := w1.drawn + 1 }
  have kd : Keeps [] w1 { w1 with drawn := w1.drawn + 1 } := keeps_drawn w1 _ _
  generalize ({ w1 with drawn := w1.drawn + 1 } : World) = w2 at kd ⊢
  have htop2 := htop.keep kd (by simp)
  have hown2 := hown.keep kd (by simp)
  have ho2 := ho.keep kd
  refine p_fl Z.f4 Z.oneTagL (show ev _ (.tmp 2) = ptr (w0.heap.size + 2) from rfl) rfl htop2 rfl ?_
  obtain ⟨inf, z, hi, hz, hsz8, hzc, hby⟩ := O.info
  obtain ⟨v3, w3, e3, hown3, k3, hb3⟩ := a_append (P := P) (ρ := ext (ext (en [.int .u32 p.1, v, ptr (w0.heap.size + 2)]) 3 [ptr (w0.heap.size + 2) (0 + 4)]) (3 + 1) [uv]) (w := w2) (t := c.tBytes) (tx := c.tBytes) (x := nilV) (y := .tmp 1) F.bytes hi hz hsz8 hzc rfl rfl (Own.nil w2 1) (ho2.src F.bytes (bcells_one p.2)) (by
    have : (0 + p.2.length) * inf.bytes ≤ 1073741825 * 8 := Nat.mul_le_mul (by simp only [big] at hpb; omega) hby
    omega) (by simp only [big] at hpb; omega)
  rw [Nat.zero_add, List.nil_append] at hown3
  replace k3 : Keeps [] w2 w3 := k3
  have owed : ∀ (ρ : Nat → Value) (w : World), ρ 3 = ptr (w0.heap.size + 2) (0 + 4) → ρ 4 = uv → Has w (w0.heap.size + 2) [.int .i64 0, .slice none 0 0, .bool false, rowV w0 N, uv] → ∀ q ∈ [(Op.load c.tTagL (.tmp 3), 4)], runOp P ρ q.1 w = .ok (.value (ρ q.2)) w := by
    intro ρ w h3 h4 ht q hq
    simp only [List.mem_singleton] at hq
    subst hq
    show runOp P ρ (.load c.tTagL (.tmp 3)) w = .ok (.value (ρ 4)) w
    rw [h4]
    exact l_load1 (b := w0.heap.size + 2) (o := 0 + 4) Z.oneTagL h3 ht rfl
  have htop3 := htop2.keep k3 (by simp)
  refine s_act e3 (owed _ _ rfl rfl htop3) ?_
  refine p_val (v_build (cells := [.int .u32 p.1, v3]) hPlan (fun q hq => by
    simp only [List.mem_cons, List.not_mem_nil, or_false] at hq
    rcases hq with rfl | rfl
    · rfl
    · exact hown3.one) rfl) ?_
  refine s_oneSlice Rw Z.slTag (x := .tmp 6) (cs := [.int .u32 p.1, v3]) rfl rfl fun w4 hr4 k4 z4 => ⟨owed _ _ rfl rfl (htop3.keep k4 (by simp)), ?_⟩
  have hown4 : Own w4 uv 2 pre.length xs := (hown2.keep k3 (by simp)).keep k4 (by simp)
  have htop4 := htop3.keep k4 (by simp)
  refine s_appendOne (m := pre.length) (v := uv) (u := .slice (some ⟨w3.heap.size, 0, none⟩) 1 1) (xs := xs) (cs := [.int .u32 p.1, v3]) Rw Z.slTag rfl rfl hown4 hr4 (fun q hq => by
    simp only [List.mem_cons, List.not_mem_nil, or_false] at hq
    rcases hq with rfl | rfl
    · rfl
    · exact hown3.one) (by omega) fun uv' w5 hown5 k5 hb5 => ⟨fun q hq => (by cases hq), ?_⟩
  have hnt : w0.heap.size + 2 ∉ blkOf uv := fun hb => by have := hblk _ hb; omega
  have htop5 := htop4.keep k5 hnt
  refine p_fs (n := 9) (v := uv') Z.f4 Z.oneTagL (show ev _ (.tmp 2) = ptr (w0.heap.size + 2) from rfl) rfl rfl (by simp [opBelow]) hown5.one htop5 (by simp) fun w6 htop6 k6 => ?_
  have sd := kd.size
  have s3 := k3.size
  have s4 := k4.size
  have hlt := hown.lt
  have k14 : Keeps [] w1 w4 := (kd.trans k3).trans k4
  have hb' : ∀ b ∈ blkOf uv', h ≤ b := fun b hb => by
    rcases hb5 b hb with h' | h'
    · exact hblk b h'
    · omega
  have fresh : ∀ b, b < w4.heap.size → b ∉ blkOf uv → b ∉ blkOf uv' := fun b h1 h2 hb => by
    rcases hb5 b hb with h' | h'
    · exact h2 h'
    · omega
  have hrows4 : TagRows w4 (fun b => h ≤ b ∧ b ∉ blkOf uv) (pre ++ [p]) (xs ++ [.int .u32 p.1, v3]) := by
    refine TagRows.snoc (q := p) (.of (hown3.keep k4 (by simp)).reads (fun b hb => ?_) (by simp only [big] at hpb; omega)) (TagRows.keep k14 (fun b hb => by cases hb) (fun _ h _ => h) _ _ hrows)
    rcases hb3 b hb with h' | h'
    · cases h'
    · exact ⟨by omega, fun hb2 => by have := hlt b hb2; omega⟩
  refine s_ret0 ⟨⟨uv', xs ++ [.int .u32 p.1, v3], htop6, ?_, hb', ?_⟩, blkOf uv ++ [w0.heap.size + 2], ?_, fun b hb => ?_⟩
  · have := hown5.keep k6 (fun b hb => by simp only [List.mem_singleton]; have := hb' b hb; omega)
    rw [List.length_append]
    exact this
  · refine TagRows.keep k6 (fun b hb h' => by simp only [List.mem_singleton] at hb; omega) (fun _ h' _ => h') _ _ ?_
    exact TagRows.keep k5 (fun b hb h' => h'.2 hb) (fun b h' hl => ⟨h'.1, fresh b hl h'.2⟩) _ _ hrows4
  · exact ((k14.mono (by simp)).trans (k5.mono fun x hx => List.mem_append_left _ hx)).trans (k6.mono fun x hx => List.mem_append_right _ hx)
  · rcases List.mem_append.1 hb with h' | h'
    · exact .inr (hblk b h')
    · exact .inl h'

def tellTags : FV → TM
  | .tags m => sortTM m
  | _ => []

theorem gTSteps_snoc (c : Nums) (S : Nat) (x : TStep) : ∀ (ss : List TStep) (n d : Nat) (k : Nat → Nat → Tr), gTSteps c S (ss ++ [x]) n d k = gTSteps c S ss n d fun n' d' => gTStep c S x n' d' k
  | [], _, _, _ => rfl
  | s :: ss, n, d, k => by
    simp only [List.cons_append, gTSteps]
    congr 1
    funext n' d'
    exact gTSteps_snoc c S x ss n' d' k

theorem sortTM_len (m : TM) : (sortTM m).length = m.length := by simp [sortTM]

theorem sortTM_asc (m : TM) : (sortTM m).Pairwise (fun a b => a.1 ≤ b.1) := by
  have h2 := List.pairwise_mergeSort (le := leInt) (fun a b c h1 h2 => by simp only [leInt, decide_eq_true_eq] at *; omega) (fun a b => by simp only [leInt, Bool.or_eq_true, decide_eq_true_eq]; omega) (m.map fun p => (p.1 : Int))
  unfold sortTM
  rw [List.pairwise_map]
  refine h2.imp fun h => ?_
  simp only [leInt, decide_eq_true_eq] at h
  show Int.toNat _ ≤ Int.toNat _
  omega

/-- The tags of a struct, told. -/
theorem sem_tags {R : Value → World → Prop} {Γ : List (List Value → World → Prop)} {n : Nat} {ρ : Nat → Value} {w0 w : World} {N S V D lo i off g fEach fSorted : Nat} {pre post : List Value} {fs : List FV} {ls : List Nat} {ts : List PT} {m : TM} {k : Nat → Nat → Tr} (Z : TyFacts P c c.tTree c.tTrees c.tTagL c.tTag)
    (hCl : TagCl P g) (hE : EachGives P fEach) (hSo : SortedGives P fSorted) (h : TIn w0 D V lo pre post fs) (hls : fs.map FV.wd = ls) (hF : FieldOk P S ls i off) (hf : fs[i]? = some (.tags m)) (hm : m.length ≤ big ∧ ∀ p ∈ m, p.2.length ≤ big) (hn : 6 ≤ n) (h0 : ρ 0 = ptr V pre.length) (h4 : ρ 4 = ptr (w0.heap.size + 2))
    (hT : TS w0 w N ts [] (.slice none 0 0)) (hk : ∀ ρ' w' uv, (∀ x, x < n → ρ' x = ρ x) → TS w0 w' N ts (sortTM m) uv → (k (n + 7) Γ.length).sem P R Γ (n + 7) ρ' w') : (gTStep c S (.tags i g fEach fSorted) n Γ.length k).sem P R Γ n ρ w := by
  simp only [gTStep]
  obtain ⟨cs, mm, hh0, hmm, hcs, _⟩ := h.get (off := off) (w := w0) .refl hf (by rw [hls]; exact hF.off)
  obtain ⟨mv, rfl, htags⟩ := hmm
  have hcell : cs[pre.length + off]? = some mv := by have := hcs 0 (by simp); simpa using this
  have htop := hT.top.lt
  refine s_val (v_nilCheck h0) (s_val (v_field (b := V) (o := pre.length) hF.field ext_at) ?_)
  refine s_val (v_makeFunc1 (v := ptr (w0.heap.size + 2)) (by show ext _ _ _ 4 = _; rw [ext_lt (by omega), ext_lt (by omega)]; exact h4)) ?_
  have hbm : big = 1073741825 := rfl
  have hE1 := hE w0 w V (pre.length + off) g cs mv (ptr (w0.heap.size + 2)) m (fun h pre w' => TJ w0 N h pre w' ∧ w.heap.size ≤ h) [w0.heap.size + 2] hh0 hcell htags.r (by omega) hT.k (fun b hb => by simp only [List.mem_singleton] at hb; omega)
    (fun w' kk => ⟨⟨.slice none 0 0, [], hT.top.keep kk (by simp), Own.nil w' 2, (fun b hb => by cases hb), rfl⟩, kk.size⟩)
    (fun h pre p v w1 ⟨hj, hwh⟩ hsz _ ⟨hpl, _⟩ ho _ hp => (hCl w0 w1 N h pre p v hj (by omega) hsz (by omega) ho (hm.2 p hp)).mono fun _ w2 ⟨h1, h2⟩ => ⟨⟨h1, hwh⟩, h2⟩)
  refine s_callx hE1 (pair_eq (by show ext _ _ _ (n + 1) = _; rw [ext_lt (by omega)]; exact ext_at) ext_at) fun u w1 ⟨⟨hb, _, ⟨uv, xs, htop1, hown1, hblk1, hrows1⟩, hwh⟩, k1⟩ => ?_
  have k01 : Keeps [] w0 w1 := ((hT.k.mono (by simp)).trans k1).less fun x hx => .inr (by simp only [List.mem_singleton] at hx; omega)
  have huok : TagsIn w1 (fun b => w0.heap.size + 2 < b) (sortTM m) uv := ⟨xs, hown1.reads, ⟨fun b hb' => by have := hblk1 b hb'; omega, by rw [sortTM_len]; omega⟩, TagRows.keep (M := []) .refl (fun b hb => by cases hb) (fun b h' _ => by have := h'.1; omega) _ _ hrows1⟩
  have hTS1 : TS w0 w1 N ts (sortTM m) uv := by
    obtain ⟨rcs, r1, r2, r3⟩ := hT.row
    exact ⟨k01, hT.res.keep k1 (by simp), ⟨rcs, r1.keep k1 (by simp), r2, TreesAt.keep k1 (fun b hb h' => by simp only [List.mem_singleton] at hb; omega) (fun _ h' _ => h') _ _ r3⟩, hT.len, htop1, huok⟩
  refine s_val (v_field (b := w0.heap.size + 2) (o := 0) Z.f4 (by show ext _ _ _ 4 = _; rw [ext_lt (by omega), ext_lt (by omega), ext_lt (by omega), ext_lt (by omega)]; exact h4)) ?_
  refine s_lok (l_load1 (b := w0.heap.size + 2) (o := 0 + 4) Z.oneTagL ext_at htop1 rfl) ?_
  refine s_callx (args := [uv]) (hSo w1 _ uv (sortTM m) xs hown1.reads hrows1 (sortTM_asc m) (by rw [sortTM_len]; omega)) (by simp only [List.map_cons, List.map_nil]; congr 1; exact ext_at) fun u2 w2 k2 => ?_
  refine hk _ w2 uv (fun x hx => ?_) (hTS1.keep k2)
  rw [ext_lt (by omega), ext_lt (by omega), ext_lt (by omega), ext_lt (by omega), ext_lt (by omega), ext_lt (by omega), ext_lt (by omega)]
end
end Go.Kf
/- A tell function as a whole, of a struct with tags; and the functions that tell a text, octets, a truth. -/
namespace Go.Kf
open Go

section
variable {P : Program} {c : Nums}

theorem gTail_eq (c : Nums) (S N : Nat) (ss : List TStep) (x : TStep) : ∃ kf, gTell c S N (ss ++ [x]) = .op (.alloc c.tTree) none [] (.op (.makeSlice c.tTrees (.const (.int .i64 N)) (.const (.int .i64 N))) none [] (.op (.build c.tTree ⟨[(3, .tmp 2)]⟩) none [] (.op (.alloc c.tTree) none [] (.op (.store c.tTree (.tmp 4) (.tmp 3)) none []
    (gTSteps c S ss 6 0 fun n d => gTStep c S x n d kf))))) ∧ kf = fun n _ => .op (.load c.tTree (.tmp 4)) none [] <| .op (.store c.tTree (.tmp 1) (.tmp n)) none [] <| .ret [(.tmp 1, some c.tTree)] := by
  refine ⟨_, ?_, rfl⟩
  unfold gTell
  rw [gTSteps_snoc]

theorem told_tags {f S N i off g fEach fSorted : Nat} {ts : List Ty} {ss : List TStep} {tfs : List (List FV → PT)} (F : RdFacts P c) (Z : TyFacts P c c.tTree c.tTrees c.tTagL c.tTag) (K : TellFacts P c) (hCl : TagCl P g) (hE : EachGives P fEach) (hSo : SortedGives P fSorted)
    (hT : treeIn P f noOrc [.tmp 0] 1 = gTell c S N (ss ++ [.tags i g fEach fSorted])) (hN : tfs.length = N) (hsm : N ≤ 1024) (hs : StepsTell P c S ts ss tfs 0) (hF : FieldTy P S ts i off .tags) : TellOf P f ts fun fs => .mk 0 [] false (tfs.map (· fs)) (tellTags (fvGet fs i)) := by
  intro w0 D V lo pre post mid fs hok hh hf
  obtain ⟨f0, hf0, hft⟩ := okFs_get hok hF.2.2
  obtain ⟨m, rfl, hm⟩ := okF_tags hft
  simp only [fvGet_eq hf0, tellTags]
  have hin : TIn w0 D V lo pre post fs := ⟨mid, hh, hf⟩
  have hlt := hh.lt
  have hs' := fun R => steps_told (R := R) (N := N) hok hin hlt ss tfs 0 hs (by omega)
  generalize htl : tfs.map (· fs) = tl at hs' ⊢
  have hN' : tl.length = N := by rw [← htl, List.length_map, hN]
  refine gives_in (ρ := en [ptr V pre.length]) F.mix hT (Nat.le_refl _) rfl (by simp [opBelow]) ?_
  obtain ⟨kf, hkf, hkd⟩ := gTail_eq c S N ss (.tags i g fEach fSorted)
  rw [hkf]
  refine s_alloc K.zero fun w1 hr1 k1 z1 => ?_
  obtain ⟨inf, z, hi, hz, hsz, hzc, hby⟩ := K.row.info
  have hzz : z = .agg ⟨zeroTree⟩ := by
    have := K.zero
    simp only [zeroTy, hi, hz, Option.some.injEq, Prod.mk.injEq] at this
    exact this.1
  obtain ⟨w2, e2, hr2, k2, z2⟩ := a_makeSlice (P := P) (ρ := ext (en [ptr V pre.length]) 1 [ptr w0.heap.size]) (w := w1) (t := c.tTrees) (x := .const (.int .i64 N)) (y := .const (.int .i64 N)) (k1 := .i64) (k2 := .i64) (l := N) (c := N) Z.sl hi hz (by rw [hzc, hsz]) (by omega) rfl rfl (by omega) (Int.le_refl _) (by
    have : inf.bytes * N ≤ 1024 * 1024 := Nat.mul_le_mul hby hsm
    have h2 : ((inf.bytes * N : Nat) : Int) = (inf.bytes : Int) * N := Int.natCast_mul _ _
    omega) (by omega)
  rw [Int.toNat_natCast] at e2 hr2
  rw [hzz] at hr2
  refine s_act e2 (fun p hp => (by cases hp)) ?_
  refine s_val (v_build (cells := [.int .i64 0, .slice none 0 0, .bool false, .slice (some ⟨w1.heap.size, 0, none⟩) N N, .slice none 0 0]) K.plan (fun p hp => by simp only [List.mem_singleton] at hp; subst hp; rfl) rfl) ?_
  refine s_alloc K.zero fun w3 hr3 k3 z3 => ?_
  refine s_storeAll (b := w2.heap.size) (old := zeroTree) (cs := [.int .i64 0, .slice none 0 0, .bool false, .slice (some ⟨w1.heap.size, 0, none⟩) N N, .slice none 0 0]) Z.agg rfl rfl hr3 rfl (fun u hu => by
    simp only [List.mem_cons, List.not_mem_nil, or_false] at hu
    rcases hu with rfl | rfl | rfl | rfl | rfl <;> rfl) fun w4 hr4 k4 => ?_
  have k24 : Keeps [] w2 w4 := ((k3.mono (by simp)).trans k4).less fun x hx => .inr (by simp only [List.mem_singleton] at hx; omega)
  have k04 : Keeps [] w0 w4 := (k1.trans k2).trans k24
  rw [z1] at hr2 hr4
  rw [z2, z1] at hr4
  have hrow4 : Has w4 (w0.heap.size + 1) (List.replicate N zeroTree).flatten := hr2.keep k24 (by simp)
  have hTS : TS w0 w4 N (List.replicate N .zero) [] (.slice none 0 0) :=
    ⟨k04, (hr1.keep k2 (by simp)).keep k24 (by simp), ⟨_, hrow4, zeroTree_flat N, zeroTrees_at _ _ N⟩, by simp, hr4, [], ⟨rfl, .inl ⟨rfl, rfl⟩⟩, ⟨(fun b hb => by cases hb), by decide⟩, rfl⟩
  have hRaw : Raw w0 w4 N 0 := by
    intro rcs hr i _ hN'
    rw [hr.inj hrow4]
    exact zeroTree_drop N i hN'
  refine sem_tsteps (Γ := []) ss tl 0 6 _ _ w4 (List.replicate N .zero) [] (.slice none 0 0) (hs' _) (by simp; omega) (Nat.le_refl _) rfl rfl (by show ptr w2.heap.size = _; rw [z2, z1]) hTS hRaw fun n' Γ' ρ' w5 hle hag hT5 => ?_
  have hfin : (List.replicate N PT.zero).take 0 ++ tl ++ (List.replicate N PT.zero).drop (0 + tl.length) = tl := by simp [hN']
  rw [hfin] at hT5
  refine sem_tags (lo := lo) (ls := ts.map Ty.wd) Z hCl hE hSo hin (okFs_map _ _ hok) hF.ok hf0 hm hle (by rw [hag 0 (by omega)]; rfl) (by rw [hag 4 (by omega)]; show ptr w2.heap.size = _; rw [z2, z1]) hT5 fun ρ2 w6 uv hag2 hT6 => ?_
  subst hkd
  have g4 : ρ2 4 = ptr (w0.heap.size + 2) := by rw [hag2 4 (by omega), hag 4 (by omega)]; show ptr w2.heap.size = _; rw [z2, z1]
  have g1 : ρ2 1 = ptr w0.heap.size := by rw [hag2 1 (by omega), hag 1 (by omega)]; rfl
  refine s_lok (l_loadN (b := w0.heap.size + 2) (o := 0) Z.agg g4 hT6.top (show 0 + 5 ≤ 5 by omega)) ?_
  obtain ⟨rcs, hrr, hrl, hrt⟩ := hT6.row
  obtain ⟨ucs, hur, hub, huw⟩ := hT6.uok
  have huv : uv.oneCell' = true := hur.one
  refine s_storeAll (b := w0.heap.size) (old := zeroTree) (cs := [.int .i64 0, .slice none 0 0, .bool false, .slice (some ⟨w0.heap.size + 1, 0, none⟩) N N, uv]) Z.agg (by show ext _ _ _ 1 = _; rw [ext_lt (by omega)]; exact g1) (by show (ext _ (n' + 7) _ (n' + 7)).cells = _; rw [ext_at]; rfl) hT6.res rfl (fun u hu => by
    simp only [List.mem_cons, List.not_mem_nil, or_false] at hu
    rcases hu with rfl | rfl | rfl | rfl | rfl
    · rfl
    · rfl
    · rfl
    · rfl
    · exact huv) fun w7 hr7 k7 => ?_
  have k07 : Keeps [] w0 w7 := ((hT6.k.mono (by simp)).trans k7).less fun x hx => .inr (by simp only [List.mem_singleton] at hx; omega)
  refine s_retAgg (b := w0.heap.size) (by show ext _ _ _ 1 = _; rw [ext_lt (by omega), ext_lt (by omega)]; exact g1) hr7 Z.agg ⟨⟨_, rfl, ?_⟩, k07⟩
  have hnil : ∀ sz, Reads w7 (.slice none 0 0) sz 0 [] := fun sz => ⟨by simp, .inl ⟨rfl, rfl⟩⟩
  refine ⟨_, _, _, rcs, rfl, ⟨Ro.nil _ 1, (fun h => absurd rfl h), by decide⟩, ?_, ⟨?_, by omega⟩, TreesAt.keep k7 (fun b hb h' => by simp only [List.mem_singleton] at hb; omega) (fun b h' _ => by omega) _ _ hrt, ?_⟩
  · refine ⟨by rw [hrl, hN'], .inr ⟨w0.heap.size + 1, 0, N, rcs, by rw [hN'], by omega, hrr.keep k7 (by simp), by rw [hrl, hN']; omega, ?_⟩⟩
    rw [List.drop_zero, List.take_of_length_le (by rw [hrl, hN']; exact Nat.le_refl _)]
  · intro b hb
    simp only [blkOf, List.mem_singleton] at hb
    omega
  · exact TagsIn.keep ⟨ucs, hur, hub, huw⟩ k7 (fun b hb h' => by simp only [List.mem_singleton] at hb; omega) (fun b h' _ => by omega)
end
end Go.Kf
/- Octets, texts, truths and identifiers, told. -/
namespace Go.Kf
open Go

def tOctetsTree (c : Nums) : Tr := .op (.alloc c.tTree) none [] <| .op (.call { callee := .builtin .append, args := ⟨[nilV, .tmp 0]⟩, argTypes := ⟨[c.tBytes, c.tBytes]⟩ }) none [] <| .op (.binOp .eql c.tBytes (.tmp 0) nilV c.tBytes) none [] <|
  .op (.build c.tTree ⟨[(1, .tmp 2), (2, .tmp 3)]⟩) none [] <| .op (.store c.tTree (.tmp 1) (.tmp 4)) none [] <| .ret [(.tmp 1, some c.tTree)]

section
variable {P : Program} {c : Nums} {R : Value → World → Prop} {Γ : List (List Value → World → Prop)} {n : Nat} {ρ : Nat → Value} {w w0 : World} {k : Tr} {N : Nat} {ts : List PT} {u : TM} {uv : Value} {D V lo S : Nat} {pre post : List Value} {fs : List FV}

/-- A copy of octets, whatever their bound. -/
theorem copy_any {x : Operand} {v : Value} {l : List UInt8} (F : RdFacts P c) (O : OctFacts P c) (hx : ev ρ x = v) (hr : Reads w v 1 l.length (bcells l)) (hl : l.length ≤ big) :
    ∃ v' w', runOp P ρ (.call { callee := .builtin .append, args := ⟨[nilV, x]⟩, argTypes := ⟨[c.tBytes, c.tBytes]⟩ }) w = .ok (.value v') w' ∧ Own w' v' 1 l.length (bcells l) ∧ Keeps [] w w' ∧ (∀ b ∈ blkOf v', w.heap.size ≤ b) := by
  obtain ⟨inf, z, hi, hz, hsz, hzc, hby⟩ := O.info
  obtain ⟨v', w', e, ho, hk, hb⟩ := a_append (P := P) (ρ := ρ) (w := w) (t := c.tBytes) (tx := c.tBytes) (x := nilV) (y := x) F.bytes hi hz hsz hzc rfl hx (Own.nil w 1) (hr.src F.bytes (bcells_one l)) (by
    have : (0 + l.length) * inf.bytes ≤ 1073741825 * 8 := Nat.mul_le_mul (by simp only [big] at hl; omega) hby
    omega) (by simp only [big] at hl; omega)
  rw [Nat.zero_add, List.nil_append] at ho
  refine ⟨v', w', e, ho, hk, fun b hb' => ?_⟩
  rcases hb b hb' with h | h
  · cases h
  · exact h

theorem oct_tree' {A : Nat → Prop} {l : List UInt8} {v : Value} (h : OctIn w A l v) (null : Bool) : TreeAt w A (.mk 0 l null [] []) [.int .i64 0, v, .bool null, .slice none 0 0, .slice none 0 0] := oct_tree h null

theorem octetsTree_gives {f : Nat} (F : RdFacts P c) (O : OctFacts P c) (Z : TyFacts P c c.tTree c.tTrees c.tTagL c.tTag) (K : TellFacts P c) (hT : treeIn P f noOrc [.tmp 0] 1 = tOctetsTree c) : TellCellTy P f .octs := by
  refine ⟨rfl, fun D lo fv hok w v hv => ?_⟩
  obtain ⟨nl, l, rfl, hl⟩ := okF_octs hok
  obtain ⟨v0, e0, ho⟩ := hv
  obtain rfl : v = v0 := by simpa using e0
  refine gives_in (ρ := en [v]) F.mix hT (Nat.le_refl _) rfl (by simp [opBelow]) ?_
  refine s_alloc K.zero fun w1 h1 k1 z1 => ?_
  have ho1 := ho.keep k1 (fun b hb => by cases hb)
  obtain ⟨v2, w2, e2, hown, k2, hb2⟩ := copy_any (ρ := ext (en [v]) 1 [ptr w.heap.size]) (x := .tmp 0) (w := w1) F O rfl ho1.1 hl
  refine s_act e2 (fun p hp => (by cases hp)) ?_
  obtain ⟨a, cp, hva, _⟩ := ho1.1.form
  have hnl : a.isNone = nl := by
    rw [← ho.2.1, hva]
    cases a <;> rfl
  refine s_val (v_eqlSlice (op := .eql) (a := a) (l := l.length) (c := cp) (r := nl) F.bytes hva rfl (.inl ⟨rfl, hnl.symm⟩)) ?_
  refine s_val (v_build (cells := [.int .i64 0, v2, .bool nl, .slice none 0 0, .slice none 0 0]) K.plan (fun q hq => by
    simp only [List.mem_cons, List.not_mem_nil, or_false] at hq
    rcases hq with rfl | rfl
    · exact hown.one
    · rfl) rfl) ?_
  have s1 := k1.size
  refine s_storeAll (b := w.heap.size) (old := zeroTree) (cs := [.int .i64 0, v2, .bool nl, .slice none 0 0, .slice none 0 0]) Z.agg rfl rfl (h1.keep k2 (by simp)) rfl (fun q hq => by
    simp only [List.mem_cons, List.not_mem_nil, or_false] at hq
    rcases hq with rfl | rfl | rfl | rfl | rfl
    · rfl
    · exact hown.one
    · rfl
    · rfl
    · rfl) fun w3 h3 k3 => ?_
  refine s_retAgg (b := w.heap.size) rfl h3 Z.agg ⟨⟨_, rfl, oct_tree (.of (hown.keep k3 fun b hb => by have := hb2 b hb; simp only [List.mem_singleton]; omega).reads (fun b hb => by have := hb2 b hb; omega) (by simp only [big] at hl; omega)) nl⟩, ?_⟩
  exact ((k1.trans k2).mono (by simp) |>.trans k3).less fun x hx => .inr (by simp only [List.mem_singleton] at hx; omega)

/-- Identifiers. -/
theorem tell_uuid {i q off : Nat} {l : List UInt8} {ls : List Nat} (F : RdFacts P c) (U : UuidFacts P c) (O : OctFacts P c) (Z : TyFacts P c c.tTree c.tTrees c.tTagL c.tTag) (G : buildPlan P c.tTree = some (zeroTree, [(0, 1), (1, 1), (2, 1), (3, 1), (4, 1)])) (h : TIn w0 D V lo pre post fs) (hls : fs.map FV.wd = ls) (hF : FieldOk P S ls i off) (hq : q < N)
    (hf : fs[i]? = some (.uuid l)) : SemT P c R w0 N S V pre (.uuid i q) q (tellPrim (.uuid l)) := by
  intro n k Γ ρ w ts u uv hn h0 _ h4 hT hRaw hk
  simp only [gTStep]
  refine s_TL Z h4 hT fun w1 hT1 k1 => ?_
  obtain ⟨cs, m, hh, hm, hcs, hml⟩ := h.get (off := off) hT1.k hf (by rw [hls]; exact hF.off)
  obtain ⟨rfl, hl16⟩ := hm
  have hbl : (bcells l).length = 16 := by rw [bcells_length, hl16]
  refine p_val (v_nilCheck (show ev _ (.tmp 0) = ptr V pre.length by show ext _ _ _ 0 = _; rw [ext_lt (by omega), ext_lt (by omega)]; exact h0)) ?_
  refine p_val (v_field (b := V) (o := pre.length) hF.field ext_at) ?_
  refine p_val (v_sliceArr (b := V) (o := pre.length + off) (m := 16) U.arr F.szU8 ext_at) ?_
  have hr : Reads w1 (.slice (some ⟨V, pre.length + off, none⟩) 16 16) 1 l.length (bcells l) := by
    rw [hl16]
    refine ⟨by rw [hbl], .inr ⟨V, pre.length + off, 16, cs, rfl, Nat.le_refl _, hh, by omega, ?_⟩⟩
    apply List.ext_getElem?
    intro j
    rw [List.getElem?_take]
    split
    · rename_i hj
      rw [List.getElem?_drop]
      exact hcs j (by omega)
    · rw [List.getElem?_eq_none (by omega)]
  obtain ⟨v, w2, e2, ho, k2, hb⟩ := copy_any (ρ := ext (ext (ext (ext (ext ρ n [ptr (w0.heap.size + 2) 3]) (n + 1) [rowV w0 N]) (n + 2) [ptr V pre.length]) (n + 2 + 1) [.pointer (some ⟨V, pre.length + off, none⟩)]) (n + 2 + 1 + 1) [.slice (some ⟨V, pre.length + off, none⟩) 16 16]) (x := .tmp (n + 4)) (w := w1) F O ext_at hr (by rw [hl16]; decide)
  have hT2 := hT1.keep k2
  refine s_act e2 (TL_owed Z (by rw [ext_lt (by omega), ext_lt (by omega), ext_lt (by omega), ext_lt (by omega), ext_at]) (by rw [ext_lt (by omega), ext_lt (by omega), ext_lt (by omega), ext_at]) hT2) ?_
  have hoct : OctIn w2 (fun b => w0.heap.size + 2 < b) l v := .of ho.reads (fun b hb' => by
    have := hb b hb'
    have := hT1.top.lt
    omega) (by omega)
  refine p_val (v_build (cells := [.int .i64 0, v, .bool false, .slice none 0 0, .slice none 0 0]) G (fun p hp => by
    simp only [List.mem_singleton] at hp
    subst hp
    show (ext _ (n + 2 + 1 + 1 + 1) _ (n + 5)).oneCell' = true
    rw [show n + 5 = n + 2 + 1 + 1 + 1 from rfl, ext_at]; exact ho.one) (by
    simp only [List.map_cons, List.map_nil]
    have hev : ∀ ρ' : Nat → Value, ev (ext ρ' (n + 2 + 1 + 1 + 1) [v]) (.tmp (n + 5)) = v := fun _ => ext_at
    rw [hev]
    rfl)) ?_
  refine s_TSet (n := n + 7) (t := .mk 0 l false [] []) (cs := [.int .i64 0, v, .bool false, .slice none 0 0, .slice none 0 0]) Z ?_ hq ext_at (by simp [opBelow]) (oct_tree hoct false) hT2 fun w3 hT3 hR3 => ?_
  · rw [ext_lt (by omega), ext_lt (by omega), ext_lt (by omega), ext_lt (by omega), ext_lt (by omega), ext_at]
  · refine hk (n + 9) Γ _ w3 (by omega) ⟨[], by simp⟩ (fun y hy => ?_) hT3 (hR3 ((hRaw.keep hT k1).keep hT1 k2))
    rw [ext_lt (by omega), ext_lt (by omega), ext_lt (by omega), ext_lt (by omega), ext_lt (by omega), ext_lt (by omega), ext_lt (by omega), ext_lt (by omega), ext_lt (by omega)]

theorem told_uuid {i q off : Nat} {ty : List Ty} (F : RdFacts P c) (Z : TyFacts P c c.tTree c.tTrees c.tTagL c.tTag) (K : TellFacts P c) (O : OctFacts P c) (U : UuidFacts P c) (hF : FieldTy P S ty i off .uuid) : StepTell P c S ty (.uuid i q) q fun fs => tellPrim (fvGet fs i) := by
  intro R w0 N D V lo pre post fs hok hin hq _
  obtain ⟨f, hf, hft⟩ := okFs_get hok hF.2.2
  obtain ⟨l, rfl, _⟩ := okF_uuid hft
  simp only [fvGet_eq hf]
  exact tell_uuid F U O Z K.plan hin (okFs_map _ _ hok) hF.ok hq hf
end
end Go.Kf
/- The reader's functions, more; texts and truths, told. -/
namespace Go.Kf
open Go

theorem wrap_u16 (l : List UInt8) (h : l.length = 2) : IntKind.u16.wrap (Lib.beNat l) = Lib.beNat l := by
  have := beNat_lt l
  rw [h] at this
  simp only [IntKind.wrap, IntKind.bits, IntKind.signed]
  simp; omega

theorem wrap_u32 (l : List UInt8) (h : l.length = 4) : IntKind.u32.wrap (Lib.beNat l) = Lib.beNat l := by
  have := beNat_lt l
  rw [h] at this
  simp only [IntKind.wrap, IntKind.bits, IntKind.signed]
  simp; omega

theorem wrap_u64 (l : List UInt8) (h : l.length = 8) : IntKind.u64.wrap (Lib.beNat l) = Lib.beNat l := by
  have := beNat_lt l
  rw [h] at this
  simp only [IntKind.wrap, IntKind.bits, IntKind.signed]
  simp; omega

theorem wrap_i64_u64 (x : Int) : IntKind.i64.wrap (IntKind.u64.wrap x) = IntKind.i64.wrap x := by
  simp only [IntKind.wrap, IntKind.bits, IntKind.signed]
  simp

def gOctet (c : Nums) (k : Tr) : Tr := gSrc c 6 <| .op (.indexAddr c.tBytes (.tmp 8) (.const (.int .i64 0))) none [] <| .op (.load c.tU8 (.tmp 9)) none [] k

def gLen1 (c : Nums) (v0 : Value) (k : Tr) : Tr := gSrc c 1 <| .op (.call { callee := .builtin .len, args := ⟨[.tmp 3]⟩, argTypes := ⟨[c.tBytes]⟩ }) none [] <| .op (.binOp .lss c.tInt (.tmp 4) (.const (.int .i64 1)) c.tInt) none [] <|
  .cond (.tmp 5) (gFail c 6 <| .ret [(.const v0, none)]) <| gOctet c k

def tInt8 (c : Nums) : Tr := gLen1 c (.int .i8 0) <| gAdvance c (.const (.int .i64 1)) 11 <| .op (.convert c.tU8 c.tI8 (.tmp 10)) none [] <| .ret [(.tmp 18, none)]

def tBoolRd (c : Nums) : Tr := gLen1 c (.bool false) <| .op (.binOp .neq c.tU8 (.tmp 10) (.const (.int .u8 0)) c.tU8) none [] <| gAdvance c (.const (.int .i64 1)) 12 <| .ret [(.tmp 11, none)]

section
variable {P : Program} {c : Nums} {R : Value → World → Prop} {w : World} {rb D : Nat} {r : Rd}

/-- An octet, or nothing is left. -/
theorem s_octet {v0 : Value} {k : Tr} (F : RdFacts P c) (h : RdAt w rb D r) (hnone : r.l = [] → ∀ w', RdAt w' rb D .fail → Keeps [rb] w w' → R v0 w')
    (hk : ∀ (b : UInt8) (t : List UInt8) (ρ : Nat → Value), r.l = b :: t → ρ 0 = ptr rb → ρ 10 = .int .u8 b.toNat → k.sem P R [] 11 ρ w) : (gLen1 c v0 k).sem P R [] 1 (en [ptr rb]) w := by
  refine s_src F rfl h fun v hv hbv hh => ?_
  obtain ⟨a, cp, hav, hcp, hnil⟩ := hv.1.form
  refine s_val (v_len (a := a) (l := r.l.length) (c := cp) F.bytes hav) ?_
  refine s_val (v_cmp (kk := .i64) (a := r.l.length) (b := 1) (r := decide ((r.l.length : Int) < 1)) rfl rfl rfl) ?_
  refine s_cond (b := decide ((r.l.length : Int) < 1)) rfl (fun hb => ?_) fun hb => ?_
  · have hlt : (r.l.length : Int) < 1 := by simpa using hb
    refine s_fail F (by omega) rfl h fun w' vs h' k' => ?_
    exact s_ret1 (hnone (List.eq_nil_of_length_eq_zero (by omega)) w' h' k')
  · have hge : ¬ (r.l.length : Int) < 1 := by simpa using hb
    refine s_src F rfl h fun v2 hv2 hbv2 hh2 => ?_
    rcases hv2.1.2 with ⟨_, h0⟩ | ⟨b, o, cap, cs, rfl, _, hh3, hl3, hx3⟩
    · omega
    have hidx := v_indexAddr (P := P) (ρ := ext (ext (ext (ext (en [ptr rb]) 1 [ptr rb, ptr rb, v]) (1 + 3) [.int .i64 r.l.length]) (1 + 3 + 1) [.bool (decide ((r.l.length : Int) < 1))]) (1 + 3 + 1 + 1) [ptr rb, ptr rb, .slice (some ⟨b, o, none⟩) r.l.length cap]) (t := c.tBytes) (x := .tmp 8) (i := .const (.int .i64 0)) (b := b) (o := o) (l := r.l.length) (c := cap) (j := 0) (kk := .i64) F.bytes F.szU8 rfl rfl (by omega) (by omega)
    refine s_val hidx ?_
    obtain ⟨x, t, hl⟩ : ∃ x t, r.l = x :: t := by
      cases hr : r.l with
      | nil => rw [hr] at hge; simp at hge
      | cons x t => exact ⟨x, t, rfl⟩
    have hcell : cs[o + (0 : Int).toNat * 1]? = some (.int .u8 x.toNat) := by
      have h1 : (bcells r.l)[0]? = some (.int .u8 x.toNat) := by rw [hl]; rfl
      rw [← hx3, List.getElem?_take, if_pos (by omega), List.getElem?_drop] at h1
      simpa using h1
    refine s_lok (l_load1 (b := b) (o := o + (0 : Int).toNat * 1) F.oneU8 rfl hh3 hcell) ?_
    exact hk x t _ hl rfl rfl

theorem int8_gives {f : Nat} (F : RdFacts P c) (h8 : P.underlying c.tI8 = some (.int .i8)) (hT : treeIn P f noOrc [.tmp 0] 1 = tInt8 c) : RdNum P f 1 .i8 := by
  intro w rb D r h
  refine gives_in (ρ := en [ptr rb]) F.mix hT (Nat.le_refl _) rfl (by simp [opBelow]) ?_
  refine s_octet F h (fun hn w' h' k' => ?_) fun b t ρ hl h0 h10 => ?_
  · simp only [rFix, hn]
    exact ⟨rfl, h', k'⟩
  · refine s_advance (kk := .i64) (m := 1) F (by omega) h0 rfl trivial (by rw [hl]; simp) h fun w2 vs h2 k2 => ?_
    refine s_val (v_conv (k1 := .u8) (a := b.toNat) F.u8 h8 (by show ext ρ 11 vs 10 = _; rw [ext_lt (by omega)]; exact h10)) ?_
    refine s_ret1 ⟨?_, ?_, k2⟩
    · show ext _ 18 _ 18 = _
      rw [ext_at]
      simp [rFix, hl, Lib.beNat, Lib.beFrom]
    · have : (rFix 1 r).2 = { r with l := r.l.drop 1 } := by simp [rFix, hl]
      rw [this]
      exact h2

def RdBool (P : Program) (f : Nat) : Prop := RdPure P f fun r => (.bool (rBool r).1, (rBool r).2)

theorem bool_gives {f : Nat} (F : RdFacts P c) (hT : treeIn P f noOrc [.tmp 0] 1 = tBoolRd c) : RdBool P f := by
  intro w rb D r h
  refine gives_in (ρ := en [ptr rb]) F.mix hT (Nat.le_refl _) rfl (by simp [opBelow]) ?_
  refine s_octet F h (fun hn w' h' k' => ?_) fun b t ρ hl h0 h10 => ?_
  · simp only [rBool, rFix, hn]
    exact ⟨rfl, h', k'⟩
  · refine s_val (v_cmp (kk := .u8) (a := b.toNat) (b := 0) (r := (b.toNat : Int) != 0) h10 rfl rfl) ?_
    refine s_advance (n := 12) (kk := .i64) (m := 1) F (by omega) (by show ext ρ 11 _ 0 = _; rw [ext_lt (by omega)]; exact h0) rfl trivial (by rw [hl]; simp) h fun w2 vs h2 k2 => ?_
    refine s_ret1 ⟨?_, ?_, k2⟩
    · show ext _ 12 _ 11 = _
      rw [ext_lt (by omega)]
      show ext ρ 11 _ 11 = _
      rw [ext_at]
      simp only [rBool, rFix, hl]
      simp [Lib.beNat, Lib.beFrom]
      by_cases hb : b.toNat = 0
      · simp [hb]
      · have h2 : ((b.toNat : Int) != 0) = true := by simp; exact hb
        have h3 : (b.toNat != 0) = true := by simpa using hb
        simp [h2, h3]
    · have : (rBool r).2 = { r with l := r.l.drop 1 } := by simp [rBool, rFix, hl]
      rw [this]
      exact h2

theorem any_bool {f : Nat} (h : RdBool P f) : RdAny P f .bool := fun w rb D r hr =>
  (h w rb D r hr).mono fun v w' ⟨hv, h1, k1⟩ => ⟨⟨[v], by rw [hv]; rfl, by rw [hv]; exact ⟨rfl, rfl⟩⟩, h1, k1⟩

def tTextTree (c : Nums) : Tr := .op (.alloc c.tTree) none [] <| .op (.binOp .eql c.tPStr (.tmp 0) (.const (.pointer none)) c.tPStr) none [] <| .cond (.tmp 2)
  (.op (.build c.tTree ⟨[(2, .const (.bool true))]⟩) none [] <| .op (.store c.tTree (.tmp 1) (.tmp 3)) none [] <| .ret [(.tmp 1, some c.tTree)])
  (.op (.nilCheck (.tmp 0)) none [] <| .op (.load c.tStr (.tmp 3)) none [] <| .op (.convert c.tStr c.tBytes (.tmp 4)) none [] <| .op (.build c.tTree ⟨[(1, .tmp 5)]⟩) none [] <| .op (.store c.tTree (.tmp 1) (.tmp 6)) none [] <| .ret [(.tmp 1, some c.tTree)])

theorem tree_ones {A : Nat → Prop} {t : PT} {cs : List Value} (h : TreeAt w A t cs) : ∀ u ∈ cs, u.oneCell' = true := h.ones

theorem textTree_gives {f e : Nat} (F : RdFacts P c) (Z : TyFacts P c c.tTree c.tTrees c.tTagL c.tTag) (K : TellFacts P c) (hstr : oneTy P c.tStr = true) (hp : P.underlying c.tPStr = some (.pointer e)) (hT : treeIn P f noOrc [.tmp 0] 1 = tTextTree c) : TellCellTy P f .ntext := by
  refine ⟨rfl, fun D lo fv hok w v hv => ?_⟩
  obtain ⟨o, rfl, hl⟩ := okF_ntext hok
  obtain ⟨v0, e0, ho⟩ := hv
  obtain rfl : v = v0 := by simpa using e0
  refine gives_in (ρ := en [v]) F.mix hT (Nat.le_refl _) rfl (by simp [opBelow]) ?_
  refine s_alloc K.zero fun w1 h1 k1 z1 => ?_
  have hout : ∀ (t : PT) (cs : List Value) (w2 w3 : World), TreeAt w2 (fun b => w.heap.size < b) t cs → Keeps [] w w2 → Has w3 w.heap.size cs → Keeps [w.heap.size] w2 w3 → (∃ cs', (Value.agg ⟨cs⟩) = .agg ⟨cs'⟩ ∧ TreeAt w3 (fun b => w.heap.size ≤ b) t cs') ∧ Keeps [] w w3 := by
    intro t cs w2 w3 ht k2 _ k3
    refine ⟨⟨cs, rfl, TreeAt.keep k3 (fun b hb h' => by simp only [List.mem_singleton] at hb; omega) (fun b h' _ => by omega) _ _ ht⟩, ((k2.mono (by simp)).trans k3).less fun x hx => .inr (by simp only [List.mem_singleton] at hx; omega)⟩
  cases o with
  | none =>
    simp only [NStrAt] at ho
    subst ho
    refine s_val (v_eqlPtr (op := .eql) (a := none) (r := true) hp rfl rfl (.inl ⟨rfl, rfl⟩)) ?_
    refine s_cond (b := true) rfl (fun _ => ?_) (fun h => by cases h)
    refine s_val (v_build (cells := [.int .i64 0, .slice none 0 0, .bool true, .slice none 0 0, .slice none 0 0]) K.plan (fun q hq => by
      simp only [List.mem_singleton] at hq; subst hq; rfl) rfl) ?_
    have ht : TreeAt w1 (fun b => w.heap.size < b) (.mk 0 [] true [] []) [.int .i64 0, .slice none 0 0, .bool true, .slice none 0 0, .slice none 0 0] := oct_tree ⟨Ro.nil _ 1, (fun h => absurd rfl h), by decide⟩ true
    refine s_storeAll (b := w.heap.size) (old := zeroTree) (cs := [.int .i64 0, .slice none 0 0, .bool true, .slice none 0 0, .slice none 0 0]) Z.agg rfl rfl h1 rfl ht.ones fun w3 h3 k3 => ?_
    exact s_retAgg (b := w.heap.size) rfl h3 Z.agg (hout _ _ w1 w3 ht k1 h3 k3)
  | some l =>
    obtain ⟨b, hb, rfl, hh⟩ := ho
    have hl' := hl l rfl
    refine s_val (v_eqlPtr (op := .eql) (a := some ⟨b, 0, none⟩) (r := false) hp rfl rfl (.inl ⟨rfl, rfl⟩)) ?_
    refine s_cond (b := false) rfl (fun h => by cases h) fun _ => ?_
    refine s_val (v_nilCheck (a := ⟨b, 0, none⟩) rfl) ?_
    refine s_lok (l_load1 (b := b) (o := 0) hstr rfl (hh.keep k1 (by simp)) rfl) ?_
    obtain ⟨v2, w2, e2, ho2, k2, hb2⟩ := a_stringBytes (P := P) (ρ := ext (ext (ext (ext (en [ptr b]) 1 [ptr w.heap.size]) (1 + 1) [.bool false]) (1 + 1 + 1) [.pointer (some ⟨b, 0, none⟩)]) (1 + 1 + 1 + 1) [.string (strOf l)]) (s := c.tStr) (d := c.tBytes) (x := .tmp 4) (w := w1) (l := l) F.str F.bytes F.u8 rfl (by simp only [big] at hl'; omega)
    refine s_act e2 (fun p hp => (by cases hp)) ?_
    refine s_val (v_build (cells := [.int .i64 0, v2, .bool false, .slice none 0 0, .slice none 0 0]) K.plan (fun q hq => by
      simp only [List.mem_singleton] at hq; subst hq; exact ho2.one) rfl) ?_
    have ht : TreeAt w2 (fun b => w.heap.size < b) (.mk 0 l false [] []) [.int .i64 0, v2, .bool false, .slice none 0 0, .slice none 0 0] := oct_tree (.of ho2.reads (fun x hx => by
      rw [hb2] at hx
      simp only [List.mem_singleton] at hx
      omega) (by simp only [big] at hl'; omega)) false
    refine s_storeAll (b := w.heap.size) (old := zeroTree) (cs := [.int .i64 0, v2, .bool false, .slice none 0 0, .slice none 0 0]) Z.agg rfl rfl (h1.keep k2 (by simp)) rfl ht.ones fun w3 h3 k3 => ?_
    exact s_retAgg (b := w.heap.size) rfl h3 Z.agg (hout _ _ w2 w3 ht (k1.trans k2) h3 k3)

def tBoolTree (c : Nums) : Tr := .op (.alloc c.tTree) none [] <| .cond (.tmp 0)
  (.op (.build c.tTree ⟨[(0, .const (.int .i64 1))]⟩) none [] <| .op (.store c.tTree (.tmp 1) (.tmp 2)) none [] <| .ret [(.tmp 1, some c.tTree)])
  (.op (.build c.tTree ⟨[]⟩) none [] <| .op (.store c.tTree (.tmp 1) (.tmp 2)) none [] <| .ret [(.tmp 1, some c.tTree)])

theorem boolTree_gives {f : Nat} (F : RdFacts P c) (Z : TyFacts P c c.tTree c.tTrees c.tTagL c.tTag) (K : TellFacts P c) (hT : treeIn P f noOrc [.tmp 0] 1 = tBoolTree c) : TellCellTy P f .bool := by
  refine ⟨rfl, fun D lo fv hok w v hv => ?_⟩
  obtain ⟨x, rfl⟩ := okF_bool hok
  obtain ⟨hvv, _⟩ := hv
  obtain rfl : v = .bool x := by simpa using hvv
  refine gives_in (ρ := en [.bool x]) F.mix hT (Nat.le_refl _) rfl (by simp [opBelow]) ?_
  refine s_alloc K.zero fun w1 h1 k1 z1 => ?_
  refine s_cond (b := x) rfl (fun hb => ?_) (fun hb => ?_)
  · subst hb
    have ht := num_tree w1 (fun b => w.heap.size < b) 1
    refine s_val (v_build (cells := [.int .i64 1, .slice none 0 0, .bool false, .slice none 0 0, .slice none 0 0]) K.plan (fun q hq => by simp only [List.mem_singleton] at hq; subst hq; rfl) rfl) ?_
    refine s_storeAll (b := w.heap.size) (old := zeroTree) (cs := [.int .i64 1, .slice none 0 0, .bool false, .slice none 0 0, .slice none 0 0]) Z.agg rfl rfl h1 rfl ht.ones fun w3 h3 k3 => ?_
    refine s_retAgg (b := w.heap.size) rfl h3 Z.agg ⟨⟨_, rfl, TreeAt.keep k3 (fun b hb h' => by simp only [List.mem_singleton] at hb; omega) (fun b h' _ => by omega) _ _ ht⟩, ((k1.mono (by simp)).trans k3).less fun x hx => .inr (by simp only [List.mem_singleton] at hx; omega)⟩
  · subst hb
    have ht := num_tree w1 (fun b => w.heap.size < b) 0
    refine s_val (v_build (cells := [.int .i64 0, .slice none 0 0, .bool false, .slice none 0 0, .slice none 0 0]) K.plan (fun q hq => by cases hq) rfl) ?_
    refine s_storeAll (b := w.heap.size) (old := zeroTree) (cs := [.int .i64 0, .slice none 0 0, .bool false, .slice none 0 0, .slice none 0 0]) Z.agg rfl rfl h1 rfl ht.ones fun w3 h3 k3 => ?_
    refine s_retAgg (b := w.heap.size) rfl h3 Z.agg ⟨⟨_, rfl, TreeAt.keep k3 (fun b hb h' => by simp only [List.mem_singleton] at hb; omega) (fun b h' _ => by omega) _ _ ht⟩, ((k1.mono (by simp)).trans k3).less fun x hx => .inr (by simp only [List.mem_singleton] at hx; omega)⟩
end
end Go.Kf
/- The reference's telling: numbers, and what is as by default. -/
namespace Go.Kf
open Go

def tUsualG (c : Nums) (s : SN) : Tr :=
  .op (.box c.sTree (.tmp 1)) none [] <|
  .op (.fieldAddr c.sTree (.tmp 2) 4) none [] <|
  .op (.load c.sTagL (.tmp 3)) none [] <|
  .op (.call { callee := (.builtin .len), args := ⟨[(.tmp 4)]⟩, argTypes := ⟨[c.sTagL]⟩ }) none [] <|
  .op (.binOp .gtr c.tInt (.tmp 5) (.const (.int .i64 0)) c.tInt) none [] <|
  .cond (.tmp 6) (
    .ret [((.const (.bool false)), none)]
  ) (
    .op (.call { callee := (.builtin .len), args := ⟨[(.tmp 0)]⟩, argTypes := ⟨[s.fields]⟩ }) none [] <|
    .loop 0 [(.const (.bool false)), (.const (.int .i64 0))] <|
    .op (.binOp .lss c.tInt (.tmp 9) (.tmp 7) c.tInt) none [] <|
    .cond (.tmp 10) (
      .op (.indexAddr s.fields (.tmp 0) (.tmp 9)) none [] <|
      .op (.load s.field (.tmp 11)) none [] <|
      .op (.alloc s.field) none [] <|
      .op (.store s.field (.tmp 13) (.tmp 12)) none [] <|
      .op (.load c.sTree (.tmp 2)) none [] <|
      .op (callOp s.at_ [(.tmp 15), (.tmp 9)]) none [] <|
      .op (.alloc c.sTree) none [] <|
      .op (.store c.sTree (.tmp 17) (.tmp 16)) none [] <|
      .op (.fieldAddr s.field (.tmp 13) 0) none [] <|
      .op (.load c.tInt (.tmp 19)) none [] <|
      .op (.binOp .eql c.tInt (.tmp 20) (.const (.int .i64 8)) c.tInt) none [] <|
      .join 1 (
        .cond (.tmp 21) (
          .op (.fieldAddr c.sTree (.tmp 17) 2) none [] <|
          .op (.load c.tBool (.tmp 22)) none [] <|
          .op (.fieldAddr s.field (.tmp 13) 3) none [] <|
          .op (.load c.tInt (.tmp 24)) none [] <|
          .op (.binOp .geq c.tInt (.tmp 25) (.const (.int .i64 0)) c.tInt) none [] <|
          .op (.binOp .neq c.tBool (.tmp 23) (.tmp 26) c.tBool) none [] <|
          .cond (.tmp 27) (
            .ret [((.const (.bool false)), none)]
          ) (
            .op (.fieldAddr c.sTree (.tmp 17) 1) none [] <|
            .op (.load c.tBytes (.tmp 28)) none [] <|
            .op (.call { callee := (.builtin .len), args := ⟨[(.tmp 29)]⟩, argTypes := ⟨[c.tBytes]⟩ }) none [] <|
            .op (.binOp .gtr c.tInt (.tmp 30) (.const (.int .i64 0)) c.tInt) none [] <|
            .cond (.tmp 31) (
              .ret [((.const (.bool false)), none)]
            ) (
              .to 1 [(.tmp 8)]
            )
          )
        ) (
          .op (.binOp .eql c.tInt (.tmp 20) (.const (.int .i64 7)) c.tInt) none [] <|
          .join 2 (
            .cond (.tmp 22) (
              .draw <|
              .pur (.fieldAddr c.sTree (.tmp 17) 1) none <|
              .lok (.load c.tBytes (.tmp 23)) none <|
              .op (.makeSlice c.tBytes (.const (.int .i64 16)) (.const (.int .i64 16))) none [((.load c.tBytes (.tmp 23)), 24)] <|
              .op (callOp s.same [(.tmp 24), (.tmp 25)]) none [] <|
              .pur (.unOp .not c.tBool (.tmp 26)) none <|
              .cond (.tmp 27) (
                .ret [((.const (.bool false)), none)]
              ) (
                .to 2 [(.tmp 8)]
              )
            ) (
              .op (.binOp .eql c.tInt (.tmp 20) (.const (.int .i64 9)) c.tInt) none [] <|
              .join 3 (
                .cond (.tmp 23) (
                  .to 3 [(.tmp 23)]
                ) (
                  .op (.binOp .eql c.tInt (.tmp 20) (.const (.int .i64 11)) c.tInt) none [] <|
                  .to 3 [(.tmp 24)]
                )
              ) 1 <|
              .join 3 (
                .cond (.tmp 24) (
                  .op (.fieldAddr c.sTree (.tmp 17) 1) none [] <|
                  .op (.load c.tBytes (.tmp 25)) none [] <|
                  .op (.call { callee := (.builtin .len), args := ⟨[(.tmp 26)]⟩, argTypes := ⟨[c.tBytes]⟩ }) none [] <|
                  .op (.binOp .gtr c.tInt (.tmp 27) (.const (.int .i64 0)) c.tInt) none [] <|
                  .cond (.tmp 28) (
                    .ret [((.const (.bool false)), none)]
                  ) (
                    .op (.fieldAddr c.sTree (.tmp 17) 3) none [] <|
                    .op (.load c.sTrees (.tmp 29)) none [] <|
                    .op (.call { callee := (.builtin .len), args := ⟨[(.tmp 30)]⟩, argTypes := ⟨[c.sTrees]⟩ }) none [] <|
                    .op (.binOp .gtr c.tInt (.tmp 31) (.const (.int .i64 0)) c.tInt) none [] <|
                    .cond (.tmp 32) (
                      .ret [((.const (.bool false)), none)]
                    ) (
                      .to 3 [(.tmp 8)]
                    )
                  )
                ) (
                  .op (.binOp .eql c.tInt (.tmp 20) (.const (.int .i64 10)) c.tInt) none [] <|
                  .join 4 (
                    .cond (.tmp 25) (
                      .op (.fieldAddr s.field (.tmp 13) 3) none [] <|
                      .op (.load c.tInt (.tmp 26)) none [] <|
                      .op (.binOp .geq c.tInt (.tmp 27) (.const (.int .i64 0)) c.tInt) none [] <|
                      .cond (.tmp 28) (
                        .op (.fieldAddr c.sTree (.tmp 17) 2) none [] <|
                        .op (.load c.tBool (.tmp 29)) none [] <|
                        .op (.unOp .not c.tBool (.tmp 30)) none [] <|
                        .cond (.tmp 31) (
                          .ret [((.const (.bool false)), none)]
                        ) (
                          .op (.fieldAddr s.field (.tmp 13) 3) none [] <|
                          .op (.load c.tInt (.tmp 32)) none [] <|
                          .op (.binOp .lss c.tInt (.tmp 33) (.const (.int .i64 0)) c.tInt) none [] <|
                          .cond (.tmp 34) (
                            .op (.fieldAddr s.field (.tmp 13) 7) none [] <|
                            .op (.load s.fields (.tmp 35)) none [] <|
                            .op (.load c.sTree (.tmp 17)) none [] <|
                            .op (callOp s.usualG [(.tmp 36), (.tmp 37)]) none [] <|
                            .op (.unOp .not c.tBool (.tmp 38)) none [] <|
                            .cond (.tmp 39) (
                              .ret [((.const (.bool false)), none)]
                            ) (
                              .to 4 [(.tmp 8)]
                            )
                          ) (
                            .to 4 [(.tmp 8)]
                          )
                        )
                      ) (
                        .op (.fieldAddr s.field (.tmp 13) 3) none [] <|
                        .op (.load c.tInt (.tmp 29)) none [] <|
                        .op (.binOp .lss c.tInt (.tmp 30) (.const (.int .i64 0)) c.tInt) none [] <|
                        .cond (.tmp 31) (
                          .op (.fieldAddr s.field (.tmp 13) 7) none [] <|
                          .op (.load s.fields (.tmp 32)) none [] <|
                          .op (.load c.sTree (.tmp 17)) none [] <|
                          .op (callOp s.usualG [(.tmp 33), (.tmp 34)]) none [] <|
                          .op (.unOp .not c.tBool (.tmp 35)) none [] <|
                          .cond (.tmp 36) (
                            .ret [((.const (.bool false)), none)]
                          ) (
                            .to 4 [(.tmp 8)]
                          )
                        ) (
                          .to 4 [(.tmp 8)]
                        )
                      )
                    ) (
                      .draw <|
                      .pur (.fieldAddr c.sTree (.tmp 17) 0) none <|
                      .lok (.load c.tI64 (.tmp 26)) none <|
                      .pur (.fieldAddr s.field (.tmp 13) 0) none <|
                      .lok (.load c.tInt (.tmp 28)) none <|
                      .pur (.fieldAddr s.field (.tmp 13) 5) none <|
                      .lok (.load c.tI64 (.tmp 30)) none <|
                      .op (callOp s.number [(.tmp 29), (.tmp 31)]) none [((.load c.tI64 (.tmp 26)), 27)] <|
                      .pur (.binOp .neq c.tI64 (.tmp 27) (.tmp 32) c.tI64) none <|
                      .cond (.tmp 33) (
                        .ret [((.const (.bool false)), none)]
                      ) (
                        .to 4 [(.tmp 8)]
                      )
                    )
                  ) 1 <|
                  .to 3 [(.tmp 26)]
                )
              ) 1 <|
              .to 2 [(.tmp 25)]
            )
          ) 1 <|
          .to 1 [(.tmp 23)]
        )
      ) 1 <|
      .op (.binOp .add c.tInt (.tmp 9) (.const (.int .i64 1)) c.tInt) none [] <|
      .to 0 [(.tmp 22), (.tmp 23)]
    ) (
      .ret [((.const (.bool true)), none)]
    )
  )

theorem fits_of {k : IntKind} (h : IntKind.fits k) (x : Int) : IntKind.i64.wrap (k.wrap x) = k.wrap x := h _ (wrap_wrap k x)

theorem pUsualGots_get : ∀ {fs : List PF} {t : PT} {i : Nat}, pUsualGots fs t i = true ↔ ∀ j (hj : j < fs.length), pUsualGot fs[j] (pAt t (i + j)) = true
  | [], t, i => by simp [pUsualGots]
  | f :: r, t, i => by
    rw [pUsualGots, Bool.and_eq_true, pUsualGots_get (fs := r)]
    constructor
    · rintro ⟨h1, h2⟩ j hj
      cases j with
      | zero => exact h1
      | succ j =>
        have := h2 j (by simpa using hj)
        rw [show i + (j + 1) = i + 1 + j by omega]
        simpa using this
    · intro h
      refine ⟨h 0 (by simp), fun j hj => ?_⟩
      have := h (j + 1) (by simpa using hj)
      rw [show i + 1 + j = i + (j + 1) by omega]
      simpa using this

theorem pUsualGots_false {fs : List PF} {t : PT} {j : Nat} (hj : j < fs.length) (h : pUsualGot fs[j] (pAt t j) = false) : pUsualGots fs t 0 = false := by
  cases hh : pUsualGots fs t 0 with
  | false => rfl
  | true =>
    have := pUsualGots_get.1 hh j hj
    rw [Nat.zero_add, h] at this
    cases this

def UsualOf (P : Program) (s : SN) (fs : List PF) : Prop := ∀ (w : World) (fv : Value) (t : PT) (ts : List Value), FieldsV w fs fv → TreeC w t ts → Yields P s.usualG [fv, .agg ⟨ts⟩] w (.bool (t.u.isEmpty && pUsualGots fs t 0))

theorem pUsualGot_eq (f : PF) (x : PT) : pUsualGot f x = pUsualGotOf (fun y => y.u.isEmpty && pUsualGots f.sub y 0) f x := by
  cases f; rw [pUsualGot]; rfl

section
variable {P : Program} {c : Nums} {s : SN} {R : Value → World → Prop} {Γ : List (List Value → World → Prop)} {n : Nat} {ρ : Nat → Value} {w : World} {k : Tr}

theorem number_gives (S : SpFacts P c s) (Nt : NumTys P c) (hT : treeIn P s.number noOrc [.tmp 0, .tmp 1] 2 = tNumber c) (kind x : Int) : Yields P s.number [.int .i64 kind, .int .i64 x] w (.int .i64 (pNumber kind x)) := by
  refine gives_in (ρ := en [_, _]) S.rd.mix hT (Nat.le_refl _) rfl (by simp [opBelow]) ?_
  unfold pNumber
  refine s_val (v_cmp (kk := .i64) (a := kind) (b := 0) (r := kind == 0) rfl rfl rfl) ?_
  refine s_cond (b := kind == 0) rfl (fun hb => ?_) fun hb => ?_
  · rw [if_pos (by simpa using hb)]
    exact s_val (v_bits (op := .and) (kk := .i64) (.inl rfl) rfl rfl (and1_i64 x)) (s_ret1 ⟨rfl, .refl⟩)
  rw [if_neg (by simpa using hb)]
  refine s_val (v_cmp (kk := .i64) (a := kind) (b := 1) (r := kind == 1) rfl rfl rfl) ?_
  refine s_cond (b := kind == 1) rfl (fun hb => ?_) fun hb => ?_
  · rw [if_pos (by simpa using hb)]
    refine s_val (v_conv (k1 := .i64) (k2 := .i8) (a := x) S.ty.i64 Nt.i8 rfl) (s_val (v_conv (k1 := .i8) (k2 := .i64) (a := IntKind.i8.wrap x) Nt.i8 S.ty.i64 rfl) ?_)
    rw [fits_of fits_i8]
    exact s_ret1 ⟨rfl, .refl⟩
  rw [if_neg (by simpa using hb)]
  refine s_val (v_cmp (kk := .i64) (a := kind) (b := 2) (r := kind == 2) rfl rfl rfl) ?_
  refine s_cond (b := kind == 2) rfl (fun hb => ?_) fun hb => ?_
  · rw [if_pos (by simpa using hb)]
    refine s_val (v_conv (k1 := .i64) (k2 := .i16) (a := x) S.ty.i64 S.rd.i16 rfl) (s_val (v_conv (k1 := .i16) (k2 := .i64) (a := IntKind.i16.wrap x) S.rd.i16 S.ty.i64 rfl) ?_)
    rw [fits_of fits_i16]
    exact s_ret1 ⟨rfl, .refl⟩
  rw [if_neg (by simpa using hb)]
  refine s_val (v_cmp (kk := .i64) (a := kind) (b := 3) (r := kind == 3) rfl rfl rfl) ?_
  refine s_cond (b := kind == 3) rfl (fun hb => ?_) fun hb => ?_
  · rw [if_pos (by simpa using hb)]
    refine s_val (v_conv (k1 := .i64) (k2 := .i32) (a := x) S.ty.i64 S.rd.i32 rfl) (s_val (v_conv (k1 := .i32) (k2 := .i64) (a := IntKind.i32.wrap x) S.rd.i32 S.ty.i64 rfl) ?_)
    rw [fits_of fits_i32]
    exact s_ret1 ⟨rfl, .refl⟩
  rw [if_neg (by simpa using hb)]
  refine s_val (v_cmp (kk := .i64) (a := kind) (b := 5) (r := kind == 5) rfl rfl rfl) ?_
  refine s_cond (b := kind == 5) rfl (fun hb => ?_) fun hb => ?_
  · rw [if_pos (by simpa using hb)]
    refine s_val (v_conv (k1 := .i64) (k2 := .u16) (a := x) S.ty.i64 Nt.u16 rfl) (s_val (v_conv (k1 := .u16) (k2 := .i64) (a := IntKind.u16.wrap x) Nt.u16 S.ty.i64 rfl) ?_)
    rw [fits_of fits_u16]
    exact s_ret1 ⟨rfl, .refl⟩
  rw [if_neg (by simpa using hb)]
  exact s_ret1 ⟨rfl, .refl⟩

/-- make([]byte, 16) -/
theorem s_zeros16 {Fo : List (Op × Nat)} (S : SpFacts P c s) (hk : ∀ v' w', MadeO w w' v' (List.replicate 16 0) → (∀ p ∈ Fo, runOp P ρ p.1 w' = .ok (.value (ρ p.2)) w') ∧ k.sem P R Γ (n + 1) (ext ρ n [v']) w') :
    (Tr.op (.makeSlice c.tBytes (.const (.int .i64 16)) (.const (.int .i64 16))) none Fo k).sem P R Γ n ρ w := by
  obtain ⟨inf, hi, hz, hsz, hb⟩ := S.zero8
  obtain ⟨w1, e1, h1, k1, z1⟩ := a_makeSlice (P := P) (ρ := ρ) (w := w) (x := .const (.int .i64 16)) (y := .const (.int .i64 16)) S.rd.bytes hi hz (by rw [hsz]; rfl) (by omega) rfl rfl (by decide) (by decide) (by omega) (by decide)
  have hm : MadeO w w1 (.slice (some ⟨w.heap.size, 0, none⟩) 16 16) (List.replicate 16 0) := by
    refine ⟨⟨rfl, .inr ⟨w.heap.size, 16, [], rfl, (show Has w1 _ (List.replicate 16 (.int .u8 0)) from h1), by decide, by decide, rfl⟩⟩, fun b hb => ?_, k1⟩
    simp only [blkOf, List.mem_singleton] at hb
    omega
  exact s_act e1 (hk _ w1 hm).1 (hk _ w1 hm).2

theorem same_ro (F : RdFacts P c) {f : Nat} (hT : treeIn P f noOrc [.tmp 0, .tmp 1] 2 = tSame c) {v1 v2 : Value} {l1 l2 : List UInt8} (hbig : l1.length < 2 ^ 62 ∨ l2.length < 2 ^ 62) (h1 : Ro w v1 1 l1.length (bcells l1)) (h2 : Ro w v2 1 l2.length (bcells l2)) : Yields P f [v1, v2] w (.bool (decide (l1 = l2))) := same_gives F hT w v1 v2 l1 l2 hbig h1 h2

theorem usual_step (S : SpFacts P c s) (Q : Smalls P s) (hS : ∀ (w : World) (v1 v2 : Value) (l1 l2 : List UInt8), (l1.length < 2 ^ 62 ∨ l2.length < 2 ^ 62) → Ro w v1 1 l1.length (bcells l1) → Ro w v2 1 l2.length (bcells l2) → Yields P s.same [v1, v2] w (.bool (decide (l1 = l2)))) (hN : ∀ (w : World) (kind x : Int), Yields P s.number [.int .i64 kind, .int .i64 x] w (.int .i64 (pNumber kind x)))
    (hT : treeIn P s.usualG noOrc [.tmp 0, .tmp 1] 2 = tUsualG c s) {fs : List PF} (hlen : fs.length < 65536) (ih : ∀ f ∈ fs, UsualOf P s f.sub) : UsualOf P s fs := by
  intro w fv t ts hfv ht
  have htc := ht
  have hfv0 := hfv
  obtain ⟨fcs, hr, hfc⟩ := hfv
  obtain ⟨sv, lv, uv, lcs, ucs, rfl, h1, h2, h3, h4, h5⟩ := ht.cells
  refine gives_in (ρ := en [_, _]) S.rd.mix hT (Nat.le_refl _) rfl (by simp [opBelow]) ?_
  refine s_box rfl fun w1 hx1 k1 z1 => ?_
  obtain ⟨au, cu, eu⟩ := h4.form
  refine s_fl S.ty.f4 S.ty.oneTagL rfl rfl hx1 rfl (s_val (v_len (a := au) (l := t.u.length) (c := cu) S.ty.slTag eu) ?_)
  refine s_val (v_cmp (kk := .i64) (a := t.u.length) (b := 0) (r := decide ((t.u.length : Int) > 0)) rfl rfl rfl) ?_
  refine s_cond (b := decide ((t.u.length : Int) > 0)) rfl (fun hb => s_ret1 ⟨?_, k1⟩) fun hb => ?_
  · have : 0 < t.u.length := by
      have : (t.u.length : Int) > 0 := by simpa using hb
      omega
    have he : t.u.isEmpty = false := by
      cases hu : t.u with
      | nil => rw [hu] at this; simp at this
      | cons => rfl
    rw [he]
    rfl
  have hemp : t.u.isEmpty = true := by
    have : ¬ (t.u.length : Int) > 0 := by simpa using hb
    rw [List.isEmpty_iff_length_eq_zero]
    omega
  rw [hemp, Bool.true_and]
  obtain ⟨a, cp, e⟩ := hr.form
  refine s_val (v_len (a := a) (l := fs.length) (c := cp) S.sl e) ?_
  refine s_countV (n := 8) (q := 7) (kk := .i64) (m := fs.length) (ri := [.const (.bool false)]) (Γ := []) (fun j vr w' => vr = [.bool false] ∧ Keeps [] w1 w' ∧ ∀ i (hi : i < fs.length), i < j → pUsualGot fs[i] (pAt t i) = true) (by omega) rfl ⟨rfl, .refl, fun i _ h => by omega⟩ ?_ ?_
  · rintro j hj w2 vr ⟨rfl, k12, hall⟩ hvr J hJ
    have hj' : j < fs.length := by omega
    have k02 := k1.trans k12
    refine s_eachF (fv := fv) (fs := fs) (j := j) S (hfv0.keep k02) rfl rfl hj' fun w3 a3 b cs hh hf k3 hb => ?_
    have hf0 := hf
    obtain ⟨sv3, rfl, hsub⟩ := hf.cells
    have k13 := k12.trans k3
    have hx3 := hx1.keep k13 (by simp)
    refine s_lok (l_loadN (b := w.heap.size) (o := 0) S.ty.agg rfl hx3 (show 0 + 5 ≤ 5 by omega)) ?_
    refine s_callx (Q.at_ w3 t _ j (TreeC.keep (k1.trans k13) _ _ htc)) rfl fun u w4 ⟨k4, tcs, hu, htj⟩ => ?_
    subst hu
    refine s_alloc S.got.zero fun w5 hz5 k5 z5 => ?_
    have hl5 := htj.len
    refine s_storeAll (b := w4.heap.size) (old := zeroTree) (cs := tcs) (by rw [hl5]; exact S.ty.agg) rfl rfl hz5 (by rw [hl5]; rfl) htj.ones fun w6 hy6 k6 => ?_
    have k46 : Keeps [] w4 w6 := ((k5.mono (by simp)).trans k6).less fun x hx => .inr (by simp only [List.mem_singleton] at hx; omega)
    have k36 := k4.trans k46
    have k16 := k13.trans k36
    have hh6 := hh.keep k36 (by simp)
    have ht6 := TreeC.keep k46 _ _ htj
    generalize hx : pAt t j = x at htj ht6
    have hxl := ht6.lens
    have ht60 := ht6
    obtain ⟨xs, xl, xu, xlc, xuc, rfl, g1, g2, g3, g4, g5⟩ := ht6.cells
    have fin : ∀ w', pUsualGot fs[j] x = true → Keeps [] w6 w' → J [.bool false, .int .i64 ((j + 1 : Nat) : Int)] w' := fun w' hg hk => hJ [_] w' rfl ⟨rfl, k16.trans hk, fun i hi hij => by
      by_cases hij2 : i = j
      · subst hij2; rw [hx]; exact hg
      · exact hall i hi (by omega)⟩
    have bad : ∀ w', pUsualGot fs[j] x = false → Keeps [] w6 w' → (fun u w' => u = Value.bool (pUsualGots fs t 0) ∧ Keeps [] w w') (.bool false) w' := fun w' hg hk => ⟨by rw [pUsualGots_false hj' (by rw [hx]; exact hg)], (k1.trans k16).trans hk⟩
    rw [pUsualGot_eq] at fin bad
    generalize hff : fs[j]'hj' = f at fin bad hsub hh6
    have hih := ih f (by rw [← hff]; exact List.getElem_mem hj')
    unfold pUsualGotOf at fin bad
    generalize hG : (if f.kind = 8 then _ else _ : Bool) = G at fin bad
    refine s_fl S.f0 S.oneInt rfl rfl hh6 rfl ?_
    refine s_val (v_cmp (kk := .i64) (a := f.kind) (b := 8) (r := f.kind == 8) rfl rfl rfl) ?_
    refine ⟨rfl, fun vs w' => vs = [.bool false] ∧ Keeps [] w6 w' ∧ G = true, ?_, ?_⟩
    · refine s_cond (b := f.kind == 8) rfl (fun hb => ?_) fun hb => ?_
      · rw [if_pos (by simpa using hb)] at hG
        refine s_fl S.ty.f2 S.rd.oneBool rfl rfl hy6 rfl (s_fl S.f3 S.oneInt rfl rfl hh6 rfl ?_)
        refine s_val (v_cmp (kk := .i64) (a := f.nul) (b := 0) (r := decide (f.nul ≥ 0)) rfl rfl rfl) ?_
        refine s_val (v_eqlBool (op := .neq) (a := x.null) (b := decide (f.nul ≥ 0)) (r := x.null != decide (f.nul ≥ 0)) S.ty.bool rfl rfl (.inr ⟨rfl, rfl⟩)) ?_
        refine s_cond (b := x.null != decide (f.nul ≥ 0)) rfl (fun hb2 => s_ret1 (bad w6 ?_ .refl)) fun hb2 => ?_
        · rw [← hG, show (x.null == decide (0 ≤ f.nul)) = false by simpa [bne] using hb2]
          rfl
        obtain ⟨sa, cps, es⟩ := g1.form
        refine s_fl S.ty.f1 S.rd.oneBytes rfl rfl hy6 rfl (s_val (v_len (a := sa) (l := x.s.length) (c := cps) S.rd.bytes es) ?_)
        refine s_val (v_cmp (kk := .i64) (a := x.s.length) (b := 0) (r := decide ((x.s.length : Int) > 0)) rfl rfl rfl) ?_
        have hemp : x.s.isEmpty = !decide ((x.s.length : Int) > 0) := by cases x.s <;> simp
        refine s_cond (b := decide ((x.s.length : Int) > 0)) rfl (fun hb3 => s_ret1 (bad w6 ?_ .refl)) fun hb3 => ⟨_, rfl, rfl, .refl, ?_⟩
        · rw [← hG, hemp, hb3, Bool.not_true, Bool.and_false]
        · rw [← hG, hemp, hb3, show (x.null == decide (0 ≤ f.nul)) = true by simpa [bne] using hb2]
          rfl
      rw [if_neg (by simpa using hb)] at hG
      refine s_val (v_cmp (kk := .i64) (a := f.kind) (b := 7) (r := f.kind == 7) rfl rfl rfl) ?_
      refine ⟨rfl, fun vs w' => vs = [.bool false] ∧ Keeps [] w6 w' ∧ G = true, ?_, fun vs w' _ ⟨h1, h2, h3⟩ => ⟨_, rfl, by subst h1; exact ⟨rfl, h2, h3⟩⟩⟩
      refine s_cond (b := f.kind == 7) rfl (fun hb => ?_) fun hb => ?_
      · rw [if_pos (by simpa using hb)] at hG
        show Tr.sem _ _ _ _ _ _ { w6 with drawn := w6.drawn + 1 }
        have hd : Keeps [] w6 { w6 with drawn := w6.drawn + 1 } := keeps_drawn w6 _ _
        generalize ({ w6 with drawn := w6.drawn + 1 } : World) = w7 at hd ⊢
        have hy7 := hy6.keep hd (by simp)
        refine p_fl S.ty.f1 S.rd.oneBytes rfl rfl hy7 rfl ?_
        refine s_zeros16 S fun v8 w8 hM => ⟨fun p hp => ?_, ?_⟩
        · simp only [List.mem_singleton] at hp
          subst hp
          exact l_load1 (b := w4.heap.size) (o := 1) S.rd.oneBytes rfl (hy7.keep hM.2.2 (by simp)) rfl
        have hs8 : x.s.length < 2 ^ 62 := by omega
        refine s_callx (hS w8 xs v8 x.s (List.replicate 16 0) (.inl hs8) ((g1.keep hd).keep hM.2.2) (Ro.of_reads hM.1.reads)) rfl fun u w9 ⟨hu, k9⟩ => ?_
        subst hu
        refine p_val (v_not (b := decide (x.s = List.replicate 16 0)) rfl) ?_
        refine s_cond (b := !decide (x.s = List.replicate 16 0)) rfl (fun hb3 => s_ret1 (bad w9 ?_ ((hd.trans hM.2.2).trans k9))) fun hb3 => ⟨_, rfl, rfl, (hd.trans hM.2.2).trans k9, ?_⟩
        · rw [← hG]; simpa using hb3
        · rw [← hG]; simpa using hb3
      rw [if_neg (by simpa using hb)] at hG
      refine s_val (v_cmp (kk := .i64) (a := f.kind) (b := 9) (r := f.kind == 9) rfl rfl rfl) ?_
      refine ⟨rfl, fun vs w' => vs = [.bool (f.kind == 9 || f.kind == 11)] ∧ w' = w6, ?_, ?_⟩
      · refine s_cond (b := f.kind == 9) rfl (fun hb => ⟨_, rfl, by simp [ev, ext, hb], rfl⟩) fun hb => ?_
        refine s_val (v_cmp (kk := .i64) (a := f.kind) (b := 11) (r := f.kind == 11) rfl rfl rfl) ?_
        exact ⟨_, rfl, by simp [ev, ext, hb], rfl⟩
      rintro vs w7 _ ⟨rfl, hw7⟩
      rw [hw7]
      clear hw7
      refine ⟨rfl, fun vs w' => vs = [.bool false] ∧ Keeps [] w6 w' ∧ G = true, ?_, fun vs w' _ ⟨h1, h2, h3⟩ => ⟨_, rfl, by subst h1; exact ⟨rfl, h2, h3⟩⟩⟩
      refine s_cond (b := f.kind == 9 || f.kind == 11) rfl (fun hb => ?_) fun hb => ?_
      · rw [if_pos (by simpa using hb)] at hG
        obtain ⟨sa, cps, es⟩ := g1.form
        obtain ⟨la, cpl, el⟩ := g2.form
        refine s_fl S.ty.f1 S.rd.oneBytes rfl rfl hy6 rfl (s_val (v_len (a := sa) (l := x.s.length) (c := cps) S.rd.bytes es) ?_)
        refine s_val (v_cmp (kk := .i64) (a := x.s.length) (b := 0) (r := decide ((x.s.length : Int) > 0)) rfl rfl rfl) ?_
        have hemp : x.s.isEmpty = !decide ((x.s.length : Int) > 0) := by cases x.s <;> simp
        refine s_cond (b := decide ((x.s.length : Int) > 0)) rfl (fun hb3 => s_ret1 (bad w6 ?_ .refl)) fun hb3 => ?_
        · rw [← hG, hemp, hb3]; rfl
        refine s_fl S.ty.f3 S.ty.oneTrees rfl rfl hy6 rfl (s_val (v_len (a := la) (l := x.l.length) (c := cpl) S.ty.sl el) ?_)
        refine s_val (v_cmp (kk := .i64) (a := x.l.length) (b := 0) (r := decide ((x.l.length : Int) > 0)) rfl rfl rfl) ?_
        have hemp2 : x.l.isEmpty = !decide ((x.l.length : Int) > 0) := by cases x.l <;> simp
        refine s_cond (b := decide ((x.l.length : Int) > 0)) rfl (fun hb4 => s_ret1 (bad w6 ?_ .refl)) fun hb4 => ⟨_, rfl, rfl, .refl, ?_⟩
        · rw [← hG, hemp2, hb4, Bool.not_true, Bool.and_false]
        · rw [← hG, hemp, hemp2, hb3, hb4]; rfl
      rw [if_neg (by simpa using hb)] at hG
      refine s_val (v_cmp (kk := .i64) (a := f.kind) (b := 10) (r := f.kind == 10) rfl rfl rfl) ?_
      refine ⟨rfl, fun vs w' => vs = [.bool false] ∧ Keeps [] w6 w' ∧ G = true, ?_, fun vs w' _ ⟨h1, h2, h3⟩ => ⟨_, rfl, by subst h1; exact ⟨rfl, h2, h3⟩⟩⟩
      refine s_cond (b := f.kind == 10) rfl (fun hb => ?_) fun hb => ?_
      · rw [if_pos (by simpa using hb)] at hG
        refine s_fl S.f3 S.oneInt rfl rfl hh6 rfl ?_
        refine s_val (v_cmp (kk := .i64) (a := f.nul) (b := 0) (r := decide (f.nul ≥ 0)) rfl rfl rfl) ?_
        refine s_cond (b := decide (f.nul ≥ 0)) rfl (fun hb2 => ?_) fun hb2 => ?_
        · have hge : 0 ≤ f.nul := by simpa using hb2
          rw [if_pos hge] at hG
          refine s_fl S.ty.f2 S.rd.oneBool rfl rfl hy6 rfl ?_
          refine s_val (v_not (b := x.null) rfl) ?_
          refine s_cond (b := !x.null) rfl (fun hb3 => s_ret1 (bad w6 (by rw [← hG]; simpa using hb3) .refl)) fun hb3 => ?_
          refine s_fl S.f3 S.oneInt rfl rfl hh6 rfl ?_
          refine s_val (v_cmp (kk := .i64) (a := f.nul) (b := 0) (r := decide (f.nul < 0)) rfl rfl rfl) ?_
          refine s_cond (b := decide (f.nul < 0)) rfl (fun hb4 => (by simp at hb4; omega)) fun _ => ⟨_, rfl, rfl, .refl, by rw [← hG]; simpa using hb3⟩
        · have hlt : f.nul < 0 := by simp at hb2; omega
          rw [if_neg (by omega)] at hG
          refine s_fl S.f3 S.oneInt rfl rfl hh6 rfl ?_
          refine s_val (v_cmp (kk := .i64) (a := f.nul) (b := 0) (r := decide (f.nul < 0)) rfl rfl rfl) ?_
          refine s_cond (b := decide (f.nul < 0)) rfl (fun _ => ?_) fun hb4 => (by simp at hb4; omega)
          refine s_fl S.f7 S.oneFields rfl rfl hh6 rfl ?_
          refine s_lok (l_loadN (b := w4.heap.size) (o := 0) S.ty.agg rfl hy6 (show 0 + 5 ≤ 5 by omega)) ?_
          refine s_callx (hih w6 sv3 x _ (hsub.keep k36) ht60) rfl fun u w7 ⟨hu, k7⟩ => ?_
          subst hu
          refine s_val (v_not (b := x.u.isEmpty && pUsualGots f.sub x 0) rfl) ?_
          refine s_cond (b := !(x.u.isEmpty && pUsualGots f.sub x 0)) rfl (fun hb3 => s_ret1 (bad w7 (by rw [← hG]; simpa only [Bool.not_eq_true'] using hb3) k7)) fun hb3 => ⟨_, rfl, rfl, k7, by rw [← hG]; simpa only [Bool.not_eq_false'] using hb3⟩
      · rw [if_neg (by simpa using hb)] at hG
        show Tr.sem _ _ _ _ _ _ { w6 with drawn := w6.drawn + 1 }
        have hd : Keeps [] w6 { w6 with drawn := w6.drawn + 1 } := keeps_drawn w6 _ _
        generalize ({ w6 with drawn := w6.drawn + 1 } : World) = w7 at hd ⊢
        have hy7 := hy6.keep hd (by simp)
        have hh7 := hh6.keep hd (by simp)
        refine p_fl S.ty.f0 S.ty.oneI64 rfl rfl hy7 rfl (p_fl S.f0 S.oneInt rfl rfl hh7 rfl (p_fl S.f5 S.ty.oneI64 rfl rfl hh7 rfl ?_))
        refine s_call (xs := [.tmp 29, .tmp 31]) (hN w7 f.kind f.dflt) fun u w8 ⟨hu, k8⟩ => ⟨?_, ?_⟩
        · intro p hp
          simp only [List.mem_singleton] at hp
          subst hp
          exact l_load1 (b := w4.heap.size) (o := 0) S.ty.oneI64 rfl (hy7.keep k8 (by simp)) rfl
        subst hu
        refine p_val (v_cmp (kk := .i64) (a := x.n) (b := pNumber f.kind f.dflt) (r := x.n != pNumber f.kind f.dflt) rfl rfl rfl) ?_
        refine s_cond (b := x.n != pNumber f.kind f.dflt) rfl (fun hb3 => s_ret1 (bad w8 (by rw [← hG]; simpa using hb3) (hd.trans k8))) fun hb3 => ⟨_, rfl, rfl, hd.trans k8, by rw [← hG]; simpa using hb3⟩
    · rintro vs w' _ ⟨rfl, kk, hg⟩
      refine s_val (v_arith (kk := .i64) (a := j) (b := 1) (r := ((j + 1 : Nat) : Int)) rfl rfl ?_) ?_
      · simp only [arithOf, Option.some.injEq]; rw [IntKind.wrap_i64]; omega
      exact ⟨J, rfl, fin w' hg kk⟩
  · rintro w2 vr J ⟨rfl, k12, hall⟩ hvr
    refine s_ret1 ⟨?_, k1.trans k12⟩
    rw [pUsualGots_get.2 fun j hj => by rw [Nat.zero_add]; exact hall j hj (by simpa using hj)]
    rfl
end
end Go.Kf
/- The reference's telling of a field. -/
namespace Go.Kf
open Go

/-- Behind the looking at null. -/
def gTail (c : Nums) (s : SN) (n : Nat) : Tr :=
  .cond (.tmp 10) (
    .ret [((.const (.bool true)), none)]
  ) (
    .op (.fieldAddr s.field (.tmp 5) 0) none [] <|
    .op (.load c.tInt (.tmp n)) none [] <|
    .op (.binOp .eql c.tInt (.tmp (n + 1)) (.const (.int .i64 8)) c.tInt) none [] <|
    .join 0 (
      .cond (.tmp (n + 2)) (
        .to 0 [(.tmp (n + 2))]
      ) (
        .op (.binOp .eql c.tInt (.tmp (n + 1)) (.const (.int .i64 9)) c.tInt) none [] <|
        .to 0 [(.tmp (n + 3))]
      )
    ) 1 <|
    .cond (.tmp (n + 3)) (
      .draw <|
      .pur (.fieldAddr c.sTree (.tmp 7) 1) none <|
      .lok (.load c.tBytes (.tmp (n + 4))) none <|
      .pur (.fieldAddr c.sTree (.tmp 6) 1) none <|
      .lok (.load c.tBytes (.tmp (n + 6))) none <|
      .op (callOp s.whole [(.tmp (n + 7))]) none [((.load c.tBytes (.tmp (n + 4))), n + 5)] <|
      .op (callOp s.same [(.tmp (n + 5)), (.tmp (n + 8))]) none [] <|
      .ret [((.tmp (n + 9)), none)]
    ) (
      .op (.binOp .eql c.tInt (.tmp (n + 1)) (.const (.int .i64 7)) c.tInt) none [] <|
      .cond (.tmp (n + 4)) (
        .op (.makeSlice c.tBytes (.const (.int .i64 16)) (.const (.int .i64 16))) none [] <|
        .op (.fieldAddr c.sTree (.tmp 6) 1) none [] <|
        .op (.load c.tBytes (.tmp (n + 6))) none [] <|
        .op (.call { callee := (.builtin .copy), args := ⟨[(.tmp (n + 5)), (.tmp (n + 7))]⟩, argTypes := ⟨[c.tBytes, c.tBytes]⟩ }) none [] <|
        .op (.fieldAddr c.sTree (.tmp 7) 1) none [] <|
        .op (.load c.tBytes (.tmp (n + 9))) none [] <|
        .op (callOp s.same [(.tmp (n + 10)), (.tmp (n + 5))]) none [] <|
        .ret [((.tmp (n + 11)), none)]
      ) (
        .op (.binOp .eql c.tInt (.tmp (n + 1)) (.const (.int .i64 10)) c.tInt) none [] <|
        .cond (.tmp (n + 5)) (
          .op (.fieldAddr s.field (.tmp 5) 7) none [] <|
          .op (.load s.fields (.tmp (n + 6))) none [] <|
          .op (.load c.sTree (.tmp 6)) none [] <|
          .op (.load c.sTree (.tmp 7)) none [] <|
          .op (callOp s.told [(.tmp (n + 7)), (.tmp 1), (.tmp 2), (.tmp (n + 8)), (.tmp (n + 9))]) none [] <|
          .ret [((.tmp (n + 10)), none)]
        ) (
          .op (.binOp .eql c.tInt (.tmp (n + 1)) (.const (.int .i64 11)) c.tInt) none [] <|
          .cond (.tmp (n + 6)) (
            .op (.fieldAddr c.sTree (.tmp 6) 3) none [] <|
            .op (.load c.sTrees (.tmp (n + 7))) none [] <|
            .op (callOp s.things [(.tmp (n + 8))]) none [] <|
            .op (.fieldAddr c.sTree (.tmp 7) 3) none [] <|
            .op (.load c.sTrees (.tmp (n + 10))) none [] <|
            .op (.call { callee := (.builtin .len), args := ⟨[(.tmp (n + 11))]⟩, argTypes := ⟨[c.sTrees]⟩ }) none [] <|
            .op (.call { callee := (.builtin .len), args := ⟨[(.tmp (n + 9))]⟩, argTypes := ⟨[c.sTrees]⟩ }) none [] <|
            .op (.binOp .neq c.tInt (.tmp (n + 12)) (.tmp (n + 13)) c.tInt) none [] <|
            .cond (.tmp (n + 14)) (
              .ret [((.const (.bool false)), none)]
            ) (
              .op (.load s.field (.tmp 5)) none [] <|
              .op (.alloc s.field) none [] <|
              .op (.store s.field (.tmp (n + 16)) (.tmp (n + 15))) none [] <|
              .op (.fieldAddr s.field (.tmp 5) 6) none [] <|
              .op (.load c.tInt (.tmp (n + 18))) none [] <|
              .op (.fieldAddr s.field (.tmp (n + 16)) 0) none [] <|
              .op (.store c.tInt (.tmp (n + 20)) (.tmp (n + 19))) none [] <|
              .op (.fieldAddr s.field (.tmp (n + 16)) 3) none [] <|
              .op (.store c.tInt (.tmp (n + 22)) (.const (.int .i64 (-1)))) none [] <|
              .op (.fieldAddr s.field (.tmp (n + 16)) 4) none [] <|
              .op (.store c.tInt (.tmp (n + 24)) (.const (.int .i64 (-1)))) none [] <|
              .op (.call { callee := (.builtin .len), args := ⟨[(.tmp (n + 9))]⟩, argTypes := ⟨[c.sTrees]⟩ }) none [] <|
              .loop 0 [(.const (.bool false)), (.const (.int .i64 0))] <|
              .op (.binOp .lss c.tInt (.tmp (n + 28)) (.tmp (n + 26)) c.tInt) none [] <|
              .cond (.tmp (n + 29)) (
                .draw <|
                .lok (.load s.field (.tmp (n + 16))) none <|
                .pur (.indexAddr c.sTrees (.tmp (n + 9)) (.tmp (n + 28))) none <|
                .lok (.load c.sTree (.tmp (n + 31))) none <|
                .pur (.fieldAddr c.sTree (.tmp 7) 3) none <|
                .lok (.load c.sTrees (.tmp (n + 33))) none <|
                .pur (.indexAddr c.sTrees (.tmp (n + 34)) (.tmp (n + 28))) none <|
                .lok (.load c.sTree (.tmp (n + 35))) none <|
                .op (callOp s.told1 [(.tmp (n + 30)), (.tmp 1), (.tmp 2), (.tmp (n + 32)), (.tmp (n + 36))]) none [((.load c.sTrees (.tmp (n + 33))), n + 34)] <|
                .pur (.unOp .not c.tBool (.tmp (n + 37))) none <|
                .cond (.tmp (n + 38)) (
                  .ret [((.const (.bool false)), none)]
                ) (
                  .op (.binOp .add c.tInt (.tmp (n + 28)) (.const (.int .i64 1)) c.tInt) none [] <|
                  .to 0 [(.tmp (n + 27)), (.tmp (n + 39))]
                )
              ) (
                .ret [((.const (.bool true)), none)]
              )
            )
          ) (
            .draw <|
            .pur (.fieldAddr c.sTree (.tmp 7) 0) none <|
            .lok (.load c.tI64 (.tmp (n + 7))) none <|
            .pur (.fieldAddr s.field (.tmp 5) 0) none <|
            .lok (.load c.tInt (.tmp (n + 9))) none <|
            .pur (.fieldAddr c.sTree (.tmp 6) 0) none <|
            .lok (.load c.tI64 (.tmp (n + 11))) none <|
            .op (callOp s.number [(.tmp (n + 10)), (.tmp (n + 12))]) none [((.load c.tI64 (.tmp (n + 7))), n + 8)] <|
            .pur (.binOp .eql c.tI64 (.tmp (n + 8)) (.tmp (n + 13)) c.tI64) none <|
            .ret [((.tmp (n + 14)), none)]
          )
        )
      )
    )
  )

/-- Null is told where it may be. -/
def gNulls (c : Nums) (s : SN) (n : Nat) : Tr :=
  .op (.fieldAddr c.sTree (.tmp 7) 2) none [] <| .op (.load c.tBool (.tmp n)) none [] <| .op (.binOp .neq c.tBool (.tmp (n + 1)) (.tmp 10) c.tBool) none [] <| .cond (.tmp (n + 2)) (.ret [((.const (.bool false)), none)]) (gTail c s (n + 3))

def gKindIs (c : Nums) (s : SN) (n : Nat) (k : Int) (t e : Tr) : Tr :=
  .op (.fieldAddr s.field (.tmp 5) 0) none [] <| .op (.load c.tInt (.tmp n)) none [] <| .op (.binOp .eql c.tInt (.tmp (n + 1)) (.const (.int .i64 k)) c.tInt) none [] <| .cond (.tmp (n + 2)) t e

def tTold1 (c : Nums) (s : SN) : Tr :=
  .op (.box s.field (.tmp 0)) none [] <|
  .op (.box c.sTree (.tmp 3)) none [] <|
  .op (.box c.sTree (.tmp 4)) none [] <|
  .op (.load s.field (.tmp 5)) none [] <|
  .op (.load c.sTree (.tmp 6)) none [] <|
  .op (callOp s.null [(.tmp 8), (.tmp 1), (.tmp 9)]) none [] <|
  .op (.fieldAddr s.field (.tmp 5) 3) none [] <|
  .op (.load c.tInt (.tmp 11)) none [] <|
  .op (.binOp .geq c.tInt (.tmp 12) (.const (.int .i64 0)) c.tInt) none [] <|
  .cond (.tmp 13) (
    .op (.fieldAddr s.field (.tmp 5) 3) none [] <|
    .op (.load c.tInt (.tmp 14)) none [] <|
    .op (.binOp .geq c.tInt (.tmp 1) (.tmp 15) c.tInt) none [] <|
    gKindIs c s 17 8 (gNulls c s 20) <| gKindIs c s 20 10 (gNulls c s 23) <| .cond (.tmp 16) (gNulls c s 23) (gTail c s 23)
  ) (gKindIs c s 14 8 (gNulls c s 17) <| gKindIs c s 17 10 (gNulls c s 20) (gTail c s 20))

def pTail (tt : PT → PT → Bool) (f : PF) (v : Int) (t got : PT) : Bool :=
  if pNull f v t then true
  else if f.kind = 11 then decide (got.l.length = (pThings t.l).length) && pAll2 (fun x y => !(decide (f.elem = 8 ∨ f.elem = 10) && y.null) && pToldV tt f.elem x y) (pThings t.l) got.l
  else pToldV tt f.kind t got

theorem pToldOf_eq (tt : PT → PT → Bool) (f : PF) (v : Int) (t got : PT) : pToldOf tt f v t got =
    if (decide (f.kind = 8) || decide (f.kind = 10) || (decide (0 ≤ f.nul) && decide (f.nul ≤ v))) && (got.null != pNull f v t) then false else pTail tt f v t got := rfl

theorem pTold1_eq (f : PF) (v : Int) (fl : Bool) (x got : PT) : pTold1 f v fl x got = pToldOf (fun y z => pTold f.sub v fl y z) f v x got := by
  cases f; rw [pTold1]; rfl

def ToldOf (P : Program) (s : SN) (fs : List PF) : Prop := ∀ (w : World) (fv : Value) (v : Int) (fl : Bool) (t got : PT) (ts gs : List Value), FieldsV w fs fv → TreeC w t ts → TreeC w got gs → t.ok → Yields P s.told [fv, .int .i64 v, .bool fl, .agg ⟨ts⟩, .agg ⟨gs⟩] w (.bool (pTold fs v fl t got))

def Told1Of (P : Program) (s : SN) (f : PF) : Prop := ∀ (w : World) (v : Int) (fl : Bool) (t got : PT) (cs ts gs : List Value), FieldC w f cs → TreeC w t ts → TreeC w got gs → t.ok → Yields P s.told1 [.agg ⟨cs⟩, .int .i64 v, .bool fl, .agg ⟨ts⟩, .agg ⟨gs⟩] w (.bool (pTold1 f v fl t got))

/-- The field of a list's things. -/
def PF.one (f : PF) : PF := .mk f.elem f.fr f.to (-1) (-1) f.dflt f.elem f.sub

theorem pNull_one (f : PF) (v : Int) (t : PT) : pNull f.one v t = false := by
  unfold pNull
  have : f.one.nul = -1 := rfl
  rw [this]
  simp

theorem pTold1_one {f : PF} (hne : f.elem ≠ 11) (v : Int) (fl : Bool) (x y : PT) : pTold1 f.one v fl x y = (!(decide (f.elem = 8 ∨ f.elem = 10) && y.null) && pToldV (fun y z => pTold f.sub v fl y z) f.elem x y) := by
  rw [pTold1_eq, pToldOf_eq]
  unfold pTail
  rw [pNull_one]
  have h1 : f.one.nul = -1 := rfl
  have h2 : f.one.kind = f.elem := rfl
  have h3 : f.one.sub = f.sub := rfl
  rw [h1, h2, h3, if_neg hne]
  by_cases h : f.elem = 8 ∨ f.elem = 10
  · rcases h with h | h <;> rw [h] <;> cases y.null <;> simp
  · have h8 : f.elem ≠ 8 := fun e => h (.inl e)
    have h10 : f.elem ≠ 10 := fun e => h (.inr e)
    simp [h8, h10]

theorem pAll2_get {f : PT → PT → Bool} : ∀ {l r : List PT}, l.length = r.length → (pAll2 f l r = true ↔ ∀ j (h1 : j < l.length) (h2 : j < r.length), f l[j] r[j] = true)
  | [], [], _ => by simp [pAll2]
  | x :: l, y :: r, h => by
    rw [pAll2, Bool.and_eq_true, pAll2_get (by simpa using h)]
    constructor
    · rintro ⟨h1, h2⟩ j hj1 hj2
      cases j with
      | zero => exact h1
      | succ j => exact h2 j (by simpa using hj1) (by simpa using hj2)
    · intro h3
      exact ⟨h3 0 (by simp) (by simp), fun j h1 h2 => h3 (j + 1) (by simpa using h1) (by simpa using h2)⟩

section
variable {P : Program} {c : Nums} {s : SN} {R : Value → World → Prop} {Γ : List (List Value → World → Prop)} {n : Nat} {ρ : Nat → Value} {w : World} {k : Tr}

/-- What telling rests on. -/
structure Tells (P : Program) (s : SN) : Prop where
  same : ∀ (w : World) (v1 v2 : Value) (l1 l2 : List UInt8), (l1.length < 2 ^ 62 ∨ l2.length < 2 ^ 62) → Ro w v1 1 l1.length (bcells l1) → Ro w v2 1 l2.length (bcells l2) → Yields P s.same [v1, v2] w (.bool (decide (l1 = l2)))
  number : ∀ (w : World) (kind x : Int), Yields P s.number [.int .i64 kind, .int .i64 x] w (.int .i64 (pNumber kind x))

theorem sem_tail {fb tb gb : Nat} {f : PF} {t got : PT} {fcs ts gs : List Value} {w0 : World} {v : Int} {fl : Bool} (S : SpFacts P c s) (Q : Smalls P s) (L : Tells P s) (hn : n = 20 ∨ n = 23 ∨ n = 26) (hS : ToldOf P s f.sub) (h1 : f.kind = 11 → f.elem ≠ 11 ∧ Told1Of P s f.one)
    (q1 : ρ 1 = .int .i64 v) (q2 : ρ 2 = .bool fl) (q5 : ρ 5 = ptr fb) (q6 : ρ 6 = ptr tb) (q7 : ρ 7 = ptr gb) (q10 : ρ 10 = .bool (pNull f v t)) (hf : Has w fb fcs) (ht : Has w tb ts) (hg : Has w gb gs) (hfc : FieldC w f fcs) (htc : TreeC w t ts) (hgc : TreeC w got gs) (hok : t.ok) (hk : Keeps [] w0 w) :
    (gTail c s n).sem P (fun u w' => u = .bool (pTail (fun y z => pTold f.sub v fl y z) f v t got) ∧ Keeps [] w0 w') [] n ρ w := by
  have hfc0 := hfc
  have htc0 := htc
  have hgc0 := hgc
  have htl := htc.lens
  have hgl := hgc.lens
  obtain ⟨fv, rfl, hsub⟩ := hfc.cells
  obtain ⟨sv, lv, uv, lcs, ucs, rfl, t1, t2, t3, t4, t5⟩ := htc.cells
  obtain ⟨sg, lg, ug, lgc, ugc, rfl, g1, g2, g3, g4, g5⟩ := hgc.cells
  generalize hG : pTail (fun y z => pTold f.sub v fl y z) f v t got = G
  unfold pTail at hG
  rcases hn with rfl | rfl | rfl
  all_goals
    refine s_cond (b := pNull f v t) q10 (fun hb => s_ret1 ⟨by rw [← hG, if_pos hb]; rfl, hk⟩) fun hb => ?_
    rw [if_neg (by rw [hb]; simp)] at hG
    refine s_fl S.f0 S.oneInt q5 rfl hf rfl ?_
    refine s_val (v_cmp (kk := .i64) (a := f.kind) (b := 8) (r := f.kind == 8) rfl rfl rfl) ?_
    refine ⟨rfl, fun vs w' => vs = [.bool (f.kind == 8 || f.kind == 9)] ∧ w' = w, ?_, ?_⟩
    · refine s_cond (b := f.kind == 8) rfl (fun hb => ⟨_, rfl, by simp [ev, ext, hb], rfl⟩) fun hb => ?_
      refine s_val (v_cmp (kk := .i64) (a := f.kind) (b := 9) (r := f.kind == 9) rfl rfl rfl) ?_
      exact ⟨_, rfl, by simp [ev, ext, hb], rfl⟩
    rintro vs w7 _ ⟨rfl, hw7⟩
    rw [hw7]
    clear hw7
    refine s_cond (b := f.kind == 8 || f.kind == 9) rfl (fun hb => ?_) fun hb => ?_
    · have hkk : f.kind = 8 ∨ f.kind = 9 := by simpa using hb
      rw [if_neg (by omega)] at hG
      unfold pToldV at hG
      rw [if_pos hkk] at hG
      show Tr.sem _ _ _ _ _ _ { w with drawn := w.drawn + 1 }
      have hd : Keeps [] w { w with drawn := w.drawn + 1 } := keeps_drawn w _ _
      generalize ({ w with drawn := w.drawn + 1 } : World) = w2 at hd ⊢
      have hg2 := hg.keep hd (by simp)
      have ht2 := ht.keep hd (by simp)
      refine p_fl S.ty.f1 S.rd.oneBytes q7 rfl hg2 rfl (p_fl S.ty.f1 S.rd.oneBytes q6 rfl ht2 rfl ?_)
      refine s_call (Q.whole w2 sv t.s (t1.keep hd)) fun u w3 ⟨hw, hu⟩ => ⟨?_, ?_⟩
      · intro p hp
        simp only [List.mem_singleton] at hp
        subst hp
        rw [hw]
        exact l_load1 (b := gb) (o := 1) S.rd.oneBytes rfl hg2 rfl
      rw [hw]
      refine s_callx (L.same w2 sg u got.s (pWhole t.s) (.inl (by omega)) (g1.keep hd) (hu w2 (t1.keep hd))) rfl fun x w4 ⟨hx, k4⟩ => s_ret1 ⟨?_, (hk.trans hd).trans k4⟩
      rw [← hG]
      exact hx
    have hkk : f.kind ≠ 8 ∧ f.kind ≠ 9 := by simpa using hb
    have hv8 : ∀ (x y : PT), pToldV (fun y z => pTold f.sub v fl y z) f.kind x y = if f.kind = 7 then decide (y.s = pId x.s) else if f.kind = 10 then pTold f.sub v fl x y else decide (y.n = pNumber f.kind x.n) := fun x y => by
      unfold pToldV
      rw [if_neg (by omega)]
    rw [hv8] at hG
    refine s_val (v_cmp (kk := .i64) (a := f.kind) (b := 7) (r := f.kind == 7) rfl rfl rfl) ?_
    refine s_cond (b := f.kind == 7) rfl (fun hb => ?_) fun hb => ?_
    · have h7 : f.kind = 7 := by simpa using hb
      rw [if_neg (by omega), if_pos h7] at hG
      refine s_id (v := sv) (l := t.s) (b := tb) (o := 0) S q6 (by simp [opBelow]) ht rfl t1 fun v' w2 hM => ?_
      have hg2 := hg.keep hM.2.2 (by simp)
      refine s_fl S.ty.f1 S.rd.oneBytes q7 rfl hg2 rfl ?_
      refine s_callx (L.same w2 sg v' got.s (pId t.s) (.inl (by omega)) (g1.keep hM.2.2) (Ro.of_reads hM.1.reads)) rfl fun x w4 ⟨hx, k4⟩ => s_ret1 ⟨?_, (hk.trans hM.2.2).trans k4⟩
      rw [← hG]
      exact hx
    have h7 : f.kind ≠ 7 := by simpa using hb
    rw [if_neg h7] at hG
    refine s_val (v_cmp (kk := .i64) (a := f.kind) (b := 10) (r := f.kind == 10) rfl rfl rfl) ?_
    refine s_cond (b := f.kind == 10) rfl (fun hb => ?_) fun hb => ?_
    · have h10 : f.kind = 10 := by simpa using hb
      rw [if_neg (by omega), if_pos h10] at hG
      refine s_fl S.f7 S.oneFields q5 rfl hf rfl ?_
      refine s_lok (l_loadN (b := tb) (o := 0) S.ty.agg q6 ht (show 0 + 5 ≤ 5 by omega)) (s_lok (l_loadN (b := gb) (o := 0) S.ty.agg q7 hg (show 0 + 5 ≤ 5 by omega)) ?_)
      refine s_callx (hS w fv v fl t got _ _ hsub htc0 hgc0 hok) (by show [fv, ρ 1, ρ 2, Value.agg _, Value.agg _] = _; rw [q1, q2]; rfl) fun x w4 ⟨hx, k4⟩ => s_ret1 ⟨?_, hk.trans k4⟩
      rw [← hG]
      exact hx
    have h10 : f.kind ≠ 10 := by simpa using hb
    rw [if_neg h10] at hG
    refine s_val (v_cmp (kk := .i64) (a := f.kind) (b := 11) (r := f.kind == 11) rfl rfl rfl) ?_
    refine s_cond (b := f.kind == 11) rfl (fun hb => ?_) fun hb => ?_
    · have h11 : f.kind = 11 := by simpa using hb
      rw [if_pos h11] at hG
      obtain ⟨hne, hone⟩ := h1 h11
      refine s_fl S.ty.f3 S.ty.oneTrees q6 rfl ht rfl ?_
      refine s_callx (Q.things w lv t.l lcs t2 t3) rfl fun u w3 ⟨hw, tcs, hr, htr⟩ => ?_
      rw [hw]
      clear hw
      refine s_fl S.ty.f3 S.ty.oneTrees q7 rfl hg rfl ?_
      obtain ⟨la, cpl, el⟩ := g2.form
      obtain ⟨ua, cpu, eu⟩ := hr.form
      refine s_val (v_len (a := la) (l := got.l.length) (c := cpl) S.ty.sl el) ?_
      refine s_val (v_len (a := ua) (l := (pThings t.l).length) (c := cpu) S.ty.sl eu) ?_
      refine s_val (v_cmp (kk := .i64) (a := got.l.length) (b := (pThings t.l).length) (r := ((got.l.length : Int) != (pThings t.l).length)) rfl rfl rfl) ?_
      refine s_cond (b := ((got.l.length : Int) != (pThings t.l).length)) rfl (fun hb2 => s_ret1 ⟨?_, hk⟩) fun hb2 => ?_
      · have hne2 : got.l.length ≠ (pThings t.l).length := fun e => by rw [e] at hb2; simp at hb2
        rw [← hG, decide_eq_false hne2]
        rfl
      have hleq : got.l.length = (pThings t.l).length := by
        have : (got.l.length : Int) = (pThings t.l).length := by simpa using hb2
        omega
      rw [decide_eq_true hleq, Bool.true_and] at hG
      have hl7 : (pThings t.l).length ≤ 32767 := by unfold pThings; rw [List.length_take]; omega
      have hlok : ∀ x ∈ pThings t.l, x.ok := fun x hx => hok.l x (List.mem_of_mem_take hx)
      generalize hlg : pThings t.l = l at hr htr eu hG hleq hl7 hlok
      refine s_lok (l_loadN (b := fb) (o := 0) S.agg q5 hf (show 0 + 8 ≤ 8 by omega)) ?_
      obtain ⟨z, hz, hzc⟩ := S.zField
      refine s_alloc hz fun w4 hn4 k4 z4 => ?_
      have hfl := hf.lt
      refine s_storeAll (b := w.heap.size) (cs := [.int .i64 f.kind, .int .i64 f.fr, .int .i64 f.to, .int .i64 f.nul, .int .i64 f.tag, .int .i64 f.dflt, .int .i64 f.elem, fv]) S.agg rfl rfl hn4 (by simpa using hzc) hfc0.ones fun w5 hn5 k5 => ?_
      have hf5 := (hf.keep k4 (by simp)).keep k5 (by simp only [List.mem_singleton]; omega)
      refine s_fl S.f6 S.oneInt q5 rfl hf5 rfl ?_
      refine s_fs (b := w.heap.size) (o := 0) (v := .int .i64 f.elem) S.f0 S.oneInt rfl rfl rfl (by simp [opBelow]) rfl hn5 (show 0 + 0 < 8 by omega) fun w6 hn6 k6 => ?_
      refine s_fs (b := w.heap.size) (o := 0) (v := .int .i64 (-1)) S.f3 S.oneInt rfl rfl rfl (by simp [opBelow]) rfl hn6 (show 0 + 3 < 8 by omega) fun w7 hn7 k7 => ?_
      refine s_fs (b := w.heap.size) (o := 0) (v := .int .i64 (-1)) S.f4 S.oneInt rfl rfl rfl (by simp [opBelow]) rfl hn7 (show 0 + 4 < 8 by omega) fun w8 hn8 k8 => ?_
      have k08 : Keeps [] w w8 := ((k4.mono (by simp)).trans (((k5.trans k6).trans k7).trans k8)).less fun x hx => .inr (by simp only [List.mem_singleton] at hx; omega)
      refine s_val (v_len (a := ua) (l := l.length) (c := cpu) S.ty.sl eu) ?_
      have honeC : ∀ w', Keeps [] w w' → FieldC w' f.one [.int .i64 f.elem, .int .i64 f.fr, .int .i64 f.to, .int .i64 (-1), .int .i64 (-1), .int .i64 f.dflt, .int .i64 f.elem, fv] := fun w' kk => by
        obtain ⟨scs, hs1, hs2⟩ := hsub.keep kk
        exact ⟨fv, scs, rfl, hs1, hs2⟩
      have hall := pAll2_get (f := fun x y => !(decide (f.elem = 8 ∨ f.elem = 10) && y.null) && pToldV (fun y z => pTold f.sub v fl y z) f.elem x y) hleq.symm
      refine s_countV (kk := .i64) (m := l.length) (ri := [.const (.bool false)]) (Γ := []) (fun j vr w' => vr = [.bool false] ∧ Keeps [] w8 w' ∧ ∀ i (h1 : i < l.length) (h2 : i < got.l.length), i < j → (!(decide (f.elem = 8 ∨ f.elem = 10) && (got.l[i]'h2).null) && pToldV (fun y z => pTold f.sub v fl y z) f.elem (l[i]'h1) (got.l[i]'h2)) = true) (by omega) rfl ⟨rfl, .refl, fun i _ _ h => by omega⟩ ?_ ?_
      · rintro j hj w9 vr ⟨rfl, k89, hsofar⟩ hvr J hJ
        have hj' : j < l.length := by omega
        have hj2 : j < got.l.length := by omega
        show Tr.sem _ _ _ _ _ _ { w9 with drawn := w9.drawn + 1 }
        have hd : Keeps [] w9 { w9 with drawn := w9.drawn + 1 } := keeps_drawn w9 _ _
        generalize ({ w9 with drawn := w9.drawn + 1 } : World) = w10 at hd ⊢
        have k8a := k89.trans hd
        have k0a := k08.trans k8a
        refine l_lok (l_loadN (b := w.heap.size) (o := 0) S.agg rfl (hn8.keep k8a (by simp)) (show 0 + 8 ≤ 8 by omega)) ?_
        obtain ⟨b1, o1, cap1, e1, _, hel1, hcell1⟩ := (hr.keep k0a).elem hj' (by omega)
        have htj := TreesC.get (TreesC.keep k0a _ _ htr) hj'
        refine p_val (v_indexAddr (b := b1) (o := o1) (l := l.length) (c := cap1) (j := j) (kk := .i64) S.ty.sl S.szT e1 rfl (by omega) (by omega)) ?_
        rw [Int.toNat_natCast]
        refine l_lok (l_cellN (b := b1) (o := o1 + j * 5) S.ty.agg rfl hel1 hcell1) ?_
        have hga := hg.keep k0a (by simp)
        refine p_fl S.ty.f3 S.ty.oneTrees q7 rfl hga rfl ?_
        obtain ⟨b2, o2, cap2, e2, _, hel2, hcell2⟩ := (g2.keep k0a).elem hj2 (by omega)
        have hgj := TreesC.get (TreesC.keep k0a _ _ g3) hj2
        refine p_val (v_indexAddr (b := b2) (o := o2) (l := got.l.length) (c := cap2) (j := j) (kk := .i64) S.ty.sl S.szT e2 rfl (by omega) (by omega)) ?_
        rw [Int.toNat_natCast]
        refine l_lok (l_cellN (b := b2) (o := o2 + j * 5) S.ty.agg rfl hel2 hcell2) ?_
        have hcall := hone w10 v fl l[j] got.l[j] _ _ _ (honeC w10 k0a) htj hgj (hlok _ (List.getElem_mem hj'))
        rw [pTold1_one hne] at hcall
        generalize hB : (!(decide (f.elem = 8 ∨ f.elem = 10) && (got.l[j]'hj2).null) && pToldV (fun y z => pTold f.sub v fl y z) f.elem (l[j]'hj') (got.l[j]'hj2)) = B at hcall
        refine s_call (Post := fun u w' => u = .bool B ∧ Keeps [] w10 w') (by
          show Gives P s.told1 [Value.agg _, ρ 1, ρ 2, Value.agg _, Value.agg _] w10 _
          rw [q1, q2]
          exact hcall) fun u w11 ⟨hu, k11⟩ => ⟨?_, ?_⟩
        · intro p hp
          simp only [List.mem_singleton] at hp
          subst hp
          exact l_load1 (b := gb) (o := 3) S.ty.oneTrees rfl (hga.keep k11 (by simp)) rfl
        subst hu
        refine p_val (v_not (b := B) rfl) ?_
        refine s_cond (b := !B) rfl (fun hb3 => s_ret1 ⟨?_, (hk.trans k0a).trans k11⟩) fun hb3 => ?_
        · have hB0 : B = false := by simpa using hb3
          have : G = false := by
            cases hGv : G with
            | false => rfl
            | true =>
              rw [hGv] at hG
              have := hall.1 hG j hj' hj2
              rw [hB, hB0] at this
              cases this
          rw [this]
          rfl
        · have hB1 : B = true := by simpa using hb3
          refine s_val (v_arith (kk := .i64) (a := j) (b := 1) (r := ((j + 1 : Nat) : Int)) rfl rfl ?_) ?_
          · simp only [arithOf, Option.some.injEq]; rw [IntKind.wrap_i64]; omega
          refine ⟨J, rfl, hJ [_] _ rfl ⟨rfl, k8a.trans k11, fun i hi1 hi2 hij => ?_⟩⟩
          by_cases hij2 : i = j
          · subst hij2; rw [hB]; exact hB1
          · exact hsofar i hi1 hi2 (by omega)
      · rintro w9 vr J ⟨rfl, k89, hsofar⟩ hvr
        refine s_ret1 ⟨?_, (hk.trans k08).trans k89⟩
        rw [← hG, hall.2 fun j h1 h2 => hsofar j h1 h2 (by simpa using h1)]
        rfl
    · have h11 : f.kind ≠ 11 := by simpa using hb
      rw [if_neg h11] at hG
      show Tr.sem _ _ _ _ _ _ { w with drawn := w.drawn + 1 }
      have hd : Keeps [] w { w with drawn := w.drawn + 1 } := keeps_drawn w _ _
      generalize ({ w with drawn := w.drawn + 1 } : World) = w2 at hd ⊢
      have hg2 := hg.keep hd (by simp)
      have ht2 := ht.keep hd (by simp)
      have hf2 := hf.keep hd (by simp)
      refine p_fl S.ty.f0 S.ty.oneI64 q7 rfl hg2 rfl (p_fl S.f0 S.oneInt q5 rfl hf2 rfl (p_fl S.ty.f0 S.ty.oneI64 q6 rfl ht2 rfl ?_))
      refine s_call (L.number w2 f.kind t.n) fun u w8 ⟨hu, k8⟩ => ⟨?_, ?_⟩
      · intro p hp
        simp only [List.mem_singleton] at hp
        subst hp
        exact l_load1 (b := gb) (o := 0) S.ty.oneI64 rfl (hg2.keep k8 (by simp)) rfl
      subst hu
      refine p_val (v_cmp (kk := .i64) (a := got.n) (b := pNumber f.kind t.n) (r := got.n == pNumber f.kind t.n) rfl rfl rfl) ?_
      refine s_ret1 ⟨?_, (hk.trans hd).trans k8⟩
      rw [← hG]
      rfl
end
end Go.Kf
/- The reference's telling of a part. -/
namespace Go.Kf
open Go

def gToldIt (c : Nums) (s : SN) (n : Nat) : Tr :=
  .draw <|
  .lok (.load s.field (.tmp 18)) none <|
  .lok (.load c.sTree (.tmp 22)) none <|
  .pur (.fieldAddr c.sTree (.tmp 6) 3) none <|
  .lok (.load c.sTrees (.tmp (n + 2))) none <|
  .pur (.indexAddr c.sTrees (.tmp (n + 3)) (.tmp 14)) none <|
  .lok (.load c.sTree (.tmp (n + 4))) none <|
  .op (callOp s.told1 [(.tmp n), (.tmp 1), (.tmp 2), (.tmp (n + 1)), (.tmp (n + 5))]) none [((.load c.sTrees (.tmp (n + 2))), n + 3)] <|
  .pur (.unOp .not c.tBool (.tmp (n + 6))) none <|
  .cond (.tmp (n + 7)) (.ret [((.const (.bool false)), none)]) (
    .op (.binOp .add c.tInt (.tmp 14) (.const (.int .i64 1)) c.tInt) none [] <|
    .to 0 [(.tmp 13), (.tmp (n + 8))])

def gUsualEnd (c : Nums) (n : Nat) : Tr :=
  .pur (.unOp .not c.tBool (.tmp n)) none <|
  .cond (.tmp (n + 1)) (.ret [((.const (.bool false)), none)]) (
    .op (.binOp .add c.tInt (.tmp 14) (.const (.int .i64 1)) c.tInt) none [] <|
    .to 0 [(.tmp 13), (.tmp (n + 2))])

def gUsualIt (c : Nums) (s : SN) (n : Nat) : Tr :=
  .draw <|
  .lok (.load s.field (.tmp 18)) none <|
  .pur (.fieldAddr c.sTree (.tmp 6) 3) none <|
  .lok (.load c.sTrees (.tmp (n + 1))) none <|
  .pur (.indexAddr c.sTrees (.tmp (n + 2)) (.tmp 14)) none <|
  .lok (.load c.sTree (.tmp (n + 3))) none <|
  .both (
    .op (.buildSlice s.fields 1 ⟨[(0, (.tmp n))]⟩) none [((.load c.sTree (.tmp (n + 3))), n + 4), ((.load c.sTrees (.tmp (n + 1))), n + 2)] <|
    .op (.buildSlice c.sTrees 1 ⟨[(0, (.tmp (n + 4)))]⟩) none [((.load c.sTrees (.tmp (n + 1))), n + 2)] <|
    .pur (.build c.sTree ⟨[(3, (.tmp (n + 6)))]⟩) none <|
    .op (callOp s.usualG [(.tmp (n + 5)), (.tmp (n + 7))]) none [((.load c.sTrees (.tmp (n + 1))), n + 2)] <|
    gUsualEnd c (n + 8)
  ) (
    .op (.buildSlice c.sTrees 1 ⟨[(0, (.tmp (n + 4)))]⟩) none [((.load c.sTrees (.tmp (n + 1))), n + 2), ((.load s.field (.tmp 18)), n)] <|
    .pur (.build c.sTree ⟨[(3, (.tmp (n + 5)))]⟩) none <|
    .op (.buildSlice s.fields 1 ⟨[(0, (.tmp n))]⟩) none [((.load c.sTrees (.tmp (n + 1))), n + 2)] <|
    .op (callOp s.usualG [(.tmp (n + 7)), (.tmp (n + 6))]) none [((.load c.sTrees (.tmp (n + 1))), n + 2)] <|
    gUsualEnd c (n + 8)
  )

/-- Has it a tag, and is it told of therefore? -/
def gTagged (c : Nums) (s : SN) (n : Nat) : Tr :=
  .op (.fieldAddr s.field (.tmp 18) 4) none [] <|
  .op (.load c.tInt (.tmp n)) none [] <|
  .op (.binOp .geq c.tInt (.tmp (n + 1)) (.const (.int .i64 0)) c.tInt) none [] <|
  .cond (.tmp (n + 2)) (
    .cond (.tmp 2) (
      .op (.load s.field (.tmp 18)) none [] <|
      .op (.load c.sTree (.tmp 22)) none [] <|
      .op (callOp s.usual [(.tmp (n + 3)), (.tmp (n + 4))]) none [] <|
      .op (.unOp .not c.tBool (.tmp (n + 5))) none [] <|
      .cond (.tmp (n + 6)) (gToldIt c s (n + 7)) (gUsualIt c s (n + 7))
    ) (gUsualIt c s (n + 3))
  ) (gUsualIt c s (n + 3))

def tTold (c : Nums) (s : SN) : Tr :=
  .op (.box c.sTree (.tmp 3)) none [] <|
  .op (.box c.sTree (.tmp 4)) none [] <|
  .op (.fieldAddr c.sTree (.tmp 6) 3) none [] <|
  .op (.load c.sTrees (.tmp 7)) none [] <|
  .op (.call { callee := (.builtin .len), args := ⟨[(.tmp 8)]⟩, argTypes := ⟨[c.sTrees]⟩ }) none [] <|
  .op (.call { callee := (.builtin .len), args := ⟨[(.tmp 0)]⟩, argTypes := ⟨[s.fields]⟩ }) none [] <|
  .op (.binOp .neq c.tInt (.tmp 9) (.tmp 10) c.tInt) none [] <|
  .cond (.tmp 11) (
    .ret [((.const (.bool false)), none)]
  ) (
    .op (.call { callee := (.builtin .len), args := ⟨[(.tmp 0)]⟩, argTypes := ⟨[s.fields]⟩ }) none [] <|
    .loop 0 [(.const (.bool false)), (.const (.int .i64 0))] <|
    .op (.binOp .lss c.tInt (.tmp 14) (.tmp 12) c.tInt) none [] <|
    .cond (.tmp 15) (
      .op (.indexAddr s.fields (.tmp 0) (.tmp 14)) none [] <|
      .op (.load s.field (.tmp 16)) none [] <|
      .op (.alloc s.field) none [] <|
      .op (.store s.field (.tmp 18) (.tmp 17)) none [] <|
      .op (.load c.sTree (.tmp 5)) none [] <|
      .op (callOp s.at_ [(.tmp 20), (.tmp 14)]) none [] <|
      .op (.alloc c.sTree) none [] <|
      .op (.store c.sTree (.tmp 22) (.tmp 21)) none [] <|
      .op (.fieldAddr s.field (.tmp 18) 4) none [] <|
      .op (.load c.tInt (.tmp 24)) none [] <|
      .op (.binOp .lss c.tInt (.tmp 25) (.const (.int .i64 0)) c.tInt) none [] <|
      .cond (.tmp 26) (
        .op (.load s.field (.tmp 18)) none [] <|
        .op (callOp s.has [(.tmp 27), (.tmp 1)]) none [] <|
        .cond (.tmp 28) (gToldIt c s 29) (gTagged c s 29)
      ) (gTagged c s 27)
    ) (
      .op (.fieldAddr c.sTree (.tmp 5) 4) none [] <|
      .op (.load c.sTagL (.tmp 16)) none [] <|
      .op (callOp s.unknown [(.tmp 0), (.tmp 17)]) none [] <|
      .op (.unOp .not c.tBool (.tmp 2)) none [] <|
      .join 1 (
        .cond (.tmp 19) (
          .to 1 [(.const (.slice none 0 0))]
        ) (
          .to 1 [(.tmp 18)]
        )
      ) 1 <|
      .op (.fieldAddr c.sTree (.tmp 6) 4) none [] <|
      .op (.load c.sTagL (.tmp 21)) none [] <|
      .op (.call { callee := (.builtin .len), args := ⟨[(.tmp 22)]⟩, argTypes := ⟨[c.sTagL]⟩ }) none [] <|
      .op (.call { callee := (.builtin .len), args := ⟨[(.tmp 20)]⟩, argTypes := ⟨[c.sTagL]⟩ }) none [] <|
      .op (.binOp .neq c.tInt (.tmp 23) (.tmp 24) c.tInt) none [] <|
      .cond (.tmp 25) (
        .ret [((.const (.bool false)), none)]
      ) (
        .op (.call { callee := (.builtin .len), args := ⟨[(.tmp 20)]⟩, argTypes := ⟨[c.sTagL]⟩ }) none [] <|
        .loop 1 [(.tmp 13), (.const (.int .i64 0))] <|
        .op (.binOp .lss c.tInt (.tmp 28) (.tmp 26) c.tInt) none [] <|
        .cond (.tmp 29) (
          .op (.indexAddr c.sTagL (.tmp 20) (.tmp 28)) none [] <|
          .op (.load c.sTag (.tmp 30)) none [] <|
          .op (.alloc c.sTag) none [] <|
          .op (.store c.sTag (.tmp 32) (.tmp 31)) none [] <|
          .draw <|
          .pur (.fieldAddr c.sTree (.tmp 6) 4) none <|
          .lok (.load c.sTagL (.tmp 34)) none <|
          .pur (.indexAddr c.sTagL (.tmp 35) (.tmp 28)) none <|
          .pur (.fieldAddr c.sTag (.tmp 36) 0) none <|
          .lok (.load c.tU32 (.tmp 37)) none <|
          .pur (.fieldAddr c.sTag (.tmp 32) 0) none <|
          .lok (.load c.tU32 (.tmp 39)) none <|
          .pur (.binOp .neq c.tU32 (.tmp 38) (.tmp 40) c.tU32) none <|
          .cond (.tmp 41) (
            .ret [((.const (.bool false)), none)]
          ) (
            .pur (.fieldAddr c.sTree (.tmp 6) 4) none <|
            .lok (.load c.sTagL (.tmp 42)) none <|
            .pur (.indexAddr c.sTagL (.tmp 43) (.tmp 28)) none <|
            .pur (.fieldAddr c.sTag (.tmp 44) 1) none <|
            .lok (.load c.tBytes (.tmp 45)) none <|
            .pur (.fieldAddr c.sTag (.tmp 32) 1) none <|
            .lok (.load c.tBytes (.tmp 47)) none <|
            .op (callOp s.whole [(.tmp 48)]) none [((.load c.tBytes (.tmp 45)), 46), ((.load c.sTagL (.tmp 42)), 43), ((.load c.tU32 (.tmp 39)), 40), ((.load c.tU32 (.tmp 37)), 38), ((.load c.sTagL (.tmp 34)), 35)] <|
            .op (callOp s.same [(.tmp 46), (.tmp 49)]) none [((.load c.sTagL (.tmp 42)), 43), ((.load c.tU32 (.tmp 39)), 40), ((.load c.tU32 (.tmp 37)), 38), ((.load c.sTagL (.tmp 34)), 35)] <|
            .pur (.unOp .not c.tBool (.tmp 50)) none <|
            .cond (.tmp 51) (
              .ret [((.const (.bool false)), none)]
            ) (
              .op (.binOp .add c.tInt (.tmp 28) (.const (.int .i64 1)) c.tInt) none [] <|
              .to 1 [(.tmp 27), (.tmp 52)]
            )
          )
        ) (
          .ret [((.const (.bool true)), none)]
        )
      )
    )
  )

theorem pTagsTold_get : ∀ {l r : TM}, l.length = r.length → (pTagsTold l r = true ↔ ∀ j (h1 : j < l.length) (h2 : j < r.length), r[j].1 = l[j].1 ∧ r[j].2 = pWhole l[j].2)
  | [], [], _ => by simp [pTagsTold]
  | x :: l, y :: r, h => by
    rw [pTagsTold, Bool.and_eq_true, Bool.and_eq_true, decide_eq_true_eq, decide_eq_true_eq, pTagsTold_get (by simpa using h)]
    constructor
    · rintro ⟨h1, h2⟩ j hj1 hj2
      cases j with
      | zero => exact h1
      | succ j => exact h2 j (by simpa using hj1) (by simpa using hj2)
    · intro h3
      exact ⟨h3 0 (by simp) (by simp), fun j h1 h2 => h3 (j + 1) (by simpa using h1) (by simpa using h2)⟩

/-- What is asked of a field of a part. -/
def pToldAt (f : PF) (v : Int) (fl : Bool) (x got : PT) : Bool :=
  if (f.tag < 0 ∧ pHas f v = true) ∨ (0 ≤ f.tag ∧ fl = true ∧ pUsual f x = false) then pTold1 f v fl x got else pUsualGot f got

theorem pTolds_get : ∀ {fs : List PF} {v : Int} {fl : Bool} {t got : PT} {i : Nat}, pTolds fs v fl t got i = true ↔ ∀ j (hj : j < fs.length), pToldAt fs[j] v fl (pAt t (i + j)) (pAt got (i + j)) = true
  | [], v, fl, t, got, i => by simp [pTolds]
  | f :: r, v, fl, t, got, i => by
    rw [pTolds, Bool.and_eq_true, pTolds_get (fs := r)]
    constructor
    · rintro ⟨h1, h2⟩ j hj
      cases j with
      | zero => exact h1
      | succ j =>
        have := h2 j (by simpa using hj)
        rw [show i + (j + 1) = i + 1 + j by omega]
        exact this
    · intro h
      refine ⟨h 0 (by simp), fun j hj => ?_⟩
      have := h (j + 1) (by simpa using hj)
      rw [show i + 1 + j = i + (j + 1) by omega]
      exact this

section
variable {P : Program} {c : Nums} {s : SN} {R : Value → World → Prop} {Γ : List (List Value → World → Prop)} {n : Nat} {ρ : Nat → Value} {w : World} {k : Tr}

theorem told1_gives (S : SpFacts P c s) (Q : Smalls P s) (L : Tells P s) (hT : treeIn P s.told1 noOrc [.tmp 0, .tmp 1, .tmp 2, .tmp 3, .tmp 4] 5 = tTold1 c s) {f : PF} (hS : ToldOf P s f.sub) (h1 : f.kind = 11 → f.elem ≠ 11 ∧ Told1Of P s f.one) : Told1Of P s f := by
  intro w v fl t got cs ts gs hfc ht hg hok
  rw [pTold1_eq, pToldOf_eq]
  have hfc0 := hfc
  have htc0 := ht
  have hgc0 := hg
  refine gives_in (ρ := en [_, _, _, _, _]) S.rd.mix hT (Nat.le_refl _) rfl (by simp [opBelow]) ?_
  have hfl := hfc.len
  have htl := ht.len
  have hgl := hg.len
  refine s_box rfl fun w1 hx1 k1 z1 => ?_
  refine s_box rfl fun w2 hy2 k2 z2 => ?_
  refine s_box rfl fun w3 hz3 k3 z3 => ?_
  have hx3 := (hx1.keep k2 (by simp)).keep k3 (by simp)
  have hy3 := hy2.keep k3 (by simp)
  have k03 := (k1.trans k2).trans k3
  refine s_lok (l_loadN (b := w.heap.size) (o := 0) S.agg rfl hx3 (by omega)) (s_lok (l_loadN (b := w1.heap.size) (o := 0) S.ty.agg rfl hy3 (by omega)) ?_)
  rw [List.drop_zero, List.drop_zero, List.take_of_length_le (by omega), List.take_of_length_le (by omega)]
  refine s_callx (Q.null w3 f t cs ts v (FieldC.keep k03 _ _ hfc0) (TreeC.keep k03 _ _ htc0)) rfl fun u w4 ⟨hu, k4⟩ => ?_
  subst hu
  have hx4 := hx3.keep k4 (by simp)
  have hy4 := hy3.keep k4 (by simp)
  have hz4 := hz3.keep k4 (by simp)
  have k04 := k03.trans k4
  have hfc4 := FieldC.keep k04 _ _ hfc0
  have htc4 := TreeC.keep k04 _ _ htc0
  have hgc4 := TreeC.keep k04 _ _ hgc0
  obtain ⟨fv, ecs, hsub⟩ := hfc0.cells
  obtain ⟨sg, lg, ug, lgc, ugc, eg, _⟩ := hgc0.cells
  have hkind : cs[0 + 0]? = some (.int .i64 f.kind) := by rw [ecs]; rfl
  have hnul : cs[0 + 3]? = some (.int .i64 f.nul) := by rw [ecs]; rfl
  have hgn : gs[0 + 2]? = some (.bool got.null) := by rw [eg]; rfl
  refine s_fl S.f3 S.oneInt rfl rfl hx4 hnul ?_
  refine s_val (v_cmp (kk := .i64) (a := f.nul) (b := 0) (r := decide (f.nul ≥ 0)) rfl rfl rfl) ?_
  generalize hcnd : ((decide (f.kind = 8) || decide (f.kind = 10) || (decide (0 ≤ f.nul) && decide (f.nul ≤ v))) : Bool) = cnd
  have tail : ∀ (n : Nat) (ρ' : Nat → Value), n = 20 ∨ n = 23 ∨ n = 26 → ρ' 1 = .int .i64 v → ρ' 2 = .bool fl → ρ' 5 = ptr w.heap.size → ρ' 6 = ptr w1.heap.size → ρ' 7 = ptr w2.heap.size → ρ' 10 = .bool (pNull f v t) → (cnd && (got.null != pNull f v t)) = false →
      (gTail c s n).sem P (fun u w' => u = .bool (if (cnd && (got.null != pNull f v t)) = true then false else pTail (fun y z => pTold f.sub v fl y z) f v t got) ∧ Keeps [] w w') [] n ρ' w4 := by
    intro n ρ' hn q1 q2 q5 q6 q7 q10 hc
    rw [if_neg (by rw [hc]; simp)]
    exact sem_tail S Q L hn hS h1 q1 q2 q5 q6 q7 q10 hx4 hy4 hz4 hfc4 htc4 hgc4 hok k04
  have nulls : ∀ (n : Nat) (ρ' : Nat → Value), n = 17 ∨ n = 20 ∨ n = 23 → ρ' 1 = .int .i64 v → ρ' 2 = .bool fl → ρ' 5 = ptr w.heap.size → ρ' 6 = ptr w1.heap.size → ρ' 7 = ptr w2.heap.size → ρ' 10 = .bool (pNull f v t) → cnd = true →
      (gNulls c s n).sem P (fun u w' => u = .bool (if (cnd && (got.null != pNull f v t)) = true then false else pTail (fun y z => pTold f.sub v fl y z) f v t got) ∧ Keeps [] w w') [] n ρ' w4 := by
    intro n ρ' hn q1 q2 q5 q6 q7 q10 hc
    rcases hn with rfl | rfl | rfl
    all_goals
      refine s_fl S.ty.f2 S.rd.oneBool q7 rfl hz4 hgn ?_
      refine s_val (v_eqlBool (op := .neq) (a := got.null) (b := pNull f v t) (r := got.null != pNull f v t) S.ty.bool rfl q10 (.inr ⟨rfl, rfl⟩)) ?_
      refine s_cond (b := got.null != pNull f v t) rfl (fun hb => s_ret1 ⟨by rw [if_pos (by rw [hc, hb]; rfl)]; rfl, k04⟩) fun hb => ?_
      exact tail _ _ (by simp) q1 q2 q5 q6 q7 q10 (by rw [hb, Bool.and_false])
  refine s_cond (b := decide (f.nul ≥ 0)) rfl (fun hb => ?_) fun hb => ?_
  · have hge : 0 ≤ f.nul := by simpa using hb
    refine s_fl S.f3 S.oneInt rfl rfl hx4 hnul ?_
    refine s_val (v_cmp (kk := .i64) (a := v) (b := f.nul) (r := decide (v ≥ f.nul)) rfl rfl rfl) ?_
    refine s_fl S.f0 S.oneInt rfl rfl hx4 hkind ?_
    refine s_val (v_cmp (kk := .i64) (a := f.kind) (b := 8) (r := f.kind == 8) rfl rfl rfl) ?_
    refine s_cond (b := f.kind == 8) rfl (fun hb2 => ?_) fun hb2 => ?_
    · exact nulls 20 _ (by simp) rfl rfl rfl rfl rfl rfl (by rw [← hcnd]; simp at hb2; simp [hb2])
    refine s_fl S.f0 S.oneInt rfl rfl hx4 hkind ?_
    refine s_val (v_cmp (kk := .i64) (a := f.kind) (b := 10) (r := f.kind == 10) rfl rfl rfl) ?_
    refine s_cond (b := f.kind == 10) rfl (fun hb3 => ?_) fun hb3 => ?_
    · exact nulls 23 _ (by simp) rfl rfl rfl rfl rfl rfl (by rw [← hcnd]; simp at hb3; simp [hb3])
    refine s_cond (b := decide (v ≥ f.nul)) rfl (fun hb4 => ?_) fun hb4 => ?_
    · exact nulls 23 _ (by simp) rfl rfl rfl rfl rfl rfl (by rw [← hcnd]; simp at hb4; simp [hb4, hge])
    · refine tail 23 _ (by simp) rfl rfl rfl rfl rfl rfl ?_
      have : cnd = false := by
        rw [← hcnd]
        simp at hb2 hb3 hb4
        simp [hb2, hb3]
        omega
      rw [this]
      rfl
  · have hlt : ¬ 0 ≤ f.nul := by simpa using hb
    refine s_fl S.f0 S.oneInt rfl rfl hx4 hkind ?_
    refine s_val (v_cmp (kk := .i64) (a := f.kind) (b := 8) (r := f.kind == 8) rfl rfl rfl) ?_
    refine s_cond (b := f.kind == 8) rfl (fun hb2 => ?_) fun hb2 => ?_
    · exact nulls 17 _ (by simp) rfl rfl rfl rfl rfl rfl (by rw [← hcnd]; simp at hb2; simp [hb2])
    refine s_fl S.f0 S.oneInt rfl rfl hx4 hkind ?_
    refine s_val (v_cmp (kk := .i64) (a := f.kind) (b := 10) (r := f.kind == 10) rfl rfl rfl) ?_
    refine s_cond (b := f.kind == 10) rfl (fun hb3 => ?_) fun hb3 => ?_
    · exact nulls 20 _ (by simp) rfl rfl rfl rfl rfl rfl (by rw [← hcnd]; simp at hb3; simp [hb3])
    · refine tail 20 _ (by simp) rfl rfl rfl rfl rfl rfl ?_
      have : cnd = false := by
        rw [← hcnd]
        simp at hb2 hb3
        simp [hb2, hb3]
        omega
      rw [this]
      rfl

theorem take0 {cs : List Value} {n : Nat} (h : cs.length = n) : (cs.drop 0).take n = cs := by rw [List.drop_zero, List.take_of_length_le (by omega)]

theorem told_step (S : SpFacts P c s) (Q : Smalls P s) (L : Tells P s) (hT : treeIn P s.told noOrc [.tmp 0, .tmp 1, .tmp 2, .tmp 3, .tmp 4] 5 = tTold c s) {fs : List PF} (hp : ∀ f ∈ fs, f.tag < 0) (hlen : fs.length < 65536) (hF : ∀ f ∈ fs, Told1Of P s f) (hUs : ∀ f ∈ fs, UsualOf P s [f]) (hU : UnknownOf P s fs) : ToldOf P s fs := by
  intro w fv v fl t got ts gs hfv ht hg hok
  have htc := ht
  have hgc := hg
  have hgl := hg.lens
  have hfv0 := hfv
  obtain ⟨fcs, hr, hfc⟩ := hfv
  obtain ⟨sv, lv, uv, lcs, ucs, rfl, t1, t2, t3, t4, t5⟩ := ht.cells
  obtain ⟨sg, lg, ug, lgc, ugc, rfl, g1, g2, g3, g4, g5⟩ := hg.cells
  generalize hG : pTold fs v fl t got = G
  unfold pTold at hG
  refine gives_in (ρ := en [_, _, _, _, _]) S.rd.mix hT (Nat.le_refl _) rfl (by simp [opBelow]) ?_
  refine s_box rfl fun w1 hx1 k1 z1 => ?_
  refine s_box rfl fun w2 hy2 k2 z2 => ?_
  have hx2 := hx1.keep k2 (by simp)
  have k02 : Keeps [] w w2 := k1.trans k2
  obtain ⟨la, cpl, el⟩ := g2.form
  refine s_fl S.ty.f3 S.ty.oneTrees rfl rfl hy2 rfl (s_val (v_len (a := la) (l := got.l.length) (c := cpl) S.ty.sl el) ?_)
  obtain ⟨a, cp, e⟩ := hr.form
  refine s_val (v_len (a := a) (l := fs.length) (c := cp) S.sl e) ?_
  refine s_val (v_cmp (kk := .i64) (a := got.l.length) (b := fs.length) (r := ((got.l.length : Int) != fs.length)) rfl rfl rfl) ?_
  refine s_cond (b := ((got.l.length : Int) != fs.length)) rfl (fun hb2 => s_ret1 ⟨?_, k02⟩) fun hb2 => ?_
  · have hne2 : got.l.length ≠ fs.length := fun e => by rw [e] at hb2; simp at hb2
    rw [← hG, decide_eq_false hne2]
    rfl
  have hleq : got.l.length = fs.length := by
    have : (got.l.length : Int) = fs.length := by simpa using hb2
    omega
  rw [decide_eq_true hleq, Bool.true_and] at hG
  refine s_val (v_len (a := a) (l := fs.length) (c := cp) S.sl e) ?_
  refine s_countV (n := 13) (q := 12) (kk := .i64) (m := fs.length) (ri := [.const (.bool false)]) (Γ := []) (fun j vr w' => vr = [.bool false] ∧ Keeps [] w2 w' ∧ ∀ i (hi : i < fs.length), i < j → pToldAt fs[i] v fl (pAt t i) (pAt got i) = true) (by omega) rfl ⟨rfl, .refl, fun i _ h => by omega⟩ ?_ ?_
  · rintro j hj w3 vr ⟨rfl, k23, hall⟩ hvr J hJ
    have hj' : j < fs.length := by omega
    have hjg : j < got.l.length := by omega
    have k03 := k02.trans k23
    refine s_eachF (fv := fv) (fs := fs) (j := j) S (hfv0.keep k03) rfl rfl hj' fun w4 a4 b cs hh hf k4 hb => ?_
    have hf0 := hf
    have hneg := hp _ (List.getElem_mem hj')
    have k24 := k23.trans k4
    have hx4 := hx2.keep k24 (by simp)
    refine s_lok (l_loadN (b := w.heap.size) (o := 0) S.ty.agg rfl hx4 (show 0 + 5 ≤ 5 by omega)) ?_
    refine s_callx (Q.at_ w4 t _ j (TreeC.keep (k02.trans k24) _ _ htc)) rfl fun u w5 ⟨k5, tcs, hu, htj⟩ => ?_
    subst hu
    refine s_alloc S.got.zero fun w6 hz6 k6 z6 => ?_
    have hl5 := htj.len
    refine s_storeAll (b := w5.heap.size) (old := zeroTree) (cs := tcs) (by rw [hl5]; exact S.ty.agg) rfl rfl hz6 (by rw [hl5]; rfl) htj.ones fun w7 hy7 k7 => ?_
    have k57 : Keeps [] w5 w7 := ((k6.mono (by simp)).trans k7).less fun x hx => .inr (by simp only [List.mem_singleton] at hx; omega)
    have k47 := k5.trans k57
    have k27 := k24.trans k47
    have hh7 := hh.keep k47 (by simp)
    have hg7 := hy2.keep k27 (by simp)
    have hf7 := FieldC.keep k47 _ _ hf0
    have ht7 := TreeC.keep k57 _ _ htj
    have hfl := hf0.len
    have hpag : pAt got j = got.l[j] := by unfold pAt; rw [List.getD_eq_getElem?_getD, List.getElem?_eq_getElem hjg]; rfl
    obtain ⟨sv4, ecs, hsub⟩ := hf0.cells
    have htag : cs[0 + 4]? = some (.int .i64 (fs[j]'hj').tag) := by rw [ecs]; rfl
    have fin : ∀ w', pToldAt fs[j] v fl (pAt t j) got.l[j] = true → Keeps [] w7 w' → J [.bool false, .int .i64 ((j + 1 : Nat) : Int)] w' := fun w' hg hk => hJ [_] w' rfl ⟨rfl, k27.trans hk, fun i hi hij => by
      by_cases hij2 : i = j
      · subst hij2; rw [hpag]; exact hg
      · exact hall i hi (by omega)⟩
    have bad : ∀ w', pToldAt fs[j] v fl (pAt t j) got.l[j] = false → Keeps [] w7 w' → (fun u w' => u = Value.bool G ∧ Keeps [] w w') (.bool false) w' := fun w' hgg hk => ⟨by
      have : G = false := by
        cases hGv : G with
        | false => rfl
        | true =>
          rw [hGv, Bool.and_eq_true] at hG
          have := pTolds_get.1 hG.1 j hj'
          rw [Nat.zero_add, hpag, hgg] at this
          cases this
      rw [this], (k02.trans k27).trans hk⟩
    refine s_fl S.f4 S.oneInt rfl rfl hh7 htag ?_
    refine s_val (v_cmp (kk := .i64) (a := (fs[j]'hj').tag) (b := 0) (r := decide ((fs[j]'hj').tag < 0)) rfl rfl rfl) ?_
    refine s_cond (b := decide ((fs[j]'hj').tag < 0)) rfl (fun hb1 => ?_) fun hb1 => (by simp at hb1; omega)
    refine s_lok (l_loadN (b := b) (o := 0) S.agg rfl hh7 (by omega)) ?_
    rw [take0 hfl]
    refine s_callx (Q.has w7 fs[j] _ v hf7) rfl fun u w8 ⟨hu, k8⟩ => ?_
    subst hu
    have hh8 := hh7.keep k8 (by simp)
    have hf8 := FieldC.keep k8 _ _ hf7
    have ht8 := TreeC.keep k8 _ _ ht7
    have hy8 := hy7.keep k8 (by simp)
    have hg8 := hg7.keep k8 (by simp)
    refine s_cond (b := pHas fs[j] v) rfl (fun hb2 => ?_) fun hb2 => ?_
    · have hat : pToldAt fs[j] v fl (pAt t j) got.l[j] = pTold1 fs[j] v fl (pAt t j) got.l[j] := by
        unfold pToldAt
        rw [if_pos (.inl ⟨hneg, hb2⟩)]
      rw [hat] at fin bad
      show Tr.sem _ _ _ _ _ _ { w8 with drawn := w8.drawn + 1 }
      have hd : Keeps [] w8 { w8 with drawn := w8.drawn + 1 } := keeps_drawn w8 _ _
      generalize ({ w8 with drawn := w8.drawn + 1 } : World) = w9 at hd ⊢
      have k09 := ((k02.trans k27).trans k8).trans hd
      refine l_lok (l_loadN (b := b) (o := 0) S.agg rfl (hh8.keep hd (by simp)) (by omega)) ?_
      rw [take0 hfl]
      refine l_lok (l_loadN (b := w5.heap.size) (o := 0) S.ty.agg rfl (hy8.keep hd (by simp)) (by omega)) ?_
      rw [take0 hl5]
      have hg9 := hg8.keep hd (by simp)
      refine p_fl S.ty.f3 S.ty.oneTrees rfl rfl hg9 rfl ?_
      obtain ⟨b2, o2, cap2, e2, _, hel2, hcell2⟩ := (g2.keep k09).elem hjg (by omega)
      have hgj := TreesC.get (TreesC.keep k09 _ _ g3) hjg
      refine p_val (v_indexAddr (b := b2) (o := o2) (l := got.l.length) (c := cap2) (j := j) (kk := .i64) S.ty.sl S.szT e2 rfl (by omega) (by omega)) ?_
      rw [Int.toNat_natCast]
      refine l_lok (l_cellN (b := b2) (o := o2 + j * 5) S.ty.agg rfl hel2 hcell2) ?_
      refine s_call (hF fs[j] (List.getElem_mem hj') w9 v fl (pAt t j) got.l[j] _ _ _ (FieldC.keep hd _ _ hf8) (TreeC.keep hd _ _ ht8) hgj (hok.at j)) fun u w10 ⟨hu, k10⟩ => ⟨?_, ?_⟩
      · intro p hp
        simp only [List.mem_singleton] at hp
        subst hp
        exact l_load1 (b := w1.heap.size) (o := 3) S.ty.oneTrees rfl (hg9.keep k10 (by simp)) rfl
      subst hu
      have k7a := (k8.trans hd).trans k10
      refine p_val (v_not (b := pTold1 fs[j] v fl (pAt t j) got.l[j]) rfl) ?_
      refine s_cond (b := !pTold1 fs[j] v fl (pAt t j) got.l[j]) rfl (fun hb3 => s_ret1 (bad w10 (by simpa using hb3) k7a)) fun hb3 => ?_
      refine s_val (v_arith (kk := .i64) (a := j) (b := 1) (r := ((j + 1 : Nat) : Int)) rfl rfl ?_) ?_
      · simp only [arithOf, Option.some.injEq]; rw [IntKind.wrap_i64]; omega
      exact ⟨J, rfl, fin w10 (by simpa using hb3) k7a⟩
    · have hat : pToldAt fs[j] v fl (pAt t j) got.l[j] = pUsualGot fs[j] got.l[j] := by
        unfold pToldAt
        rw [if_neg (by
          rintro (⟨_, h⟩ | ⟨h, _⟩)
          · rw [hb2] at h; cases h
          · omega)]
      rw [hat] at fin bad
      refine s_fl S.f4 S.oneInt rfl rfl hh8 htag ?_
      refine s_val (v_cmp (kk := .i64) (a := (fs[j]'hj').tag) (b := 0) (r := decide ((fs[j]'hj').tag ≥ 0)) rfl rfl rfl) ?_
      refine s_cond (b := decide ((fs[j]'hj').tag ≥ 0)) rfl (fun hb3 => (by simp at hb3; omega)) fun _ => ?_
      show Tr.sem _ _ _ _ _ _ { w8 with drawn := w8.drawn + 1 }
      have hd : Keeps [] w8 { w8 with drawn := w8.drawn + 1 } := keeps_drawn w8 _ _
      generalize ({ w8 with drawn := w8.drawn + 1 } : World) = w9 at hd ⊢
      have k09 := ((k02.trans k27).trans k8).trans hd
      have hh9 := hh8.keep hd (by simp)
      have hf9 := FieldC.keep hd _ _ hf8
      refine l_lok (l_loadN (b := b) (o := 0) S.agg rfl hh9 (by omega)) ?_
      rw [take0 hfl]
      have hg9 := hg8.keep hd (by simp)
      refine p_fl S.ty.f3 S.ty.oneTrees rfl rfl hg9 rfl ?_
      obtain ⟨b2, o2, cap2, e2, hbl2, hel2, hcell2⟩ := (g2.keep k09).elem hjg (by omega)
      have hgj := TreesC.get (TreesC.keep k09 _ _ g3) hjg
      have hgjl := hgj.len
      refine p_val (v_indexAddr (b := b2) (o := o2) (l := got.l.length) (c := cap2) (j := j) (kk := .i64) S.ty.sl S.szT e2 rfl (by omega) (by omega)) ?_
      rw [Int.toNat_natCast]
      refine l_lok (l_cellN (b := b2) (o := o2 + j * 5) S.ty.agg rfl hel2 hcell2) ?_
      have ldT : ∀ (ρ : Nat → Value) (x : Operand) (w' : World), ev ρ x = ptr b2 (o2 + j * 5) → Keeps [] w9 w' → runOp P ρ (.load c.sTree x) w' = .ok (.value (.agg ⟨(lgc.drop (j * 5)).take 5⟩)) w' := fun ρ x w' hx kk => l_cellN (b := b2) (o := o2 + j * 5) S.ty.agg hx hel2 fun i hi => by rw [cell_keep kk hbl2 (by simp)]; exact hcell2 i hi
      have hone : pUsualGots [fs[j]] (PT.mk 0 [] false [got.l[j]] []) 0 = pUsualGot fs[j] got.l[j] := by
        rw [pUsualGots, pUsualGots, Bool.and_true]
        rfl
      have ending : ∀ (ρ' : Nat → Value) (w' : World) (q : Bool), ρ' 13 = .bool false → ρ' 14 = .int .i64 j → ρ' 40 = .bool q → q = pUsualGot fs[j] got.l[j] → Keeps [] w9 w' →
          (gUsualEnd c 40).sem P (fun u w' => u = .bool G ∧ Keeps [] w w') ([] ++ [J]) 41 ρ' w' := by
        intro ρ' w' q h13 h14 h40 hq kk
        have k7a := (k8.trans hd).trans kk
        refine p_val (v_not (b := q) h40) ?_
        refine s_cond (b := !q) rfl (fun hb3 => s_ret1 (bad w' (by rw [← hq]; simpa using hb3) k7a)) fun hb3 => ?_
        refine s_val (v_arith (kk := .i64) (a := j) (b := 1) (r := ((j + 1 : Nat) : Int)) h14 rfl (by simp only [arithOf, Option.some.injEq]; rw [IntKind.wrap_i64]; omega)) ?_
        refine ⟨J, rfl, ?_⟩
        generalize hvs : List.map (ev _) [Operand.tmp 13, Operand.tmp (40 + 2)] = vs
        obtain rfl : vs = [.bool false, .int .i64 ((j + 1 : Nat) : Int)] := by rw [← hvs]; exact pair_eq' h13 rfl
        exact fin w' (by rw [← hq]; simpa using hb3) k7a
      have mkF : ∀ (w' : World) (v' : Value), Reads w' v' 8 1 cs → Keeps [] w9 w' → FieldsV w' [fs[j]] v' := fun w' v' hr' kk => ⟨cs, .of_reads hr', ⟨cs, [], by simp, FieldC.keep kk _ _ hf9, rfl⟩⟩
      have mkT : ∀ (w' : World) (v' : Value), Reads w' v' 5 1 ((lgc.drop (j * 5)).take 5) → Keeps [] w9 w' → TreeC w' (PT.mk 0 [] false [got.l[j]] []) [.int .i64 0, .slice none 0 0, .bool false, v', .slice none 0 0] := fun w' v' hr' kk =>
        ⟨_, v', _, _, [], rfl, Ro.nil w' 1, .of_reads hr', ⟨_, [], by simp, TreeC.keep kk _ _ hgj, rfl⟩, Ro.nil w' 2, rfl, by simp⟩
      refine ⟨?_, ?_⟩
      · refine s_oneSlice (sz := 8) (cs := cs) S.rowF S.sl rfl hfl fun w10 hsl1 k10 z10 => ⟨?_, ?_⟩
        · intro p hp
          simp only [List.mem_cons, List.not_mem_nil, or_false] at hp
          rcases hp with rfl | rfl
          · exact ldT _ _ _ rfl k10
          · exact l_load1 (b := w1.heap.size) (o := 3) S.ty.oneTrees rfl (hg9.keep k10 (by simp)) rfl
        refine s_oneSlice (sz := 5) (cs := (lgc.drop (j * 5)).take 5) S.got.row S.ty.sl rfl hgjl fun w11 hsl2 k11 z11 => ⟨?_, ?_⟩
        · intro p hp
          simp only [List.mem_singleton] at hp
          subst hp
          exact l_load1 (b := w1.heap.size) (o := 3) S.ty.oneTrees rfl ((hg9.keep k10 (by simp)).keep k11 (by simp)) rfl
        refine p_val (v_build (cells := [.int .i64 0, .slice none 0 0, .bool false, .slice (some ⟨w10.heap.size, 0, none⟩) 1 1, .slice none 0 0]) S.got.plan (fun p hp => by
          simp only [List.mem_singleton] at hp
          subst hp
          rfl) rfl) ?_
        have k911 := k10.trans k11
        refine s_call (hUs fs[j] (List.getElem_mem hj') w11 _ _ _ (FieldsV.keep k11 (mkF w10 _ hsl1 k10)) (mkT w11 _ hsl2 k911)) fun u w12 ⟨hu, k12⟩ => ⟨?_, ?_⟩
        · intro p hp
          simp only [List.mem_singleton] at hp
          subst hp
          exact l_load1 (b := w1.heap.size) (o := 3) S.ty.oneTrees rfl (((hg9.keep k10 (by simp)).keep k11 (by simp)).keep k12 (by simp)) rfl
        subst hu
        exact ending _ w12 _ rfl rfl rfl (by rw [hone]; rfl) (k911.trans k12)
      · refine s_oneSlice (sz := 5) (cs := (lgc.drop (j * 5)).take 5) S.got.row S.ty.sl rfl hgjl fun w10 hsl2 k10 z10 => ⟨?_, ?_⟩
        · intro p hp
          simp only [List.mem_cons, List.not_mem_nil, or_false] at hp
          rcases hp with rfl | rfl
          · exact l_load1 (b := w1.heap.size) (o := 3) S.ty.oneTrees rfl (hg9.keep k10 (by simp)) rfl
          · refine (l_loadN (b := b) (o := 0) S.agg rfl (hh9.keep k10 (by simp)) (by omega)).trans ?_
            rw [take0 hfl]
            rfl
        refine p_val (v_build (cells := [.int .i64 0, .slice none 0 0, .bool false, .slice (some ⟨w9.heap.size, 0, none⟩) 1 1, .slice none 0 0]) S.got.plan (fun p hp => by
          simp only [List.mem_singleton] at hp
          subst hp
          rfl) rfl) ?_
        refine s_oneSlice (sz := 8) (cs := cs) S.rowF S.sl rfl hfl fun w11 hsl1 k11 z11 => ⟨?_, ?_⟩
        · intro p hp
          simp only [List.mem_singleton] at hp
          subst hp
          exact l_load1 (b := w1.heap.size) (o := 3) S.ty.oneTrees rfl ((hg9.keep k10 (by simp)).keep k11 (by simp)) rfl
        have k911 := k10.trans k11
        refine s_call (hUs fs[j] (List.getElem_mem hj') w11 _ _ _ (mkF w11 _ hsl1 k911) (TreeC.keep k11 _ _ (mkT w10 _ hsl2 k10))) fun u w12 ⟨hu, k12⟩ => ⟨?_, ?_⟩
        · intro p hp
          simp only [List.mem_singleton] at hp
          subst hp
          exact l_load1 (b := w1.heap.size) (o := 3) S.ty.oneTrees rfl (((hg9.keep k10 (by simp)).keep k11 (by simp)).keep k12 (by simp)) rfl
        subst hu
        exact ending _ w12 _ rfl rfl rfl (by rw [hone]; rfl) (k911.trans k12)
  · rintro w3 vr J ⟨rfl, k23, hall⟩ hvr
    rw [pTolds_get.2 fun j hj => by rw [Nat.zero_add]; exact hall j hj (by simpa using hj), Bool.true_and] at hG
    unfold pToldEnd at hG
    have hx3 := hx2.keep k23 (by simp)
    have hy3 := hy2.keep k23 (by simp)
    have k03 := k02.trans k23
    refine s_fl S.ty.f4 S.ty.oneTagL rfl rfl hx3 rfl ?_
    refine s_callx (hU w3 w3 fv uv t.u ucs (hfv0.keep k03) (t4.keep k03) (TagsC.keep k03 _ _ t5) hok.u) rfl fun tv w4 ⟨tcs, hown, htg', _, k4⟩ => ?_
    have htg := TagsC.keep k4 _ _ htg'
    have hy4 := hy3.keep k4 (by simp)
    have k04 := k03.trans k4
    refine s_val (v_not (b := fl) rfl) ?_
    generalize hun : (if fl = true then pUnknown fs t.u else []) = un at hG
    dsimp only at hG
    have hun7 : un.length ≤ 32767 := by
      rw [← hun]
      split
      · exact pUnknown_length fs t.u
      · simp
    refine ⟨rfl, fun vs w' => w' = w4 ∧ ∃ u, vs = [u] ∧ ∃ cs', Ro w4 u 2 un.length cs' ∧ TagsC w4 un cs', ?_, ?_⟩
    · refine s_cond (b := !fl) rfl (fun hb => ⟨_, rfl, rfl, _, rfl, ?_⟩) fun hb => ⟨_, rfl, rfl, _, rfl, ?_⟩
      · have : fl = false := by simpa using hb
        subst this
        rw [← hun]
        exact ⟨[], Ro.nil w4 2, rfl⟩
      · have : fl = true := by simpa using hb
        subst this
        rw [← hun]
        exact ⟨tcs, Ro.of_reads hown.reads, htg⟩
    rintro vs w5 _ ⟨hw5, u, rfl, cs', hru, htu⟩
    rw [hw5]
    clear hw5
    obtain ⟨ga, gc, ge⟩ := g4.form
    obtain ⟨ua, uc, ue⟩ := hru.form
    refine s_fl S.ty.f4 S.ty.oneTagL rfl rfl hy4 rfl (s_val (v_len (a := ga) (l := got.u.length) (c := gc) S.ty.slTag ge) ?_)
    refine s_val (v_len (a := ua) (l := un.length) (c := uc) S.ty.slTag ue) ?_
    refine s_val (v_cmp (kk := .i64) (a := got.u.length) (b := un.length) (r := ((got.u.length : Int) != un.length)) rfl rfl rfl) ?_
    refine s_cond (b := ((got.u.length : Int) != un.length)) rfl (fun hb2 => s_ret1 ⟨?_, k04⟩) fun hb2 => ?_
    · have hne2 : got.u.length ≠ un.length := fun e => by rw [e] at hb2; simp at hb2
      rw [← hG, decide_eq_false hne2]
      rfl
    have hleq2 : got.u.length = un.length := by
      have : (got.u.length : Int) = un.length := by simpa using hb2
      omega
    rw [decide_eq_true hleq2, Bool.true_and] at hG
    have hall2 := pTagsTold_get hleq2.symm
    refine s_val (v_len (a := ua) (l := un.length) (c := uc) S.ty.slTag ue) ?_
    refine s_countV (n := 27) (q := 26) (kk := .i64) (m := un.length) (ri := [.tmp 13]) (Γ := [J]) (fun j vr w' => vr = [.bool false] ∧ Keeps [] w4 w' ∧ ∀ i (h1 : i < un.length) (h2 : i < got.u.length), i < j → (got.u[i]'h2).1 = (un[i]'h1).1 ∧ (got.u[i]'h2).2 = pWhole (un[i]'h1).2) (by omega) rfl ⟨rfl, .refl, fun i _ _ h => by omega⟩ ?_ ?_
    · rintro j hj w6 vr ⟨rfl, k46, hsofar⟩ hvr J2 hJ2
      have hj' : j < un.length := by omega
      have hj2 : j < got.u.length := by omega
      refine s_eachT (w0 := w4) (tv := u) (m := un) (j := j) S (hru.keep k46) htu rfl rfl hj' fun w7 a7 b vv hh hvv k7 hb => ?_
      show Tr.sem _ _ _ _ _ _ { w7 with drawn := w7.drawn + 1 }
      have hd : Keeps [] w7 { w7 with drawn := w7.drawn + 1 } := keeps_drawn w7 _ _
      generalize ({ w7 with drawn := w7.drawn + 1 } : World) = w8 at hd ⊢
      have k48 := (k46.trans k7).trans hd
      have hh8 := hh.keep hd (by simp)
      have hy8 := hy4.keep k48 (by simp)
      obtain ⟨b2, o2, cap2, e2, hbl2, hel2, hcell2⟩ := (g4.keep (k04.trans k48)).elem hj2 (by omega)
      obtain ⟨vg, hcg, hvg⟩ := TagsC.get (TagsC.keep (k04.trans k48) _ _ g5) hj2
      have hc0 : w8.cell? ⟨b2, o2 + j * 2 + 0, none⟩ = some (.int .u32 (got.u[j]'hj2).1) := by rw [hcell2 0 (by omega), hcg]; rfl
      have hc1 : w8.cell? ⟨b2, o2 + j * 2 + 1, none⟩ = some vg := by rw [hcell2 1 (by omega), hcg]; rfl
      have ld : ∀ (ρ : Nat → Value) (x : Operand) (w' : World) (ty i : Nat) (v : Value), oneTy P ty = true → ev ρ x = ptr b2 (o2 + j * 2 + i) → w8.cell? ⟨b2, o2 + j * 2 + i, none⟩ = some v → Keeps [] w8 w' → runOp P ρ (.load ty x) w' = .ok (.value v) w' := fun ρ x w' ty i v h1 hx hv kk => l_cell1 h1 hx (by rw [cell_keep kk hbl2 (by simp)]; exact hv)
      have bad : ∀ w', ¬ ((got.u[j]'hj2).1 = (un[j]'hj').1 ∧ (got.u[j]'hj2).2 = pWhole (un[j]'hj').2) → Keeps [] w8 w' → (fun u w' => u = Value.bool G ∧ Keeps [] w w') (.bool false) w' := fun w' hgg hk => ⟨by
        have : G = false := by
          cases hGv : G with
          | false => rfl
          | true =>
            rw [hGv] at hG
            exact absurd (hall2.1 hG j hj' hj2) hgg
        rw [this], (k04.trans k48).trans hk⟩
      refine p_fl S.ty.f4 S.ty.oneTagL rfl rfl hy8 rfl ?_
      refine p_val (v_indexAddr (b := b2) (o := o2) (l := got.u.length) (c := cap2) (j := j) (kk := .i64) S.ty.slTag S.szG e2 rfl (by omega) (by omega)) ?_
      rw [Int.toNat_natCast]
      refine p_val (v_field (b := b2) (o := o2 + j * 2) S.ty.g0 rfl) ?_
      refine l_lok (ld _ _ w8 _ 0 _ S.ty.oneU32 rfl hc0 .refl) ?_
      refine p_fl S.ty.g0 S.ty.oneU32 rfl rfl hh8 rfl ?_
      refine p_val (v_cmp (kk := .u32) (a := (got.u[j]'hj2).1) (b := (un[j]'hj').1) (r := (((got.u[j]'hj2).1 : Int) != (un[j]'hj').1)) rfl rfl rfl) ?_
      refine s_cond (b := (((got.u[j]'hj2).1 : Int) != (un[j]'hj').1)) rfl (fun hb3 => s_ret1 (bad w8 (fun h => by rw [h.1] at hb3; simp at hb3) .refl)) fun hb3 => ?_
      have hkey : (got.u[j]'hj2).1 = (un[j]'hj').1 := by
        have : ((got.u[j]'hj2).1 : Int) = (un[j]'hj').1 := by simpa using hb3
        omega
      refine p_fl S.ty.f4 S.ty.oneTagL rfl rfl hy8 rfl ?_
      refine p_val (v_indexAddr (b := b2) (o := o2) (l := got.u.length) (c := cap2) (j := j) (kk := .i64) S.ty.slTag S.szG e2 rfl (by omega) (by omega)) ?_
      rw [Int.toNat_natCast]
      refine p_val (v_field (b := b2) (o := o2 + j * 2) S.ty.g1 rfl) ?_
      refine l_lok (ld _ _ w8 _ 1 _ S.rd.oneBytes rfl hc1 .refl) ?_
      refine p_fl S.ty.g1 S.rd.oneBytes rfl rfl hh8 rfl ?_
      have lds : ∀ (ρ' : Nat → Value) (w' : World), Keeps [] w8 w' → ρ' 45 = ptr b2 (o2 + j * 2 + 1) → ρ' 46 = vg → ρ' 42 = ptr w1.heap.size 4 → ρ' 43 = ug → ρ' 39 = ptr b 0 → ρ' 40 = .int .u32 (un[j]'hj').1 → ρ' 37 = ptr b2 (o2 + j * 2 + 0) → ρ' 38 = .int .u32 (got.u[j]'hj2).1 → ρ' 34 = ptr w1.heap.size 4 → ρ' 35 = ug →
          ∀ p ∈ [((Op.load c.tBytes (.tmp 45)), 46), ((Op.load c.sTagL (.tmp 42)), 43), ((Op.load c.tU32 (.tmp 39)), 40), ((Op.load c.tU32 (.tmp 37)), 38), ((Op.load c.sTagL (.tmp 34)), 35)], runOp P ρ' p.1 w' = .ok (.value (ρ' p.2)) w' := by
        intro ρ' w' kk q45 q46 q42 q43 q39 q40 q37 q38 q34 q35 p hp
        simp only [List.mem_cons, List.not_mem_nil, or_false] at hp
        rcases hp with rfl | rfl | rfl | rfl | rfl
        · show _ = Result.ok (Next.value (ρ' 46)) w'
          rw [q46]; exact ld _ _ w' _ 1 _ S.rd.oneBytes q45 hc1 kk
        · show _ = Result.ok (Next.value (ρ' 43)) w'
          rw [q43]; exact l_load1 (b := w1.heap.size) (o := 4) S.ty.oneTagL q42 (hy8.keep kk (by simp)) rfl
        · show _ = Result.ok (Next.value (ρ' 40)) w'
          rw [q40]; exact l_load1 (b := b) (o := 0) S.ty.oneU32 q39 (hh8.keep kk (by simp)) rfl
        · show _ = Result.ok (Next.value (ρ' 38)) w'
          rw [q38]; exact ld _ _ w' _ 0 _ S.ty.oneU32 q37 hc0 kk
        · show _ = Result.ok (Next.value (ρ' 35)) w'
          rw [q35]; exact l_load1 (b := w1.heap.size) (o := 4) S.ty.oneTagL q34 (hy8.keep kk (by simp)) rfl
      refine s_call (Q.whole w8 vv un[j].2 (hvv.keep k48)) fun x w9 ⟨hw9, hx⟩ => ⟨?_, ?_⟩
      · rw [hw9]
        exact lds _ w8 .refl rfl rfl rfl rfl rfl rfl rfl rfl rfl rfl
      rw [hw9]
      have hul : (pWhole (un[j]'hj').2).length < 2 ^ 62 := by unfold pWhole; rw [List.length_take]; omega
      refine s_call (L.same w8 vg x (got.u[j]'hj2).2 (pWhole (un[j]'hj').2) (.inr hul) hvg (hx w8 (hvv.keep k48))) fun y w10 ⟨hy, k10⟩ => ⟨fun p hp => lds _ w10 k10 rfl rfl rfl rfl rfl rfl rfl rfl rfl rfl p (List.mem_cons_of_mem _ hp), ?_⟩
      subst hy
      refine p_val (v_not (b := decide ((got.u[j]'hj2).2 = pWhole (un[j]'hj').2)) rfl) ?_
      refine s_cond (b := !decide ((got.u[j]'hj2).2 = pWhole (un[j]'hj').2)) rfl (fun hb4 => s_ret1 (bad w10 (fun h => by simp at hb4; exact hb4 h.2) k10)) fun hb4 => ?_
      refine s_val (v_arith (kk := .i64) (a := j) (b := 1) (r := ((j + 1 : Nat) : Int)) rfl rfl ?_) ?_
      · simp only [arithOf, Option.some.injEq]; rw [IntKind.wrap_i64]; omega
      refine ⟨J2, rfl, hJ2 [_] _ rfl ⟨rfl, k48.trans k10, fun i hi1 hi2 hij => ?_⟩⟩
      by_cases hij2 : i = j
      · subst hij2; exact ⟨hkey, by simpa using hb4⟩
      · exact hsofar i hi1 hi2 (by omega)
    · rintro w6 vr J2 ⟨rfl, k46, hsofar⟩ hvr
      refine s_ret1 ⟨?_, k04.trans k46⟩
      rw [← hG, hall2.2 fun j h1 h2 => hsofar j h1 h2 (by simpa using h1)]
      rfl
end
end Go.Kf
/- The reference, joined: what it writes, what it tells. -/
namespace Go.Kf
open Go

def tFits1 (c : Nums) (s : SN) : Tr :=
  .op (.box c.sTree (.tmp 0)) none [] <|
  .op (.fieldAddr c.sTree (.tmp 1) 1) none [] <|
  .op (.load c.tBytes (.tmp 2)) none [] <|
  .op (.call { callee := (.builtin .len), args := ⟨[(.tmp 3)]⟩, argTypes := ⟨[c.tBytes]⟩ }) none [] <|
  .op (.binOp .gtr c.tInt (.tmp 4) (.const (.int .i64 2147483647)) c.tInt) none [] <|
  .cond (.tmp 5) (
    .ret [((.const (.bool false)), none)]
  ) (
    .op (.fieldAddr c.sTree (.tmp 1) 3) none [] <|
    .op (.load c.sTrees (.tmp 6)) none [] <|
    .op (.call { callee := (.builtin .len), args := ⟨[(.tmp 7)]⟩, argTypes := ⟨[c.sTrees]⟩ }) none [] <|
    .op (.binOp .gtr c.tInt (.tmp 8) (.const (.int .i64 2147483647)) c.tInt) none [] <|
    .cond (.tmp 9) (
      .ret [((.const (.bool false)), none)]
    ) (
      .op (.fieldAddr c.sTree (.tmp 1) 4) none [] <|
      .op (.load c.sTagL (.tmp 10)) none [] <|
      .op (callOp s.fits2 [(.tmp 11)]) none [] <|
      .op (.unOp .not c.tBool (.tmp 12)) none [] <|
      .cond (.tmp 13) (
        .ret [((.const (.bool false)), none)]
      ) (
        .ret [((.const (.bool true)), none)]
      )
    )
  )

def tFits2 (c : Nums) (s : SN) : Tr :=
  .op (.call { callee := (.builtin .len), args := ⟨[(.tmp 0)]⟩, argTypes := ⟨[c.sTagL]⟩ }) none [] <|
  .op (.binOp .gtr c.tInt (.tmp 1) (.const (.int .i64 2147483647)) c.tInt) none [] <|
  .cond (.tmp 2) (
    .ret [((.const (.bool false)), none)]
  ) (
    .op (.call { callee := (.builtin .len), args := ⟨[(.tmp 0)]⟩, argTypes := ⟨[c.sTagL]⟩ }) none [] <|
    .loop 0 [(.const (.bool false)), (.const (.int .i64 0))] <|
    .op (.binOp .lss c.tInt (.tmp 5) (.tmp 3) c.tInt) none [] <|
    .cond (.tmp 6) (
      .op (.indexAddr c.sTagL (.tmp 0) (.tmp 5)) none [] <|
      .op (.load c.sTag (.tmp 7)) none [] <|
      .op (.alloc c.sTag) none [] <|
      .op (.store c.sTag (.tmp 9) (.tmp 8)) none [] <|
      .op (.load c.sTag (.tmp 9)) none [] <|
      .op (callOp s.fits3 [(.tmp 11)]) none [] <|
      .op (.unOp .not c.tBool (.tmp 12)) none [] <|
      .cond (.tmp 13) (
        .ret [((.const (.bool false)), none)]
      ) (
        .op (.binOp .add c.tInt (.tmp 5) (.const (.int .i64 1)) c.tInt) none [] <|
        .to 0 [(.tmp 4), (.tmp 14)]
      )
    ) (
      .ret [((.const (.bool true)), none)]
    )
  )

def tFits3 (c : Nums) : Tr :=
  .op (.box c.sTag (.tmp 0)) none [] <|
  .op (.fieldAddr c.sTag (.tmp 1) 1) none [] <|
  .op (.load c.tBytes (.tmp 2)) none [] <|
  .op (.call { callee := (.builtin .len), args := ⟨[(.tmp 3)]⟩, argTypes := ⟨[c.tBytes]⟩ }) none [] <|
  .op (.binOp .gtr c.tInt (.tmp 4) (.const (.int .i64 2147483647)) c.tInt) none [] <|
  .cond (.tmp 5) (
    .ret [((.const (.bool false)), none)]
  ) (
    .ret [((.const (.bool true)), none)]
  )

/-- The reference's functions' trees. -/
structure SpTrees (P : Program) (c : Nums) (s : SN) : Prop where
  has : treeIn P s.has noOrc [.tmp 0, .tmp 1] 2 = tHas c s
  null : treeIn P s.null noOrc [.tmp 0, .tmp 1, .tmp 2] 3 = tNull c s
  whole : treeIn P s.whole noOrc [.tmp 0] 1 = tWhole c
  things : treeIn P s.things noOrc [.tmp 0] 1 = tThings c
  at_ : treeIn P s.at_ noOrc [.tmp 0, .tmp 1] 2 = tAt c
  uv : treeIn P s.uv noOrc [.tmp 0] 1 = tUv c
  fixed : treeIn P s.fixed noOrc [.tmp 0, .tmp 1] 2 = tFixed c
  width : treeIn P s.width noOrc [.tmp 0] 1 = tWidth c
  counted : treeIn P s.counted noOrc [.tmp 0, .tmp 1, .tmp 2, .tmp 3] 4 = tCounted c s
  value : treeIn P s.value noOrc [.tmp 0, .tmp 1, .tmp 2, .tmp 3, .tmp 4, .tmp 5] 6 = tValue c s
  fld : treeIn P s.fld noOrc [.tmp 0, .tmp 1, .tmp 2, .tmp 3] 4 = tField c s
  part : treeIn P s.part noOrc [.tmp 0, .tmp 1, .tmp 2, .tmp 3] 4 = tPart c s
  known : treeIn P s.known noOrc [.tmp 0] 1 = tKnown c s
  unknown : treeIn P s.unknown noOrc [.tmp 0, .tmp 1] 2 = tUnknown c s
  write : treeIn P s.write noOrc [.tmp 0, .tmp 1, .tmp 2] 3 = tWrite c s

/-- Those of its telling, too. -/
structure TlTrees (P : Program) (c : Nums) (s : SN) : Prop where
  nums : NumTys P c
  flex : treeIn P s.flex noOrc [.tmp 0, .tmp 1] 2 = tFlex c s
  number : treeIn P s.number noOrc [.tmp 0, .tmp 1] 2 = tNumber c
  same : treeIn P s.same noOrc [.tmp 0, .tmp 1] 2 = tSame c
  usualG : treeIn P s.usualG noOrc [.tmp 0, .tmp 1] 2 = tUsualG c s
  told1 : treeIn P s.told1 noOrc [.tmp 0, .tmp 1, .tmp 2, .tmp 3, .tmp 4] 5 = tTold1 c s
  told : treeIn P s.told noOrc [.tmp 0, .tmp 1, .tmp 2, .tmp 3, .tmp 4] 5 = tTold c s

/-- Those of the bounds. -/
structure FitTrees (P : Program) (c : Nums) (s : SN) : Prop where
  fits1 : treeIn P s.fits1 noOrc [.tmp 0] 1 = tFits1 c s
  fits2 : treeIn P s.fits2 noOrc [.tmp 0] 1 = tFits2 c s
  fits3 : treeIn P s.fits3 noOrc [.tmp 0] 1 = tFits3 c

section
variable {P : Program} {c : Nums} {s : SN}

theorem smalls_of (S : SpFacts P c s) (T : SpTrees P c s) : Smalls P s where
  has := fun _ _ _ v h => has_gives S T.has h v
  null := fun _ _ _ _ _ v h ht => null_gives S T.null h ht v
  whole := fun _ _ _ h => whole_gives S T.whole h
  things := fun _ _ _ _ h ht => things_gives S T.things h ht
  at_ := fun _ _ _ i ht => at_gives S T.at_ ht i
  width := fun _ x => width_gives S T.width x
  fixed := fun _ x m hm => fixed_gives S T.fixed x m hm
  uv := fun _ x hx => uv_gives S T.uv x hx
  counted := fun _ fl nu x m hx hm => counted_gives S (fun _ x m hm => fixed_gives S T.fixed x m hm) (fun _ x hx => uv_gives S T.uv x hx) T.counted fl nu x m hx hm

theorem tells_of (S : SpFacts P c s) (L : TlTrees P c s) : Tells P s where
  same := fun _ _ _ _ _ hb h1 h2 => same_ro S.rd L.same hb h1 h2
  number := fun _ kind x => number_gives S L.nums L.number kind x

theorem unknown_all (S : SpFacts P c s) (T : SpTrees P c s) {fs : List PF} (h : PF.plains fs = true) (hl : fs.length < 65536) : UnknownOf P s fs := by
  have ht : ∀ f ∈ fs, f.tag < 0 := fun f hf => PF.plain_tag (PF.plains_mem h f hf)
  refine unknown_gives S (fun w fv hfv => ?_) T.unknown
  rw [pKnown_plain 0 ht]
  exact known_plain S T.known ht hfv (by omega)

mutual
theorem field_all (S : SpFacts P c s) (T : SpTrees P c s) : ∀ f : PF, f.plain = true → FieldOf P s f
  | .mk k fr to n g d e sub, h => by
    have hs := PF.plain_sub h
    have hl := PF.plain_len h
    have hp : PartOf P s sub := part_step S (smalls_of S T) T.known T.part (fun f hf => PF.plain_tag (PF.plains_mem hs f hf)) (by simp only [PF.sub] at hl; omega) (fields_all S T sub hs) (unknown_all S T hs hl)
    exact field_step S (smalls_of S T) T.fld (f := .mk k fr to n g d e sub) (fun w fv t ts kind nu fl v hf ht hok hl => value_gives S (smalls_of S T) T.value hp kind nu fl v hf ht hok hl) hp
theorem fields_all (S : SpFacts P c s) (T : SpTrees P c s) : ∀ fs : List PF, PF.plains fs = true → ∀ f ∈ fs, FieldOf P s f
  | [], _, f, hf => by cases hf
  | x :: l, h, f, hf => by
    simp only [PF.plains, Bool.and_eq_true] at h
    rcases List.mem_cons.1 hf with e | hf
    · rw [e]; exact field_all S T x h.1
    · exact fields_all S T l h.2 f hf
end

theorem part_all (S : SpFacts P c s) (T : SpTrees P c s) {fs : List PF} (h : PF.plains fs = true) (hl : fs.length < 65536) : PartOf P s fs :=
  part_step S (smalls_of S T) T.known T.part (fun f hf => PF.plain_tag (PF.plains_mem h f hf)) (by omega) (fields_all S T fs h) (unknown_all S T h hl)

mutual
theorem usual_all (S : SpFacts P c s) (T : SpTrees P c s) (L : TlTrees P c s) : ∀ f : PF, f.plain = true → UsualOf P s f.sub
  | .mk _ _ _ _ _ _ _ sub, h => usual_step S (smalls_of S T) (tells_of S L).same (tells_of S L).number L.usualG (PF.plain_len h) (usuals_all S T L sub (PF.plain_sub h))
theorem usuals_all (S : SpFacts P c s) (T : SpTrees P c s) (L : TlTrees P c s) : ∀ fs : List PF, PF.plains fs = true → ∀ f ∈ fs, UsualOf P s f.sub
  | [], _, f, hf => by cases hf
  | x :: l, h, f, hf => by
    simp only [PF.plains, Bool.and_eq_true] at h
    rcases List.mem_cons.1 hf with e | hf
    · rw [e]; exact usual_all S T L x h.1
    · exact usuals_all S T L l h.2 f hf
end

theorem usual_one (S : SpFacts P c s) (T : SpTrees P c s) (L : TlTrees P c s) {f : PF} (h : f.plain = true) : UsualOf P s [f] :=
  usual_step S (smalls_of S T) (tells_of S L).same (tells_of S L).number L.usualG (by simp) fun g hg => by
    simp only [List.mem_singleton] at hg
    subst hg
    exact usual_all S T L _ h

mutual
theorem told1_all (S : SpFacts P c s) (T : SpTrees P c s) (L : TlTrees P c s) : ∀ f : PF, f.plain = true → Told1Of P s f
  | .mk k fr to n g d e sub, h => by
    have hs := PF.plain_sub h
    have hl := PF.plain_len h
    have ht : ToldOf P s sub := told_step S (smalls_of S T) (tells_of S L) L.told (fun f hf => PF.plain_tag (PF.plains_mem hs f hf)) hl (tolds_all S T L sub hs) (fun f hf => usual_one S T L (PF.plains_mem hs f hf)) (unknown_all S T hs hl)
    refine told1_gives S (smalls_of S T) (tells_of S L) L.told1 (f := .mk k fr to n g d e sub) ht fun h11 => ⟨PF.plain_elem h h11, ?_⟩
    exact told1_gives S (smalls_of S T) (tells_of S L) L.told1 (f := PF.one (.mk k fr to n g d e sub)) ht fun h => absurd h (PF.plain_elem ‹_› h11)
theorem tolds_all (S : SpFacts P c s) (T : SpTrees P c s) (L : TlTrees P c s) : ∀ fs : List PF, PF.plains fs = true → ∀ f ∈ fs, Told1Of P s f
  | [], _, f, hf => by cases hf
  | x :: l, h, f, hf => by
    simp only [PF.plains, Bool.and_eq_true] at h
    rcases List.mem_cons.1 hf with e | hf
    · rw [e]; exact told1_all S T L x h.1
    · exact tolds_all S T L l h.2 f hf
end

theorem told_all (S : SpFacts P c s) (T : SpTrees P c s) (L : TlTrees P c s) {fs : List PF} (h : PF.plains fs = true) (hl : fs.length < 65536) : ToldOf P s fs :=
  told_step S (smalls_of S T) (tells_of S L) L.told (fun f hf => PF.plain_tag (PF.plains_mem h f hf)) hl (tolds_all S T L fs h) (fun f hf => usual_one S T L (PF.plains_mem h f hf)) (unknown_all S T h hl)

theorem write_gives (S : SpFacts P c s) (T : SpTrees P c s) {fs : List PF} (h : PF.plains fs = true) (hlen : fs.length < 65536) {w : World} {fv : Value} {t : PT} {ts : List Value} (x v : Int) (hfv : FieldsV w fs fv) (ht : TreeC w t ts) (hok : t.ok) (hl : (pWrite fs x v t).length ≤ maxW) :
    YieldsO P s.write [.agg ⟨[fv, .int .i64 x]⟩, .int .i64 v, .agg ⟨ts⟩] w (pWrite fs x v t) := by
  have htl := ht.len
  refine gives_in (ρ := en [_, _, _]) S.rd.mix T.write (Nat.le_refl _) rfl (by simp [opBelow]) ?_
  refine s_box rfl fun w1 hx1 k1 z1 => ?_
  refine s_box rfl fun w2 hy2 k2 z2 => ?_
  have hx2 := hx1.keep k2 (by simp)
  have k02 := k1.trans k2
  have hp := part_all S T h hlen
  refine s_fl S.m0 S.oneFields rfl rfl hx2 rfl (s_fl S.m1 S.oneInt rfl rfl hx2 rfl ?_)
  refine s_val (v_cmp (kk := .i64) (a := x) (b := 0) (r := decide (x ≥ 0)) rfl rfl rfl) ?_
  unfold pWrite at hl ⊢
  refine s_cond (b := decide (x ≥ 0)) rfl (fun hb => ?_) fun hb => ?_
  · refine s_fl S.m1 S.oneInt rfl rfl hx2 rfl ?_
    refine s_val (v_cmp (kk := .i64) (a := v) (b := x) (r := decide (v ≥ x)) rfl rfl rfl) ?_
    have hfx : pFlex x v = decide (v ≥ x) := by
      unfold pFlex
      rw [show decide (0 ≤ x) = true from hb]
      rfl
    rw [hfx] at hl ⊢
    refine s_lok (l_loadN (b := w1.heap.size) (o := 0) S.ty.agg rfl hy2 (by omega)) ?_
    rw [take0 htl]
    exact s_callO (hp w2 fv v _ t ts (hfv.keep k02) (TreeC.keep k02 _ _ ht) hok hl) rfl fun u w3 hM => ⟨fun p hp => (by cases hp), s_ret1 (hM.under k02)⟩
  · have hfx : pFlex x v = false := by
      unfold pFlex
      rw [show decide (0 ≤ x) = false from hb]
      rfl
    rw [hfx] at hl ⊢
    refine s_lok (l_loadN (b := w1.heap.size) (o := 0) S.ty.agg rfl hy2 (by omega)) ?_
    rw [take0 htl]
    exact s_callO (hp w2 fv v _ t ts (hfv.keep k02) (TreeC.keep k02 _ _ ht) hok hl) rfl fun u w3 hM => ⟨fun p hp => (by cases hp), s_ret1 (hM.under k02)⟩

/-- Whether it fits or not. -/
def Answers (P : Program) (f : Nat) (args : List Value) (w : World) : Prop := Gives P f args w fun u w' => (∃ b, u = .bool b) ∧ Keeps [] w w'

theorem fits3_gives (S : SpFacts P c s) (T : FitTrees P c s) {w : World} {kv vv : Value} {l : List UInt8} (h : Ro w vv 1 l.length (bcells l)) : Answers P s.fits3 [.agg ⟨[kv, vv]⟩] w := by
  refine gives_in (ρ := en [_]) S.rd.mix T.fits3 (Nat.le_refl _) rfl (by simp [opBelow]) ?_
  refine s_box rfl fun w1 hx1 k1 z1 => ?_
  obtain ⟨a, cp, e⟩ := h.form
  refine s_fl S.ty.g1 S.rd.oneBytes rfl rfl hx1 rfl (s_val (v_len (a := a) (l := l.length) (c := cp) S.rd.bytes e) ?_)
  refine s_val (v_cmp (kk := .i64) (a := l.length) (b := 2147483647) (r := decide ((l.length : Int) > 2147483647)) rfl rfl rfl) ?_
  exact s_cond (b := decide ((l.length : Int) > 2147483647)) rfl (fun _ => s_ret1 ⟨⟨_, rfl⟩, k1⟩) fun _ => s_ret1 ⟨⟨_, rfl⟩, k1⟩

theorem fits2_gives (S : SpFacts P c s) (T : FitTrees P c s) {w : World} {uv : Value} {u : TM} {ucs : List Value} (h : Ro w uv 2 u.length ucs) (ht : TagsC w u ucs) (hl : u.length < 2 ^ 62) : Answers P s.fits2 [uv] w := by
  refine gives_in (ρ := en [_]) S.rd.mix T.fits2 (Nat.le_refl _) rfl (by simp [opBelow]) ?_
  obtain ⟨a, cp, e⟩ := h.form
  refine s_val (v_len (a := a) (l := u.length) (c := cp) S.ty.slTag e) ?_
  refine s_val (v_cmp (kk := .i64) (a := u.length) (b := 2147483647) (r := decide ((u.length : Int) > 2147483647)) rfl rfl rfl) ?_
  refine s_cond (b := decide ((u.length : Int) > 2147483647)) rfl (fun _ => s_ret1 ⟨⟨_, rfl⟩, .refl⟩) fun _ => ?_
  refine s_val (v_len (a := a) (l := u.length) (c := cp) S.ty.slTag e) ?_
  refine s_countV (n := 4) (q := 3) (kk := .i64) (m := u.length) (ri := [.const (.bool false)]) (Γ := []) (fun j vr w' => vr = [.bool false] ∧ Keeps [] w w') (by omega) rfl ⟨rfl, .refl⟩ ?_ ?_
  · rintro j hj w1 vr ⟨rfl, k1⟩ hvr J hJ
    have hj' : j < u.length := by omega
    refine s_eachT (w0 := w) (tv := uv) (m := u) (j := j) S (h.keep k1) ht rfl rfl hj' fun w2 a2 b vv hh hvv k2 hb => ?_
    refine s_lok (l_loadN (b := b) (o := 0) S.ty.aggTag rfl hh (show 0 + 2 ≤ 2 by omega)) ?_
    refine s_callx (fits3_gives S T (kv := .int .u32 u[j].1) (hvv.keep (k1.trans k2))) rfl fun x w3 ⟨⟨q, hq⟩, k3⟩ => ?_
    subst hq
    refine s_val (v_not (b := q) rfl) ?_
    refine s_cond (b := !q) rfl (fun _ => s_ret1 ⟨⟨_, rfl⟩, (k1.trans k2).trans k3⟩) fun _ => ?_
    refine s_val (v_arith (kk := .i64) (a := j) (b := 1) (r := ((j + 1 : Nat) : Int)) rfl rfl ?_) ?_
    · simp only [arithOf, Option.some.injEq]; rw [IntKind.wrap_i64]; omega
    exact ⟨J, rfl, hJ [_] _ rfl ⟨rfl, (k1.trans k2).trans k3⟩⟩
  · rintro w1 vr J ⟨rfl, k1⟩ hvr
    exact s_ret1 ⟨⟨_, rfl⟩, k1⟩

theorem fits1_gives (S : SpFacts P c s) (T : FitTrees P c s) {w : World} {t : PT} {ts : List Value} (ht : TreeC w t ts) : Answers P s.fits1 [.agg ⟨ts⟩] w := by
  have hl := ht.lens
  obtain ⟨sv, lv, uv, lcs, ucs, rfl, t1, t2, t3, t4, t5⟩ := ht.cells
  refine gives_in (ρ := en [_]) S.rd.mix T.fits1 (Nat.le_refl _) rfl (by simp [opBelow]) ?_
  refine s_box rfl fun w1 hx1 k1 z1 => ?_
  obtain ⟨a, cp, e⟩ := t1.form
  refine s_fl S.ty.f1 S.rd.oneBytes rfl rfl hx1 rfl (s_val (v_len (a := a) (l := t.s.length) (c := cp) S.rd.bytes e) ?_)
  refine s_val (v_cmp (kk := .i64) (a := t.s.length) (b := 2147483647) (r := decide ((t.s.length : Int) > 2147483647)) rfl rfl rfl) ?_
  refine s_cond (b := decide ((t.s.length : Int) > 2147483647)) rfl (fun _ => s_ret1 ⟨⟨_, rfl⟩, k1⟩) fun _ => ?_
  obtain ⟨a2, cp2, e2⟩ := t2.form
  refine s_fl S.ty.f3 S.ty.oneTrees rfl rfl hx1 rfl (s_val (v_len (a := a2) (l := t.l.length) (c := cp2) S.ty.sl e2) ?_)
  refine s_val (v_cmp (kk := .i64) (a := t.l.length) (b := 2147483647) (r := decide ((t.l.length : Int) > 2147483647)) rfl rfl rfl) ?_
  refine s_cond (b := decide ((t.l.length : Int) > 2147483647)) rfl (fun _ => s_ret1 ⟨⟨_, rfl⟩, k1⟩) fun _ => ?_
  refine s_fl S.ty.f4 S.ty.oneTagL rfl rfl hx1 rfl ?_
  refine s_callx (fits2_gives S T (t4.keep k1) (TagsC.keep k1 _ _ t5) (by omega)) rfl fun x w3 ⟨⟨q, hq⟩, k3⟩ => ?_
  subst hq
  refine s_val (v_not (b := q) rfl) ?_
  exact s_cond (b := !q) rfl (fun _ => s_ret1 ⟨⟨_, rfl⟩, k1.trans k3⟩) fun _ => s_ret1 ⟨⟨_, rfl⟩, k1.trans k3⟩
end
end Go.Kf
/- The reference's types, from a check that the kernel runs. -/
namespace Go.Kf
open Go
variable {P : Program} {c : Nums} {s : SN}

def chkSp (P : Program) (c : Nums) (s : SN) : Bool :=
  decide (aggTy P s.field = some 8) && decide (fieldOff P s.field 0 = some 0) && decide (fieldOff P s.field 1 = some 1) && decide (fieldOff P s.field 2 = some 2) && decide (fieldOff P s.field 3 = some 3) && decide (fieldOff P s.field 4 = some 4) &&
  decide (fieldOff P s.field 5 = some 5) && decide (fieldOff P s.field 6 = some 6) && decide (fieldOff P s.field 7 = some 7) && oneTy P s.fields && decide (aggTy P s.msg = some 2) && decide (fieldOff P s.msg 0 = some 0) && decide (fieldOff P s.msg 1 = some 1) && oneTy P c.tInt

theorem SpFacts.of (h1 : RdFacts P c) (h2 : TyFacts P c c.sTree c.sTrees c.sTagL c.sTag) (h3 : GotFacts P c) (h4 : RowFacts P s.field 8) (h5 : chkSp P c s = true) (h6 : P.underlying s.fields = some (.slice s.field))
    (h7 : P.underlying c.tU64 = some (.int .u64)) (h8 : zeroTy P c.tU8 = some (.int .u8 0, 1)) (h9 : chkInfo P c.tU8 1 8 = true) (h10 : chkZero P s.field 8 = true) (h11 : chkZero P c.sTag 2 = true) (h12 : buildPlan P c.sTag = some ([.int .u32 0, .slice none 0 0], [(0, 1), (1, 1)])) : SpFacts P c s := by
  unfold chkSp at h5
  simp only [Bool.and_eq_true, decide_eq_true_eq] at h5
  obtain ⟨⟨⟨⟨⟨⟨⟨⟨⟨⟨⟨⟨⟨a1, a2⟩, a3⟩, a4⟩, a5⟩, a6⟩, a7⟩, a8⟩, a9⟩, a10⟩, a11⟩, a12⟩, a13⟩, a14⟩ := h5
  refine ⟨h1, h2, h3, a1, a2, a3, a4, a5, a6, a7, a8, a9, h6, a10, a11, a12, a13, a14, h7, ?_, zero_of h10, zero_of h11, h4, h12⟩
  obtain ⟨inf, z, hi, hz, hs, hc, hb⟩ := info_of h9
  refine ⟨inf, hi, ?_, hs, hb⟩
  unfold zeroTy at h8
  rw [hi] at h8
  simp only [hz, Option.some.injEq, Prod.mk.injEq] at h8
  rw [hz, h8.1]
end Go.Kf
/- A law of an octet and a tree: what its arguments are, what is to be said behind it. -/
namespace Go.Kf
open Go Go.ChangeShapes Go.WideShapes Go.RowKit

/-- How much a tree says. -/
def tagsWt : TM → Nat
  | [] => 0
  | p :: m => 3 + p.2.length + tagsWt m
mutual
def PT.wt : PT → Nat
  | .mk _ s _ l u => 6 + s.length + PT.wts l + tagsWt u
def PT.wts : List PT → Nat
  | [] => 0
  | t :: r => t.wt + PT.wts r
end

theorem PT.wts_append : ∀ (a b : List PT), PT.wts (a ++ b) = PT.wts a + PT.wts b
  | [], b => by simp [PT.wts]
  | t :: a, b => by rw [List.cons_append, PT.wts, PT.wts_append a b, PT.wts]; omega

theorem tagsWt_append : ∀ (a b : TM), tagsWt (a ++ b) = tagsWt a + tagsWt b
  | [], b => by simp [tagsWt]
  | t :: a, b => by rw [List.cons_append, tagsWt, tagsWt_append a b, tagsWt]; omega

/-- How a reading's bulk is counted. -/
structure BulkLaws {H : Type} (B : DataW H → Nat) (BA : List (DataW H) → Nat) : Prop where
  agg : ∀ l, B (.agg l) = BA l + 1
  slice : ∀ e r, B (.slice e r) = BA e + BA r + 1
  pos : ∀ d, 1 ≤ B d
  nil : BA [] = 0
  cons : ∀ d r, BA (d :: r) = B d + BA r

/-- A struct's fields: their types, where they lie. -/
def chkStruct (P : Program) (t : Nat) (l : List (Nat × Nat)) : Bool := match P.underlying t with
  | some (.struct fs) => decide (fs.toList.map (fun f => (f.type, f.offset)) = l)
  | _ => false

theorem struct_of {P : Program} {t : Nat} {l : List (Nat × Nat)} (h : chkStruct P t l = true) : ∃ fs, P.underlying t = some (.struct fs) ∧ fs.toList.map (fun f => (f.type, f.offset)) = l := by
  unfold chkStruct at h
  split at h
  · rename_i fs hf
    exact ⟨fs, hf, by simpa using h⟩
  · cases h

/-- The tree's types, as a row's reading asks them. -/
structure RowTypes (P : Program) (c : Nums) : Prop where
  tree : chkStruct P c.sTree [(c.tI64, 0), (c.tBytes, 1), (c.tBool, 2), (c.sTrees, 3), (c.sTagL, 4)] = true
  tag : chkStruct P c.sTag [(c.tU32, 0), (c.tBytes, 1)] = true
  cells : [P.cellsOf c.tI64, P.cellsOf c.tBytes, P.cellsOf c.tBool, P.cellsOf c.sTrees, P.cellsOf c.sTagL, P.cellsOf c.tU32, P.cellsOf c.tU8, P.cellsOf c.sTree, P.cellsOf c.sTag] = [1, 1, 1, 1, 1, 1, 1, 5, 2]
  laid : laidOutB P = true
  rr : P.readableRec c.sTree = true
  row : c.sTree < P.types.size

theorem struct_parts {H : Type} {enc : TypeId × Value → H} {P : Program} {w : World} {base : Nat} {sp : Nat → Bool} {hd : Bool} {fuel t : Nat} {cs : List Value} {x : DataW H × List MemPlace} {l : List (Nat × Nat)} (h : chkStruct P t l = true) (hx : DataW.trod enc P w base sp hd fuel t cs = some x) :
    ∃ (xs : List (DataW H × List MemPlace)) (n : Nat), fuel = n + 1 ∧ x.1 = .agg (xs.map (·.1)) ∧ cs.length = P.cellsOf t ∧ xs.length = l.length ∧ ∀ (i : Nat) (p : Nat × Nat), l[i]? = some p → DataW.trod enc P w base sp hd n p.1 ((cs.drop p.2).take (P.cellsOf p.1)) = xs[i]? := by
  obtain ⟨fs, hf, hm⟩ := struct_of h
  obtain ⟨xs, n, h1, h2, h3, h4, h5⟩ := DataW.trod_struct hf hx
  refine ⟨xs, n, h1, by rw [h2], h3, by rw [h4, ← hm]; simp, fun i p hp => ?_⟩
  subst hm
  rw [List.getElem?_map] at hp
  cases hfi : fs.toList[i]? with
  | none => rw [hfi] at hp; cases hp
  | some f =>
    rw [hfi] at hp
    simp only [Option.map_some, Option.some.injEq] at hp
    subst hp
    exact h5 i f (by rwa [Array.getElem?_toList] at hfi)

theorem addr_spot {w : World} {a : Addr} {v : Value} (h : w.cell? a = some v) : a = ⟨a.block, a.off, none⟩ := by
  unfold World.cell? at h
  split at h
  · split at h
    · cases h
    · rename_i hs
      cases a with
      | mk b o s =>
        cases s with
        | none => rfl
        | some _ => simp at hs
  · cases h

section
variable {H : Type} {enc : TypeId × Value → H} {P : Program} {c : Nums} {s : SN} {w : World} {B : DataW H → Nat} {BA : List (DataW H) → Nat}

theorem bulk_len (L : BulkLaws B BA) : ∀ l : List (DataW H), l.length ≤ BA l
  | [] => by simp
  | d :: r => by
    have := L.pos d
    have := bulk_len L r
    rw [L.cons, List.length_cons]
    omega

/-- Octets of an argument. -/
theorem open_octets (S : SpFacts P c s) (T : RowTypes P c) (L : BulkLaws B BA) {fuel : Nat} {cs : List Value} {x : DataW H × List MemPlace} (h : DataW.trod enc P w 0 (fun _ => true) true fuel c.tBytes cs = some x) :
    ∃ v l, cs = [v] ∧ Ro w v 1 l.length (bcells l) ∧ l.length + 1 ≤ B x.1 := by
  have hc := T.cells
  simp only [List.cons.injEq] at hc
  rcases open_ints S.rd.bytes S.rd.u8 hc.2.2.2.2.2.2.1 h with ⟨rfl, rfl⟩ | ⟨a, len, cap, zs, rfl, _, hle, hmx, hzl, rfl, hcell, hwf⟩
  · exact ⟨_, [], rfl, Ro.nil w 1, L.pos _⟩
  · simp only [if_true] at hzl
    have hz8 : ∀ z ∈ zs, ∃ m : Nat, z = m ∧ m < 256 := fun z hz => lit_u8 (hwf z hz)
    refine ⟨_, (zs.take len).map fun z => UInt8.ofNat z.toNat, rfl, ?_, ?_⟩
    · have hlen : ((zs.take len).map fun z => UInt8.ofNat z.toNat).length = len := by rw [List.length_map, List.length_take]; omega
      refine ⟨by rw [bcells_length]; omega, ?_⟩
      rw [hlen]
      by_cases h0 : len = 0
      · exact .inl ⟨h0, _, _, by rw [h0]⟩
      · have hz0 : 0 < zs.length := by omega
        have e0 := hcell 0 hz0
        have ha0 : a.add 0 = a := by simp [Addr.add]
        rw [ha0] at e0
        have hsp := addr_spot e0
        refine .inr ⟨a.block, a.off, cap, by rw [← hsp], cell_block e0, hle, fun i hi => ?_⟩
        have hi' : i < zs.length := by omega
        have e1 := hcell i hi'
        rw [hsp, addr_add] at e1
        rw [e1]
        obtain ⟨m, hm, hlt⟩ := hz8 zs[i] (List.getElem_mem _)
        simp only [bcells, List.getElem?_map, List.getElem?_take, show i < len by omega, if_true, List.getElem?_eq_getElem hi', Option.map_some, List.getD_eq_getElem?_getD, Option.getD_some, hm, Int.toNat_natCast]
        congr 2
        have : (UInt8.ofNat m).toNat = m := by rw [UInt8.toNat_ofNat']; omega
        rw [this]
    · rw [L.slice]
      have := bulk_len L (lits .u8 (zs.take len))
      have e : (lits (H := H) .u8 (zs.take len)).length = (zs.take len).length := by simp [lits]
      rw [List.length_map]
      omega

/-- Elements of an argument's slice, one after another. -/
theorem open_elems {e sz fuel : Nat} {a : Addr} {len : Nat} {elems : List (DataW H × List MemPlace)} (hsz : P.cellsOf e = sz) (hlen : elems.length = len)
    (hel : ∀ i, i < len → (w.cells? 0 (a.add (i * P.cellsOf e)) (P.cellsOf e)).bind (DataW.trod enc P w 0 (fun _ => true) true fuel e) = elems[i]?) :
    ∀ i (hi : i < elems.length), ∃ cs, cs.length = sz ∧ (∀ q, q < sz → w.cell? ((a.add (i * sz)).add q) = cs[q]?) ∧ DataW.trod enc P w 0 (fun _ => true) true fuel e cs = some elems[i] := by
  intro i hi
  have h := hel i (by omega)
  rw [List.getElem?_eq_getElem hi, Option.bind_eq_some_iff] at h
  obtain ⟨cs, h1, h2⟩ := h
  obtain ⟨_, h3, h4⟩ := World.cells?_some h1
  rw [hsz] at h3 h4
  exact ⟨cs, h3, h4, h2⟩

theorem bulk_take (L : BulkLaws B BA) (l : List (DataW H)) {j : Nat} (hj : j < l.length) : BA (l.take (j + 1)) = BA (l.take j) + B l[j] := by
  induction l generalizing j with
  | nil => simp at hj
  | cons d r ih =>
    cases j with
    | zero => simp [L.cons, L.nil]
    | succ j =>
      rw [List.take_succ_cons, L.cons, ih (by simpa using hj), List.take_succ_cons, L.cons, List.getElem_cons_succ]
      omega

/-- Rows of elements, joined. -/
theorem open_row' {sz : Nat} {X : Type} {C : List X → List Value → Prop} {W : List X → Nat} (L : BulkLaws B BA) (hsz : 0 < sz) {a : Addr} {elems : List (DataW H × List MemPlace)} (hC0 : C [] []) (hW0 : W [] = 0)
    (hC : ∀ xs cs i (hi : i < elems.length), xs.length = i → C xs cs → (∀ q, q < i * sz → w.cell? (a.add q) = cs[q]?) → cs.length = i * sz → W xs ≤ BA ((elems.map (·.1)).take i) → ∃ y ys, C (xs ++ [y]) (cs ++ ys) ∧ ys.length = sz ∧ (∀ q, q < sz → w.cell? ((a.add (i * sz)).add q) = ys[q]?) ∧ W (xs ++ [y]) ≤ W xs + B elems[i].1) :
    ∀ k, k ≤ elems.length → ∃ xs cs, xs.length = k ∧ C xs cs ∧ cs.length = k * sz ∧ (∀ q, q < k * sz → w.cell? (a.add q) = cs[q]?) ∧ W xs ≤ BA ((elems.map (·.1)).take k)
  | 0, _ => ⟨[], [], rfl, hC0, by simp, fun q hq => by simp at hq, by rw [hW0]; omega⟩
  | k + 1, hk => by
    obtain ⟨xs, cs, h1, h2, h3, h4, h5⟩ := open_row' L hsz hC0 hW0 hC k (by omega)
    obtain ⟨y, ys, g1, g2, g3, g4⟩ := hC xs cs k (by omega) h1 h2 h4 h3 h5
    refine ⟨xs ++ [y], cs ++ ys, by rw [List.length_append, h1]; rfl, g1, by rw [List.length_append, h3, g2, Nat.add_mul]; omega, fun q hq => ?_, ?_⟩
    · by_cases hq2 : q < k * sz
      · rw [List.getElem?_append_left (by omega)]
        exact h4 q hq2
      · rw [List.getElem?_append_right (by omega), h3]
        have h6 : q - k * sz < sz := by rw [Nat.add_mul] at hq; omega
        have h7 := g3 (q - k * sz) h6
        rw [← h7]
        congr 1
        have hsp : ∃ b o, a.add (k * sz) = ⟨b, o, none⟩ ∧ ∀ r, a.add (k * sz + r) = ⟨b, o + r, none⟩ := by
          have h8 := g3 0 hsz
          have h9 : ys[0]? ≠ none := by rw [List.getElem?_eq_getElem (by omega)]; simp
          cases hv : w.cell? ((a.add (k * sz)).add 0) with
          | none => rw [hv] at h8; exact absurd h8.symm h9
          | some v =>
            have e0 : (a.add (k * sz)).add 0 = a.add (k * sz) := by simp [Addr.add]
            rw [e0] at hv
            have hs := addr_spot hv
            refine ⟨(a.add (k * sz)).block, (a.add (k * sz)).off, hs, fun r => ?_⟩
            by_cases hk0 : k * sz = 0
            · rw [hk0, Nat.zero_add]
              have e1 : a.add 0 = a := by simp [Addr.add]
              rw [hk0, e1] at hs
              rw [e1]
              rw [hs, addr_add]
            · have e2 : a.add (k * sz + r) = { a with off := a.off + (k * sz + r), spot := none } := by simp [Addr.add]; omega
              have e3 : a.add (k * sz) = { a with off := a.off + k * sz, spot := none } := by simp [Addr.add, hk0]
              rw [e2, e3]
              simp only [Nat.add_assoc]
        obtain ⟨b, o, e1, e2⟩ := hsp
        rw [e1, addr_add, show q = k * sz + (q - k * sz) by omega, e2]
        congr 1
        omega
    · rw [bulk_take L _ (by simpa using by omega)]
      simp only [List.getElem_map]
      omega

theorem bulk_mem (L : BulkLaws B BA) {d : DataW H} : ∀ {l : List (DataW H)}, d ∈ l → B d ≤ BA l
  | [], h => by cases h
  | y :: l, h => by
    rw [L.cons]
    rcases List.mem_cons.1 h with rfl | h
    · omega
    · have := bulk_mem L h
      omega

theorem TreesC.append : ∀ {a b : List PT} {x y : List Value}, TreesC w a x → TreesC w b y → TreesC w (a ++ b) (x ++ y)
  | [], b, x, y, h1, h2 => by simp only [TreesC] at h1; subst h1; exact h2
  | t :: a, b, x, y, ⟨c1, c2, e, h1, h3⟩, h2 => ⟨c1, c2 ++ y, by rw [e, List.append_assoc], h1, TreesC.append h3 h2⟩

/-- Cells that a slice shows. -/
theorem ro_of_cells {a : Addr} {len cap sz : Nat} {cs : List Value} (hsz : 0 < sz) (hl : cs.length = len * sz) (hc : len ≤ cap) (h : ∀ q, q < len * sz → w.cell? (a.add q) = cs[q]?) : Ro w (.slice (some a) len cap) sz len cs := by
  refine ⟨hl, ?_⟩
  by_cases h0 : len = 0
  · exact .inl ⟨h0, _, _, by rw [h0]⟩
  · have hpos : 0 < len * sz := Nat.mul_pos (by omega) hsz
    have e0 := h 0 hpos
    have ha0 : a.add 0 = a := by simp [Addr.add]
    rw [ha0, List.getElem?_eq_getElem (by omega)] at e0
    have hsp := addr_spot e0
    refine .inr ⟨a.block, a.off, cap, by rw [← hsp], cell_block e0, hc, fun i hi => ?_⟩
    have e1 := h i hi
    rwa [hsp, addr_add] at e1

theorem wf_u32 {n : Int} (h : (Lit.int .u32 n).wf = true) : ∃ m : Nat, n = m ∧ m < 4294967296 := by
  simp only [Lit.wf, Bool.and_eq_true, decide_eq_true_eq] at h
  have e1 : IntKind.u32.min = 0 := rfl
  have e2 : IntKind.u32.max = 4294967295 := rfl
  rw [e1, e2] at h
  exact ⟨n.toNat, by omega, by omega⟩

theorem wf_i64 {n : Int} (h : (Lit.int .i64 n).wf = true) : IntKind.i64.wrap n = n := by
  simp only [Lit.wf, Bool.and_eq_true, decide_eq_true_eq] at h
  have e1 : IntKind.i64.min = -9223372036854775808 := rfl
  have e2 : IntKind.i64.max = 9223372036854775807 := rfl
  rw [e1, e2] at h
  exact i64_small (by omega) (by omega)

/-- A tag of an argument. -/
theorem open_tag (S : SpFacts P c s) (T : RowTypes P c) (L : BulkLaws B BA) {fuel : Nat} {cs : List Value} {x : DataW H × List MemPlace} (h : DataW.trod enc P w 0 (fun _ => true) true fuel c.sTag cs = some x) :
    ∃ q : Nat × List UInt8, TagsC w [q] cs ∧ q.1 < 4294967296 ∧ 3 + q.2.length ≤ B x.1 := by
  have hc := T.cells
  simp only [List.cons.injEq] at hc
  obtain ⟨c1, c2, c3, c4, c5, c6, c7, c8, c9, _⟩ := hc
  obtain ⟨xs, n, rfl, hx1, hlen, hxl, hget⟩ := struct_parts T.tag h
  rw [c9] at hlen
  match xs, hxl with
  | [y0, y1], _ =>
  match cs, hlen with
  | [v0, v1], _ =>
  have h0 := hget 0 (c.tU32, 0) rfl
  have h1 := hget 1 (c.tBytes, 1) rfl
  rw [c6] at h0
  rw [c2] at h1
  obtain ⟨n0, e0, hy0, w0⟩ := DataW.trod_int S.rd.u32 (show _ = some y0 from h0)
  obtain ⟨v, l, e1, hro, hb⟩ := open_octets S T L (show _ = some y1 from h1)
  obtain ⟨m, rfl, hm⟩ := wf_u32 w0
  simp at e0 e1
  subst e0
  subst e1
  refine ⟨(m, l), ⟨v1, [], rfl, hro, rfl⟩, hm, ?_⟩
  rw [hx1, L.agg]
  simp only [List.map_cons, List.map_nil, L.cons, L.nil]
  have := L.pos y0.1
  omega

/-- A tree of an argument. -/
theorem open_tree (S : SpFacts P c s) (T : RowTypes P c) (L : BulkLaws B BA) : ∀ (fuel : Nat) {cs : List Value} {x : DataW H × List MemPlace}, DataW.trod enc P w 0 (fun _ => true) true fuel c.sTree cs = some x → B x.1 < 4294967296 →
    ∃ t : PT, TreeC w t cs ∧ t.ok ∧ t.wt ≤ B x.1 := by
  intro fuel
  induction fuel using Nat.strongRecOn with
  | ind fuel ih =>
  intro cs x h hB
  have hc := T.cells
  simp only [List.cons.injEq] at hc
  obtain ⟨c1, c2, c3, c4, c5, c6, c7, c8, c9, _⟩ := hc
  obtain ⟨xs, n, rfl, hx1, hlen, hxl, hget⟩ := struct_parts T.tree h
  rw [c8] at hlen
  match xs, hxl with
  | [y0, y1, y2, y3, y4], _ =>
  match cs, hlen with
  | [v0, v1, v2, v3, v4], _ =>
  have h0 := hget 0 (c.tI64, 0) rfl
  have h1 := hget 1 (c.tBytes, 1) rfl
  have h2 := hget 2 (c.tBool, 2) rfl
  have h3 := hget 3 (c.sTrees, 3) rfl
  have h4 := hget 4 (c.sTagL, 4) rfl
  rw [c1] at h0
  rw [c2] at h1
  rw [c3] at h2
  rw [c4] at h3
  rw [c5] at h4
  rw [hx1, L.agg] at hB ⊢
  simp only [List.map_cons, List.map_nil, L.cons, L.nil] at hB ⊢
  obtain ⟨n0, e0, hy0, w0⟩ := DataW.trod_int S.ty.i64 (show _ = some y0 from h0)
  obtain ⟨sv, l, e1, hro, hb1⟩ := open_octets S T L (show _ = some y1 from h1)
  obtain ⟨b, e2, hy2⟩ := DataW.trod_bool S.ty.bool (show _ = some y2 from h2)
  simp at e0 e1 e2
  subst e0
  subst e1
  subst e2
  have p0 := L.pos y0.1
  have p2 := L.pos y2.1
  -- the things
  obtain ⟨tl, lcs, hl1, hl2, hl3, hl4⟩ : ∃ (tl : List PT) (lcs : List Value), Ro w v3 5 tl.length lcs ∧ TreesC w tl lcs ∧ (∀ t ∈ tl, t.ok) ∧ PT.wts tl + 1 ≤ B y3.1 := by
    rcases DataW.trod_slice S.ty.sl (show _ = some y3 from h3) with ⟨e3, rfl⟩ | ⟨a, len, cap, elems, rest, m, hm, e3, rfl, _, hle, _, hel0, hel, _⟩
    · simp at e3
      subst e3
      exact ⟨[], [], Ro.nil w 5, rfl, (fun t ht => by cases ht), L.pos _⟩
    · simp at e3
      subst e3
      have hE := open_elems (e := c.sTree) (sz := 5) (len := len) c8 hel0 hel
      simp only at hB ⊢
      rw [L.slice] at hB ⊢
      obtain ⟨tl, lcs, k1, k2, k3, k4, k5⟩ := open_row' (w := w) (sz := 5) (X := PT) (C := fun ts cs => TreesC w ts cs ∧ ∀ t ∈ ts, t.ok) (W := PT.wts) L (by omega) (a := a) (elems := elems) ⟨rfl, fun t ht => by cases ht⟩ rfl (by
        intro ts cs i hi _ hC _ _ _
        obtain ⟨ys, g1, g2, g3⟩ := hE i hi
        have hbm : B elems[i].1 ≤ BA (elems.map (·.1)) := bulk_mem L (List.mem_map.2 ⟨_, List.getElem_mem hi, rfl⟩)
        obtain ⟨t, t1, t2, t3⟩ := ih m (by omega) g3 (by omega)
        refine ⟨t, ys, ⟨TreesC.append hC.1 ⟨ys, [], by simp, t1, rfl⟩, fun u hu => ?_⟩, g1, g2, ?_⟩
        · rcases List.mem_append.1 hu with hu | hu
          · exact hC.2 u hu
          · simp only [List.mem_singleton] at hu; subst hu; exact t2
        · rw [PT.wts_append]
          simp only [PT.wts]
          omega) elems.length (Nat.le_refl _)
      rw [List.take_of_length_le (by simp)] at k5
      refine ⟨tl, lcs, ?_, k2.1, k2.2, by omega⟩
      rw [k1, hel0]
      rw [hel0] at k3 k4
      exact ro_of_cells (by omega) k3 hle k4
  obtain ⟨ul, ucs, hu1, hu2, hu3, hu4, hu5⟩ : ∃ (ul : TM) (ucs : List Value), Ro w v4 2 ul.length ucs ∧ TagsC w ul ucs ∧ (∀ p ∈ ul, p.1 < 4294967296) ∧ tagsWt ul + 1 ≤ B y4.1 ∧ ul.length ≤ tagsWt ul := by
    rcases DataW.trod_slice S.ty.slTag (show _ = some y4 from h4) with ⟨e3, rfl⟩ | ⟨a, len, cap, elems, rest, m, hm, e3, rfl, _, hle, _, hel0, hel, _⟩
    · simp at e3
      subst e3
      exact ⟨[], [], Ro.nil w 2, rfl, (fun t ht => by cases ht), L.pos _, Nat.le_refl _⟩
    · simp at e3
      subst e3
      have hE := open_elems (e := c.sTag) (sz := 2) (len := len) c9 hel0 hel
      simp only at hB ⊢
      rw [L.slice] at hB ⊢
      obtain ⟨tl, lcs, k1, k2, k3, k4, k5⟩ := open_row' (w := w) (sz := 2) (X := Nat × List UInt8) (C := fun ts cs => TagsC w ts cs ∧ (∀ p ∈ ts, p.1 < 4294967296) ∧ ts.length ≤ tagsWt ts) (W := tagsWt) L (by omega) (a := a) (elems := elems) ⟨rfl, (fun t ht => by cases ht), Nat.le_refl _⟩ rfl (by
        intro ts cs i hi _ hC _ _ _
        obtain ⟨ys, g1, g2, g3⟩ := hE i hi
        obtain ⟨q, t1, t2, t3⟩ := open_tag S T L g3
        refine ⟨q, ys, ⟨TagsC.append hC.1 t1, fun u hu => ?_, ?_⟩, g1, g2, ?_⟩
        · rcases List.mem_append.1 hu with hu | hu
          · exact hC.2.1 u hu
          · simp only [List.mem_singleton] at hu; subst hu; exact t2
        · have := hC.2.2
          rw [tagsWt_append, List.length_append]
          simp only [tagsWt, List.length_singleton]
          omega
        · rw [tagsWt_append]
          simp only [tagsWt]
          omega) elems.length (Nat.le_refl _)
      rw [List.take_of_length_le (by simp)] at k5
      refine ⟨tl, lcs, ?_, k2.1, k2.2.1, by omega, k2.2.2⟩
      rw [k1, hel0]
      rw [hel0] at k3 k4
      exact ro_of_cells (by omega) k3 hle k4
  have hwl : tl.length ≤ PT.wts tl := by
    clear hl1 hl2 hl3 hl4
    induction tl with
    | nil => simp [PT.wts]
    | cons t r ihr =>
      have : 1 ≤ t.wt := by cases t; simp only [PT.wt]; omega
      simp only [PT.wts, List.length_cons]
      omega
  refine ⟨.mk n0 l b tl ul, ⟨v1, v3, v4, lcs, ucs, rfl, hro, hl1, hl2, hu1, hu2, by omega, by omega, by omega⟩, ⟨wf_i64 w0, hu3, PT.oks_of hl3⟩, ?_⟩
  simp only [PT.wt]
  omega
end
end Go.Kf
/- A law of an octet and a tree: its row. -/
namespace Go.Kf
open Go Go.ChangeShapes Go.WideShapes Go.RowKit

theorem below_keeps {w w' : World} (h : Keeps [] w w') : Below w.heap.size w w' := ⟨h.os, h.tape, h.output, h.size, fun k hk => h.block k hk (by simp)⟩

theorem law_rowT {H : Type} {enc : TypeId × Value → H} {P : Program} {c : Nums} {sn : SN} {fn : Func} {s : ChangeSpec} {tU tB : Nat} {B : DataW H → Nat} {BA : List (DataW H) → Nat} (S : SpFacts P c sn) (T : RowTypes P c) (L : BulkLaws B BA)
    (hp : fn.params = #[tU, c.sTree]) (hr : fn.resultTypes = #[tB]) (hu : P.underlying tU = some (.int .u8)) (hb : P.underlying tB = some .bool)
    (hs : ∀ (H : Type) (d1 d2 : DataW H), s.fn H [d1, d2] = { results := [.lit (.bool true)], args := [d1, d2] }) (hvs : s.vars = []) {W : World} {base : Nat} {args : Array Value} {ds gs : List (DataW H)} {before : List MemPlace}
    (hval : ∀ (j : Nat) t v, fn.params[j]? = some t → args[j]? = some v → Value.okWide P W .any base t v) (hW : DataW.Whole enc P fn.params.toList s.vars false W args.toList ds gs before) (hB : BA (ds ++ gs) ≤ 1048576) :
    ∃ (n : Nat) (t : PT) (ts : List Value), n < 256 ∧ args = #[.int .u8 n, .agg ⟨ts⟩] ∧ TreeC W t ts ∧ t.ok ∧ t.wt ≤ 1048576 ∧ ∀ W', Keeps [] W W' → s.post enc P fn false true false false W args (.bool true) W' := by
  have hlt := hW.lt
  have hW0 := hW
  obtain ⟨p, q, hA, hV, rfl, hfz, hnd⟩ := hW
  rw [hvs] at hV
  obtain ⟨rfl, rfl⟩ := trodVars_none hV
  rw [hp] at hA hval
  obtain ⟨v0, vs0, d0, ds0, p0, q0, hargs, rfl, rfl, h0, r0⟩ := trodAll_cons hA
  obtain ⟨v1, vs1, d1, ds1, p1, q1, rfl, rfl, rfl, h1, r1⟩ := trodAll_cons r0
  obtain ⟨rfl, rfl, rfl⟩ := trodAll_nil r1
  obtain rfl : args = #[v0, v1] := by cases args; simp_all
  obtain ⟨n0, rfl, rfl, rfl, hw0⟩ := open_int hu (hval 0 tU v0 rfl rfl) h0
  obtain ⟨n, rfl, hn⟩ := lit_u8 hw0
  obtain ⟨fs, hfs, _⟩ := struct_of T.tree
  obtain ⟨cs, rfl, _⟩ := okWide_struct hfs (hval 1 c.sTree v1 rfl rfl)
  simp only [List.append_nil, L.cons, L.nil] at hB
  obtain ⟨fuel, hf⟩ := id h1
  obtain ⟨ts⟩ := cs
  obtain ⟨t, ht, hok, hwt⟩ := open_tree S T L fuel (x := (d1, p1)) hf (by show B d1 < _; omega)
  have hwt : t.wt ≤ B d1 := hwt
  refine ⟨n, t, ts, hn, rfl, ht, hok, by omega, fun W' hk => ?_⟩
  refine ⟨_, _, _, [], [] ++ (p1 ++ []), [], hW0, ?_, ?_, ?_, ?_, fun h => by cases h⟩
  · rw [List.append_nil, hs, hr]
    exact trodAll_cons_mk (shut_bool hb _) trodAll_mk0
  · rw [List.append_nil, hs, hp]
    refine trodAll_cons_mk ⟨1, trod_int_mk 0 hu hw0⟩ (trodAll_cons_mk (Below.trod T.laid T.rr T.row h1 (below_keeps hk) fun x hx => hlt x (by simpa using hx)) trodAll_mk0)
  · rw [hvs, List.append_nil, hs]; rfl
  · exact World.keptBut_mono (fun p hp => ⟨hp, .inr (.inl (by simpa using hp))⟩) (keptBut_keeps hk _)

theorem open_data {H : Type} {enc : TypeId × Value → H} {P : Program} {c : Nums} {sn : SN} {w : World} (S : SpFacts P c sn) (T : RowTypes P c) {fuel : Nat} {a0 : Option Addr} {len0 cap0 : Nat} {x : DataW H × List MemPlace} (h : DataW.trod enc P w 0 (fun _ => true) true fuel c.tBytes [.slice a0 len0 cap0] = some x) :
    ∃ l : List UInt8, DataIn w (.slice a0 len0 cap0) l := by
  have hc := T.cells
  simp only [List.cons.injEq] at hc
  rcases open_ints S.rd.bytes S.rd.u8 hc.2.2.2.2.2.2.1 h with ⟨hcs, _⟩ | ⟨a, len, cap, zs, hcs, _, hle, _, hzl, _, hcell, hwf⟩
  · exact ⟨[], .inl ⟨by simpa using hcs, rfl⟩⟩
  · have hv : a0 = some a ∧ len0 = len ∧ cap0 = cap := by simpa using hcs
    obtain ⟨rfl, rfl, rfl⟩ := hv
    simp only [if_true] at hzl
    have hz8 : ∀ z ∈ zs, ∃ m : Nat, z = m ∧ m < 256 := fun z hz => lit_u8 (hwf z hz)
    refine ⟨(zs.take len0).map fun z => UInt8.ofNat z.toNat, .inr ⟨a, cap0, ?_, ?_⟩⟩
    · simp only [List.length_map, List.length_take]
      rw [Nat.min_eq_left (by omega)]
    · intro i hi
      simp only [List.length_map, List.length_take] at hi
      have hi' : i < zs.length := by omega
      rw [hcell i hi']
      obtain ⟨m, hm, hlt⟩ := hz8 zs[i] (List.getElem_mem _)
      simp only [List.getElem_map, List.getElem_take, List.getD_eq_getElem?_getD, List.getElem?_eq_getElem hi', Option.getD_some, hm, Int.toNat_natCast]
      congr 2
      have : (UInt8.ofNat m).toNat = m := by rw [UInt8.toNat_ofNat']; omega
      rw [this]

/-- A law of an octet, octets and a tree. -/
theorem law_rowB {H : Type} {enc : TypeId × Value → H} {P : Program} {c : Nums} {sn : SN} {fn : Func} {s : ChangeSpec} {tU tB : Nat} {B : DataW H → Nat} {BA : List (DataW H) → Nat} (S : SpFacts P c sn) (T : RowTypes P c) (L : BulkLaws B BA) (hrb : P.readableRec c.tBytes = true) (hrw : c.tBytes < P.types.size)
    (hp : fn.params = #[tU, c.tBytes, c.sTree]) (hr : fn.resultTypes = #[tB]) (hu : P.underlying tU = some (.int .u8)) (hb : P.underlying tB = some .bool)
    (hs : ∀ (H : Type) (d1 d2 d3 : DataW H), s.fn H [d1, d2, d3] = { results := [.lit (.bool true)], args := [d1, d2, d3] }) (hvs : s.vars = []) {W : World} {base : Nat} {args : Array Value} {ds gs : List (DataW H)} {before : List MemPlace}
    (hval : ∀ (j : Nat) t v, fn.params[j]? = some t → args[j]? = some v → Value.okWide P W .any base t v) (hW : DataW.Whole enc P fn.params.toList s.vars false W args.toList ds gs before) (hB : BA (ds ++ gs) ≤ 1048576) :
    ∃ (n : Nat) (dst : Value) (l : List UInt8) (t : PT) (ts : List Value), n < 256 ∧ args = #[.int .u8 n, dst, .agg ⟨ts⟩] ∧ DataIn W dst l ∧ TreeC W t ts ∧ t.ok ∧ t.wt ≤ 1048576 ∧ ∀ W', Keeps [] W W' → s.post enc P fn false true false false W args (.bool true) W' := by
  have hlt := hW.lt
  have hW0 := hW
  obtain ⟨p, q, hA, hV, rfl, hfz, hnd⟩ := hW
  rw [hvs] at hV
  obtain ⟨rfl, rfl⟩ := trodVars_none hV
  rw [hp] at hA hval
  obtain ⟨v0, vs0, d0, ds0, p0, q0, hargs, rfl, rfl, h0, r0⟩ := trodAll_cons hA
  obtain ⟨v1, vs1, d1, ds1, p1, q1, rfl, rfl, rfl, h1, r1⟩ := trodAll_cons r0
  obtain ⟨v2, vs2, d2, ds2, p2, q2, rfl, rfl, rfl, h2, r2⟩ := trodAll_cons r1
  obtain ⟨rfl, rfl, rfl⟩ := trodAll_nil r2
  obtain rfl : args = #[v0, v1, v2] := by cases args; simp_all
  obtain ⟨n0, rfl, rfl, rfl, hw0⟩ := open_int hu (hval 0 tU v0 rfl rfl) h0
  obtain ⟨n, rfl, hn⟩ := lit_u8 hw0
  obtain ⟨a0, len0, cap0, rfl⟩ := okWide_slice S.rd.bytes (hval 1 c.tBytes v1 rfl rfl)
  obtain ⟨fs, hfs, _⟩ := struct_of T.tree
  obtain ⟨cs, rfl, _⟩ := okWide_struct hfs (hval 2 c.sTree v2 rfl rfl)
  simp only [List.append_nil, L.cons, L.nil] at hB
  obtain ⟨fuel1, hf1⟩ := id h1
  obtain ⟨l, hl⟩ := open_data S T (x := (d1, p1)) hf1
  obtain ⟨fuel, hf⟩ := id h2
  obtain ⟨ts⟩ := cs
  obtain ⟨t, ht, hok, hwt⟩ := open_tree S T L fuel (x := (d2, p2)) hf (by show B d2 < _; omega)
  have hwt : t.wt ≤ B d2 := hwt
  refine ⟨n, _, l, t, ts, hn, rfl, hl, ht, hok, by omega, fun W' hk => ?_⟩
  refine ⟨_, _, _, [], [] ++ (p1 ++ (p2 ++ [])), [], hW0, ?_, ?_, ?_, ?_, fun h => by cases h⟩
  · rw [List.append_nil, hs, hr]
    exact trodAll_cons_mk (shut_bool hb _) trodAll_mk0
  · rw [List.append_nil, hs, hp]
    refine trodAll_cons_mk ⟨1, trod_int_mk 0 hu hw0⟩ (trodAll_cons_mk (Below.trod T.laid hrb hrw h1 (below_keeps hk) fun x hx => hlt x (by simp [hx])) (trodAll_cons_mk (Below.trod T.laid T.rr T.row h2 (below_keeps hk) fun x hx => hlt x (by simp [hx])) trodAll_mk0))
  · rw [hvs, List.append_nil, hs]; rfl
  · exact World.keptBut_mono (fun p hp => ⟨hp, .inr (.inl (by simpa using hp))⟩) (keptBut_keeps hk _)
end Go.Kf
/- What was written is read again: numbers, counts, texts. -/
namespace Go.Kf
open Go

theorem beFrom_eq : ∀ (l : List UInt8) (a : Nat), Lib.beFrom a l = a * 256 ^ l.length + Lib.beNat l
  | [], a => by simp [Lib.beNat, Lib.beFrom]
  | b :: l, a => by
    have e1 : Lib.beFrom a (b :: l) = Lib.beFrom (a * 256 + b.toNat) l := rfl
    have e2 : Lib.beNat (b :: l) = Lib.beFrom (0 * 256 + b.toNat) l := rfl
    rw [e1, e2, beFrom_eq l, beFrom_eq l (0 * 256 + b.toNat), List.length_cons, Nat.pow_succ]
    simp only [Nat.zero_mul, Nat.zero_add, Nat.add_mul, Nat.add_assoc]
    congr 1
    rw [Nat.mul_assoc, Nat.mul_comm 256]

theorem emod_split (n d : Int) (hd : 0 < d) : n % (d * 256) = (n / d % 256) * d + n % d := by
  have h1 := Int.emod_add_mul_ediv n d
  have h2 := Int.emod_add_mul_ediv (n / d) 256
  have h3 := Int.emod_nonneg n (show d ≠ 0 by omega)
  have h4 := Int.emod_lt_of_pos n hd
  have h5 := Int.emod_nonneg (n / d) (show (256 : Int) ≠ 0 by omega)
  have h6 := Int.emod_lt_of_pos (n / d) (show (0 : Int) < 256 by omega)
  have h7 : n = (n / d % 256) * d + n % d + d * 256 * (n / d / 256) := by
    calc n = n % d + d * (n / d) := h1.symm
      _ = n % d + d * (n / d % 256 + 256 * (n / d / 256)) := by rw [h2]
      _ = (n / d % 256) * d + n % d + d * 256 * (n / d / 256) := by rw [Int.mul_add, Int.mul_comm d (n / d % 256), ← Int.mul_assoc]; omega
  have h8 : (n / d % 256) * d ≤ 255 * d := Int.mul_le_mul_of_nonneg_right (by omega) (by omega)
  have h9 : 0 ≤ (n / d % 256) * d := Int.mul_nonneg h5 (by omega)
  conv => lhs; rw [h7]
  rw [Int.add_mul_emod_self_left, Int.emod_eq_of_lt (by omega) (by omega)]

theorem octOf_toNat (n : Int) (k : Nat) : ((octOf n k).toNat : Int) = n / 2 ^ (8 * k) % 256 := by
  unfold octOf
  have h5 := Int.emod_nonneg (n / 2 ^ (8 * k)) (show (256 : Int) ≠ 0 by omega)
  have h6 := Int.emod_lt_of_pos (n / 2 ^ (8 * k)) (show (0 : Int) < 256 by omega)
  rw [UInt8.toNat_ofNat']
  omega

theorem beNat_fixed (n : Int) : ∀ k : Nat, ((Lib.beNat (pFixed n k) : Nat) : Int) = n % 2 ^ (8 * k)
  | 0 => by simp [pFixed, Lib.beNat, Lib.beFrom, Int.emod_one]
  | k + 1 => by
    have hp : (0 : Int) < 2 ^ (8 * k) := Int.pow_pos (by omega)
    have e1 : (2 : Int) ^ (8 * (k + 1)) = 2 ^ (8 * k) * 256 := by rw [Nat.mul_add, Int.pow_add]; rfl
    have e2 : ((256 ^ k : Nat) : Int) = 2 ^ (8 * k) := by
      rw [Int.pow_mul]
      simp
    rw [pFixed, Lib.beNat, Lib.beFrom, beFrom_eq, pFixed_length, e1, emod_split n _ hp, ← octOf_toNat, ← beNat_fixed n k, ← e2]
    simp

theorem rFix_fixed (n : Int) (N : Nat) (rest : List UInt8) (nl : Bool) : rFix N ⟨pFixed n N ++ rest, false, nl⟩ = ((n % 2 ^ (8 * N)).toNat, ⟨rest, false, nl⟩) := by
  have hl := pFixed_length n N
  unfold rFix
  rw [if_neg (by simp only [List.length_append]; omega)]
  simp only [List.take_left' hl, List.drop_left' hl, ← beNat_fixed n N, Int.toNat_natCast]

theorem pUvN_pos (k n : Nat) : 1 ≤ (pUvN k n).length := by
  cases k with
  | zero => simp [pUvN]
  | succ k => rw [pUvN]; split <;> simp

theorem uvarAt_pUvN : ∀ (k i x n : Nat) (rest : List UInt8), i ≤ 4 → 4 ≤ k + i → n < 2 ^ (32 - 7 * i) → uvarAt i x (pUvN k n ++ rest) = (x + n * 2 ^ (7 * i), ((i + (pUvN k n).length : Nat) : Int)) := by
  intro k
  induction k with
  | zero =>
    intro i x n rest hi hk hn
    obtain rfl : i = 4 := by omega
    have hn : n < 16 := hn
    have e : (UInt8.ofNat n).toNat = n := by rw [UInt8.toNat_ofNat']; omega
    simp only [pUvN, List.singleton_append, uvarAt, if_true, e, if_pos (show n ≤ 15 by omega), List.length_singleton]
    rfl
  | succ k ih =>
    intro i x n rest hi hk hn
    by_cases h4 : i = 4
    · subst h4
      have hn : n < 16 := hn
      have e : (UInt8.ofNat n).toNat = n := by rw [UInt8.toNat_ofNat']; omega
      simp only [pUvN, if_neg (show ¬ 127 < n by omega), List.singleton_append, uvarAt, if_true, e, if_pos (show n ≤ 15 by omega), List.length_singleton]
      rfl
    · by_cases h : 127 < n
      · have e : (UInt8.ofNat (n % 128 + 128)).toNat = n % 128 + 128 := by rw [UInt8.toNat_ofNat']; omega
        have hp : (2 : Nat) ^ (32 - 7 * i) = 2 ^ (32 - 7 * (i + 1)) * 128 := by
          rw [show 32 - 7 * i = 32 - 7 * (i + 1) + 7 by omega, Nat.pow_add]
        have hp2 : (2 : Nat) ^ (7 * (i + 1)) = 128 * 2 ^ (7 * i) := by
          rw [show 7 * (i + 1) = 7 + 7 * i by omega, Nat.pow_add]
        have hdiv : n / 128 < 2 ^ (32 - 7 * (i + 1)) := by
          rw [hp] at hn
          exact Nat.div_lt_of_lt_mul (by rw [Nat.mul_comm]; exact hn)
        simp only [pUvN, if_pos h, List.cons_append, uvarAt, if_neg h4, e, if_neg (show ¬ n % 128 + 128 < 128 by omega)]
        have hm : (n % 128 + 128) % 128 = n % 128 := by omega
        rw [hm, ih (i + 1) _ _ rest (by omega) (by omega) hdiv, hp2, List.length_cons]
        have hs : n % 128 * 2 ^ (7 * i) + n / 128 * (128 * 2 ^ (7 * i)) = n * 2 ^ (7 * i) := by
          rw [← Nat.mul_assoc, ← Nat.add_mul]
          congr 1
          omega
        rw [Nat.add_assoc, hs]
        congr 2
        omega
      · have e : (UInt8.ofNat n).toNat = n := by rw [UInt8.toNat_ofNat']; omega
        simp only [pUvN, if_neg h, List.singleton_append, uvarAt, if_neg h4, e, if_pos (show n < 128 by omega), List.length_singleton]

theorem rUv_pUv (n : Nat) (h : n < 4294967296) (rest : List UInt8) (nl : Bool) : rUv ⟨pUv n ++ rest, false, nl⟩ = (n, ⟨rest, false, nl⟩) := by
  have h1 : uvar (pUv n ++ rest) = (n, (((pUv n).length : Nat) : Int)) := by
    unfold uvar pUv
    rw [uvarAt_pUvN 10 0 0 n rest (by omega) (by omega) h]
    simp
  have h2 : 1 ≤ (pUv n).length := pUvN_pos 10 n
  unfold rUv
  simp only [h1]
  rw [if_neg (by omega), Int.toNat_natCast, List.drop_left' rfl]

theorem rSpan_left (s rest : List UInt8) (nl : Bool) (m : Int) (hm : m = s.length) : rSpan m ⟨s ++ rest, false, nl⟩ = ((s, nl), ⟨rest, false, nl⟩) := by
  unfold rSpan
  subst hm
  rw [if_neg (by simp only [List.length_append]; omega), Int.toNat_natCast, List.take_left' rfl, List.drop_left' rfl]

theorem pWhole_length (l : List UInt8) : (pWhole l).length ≤ 32767 := by unfold pWhole; rw [List.length_take]; omega

theorem pUv_zero : pUv 0 = [0] := rfl

theorem wrap_i8_mod (n : Int) : IntKind.i8.wrap ((n % 2 ^ (8 * 1)).toNat : Int) = IntKind.i8.wrap n := by
  simp only [IntKind.wrap, IntKind.bits, IntKind.signed]; simp; omega
theorem wrap_i16_mod (n : Int) : IntKind.i16.wrap ((n % 2 ^ (8 * 2)).toNat : Int) = IntKind.i16.wrap n := by
  simp only [IntKind.wrap, IntKind.bits, IntKind.signed]; simp; omega
theorem wrap_i32_mod (n : Int) : IntKind.i32.wrap ((n % 2 ^ (8 * 4)).toNat : Int) = IntKind.i32.wrap n := by
  simp only [IntKind.wrap, IntKind.bits, IntKind.signed]; simp; omega
theorem wrap_i64_mod (n : Int) : IntKind.i64.wrap ((n % 2 ^ (8 * 8)).toNat : Int) = IntKind.i64.wrap n := by
  simp only [IntKind.wrap, IntKind.bits, IntKind.signed]; simp; omega
theorem wrap_u16_mod (n : Int) : IntKind.u16.wrap ((n % 2 ^ (8 * 2)).toNat : Int) = IntKind.u16.wrap n := by
  simp only [IntKind.wrap, IntKind.bits, IntKind.signed]; simp; omega
theorem wrap_i16_small (n : Nat) (h : n ≤ 32767) : IntKind.i16.wrap (n : Int) = n := by
  simp only [IntKind.wrap, IntKind.bits, IntKind.signed]; simp; omega
theorem wrap_i32_small (n : Nat) (h : n ≤ 32767) : IntKind.i32.wrap (n : Int) = n := by
  simp only [IntKind.wrap, IntKind.bits, IntKind.signed]; simp; omega

/-- Does a function of the reader read what is written of such a kind? -/
def pkFor (kind : Int) (may fl : Bool) : PK → Bool
  | .num N k => !may && ((decide (kind = 1) && decide (N = 1) && decide (k = .i8)) || (decide (kind = 2) && decide (N = 2) && decide (k = .i16)) || (decide (kind = 3) && decide (N = 4) && decide (k = .i32)) || (decide (kind = 4) && decide (N = 8) && decide (k = .i64)) || (decide (kind = 5) && decide (N = 2) && decide (k = .u16)))
  | .bool => !may && decide (kind = 0)
  | .str => decide (kind = 8) && !may && !fl
  | .cstr => decide (kind = 8) && !may && fl
  | .nstr => decide (kind = 8) && may && !fl
  | .cnstr => decide (kind = 8) && may && fl
  | .bytes => decide (kind = 9) && !may && !fl
  | .cbytes => decide (kind = 9) && !may && fl
  | .nbytes => decide (kind = 9) && may && !fl
  | .cnbytes => decide (kind = 9) && may && fl
  | .uuid => !may && decide (kind = 7)
  | .tags => false

/-- What is read then. -/
def valOf (null : Bool) (t : PT) : PK → FV
  | .num _ k => .one (.int k (k.wrap t.n))
  | .bool => .one (.bool (t.n % 2 != 0))
  | .str => .text (pWhole t.s)
  | .cstr => .text (pWhole t.s)
  | .nstr => .ntext (if null then none else some (pWhole t.s))
  | .cnstr => .ntext (if null then none else some (pWhole t.s))
  | .bytes => .octs false (pWhole t.s)
  | .cbytes => .octs false (pWhole t.s)
  | .nbytes => .octs null (if null then [] else pWhole t.s)
  | .cnbytes => .octs null (if null then [] else pWhole t.s)
  | .uuid => .uuid (pId t.s)
  | .tags => .tags []

theorem pId_length (s : List UInt8) : (pId s).length = 16 := by unfold pId; rw [List.length_take, List.length_append, List.length_replicate]; omega

theorem PK.reads {kind : Int} {may fl : Bool} {pk : PK} (h : pkFor kind may fl pk = true) (t : PT) {null : Bool} (hn : null = true → may = true) (pp : PT → List UInt8) (rest : List UInt8) :
    pk.run ⟨pValue pp kind null fl t ++ rest, false, false⟩ = (valOf null t pk, ⟨rest, false, false⟩) := by
  have hwl := pWhole_length t.s
  cases pk with
  | num N k =>
    simp only [pkFor, Bool.and_eq_true, Bool.or_eq_true, decide_eq_true_eq] at h
    rcases h.2 with (((⟨⟨rfl, rfl⟩, rfl⟩ | ⟨⟨rfl, rfl⟩, rfl⟩) | ⟨⟨rfl, rfl⟩, rfl⟩) | ⟨⟨rfl, rfl⟩, rfl⟩) | ⟨⟨rfl, rfl⟩, rfl⟩
    · have e : pValue pp 1 null fl t = pFixed t.n 1 := rfl
      simp only [PK.run, e, rFix_fixed, wrap_i8_mod, valOf]
    · have e : pValue pp 2 null fl t = pFixed t.n 2 := rfl
      simp only [PK.run, e, rFix_fixed, wrap_i16_mod, valOf]
    · have e : pValue pp 3 null fl t = pFixed t.n 4 := rfl
      simp only [PK.run, e, rFix_fixed, wrap_i32_mod, valOf]
    · have e : pValue pp 4 null fl t = pFixed t.n 8 := rfl
      simp only [PK.run, e, rFix_fixed, wrap_i64_mod, valOf]
    · have e : pValue pp 5 null fl t = pFixed t.n 2 := rfl
      simp only [PK.run, e, rFix_fixed, wrap_u16_mod, valOf]
  | bool =>
    simp only [pkFor, Bool.and_eq_true, decide_eq_true_eq] at h
    obtain ⟨_, rfl⟩ := h
    have e : pValue pp 0 null fl t = [UInt8.ofNat (t.n % 2).toNat] := rfl
    have e2 : (UInt8.ofNat (t.n % 2).toNat).toNat = (t.n % 2).toNat := by rw [UInt8.toNat_ofNat']; omega
    simp only [PK.run, rBool, e, rFix, List.singleton_append, List.length_cons, if_neg (show ¬ rest.length + 1 < 1 by omega), List.take_succ_cons, List.take_zero, Lib.beNat, Lib.beFrom, e2, List.drop_succ_cons, List.drop_zero, valOf]
    congr 3
    have : t.n % 2 = 0 ∨ t.n % 2 = 1 := by omega
    rcases this with h | h <;> simp [h]
  | str =>
    simp only [pkFor, Bool.and_eq_true, decide_eq_true_eq, Bool.not_eq_true'] at h
    obtain ⟨⟨rfl, rfl⟩, rfl⟩ := h
    have hnf : null = false := by cases null <;> simp_all
    subst hnf
    have e : pValue pp 8 false false t = pFixed (pWhole t.s).length 2 ++ pWhole t.s := rfl
    have e2 : rStr ⟨pFixed (pWhole t.s).length 2 ++ pWhole t.s ++ rest, false, false⟩ = (pWhole t.s, ⟨rest, false, false⟩) := by
      unfold rStr
      rw [List.append_assoc, rFix_fixed]
      simp only [wrap_i16_mod, wrap_i16_small _ hwl, rSpan_left _ _ _ _ rfl]
    simp only [PK.run, e, e2, valOf]
  | cstr =>
    simp only [pkFor, Bool.and_eq_true, decide_eq_true_eq, Bool.not_eq_true'] at h
    obtain ⟨⟨rfl, rfl⟩, rfl⟩ := h
    have hnf : null = false := by cases null <;> simp_all
    subst hnf
    have e : pValue pp 8 false true t = pUv ((pWhole t.s).length + 1) ++ pWhole t.s := rfl
    have e2 : rCStr ⟨pUv ((pWhole t.s).length + 1) ++ pWhole t.s ++ rest, false, false⟩ = (pWhole t.s, ⟨rest, false, false⟩) := by
      unfold rCStr
      rw [List.append_assoc, rUv_pUv _ (by omega)]
      simp only [rSpan_left (pWhole t.s) rest false _ (show (((pWhole t.s).length + 1 : Nat) : Int) - 1 = (pWhole t.s).length by omega)]
    simp only [PK.run, e, e2, valOf]
  | nstr =>
    simp only [pkFor, Bool.and_eq_true, decide_eq_true_eq, Bool.not_eq_true'] at h
    obtain ⟨⟨rfl, rfl⟩, rfl⟩ := h
    cases null with
    | false =>
      have e : pValue pp 8 false false t = pFixed (pWhole t.s).length 2 ++ pWhole t.s := rfl
      have e2 : rNStr ⟨pFixed (pWhole t.s).length 2 ++ pWhole t.s ++ rest, false, false⟩ = (some (pWhole t.s), ⟨rest, false, false⟩) := by
        unfold rNStr
        rw [List.append_assoc, rFix_fixed]
        simp only [wrap_i16_mod, wrap_i16_small _ hwl, rSpan_left _ _ _ _ rfl]
        rw [if_neg (by omega)]
      simp only [PK.run, e, e2, valOf, Bool.false_eq_true, if_false]
    | true =>
      have e : pValue pp 8 true false t = pFixed (-1) 2 := rfl
      have e2 : rNStr ⟨pFixed (-1) 2 ++ rest, false, false⟩ = (none, ⟨rest, false, false⟩) := by
        unfold rNStr
        rw [rFix_fixed]
        simp only [wrap_i16_mod]
        rw [if_pos (by decide)]
      simp only [PK.run, e, e2, valOf, if_true]
  | cnstr =>
    simp only [pkFor, Bool.and_eq_true, decide_eq_true_eq] at h
    obtain ⟨⟨rfl, rfl⟩, rfl⟩ := h
    cases null with
    | false =>
      have e : pValue pp 8 false true t = pUv ((pWhole t.s).length + 1) ++ pWhole t.s := rfl
      have e2 : rCNStr ⟨pUv ((pWhole t.s).length + 1) ++ pWhole t.s ++ rest, false, false⟩ = (some (pWhole t.s), ⟨rest, false, false⟩) := by
        unfold rCNStr
        rw [List.append_assoc, rUv_pUv _ (by omega)]
        simp only [rSpan_left (pWhole t.s) rest false _ (show (((pWhole t.s).length + 1 : Nat) : Int) - 1 = (pWhole t.s).length by omega)]
        rw [if_neg (by omega)]
      simp only [PK.run, e, e2, valOf, Bool.false_eq_true, if_false]
    | true =>
      have e : pValue pp 8 true true t = pUv 0 := rfl
      have e2 : rCNStr ⟨pUv 0 ++ rest, false, false⟩ = (none, ⟨rest, false, false⟩) := by
        unfold rCNStr
        rw [rUv_pUv _ (by omega)]
        simp only
        rw [if_pos (by decide)]
      simp only [PK.run, e, e2, valOf, if_true]
  | bytes =>
    simp only [pkFor, Bool.and_eq_true, decide_eq_true_eq, Bool.not_eq_true'] at h
    obtain ⟨⟨rfl, rfl⟩, rfl⟩ := h
    have hnf : null = false := by cases null <;> simp_all
    subst hnf
    have e : pValue pp 9 false false t = pFixed (pWhole t.s).length 4 ++ pWhole t.s := rfl
    have e2 : rBytes ⟨pFixed (pWhole t.s).length 4 ++ pWhole t.s ++ rest, false, false⟩ = ((pWhole t.s, false), ⟨rest, false, false⟩) := by
      unfold rBytes
      rw [List.append_assoc, rFix_fixed]
      simp only [wrap_i32_mod, wrap_i32_small _ hwl, rSpan_left _ _ _ _ rfl]
      rw [if_neg (by omega)]
    simp only [PK.run, e, e2, valOf]
  | cbytes =>
    simp only [pkFor, Bool.and_eq_true, decide_eq_true_eq, Bool.not_eq_true'] at h
    obtain ⟨⟨rfl, rfl⟩, rfl⟩ := h
    have hnf : null = false := by cases null <;> simp_all
    subst hnf
    have e : pValue pp 9 false true t = pUv ((pWhole t.s).length + 1) ++ pWhole t.s := rfl
    have e2 : rCBytes ⟨pUv ((pWhole t.s).length + 1) ++ pWhole t.s ++ rest, false, false⟩ = ((pWhole t.s, false), ⟨rest, false, false⟩) := by
      unfold rCBytes
      rw [List.append_assoc, rUv_pUv _ (by omega)]
      simp only [rSpan_left (pWhole t.s) rest false _ (show (((pWhole t.s).length + 1 : Nat) : Int) - 1 = (pWhole t.s).length by omega)]
      rw [if_neg (by omega)]
    simp only [PK.run, e, e2, valOf]
  | nbytes =>
    simp only [pkFor, Bool.and_eq_true, decide_eq_true_eq, Bool.not_eq_true'] at h
    obtain ⟨⟨rfl, rfl⟩, rfl⟩ := h
    cases null with
    | false =>
      have e : pValue pp 9 false false t = pFixed (pWhole t.s).length 4 ++ pWhole t.s := rfl
      have e2 : rNBytes ⟨pFixed (pWhole t.s).length 4 ++ pWhole t.s ++ rest, false, false⟩ = ((pWhole t.s, false), ⟨rest, false, false⟩) := by
        unfold rNBytes
        rw [List.append_assoc, rFix_fixed]
        simp only [wrap_i32_mod, wrap_i32_small _ hwl, rSpan_left _ _ _ _ rfl]
        rw [if_neg (by omega)]
      simp only [PK.run, e, e2, valOf, Bool.false_eq_true, if_false]
    | true =>
      have e : pValue pp 9 true false t = pFixed (-1) 4 := rfl
      have e2 : rNBytes ⟨pFixed (-1) 4 ++ rest, false, false⟩ = (([], true), ⟨rest, false, false⟩) := by
        unfold rNBytes
        rw [rFix_fixed]
        simp only [wrap_i32_mod]
        rw [if_pos (by decide)]
      simp only [PK.run, e, e2, valOf, if_true]
  | cnbytes =>
    simp only [pkFor, Bool.and_eq_true, decide_eq_true_eq] at h
    obtain ⟨⟨rfl, rfl⟩, rfl⟩ := h
    cases null with
    | false =>
      have e : pValue pp 9 false true t = pUv ((pWhole t.s).length + 1) ++ pWhole t.s := rfl
      have e2 : rCNBytes ⟨pUv ((pWhole t.s).length + 1) ++ pWhole t.s ++ rest, false, false⟩ = ((pWhole t.s, false), ⟨rest, false, false⟩) := by
        unfold rCNBytes
        rw [List.append_assoc, rUv_pUv _ (by omega)]
        simp only [rSpan_left (pWhole t.s) rest false _ (show (((pWhole t.s).length + 1 : Nat) : Int) - 1 = (pWhole t.s).length by omega)]
        rw [if_neg (by omega)]
      simp only [PK.run, e, e2, valOf, Bool.false_eq_true, if_false]
    | true =>
      have e : pValue pp 9 true true t = pUv 0 := rfl
      have e2 : rCNBytes ⟨pUv 0 ++ rest, false, false⟩ = (([], true), ⟨rest, false, false⟩) := by
        unfold rCNBytes
        rw [rUv_pUv _ (by omega)]
        simp only
        rw [if_pos (by decide)]
      simp only [PK.run, e, e2, valOf, if_true]
  | uuid =>
    simp only [pkFor, Bool.and_eq_true, decide_eq_true_eq] at h
    obtain ⟨_, rfl⟩ := h
    have hl := pId_length t.s
    have e : pValue pp 7 null fl t = pId t.s := rfl
    simp only [PK.run, e, rUuid, rSpan_left (pId t.s) rest false 16 (by rw [hl]; rfl), valOf, padTo, hl]
    simp [List.take_of_length_le (Nat.le_of_eq hl)]
  | tags => cases h

/-- It is told so. -/
theorem PK.tells {kind : Int} {may fl : Bool} {pk : PK} (h : pkFor kind may fl pk = true) {t : PT} (hok : IntKind.i64.wrap t.n = t.n) {null : Bool} (hn : null = true → may = true) (tt : PT → PT → Bool) :
    (tellPrim (valOf null t pk)).null = null ∧ (null = false → pToldV tt kind t (tellPrim (valOf null t pk)) = true) := by
  cases pk with
  | num N k =>
    simp only [pkFor, Bool.and_eq_true, Bool.or_eq_true, decide_eq_true_eq, Bool.not_eq_true'] at h
    have hnf : null = false := by cases null <;> simp_all
    subst hnf
    rcases h.2 with (((⟨⟨rfl, rfl⟩, rfl⟩ | ⟨⟨rfl, rfl⟩, rfl⟩) | ⟨⟨rfl, rfl⟩, rfl⟩) | ⟨⟨rfl, rfl⟩, rfl⟩) | ⟨⟨rfl, rfl⟩, rfl⟩ <;> refine ⟨rfl, fun _ => ?_⟩ <;> simp [valOf, tellPrim, pToldV, PT.n, pNumber]
    exact hok
  | bool =>
    simp only [pkFor, Bool.and_eq_true, decide_eq_true_eq, Bool.not_eq_true'] at h
    obtain ⟨rfl, rfl⟩ := h
    have hnf : null = false := by cases null <;> simp_all
    subst hnf
    refine ⟨rfl, fun _ => ?_⟩
    have : t.n % 2 = 0 ∨ t.n % 2 = 1 := by omega
    have e : pToldV tt 0 t (tellPrim (valOf false t .bool)) = decide ((if (t.n % 2 != 0) = true then (1 : Int) else 0) = t.n % 2) := rfl
    rw [e]
    rcases this with h | h <;> simp [h]
  | str =>
    simp only [pkFor, Bool.and_eq_true, decide_eq_true_eq, Bool.not_eq_true'] at h
    obtain ⟨⟨rfl, rfl⟩, rfl⟩ := h
    have hnf : null = false := by cases null <;> simp_all
    subst hnf
    exact ⟨rfl, fun _ => by simp [valOf, tellPrim, pToldV, PT.s]⟩
  | cstr =>
    simp only [pkFor, Bool.and_eq_true, decide_eq_true_eq, Bool.not_eq_true'] at h
    obtain ⟨⟨rfl, rfl⟩, rfl⟩ := h
    have hnf : null = false := by cases null <;> simp_all
    subst hnf
    exact ⟨rfl, fun _ => by simp [valOf, tellPrim, pToldV, PT.s]⟩
  | nstr =>
    simp only [pkFor, Bool.and_eq_true, decide_eq_true_eq, Bool.not_eq_true'] at h
    obtain ⟨⟨rfl, rfl⟩, rfl⟩ := h
    cases null
    · exact ⟨rfl, fun _ => by simp [valOf, tellPrim, pToldV, PT.s]⟩
    · exact ⟨rfl, fun h => by cases h⟩
  | cnstr =>
    simp only [pkFor, Bool.and_eq_true, decide_eq_true_eq] at h
    obtain ⟨⟨rfl, rfl⟩, rfl⟩ := h
    cases null
    · exact ⟨rfl, fun _ => by simp [valOf, tellPrim, pToldV, PT.s]⟩
    · exact ⟨rfl, fun h => by cases h⟩
  | bytes =>
    simp only [pkFor, Bool.and_eq_true, decide_eq_true_eq, Bool.not_eq_true'] at h
    obtain ⟨⟨rfl, rfl⟩, rfl⟩ := h
    have hnf : null = false := by cases null <;> simp_all
    subst hnf
    exact ⟨rfl, fun _ => by simp [valOf, tellPrim, pToldV, PT.s]⟩
  | cbytes =>
    simp only [pkFor, Bool.and_eq_true, decide_eq_true_eq, Bool.not_eq_true'] at h
    obtain ⟨⟨rfl, rfl⟩, rfl⟩ := h
    have hnf : null = false := by cases null <;> simp_all
    subst hnf
    exact ⟨rfl, fun _ => by simp [valOf, tellPrim, pToldV, PT.s]⟩
  | nbytes =>
    simp only [pkFor, Bool.and_eq_true, decide_eq_true_eq, Bool.not_eq_true'] at h
    obtain ⟨⟨rfl, rfl⟩, rfl⟩ := h
    refine ⟨rfl, fun h => ?_⟩
    subst h
    simp [valOf, tellPrim, pToldV, PT.s]
  | cnbytes =>
    simp only [pkFor, Bool.and_eq_true, decide_eq_true_eq] at h
    obtain ⟨⟨rfl, rfl⟩, rfl⟩ := h
    refine ⟨rfl, fun h => ?_⟩
    subst h
    simp [valOf, tellPrim, pToldV, PT.s]
  | uuid =>
    simp only [pkFor, Bool.and_eq_true, decide_eq_true_eq, Bool.not_eq_true'] at h
    obtain ⟨rfl, rfl⟩ := h
    have hnf : null = false := by cases null <;> simp_all
    subst hnf
    exact ⟨rfl, fun _ => by simp [valOf, tellPrim, pToldV, PT.s]⟩
  | tags => cases h

/-- Does a list's length so read be that which is written? -/
def lkFor (may fl : Bool) : LenK → Bool
  | .len => !may && !fl
  | .clen => !may && fl
  | .nlen => may && !fl
  | .nclen => may && fl

theorem LenK.reads {may fl : Bool} {lk : LenK} (h : lkFor may fl lk = true) {null : Bool} (hn : null = true → may = true) {n : Nat} (hnl : n ≤ 32767) (h0 : null = true → n = 0) {rest : List UInt8} (hr : n ≤ rest.length) :
    ∃ m : Int, lk.run ⟨pCounted fl null n 4 ++ rest, false, false⟩ = (m, ⟨rest, false, false⟩) ∧ m.toNat = n ∧ (may = true → lk.nilAt m = null) := by
  have k1 : ∀ m : Int, IntKind.i32.wrap ((m % 2 ^ (8 * 4)).toNat : Int) = IntKind.i32.wrap m := wrap_i32_mod
  have pos : null = false → fl = false → rLen ⟨pCounted fl null n 4 ++ rest, false, false⟩ = ((n : Int), ⟨rest, false, false⟩) := by
    rintro rfl rfl
    have e : pCounted false false n 4 = pFixed n 4 := rfl
    unfold rLen
    rw [e, rFix_fixed]
    simp only [k1, wrap_i32_small n hnl]
    rw [if_neg (by omega)]
  have neg : null = true → fl = false → rLen ⟨pCounted fl null n 4 ++ rest, false, false⟩ = (-1, ⟨rest, false, false⟩) := by
    rintro rfl rfl
    have e : pCounted false true n 4 = pFixed (-1) 4 := rfl
    have e2 : IntKind.i32.wrap (-1) = -1 := by decide
    unfold rLen
    rw [e, rFix_fixed]
    simp only [k1, e2]
    rw [if_neg (by omega)]
  have w2 : IntKind.i32.wrap (IntKind.i32.wrap ((n + 1 : Nat) : Int) - 1) = n := by
    simp only [IntKind.wrap, IntKind.bits, IntKind.signed]; simp; omega
  have cpos : null = false → fl = true → rCLen ⟨pCounted fl null n 4 ++ rest, false, false⟩ = ((n : Int), ⟨rest, false, false⟩) := by
    rintro rfl rfl
    have e : pCounted true false n 4 = pUv (n + 1) := rfl
    unfold rCLen
    rw [e, rUv_pUv _ (by omega)]
    simp only [w2]
    rw [if_neg (by omega)]
  have cneg : null = true → fl = true → rCLen ⟨pCounted fl null n 4 ++ rest, false, false⟩ = (-1, ⟨rest, false, false⟩) := by
    rintro rfl rfl
    have e : pCounted true true n 4 = pUv 0 := rfl
    have e2 : IntKind.i32.wrap (IntKind.i32.wrap ((0 : Nat) : Int) - 1) = -1 := by decide
    unfold rCLen
    rw [e, rUv_pUv _ (by omega)]
    simp only [e2]
    rw [if_neg (by omega)]
  cases lk with
  | len =>
    simp only [lkFor, Bool.and_eq_true, Bool.not_eq_true'] at h
    have hnf : null = false := by cases null <;> simp_all
    exact ⟨n, pos hnf h.2, by simp, fun hm => by rw [h.1] at hm; cases hm⟩
  | clen =>
    simp only [lkFor, Bool.and_eq_true, Bool.not_eq_true'] at h
    have hnf : null = false := by cases null <;> simp_all
    exact ⟨n, cpos hnf h.2, by simp, fun hm => by rw [h.1] at hm; cases hm⟩
  | nlen =>
    simp only [lkFor, Bool.and_eq_true, Bool.not_eq_true'] at h
    cases null with
    | false => exact ⟨n, pos rfl h.2, by simp, fun _ => by simp [LenK.nilAt, LenK.nul]⟩
    | true => exact ⟨-1, neg rfl h.2, by rw [h0 rfl]; rfl, fun _ => by simp [LenK.nilAt, LenK.nul]⟩
  | nclen =>
    simp only [lkFor, Bool.and_eq_true] at h
    cases null with
    | false => exact ⟨n, cpos rfl h.2, by simp, fun _ => by simp [LenK.nilAt, LenK.nul]⟩
    | true => exact ⟨-1, cneg rfl h.2, by rw [h0 rfl]; rfl, fun _ => by simp [LenK.nilAt, LenK.nul]⟩
end Go.Kf
/- What a message's values represent. -/
namespace Go.Kf
open Go

def wholeTags (u : TM) : TM := u.map fun q => (q.1, pWhole q.2)

/-- This is what a value of a kind is. -/
def RepV (kind : Int) (may null : Bool) (t : PT) : FV → Prop
  | .one (.int k x) => x = k.wrap t.n ∧ ((kind = 1 ∧ k = .i8) ∨ (kind = 2 ∧ k = .i16) ∨ (kind = 3 ∧ k = .i32) ∨ (kind = 4 ∧ k = .i64) ∨ (kind = 5 ∧ k = .u16))
  | .one (.bool b) => kind = 0 ∧ b = (t.n % 2 != 0)
  | .text l => kind = 8 ∧ null = false ∧ l = pWhole t.s
  | .ntext o => kind = 8 ∧ o = if null then none else some (pWhole t.s)
  | .octs nl l => kind = 9 ∧ (may = true → nl = null) ∧ l = if null then [] else pWhole t.s
  | .uuid l => kind = 7 ∧ l = pId t.s
  | _ => False

mutual
def RepF (v : Int) (fl : Bool) : PF → PT → FV → Prop
  | .mk k fr to nul g d e sub, t, x => match x with
    | .list nl rows => k = 11 ∧ ((decide (0 ≤ nul) && decide (nul ≤ v)) = true → nl = pNull (.mk k fr to nul g d e sub) v t) ∧ rows.length = (if pNull (.mk k fr to nul g d e sub) v t then [] else pThings t.l).length ∧
      ∀ (j : Nat) (y : PT) (r : List FV), (if pNull (.mk k fr to nul g d e sub) v t then [] else pThings t.l)[j]? = some y → rows[j]? = some r → (e = 10 → RepFs v fl sub y r 0 0 ∧ (fl = true → r[sub.length]? = some (.tags (wholeTags (pUnknown sub y.u))))) ∧ (e ≠ 10 → ∃ z, r = [z] ∧ RepV e false false y z)
    | .sub gs => k = 10 ∧ nul < 0 ∧ RepFs v fl sub t gs 0 0 ∧ (fl = true → gs[sub.length]? = some (.tags (wholeTags (pUnknown sub t.u))))
    | x => RepV k (decide (0 ≤ nul) && decide (nul ≤ v)) (pNull (.mk k fr to nul g d e sub) v t) t x
def RepFs (v : Int) (fl : Bool) : List PF → PT → List FV → Nat → Nat → Prop
  | [], _, _, _, _ => True
  | f :: r, t, gs, i, p => (pHas f v = true → ∃ x, gs[p]? = some x ∧ RepF v fl f (pAt t i) x) ∧ RepFs v fl r t gs (i + 1) (p + 1)
end

/-- A whole part's values. -/
def RepPart (v : Int) (fl : Bool) (fs : List PF) (t : PT) (gs : List FV) (p : Nat) : Prop := RepFs v fl fs t gs 0 p ∧ (fl = true → gs[p + fs.length]? = some (.tags (wholeTags (pUnknown fs t.u))))

theorem RepFs.congr {v : Int} {fl : Bool} {gs gs' : List FV} : ∀ {fs : List PF} {t : PT} {i p : Nat}, (∀ q, p ≤ q → q < p + fs.length → gs'[q]? = gs[q]?) → RepFs v fl fs t gs i p → RepFs v fl fs t gs' i p
  | [], _, _, _, _, _ => trivial
  | f :: r, t, i, p, h, h2 => by
    simp only [RepFs] at h2 ⊢
    refine ⟨fun hh => ?_, RepFs.congr (fun q h3 h4 => h q (by omega) (by simp only [List.length_cons]; omega)) h2.2⟩
    rw [h p (Nat.le_refl _) (by simp only [List.length_cons]; omega)]
    exact h2.1 hh

theorem PK.rep {kind : Int} {may fl : Bool} {pk : PK} (h : pkFor kind may fl pk = true) (t : PT) {null : Bool} (hn : null = true → may = true) : RepV kind may null t (valOf null t pk) := by
  cases pk with
  | num N k =>
    simp only [pkFor, Bool.and_eq_true, Bool.or_eq_true, decide_eq_true_eq] at h
    refine ⟨rfl, ?_⟩
    rcases h.2 with (((⟨⟨rfl, rfl⟩, rfl⟩ | ⟨⟨rfl, rfl⟩, rfl⟩) | ⟨⟨rfl, rfl⟩, rfl⟩) | ⟨⟨rfl, rfl⟩, rfl⟩) | ⟨⟨rfl, rfl⟩, rfl⟩ <;> simp
  | bool =>
    simp only [pkFor, Bool.and_eq_true, decide_eq_true_eq] at h
    exact ⟨h.2, rfl⟩
  | str =>
    simp only [pkFor, Bool.and_eq_true, decide_eq_true_eq, Bool.not_eq_true'] at h
    exact ⟨h.1.1, by cases null <;> simp_all, rfl⟩
  | cstr =>
    simp only [pkFor, Bool.and_eq_true, decide_eq_true_eq, Bool.not_eq_true'] at h
    exact ⟨h.1.1, by cases null <;> simp_all, rfl⟩
  | nstr =>
    simp only [pkFor, Bool.and_eq_true, decide_eq_true_eq, Bool.not_eq_true'] at h
    exact ⟨h.1.1, rfl⟩
  | cnstr =>
    simp only [pkFor, Bool.and_eq_true, decide_eq_true_eq] at h
    exact ⟨h.1.1, rfl⟩
  | bytes =>
    simp only [pkFor, Bool.and_eq_true, decide_eq_true_eq, Bool.not_eq_true'] at h
    have hnf : null = false := by cases null <;> simp_all
    subst hnf
    exact ⟨h.1.1, fun _ => rfl, rfl⟩
  | cbytes =>
    simp only [pkFor, Bool.and_eq_true, decide_eq_true_eq, Bool.not_eq_true'] at h
    have hnf : null = false := by cases null <;> simp_all
    subst hnf
    exact ⟨h.1.1, fun _ => rfl, rfl⟩
  | nbytes =>
    simp only [pkFor, Bool.and_eq_true, decide_eq_true_eq, Bool.not_eq_true'] at h
    exact ⟨h.1.1, fun _ => rfl, rfl⟩
  | cnbytes =>
    simp only [pkFor, Bool.and_eq_true, decide_eq_true_eq] at h
    exact ⟨h.1.1, fun _ => rfl, rfl⟩
  | uuid =>
    simp only [pkFor, Bool.and_eq_true, decide_eq_true_eq] at h
    exact ⟨h.2, rfl⟩
  | tags => cases h

theorem RepF.one {v : Int} {fl : Bool} {f : PF} {t : PT} {pk : PK} (h : RepV f.kind (decide (0 ≤ f.nul) && decide (f.nul ≤ v)) (pNull f v t) t (valOf (pNull f v t) t pk)) : RepF v fl f t (valOf (pNull f v t) t pk) := by
  cases f
  cases pk <;> exact h
end Go.Kf
