/- The library for this proof, part 3: trees of function bodies, and what the package's functions do. -/
import Derived.Test.YtlhbhamopejgcaaDoorKf2
import Derived.OpenShut
import Derived.ChangeSlices
import Derived.LaidSub
import Derived.Shelf.Bin.BEUint16
import Derived.Shelf.Bin.BEUint32
import Derived.Shelf.Bin.BEUint64
import Derived.MapKept
import Derived.Shelf.GgSortFunc.Whole
import Derived.Shelf.GgSortFunc.Tiny
import Derived.Sort.LotA
/- That a tell function's tree tells: a list as a whole. -/
namespace Go.Kf
open Go

section
variable {P : Program} {c : Nums} {R : Value → World → Prop} {w0 : World} {N : Nat} {D V lo S : Nat} {pre post : List Value} {fs : List FV}

theorem zero_raw {rcs a m z : List Value} {q : Nat} (e : rcs = a ++ m ++ z) (ha : a.length = q * 5) (hm : m.length = 5) (h : (rcs.drop (q * 5)).take 5 = zeroTree) : m = zeroTree := by
  rw [e, List.append_assoc, ← ha, List.drop_left' rfl, List.take_left' hm] at h
  exact h

theorem tell_list {i tySl q T sz off : Nat} {nl : Bool} {rows : List (List FV)} {el : TEl} {tl : List PT} {ls : List Nat} (F : RdFacts P c) (Z : TyFacts P c c.tTree c.tTrees c.tTagL c.tTag) (G : buildPlan P c.tTree = some (zeroTree, [(0, 1), (1, 1), (2, 1), (3, 1), (4, 1)])) (Rw : RowFacts P c.tTree 5)
    (hcoin : (P.info? c.tBool).map (fun i => (i.zero, i.size)) = some (some (.bool false), 1)) (h : TIn w0 D V lo pre post fs) (hls : fs.map FV.wd = ls) (hF : FieldOk P S ls i off) (hq : q < N) (hone : oneTy P tySl = true) (hsl : P.underlying tySl = some (.slice T)) (hsz : (P.info? T).map (·.size) = some sz)
    (hf : fs[i]? = some (.list nl rows)) (htl : tl.length = rows.length) (hbig : tl.length < 4294967296) (hVlt : V < w0.heap.size)
    (hel : ∀ (w : World) (B : Nat) (rcs : List Value), Keeps [] w0 w → Has w B rcs → RowsAt D w (B + 1) rows rcs → ∀ (j : Nat) (hj : j < tl.length), ElLaid P c el B (0 + j * sz) tl[j] w) : SemT P c R w0 N S V pre (.list i tySl q el) q (.mk 0 [] nl tl []) := by
  intro n k Γ ρ w ts u uv hn h0 _ h4 hT hRaw hk
  simp only [gTStep]
  refine s_TL Z h4 hT fun w1 hT1 k1 => ?_
  obtain ⟨vcs, mm, hh0, hm, hcs, _⟩ := h.get (off := off) (w := w0) .refl hf (by rw [hls]; exact hF.off)
  obtain ⟨sv, adr, cap, rfl, hsv, hadr, hrow⟩ : ∃ sv adr cap, mm = [sv] ∧ sv = .slice adr tl.length cap ∧ adr.isNone = nl ∧ (0 < tl.length → ∃ B rcs, adr = some ⟨B, 0, none⟩ ∧ Has w0 B rcs ∧ RowsAt D w0 (B + 1) rows rcs) := by
    rcases hm with ⟨rfl, e, rfl⟩ | ⟨rfl, B, cap, rcs, _, e, _, hB, hr⟩
    · exact ⟨_, none, 0, e, by rw [htl]; rfl, rfl, fun h => by rw [htl] at h; simp at h⟩
    · exact ⟨_, some ⟨B, 0, none⟩, cap, e, by rw [htl], rfl, fun _ => ⟨B, rcs, rfl, hB, hr⟩⟩
  have hvc : vcs[pre.length + off]? = some sv := by have := hcs 0 (by simp); simpa using this
  have hV1 := hh0.keep hT1.k (by simp)
  refine s_VX hF.field hone (by rw [ext_lt (by omega), ext_lt (by omega)]; exact h0) hV1 hvc ?_
  refine p_val (v_eqlSlice (op := .eql) (a := adr) (l := tl.length) (c := cap) (r := nl) hsl (by show ext _ (n + 2 + 2) _ (n + 4) = _; rw [ext_at]; exact hsv) rfl (.inl ⟨rfl, hadr.symm⟩)) ?_
  refine p_val (v_slot (w0 := w0) (N := N) Z (by show ext _ _ _ (n + 1) = _; rw [ext_lt (by omega), ext_lt (by omega), ext_lt (by omega), ext_lt (by omega)]; exact ext_at) hq) ?_
  obtain ⟨rcs, hr1, hrl, hrt⟩ := hT1.row
  have hlen := hT1.len
  obtain ⟨a, m0, z, e, ha, hta, hm0, htz⟩ := hrt.cut (List.getElem?_eq_getElem (show q < ts.length by omega))
  have hm0z := zero_raw e ha hm0.len ((hRaw.keep hT k1) rcs hr1 q (Nat.le_refl _) hq)
  subst hm0z
  have hl3 : q * 5 + 2 < rcs.length := by rw [hrl]; omega
  refine p_fs (n := n + 7) (v := .bool nl) Z.f2 F.oneBool (show ev _ (.tmp (n + 6)) = ptr (w0.heap.size + 1) (q * 5) from ext_at) rfl (by show ext _ _ _ (n + 5) = _; rw [ext_lt (by omega)]; exact ext_at) (by simp [opBelow]) rfl hr1 hl3 fun w2 hrow2 k2 => ?_
  have hset : rcs.set (q * 5 + 2) (.bool nl) = a ++ [.int .i64 0, .slice none 0 0, .bool nl, .slice none 0 0, .slice none 0 0] ++ z := by
    rw [e, List.append_assoc, List.set_append_right _ _ (by omega), ha, show q * 5 + 2 - q * 5 = 2 by omega, List.append_assoc]
    rfl
  rw [hset] at hrow2
  have hA : ∀ b ∈ [w0.heap.size + 1], ¬ w0.heap.size + 2 < b := fun b hb => by simp only [List.mem_singleton] at hb; omega
  have htop := hT1.top.lt
  have hs2 := k2.size
  have k02 : Keeps [] w0 w2 := ((hT1.k.mono (by simp)).trans k2).less fun x hx => .inr (by simp only [List.mem_singleton] at hx; omega)
  have hLS : LS w0 w2 w2.heap.size N q nl ts u uv tl 0 (.slice none 0 0) [] a z :=
    ⟨k02, Nat.le_refl _, by omega, hT1.res.keep k2 (by simp), hT1.top.keep k2 (by simp), hT1.uok.keep k2 hA (fun b h' hlt => ⟨h', by omega⟩), hrow2, ha, by rw [← hset, List.length_set]; exact hrl,
      TreesAt.keep k2 hA (fun b h' hlt => ⟨h', by omega⟩) _ _ hta, TreesAt.keep k2 hA (fun b h' hlt => ⟨h', by omega⟩) _ _ htz, Own.nil w2 5, (fun b hb => by cases hb), rfl⟩
  have hV2 := hh0.keep k02 (by simp)
  refine s_get (p := .tmp 0) (n := n + 9) hF.field hone (by show ext _ _ _ 0 = _; rw [ext_lt (by omega), ext_lt (by omega), ext_lt (by omega), ext_lt (by omega), ext_lt (by omega), ext_lt (by omega), ext_lt (by omega), ext_lt (by omega), ext_lt (by omega)]; exact h0) hV2 hvc ?_
  refine s_val (v_len (a := adr) (l := tl.length) (c := cap) hsl (by show ext _ (n + 9) _ (n + 9 + 2) = _; rw [ext_ge]; exact hsv)) ?_
  generalize hρA : (ext (ext _ (n + 9) _) (n + 9 + 3) [Value.int .i64 tl.length]) = ρA
  have hag : ∀ y, y < n → ρA y = ρ y := fun y hy => by
    subst hρA
    rw [ext_lt (by omega), ext_lt (by omega), ext_lt (by omega), ext_lt (by omega), ext_lt (by omega), ext_lt (by omega), ext_lt (by omega), ext_lt (by omega), ext_lt (by omega), ext_lt (by omega), ext_lt (by omega)]
  have fl : ρA (n + 12) = .int .i64 tl.length := by subst hρA; exact ext_at
  clear hρA
  refine s_count (n := n + 13) (q := n + 12) (kk := .i64) (m := tl.length) (ri := []) (fun j w' => ∃ lv xs, LS w0 w' w2.heap.size N q nl ts u uv tl j lv xs a z) (by omega) fl ⟨_, _, hLS⟩ ?_ ?_
  · rintro j hj w3 vr ⟨lv, xs, hls3⟩ hvr J hJ
    obtain rfl : vr = [] := List.eq_nil_of_length_eq_zero hvr
    have hj' : j < tl.length := by omega
    obtain ⟨B, brcs, rfl, hB, hBr⟩ := hrow (by omega)
    have g0 : ext ρA (n + 13) ([] ++ [.int .i64 j, .bool true]) 0 = ptr V pre.length := by rw [ext_lt (by omega), hag 0 (by omega)]; exact h0
    have g4 : ext ρA (n + 13) ([] ++ [.int .i64 j, .bool true]) 4 = ptr (w0.heap.size + 2) := by rw [ext_lt (by omega), hag 4 (by omega)]; exact h4
    have hnext : ∀ w' lv' xs', LS w0 w' w2.heap.size N q nl ts u uv tl (j + 1) lv' xs' a z → J [.int .i64 (j + 1 : Nat)] w' := fun w' lv' xs' hl => hJ [] w' rfl ⟨lv', xs', hl⟩
    have prep : ∀ bb, LS w0 (coinWorld c.tBool bb w3) w2.heap.size N q nl ts u uv tl j lv xs a z ∧ Has (coinWorld c.tBool bb w3) V vcs ∧ ElLaid P c el B (0 + j * sz) tl[j] (coinWorld c.tBool bb w3) := fun bb => by
      have hl := hls3.keep (keeps_coin c.tBool bb w3)
      exact ⟨hl, hh0.keep hl.k (by simp), hel _ B brcs hl.k (hB.keep hl.k (by simp)) (RowsAt.keep hl.k (B + 1) (fun b hb => by cases hb) _ _ hBr) j hj'⟩
    refine ⟨Z.bool, hcoin, ?_, ?_⟩
    · obtain ⟨p1, p2, p3⟩ := prep true
      exact sem_listA (m := n + 15) (jid := n + 13) (Γ := Γ ++ [J]) F Z G Rw hF.field hone hsl hsz (by omega) (by omega) g0 g4 ext_at hq p2 hvc hsv hj' hbig rfl p3 p1 (by simp) hnext
    · obtain ⟨p1, p2, p3⟩ := prep false
      exact sem_listB (m := n + 15) (jid := n + 13) (Γ := Γ ++ [J]) F Z G Rw hF.field hone hsl hsz (by omega) (by omega) g0 g4 ext_at hq p2 hVlt hvc hsv hj' hbig rfl p3 p1 (by simp) hnext
  · rintro w3 vr J ⟨lv, xs, hl⟩ hvr
    obtain rfl : vr = [] := List.eq_nil_of_length_eq_zero hvr
    rw [Int.toNat_natCast] at hl
    have htx := hl.tx
    rw [List.take_length] at htx
    have hs00 := hl.s00
    have hnilO : ∀ (A : Nat → Prop), OctIn w3 A [] (.slice none 0 0) := fun A => ⟨Ro.nil _ 1, (fun h => absurd rfl h), by decide⟩
    have hnilT : ∀ (A : Nat → Prop), TagsIn w3 A [] (.slice none 0 0) := fun A => ⟨[], ⟨rfl, .inl ⟨rfl, rfl⟩⟩, ⟨(fun b hb => by cases hb), by decide⟩, rfl⟩
    have htree : TreeAt w3 (fun b => w0.heap.size + 2 < b) (.mk 0 [] nl tl []) [.int .i64 0, .slice none 0 0, .bool nl, lv, .slice none 0 0] :=
      ⟨_, _, _, xs, rfl, hnilO _, hl.own.reads, ⟨fun b hb => by have := hl.blk b hb; omega, hbig⟩, htx.mono fun b h' _ => by have := h'.1; omega, hnilT _⟩
    have hrows : TreesAt w3 (fun b => w0.heap.size + 2 < b) (ts.set q (.mk 0 [] nl tl [])) (a ++ [.int .i64 0, .slice none 0 0, .bool nl, lv, .slice none 0 0] ++ z) := by
      rw [set_eq (show q < ts.length by omega), List.append_assoc]
      exact TreesAt.append (hl.ta.mono fun b h' _ => h'.1) ⟨_, z, rfl, htree, hl.tz.mono fun b h' _ => h'.1⟩
    have hTS : TS w0 w3 N (ts.set q (.mk 0 [] nl tl [])) u uv := ⟨hl.k, hl.res, ⟨_, hl.row, hl.rl, hrows⟩, by simp [hlen], hl.top, hl.uok.keep (M := []) .refl (fun b hb => by cases hb) (fun b h' _ => h'.1)⟩
    have hRaw3 : Raw w0 w3 N (q + 1) := by
      intro rcs' hr' i hi hN
      rw [hr'.inj hl.row]
      have hold := (hRaw.keep hT k1) rcs hr1 i (by omega) hN
      rw [← hold, e]
      apply List.ext_getElem?
      intro p
      simp only [List.getElem?_take]
      split
      · rw [List.getElem?_drop, List.getElem?_drop, List.getElem?_append_right (by simp; omega), List.getElem?_append_right (by simp [zeroTree]; omega)]
        simp [zeroTree]
      · rfl
    have hgoal := hk (n + 15) (Γ ++ [J]) (ext ρA (n + 13) ([] ++ [.int .i64 ((tl.length : Int).toNat : Int), .bool false])) w3 (by omega) ⟨[J], rfl⟩ (fun y hy => by rw [ext_lt (by omega)]; exact hag y hy) hTS hRaw3
    rw [show (Γ ++ [J]).length = Γ.length + 1 by simp] at hgoal
    exact hgoal
end
end Go.Kf
/- A tell function as a whole, of a struct without tags. -/
namespace Go.Kf
open Go

section
variable {P : Program} {c : Nums} {R : Value → World → Prop} {w0 : World} {N : Nat} {D V lo S : Nat} {pre post : List Value} {fs : List FV}

/-- Each step tells its thing. -/
def StepsT (P : Program) (c : Nums) (R : Value → World → Prop) (w0 : World) (N S V : Nat) (pre : List Value) : List TStep → List PT → Nat → Prop
  | [], [], _ => True
  | s :: ss, t :: tl, q => SemT P c R w0 N S V pre s q t ∧ StepsT P c R w0 N S V pre ss tl (q + 1)
  | _, _, _ => False

theorem sem_tsteps : ∀ (ss : List TStep) (tl : List PT) (q n : Nat) (k : Nat → Nat → Tr) (Γ : List (List Value → World → Prop)) (ρ : Nat → Value) (w : World) (ts : List PT) (u : TM) (uv : Value), StepsT P c R w0 N S V pre ss tl q → q + tl.length ≤ ts.length → 6 ≤ n → ρ 0 = ptr V pre.length → ρ 1 = ptr w0.heap.size → ρ 4 = ptr (w0.heap.size + 2) → TS w0 w N ts u uv → Raw w0 w N q →
    (∀ n' Γ' ρ' w', n ≤ n' → (∀ x, x < n → ρ' x = ρ x) → TS w0 w' N (ts.take q ++ tl ++ ts.drop (q + tl.length)) u uv → (k n' Γ'.length).sem P R Γ' n' ρ' w') → (gTSteps c S ss n Γ.length k).sem P R Γ n ρ w
  | [], [], q, n, k, Γ, ρ, w, ts, u, uv, _, _, _, _, _, _, hT, _, hk => by
    refine hk n Γ ρ w (Nat.le_refl _) (fun _ _ => rfl) ?_
    have : ts.take q ++ [] ++ ts.drop (q + ([] : List PT).length) = ts := by simp
    rw [this]
    exact hT
  | [], _ :: _, _, _, _, _, _, _, _, _, _, h, _, _, _, _, _, _, _, _ => h.elim
  | _ :: _, [], _, _, _, _, _, _, _, _, _, h, _, _, _, _, _, _, _, _ => h.elim
  | s :: ss, t :: tl, q, n, k, Γ, ρ, w, ts, u, uv, ⟨h1, h2⟩, hl, hn, h0, hr, h4, hT, hRaw, hk => by
    simp only [gTSteps]
    simp only [List.length_cons] at hl
    refine h1 n _ Γ ρ w ts u uv hn h0 hr h4 hT hRaw fun n1 Γ1 ρ1 w1 hle _ hag hT1 hRaw1 => ?_
    refine sem_tsteps ss tl (q + 1) n1 k Γ1 ρ1 w1 (ts.set q t) u uv h2 (by simp; omega) (by omega) (by rw [hag 0 (by omega)]; exact h0) (by rw [hag 1 (by omega)]; exact hr) (by rw [hag 4 (by omega)]; exact h4) hT1 hRaw1 fun n2 Γ2 ρ2 w2 hle2 hag2 hT2 => ?_
    refine hk n2 Γ2 ρ2 w2 (by omega) (fun y hy => (hag2 y (by omega)).trans (hag y hy)) ?_
    have e : (ts.set q t).take (q + 1) ++ tl ++ (ts.set q t).drop (q + 1 + tl.length) = ts.take q ++ (t :: tl) ++ ts.drop (q + (t :: tl).length) := by
      have e1 : (ts.set q t).take (q + 1) = ts.take q ++ [t] := by
        rw [List.take_succ_eq_append_getElem (by simp; omega), List.take_set_of_le (Nat.le_refl q)]
        simp
      have e2 : (ts.set q t).drop (q + 1 + tl.length) = ts.drop (q + 1 + tl.length) := List.drop_set_of_lt (by omega)
      rw [e1, e2, List.length_cons, show q + (tl.length + 1) = q + 1 + tl.length by omega]
      simp
    rw [e] at hT2
    exact hT2

theorem zeroTree_flat (n : Nat) : ((List.replicate n zeroTree).flatten).length = n * 5 := by
  induction n with
  | zero => rfl
  | succ n ih => rw [List.replicate_succ, List.flatten_cons, List.length_append, ih]; simp [zeroTree]; omega

theorem zeroTree_drop (n i : Nat) (h : i < n) : ((((List.replicate n zeroTree).flatten).drop (i * 5)).take 5) = zeroTree := by
  induction i generalizing n with
  | zero =>
    obtain ⟨m, rfl⟩ : ∃ m, n = m + 1 := ⟨n - 1, by omega⟩
    rw [List.replicate_succ, List.flatten_cons, Nat.zero_mul, List.drop_zero, List.take_left' (show zeroTree.length = 5 from rfl)]
  | succ i ih =>
    obtain ⟨m, rfl⟩ : ∃ m, n = m + 1 := ⟨n - 1, by omega⟩
    rw [List.replicate_succ, List.flatten_cons, show (i + 1) * 5 = 5 + i * 5 by omega, ← List.drop_drop, List.drop_left' (show zeroTree.length = 5 from rfl)]
    exact ih m (by omega)

structure TellFacts (P : Program) (c : Nums) : Prop where
  plan : buildPlan P c.tTree = some (zeroTree, [(0, 1), (1, 1), (2, 1), (3, 1), (4, 1)])
  zero : zeroTy P c.tTree = some (.agg ⟨zeroTree⟩, 5)
  row : RowFacts P c.tTree 5
  coin : (P.info? c.tBool).map (fun i => (i.zero, i.size)) = some (some (.bool false), 1)

/-- A struct's telling. -/
theorem tell_gives {f : Nat} {ss : List TStep} {tl : List PT} (F : RdFacts P c) (Z : TyFacts P c c.tTree c.tTrees c.tTagL c.tTag) (K : TellFacts P c) (hT : treeIn P f noOrc [.tmp 0] 1 = gTell c S N ss) (hN : tl.length = N) (hsm : N ≤ 1024)
    (hs : ∀ R, StepsT P c R w0 N S V pre ss tl 0) : Gives P f [ptr V pre.length] w0 fun v w' => (∃ cs, v = .agg ⟨cs⟩ ∧ TreeAt w' (fun b => w0.heap.size ≤ b) (.mk 0 [] false tl []) cs) ∧ Keeps [] w0 w' := by
  refine gives_in (ρ := en [ptr V pre.length]) F.mix hT (Nat.le_refl _) rfl (by simp [opBelow]) ?_
  unfold gTell
  refine s_alloc K.zero fun w1 hr1 k1 z1 => ?_
  obtain ⟨inf, z, hi, hz, hsz, hzc, hby⟩ := K.row.info
  have hzz : z = .agg ⟨zeroTree⟩ := by
    have := K.zero
    simp only [zeroTy, hi, hz, Option.some.injEq, Prod.mk.injEq] at this
    exact this.1
  obtain ⟨w2, e2, hr2, k2, z2⟩ := a_makeSlice (P := P) (ρ := ext (en [ptr V pre.length]) 1 [ptr w0.heap.size]) (w := w1) (t := c.tTrees) (x := .const (.int .i64 N)) (y := .const (.int .i64 N)) (k1 := .i64) (k2 := .i64) (l := N) (c := N) Z.sl hi hz (by rw [hzc, hsz]) (by omega) rfl rfl (by omega) (Int.le_refl _) (by
    have : inf.bytes * N ≤ 1024 * 1024 := Nat.mul_le_mul hby hsm
    have h2 : ((inf.bytes * N : Nat) : Int) = (inf.bytes : Int) * N := Int.natCast_mul _ _
    omega) (by omega)
  rw [Int.toNat_natCast] at e2 hr2
  rw [hzz] at hr2
  refine s_act e2 (fun p hp => (by cases hp)) ?_
  refine s_val (v_build (cells := [.int .i64 0, .slice none 0 0, .bool false, .slice (some ⟨w1.heap.size, 0, none⟩) N N, .slice none 0 0]) K.plan (fun p hp => by simp only [List.mem_singleton] at hp; subst hp; rfl) rfl) ?_
  refine s_alloc K.zero fun w3 hr3 k3 z3 => ?_
  refine s_storeAll (b := w2.heap.size) (old := zeroTree) (cs := [.int .i64 0, .slice none 0 0, .bool false, .slice (some ⟨w1.heap.size, 0, none⟩) N N, .slice none 0 0]) Z.agg rfl rfl hr3 rfl (fun u hu => by
    simp only [List.mem_cons, List.not_mem_nil, or_false] at hu
    rcases hu with rfl | rfl | rfl | rfl | rfl <;> rfl) fun w4 hr4 k4 => ?_
  have k24 : Keeps [] w2 w4 := ((k3.mono (by simp)).trans k4).less fun x hx => .inr (by simp only [List.mem_singleton] at hx; omega)
  have k04 : Keeps [] w0 w4 := (k1.trans k2).trans k24
  rw [z1] at hr2 hr4
  rw [z2, z1] at hr4
  have hrow4 : Has w4 (w0.heap.size + 1) (List.replicate N zeroTree).flatten := hr2.keep k24 (by simp)
  have hTS : TS w0 w4 N (List.replicate N .zero) [] (.slice none 0 0) :=
    ⟨k04, (hr1.keep k2 (by simp)).keep k24 (by simp), ⟨_, hrow4, zeroTree_flat N, zeroTrees_at _ _ N⟩, by simp, hr4, [], ⟨rfl, .inl ⟨rfl, rfl⟩⟩, ⟨(fun b hb => by cases hb), by decide⟩, rfl⟩
  have hRaw : Raw w0 w4 N 0 := by
    intro rcs hr i _ hN'
    rw [hr.inj hrow4]
    exact zeroTree_drop N i hN'
  refine sem_tsteps (Γ := []) ss tl 0 6 _ _ w4 (List.replicate N .zero) [] (.slice none 0 0) (hs _) (by simp; omega) (Nat.le_refl _) rfl rfl (by show ptr w2.heap.size = _; rw [z2, z1]) hTS hRaw fun n' Γ' ρ' w5 hle hag hT5 => ?_
  have hfin : (List.replicate N PT.zero).take 0 ++ tl ++ (List.replicate N PT.zero).drop (0 + tl.length) = tl := by simp [hN]
  rw [hfin] at hT5
  refine s_lok (l_loadN (b := w0.heap.size + 2) (o := 0) Z.agg (by show ρ' 4 = _; rw [hag 4 (by omega)]; show ptr w2.heap.size = _; rw [z2, z1]; rfl) hT5.top (show 0 + 5 ≤ 5 by omega)) ?_
  obtain ⟨rcs, hrr, hrl, hrt⟩ := hT5.row
  refine s_storeAll (b := w0.heap.size) (old := zeroTree) (cs := [.int .i64 0, .slice none 0 0, .bool false, .slice (some ⟨w0.heap.size + 1, 0, none⟩) N N, .slice none 0 0]) Z.agg (by show ext _ _ _ 1 = _; rw [ext_lt (by omega), hag 1 (by omega)]; rfl) (by show (ext _ n' _ n').cells = _; rw [ext_at]; rfl) hT5.res rfl (fun u hu => by
    simp only [List.mem_cons, List.not_mem_nil, or_false] at hu
    rcases hu with rfl | rfl | rfl | rfl | rfl <;> rfl) fun w6 hr6 k6 => ?_
  have k06 : Keeps [] w0 w6 := ((hT5.k.mono (by simp)).trans k6).less fun x hx => .inr (by simp only [List.mem_singleton] at hx; omega)
  refine s_retAgg (b := w0.heap.size) (by show ext _ _ _ 1 = _; rw [ext_lt (by omega), ext_lt (by omega), hag 1 (by omega)]; rfl) hr6 Z.agg ⟨⟨_, rfl, ?_⟩, k06⟩
  have hnil : ∀ sz, Reads w6 (.slice none 0 0) sz 0 [] := fun sz => ⟨by simp, .inl ⟨rfl, rfl⟩⟩
  refine ⟨_, _, _, rcs, rfl, ⟨Ro.nil _ 1, (fun h => absurd rfl h), by decide⟩, ?_, ⟨?_, by omega⟩, TreesAt.keep k6 (fun b hb h' => by simp only [List.mem_singleton] at hb; omega) (fun b h' _ => by omega) _ _ hrt, [], hnil 2, ⟨(fun b hb => by cases hb), by decide⟩, rfl⟩
  · refine ⟨by rw [hrl, hN], .inr ⟨w0.heap.size + 1, 0, N, rcs, by rw [hN], by omega, hrr.keep k6 (by simp), by rw [hrl, hN]; omega, ?_⟩⟩
    rw [List.drop_zero, List.take_of_length_le (by rw [hrl, hN]; exact Nat.le_refl _)]
  · intro b hb
    simp only [blkOf, List.mem_singleton] at hb
    omega
end
end Go.Kf
/- A message made, its version set, read, told. -/
namespace Go.Kf
open Go

section
variable {P : Program} {c : Nums} {w : World}

/-- kmsg.NewPtr..: the struct's type, how it is set to its defaults. -/
def tNew (S fDef : Nat) : Tr := .op (.alloc S) none [] <| .op (callOp fDef [.tmp 0]) none [] <| .ret [(.tmp 0, none)]

def NewOk (P : Program) (f : Nat) (mid : List Value) : Prop := ∀ w : World, Gives P f [] w fun v w' => v = ptr w.heap.size ∧ Has w' w.heap.size mid ∧ Keeps [] w w'

theorem new_gives {f S fDef s : Nat} {z : Value} {dflt : List FV} {mid : List Value} (hmix : P.follows .mixedOrders = true) (hz : zeroTy P S = some (z, s)) (hD : DefOk P fDef S dflt) (hmid : immL dflt = some mid) (hT : treeIn P f noOrc [] 0 = tNew S fDef) : NewOk P f mid := by
  intro w
  refine gives_in (ρ := en []) hmix hT (Nat.le_refl _) rfl (by simp) ?_
  obtain ⟨z', dc, hz', hdc, hdef⟩ := hD
  obtain rfl : z' = z := by
    unfold zeroTy at hz
    cases hi : P.info? S with
    | none => rw [hi] at hz'; cases hz'
    | some inf =>
      rw [hi] at hz'
      simp only [Option.map_some, Option.some.injEq] at hz'
      rw [hi] at hz
      simp only [hz', Option.some.injEq, Prod.mk.injEq] at hz
      exact hz.1
  refine s_alloc hz fun w1 h1 k1 z1 => ?_
  have h2 := hdef w1 w.heap.size [] [] (by simpa using h1)
  refine s_callx h2 rfl fun v w2 ⟨h3, k2⟩ => ?_
  have : dc = mid := immL_eq hmid (hdc 0 w 0)
  subst this
  exact s_ret1 ⟨rfl, by simpa using h3, ((k1.mono (by simp)).trans k2).less fun x hx => .inr (by simp only [List.mem_singleton] at hx; subst hx; exact Nat.le_refl _)⟩

/-- SetVersion -/
def tSetVersion (c : Nums) (S : Nat) : Tr := gSet (.tmp 0) S 0 c.tI16 (.tmp 1) 2 <| .ret []

theorem setVersion_gives {f S : Nat} (F : RdFacts P c) (hone : oneTy P c.tI16 = true) (hS : fieldOff P S 0 = some 0) (hT : treeIn P f noOrc [.tmp 0, .tmp 1] 2 = tSetVersion c S) {V : Nat} {x : Value} {mid : List Value} (hV : Has w V (x :: mid)) (v : Int) :
    Gives P f [ptr V, .int .i16 v] w fun _ w' => Has w' V (.int .i16 v :: mid) ∧ Keeps [V] w w' := by
  refine gives_in (ρ := en [ptr V, .int .i16 v]) F.mix hT (Nat.le_refl _) rfl (by simp [opBelow]) ?_
  refine s_set hS hone rfl rfl (by simp [opBelow]) rfl hV (by simp) fun w' h' k' => s_ret0 ⟨h', k'⟩

/-- ReadFrom, UnsafeReadFrom -/
def tWrap (f : Nat) (b : Bool) : Tr := .op (callOp f [.tmp 0, .tmp 1, .const (.bool b)]) none [] <| .ret [(.tmp 2, none)]

theorem wrap_gives {f g : Nat} {b : Bool} {v1 v2 : Value} {Post : Value → World → Prop} (hmix : P.follows .mixedOrders = true) (hT : treeIn P f noOrc [.tmp 0, .tmp 1] 2 = tWrap g b) (h : Gives P g [v1, v2, .bool b] w Post) : Gives P f [v1, v2] w Post := by
  refine gives_in (ρ := en [v1, v2]) hmix hT (Nat.le_refl _) rfl (by simp [opBelow]) ?_
  exact s_callx h rfl fun v w' hp => s_ret1 hp

/-- A constant. -/
def tConst (v : Value) : Tr := .ret [(.const v, none)]

def tMax (c : Nums) (fNew fMax : Nat) : Tr := .op (callOp fNew []) none [] <| .op (callOp fMax [.tmp 0]) none [] <| .op (.convert c.tI16 c.tInt (.tmp 1)) none [] <| .ret [(.tmp 2, none)]

theorem max_gives {f fNew fMax : Nat} {mid : List Value} {m : Int} (F : RdFacts P c) (hN : NewOk P fNew mid) (hM : treeIn P fMax noOrc [.tmp 0] 1 = tConst (.int .i16 m)) (hT : treeIn P f noOrc [] 0 = tMax c fNew fMax) (hm : IntKind.i64.wrap m = m) :
    Gives P f [] w fun v w' => v = .int .i64 m ∧ Keeps [] w w' := by
  refine gives_in (ρ := en []) F.mix hT (Nat.le_refl _) rfl (by simp) ?_
  refine s_callx (hN w) rfl fun v w1 ⟨hv, _, k1⟩ => ?_
  have h2 : Gives P fMax [v] w1 fun u w' => u = .int .i16 m ∧ w' = w1 := gives_in (ρ := en [v]) F.mix hM (Nat.le_refl _) rfl (by simp [opBelow]) (s_ret1 ⟨rfl, rfl⟩)
  refine s_callx h2 rfl fun u w2 ⟨hu, hw⟩ => ?_
  subst hw
  refine s_val (v_conv (k1 := .i16) (a := m) F.i16 F.int hu) ?_
  rw [hm]
  exact s_ret1 ⟨rfl, k1⟩

/-- n % (most + 1) -/
def tVersion (c : Nums) : Tr := .op (.convert c.tU8 c.tInt (.tmp 0)) none [] <| .op (.binOp .add c.tInt (.tmp 1) (.const (.int .i64 1)) c.tInt) none [] <| .op (.binOp .rem c.tInt (.tmp 2) (.tmp 3) c.tInt) none [] <| .ret [(.tmp 4, none)]

theorem v_rem {ρ : Nat → Value} {t u : Nat} {x y : Operand} {a b : Nat} (hx : ev ρ x = .int .i64 a) (hy : ev ρ y = .int .i64 b) (hb : 0 < b) : Val P ρ (.binOp .rem t x y u) (.int .i64 (a % b : Nat)) := fun w => by
  unfold runOp bareOp
  simp only [execOp, hx, hy]
  have hb0 : ¬ b = 0 := by omega
  have h2 : Int.tmod (a : Int) b = ((a % b : Nat) : Int) := rfl
  simp [eqGuard, binOp, Op.intDiv, hb0, h2]

theorem version_gives {f : Nat} (F : RdFacts P c) (hT : treeIn P f noOrc [.tmp 0, .tmp 1] 2 = tVersion c) {n m : Nat} (hn : n < 256) (hm : m < 32768) : Gives P f [.int .u8 n, .int .i64 m] w fun v w' => v = .int .i64 (n % (m + 1) : Nat) ∧ w' = w := by
  refine gives_in (ρ := en [.int .u8 n, .int .i64 m]) F.mix hT (Nat.le_refl _) rfl (by simp [opBelow]) ?_
  refine s_val (v_conv (k1 := .u8) (a := n) F.u8 F.int rfl) ?_
  rw [i64_small (by omega) (by omega)]
  refine s_val (v_arith (kk := .i64) (a := m) (b := 1) (r := ((m + 1 : Nat) : Int)) rfl rfl ?_) ?_
  · simp only [arithOf, Option.some.injEq]; rw [IntKind.wrap_i64]; omega
  refine s_val (v_rem (a := n) (b := m + 1) rfl rfl (by omega)) ?_
  exact s_ret1 ⟨rfl, rfl⟩
end
end Go.Kf
/- The doors that tell: a message made, read from a copy of octets, told. -/
namespace Go.Kf
open Go

section
variable {P : Program} {c : Nums} {w : World}

/-- Octets that are given: they can be read. -/
def DataIn (w : World) (v : Value) (l : List UInt8) : Prop := (v = .slice none 0 0 ∧ l = []) ∨ ∃ a cap, v = .slice (some a) l.length cap ∧ ∀ i (hi : i < l.length), w.cell? (a.add i) = some (.int .u8 l[i].toNat)

theorem DataIn.form {v : Value} {l : List UInt8} (h : DataIn w v l) : ∃ a cp, v = .slice a l.length cp := by
  rcases h with ⟨rfl, rfl⟩ | ⟨a, cap, rfl, _⟩
  · exact ⟨_, _, rfl⟩
  · exact ⟨_, _, rfl⟩

theorem DataIn.keep {w' : World} {v : Value} {l : List UInt8} (h : DataIn w v l) (hk : Keeps [] w w') : DataIn w' v l := by
  rcases h with h | ⟨a, cap, e, hc⟩
  · exact .inl h
  · refine .inr ⟨a, cap, e, fun i hi => ?_⟩
    have h1 := hc i hi
    unfold World.cell? at h1 ⊢
    cases hb : w.heap[(a.add i).block]? with
    | none => rw [hb] at h1; cases h1
    | some o => rw [hk.block _ (Array.getElem?_eq_some_iff.1 hb).1 (by simp)]; exact h1

theorem DataIn.src {v : Value} {l : List UInt8} {tx e : Nat} (h : DataIn w v l) (ht : P.underlying tx = some (.slice e)) : Src P 1 tx v l.length (bcells l) w := by
  rcases h with ⟨rfl, rfl⟩ | ⟨a, cap, rfl, hc⟩
  · exact Src.ofNil w ht 0
  · refine Src.ofSlice w ht a l.length cap _ (by simp [bcells_length]) (fun j u hu => ?_) (bcells_one l)
    simp only [bcells, List.getElem?_map] at hu
    cases hj : l[j]? with
    | none => rw [hj] at hu; cases hu
    | some x =>
      rw [hj] at hu
      simp only [Option.map_some, Option.some.injEq] at hu
      obtain ⟨hlt, hx⟩ := List.getElem?_eq_some_iff.1 hj
      rw [hc j hlt, hx, hu]

def tDoor (c : Nums) (fNew fSet fRead fTell : Nat) : Tr :=
  .op (.alloc c.tTree) none [] <| .op (callOp fNew []) none [] <| .op (.convert c.tInt c.tI16 (.tmp 0)) none [] <| .op (callOp fSet [.tmp 3, .tmp 4]) none [] <|
  .op (.call { callee := .builtin .append, args := ⟨[nilV, .tmp 1]⟩, argTypes := ⟨[c.tBytes, c.tBytes]⟩ }) none [] <| .op (callOp fRead [.tmp 3, .tmp 6]) none [] <| .op (.binOp .neq c.tErr (.tmp 7) (.const .nilIface) c.tErr) none [] <|
  .cond (.tmp 8) (.op (.build c.tTree ⟨[]⟩) none [] <| .op (.store c.tTree (.tmp 2) (.tmp 9)) none [] <| .ret [(.tmp 2, some c.tTree), (.const (.bool false), none)]) <|
  .op (callOp fTell [.tmp 3]) none [] <| .op (.store c.tTree (.tmp 2) (.tmp 9)) none [] <| .ret [(.tmp 2, some c.tTree), (.const (.bool true), none)]

/-- A tree and whether it was told. -/
theorem s_retTold {R : Value → World → Prop} {Γ : List (List Value → World → Prop)} {n b t : Nat} {ρ : Nat → Value} {x : Operand} {cs : List Value} {ok : Bool} (hx : ev ρ x = ptr b) (hh : Has w b cs) (ht : aggTy P t = some cs.length) (h : R (.tuple #[.agg ⟨cs⟩, .bool ok]) w) :
    (Tr.ret [(x, some t), (.const (.bool ok), none)]).sem P R Γ n ρ w := by
  refine ⟨[.agg ⟨cs⟩, .bool ok], ?_, h⟩
  have h1 := aggTy_spec (w := w) ht
  have h2 := loadCells_run (P := P) (n := cs.length) (o := 0) hh (by omega)
  simp only [List.drop_zero, List.take_length] at h2
  have h3 : ev ρ (.const (.bool ok)) = .bool ok := rfl
  simp only [evRet, List.map_cons, List.map_nil, hx, h3, ptr, retVals, asAddr, Sem.run_bind, Sem.run_pure, Result.andThen_ok, loadVar, h1.1, if_true, size_run h1.2, h2]

/-- What a message is told as, of octets: its steps' pure twin. -/
def toldOf (ss : List Step) (fs1 : List FV) (g : List FV → PT) (l : List UInt8) : Option PT := match runSteps ss fs1 ⟨l, false, l.isEmpty⟩ with
  | some (fs, r) => if r.bad then none else some (g fs)
  | none => none

structure OctFacts (P : Program) (c : Nums) : Prop where
  info : ∃ inf z, P.info? c.tU8 = some inf ∧ inf.zero = some z ∧ inf.size = 1 ∧ z.cells.size = 1 ∧ inf.bytes ≤ 8

/-- A copy of octets. -/
theorem copy_octets {ρ : Nat → Value} {x : Operand} {v : Value} {l : List UInt8} (F : RdFacts P c) (O : OctFacts P c) (hx : ev ρ x = v) (hr : DataIn w v l) (hl : l.length ≤ 1073741824) :
    ∃ v' w', runOp P ρ (.call { callee := .builtin .append, args := ⟨[nilV, x]⟩, argTypes := ⟨[c.tBytes, c.tBytes]⟩ }) w = .ok (.value v') w' ∧ Own w' v' 1 l.length (bcells l) ∧ Keeps [] w w' ∧ (∀ b ∈ blkOf v', w.heap.size ≤ b) ∧ nilOf v' = l.isEmpty := by
  obtain ⟨inf, z, hi, hz, hsz, hzc, hb⟩ := O.info
  by_cases hnil : l = []
  · subst hnil
    have hs := hr.src (P := P) F.bytes
    refine ⟨.slice none 0 0, w, ?_, ⟨rfl, .inl ⟨rfl, rfl⟩⟩, .refl, (fun b hb => by cases hb), rfl⟩
    unfold runOp bareOp
    have e2 : ev ρ nilV = .slice none 0 0 := rfl
    have e1 : (Array.map (ev ρ) ⟨[nilV, x]⟩ : Array Value) = ⟨[.slice none 0 0, v]⟩ := by simp [hx, e2]
    simp only [execOp, resolve, pure_bind, invoke, builtin, Sem.run_bind, e1]
    have hcells : (Builtin.firstCells inf.size 0 v).run P w = .ok (bcells []).toArray w := by
      rw [hsz]
      exact hs.cells
    have h' : (Builtin.append_ ⟨[c.tBytes, c.tBytes]⟩ 0 ⟨[.slice none 0 0, v]⟩).run P w = .ok (.slice none 0 0) w := by
      simp [Builtin.append_, run_underlying F.bytes, sizeOf, typeInfo, hi, hs.len, hcells]
    rw [h']
    rfl
  obtain ⟨v', w', h1, h2, h3, h4⟩ := a_append (P := P) (ρ := ρ) (w := w) (t := c.tBytes) (tx := c.tBytes) (x := nilV) (y := x) F.bytes hi hz hsz hzc rfl hx (Own.nil w 1) (hr.src F.bytes) (by
    have : (0 + l.length) * inf.bytes ≤ 1073741824 * 8 := Nat.mul_le_mul (by omega) hb
    omega) (by omega)
  rw [Nat.zero_add, List.nil_append] at h2
  refine ⟨v', w', h1, h2, h3, fun b hb => ?_, ?_⟩
  · rcases h4 b hb with h | h
    · cases h
    · exact h
  · rcases h2.2 with ⟨_, h0⟩ | ⟨b, cap, spare, rfl, _⟩
    · exact absurd (List.eq_nil_of_length_eq_zero h0) hnil
    · cases l with
      | nil => exact absurd rfl hnil
      | cons _ _ => rfl


/-- What the door yields. -/
def DoorPost (w w' : World) (v : Value) : Option PT → Prop
  | some t => ∃ cs, v = .tuple #[.agg ⟨cs⟩, .bool true] ∧ TreeAt w' (fun b => w.heap.size ≤ b) t cs
  | none => v = .tuple #[.agg ⟨zeroTree⟩, .bool false]

theorem door_gives {f fNew fSet fRead fTell : Nat} {mid : List Value} {x0 e0 : Value} {ver : Int} {out : List UInt8 → Option PT} {data : Value} {l : List UInt8} (F : RdFacts P c) (O : OctFacts P c) (K : TellFacts P c) (Z : TyFacts P c c.tTree c.tTrees c.tTagL c.tTag) (hT : treeIn P f noOrc [.tmp 0, .tmp 1] 2 = tDoor c fNew fSet fRead fTell)
    (herr : ∃ ms, P.underlying c.tErr = some (.interface ms)) (he0 : ∃ d y, e0 = .iface d y) (hver : IntKind.i16.wrap ver = ver) (hN : NewOk P fNew (x0 :: mid)) (hSet : ∀ (w : World) (V : Nat), Has w V (x0 :: mid) → Gives P fSet [ptr V, .int .i16 ver] w fun _ w' => Has w' V (.int .i16 ver :: mid) ∧ Keeps [V] w w')
    (hRT : ∀ (w : World) (V D : Nat) (src : Value), w.heap.size ≤ w.heap.size → Has w V (.int .i16 ver :: mid) → Reads w src 1 l.length (bcells l) → nilOf src = l.isEmpty → (∀ b ∈ blkOf src, b = D) → D < w.heap.size → V ≠ D → ErrAt w c.gErr e0 → c.gErr ≠ V → Gives P fRead [ptr V, src] w fun u w' => Keeps [V] w w' ∧
      match out l with
      | some t => u = .nilIface ∧ Gives P fTell [ptr V] w' fun v w2 => (∃ cs, v = .agg ⟨cs⟩ ∧ TreeAt w2 (fun b => w'.heap.size ≤ b) t cs) ∧ Keeps [] w' w2
      | none => u = e0)
    (hl : l.length ≤ 1073741824) (hr : DataIn w data l) (he : ErrAt w c.gErr e0) : Gives P f [.int .i64 ver, data] w fun v w' => DoorPost w w' v (out l) ∧ Keeps [] w w' := by
  refine gives_in (ρ := en [.int .i64 ver, data]) F.mix hT (Nat.le_refl _) rfl (by simp [opBelow]) ?_
  refine s_alloc K.zero fun w1 h1 k1 z1 => ?_
  refine s_callx (hN w1) rfl fun v w2 ⟨hv, h2, k2⟩ => ?_
  subst hv
  refine s_val (v_conv (k1 := .i64) (a := ver) F.int F.i16 rfl) ?_
  rw [hver]
  refine s_callx (hSet w2 w1.heap.size h2) rfl fun u3 w3 ⟨h3, k3⟩ => ?_
  have s2 := k2.size
  have s3 := k3.size
  have k13 : Keeps [] w1 w3 := ((k2.mono (by simp)).trans k3).less fun x hx => .inr (by simp only [List.mem_singleton] at hx; omega)
  have k03 := k1.trans k13
  have hr3 := hr.keep k03
  obtain ⟨src, w4, e4, ho4, k4, hb4, hnil⟩ := copy_octets (ρ := ext (ext (ext (ext (en [.int .i64 ver, data]) 2 [ptr w.heap.size]) 3 [ptr w1.heap.size]) 4 [.int .i16 ver]) 5 [u3]) (x := .tmp 1) (v := data) F O rfl hr3 hl
  refine s_act e4 (fun p hp => (by cases hp)) ?_
  have h4 := h3.keep k4 (by simp)
  have k04 := k03.trans k4
  have he4 := he.keep k04 (by simp)
  have s4 := k4.size
  have hgl := he.2
  have hV4 := h4.lt
  -- the block of the octets
  obtain ⟨D, hD1, hD2, hD3⟩ : ∃ D, (∀ b ∈ blkOf src, b = D) ∧ D < w4.heap.size ∧ w1.heap.size ≠ D := by
    rcases ho4.2 with ⟨rfl, _⟩ | ⟨b, cap, spare, rfl, hh, _⟩
    · exact ⟨c.gErr, (fun b hb => by cases hb), by omega, by omega⟩
    · exact ⟨b, (fun x hx => by simpa [blkOf] using hx), hh.lt, by have := hb4 b (by simp [blkOf]); have := h3.lt; omega⟩
  refine s_callx (hRT w4 w1.heap.size D src (Nat.le_refl _) h4 ho4.reads hnil hD1 hD2 hD3 he4 (by omega)) rfl fun u w5 ⟨k5, hout⟩ => ?_
  have h15 : Has w5 w.heap.size zeroTree := ((h1.keep k13 (by simp)).keep k4 (by simp)).keep k5 (by simp; omega)
  have k05 : Keeps [] w w5 := ((k04.mono (by simp)).trans k5).less fun x hx => .inr (by simp only [List.mem_singleton] at hx; omega)
  obtain ⟨ms, hms⟩ := herr
  cases ho : out l with
  | none =>
    rw [ho] at hout
    subst hout
    obtain ⟨d, y, rfl⟩ := he0
    refine s_val (v_neqNil (v := .iface d y) (r := true) hms rfl (.inr ⟨d, y, rfl, rfl⟩)) ?_
    refine s_cond (b := true) rfl (fun _ => ?_) (fun h => by cases h)
    refine s_val (v_build (cells := zeroTree) K.plan (fun p hp => by cases hp) rfl) ?_
    refine s_storeAll (b := w.heap.size) (old := zeroTree) (cs := zeroTree) Z.agg rfl rfl h15 rfl (zeroTree_at w (fun _ => True)).ones fun w6 h6 k6 => ?_
    refine s_retTold (b := w.heap.size) rfl h6 Z.agg ⟨rfl, ?_⟩
    exact ((k05.mono (by simp)).trans k6).less fun x hx => .inr (by simp only [List.mem_singleton] at hx; omega)
  | some t =>
    rw [ho] at hout
    obtain ⟨rfl, hTell⟩ := hout
    refine s_val (v_neqNil (v := .nilIface) (r := false) hms rfl (.inl ⟨rfl, rfl⟩)) ?_
    refine s_cond (b := false) rfl (fun h => by cases h) fun _ => ?_
    refine s_callx hTell rfl fun v w6 ⟨⟨cs, hv, ht⟩, k6⟩ => ?_
    subst hv
    have hcl := ht.len
    have s5 := k5.size
    refine s_storeAll (b := w.heap.size) (old := zeroTree) (cs := cs) (by rw [hcl]; exact Z.agg) rfl rfl (h15.keep k6 (by simp)) (by rw [hcl]; rfl) ht.ones fun w7 h7 k7 => ?_
    refine s_retTold (b := w.heap.size) rfl h7 (by rw [hcl]; exact Z.agg) ⟨⟨cs, rfl, ?_⟩, ?_⟩
    · exact TreeAt.keep k7 (fun b hb h' => by simp only [List.mem_singleton] at hb; omega) (fun b h' _ => by omega) _ _ ht
    · exact (((k05.trans k6).mono (by simp)).trans k7).less fun x hx => .inr (by simp only [List.mem_singleton] at hx; omega)
end
end Go.Kf
/- The laws that both ways of reading tell the same. -/
namespace Go.Kf
open Go

section
variable {P : Program} {c : Nums} {w : World}

def tUnsafeLaw (c : Nums) (fMax fVer fTell fUns fGot fSame : Nat) : Tr :=
  .op (.call { callee := .builtin .len, args := ⟨[.tmp 1]⟩, argTypes := ⟨[c.tBytes]⟩ }) none [] <| .op (.binOp .gtr c.tInt (.tmp 2) (.const (.int .i64 2147483647)) c.tInt) none [] <|
  .cond (.tmp 3) (.ret [(.const (.bool true), none)]) <| .op (callOp fMax []) none [] <| .op (.binOp .lss c.tInt (.tmp 4) (.const (.int .i64 0)) c.tInt) none [] <|
  .cond (.tmp 5) (.ret [(.const (.bool false), none)]) <| .op (.call { callee := .builtin .len, args := ⟨[.tmp 1]⟩, argTypes := ⟨[c.tBytes]⟩ }) none [] <| .op (.binOp .gtr c.tInt (.tmp 6) (.const (.int .i64 1000)) c.tInt) none [] <|
  .cond (.tmp 7) (.ret [(.const (.bool true), none)]) <| .op (callOp fVer [.tmp 0, .tmp 4]) none [] <| .op (callOp fTell [.tmp 8, .tmp 1]) none [] <| .op (.extract (.tmp 9) 0) none [] <| .op (.extract (.tmp 9) 1) none [] <|
  .op (.alloc c.tTree) none [] <| .op (.store c.tTree (.tmp 12) (.tmp 10)) none [] <| .op (callOp fVer [.tmp 0, .tmp 4]) none [] <| .op (callOp fUns [.tmp 14, .tmp 1]) none [] <| .op (.extract (.tmp 15) 0) none [] <| .op (.extract (.tmp 15) 1) none [] <|
  .op (.alloc c.tTree) none [] <| .op (.store c.tTree (.tmp 18) (.tmp 16)) none [] <| .draw <| .pur (.binOp .eql c.tBool (.tmp 11) (.tmp 17) c.tBool) none <|
  .cond (.tmp 20) (.pur (.unOp .not c.tBool (.tmp 11)) none <| .cond (.tmp 21) (.ret [(.const (.bool true), none)]) <| .lok (.load c.tTree (.tmp 12)) none <| .lok (.load c.tTree (.tmp 18)) none <|
    .op (callOp fGot [.tmp 22]) none [(.load c.tTree (.tmp 18), 23)] <| .op (callOp fGot [.tmp 23]) none [] <| .op (callOp fSame [.tmp 24, .tmp 25]) none [] <| .ret [(.tmp 26, none)]) (.ret [(.const (.bool false), none)])

theorem DoorPost.form {w w' : World} {v : Value} {o : Option PT} (h : DoorPost w w' v o) : ∃ cs, v = .tuple #[.agg ⟨cs⟩, .bool o.isSome] ∧ cs.length = 5 ∧ (∀ q ∈ cs, q.oneCell' = true) ∧ ∀ t, o = some t → TreeAt w' (fun b => w.heap.size ≤ b) t cs := by
  cases o with
  | none => exact ⟨zeroTree, h, rfl, (zeroTree_at w (fun _ => True)).ones, fun t ht => by cases ht⟩
  | some t =>
    obtain ⟨cs, hv, ht⟩ := h
    exact ⟨cs, hv, ht.len, ht.ones, fun t' ht' => by cases ht'; exact ht⟩

theorem unsafeLaw_gives {f fMax fVer fTell fUns fGot fSame n m : Nat} {data : Value} {l : List UInt8} {e0 : Value} {out : Nat → Option PT} (F : RdFacts P c) (K : TellFacts P c) (Z : TyFacts P c c.tTree c.tTrees c.tTagL c.tTag) (hT : treeIn P f noOrc [.tmp 0, .tmp 1] 2 = tUnsafeLaw c fMax fVer fTell fUns fGot fSame)
    (hMax : ∀ w, Gives P fMax [] w fun v w' => v = .int .i64 m ∧ Keeps [] w w') (hVer : ∀ w, Gives P fVer [.int .u8 n, .int .i64 m] w fun v w' => v = .int .i64 (n % (m + 1) : Nat) ∧ w' = w)
    (hTell : ∀ w, l.length ≤ 1000 → DataIn w data l → ErrAt w c.gErr e0 → Gives P fTell [.int .i64 (n % (m + 1) : Nat), data] w fun v w' => DoorPost w w' v (out (n % (m + 1))) ∧ Keeps [] w w')
    (hUns : ∀ w, l.length ≤ 1000 → DataIn w data l → ErrAt w c.gErr e0 → Gives P fUns [.int .i64 (n % (m + 1) : Nat), data] w fun v w' => DoorPost w w' v (out (n % (m + 1))) ∧ Keeps [] w w')
    (hGot : ∀ x, GotOf P fGot x) (hSame : ∀ x, SameTreeOf P fSame x) (hr : DataIn w data l) (he : ErrAt w c.gErr e0) : Gives P f [.int .u8 n, data] w fun v w' => v = .bool true ∧ Keeps [] w w' := by
  refine gives_in (ρ := en [.int .u8 n, data]) F.mix hT (Nat.le_refl _) rfl (by simp [opBelow]) ?_
  obtain ⟨a, cp, hda⟩ := hr.form
  refine s_val (v_len (a := a) (l := l.length) (c := cp) F.bytes hda) ?_
  refine s_val (v_cmp (kk := .i64) (a := l.length) (b := 2147483647) (r := decide ((l.length : Int) > 2147483647)) rfl rfl rfl) ?_
  refine s_cond (b := decide ((l.length : Int) > 2147483647)) rfl (fun _ => s_ret1 ⟨rfl, .refl⟩) fun _ => ?_
  refine s_callx (hMax w) rfl fun v w1 ⟨hv, k1⟩ => ?_
  subst hv
  refine s_val (v_cmp (kk := .i64) (a := m) (b := 0) (r := false) rfl rfl (by simp [cmpOf])) ?_
  refine s_cond (b := false) rfl (fun h => by cases h) fun _ => ?_
  refine s_val (v_len (a := a) (l := l.length) (c := cp) F.bytes hda) ?_
  refine s_val (v_cmp (kk := .i64) (a := l.length) (b := 1000) (r := decide ((l.length : Int) > 1000)) rfl rfl rfl) ?_
  refine s_cond (b := decide ((l.length : Int) > 1000)) rfl (fun _ => s_ret1 ⟨rfl, k1⟩) fun hle => ?_
  have hl : l.length ≤ 1000 := by
    have : ¬ (l.length : Int) > 1000 := by simpa using hle
    omega
  refine s_callx (hVer w1) rfl fun v w2 ⟨hv, hw⟩ => ?_
  subst hw
  subst hv
  refine s_callx (hTell w2 hl (hr.keep k1) (he.keep k1 (by simp))) rfl fun v w3 ⟨hd1, k3⟩ => ?_
  obtain ⟨cs1, rfl, hl1, ho1, ht1⟩ := hd1.form
  refine s_val (v_extract (vs := #[.agg ⟨cs1⟩, .bool (out (n % (m + 1))).isSome]) rfl rfl) ?_
  refine s_val (v_extract (vs := #[.agg ⟨cs1⟩, .bool (out (n % (m + 1))).isSome]) rfl rfl) ?_
  refine s_alloc K.zero fun w4 h4 k4 z4 => ?_
  refine s_storeAll (b := w3.heap.size) (old := zeroTree) (cs := cs1) (by rw [hl1]; exact Z.agg) rfl rfl h4 (by rw [hl1]; rfl) ho1 fun w5 h5 k5 => ?_
  have k35 : Keeps [] w3 w5 := ((k4.mono (by simp)).trans k5).less fun x hx => .inr (by simp only [List.mem_singleton] at hx; omega)
  have k05 := (k1.trans k3).trans k35
  refine s_callx (hVer w5) rfl fun v w6 ⟨hv, hw⟩ => ?_
  subst hw
  subst hv
  refine s_callx (hUns w6 hl (hr.keep k05) (he.keep k05 (by simp))) rfl fun v w7 ⟨hd2, k7⟩ => ?_
  obtain ⟨cs2, rfl, hl2, ho2, ht2⟩ := hd2.form
  refine s_val (v_extract (vs := #[.agg ⟨cs2⟩, .bool (out (n % (m + 1))).isSome]) rfl rfl) ?_
  refine s_val (v_extract (vs := #[.agg ⟨cs2⟩, .bool (out (n % (m + 1))).isSome]) rfl rfl) ?_
  refine s_alloc K.zero fun w8 h8 k8 z8 => ?_
  refine s_storeAll (b := w7.heap.size) (old := zeroTree) (cs := cs2) (by rw [hl2]; exact Z.agg) rfl rfl h8 (by rw [hl2]; rfl) ho2 fun w9 h9 k9 => ?_
  have k79 : Keeps [] w7 w9 := ((k8.mono (by simp)).trans k9).less fun x hx => .inr (by simp only [List.mem_singleton] at hx; omega)
  show Tr.sem _ _ _ _ _ _ { w9 with drawn := w9.drawn + 1 }
  have hd : Keeps [] w9 { w9 with drawn := w9.drawn + 1 } := keeps_drawn w9 _ _
  generalize ({ w9 with drawn := w9.drawn + 1 } : World) = w10 at hd ⊢
  have k0a : Keeps [] w w10 := ((k05.trans k7).trans k79).trans hd
  have h5a := ((h5.keep k7 (by simp)).keep k79 (by simp)).keep hd (by simp)
  have h9a := h9.keep hd (by simp)
  refine p_val (v_eqlBool (op := .eql) (a := (out (n % (m + 1))).isSome) (b := (out (n % (m + 1))).isSome) (r := true) Z.bool rfl rfl (.inl ⟨rfl, by simp⟩)) ?_
  refine s_cond (b := true) rfl (fun _ => ?_) (fun h => by cases h)
  refine p_val (v_not (b := (out (n % (m + 1))).isSome) rfl) ?_
  refine s_cond (b := !(out (n % (m + 1))).isSome) rfl (fun _ => s_ret1 ⟨rfl, k0a⟩) fun hs => ?_
  obtain ⟨t, hto⟩ : ∃ t, out (n % (m + 1)) = some t := Option.isSome_iff_exists.1 (by simpa using hs)
  have t1 := TreeAt.keep ((((k35.trans k7).trans k79).trans hd)) (fun b hb => by cases hb) (fun _ h _ => h) _ _ (ht1 t hto)
  have t2 := TreeAt.keep (k79.trans hd) (fun b hb => by cases hb) (fun _ h _ => h) _ _ (ht2 t hto)
  refine l_lok (l_loadN (b := w3.heap.size) (o := 0) Z.agg rfl h5a (by omega)) ?_
  rw [show (cs1.drop 0).take 5 = cs1 by rw [List.drop_zero, List.take_of_length_le (by omega)]]
  refine l_lok (l_loadN (b := w7.heap.size) (o := 0) Z.agg rfl h9a (by omega)) ?_
  rw [show (cs2.drop 0).take 5 = cs2 by rw [List.drop_zero, List.take_of_length_le (by omega)]]
  refine s_call (xs := [.tmp 22]) (hGot t w10 _ cs1 t1) fun v w11 ⟨⟨g1, hv, tg1⟩, k11⟩ => ⟨?_, ?_⟩
  · intro p hp
    simp only [List.mem_singleton] at hp
    subst hp
    have := l_loadN (P := P) (ρ := en []) (w := w11) (x := .const (ptr w7.heap.size)) (b := w7.heap.size) (o := 0) Z.agg rfl (h9a.keep k11 (by simp)) (by omega)
    rw [show (cs2.drop 0).take 5 = cs2 by rw [List.drop_zero, List.take_of_length_le (by omega)]] at this
    exact this
  subst hv
  refine s_callx (hGot t w11 _ cs2 (TreeAt.keep k11 (fun b hb => by cases hb) (fun _ h _ => h) _ _ t2)) rfl fun v w12 ⟨⟨g2, hv, tg2⟩, k12⟩ => ?_
  subst hv
  refine s_callx (hSame t w12 _ _ g1 g2 (TreeAt.keep k12 (fun b hb => by cases hb) (fun _ h _ => h) _ _ tg1) tg2) rfl fun v w13 ⟨hv, k13⟩ => ?_
  exact s_ret1 ⟨hv, ((k0a.trans k11).trans k12).trans k13⟩
end
end Go.Kf
/- Reading and telling, joined. -/
namespace Go.Kf
open Go

/-- A tell function, over values of these types. -/
def TellOf (P : Program) (f : Nat) (ts : List Ty) (g : List FV → PT) : Prop := ∀ (w : World) (D V lo : Nat) (pre post mid : List Value) (fs : List FV), okFs fs ts → Has w V (pre ++ mid ++ post) → FsAt D w lo fs mid →
  Gives P f [ptr V pre.length] w fun v w' => (∃ cs, v = .agg ⟨cs⟩ ∧ TreeAt w' (fun b => w.heap.size ≤ b) (g fs) cs) ∧ Keeps [] w w'

theorem rt_gives {P : Program} {c : Nums} {e : Fns} {f g fTell S fDef : Nat} {ds : List Dset} {ls : List Nat} {ss : List Step} {v : Int} {uns : Bool} {fs0 fs1 : List FV} {mid0 mid1 : List Value} {ts : List Ty} {gp : List FV → PT} (F : RdFacts P c) (A : RfFacts P c S) (hOk : hasRet ss = true → OkGives P e.ok) (hCo : CompGives P e.complete c.gErr)
    (hT : treeIn P g (orcV 9 v) [.tmp 0, .tmp 1, .const (.bool uns)] 3 = gReadFrom c e S fDef v ss) (hW : treeIn P f noOrc [.tmp 0, .tmp 1] 2 = tWrap g uns) (hDef : DefSets P fDef ls ds) (hok : StepsOk P c S ls ss) (hdeep : deepsOk ss = true) (hsh : shapesOk fs0 ds = true) (h0 : fs0.map FV.wd = ls) (h01 : applyD ds fs0 = fs1) (hidx : idxOk fs1 ss = true)
    (himm0 : immL fs0 = some mid0) (himm : immL fs1 = some mid1) (hv : fs1[0]? = some (.one (.int .i16 v))) (hl1 : fs1.map FV.wd = ls) (hty : tySteps ts ss = true) (htd : okImms fs1 ts = true) (hTell : TellOf P fTell ts gp)
    {w : World} {V D : Nat} {src e0 : Value} {l : List UInt8} (hV : Has w V mid0) (hr : Reads w src 1 l.length (bcells l)) (hn : nilOf src = l.isEmpty) (hb : ∀ b ∈ blkOf src, b = D) (hD : D < w.heap.size) (hVD : V ≠ D) (he : ErrAt w c.gErr e0) (hgV : c.gErr ≠ V) (hl : l.length ≤ 1073741824) :
    Gives P f [ptr V, src] w fun u w' => Keeps [V] w w' ∧ match toldOf ss fs1 gp l with
      | some t => u = .nilIface ∧ Gives P fTell [ptr V] w' fun v w2 => (∃ cs, v = .agg ⟨cs⟩ ∧ TreeAt w2 (fun b => w'.heap.size ≤ b) t cs) ∧ Keeps [] w' w2
      | none => u = e0 := by
  refine wrap_gives F.mix hW ((readFrom_gives F A hOk hCo hT hDef hok hdeep hsh h0 h01 hidx himm hv hl1 hV (fun D lo => immL_at himm0 D w lo) hr hb hD hVD he hgV hl).mono fun u w' ⟨kk, hp⟩ => ⟨kk, ?_⟩)
  rw [hn] at hp
  unfold toldOf
  cases hrun : runSteps ss fs1 ⟨l, false, l.isEmpty⟩ with
  | none => rw [hrun] at hp; exact hp
  | some x =>
    obtain ⟨fs, r⟩ := x
    rw [hrun] at hp
    simp only [RfPost] at hp
    cases hbad : r.bad with
    | true =>
      rw [hbad] at hp
      simp only [hbad, if_true] at hp ⊢
      exact hp
    | false =>
      rw [hbad] at hp
      obtain ⟨hu, mid, hm, hf⟩ := hp
      simp only [hbad, Bool.false_eq_true, if_false]
      exact ⟨hu, hTell w' D V w.heap.size [] [] mid fs (runSteps_ok ss ts fs1 _ fs r hty (okImms_ok htd) hl hrun) (by simpa using hm) hf⟩
end Go.Kf
/- A tell function, by the types of its struct's fields. -/
namespace Go.Kf
open Go

mutual
def Ty.wd : Ty → Nat
  | .uuid => 16
  | .sub ts => tyWds ts
  | _ => 1
def tyWds : List Ty → Nat
  | [] => 0
  | t :: ts => t.wd + tyWds ts
end

theorem okF_num {f : FV} {k : IntKind} (h : okF f (.num k)) : ∃ x, f = .one (.int k x) ∧ k.wrap x = x := by
  cases f with
  | one v => obtain ⟨x, rfl, h⟩ := h; exact ⟨x, rfl, h⟩
  | ptr o => cases o <;> simp [okF] at h
  | _ => simp [okF] at h

theorem okF_bool {f : FV} (h : okF f .bool) : ∃ b, f = .one (.bool b) := by
  cases f with
  | one v => obtain ⟨x, rfl⟩ := h; exact ⟨x, rfl⟩
  | ptr o => cases o <;> simp [okF] at h
  | _ => simp [okF] at h

theorem okF_text {f : FV} (h : okF f .text) : ∃ l, f = .text l ∧ l.length ≤ big := by
  cases f with
  | text l => exact ⟨l, rfl, h.2⟩
  | ptr o => cases o <;> simp [okF] at h
  | _ => simp [okF] at h

theorem okF_ntext {f : FV} (h : okF f .ntext) : ∃ o, f = .ntext o ∧ ∀ l, o = some l → l.length ≤ big := by
  cases f with
  | ntext l => exact ⟨l, rfl, h.2⟩
  | ptr o => cases o <;> simp [okF] at h
  | _ => simp [okF] at h

theorem okF_octs {f : FV} (h : okF f .octs) : ∃ nl l, f = .octs nl l ∧ l.length ≤ big := by
  cases f with
  | octs nl l => exact ⟨nl, l, rfl, h.2⟩
  | ptr o => cases o <;> simp [okF] at h
  | _ => simp [okF] at h

theorem okF_uuid {f : FV} (h : okF f .uuid) : ∃ l, f = .uuid l ∧ l.length = 16 := by
  cases f with
  | uuid l => exact ⟨l, rfl, h.2⟩
  | ptr o => cases o <;> simp [okF] at h
  | _ => simp [okF] at h

theorem okF_tags {f : FV} (h : okF f .tags) : ∃ m, f = .tags m ∧ m.length ≤ big ∧ ∀ p ∈ m, p.2.length ≤ big := by
  cases f with
  | tags m => exact ⟨m, rfl, h.2⟩
  | ptr o => cases o <;> simp [okF] at h
  | _ => simp [okF] at h

theorem okF_list {f : FV} {ts : List Ty} (h : okF f (.list ts)) : ∃ nl rows, f = .list nl rows ∧ rows.length ≤ big ∧ okRows rows ts := by
  cases f with
  | list nl rows => exact ⟨nl, rows, rfl, h.1, h.2⟩
  | ptr o => cases o <;> simp [okF] at h
  | _ => simp [okF] at h

theorem okF_sub {f : FV} {ts : List Ty} (h : okF f (.sub ts)) : ∃ fs, f = .sub fs ∧ okFs fs ts := by
  cases f with
  | sub fs => exact ⟨fs, rfl, h⟩
  | ptr o => cases o <;> simp [okF] at h
  | _ => simp [okF] at h

theorem okF_ptr {f : FV} {ts : List Ty} (h : okF f (.ptr ts)) : ∃ o, f = .ptr o ∧ ∀ fs, o = some fs → okFs fs ts := by
  cases f with
  | ptr o => cases o with
    | none => exact ⟨none, rfl, fun fs h => by cases h⟩
    | some fs => exact ⟨some fs, rfl, fun fs' h' => by cases h'; exact h⟩
  | _ => simp [okF] at h

mutual
theorem okF_wd : ∀ (f : FV) (t : Ty), okF f t → f.wd = t.wd
  | f, .num k, h => by obtain ⟨x, rfl, _⟩ := okF_num h; rfl
  | f, .bool, h => by obtain ⟨x, rfl⟩ := okF_bool h; rfl
  | f, .uuid, h => by obtain ⟨x, rfl, _⟩ := okF_uuid h; rfl
  | f, .text, h => by obtain ⟨x, rfl, _⟩ := okF_text h; rfl
  | f, .ntext, h => by obtain ⟨x, rfl, _⟩ := okF_ntext h; rfl
  | f, .octs, h => by obtain ⟨_, x, rfl, _⟩ := okF_octs h; rfl
  | f, .tags, h => by obtain ⟨x, rfl, _⟩ := okF_tags h; rfl
  | f, .list ts, h => by obtain ⟨_, x, rfl, _⟩ := okF_list h; rfl
  | f, .ptr ts, h => by obtain ⟨x, rfl, _⟩ := okF_ptr h; rfl
  | f, .sub ts, h => by
    obtain ⟨fs, rfl, hf⟩ := okF_sub h
    simp only [FV.wd, Ty.wd]
    exact okFs_wds fs ts hf
theorem okFs_wds : ∀ (fs : List FV) (ts : List Ty), okFs fs ts → wds fs = tyWds ts
  | [], ts, h => by simp only [okFs] at h; subst h; rfl
  | f :: fs, [], h => by simp only [okFs] at h
  | f :: fs, t :: ts, h => by
    simp only [okFs] at h
    simp only [wds, tyWds, okF_wd f t h.1, okFs_wds fs ts h.2]
end

theorem okFs_map : ∀ (fs : List FV) (ts : List Ty), okFs fs ts → fs.map FV.wd = ts.map Ty.wd
  | [], ts, h => by simp only [okFs] at h; subst h; rfl
  | f :: fs, [], h => by simp only [okFs] at h
  | f :: fs, t :: ts, h => by
    simp only [okFs] at h
    simp only [List.map_cons, okF_wd f t h.1, okFs_map fs ts h.2]

/-- The row j of a list. -/
theorem RowsAt.at {D : Nat} {w : World} {lo sz : Nat} : ∀ {rows : List (List FV)} {cs : List Value} {j : Nat}, RowsAt D w lo rows cs → (∀ r ∈ rows, wds r = sz) → (hj : j < rows.length) → ∃ a m z, cs = a ++ m ++ z ∧ a.length = j * sz ∧ FsAt D w lo rows[j] m
  | [], _, _, _, _, hj => by simp at hj
  | r :: rows, _, 0, ⟨c1, c2, e, h1, _⟩, _, _ => ⟨[], c1, c2, by simpa using e, by simp, h1⟩
  | r :: rows, _, j + 1, ⟨c1, c2, e, h1, h2⟩, hs, hj => by
    obtain ⟨a, m, z, e2, ha, hm⟩ := RowsAt.at (j := j) h2 (fun x hx => hs x (List.mem_cons_of_mem _ hx)) (by simpa using hj)
    refine ⟨c1 ++ a, m, z, by rw [e, e2]; simp, ?_, by simpa using hm⟩
    rw [List.length_append, ha, FsAt.len r c1 h1, hs r List.mem_cons_self, Nat.add_mul]
    omega

theorem okRows_wds {rows : List (List FV)} {ts : List Ty} (h : okRows rows ts) : ∀ r ∈ rows, wds r = tyWds ts := fun r hr => okFs_wds r ts (okRows_mem h r hr)

section
variable {P : Program} {c : Nums}

/-- A step of the telling, over values of these types. -/
def StepTell (P : Program) (c : Nums) (S : Nat) (ts : List Ty) (s : TStep) (q : Nat) (tf : List FV → PT) : Prop :=
  ∀ (R : Value → World → Prop) (w0 : World) (N D V lo : Nat) (pre post : List Value) (fs : List FV), okFs fs ts → TIn w0 D V lo pre post fs → q < N → V < w0.heap.size → SemT P c R w0 N S V pre s q (tf fs)

def FieldTy (P : Program) (S : Nat) (ts : List Ty) (i off : Nat) (t : Ty) : Prop := fieldOff P S i = some off ∧ ((ts.map Ty.wd).take i).sum = off ∧ ts[i]? = some t

theorem FieldTy.ok {S i off : Nat} {ts : List Ty} {t : Ty} (h : FieldTy P S ts i off t) : FieldOk P S (ts.map Ty.wd) i off := ⟨h.1, h.2.1⟩

def fvGet (fs : List FV) (i : Nat) : FV := fs.getD i (.text [])

theorem fvGet_eq {fs : List FV} {i : Nat} {f : FV} (h : fs[i]? = some f) : fvGet fs i = f := by
  unfold fvGet
  rw [List.getD_eq_getElem?_getD, h]; rfl

/-- Kinds that 64 bits hold. -/
def IntKind.fits (k : IntKind) : Prop := ∀ x, k.wrap x = x → IntKind.i64.wrap x = x

theorem fits_i8 : IntKind.fits .i8 := fun x h => by
  simp only [IntKind.wrap, IntKind.bits, IntKind.signed] at h ⊢; simp at h ⊢; omega
theorem fits_i16 : IntKind.fits .i16 := fun x h => by
  simp only [IntKind.wrap, IntKind.bits, IntKind.signed] at h ⊢; simp at h ⊢; omega
theorem fits_i32 : IntKind.fits .i32 := fun x h => by
  simp only [IntKind.wrap, IntKind.bits, IntKind.signed] at h ⊢; simp at h ⊢; omega
theorem fits_i64 : IntKind.fits .i64 := fun _ h => h
theorem fits_u8 : IntKind.fits .u8 := fun x h => by
  simp only [IntKind.wrap, IntKind.bits, IntKind.signed] at h ⊢; simp at h ⊢; omega
theorem fits_u16 : IntKind.fits .u16 := fun x h => by
  simp only [IntKind.wrap, IntKind.bits, IntKind.signed] at h ⊢; simp at h ⊢; omega
theorem fits_u32 : IntKind.fits .u32 := fun x h => by
  simp only [IntKind.wrap, IntKind.bits, IntKind.signed] at h ⊢; simp at h ⊢; omega

theorem told_num {S i ty q off : Nat} {ik : IntKind} {ts : List Ty} (Z : TyFacts P c c.tTree c.tTrees c.tTagL c.tTag) (K : TellFacts P c) (hF : FieldTy P S ts i off (.num ik)) (hty : P.underlying ty = some (.int ik)) (hone : oneTy P ty = true) (hk : IntKind.fits ik) :
    StepTell P c S ts (.num i ty q) q fun fs => tellPrim (fvGet fs i) := by
  intro R w0 N D V lo pre post fs hok hin hq _
  obtain ⟨f, hf, hft⟩ := okFs_get hok hF.2.2
  obtain ⟨x, rfl, hx⟩ := okF_num hft
  simp only [fvGet_eq hf]
  exact tell_num Z K.plan hin (okFs_map _ _ hok) hF.ok hq hty hone hf (hk x hx)

theorem told_num64 {S i q off : Nat} {ts : List Ty} (Z : TyFacts P c c.tTree c.tTrees c.tTagL c.tTag) (K : TellFacts P c) (hF : FieldTy P S ts i off (.num .i64)) : StepTell P c S ts (.num64 i q) q fun fs => tellPrim (fvGet fs i) := by
  intro R w0 N D V lo pre post fs hok hin hq _
  obtain ⟨f, hf, hft⟩ := okFs_get hok hF.2.2
  obtain ⟨x, rfl, hx⟩ := okF_num hft
  simp only [fvGet_eq hf]
  exact tell_num64 Z K.plan hin (okFs_map _ _ hok) hF.ok hq hf

theorem told_text {S i q off : Nat} {ts : List Ty} (F : RdFacts P c) (Z : TyFacts P c c.tTree c.tTrees c.tTagL c.tTag) (K : TellFacts P c) (hstr : oneTy P c.tStr = true) (hF : FieldTy P S ts i off .text) : StepTell P c S ts (.text i q) q fun fs => tellPrim (fvGet fs i) := by
  intro R w0 N D V lo pre post fs hok hin hq _
  obtain ⟨f, hf, hft⟩ := okFs_get hok hF.2.2
  obtain ⟨l, rfl, hl⟩ := okF_text hft
  simp only [fvGet_eq hf]
  exact tell_text F hstr Z K.plan hin (okFs_map _ _ hok) hF.ok hq hf hl

/-- A function that tells one cell's value, by its type. -/
def TellCellTy (P : Program) (f : Nat) (t : Ty) : Prop := t.wd = 1 ∧ ∀ (D lo : Nat) (fv : FV), okF fv t → TellCell P f D lo fv

theorem told_call {S f i ty q off : Nat} {t : Ty} {ts : List Ty} (Z : TyFacts P c c.tTree c.tTrees c.tTagL c.tTag) (hF : FieldTy P S ts i off t) (hone : oneTy P ty = true) (hC : TellCellTy P f t) : StepTell P c S ts (.call f i ty q) q fun fs => tellPrim (fvGet fs i) := by
  intro R w0 N D V lo pre post fs hok hin hq _
  obtain ⟨fv, hf, hft⟩ := okFs_get hok hF.2.2
  simp only [fvGet_eq hf]
  exact tell_call Z hin (okFs_map _ _ hok) hF.ok hq hone hf ((okF_wd fv t hft).trans hC.1) (hC.2 D lo fv hft)

/-- An element of a list, told. -/
def ElTell (P : Program) (c : Nums) (el : TEl) (ts : List Ty) (g : List FV → PT) : Prop :=
  ∀ (w : World) (D lo B : Nat) (a m z : List Value) (r : List FV), Has w B (a ++ m ++ z) → FsAt D w lo r m → okFs r ts → ElLaid P c el B a.length (g r) w

theorem el_sub {f : Nat} {ts : List Ty} {g : List FV → PT} (h : TellOf P f ts g) : ElTell P c (.sub f) ts g := fun w D lo B a m z r hh hf hok w' k' =>
  h w' D B lo a z m r hok (hh.keep k' (by simp)) (FsAt.keep k' lo (fun b hb => by cases hb) _ _ hf)

theorem el_text (hstr : oneTy P c.tStr = true) : ElTell P c .text [.text] fun r => tellPrim (fvGet r 0) := by
  intro w D lo B a m z r hh hf hok
  obtain ⟨f, hr, hft⟩ := okFs_get (i := 0) hok rfl
  obtain ⟨l, rfl, hl⟩ := okF_text hft
  simp only [fvGet_eq hr]
  obtain ⟨a1, m1, z1, e, ha, hm, _⟩ := hf.split hr
  have : a1 = [] := List.eq_nil_of_length_eq_zero (by rw [ha]; rfl)
  subst this
  simp only [FAt] at hm
  subst hm
  exact ⟨_, _, hh, by rw [e, List.append_assoc, List.getElem?_append_right (Nat.le_refl _), Nat.sub_self]; rfl, ⟨l, rfl, hl, rfl⟩, hstr⟩

theorem el_num {ty : Nat} {ik : IntKind} (hty : P.underlying ty = some (.int ik)) (hone : oneTy P ty = true) (hk : IntKind.fits ik) : ElTell P c (.num ty) [.num ik] fun r => tellPrim (fvGet r 0) := by
  intro w D lo B a m z r hh hf hok
  obtain ⟨f, hr, hft⟩ := okFs_get (i := 0) hok rfl
  obtain ⟨x, rfl, hx⟩ := okF_num hft
  simp only [fvGet_eq hr]
  obtain ⟨a1, m1, z1, e, ha, hm, _⟩ := hf.split hr
  have : a1 = [] := List.eq_nil_of_length_eq_zero (by rw [ha]; rfl)
  subst this
  obtain ⟨rfl, _⟩ := hm
  exact ⟨_, _, hh, by rw [e, List.append_assoc, List.getElem?_append_right (Nat.le_refl _), Nat.sub_self]; rfl, ⟨ik, x, rfl, hty, hk x hx, rfl⟩, hone⟩

/-- What a list is told as. -/
def tellList (g : List FV → PT) : FV → PT
  | .list nl rows => .mk 0 [] nl (rows.map g) []
  | _ => .zero

theorem told_list {S i tySl q T sz off : Nat} {el : TEl} {ets ts : List Ty} {g : List FV → PT} (F : RdFacts P c) (Z : TyFacts P c c.tTree c.tTrees c.tTagL c.tTag) (K : TellFacts P c) (hF : FieldTy P S ts i off (.list ets)) (hone : oneTy P tySl = true) (hsl : P.underlying tySl = some (.slice T)) (hsz : (P.info? T).map (·.size) = some sz)
    (hw : tyWds ets = sz) (hE : ElTell P c el ets g) : StepTell P c S ts (.list i tySl q el) q fun fs => tellList g (fvGet fs i) := by
  intro R w0 N D V lo pre post fs hok hin hq hV
  obtain ⟨f, hf, hft⟩ := okFs_get hok hF.2.2
  obtain ⟨nl, rows, rfl, hl, hrows⟩ := okF_list hft
  simp only [fvGet_eq hf]
  refine tell_list (tl := rows.map g) F Z K.plan K.row K.coin hin (okFs_map _ _ hok) hF.ok hq hone hsl hsz hf (by simp) (by simp only [List.length_map, big] at hl ⊢; omega) hV fun w B rcs kk hB hr j hj => ?_
  have hj' : j < rows.length := by simpa using hj
  obtain ⟨a, m, z, e, ha, hm⟩ := hr.at (j := j) (fun r hr => (okRows_wds hrows r hr).trans hw) hj'
  subst e
  have := hE w D (B + 1) B a m z rows[j] hB hm (okRows_mem hrows _ (List.getElem_mem _))
  rw [ha] at this
  rw [Nat.zero_add, List.getElem_map]
  exact this

/-- What a part is told as. -/
def tellPart (g : List FV → PT) : FV → PT
  | .sub fs => g fs
  | _ => .zero

theorem told_part {S f i q off : Nat} {us ts : List Ty} {g : List FV → PT} (Z : TyFacts P c c.tTree c.tTrees c.tTagL c.tTag) (hF : FieldTy P S ts i off (.sub us)) (hT : TellOf P f us g) : StepTell P c S ts (.part f i q) q fun fs => tellPart g (fvGet fs i) := by
  intro R w0 N D V lo pre post fs hok hin hq hV n k Γ ρ w tts u uv hn h0 _ h4 hT0 hRaw hk
  obtain ⟨f0, hf, hft⟩ := okFs_get hok hF.2.2
  obtain ⟨gs, rfl, hg⟩ := okF_sub hft
  simp only [fvGet_eq hf, tellPart] at hk
  simp only [gTStep]
  refine s_TL Z h4 hT0 fun w1 hT1 k1 => ?_
  obtain ⟨mid, hh0, hfs0⟩ := hin.st
  have hh := hh0.keep hT1.k (by simp)
  have hfs := FsAt.keep (D := D) hT1.k lo (fun b hb => by cases hb) _ _ hfs0
  obtain ⟨a, m, z, e, ha, hm, _⟩ := hfs.split hf
  have hao : a.length = off := by rw [ha, wds_eq, List.map_take, okFs_map _ _ hok]; exact hF.2.1
  have hpl : (pre ++ a).length = pre.length + off := by simp [hao]
  have hh' : Has w1 V ((pre ++ a) ++ m ++ (z ++ post)) := by rw [e] at hh; simpa using hh
  refine p_val (v_nilCheck (show ev _ (.tmp 0) = ptr V pre.length by show ext _ _ _ 0 = _; rw [ext_lt (by omega), ext_lt (by omega)]; exact h0)) ?_
  refine p_val (v_field (b := V) (o := pre.length) hF.1 ext_at) ?_
  have hcall := hT w1 D V lo (pre ++ a) (z ++ post) m gs hg hh' hm
  rw [hpl] at hcall
  refine s_call (xs := [.tmp (n + 3)]) (Post := fun u w' => (∃ cs, u = .agg ⟨cs⟩ ∧ TreeAt w' (fun b => w1.heap.size ≤ b) (g gs) cs) ∧ Keeps [] w1 w') (by
    rw [List.map_cons, List.map_nil]
    have : ev (ext (ext (ext (ext ρ n [ptr (w0.heap.size + 2) 3]) (n + 1) [rowV w0 N]) (n + 2) [.pointer (some ⟨V, pre.length, none⟩)]) (n + 2 + 1) [.pointer (some ⟨V, pre.length + off, none⟩)]) (.tmp (n + 3)) = ptr V (pre.length + off) := ext_at
    exact this ▸ hcall) fun x w2 ⟨⟨ccs, hx, htr⟩, k2⟩ => ?_
  subst hx
  have hT2 := hT1.keep k2
  refine ⟨TL_owed Z (by rw [ext_lt (by omega), ext_lt (by omega), ext_lt (by omega), ext_at]) (by rw [ext_lt (by omega), ext_lt (by omega), ext_at]) hT2, ?_⟩
  have hlt := hT1.top.lt
  refine s_TSet (n := n + 5) (t := g gs) (cs := ccs) Z ?_ hq (show ev _ (.tmp (n + 4)) = _ from ext_at) (by simp [opBelow]) (htr.mono fun b hb _ => by omega) hT2 fun w3 hT3 hR3 => ?_
  · rw [ext_lt (by omega), ext_lt (by omega), ext_lt (by omega), ext_at]
  · refine hk (n + 7) Γ _ w3 (by omega) ⟨[], by simp⟩ (fun y hy => ?_) hT3 (hR3 ((hRaw.keep hT0 k1).keep hT1 k2))
    rw [ext_lt (by omega), ext_lt (by omega), ext_lt (by omega), ext_lt (by omega), ext_lt (by omega), ext_lt (by omega), ext_lt (by omega)]

/-- Steps and what they tell. -/
def StepsTell (P : Program) (c : Nums) (S : Nat) (ts : List Ty) : List TStep → List (List FV → PT) → Nat → Prop
  | [], [], _ => True
  | s :: ss, t :: tl, q => StepTell P c S ts s q t ∧ StepsTell P c S ts ss tl (q + 1)
  | _, _, _ => False

theorem steps_told {S : Nat} {ts : List Ty} {R : Value → World → Prop} {w0 : World} {N D V lo : Nat} {pre post : List Value} {fs : List FV} (hok : okFs fs ts) (hin : TIn w0 D V lo pre post fs) (hV : V < w0.heap.size) :
    ∀ (ss : List TStep) (tfs : List (List FV → PT)) (q : Nat), StepsTell P c S ts ss tfs q → q + tfs.length ≤ N → StepsT P c R w0 N S V pre ss (tfs.map (· fs)) q
  | [], [], _, _, _ => trivial
  | [], _ :: _, _, h, _ => h.elim
  | _ :: _, [], _, h, _ => h.elim
  | s :: ss, t :: tl, q, ⟨h1, h2⟩, hq => by
    simp only [List.length_cons] at hq
    exact ⟨h1 R w0 N D V lo pre post fs hok hin (by omega) hV, steps_told hok hin hV ss tl (q + 1) h2 (by omega)⟩

/-- A struct without tags. -/
theorem told_of {f S N : Nat} {ts : List Ty} {ss : List TStep} {tfs : List (List FV → PT)} (F : RdFacts P c) (Z : TyFacts P c c.tTree c.tTrees c.tTagL c.tTag) (K : TellFacts P c) (hT : treeIn P f noOrc [.tmp 0] 1 = gTell c S N ss) (hN : tfs.length = N) (hsm : N ≤ 1024) (hs : StepsTell P c S ts ss tfs 0) :
    TellOf P f ts fun fs => .mk 0 [] false (tfs.map (· fs)) [] := by
  intro w D V lo pre post mid fs hok hh hf
  exact tell_gives F Z K hT (by simpa using hN) hsm fun R => steps_told hok ⟨mid, hh, hf⟩ hh.lt ss tfs 0 hs (by omega)
end
end Go.Kf
/- A law's row: what its arguments are, what is to be said behind it. -/
namespace Go.Kf
open Go Go.ChangeShapes Go.WideShapes Go.RowKit

theorem lit_u8 {n : Int} (h : (Lit.int .u8 n).wf = true) : ∃ m : Nat, n = m ∧ m < 256 := by
  simp only [Lit.wf, Bool.and_eq_true, decide_eq_true_eq] at h
  have e1 : IntKind.u8.min = 0 := rfl
  have e2 : IntKind.u8.max = 255 := rfl
  rw [e1, e2] at h
  exact ⟨n.toNat, by omega, by omega⟩

theorem keep_cell {w w' : World} (hk : Keeps [] w w') {a : Addr} {v : Value} (h : w.cell? a = some v) : w'.cell? a = some v := by
  unfold World.cell? at h ⊢
  cases hb : w.heap[a.block]? with
  | none => rw [hb] at h; cases h
  | some o => rw [hk.block _ (Array.getElem?_eq_some_iff.1 hb).1 (by simp)]; exact h

theorem cell_block {w : World} {a : Addr} {v : Value} (h : w.cell? a = some v) : a.block < w.heap.size := by
  unfold World.cell? at h
  cases hb : w.heap[a.block]? with
  | none => rw [hb] at h; cases h
  | some o => exact (Array.getElem?_eq_some_iff.1 hb).1

theorem keptBut_keeps {w w' : World} (hk : Keeps [] w w') (may : MemPlace → Prop) : w.keptBut w' may := by
  refine ⟨hk.os, hk.output, fun i hi => ?_⟩
  rw [hk.block i hi (by simp)]
  split <;> simp_all

/-- A law of an octet and octets. -/
theorem law_row {H : Type} {enc : TypeId × Value → H} {P : Program} {fn : Func} {s : ChangeSpec} {tU tBy tB : Nat} (hp : fn.params = #[tU, tBy]) (hr : fn.resultTypes = #[tB]) (hu : P.underlying tU = some (.int .u8)) (hby : P.underlying tBy = some (.slice tU)) (hc : P.cellsOf tU = 1) (hb : P.underlying tB = some .bool)
    (hs : ∀ (H : Type) (d1 d2 : DataW H), s.fn H [d1, d2] = { results := [.lit (.bool true)], args := [d1, d2] }) (hvs : s.vars = []) {W : World} {base : Nat} {args : Array Value} {ds gs : List (DataW H)} {before : List MemPlace}
    (hval : ∀ (j : Nat) t v, fn.params[j]? = some t → args[j]? = some v → Value.okWide P W .any base t v) (hW : DataW.Whole enc P fn.params.toList s.vars false W args.toList ds gs before) :
    ∃ (n : Nat) (data : Value) (l : List UInt8), n < 256 ∧ args = #[.int .u8 n, data] ∧ DataIn W data l ∧ ∀ W', Keeps [] W W' → s.post enc P fn false true false false W args (.bool true) W' := by
  have hW0 := hW
  obtain ⟨p, q, hA, hV, rfl, hfz, hnd⟩ := hW
  rw [hvs] at hV
  obtain ⟨rfl, rfl⟩ := trodVars_none hV
  rw [hp] at hA hval
  obtain ⟨v0, vs0, d0, ds0, p0, q0, hargs, rfl, rfl, h0, r0⟩ := trodAll_cons hA
  obtain ⟨v1, vs1, d1, ds1, p1, q1, rfl, rfl, rfl, h1, r1⟩ := trodAll_cons r0
  obtain ⟨rfl, rfl, rfl⟩ := trodAll_nil r1
  obtain rfl : args = #[v0, v1] := by cases args; simp_all
  obtain ⟨n0, rfl, rfl, rfl, hw0⟩ := open_int hu (hval 0 tU v0 rfl rfl) h0
  obtain ⟨n, rfl, hn⟩ := lit_u8 hw0
  obtain ⟨a0, len0, cap0, rfl⟩ := okWide_slice hby (hval 1 tBy v1 rfl rfl)
  have hres : ∀ (W' : World) (b : Nat) (sp : Nat → Bool) (hd : Bool), DataW.TrodAll enc P W' b sp hd fn.resultTypes.toList ((Value.bool true).resultList fn.resultTypes.size) [.lit (.bool true)] [] := by
    intro W' b sp hd
    rw [hr]
    exact trodAll_cons_mk (shut_bool hb _) trodAll_mk0
  have hintAt : ∀ (W' : World) (sp : Nat → Bool), DataW.Trod enc P W' 0 sp true tU (.int .u8 (n : Int)) (.lit (.int .u8 n)) [] := fun W' sp => ⟨1, trod_int_mk 0 hu hw0⟩
  have fin : ∀ (d1 : DataW H) (p1 : List MemPlace), (∀ W', Keeps [] W W' → DataW.Trod enc P W' 0 (fun b => decide (b < W.heap.size)) true tBy (.slice a0 len0 cap0) d1 p1) → DataW.Whole enc P fn.params.toList s.vars false W #[.int .u8 n, .slice a0 len0 cap0].toList ([.lit (.int .u8 n), d1]) [] ([] ++ (p1 ++ []) ++ []) →
      ∀ W', Keeps [] W W' → s.post enc P fn false true false false W #[.int .u8 n, .slice a0 len0 cap0] (.bool true) W' := by
    intro d1 p1 hsl hWh W' hk
    refine ⟨_, _, _, [], [] ++ (p1 ++ []), [], hWh, ?_, ?_, ?_, ?_, fun h => by cases h⟩
    · rw [List.append_nil, hs]; exact hres W' _ _ _
    · rw [List.append_nil, hs, hp]
      exact trodAll_cons_mk (hintAt W' _) (trodAll_cons_mk (hsl W' hk) trodAll_mk0)
    · rw [hvs, List.append_nil, hs]; rfl
    · exact World.keptBut_mono (fun p hp => ⟨hp, .inr (.inl (by simpa using hp))⟩) (keptBut_keeps hk _)
  obtain ⟨fuel, hf⟩ := h1
  rcases open_ints hby hu hc hf with ⟨hcs, hx⟩ | ⟨a, len, cap, zs, hcs, hba, hle, hmx, hzl, hx, hcell, hwf⟩
  · simp only [Prod.mk.injEq] at hx
    obtain ⟨rfl, rfl⟩ := hx
    have hv : a0 = none ∧ len0 = 0 ∧ cap0 = 0 := by simpa [Value.cells] using hcs
    obtain ⟨rfl, rfl, rfl⟩ := hv
    refine ⟨n, _, [], hn, rfl, .inl ⟨rfl, rfl⟩, ?_⟩
    refine fin _ _ (fun W' hk => ⟨1, ?_⟩) hW0
    simp [Value.cells, DataW.trod, hby]
  · simp only [Prod.mk.injEq] at hx
    obtain ⟨rfl, rfl⟩ := hx
    have hv : a0 = some a ∧ len0 = len ∧ cap0 = cap := by simpa [Value.cells] using hcs
    obtain ⟨rfl, rfl, rfl⟩ := hv
    simp only [if_true] at hzl
    have hz8 : ∀ z ∈ zs, ∃ m : Nat, z = m ∧ m < 256 := fun z hz => lit_u8 (hwf z hz)
    refine ⟨n, _, (zs.take len0).map fun z => UInt8.ofNat z.toNat, hn, rfl, .inr ⟨a, cap0, ?_, ?_⟩, ?_⟩
    · simp only [List.length_map, List.length_take]
      rw [Nat.min_eq_left (by omega)]
    · intro i hi
      simp only [List.length_map, List.length_take] at hi
      have hi' : i < zs.length := by omega
      rw [hcell i hi']
      obtain ⟨m, hm, hlt⟩ := hz8 zs[i] (List.getElem_mem _)
      simp only [List.getElem_map, List.getElem_take, List.getD_eq_getElem?_getD, List.getElem?_eq_getElem hi', Option.getD_some, hm, Int.toNat_natCast]
      congr 2
      have : (UInt8.ofNat m).toNat = m := by rw [UInt8.toNat_ofNat']; omega
      rw [this]
    · refine fin _ _ (fun W' hk => ⟨2, ?_⟩) hW0
      have hsz : ∀ i, i < zs.length → a.block < W.heap.size := fun i hi => by have := cell_block (hcell i hi); rwa [block_add] at this
      have hlen : zs.length = if decide (a.block < W.heap.size) then cap0 else len0 := by
        by_cases hz : 0 < zs.length
        · rw [decide_eq_true (hsz 0 hz)]; simpa using hzl
        · split <;> omega
      exact shut_ints 0 hby hu hc (Nat.zero_le _) hle hmx hlen (fun i hi => keep_cell hk (hcell i hi)) hwf

/-- The listed error's variable. -/
theorem err_at {P : Program} {W : World} {name nm : String} {d : DataW Unit} {g t : Nat} (hg : P.globalNamed name = some g) (ht : (P.globals[g]?).map (·.type) = some t) (hu : ∃ ms, P.underlying t = some (.interface ms)) (hn : (DataW.iface nm d : DataW Unit).handleName?.isNone = true) (hL : laidMetH P [(name, .iface nm d)] W) :
    ∃ u v, ErrAt W g (.iface u v) := by
  have hL' : laidMet P [(name, .iface nm d)] W := by
    unfold laidMetH at hL
    have : ([(name, DataW.iface nm d)].filter fun x => x.2.handleName?.isSome) = [] := by
      simp only [List.filter_cons, List.filter_nil]
      rw [if_neg (by simpa using hn)]
    rw [this] at hL
    exact hL
  obtain ⟨ps, ⟨g', t', cs, fuel, p, q, hg', ht', hv, htr, _⟩, _⟩ := hL'
  obtain rfl : g = g' := by rw [hg] at hg'; simpa using hg'
  obtain rfl : t = t' := by rw [ht] at ht'; simpa using ht'
  obtain ⟨ms, hu⟩ := hu
  unfold World.var? at hv
  rw [hg] at hv
  simp only [Option.bind_some] at hv
  cases hb : W.heap[g]? with
  | none => rw [hb] at hv; cases hv
  | some o =>
    rw [hb] at hv
    obtain ⟨c, ty, fr, rfl⟩ : ∃ c ty fr, o = .cells c ty fr := by cases o <;> first | exact ⟨_, _, _, rfl⟩ | cases hv
    simp only [Option.some.injEq] at hv
    subst hv
    cases fuel with
    | zero => simp [DataW.trod] at htr
    | succ fuel =>
      unfold DataW.trod at htr
      rw [hu] at htr
      obtain ⟨u, v, hcs⟩ : ∃ u v, c.toList = [.iface u v] := by
        match hc : c.toList with
        | [.iface u v] => exact ⟨u, v, rfl⟩
        | [.nilIface] => rw [hc] at htr; simp at htr
        | [] => rw [hc] at htr; simp at htr
        | _ :: _ :: _ => rw [hc] at htr; simp at htr
        | [.bool _] => rw [hc] at htr; simp at htr
        | [.int _ _] => rw [hc] at htr; simp at htr
        | [.string _] => rw [hc] at htr; simp at htr
        | [.pointer _] => rw [hc] at htr; simp at htr
        | [.slice _ _ _] => rw [hc] at htr; simp at htr
        | [.map _] => rw [hc] at htr; simp at htr
        | [.agg _] => rw [hc] at htr; simp at htr
        | [x] => rw [hc] at htr; cases x <;> simp_all
      refine ⟨u, v, ?_, (Array.getElem?_eq_some_iff.1 hb).1⟩
      unfold World.cell?
      rw [show (⟨g, 0, none⟩ : Addr).block = g from rfl, hb]
      simp only [Option.isSome_none, Bool.false_eq_true, if_false]
      rw [← Array.getElem?_toList, hcs]
      rfl
end Go.Kf
/- The package encoding/binary's reading functions, by the shelf's contracts. -/
namespace Go.Kf
open Go Go.Shelf Go.Proofs
variable {P : Program} {ρ : Ren}

theorem be_cell {w : World} {b o i : Nat} {cs : List Value} {l : List UInt8} (hh : Has w b cs) (hx : (cs.drop o).take (l.length * 1) = bcells l) (hi : i < l.length) : w.cell? ⟨b, o + i, none⟩ = some (.int .u8 l[i].toNat) := by
  refine hh.cell ?_
  have h1 : (bcells l)[i]? = some (.int .u8 l[i].toNat) := by simp [bcells, hi]
  rw [← hx, List.getElem?_take, if_pos (by omega), List.getElem?_drop] at h1
  exact h1

theorem be16 {f : Nat} (L : LaysBin.n36 P ρ) (hf : ρ.f 36 = f) (hg : goFn P f = true) : BeGives P f 2 .u16 := by
  subst hf
  intro w v l hl hr
  rcases hr.2 with ⟨_, h0⟩ | ⟨b, o, cap, cs, rfl, hc, hh, hlen, hx⟩
  · omega
  · refine ⟨hg, Calls.mono (Proofs.Any.binary_BE_Uint16 L b o l.length cap l[0] l[1] w hl (be_cell (i := 0) hh hx (by omega)) (be_cell (i := 1) hh hx (by omega))) fun e w' ⟨he, hb⟩ => ?_⟩
    subst he
    refine ⟨?_, .ofBelow hb⟩
    match l, hl with
    | b0 :: b1 :: r, _ => rfl

theorem be32 {f : Nat} (L : LaysBin.n39 P ρ) (hf : ρ.f 39 = f) (hg : goFn P f = true) : BeGives P f 4 .u32 := by
  subst hf
  intro w v l hl hr
  rcases hr.2 with ⟨_, h0⟩ | ⟨b, o, cap, cs, rfl, hc, hh, hlen, hx⟩
  · omega
  · refine ⟨hg, Calls.mono (Proofs.Any.binary_BE_Uint32 L b o l.length cap l[0] l[1] l[2] l[3] w hl (be_cell (i := 0) hh hx (by omega)) (be_cell (i := 1) hh hx (by omega)) (be_cell (i := 2) hh hx (by omega)) (be_cell (i := 3) hh hx (by omega))) fun e w' ⟨he, hb⟩ => ?_⟩
    subst he
    refine ⟨?_, .ofBelow hb⟩
    match l, hl with
    | b0 :: b1 :: b2 :: b3 :: r, _ => rfl

theorem be64 {f : Nat} (L : LaysBin.n42 P ρ) (hf : ρ.f 42 = f) (hg : goFn P f = true) : BeGives P f 8 .u64 := by
  subst hf
  intro w v l hl hr
  rcases hr.2 with ⟨_, h0⟩ | ⟨b, o, cap, cs, rfl, hc, hh, hlen, hx⟩
  · omega
  · refine ⟨hg, Calls.mono (Proofs.Any.binary_BE_Uint64 L b o l.length cap l[0] l[1] l[2] l[3] l[4] l[5] l[6] l[7] w hl (be_cell (i := 0) hh hx (by omega)) (be_cell (i := 1) hh hx (by omega)) (be_cell (i := 2) hh hx (by omega)) (be_cell (i := 3) hh hx (by omega)) (be_cell (i := 4) hh hx (by omega)) (be_cell (i := 5) hh hx (by omega)) (be_cell (i := 6) hh hx (by omega)) (be_cell (i := 7) hh hx (by omega))) fun e w' ⟨he, hb⟩ => ?_⟩
    subst he
    refine ⟨?_, .ofBelow hb⟩
    match l, hl with
    | b0 :: b1 :: b2 :: b3 :: b4 :: b5 :: b6 :: b7 :: r, _ => rfl
end Go.Kf
/- Facts of a seat's types, from checks that the kernel runs. -/
namespace Go.Kf
open Go
variable {P : Program} {c : Nums}

def chkZero (P : Program) (t s : Nat) : Bool := match zeroTy P t with
  | some (z, s') => Nat.beq s' s && Nat.beq z.cells.size s
  | none => false

theorem zero_of {t s : Nat} (h : chkZero P t s = true) : ∃ z, zeroTy P t = some (z, s) ∧ z.cells.size = s := by
  unfold chkZero at h
  split at h
  · rename_i z s' hz
    simp only [Bool.and_eq_true] at h
    obtain rfl := Nat.eq_of_beq_eq_true h.1
    exact ⟨z, hz, Nat.eq_of_beq_eq_true h.2⟩
  · cases h

def chkInfo (P : Program) (t s m : Nat) : Bool := match P.info? t with
  | some i => match i.zero with
    | some z => Nat.beq i.size s && Nat.beq z.cells.size s && Nat.ble i.bytes m
    | none => false
  | none => false

theorem info_of {t s m : Nat} (h : chkInfo P t s m = true) : ∃ inf z, P.info? t = some inf ∧ inf.zero = some z ∧ inf.size = s ∧ z.cells.size = s ∧ inf.bytes ≤ m := by
  unfold chkInfo at h
  split at h
  · rename_i i hi
    split at h
    · rename_i z hz
      simp only [Bool.and_eq_true] at h
      exact ⟨i, z, hi, hz, Nat.eq_of_beq_eq_true h.1.1, Nat.eq_of_beq_eq_true h.1.2, Nat.le_of_ble_eq_true h.2⟩
    · cases h
  · cases h

theorem StrFacts.of (h : chkZero P c.tStr 1 = true) (h1 : oneTy P c.tStr = true) : StrFacts P c := ⟨zero_of h, h1⟩

theorem RowFacts.of {T sz : Nat} (h : chkInfo P T sz 1024 = true) (ha : aggTy P T = some sz) (hp : 0 < sz ∧ sz ≤ 16) : RowFacts P T sz := ⟨info_of h, ha, hp⟩

theorem OctFacts.of (h : chkInfo P c.tU8 1 8 = true) : OctFacts P c := ⟨info_of h⟩

theorem ListOk.of {tySl T sz : Nat} (h1 : P.underlying tySl = some (.slice T)) (h2 : oneTy P tySl = true) (h3 : chkInfo P T sz 65536 = true) (h4 : 0 < sz) : ListOk P c tySl T sz := by
  obtain ⟨i, z, hi, hz, hs, hc, hb⟩ := info_of h3
  exact ⟨h1, h2, i, z, hi, hz, hs, hc, h4, hb⟩

def chkPlan (P : Program) (t n : Nat) (fs : List (Nat × Nat)) : Bool := match buildPlan P t with
  | some (z, gs) => Nat.beq z.length n && decide (gs = fs)
  | none => false

theorem plan_of {t n : Nat} {fs : List (Nat × Nat)} (h : chkPlan P t n fs = true) : ∃ z, buildPlan P t = some (z, fs) ∧ z.length = n := by
  unfold chkPlan at h
  split at h
  · rename_i z gs hz
    simp only [Bool.and_eq_true, decide_eq_true_eq] at h
    obtain rfl := h.2
    exact ⟨z, hz, Nat.eq_of_beq_eq_true h.1⟩
  · cases h

theorem GotFacts.of (h1 : buildPlan P c.sTree = some (zeroTree, [(0, 1), (1, 1), (2, 1), (3, 1), (4, 1)])) (h2 : chkPlan P c.sTag 2 [(0, 1), (1, 1)] = true) (h3 : zeroTy P c.sTree = some (.agg ⟨zeroTree⟩, 5)) (h4 : chkZero P c.tTree 5 = true) (h5 : chkZero P c.tTag 2 = true)
    (h6 : RowFacts P c.sTree 5) (h7 : RowFacts P c.sTag 2) : GotFacts P c := ⟨h1, plan_of h2, h3, zero_of h4, zero_of h5, h6, h7⟩

theorem RfFacts.of {S : Nat} (h1 : buildPlan P c.tRd = some ([.slice none 0 0, .bool false], [(0, 1), (1, 1)])) (h2 : zeroTy P c.tRd = some (.agg #[.slice none 0 0, .bool false], 2)) (h3 : (P.info? c.tRd).map (·.size) = some 2) (h4 : fieldOff P S 0 = some 0) (h5 : oneTy P c.tI16 = true) : RfFacts P c S :=
  ⟨⟨false, h1, rfl⟩, h2, h3, h4, h5⟩

def isIface : Option TypeDesc → Bool
  | some (.interface _) => true
  | _ => false

theorem iface_of {t : Nat} (h : isIface (P.underlying t) = true) : ∃ ms, P.underlying t = some (.interface ms) := by
  unfold isIface at h
  split at h
  · rename_i ms hm; exact ⟨ms, hm⟩
  · cases h
end Go.Kf
/- Reading hangs on no function's number. -/
namespace Go.Kf
open Go

mutual
def eraseS : Step → Step
  | .call pk _ i _ _ => .call pk 0 i 0 0
  | .uuid _ i _ => .uuid 0 i 0
  | .listP lk _ i _ _ pk _ _ => .listP lk 0 i 0 0 pk 0 0
  | .listS lk _ i _ _ _ _ _ dflt ss => .listS lk 0 i 0 0 0 0 0 dflt (eraseSs ss)
  | .sub i _ _ _ ds _ ss => .sub i 0 0 0 ds [] (eraseSs ss)
  | .strP pk _ i _ _ => .strP pk 0 i 0 0
def eraseSs : List Step → List Step
  | [] => []
  | s :: ss => eraseS s :: eraseSs ss
end

mutual
theorem runStep_erase : ∀ (s : Step) (fs : List FV) (r : Rd), runStep (eraseS s) fs r = runStep s fs r
  | .call .., _, _ => rfl
  | .uuid .., _, _ => rfl
  | .listP .., _, _ => rfl
  | .listS lk f i a b c d e dflt ss, fs, r => by
    have h : (fun r => runSteps (eraseSs ss) dflt r) = fun r => runSteps ss dflt r := funext fun r => runSteps_erase ss dflt r
    simp only [eraseS, runStep, h]
  | .sub i a b c ds l ss, fs, r => by
    simp only [eraseS, runStep, runSteps_erase ss]
  | .strP .., _, _ => rfl
theorem runSteps_erase : ∀ (ss : List Step) (fs : List FV) (r : Rd), runSteps (eraseSs ss) fs r = runSteps ss fs r
  | [], _, _ => rfl
  | s :: ss, fs, r => by
    simp only [eraseSs, runSteps, runStep_erase s]
    cases runStep s fs r with
    | none => rfl
    | some x => exact runSteps_erase ss x.1 x.2
end

theorem told_same {ss ss' : List Step} (h : eraseSs ss = eraseSs ss') (fs1 : List FV) (g : List FV → PT) (l : List UInt8) : toldOf ss fs1 g l = toldOf ss' fs1 g l := by
  unfold toldOf
  rw [← runSteps_erase ss, h, runSteps_erase]
end Go.Kf
/- A door at a version, from a message's parts. -/
namespace Go.Kf
open Go

theorem door_ver {P : Program} {c : Nums} {e : Fns} {fDoor fNew fSet fRead fRf fDef fTell S : Nat} {ds : List Dset} {ls : List Nat} {ss : List Step} {v : Int} {uns : Bool} {fs0 fs1 : List FV} {mid mid1 : List Value} {ts : List Ty} {gp : List FV → PT} (F : RdFacts P c) (O : OctFacts P c) (K : TellFacts P c)
    (Z : TyFacts P c c.tTree c.tTrees c.tTagL c.tTag) (A : RfFacts P c S) (hOk : hasRet ss = true → OkGives P e.ok) (hCo : CompGives P e.complete c.gErr) (herr : ∃ ms, P.underlying c.tErr = some (.interface ms)) (hN : NewOk P fNew (.int .i16 0 :: mid)) (hDef : DefSets P fDef ls ds) (hTell : TellOf P fTell ts gp)
    (hTd : treeIn P fDoor noOrc [.tmp 0, .tmp 1] 2 = tDoor c fNew fSet fRead fTell) (hTs : treeIn P fSet noOrc [.tmp 0, .tmp 1] 2 = tSetVersion c S) (hTw : treeIn P fRead noOrc [.tmp 0, .tmp 1] 2 = tWrap fRf uns)
    (hTr : treeIn P fRf (orcV 9 v) [.tmp 0, .tmp 1, .const (.bool uns)] 3 = gReadFrom c e S fDef v ss) (hok : StepsOk P c S ls ss) (hdeep : deepsOk ss = true) (hsh : shapesOk fs0 ds = true) (h0 : fs0.map FV.wd = ls) (h01 : applyD ds fs0 = fs1) (hidx : idxOk fs1 ss = true)
    (himm0 : immL fs0 = some (.int .i16 v :: mid)) (himm : immL fs1 = some mid1) (hv : fs1[0]? = some (.one (.int .i16 v))) (hl1 : fs1.map FV.wd = ls) (hty : tySteps ts ss = true) (htd : okImms fs1 ts = true) (hver : IntKind.i16.wrap v = v)
    {w : World} {l : List UInt8} {data e0 : Value} (hl : l.length ≤ 1073741824) (hd : DataIn w data l) (he : ErrAt w c.gErr e0) (he0 : ∃ d y, e0 = .iface d y) : Gives P fDoor [.int .i64 v, data] w fun u w' => DoorPost w w' u (toldOf ss fs1 gp l) ∧ Keeps [] w w' := by
  refine door_gives (x0 := .int .i16 0) (mid := mid) (e0 := e0) (out := fun l => toldOf ss fs1 gp l) F O K Z hTd herr he0 hver hN (fun w V hV => setVersion_gives F A.oneI16 A.ver hTs hV v) ?_ (by omega) hd he
  intro w V D src _ hV hr hn hb hD hVD he hgV
  exact rt_gives F A hOk hCo hTr hTw hDef hok hdeep hsh h0 h01 hidx himm0 himm hv hl1 hty htd hTell hV hr hn hb hD hVD he hgV (by omega)
end Go.Kf
/- Maps from numbers: their operations. -/
namespace Go.Kf
open Go

def MapIs (w : World) (b : Nat) (es : List MapEntry) (clock : Nat) : Prop := w.heap[b]? = some (.map ⟨es⟩ clock)

theorem MapIs.lt {w : World} {b clock : Nat} {es : List MapEntry} (h : MapIs w b es clock) : b < w.heap.size := (Array.getElem?_eq_some_iff.1 h).1

theorem MapIs.keep {M : List Nat} {w w' : World} {b clock : Nat} {es : List MapEntry} (h : MapIs w b es clock) (hk : Keeps M w w') (hm : b ∉ M) : MapIs w' b es clock := by
  have hl := h.lt
  unfold MapIs at *
  rw [hk.block b hl hm]; exact h

/-- An iterator. -/
def IterIs (w : World) (b mb since : Nat) (seen : List Nat) (last : Nat) : Prop := w.heap[b]? = some (.mapIter (some mb) since ⟨seen⟩ last)

theorem IterIs.lt {w : World} {b mb s l : Nat} {seen : List Nat} (h : IterIs w b mb s seen l) : b < w.heap.size := (Array.getElem?_eq_some_iff.1 h).1

theorem IterIs.keep {M : List Nat} {w w' : World} {b mb s l : Nat} {seen : List Nat} (h : IterIs w b mb s seen l) (hk : Keeps M w w') (hm : b ∉ M) : IterIs w' b mb s seen l := by
  have hl := h.lt
  unfold IterIs at *
  rw [hk.block b hl hm]; exact h

theorem keeps_put (w : World) (b : Nat) (o : Obj) : Keeps [b] w { w with heap := w.heap.setIfInBounds b o } :=
  ⟨rfl, rfl, rfl, by simp, fun k hk hm => by
    simp only [List.mem_singleton] at hm
    rw [Array.getElem?_setIfInBounds, if_neg (fun e => hm e.symm)]⟩

theorem put_at {w : World} {b : Nat} (o : Obj) (h : b < w.heap.size) : (w.heap.setIfInBounds b o)[b]? = some o := by
  simp [h]

section
variable {P : Program} {ρ : Nat → Value} {w : World}

theorem a_makeMap {t : Nat} : ∃ w', runOp P ρ (.makeMap t none) w = .ok (.value (.map (some w.heap.size))) w' ∧ MapIs w' w.heap.size [] 0 ∧ Keeps [] w w' ∧ w'.heap.size = w.heap.size + 1 := by
  refine ⟨{ w with heap := w.heap.push (.map #[] 0) }, ?_, ?_, keeps_alloc w _ _, by simp⟩
  · unfold runOp bareOp
    simp only [execOp, Instr.makeMap, Option.map_none, Sem.run_bind, Sem.run_pure, Result.andThen_ok, run_newObj]
  · unfold MapIs
    simp

/-- A key's entry. -/
def keyIs (n : Int) (e : MapEntry) : Bool := match e.key with
  | .int _ m => n == m
  | _ => false

/-- An update, of the entries. -/
def esSet : List MapEntry → Int → Value → Nat → List MapEntry
  | [], n, v, clock => [{ key := .int .u32 n, val := v, born := clock }]
  | e :: es, n, v, clock => if keyIs n e then { e with key := .int .u32 n, val := v } :: es else e :: esSet es n v clock

def esHas (es : List MapEntry) (n : Int) : Bool := es.any (keyIs n)

def Keys32 (es : List MapEntry) : Prop := ∀ e ∈ es, ∃ m, e.key = .int .u32 m

theorem findNow_spec {k : Int} : ∀ (es : List MapEntry) (i : Nat), Keys32 es → (esHas es k = false ∧ Instr.findNow (.int .u32) (.int .u32 k) es i = some none) ∨
    ∃ j e, es[j]? = some e ∧ keyIs k e = true ∧ (∀ j' e', j' < j → es[j']? = some e' → keyIs k e' = false) ∧ Instr.findNow (.int .u32) (.int .u32 k) es i = some (some (i + j, e.val))
  | [], i, _ => .inl ⟨rfl, rfl⟩
  | e :: es, i, h => by
    obtain ⟨m, hm⟩ := h e List.mem_cons_self
    by_cases hkm : k = m
    · refine .inr ⟨0, e, rfl, by simp [keyIs, hm, hkm], fun j' e' hj => by omega, ?_⟩
      simp [Instr.findNow, Instr.sameNow, hm, hkm]
    · have hf : keyIs k e = false := by simp [keyIs, hm, hkm]
      have hstep : Instr.findNow (.int .u32) (.int .u32 k) (e :: es) i = Instr.findNow (.int .u32) (.int .u32 k) es (i + 1) := by
        have hb : (k == m) = false := by simpa using hkm
        simp [Instr.findNow, Instr.sameNow, hm, hb]
      rcases findNow_spec es (i + 1) (fun x hx => h x (List.mem_cons_of_mem _ hx)) with ⟨h1, h2⟩ | ⟨j, e', h1, h2, h3, h4⟩
      · refine .inl ⟨by simp [esHas, hf] at h1 ⊢; exact h1, by rw [hstep, h2]⟩
      · refine .inr ⟨j + 1, e', by simpa using h1, h2, fun j' e'' hj he => ?_, by rw [hstep, h4]; congr 3; omega⟩
        cases j' with
        | zero => simp only [List.getElem?_cons_zero, Option.some.injEq] at he; rw [← he]; exact hf
        | succ j' => exact h3 j' e'' (by omega) (by simpa using he)

theorem esSet_push {n : Int} {v : Value} {clock : Nat} : ∀ {es : List MapEntry}, esHas es n = false → esSet es n v clock = es ++ [{ key := .int .u32 n, val := v, born := clock }]
  | [], _ => rfl
  | e :: es, h => by
    simp only [esHas, List.any_cons, Bool.or_eq_false_iff] at h
    simp only [esSet, h.1, Bool.false_eq_true, if_false, List.cons_append]
    rw [esSet_push h.2]

theorem esSet_modify {n : Int} {v : Value} {clock : Nat} : ∀ {es : List MapEntry} {j : Nat} {e : MapEntry}, es[j]? = some e → keyIs n e = true → (∀ j' e', j' < j → es[j']? = some e' → keyIs n e' = false) →
    esSet es n v clock = es.modify j fun e => { e with key := .int .u32 n, val := v }
  | [], j, e, h, _, _ => by simp at h
  | x :: es, 0, e, h, hk, _ => by
    simp only [List.getElem?_cons_zero, Option.some.injEq] at h
    subst h
    simp [esSet, hk]
  | x :: es, j + 1, e, h, hk, hb => by
    have hx := hb 0 x (by omega) rfl
    simp only [esSet, hx, Bool.false_eq_true, if_false, List.modify_succ_cons]
    rw [esSet_modify (by simpa using h) hk fun j' e' hj he => hb (j' + 1) e' (by omega) (by simpa using he)]

theorem run_checkKey {kt : Nat} {k : Int} {b : Bool} (hk : P.underlying kt = some (.int .u32)) : (Instr.checkKey b 10000 kt (.int .u32 k)).run P w = .ok () w := by
  unfold Instr.checkKey
  simp [run_under hk]

theorem a_mapUpdate {t kt et b clock : Nat} {m k x : Operand} {es : List MapEntry} {n : Int} {v : Value} (ht : P.underlying t = some (.map kt et)) (hk : P.underlying kt = some (.int .u32)) (hm : ev ρ m = .map (some b)) (hkey : ev ρ k = .int .u32 n) (hv : ev ρ x = v)
    (hb : MapIs w b es clock) (h32 : Keys32 es) : ∃ w', runOp P ρ (.mapUpdate t m k x) w = .ok .skip w' ∧ MapIs w' b (esSet es n v clock) (if esHas es n then clock else clock + 1) ∧ Keeps [b] w w' := by
  have hbs := hb.lt
  have hg : (getObj b).run P w = .ok (.map ⟨es⟩ clock) w := MapKept.run_getObj_map hb
  rcases findNow_spec (k := n) es 0 h32 with ⟨h1, h2⟩ | ⟨j, e, h1, h2, h3, h4⟩
  · refine ⟨{ w with heap := w.heap.setIfInBounds b (.map ⟨esSet es n v clock⟩ (clock + 1)) }, ?_, ?_, keeps_put _ _ _⟩
    · unfold runOp bareOp
      simp only [execOp, Instr.mapUpdate, hm, hkey, hv, Sem.run_bind, run_under ht, Result.andThen_ok, hg, run_checkKey hk, Instr.findKey, run_under hk, h2, Sem.run_pure, MapKept.run_setObj_map _ hb]
      rw [esSet_push h1]
      simp
    · unfold MapIs
      rw [h1]
      exact put_at _ hbs
  · have hhas : esHas es n = true := List.any_eq_true.2 ⟨e, List.mem_of_getElem? h1, h2⟩
    refine ⟨{ w with heap := w.heap.setIfInBounds b (.map ⟨esSet es n v clock⟩ clock) }, ?_, ?_, keeps_put _ _ _⟩
    · obtain ⟨m', hm'⟩ := h32 e (List.mem_of_getElem? h1)
      have hmn : m' = n := by simp [keyIs, hm'] at h2; exact h2.symm
      subst hmn
      have hstay : ∀ w, (Instr.keyThatStays (.int .u32 m') (.int .u32 m')).run P w = .ok (.int .u32 m') w := fun w => by
        simp [Instr.keyThatStays, Instr.sameBits]
      have hold : ((((⟨es⟩ : Array MapEntry)[0 + j]?).map (·.key)).getD (.int .u32 m')) = .int .u32 m' := by
        rw [Nat.zero_add, List.getElem?_toArray, h1]; exact hm'
      unfold runOp bareOp
      simp only [execOp, Instr.mapUpdate, hm, hkey, hv, Sem.run_bind, run_under ht, Result.andThen_ok, hg, run_checkKey hk, Instr.findKey, run_under hk, h4, Sem.run_pure, hold, hstay, MapKept.run_setObj_map _ hb]
      rw [esSet_modify h1 h2 h3]
      simp
    · unfold MapIs
      rw [hhas]
      exact put_at _ hbs

theorem l_lookup {t kt et b clock j : Nat} {m k : Operand} {es : List MapEntry} {n : Int} {e : MapEntry} (ht : P.underlying t = some (.map kt et)) (hk : P.underlying kt = some (.int .u32)) (hm : ev ρ m = .map (some b)) (hkey : ev ρ k = .int .u32 n)
    (hb : MapIs w b es clock) (h32 : Keys32 es) (hj : es[j]? = some e) (hje : keyIs n e = true) (hjb : ∀ j' e', j' < j → es[j']? = some e' → keyIs n e' = false) : runOp P ρ (.lookup t m k false) w = .ok (.value e.val) w := by
  have hg : (getObj b).run P w = .ok (.map ⟨es⟩ clock) w := MapKept.run_getObj_map hb
  rcases findNow_spec (k := n) es 0 h32 with ⟨h1, h2⟩ | ⟨j', e', h1, h2, h3, h4⟩
  · have : esHas es n = true := List.any_eq_true.2 ⟨e, List.mem_of_getElem? hj, hje⟩
    rw [this] at h1; cases h1
  · have hjj : j' = j := by
      rcases Nat.lt_trichotomy j' j with h | h | h
      · have := hjb j' e' h h1; rw [h2] at this; cases this
      · exact h
      · have := h3 j e h hj; rw [hje] at this; cases this
    subst hjj
    obtain rfl : e' = e := by rw [hj] at h1; simpa using h1.symm
    unfold runOp bareOp
    simp only [execOp, Instr.lookup, hm, hkey, Sem.run_bind, run_under ht, Result.andThen_ok, hg, Sem.run_pure, run_checkKey hk, Instr.findKey, run_under hk, h4]
    simp

theorem l_lenMap {t kt et b clock : Nat} {x : Operand} {es : List MapEntry} (ht : P.underlying t = some (.map kt et)) (hx : ev ρ x = .map (some b)) (hb : MapIs w b es clock) : runOp P ρ (.call { callee := .builtin .len, args := ⟨[x]⟩, argTypes := ⟨[t]⟩ }) w = .ok (.value (.int .i64 es.length)) w := by
  have hg : (getObj b).run P w = .ok (.map ⟨es⟩ clock) w := MapKept.run_getObj_map hb
  unfold runOp bareOp
  simp only [execOp, resolve, pure_bind, invoke, builtin, Builtin.len_]
  simp [run_under ht, hx, goInt, hg]

theorem v_lenNilMap {t kt et : Nat} {x : Operand} (ht : P.underlying t = some (.map kt et)) (hx : ev ρ x = .map none) : Val P ρ (.call { callee := .builtin .len, args := ⟨[x]⟩, argTypes := ⟨[t]⟩ }) (.int .i64 0) := fun w => by
  unfold runOp bareOp
  simp only [execOp, resolve, pure_bind, invoke, builtin, Builtin.len_]
  simp [run_under ht, hx, goInt]

theorem a_range {t kt et b clock : Nat} {x : Operand} {es : List MapEntry} (ht : P.underlying t = some (.map kt et)) (hx : ev ρ x = .map (some b)) (hb : MapIs w b es clock) :
    ∃ w', runOp P ρ (.range t x) w = .ok (.value (ptr w.heap.size)) w' ∧ IterIs w' w.heap.size b clock [] clock ∧ Keeps [] w w' ∧ w'.heap.size = w.heap.size + 1 := by
  have hg : (getObj b).run P w = .ok (.map ⟨es⟩ clock) w := MapKept.run_getObj_map hb
  refine ⟨{ w with heap := w.heap.push (.mapIter (some b) clock #[] clock) }, ?_, ?_, keeps_alloc w _ _, by simp⟩
  · unfold runOp bareOp
    simp only [execOp, Instr.range, hx, Sem.run_bind, run_under ht, Result.andThen_ok, hg, Sem.run_pure, run_newObj]
    rfl
  · unfold IterIs
    simp

/-- A step of an iterator: none is left, or one of those that are left. -/
theorem a_next {b mb clock : Nat} {x : Operand} {es : List MapEntry} {seen : List Nat} (hx : ev ρ x = ptr b) (hi : IterIs w b mb clock seen clock) (hm : MapIs w mb es clock) (hborn : ∀ e ∈ es, e.born < clock) :
    ((∀ e ∈ es, e.born ∈ seen) ∧ ∃ w', runOp P ρ (.next x false) w = .ok (.value (.tuple #[.bool false])) w' ∧ Keeps [] w w') ∨
    ∃ e ∈ es, e.born ∉ seen ∧ ∃ w', runOp P ρ (.next x false) w = .ok (.value (.tuple #[.bool true, e.key, e.val])) w' ∧ IterIs w' b mb clock (seen ++ [e.born]) clock ∧ Keeps [b] w w' := by
  have hgi : (getObj b).run P w = .ok (.mapIter (some mb) clock ⟨seen⟩ clock) w := by
    unfold IterIs at hi
    simp [getObj, Sem.run, hi]
  have hgm : (getObj mb).run P w = .ok (.map ⟨es⟩ clock) w := MapKept.run_getObj_map hm
  have hall : (!(⟨seen⟩ : Array Nat).isEmpty && !(⟨es⟩ : Array MapEntry).isEmpty && (⟨es⟩ : Array MapEntry).all (fun e => decide (e.born ≥ clock))) = false := by
    cases es with
    | nil => simp
    | cons e es =>
      have h1 := hborn e List.mem_cons_self
      have : ¬ (clock ≤ e.born) := by omega
      simp [this]
  generalize hleft : ((⟨es⟩ : Array MapEntry).filter fun e => !(⟨seen⟩ : Array Nat).contains e.born) = left at *
  have hl1 : ∀ e, e ∈ left ↔ e ∈ es ∧ e.born ∉ seen := by
    intro e
    rw [← hleft]
    simp
  have hold : left.filter (fun e => decide (e.born < clock)) = left := by
    apply Array.ext'
    rw [Array.toList_filter, List.filter_eq_self]
    intro e he
    have := ((hl1 e).1 (by simpa using he)).1
    simpa using hborn e this
  have hnew : left.filter (fun e => decide (e.born ≥ clock)) = #[] := by
    apply Array.ext'
    rw [Array.toList_filter, List.filter_eq_nil_iff]
    intro e he
    have := ((hl1 e).1 (by simpa using he)).1
    have := hborn e this
    simp; omega
  obtain ⟨i, w1, hc, hlt, k1, hheap⟩ : ∃ i w1, (choose (.mapNext ((if left.isEmpty then #[none] else #[]) ++ (left ++ #[]).map some : Array (Option MapEntry)).size)).run P w = .ok i w1 ∧ i < ((if left.isEmpty then #[none] else #[]) ++ (left ++ #[]).map some : Array (Option MapEntry)).size ∧ Keeps [] w w1 ∧ w1.heap = w.heap := by
    have hpos : 0 < ((if left.isEmpty then #[none] else #[]) ++ (left ++ #[]).map some : Array (Option MapEntry)).size := by
      cases hle : left.isEmpty with
      | true => simp; omega
      | false =>
        have : left.size ≠ 0 := by
          intro h0
          rw [Array.isEmpty_eq_false_iff] at hle
          exact hle (Array.eq_empty_of_size_eq_zero h0)
        simp; omega
    generalize ((if left.isEmpty then #[none] else #[]) ++ (left ++ #[]).map some : Array (Option MapEntry)).size = N at *
    rw [run_choose_drew]
    by_cases hf : (Question.mapNext N).forced = true
    · rw [if_pos hf]; exact ⟨0, w, rfl, hpos, .refl, rfl⟩
    · rw [if_neg hf]; exact ⟨_, w.drew, rfl, Nat.mod_lt _ hpos, keeps_drawn _ _ _, rfl⟩
  have hi1 : w1.heap[b]? = some (.mapIter (some mb) clock ⟨seen⟩ clock) := by rw [hheap]; exact hi
  have hset : ∀ o, (setObj b o).run P w1 = .ok () { w1 with heap := w1.heap.setIfInBounds b o } := fun o => by simp [setObj, Sem.run, hi1]
  by_cases hle : left.isEmpty = true
  · left
    have hnil : left = #[] := by simpa using hle
    refine ⟨fun e he => ?_, w1, ?_, k1⟩
    · by_cases hs : e.born ∈ seen
      · exact hs
      · have := (hl1 e).2 ⟨he, hs⟩
        rw [hnil] at this
        simp at this
    · rw [hle] at hc hlt
      rw [hnil] at hc hlt
      simp only [if_true, Array.append_empty, Array.map_empty] at hc hlt
      have h0 : i = 0 := by simp at hlt; omega
      subst h0
      unfold runOp bareOp
      simp only [execOp, Instr.next, hx, ptr, Sem.run_bind, Result.andThen_ok, hgi, hgm, hall, Bool.false_eq_true, if_false, hleft, hold, hnew, hle, if_true]
      rw [hnil]
      simp only [Array.append_empty, Array.map_empty, hc, Result.andThen_ok]
      simp
  · right
    have hf : left.isEmpty = false := by simpa using hle
    rw [hf] at hc hlt
    simp only [Bool.false_eq_true, if_false, Array.append_empty, Array.empty_append, Array.size_map] at hc hlt
    have hmem : left[i] ∈ left := Array.getElem_mem _
    refine ⟨left[i], ((hl1 _).1 hmem).1, ((hl1 _).1 hmem).2, { w1 with heap := w1.heap.setIfInBounds b (.mapIter (some mb) clock ((⟨seen⟩ : Array Nat).push left[i].born) clock) }, ?_, ?_, (k1.mono (by simp)).trans (keeps_put _ _ _)⟩
    · unfold runOp bareOp
      simp only [execOp, Instr.next, hx, ptr, Sem.run_bind, Result.andThen_ok, hgi, hgm, hall, Bool.false_eq_true, if_false, hleft, hold, hnew, hf, Array.append_empty, Array.empty_append, Array.size_map, hc]
      have hget : (left.map some)[i]? = some (some left[i]) := by simp [hlt]
      rw [hget]
      simp only [Sem.run_bind, hset, Result.andThen_ok, Sem.run_pure]
    · unfold IterIs
      rw [put_at _ (Array.getElem?_eq_some_iff.1 hi1).1]
      simp

/-- The entry behind a step. -/
theorem l_entry {b mb clock : Nat} {x : Operand} {es : List MapEntry} {seen : List Nat} {e : MapEntry} (hx : ev ρ x = ptr b) (hi : IterIs w b mb clock (seen ++ [e.born]) clock) (hm : MapIs w mb es clock) (he : e ∈ es) (hp : es.Pairwise (fun a b => a.born < b.born)) :
    runOp P ρ (.entry x) w = .ok (.value (.tuple #[e.key, e.val])) w := by
  have hgi : (getObj b).run P w = .ok (.mapIter (some mb) clock ⟨seen ++ [e.born]⟩ clock) w := by
    unfold IterIs at hi
    simp [getObj, Sem.run, hi]
  have hgm : (getObj mb).run P w = .ok (.map ⟨es⟩ clock) w := MapKept.run_getObj_map hm
  have hfind : (⟨es⟩ : Array MapEntry).find? (fun x => x.born == e.born) = some e := by
    show es.toArray.find? _ = _
    rw [List.find?_toArray]
    have : ∀ (es : List MapEntry), e ∈ es → es.Pairwise (fun a b => a.born < b.born) → es.find? (fun x => x.born == e.born) = some e := by
      intro es
      induction es with
      | nil => intro h; cases h
      | cons a es ih =>
        intro h hp
        rcases List.mem_cons.1 h with h1 | h1
        · rw [← h1]; simp
        · have hlt := (List.pairwise_cons.1 hp).1 e h1
          rw [List.find?_cons_of_neg (by simp; omega)]
          exact ih h1 (List.pairwise_cons.1 hp).2
    exact this es he hp
  have hback : (⟨seen ++ [e.born]⟩ : Array Nat).back? = some e.born := by
    show (seen ++ [e.born]).toArray.back? = _
    simp
  unfold runOp bareOp
  simp only [execOp, Instr.entry, hx, ptr, Sem.run_bind, Result.andThen_ok, hgi, hgm, hback, hfind, bne_self_eq_false, Bool.false_eq_true, if_false, Sem.run_pure]
end
end Go.Kf
/- Unknown tags: how they are set and read. -/
namespace Go.Kf
open Go

/-- The types' facts that tags ask. -/
structure TagFacts (P : Program) (c : Nums) : Prop where
  f0 : fieldOff P c.tTags 0 = some 0
  map : P.underlying c.tMap = some (.map c.tU32 c.tBytes)
  oneMap : oneTy P c.tMap = true
  agg : aggTy P c.tTags = some 1
  zero : zeroTy P c.tTags = some (.agg ⟨[.map none]⟩, 1)
  keys : P.underlying c.tKeys = some (.slice c.tU32)
  oneKeys : oneTy P c.tKeys = true
  zeroKeys : zeroTy P c.tKeys = some (.slice none 0 0, 1)
  oneU32 : oneTy P c.tU32 = true
  zeroU32 : chkInfo P c.tU32 1 8 = true

theorem EntsAt.any {D : Nat} {w w' : World} {M : List Nat} {es : List MapEntry} {m : TM} (h : ∀ L, EntsAt D w L es m) (hk : Keeps M w w') (hD : D ∉ M) : ∀ L, EntsAt D w' L es m := by
  intro L
  have hb : ∃ B, ∀ b ∈ M, b < B := by
    clear hD hk
    induction M with
    | nil => exact ⟨0, fun b hb => by cases hb⟩
    | cons x M ih =>
      obtain ⟨B, hB⟩ := ih
      exact ⟨B + x + 1, fun b hb => by
        rcases List.mem_cons.1 hb with h | h
        · omega
        · have := hB b h; omega⟩
  obtain ⟨B, hB⟩ := hb
  exact EntsAt.imp (fun e p ⟨he, nl, ho⟩ => ⟨he, nl, (ho.keep hk (fun b hb => ⟨fun e => hD (by rw [← e]; exact hb), by have := hB b hb; omega⟩)).mono (Nat.le_add_right L B)⟩) (h (L + B))

/-- Tags whose octets lie in block D alone, in a map from h0 on. -/
def TagsZ (D : Nat) (w : World) (h0 : Nat) (m : TM) (v : Value) : Prop :=
  (v = .map none ∧ m = []) ∨ ∃ b es clock, h0 ≤ b ∧ v = .map (some b) ∧ MapIs w b es clock ∧ (∀ L, EntsAt D w L es m) ∧ es.Pairwise (fun a b => a.born < b.born) ∧ (∀ e ∈ es, e.born < clock) ∧
    (∀ p ∈ m, p.1 < 2 ^ 32) ∧ (m.map (·.1)).Nodup ∧ m ≠ []

theorem TagsZ.at {D h0 lo : Nat} {w : World} {m : TM} {v : Value} (h : TagsZ D w h0 m v) (hl : lo ≤ h0) : TagsAt D w lo m v := by
  rcases h with h | ⟨b, es, clock, hb, hv, hm, he, r⟩
  · exact .inl h
  · exact .inr ⟨b, ⟨es⟩, clock, by omega, hv, hm, he lo, r⟩

theorem TagsZ.keep {D h0 : Nat} {w w' : World} {m : TM} {v : Value} {M : List Nat} (h : TagsZ D w h0 m v) (hk : Keeps M w w') (hD : D ∉ M) (hm : ∀ b ∈ M, b < h0) : TagsZ D w' h0 m v := by
  rcases h with h | ⟨b, es, clock, hb, hv, hmm, he, r⟩
  · exact .inl h
  · exact .inr ⟨b, es, clock, hb, hv, hmm.keep hk (fun hb' => by have := hm b hb'; omega), EntsAt.any he hk hD, r⟩

theorem EntsAt.keys {D L : Nat} {w : World} : ∀ {es : List MapEntry} {m : TM}, EntsAt D w L es m → Keys32 es
  | [], [], _ => fun e h => by cases h
  | e :: es, p :: m, ⟨h1, h2⟩ => fun x hx => by
    rcases List.mem_cons.1 hx with h | h
    · rw [h]; exact ⟨_, h1.1⟩
    · exact EntsAt.keys h2 x h
  | [], _ :: _, h => h.elim
  | _ :: _, [], h => h.elim

theorem EntAt.is {D L : Nat} {w : World} {e : MapEntry} {p : Nat × List UInt8} (h : EntAt D w L e p) (k : Nat) : keyIs k e = decide (p.1 = k) := by
  simp only [keyIs, h.1]
  by_cases hk : p.1 = k
  · simp [hk]
  · have : ((k : Int) == (p.1 : Int)) = false := by simp; omega
    simp [hk, this]

theorem EntsAt.set {D L k clock : Nat} {w : World} {l : List UInt8} {v : Value} (hv : ∃ nl, OctAt w D L nl l v) : ∀ {es : List MapEntry} {m : TM}, EntsAt D w L es m → EntsAt D w L (esSet es k v clock) (tmSet m k l)
  | [], [], _ => ⟨⟨rfl, hv⟩, trivial⟩
  | e :: es, p :: m, ⟨h1, h2⟩ => by
    simp only [esSet, tmSet, h1.is k, decide_eq_true_eq]
    split
    · exact ⟨⟨rfl, hv⟩, h2⟩
    · exact ⟨h1, EntsAt.set hv h2⟩
  | [], _ :: _, h => h.elim
  | _ :: _, [], h => h.elim

theorem esSet_born {n : Int} {v : Value} {clock : Nat} : ∀ (es : List MapEntry), (esSet es n v clock).map (·.born) = if esHas es n then es.map (·.born) else es.map (·.born) ++ [clock]
  | [] => rfl
  | e :: es => by
    have ih := esSet_born (n := n) (v := v) (clock := clock) es
    by_cases hk : keyIs n e = true
    · have hh : esHas (e :: es) n = true := by simp [esHas, hk]
      rw [if_pos hh]
      simp [esSet, hk]
    · have hk' : keyIs n e = false := by simpa using hk
      have hh : esHas (e :: es) n = esHas es n := by simp [esHas, hk']
      rw [hh]
      simp only [esSet, hk', Bool.false_eq_true, if_false, List.map_cons, ih]
      split <;> simp

theorem born_pair {es : List MapEntry} : es.Pairwise (fun a b => a.born < b.born) ↔ (es.map (·.born)).Pairwise (· < ·) := by
  rw [List.pairwise_map]

theorem esSet_ok {n : Int} {v : Value} {clock : Nat} {es : List MapEntry} (hp : es.Pairwise (fun a b => a.born < b.born)) (hb : ∀ e ∈ es, e.born < clock) :
    (esSet es n v clock).Pairwise (fun a b => a.born < b.born) ∧ ∀ e ∈ esSet es n v clock, e.born < (if esHas es n then clock else clock + 1) := by
  have h := esSet_born (n := n) (v := v) (clock := clock) es
  refine ⟨?_, fun e he => ?_⟩
  · rw [born_pair, h]
    rw [born_pair] at hp
    split
    · exact hp
    · rw [List.pairwise_append]
      refine ⟨hp, by simp, fun a ha b hb' => ?_⟩
      obtain ⟨e, he, rfl⟩ := List.mem_map.1 ha
      simp only [List.mem_singleton] at hb'
      subst hb'
      exact hb e he
  · have hm : e.born ∈ (esSet es n v clock).map (·.born) := List.mem_map_of_mem he
    rw [h] at hm
    split
    · rename_i hh
      rw [if_pos hh] at hm
      obtain ⟨e', he', h1⟩ := List.mem_map.1 hm
      rw [← h1]; exact hb e' he'
    · rename_i hh
      rw [if_neg hh] at hm
      rcases List.mem_append.1 hm with h1 | h1
      · obtain ⟨e', he', h2⟩ := List.mem_map.1 h1
        have := hb e' he'; omega
      · simp only [List.mem_singleton] at h1; omega

theorem tmSet_keys : ∀ (m : TM) (k : Nat) (l : List UInt8), (tmSet m k l).map (·.1) = if k ∈ m.map (·.1) then m.map (·.1) else m.map (·.1) ++ [k]
  | [], k, l => rfl
  | p :: m, k, l => by
    by_cases hp : p.1 = k
    · simp [tmSet, hp]
    · have := tmSet_keys m k l
      have hpk : ¬ k = p.1 := fun e => hp e.symm
      simp only [tmSet, if_neg hp, List.map_cons, this, List.mem_cons, hpk, false_or]
      split <;> simp

theorem tmSet_nodup {m : TM} {k : Nat} {l : List UInt8} (h : (m.map (·.1)).Nodup) : ((tmSet m k l).map (·.1)).Nodup := by
  rw [tmSet_keys]
  split
  · exact h
  · rename_i hn
    rw [List.nodup_append]
    refine ⟨h, by simp, fun a ha b hb => ?_⟩
    simp only [List.mem_singleton] at hb
    subst hb
    exact fun e => hn (e ▸ ha)

theorem tmSet_lt {m : TM} {k : Nat} {l : List UInt8} (h : ∀ p ∈ m, p.1 < 2 ^ 32) (hk : k < 2 ^ 32) : ∀ p ∈ tmSet m k l, p.1 < 2 ^ 32 := fun p hp => by
  rcases tmSet_mem _ _ _ _ hp with h1 | h1
  · exact h p h1
  · rw [h1]; exact hk

theorem tmSet_ne (m : TM) (k : Nat) (l : List UInt8) : tmSet m k l ≠ [] := by
  cases m with
  | nil => simp [tmSet]
  | cons p m => simp only [tmSet]; split <;> simp

section
variable {P : Program} {c : Nums}

def tTagSet (c : Nums) : Tr :=
  gGet (.tmp 0) c.tTags 0 c.tMap 3 <| .op (.binOp .eql c.tMap (.tmp 5) (.const (.map none)) c.tMap) none [] <|
  .join 0 (.cond (.tmp 6) (.op (.makeMap c.tMap none) none [] <| gSet (.tmp 0) c.tTags 0 c.tMap (.tmp 7) 8 <| .to 0 []) (.to 0 [])) 0 <|
  gGet (.tmp 0) c.tTags 0 c.tMap 7 <| .op (.mapUpdate c.tMap (.tmp 9) (.tmp 1) (.tmp 2)) none [] <| .ret []

def TagSet (P : Program) (f : Nat) : Prop := ∀ (D h0 tb k : Nat) (w : World) (m : TM) (mv v : Value) (nl : Bool) (l : List UInt8), Has w tb [mv] → TagsZ D w h0 m mv → tb ≠ D → tb < h0 → D < h0 → h0 ≤ w.heap.size → k < 2 ^ 32 → (∀ L, OctAt w D L nl l v) →
  Gives P f [ptr tb, .int .u32 k, v] w fun _ w' => ∃ mv', Has w' tb [mv'] ∧ TagsZ D w' h0 (tmSet m k l) mv' ∧ ∃ M, Keeps M w w' ∧ ∀ b ∈ M, b = tb ∨ h0 ≤ b

theorem OctAt.any {D : Nat} {w w' : World} {M : List Nat} {nl : Bool} {l : List UInt8} {v : Value} (h : ∀ L, OctAt w D L nl l v) (hk : Keeps M w w') (hD : D ∉ M) : ∀ L, OctAt w' D L nl l v := by
  intro L
  have h1 := h L
  refine ⟨h1.1.keep hk (fun b hb hbM => ?_), h1.2.1, h1.2.2⟩
  rcases (h (b + 1)).2.2 b hb with e | e
  · exact hD (e ▸ hbM)
  · omega

theorem tagSet_gives {f : Nat} (F : RdFacts P c) (T : TagFacts P c) (hT : treeIn P f noOrc [.tmp 0, .tmp 1, .tmp 2] 3 = tTagSet c) : TagSet P f := by
  intro D h0 tb k w m mv v nl l hh hz htD htb hD hsz hk ho
  refine gives_in (ρ := en [ptr tb, .int .u32 k, v]) F.mix hT (Nat.le_refl _) rfl (by simp [opBelow]) ?_
  -- the rest, once a map lies there
  have rest : ∀ (w1 : World) (ρ : Nat → Value) (Γ : List (List Value → World → Prop)) (b : Nat) (es : List MapEntry) (clock : Nat) (M : List Nat), ρ 0 = ptr tb → ρ 1 = .int .u32 k → ρ 2 = v → Has w1 tb [.map (some b)] → h0 ≤ b → MapIs w1 b es clock → (∀ L, EntsAt D w1 L es m) → es.Pairwise (fun a b => a.born < b.born) → (∀ e ∈ es, e.born < clock) →
      (∀ p ∈ m, p.1 < 2 ^ 32) → (m.map (·.1)).Nodup → (∀ L, OctAt w1 D L nl l v) → Keeps M w w1 → (∀ b ∈ M, b = tb ∨ h0 ≤ b) →
      (gGet (.tmp 0) c.tTags 0 c.tMap 7 <| .op (.mapUpdate c.tMap (.tmp 9) (.tmp 1) (.tmp 2)) none [] <| .ret []).sem P (fun _ w' => ∃ mv', Has w' tb [mv'] ∧ TagsZ D w' h0 (tmSet m k l) mv' ∧ ∃ M, Keeps M w w' ∧ ∀ b ∈ M, b = tb ∨ h0 ≤ b) Γ 7 ρ w1 := by
    intro w1 ρ Γ b es clock M r0 r1 r2 hh1 hb hm he hp hborn h32 hnd ho1 k1 hM
    refine s_get T.f0 T.oneMap (show ev ρ (.tmp 0) = ptr tb from r0) hh1 (by rfl) ?_
    obtain ⟨w2, e2, hm2, k2⟩ := a_mapUpdate (P := P) (ρ := ext ρ 7 [ptr tb, ptr tb (0 + 0), .map (some b)]) (w := w1) (t := c.tMap) (m := .tmp 9) (k := .tmp 1) (x := .tmp 2) (n := (k : Int)) (v := v) T.map F.u32 rfl (by show ext ρ 7 _ 1 = _; rw [ext_lt (by omega)]; exact r1) (by show ext ρ 7 _ 2 = _; rw [ext_lt (by omega)]; exact r2) hm (he 0).keys
    have hDb : D ∉ [b] := by simp only [List.mem_singleton]; omega
    refine s_unit e2 (fun p hp => (by cases hp)) (s_ret0 ⟨.map (some b), hh1.keep k2 (by simp only [List.mem_singleton]; omega), .inr ⟨b, _, _, hb, rfl, hm2, ?_, (esSet_ok hp hborn).1, (esSet_ok hp hborn).2, tmSet_lt h32 hk, tmSet_nodup hnd, tmSet_ne _ _ _⟩, M ++ [b], (k1.mono fun x hx => List.mem_append_left _ hx).trans (k2.mono fun x hx => List.mem_append_right _ hx), fun x hx => ?_⟩)
    · intro L
      exact (EntsAt.any he k2 hDb L).set ⟨nl, OctAt.any ho1 k2 hDb L⟩
    · rcases List.mem_append.1 hx with h | h
      · exact hM x h
      · simp only [List.mem_singleton] at h
        subst h
        exact .inr hb
  refine s_get T.f0 T.oneMap (show ev _ (.tmp 0) = ptr tb from rfl) hh (by rfl) ?_
  rcases hz with ⟨rfl, rfl⟩ | ⟨b, es, clock, hb, rfl, hm, he, hp, hborn, h32, hnd, hne⟩
  · refine s_val (v_eqlMap (op := .eql) (a := none) (r := true) T.map rfl rfl (.inl ⟨rfl, rfl⟩)) ?_
    refine ⟨rfl, fun _ w' => ∃ b, Has w' tb [.map (some b)] ∧ h0 ≤ b ∧ MapIs w' b [] 0 ∧ Keeps [tb] w w', ?_, ?_⟩
    · refine s_cond (b := true) rfl (fun _ => ?_) (fun h => by cases h)
      obtain ⟨w1, e1, hm1, k1, z1⟩ := a_makeMap (P := P) (ρ := ext (ext (en [ptr tb, .int .u32 k, v]) 3 [ptr tb, ptr tb (0 + 0), .map none]) 6 [.bool true]) (w := w) (t := c.tMap)
      refine s_act e1 (fun p hp => (by cases hp)) ?_
      refine s_set (n := 8) (v := .map (some w.heap.size)) T.f0 T.oneMap rfl rfl (by simp [opBelow]) rfl (hh.keep k1 (by simp)) (by simp) fun w2 h2 k2 => ?_
      refine ⟨_, rfl, w.heap.size, h2, hsz, hm1.keep k2 (by simp only [List.mem_singleton]; omega), (k1.mono (by simp)).trans k2⟩
    · rintro vs w1 hvs ⟨b, h1, hb, hm1, k1⟩
      obtain rfl : vs = [] := List.eq_nil_of_length_eq_zero hvs
      exact rest w1 _ _ b [] 0 [tb] rfl rfl rfl h1 hb hm1 (fun _ => trivial) List.Pairwise.nil (fun e he => by cases he) (fun p hp => by cases hp) List.nodup_nil (OctAt.any ho k1 (by simp only [List.mem_singleton]; omega)) k1 (fun x hx => .inl (by simpa using hx))
  · refine s_val (v_eqlMap (op := .eql) (a := some b) (r := false) T.map rfl rfl (.inl ⟨rfl, rfl⟩)) ?_
    refine ⟨rfl, fun _ w' => w' = w, ?_, ?_⟩
    · exact s_cond (b := false) rfl (fun h => by cases h) (fun _ => ⟨_, rfl, rfl⟩)
    · rintro vs w1 hvs rfl
      obtain rfl : vs = [] := List.eq_nil_of_length_eq_zero hvs
      exact rest w1 _ _ b es clock [] rfl rfl rfl hh hb hm he hp hborn h32 hnd ho .refl (fun x hx => by cases hx)
end
end Go.Kf
/- Unknown tags: how they are read. -/
namespace Go.Kf
open Go

section
variable {P : Program} {c : Nums} {w : World}

def RdSpanA (P : Program) (f : Nat) : Prop := ∀ (w : World) (rb D : Nat) (r : Rd) (m : Int), RdAt w rb D r → Gives P f [ptr rb, .int .i64 m] w fun v w' =>
  (∀ lo, OctAt w' D lo (rSpan m r).1.2 (rSpan m r).1.1 v) ∧ RdAt w' rb D (rSpan m r).2 ∧ Keeps [rb] w w'

theorem spanA_gives {f : Nat} (F : RdFacts P c) (hT : treeIn P f noOrc [.tmp 0, .tmp 1] 2 = tSpan c) : RdSpanA P f := by
  intro w rb D r m h
  refine gives_in (ρ := en [ptr rb, .int .i64 m]) F.mix hT (Nat.le_refl _) rfl (by simp [opBelow]) ?_
  refine s_src F rfl h fun v hv hbv hh => ?_
  obtain ⟨a, cp, hav, hcp, hnil⟩ := hv.1.form
  refine s_val (v_len (a := a) (l := r.l.length) (c := cp) F.bytes hav) ?_
  refine s_val (v_cmp (kk := .i64) (a := r.l.length) (b := m) (r := decide ((r.l.length : Int) < m)) rfl rfl rfl) ?_
  refine s_cond (b := decide ((r.l.length : Int) < m)) rfl (fun hb => ?_) fun hb => ?_
  · have hlt : (r.l.length : Int) < m := by simpa using hb
    refine s_fail F (by omega) rfl h fun w' vs h' k' => ?_
    refine s_ret1 ?_
    simp only [rSpan, hlt, true_or, if_true]
    exact ⟨fun lo => octAt_nil w' D lo, h', k'⟩
  · have hge : ¬ (r.l.length : Int) < m := by simpa using hb
    refine s_val (v_cmp (kk := .i64) (a := m) (b := 0) (r := decide (m < 0)) rfl rfl rfl) ?_
    refine s_cond (b := decide (m < 0)) rfl (fun hb => ?_) fun hb => ?_
    · have hlt : m < 0 := by simpa using hb
      refine s_fail F (by omega) rfl h fun w' vs h' k' => ?_
      refine s_ret1 ?_
      simp only [rSpan, hlt, or_true, if_true]
      exact ⟨fun lo => octAt_nil w' D lo, h', k'⟩
    · have h0 : ¬ m < 0 := by simpa using hb
      obtain ⟨q, rfl⟩ : ∃ q : Nat, m = q := ⟨m.toNat, by omega⟩
      have hq : q ≤ r.l.length := by omega
      refine s_src F rfl h fun v2 hv2 hbv2 hh2 => ?_
      obtain ⟨a2, cp2, hav2, hcp2, hnil2⟩ := hv2.1.form
      refine s_val (v_slice3 (k := .i64) (k' := .i64) (a := a2) (l := r.l.length) (c := cp2) (h := q) F.bytes F.szU8 hav2 rfl rfl (by omega) (by omega)) ?_
      refine s_advance (kk := .i64) (m := q) F (by omega) rfl rfl (by simp [opBelow]) hq h fun w2 vs h2 k2 => ?_
      refine s_ret1 ?_
      simp only [rSpan, hge, h0, or_self, if_false]
      refine ⟨fun lo => ?_, by simpa using h2, k2⟩
      have hr2 := hv2.1
      have hr3 : Reads w (.slice a2 q q) 1 q ((bcells r.l).take (q * 1)) := Reads.to (v := .slice a2 q q) (m := q) (hav2 ▸ hr2) hq q (Nat.le_refl _) (fun e => by have := hnil2 e; omega) rfl
      rw [Nat.mul_one, bcells_take] at hr3
      have hblk : blkOf (.slice a2 q q) = blkOf v2 := by rw [hav2]; cases a2 <;> rfl
      suffices hs : ∀ u, u = .slice a2 q q → OctAt w2 D lo r.isNil (r.l.take (q : Int).toNat) u from hs _ rfl
      rintro u rfl
      refine ⟨?_, ?_, fun b hb => .inl (hbv2 b (hblk ▸ hb))⟩
      · have := hr3.keep k2 (by
          intro b hb hbM
          rw [hblk] at hb
          simp only [List.mem_singleton] at hbM
          exact h.1 (hbM ▸ hbv2 b hb))
        simpa [List.length_take, Nat.min_eq_left hq] using this
      · rw [← hv2.2.1, hav2]
        cases a2 <;> rfl

def tReadTags (c : Nums) (fUv fSpan fSet : Nat) : Tr :=
  .op (.alloc c.tTags) none [] <| .op (.alloc c.tTags) none [] <| .op (callOp fUv [.tmp 0]) none [] <| .loop 0 [.tmp 3] <| .op (.binOp .gtr c.tU32 (.tmp 4) (.const (.int .u32 0)) c.tU32) none [] <|
  .cond (.tmp 5) (.op (callOp fUv [.tmp 0]) none [] <| .op (callOp fUv [.tmp 0]) none [] <| .op (.convert c.tU32 c.tInt (.tmp 7)) none [] <| .op (callOp fSpan [.tmp 0, .tmp 8]) none [] <| .op (callOp fSet [.tmp 2, .tmp 6, .tmp 9]) none [] <|
    .op (.binOp .sub c.tU32 (.tmp 4) (.const (.int .u32 1)) c.tU32) none [] <| .to 0 [.tmp 11])
  (.op (.load c.tTags (.tmp 2)) none [] <| .op (.store c.tTags (.tmp 1) (.tmp 6)) none [] <| .ret [(.tmp 1, some c.tTags)])

theorem readTags_gives {f fUv fSpan fSet : Nat} (F : RdFacts P c) (T : TagFacts P c) (hUv : RdUv P fUv) (hSpan : RdSpanA P fSpan) (hSet : TagSet P fSet) (hT : treeIn P f noOrc [.tmp 0] 1 = tReadTags c fUv fSpan fSet) : RdAny P f .tags := by
  intro w rb D r h
  have hD0 := h.2.1
  have hrb0 : rb < w.heap.size := by obtain ⟨_, _, v, hh, _⟩ := h; exact hh.lt
  have hrD := h.1
  refine gives_in (ρ := en [ptr rb]) F.mix hT (Nat.le_refl _) rfl (by simp [opBelow]) ?_
  refine s_alloc T.zero fun w1 h1 k1 z1 => ?_
  refine s_alloc T.zero fun w2 h2 k2 z2 => ?_
  have k02 : Keeps [] w w2 := k1.trans k2
  refine s_callx (hUv w2 rb D r (h.keep k02 (by simp) (by simp))) rfl fun u w3 ⟨hu, hr3, k3⟩ => ?_
  simp only at hu hr3
  subst hu
  have e1 : w1.heap.size = w.heap.size + 1 := z1
  have s3 := k3.size
  have k03 : Keeps [rb] w w3 := (k02.mono (by simp)).trans k3
  refine ⟨rfl, fun vs w' => ∃ (n : Nat) (m : TM) (r' : Rd) (mv : Value), vs = [.int .u32 n] ∧ n < 2 ^ 32 ∧ RdAt w' rb D r' ∧ Has w' w.heap.size [.map none] ∧ Has w' (w.heap.size + 1) [mv] ∧ TagsZ D w' (w.heap.size + 2) m mv ∧ Keeps [rb] w w' ∧ w.heap.size + 2 ≤ w'.heap.size ∧
    rTagsN n m r' = rTags r, fun vs _ => match vs with
    | [.int _ n] => n.toNat
    | _ => 0, ?_, ?_⟩
  · refine ⟨(rUv r).1, [], (rUv r).2, .map none, rfl, rUv_lt r, hr3, (h1.keep k2 (by simp)).keep k3 (by simp; omega), (e1 ▸ h2).keep k3 (by simp; omega), .inl ⟨rfl, rfl⟩, k03, by omega, rfl⟩
  · rintro vs w4 hvs ⟨n, m, r4, mv, rfl, hn, hr4, hb1, hb2, hz, k04, hs4, hrun⟩
    simp only [List.length_cons, List.length_nil]
    refine s_val (v_cmp (kk := .u32) (a := n) (b := 0) (r := decide ((n : Int) > 0)) rfl rfl rfl) ?_
    refine s_cond (b := decide ((n : Int) > 0)) rfl (fun hpos => ?_) fun hpos => ?_
    · have hp : 0 < n := by have : (n : Int) > 0 := by simpa using hpos
                            omega
      obtain ⟨q, rfl⟩ : ∃ q, n = q + 1 := ⟨n - 1, by omega⟩
      refine s_callx (hUv w4 rb D r4 hr4) rfl fun u w5 ⟨hu, hr5, k5⟩ => ?_
      simp only at hu hr5
      subst hu
      refine s_callx (hUv w5 rb D _ hr5) rfl fun u w6 ⟨hu, hr6, k6⟩ => ?_
      simp only at hu hr6
      subst hu
      refine s_val (v_conv (k1 := .u32) (a := ((rUv (rUv r4).2).1 : Nat)) F.u32 F.int rfl) ?_
      have hw32 : IntKind.i64.wrap ((rUv (rUv r4).2).1 : Nat) = ((rUv (rUv r4).2).1 : Nat) := by
        have := rUv_lt (rUv r4).2
        exact i64_small (by omega) (by omega)
      rw [hw32]
      refine s_callx (hSpan w6 rb D _ _ hr6) rfl fun v w7 ⟨ho, hr7, k7⟩ => ?_
      have k57 : Keeps [rb] w4 w7 := (k5.trans k6).trans k7
      have s57 := k57.size
      have hz7 : TagsZ D w7 (w.heap.size + 2) m mv := hz.keep k57 (by simp only [List.mem_singleton]; exact fun e => hrD e.symm) (fun b hb => by simp only [List.mem_singleton] at hb; omega)
      refine s_callx (hSet D (w.heap.size + 2) (w.heap.size + 1) (rUv r4).1 w7 m mv v _ _ (hb2.keep k57 (by simp only [List.mem_singleton]; omega)) hz7 (by omega) (by omega) (by omega) (by omega) (rUv_lt r4) ho) (by simp only [List.map_cons, List.map_nil]; show [ptr w1.heap.size, _, _] = _; rw [e1]; rfl) fun _ w8 ⟨mv', hb8, hz8, M, k8, hM⟩ => ?_
      have hnin : ∀ b, b < w.heap.size + 1 → b ∉ M := fun b hb hbM => by rcases hM b hbM with h' | h' <;> omega
      refine s_val (v_arith (kk := .u32) (a := ((q + 1 : Nat) : Int)) (b := 1) (r := (q : Int)) rfl rfl ?_) ?_
      · simp only [arithOf, Option.some.injEq, IntKind.wrap, IntKind.bits, IntKind.signed]
        simp; omega
      refine ⟨_, rfl, ⟨q, tmSet m (rUv r4).1 (rSpan (rUv (rUv r4).2).1 (rUv (rUv r4).2).2).1.1, (rSpan (rUv (rUv r4).2).1 (rUv (rUv r4).2).2).2, mv', rfl, by omega, hr7.keep k8 (hnin rb (by omega)) (hnin D (by omega)), (hb1.keep k57 (by simp only [List.mem_singleton]; omega)).keep k8 (hnin _ (by omega)), hb8, hz8, ?_, by have := k8.size; omega, hrun⟩, ?_⟩
      · exact (((k04.trans k57).mono (fun x hx => List.mem_append_left _ hx)).trans (k8.mono fun x hx => List.mem_append_right _ hx) : Keeps ([rb] ++ M) w w8).less fun x hx => by
          rcases List.mem_append.1 hx with h' | h'
          · exact .inl h'
          · rcases hM x h' with h' | h' <;> exact .inr (by omega)
      · show q < (((q + 1 : Nat) : Int)).toNat
        omega
    · have hp : n = 0 := by have : ¬ (n : Int) > 0 := by simpa using hpos
                            omega
      subst hp
      have hst : rTags r = (m, r4) := hrun.symm
      refine s_lok (l_loadN (b := w1.heap.size) (o := 0) (cs := [mv]) T.agg rfl (e1 ▸ hb2) (by simp)) ?_
      refine s_storeAll (b := w.heap.size) (old := [.map none]) (cs := [mv]) T.agg rfl rfl hb1 rfl ?_ fun w5 h5 k5 => ?_
      · intro u hu
        simp only [List.mem_singleton] at hu
        subst hu
        rcases hz with ⟨rfl, _⟩ | ⟨_, _, _, _, rfl, _⟩ <;> rfl
      refine s_retAgg (b := w.heap.size) rfl h5 T.agg ?_
      simp only [PK.run, hst]
      refine ⟨⟨[mv], rfl, mv, rfl, ?_⟩, hr4.keep k5 (by simp only [List.mem_singleton]; omega) (by simp only [List.mem_singleton]; omega), ?_⟩
      · exact (hz.keep k5 (by simp only [List.mem_singleton]; omega) (fun b hb => by simp only [List.mem_singleton] at hb; omega)).at (by omega)
      · exact ((k04.mono (fun x hx => List.mem_append_left [w.heap.size] hx)).trans (k5.mono fun x hx => List.mem_append_right _ hx) : Keeps ([rb] ++ [w.heap.size]) w w5).less fun x hx => by
          rcases List.mem_append.1 hx with h' | h'
          · exact .inl h'
          · simp only [List.mem_singleton] at h'; exact .inr (by omega)
end
end Go.Kf
/- Numbers sorted by the library: what a caller uses. -/
namespace Go.Kf
open Go Go.Sort Go.Proofs

def encK (x : Int) : Value := .int .u32 x

/-- The sort's contract at this closure: two elements or more; one. -/
structure SortAt (P : Program) (c : Nums) (fSort g : Nat) : Prop where
  many : ∀ (blk cap : Nat) (d : Array Int) (lb : Array Value) (w : World), 2 ≤ d.size → d.size < 4611686018427387904 → LessReads P g lb encK ltInt blk 0 d.size w → Go.Sort.Holds encK w blk 0 d → blk < w.heap.size →
    Calls P fSort #[.iface c.tKeys (.slice (some ⟨blk, 0, none⟩) d.size cap), .func (.func g) #[] lb] w fun e w' => e = .returned (.tuple #[]) ∧ ∃ d' n os, PermIn 0 d.size d d' ∧ SortedIn ltInt 0 d.size d' ∧ w' = grow (putRow encK (Go.Sort.ahead w n) blk 0 d') os
  one : ∀ (p : Option Addr) (cap : Nat) (lb : Array Value) (w : World), Calls P fSort #[.iface c.tKeys (.slice p 1 cap), .func (.func g) #[] lb] w fun e w' => e = .returned (.tuple #[]) ∧ ∃ os, w' = grow w os

def tLess (c : Nums) : Tr := .draw <| .lok (.load c.tKeys (.tmp 2)) none <| .pur (.indexAddr c.tKeys (.tmp 3) (.tmp 0)) none <| .lok (.load c.tU32 (.tmp 4)) none <| .lok (.load c.tKeys (.tmp 2)) none <| .pur (.indexAddr c.tKeys (.tmp 6) (.tmp 1)) none <| .lok (.load c.tU32 (.tmp 7)) none <|
  .pur (.binOp .lss c.tU32 (.tmp 5) (.tmp 8) c.tU32) none <| .ret [(.tmp 9, none)]

section
variable {P : Program} {c : Nums} {w : World}

theorem chk_size {t s m : Nat} (h : chkInfo P t s m = true) : (P.info? t).map (·.size) = some s := by
  obtain ⟨i, z, hi, _, hs, _⟩ := info_of h
  simp [hi, hs]

theorem l_cell {t : Nat} {ρ : Nat → Value} {x : Operand} {a : Addr} {v : Value} (ht : oneTy P t = true) (hx : ev ρ x = .pointer (some a)) (hc : w.cell? a = some v) : runOp P ρ (.load t x) w = .ok (.value v) w := by
  unfold runOp bareOp
  simp only [execOp, hx, Instr.loadAt, Instr.sureAddr, loadVar, Sem.run_bind, Sem.run_pure, Result.andThen_ok, (oneTy_spec (w := w) ht).1, Bool.false_eq_true, if_false, run_load, hc]

/-- The closure that compares. -/
theorem less_gives {g : Nat} (F : RdFacts P c) (T : TagFacts P c) (hT : treeIn P g noOrc [.tmp 0, .tmp 1, .tmp 2] 3 = tLess c) {i j n cap kb ob : Nat} {G : Nat → Int} (hi : i < n) (hj : j < n) (hs : w.cell? ⟨ob, 0, none⟩ = some (.slice (some ⟨kb, 0, none⟩) n cap)) (hc : ∀ t, t < n → w.cell? ⟨kb, 0 + t, none⟩ = some (.int .u32 (G t))) :
    Gives P g [.int .i64 i, .int .i64 j, ptr ob] w fun v w' => v = .bool (decide (G i < G j)) ∧ w' = { w with drawn := w.drawn + 1 } := by
  refine gives_in (ρ := en [.int .i64 i, .int .i64 j, ptr ob]) F.mix hT (Nat.le_refl _) rfl (by simp [opBelow]) ?_
  show Tr.sem _ _ _ _ _ _ { w with drawn := w.drawn + 1 }
  have hs' : ({ w with drawn := w.drawn + 1 } : World).cell? ⟨ob, 0, none⟩ = some (.slice (some ⟨kb, 0, none⟩) n cap) := hs
  have hc' : ∀ t, t < n → ({ w with drawn := w.drawn + 1 } : World).cell? ⟨kb, 0 + t, none⟩ = some (.int .u32 (G t)) := hc
  generalize ({ w with drawn := w.drawn + 1 } : World) = w1 at *
  have hsz := chk_size T.zeroU32
  refine l_lok (l_cell T.oneKeys rfl hs') ?_
  have h1 := v_indexAddr (P := P) (ρ := ext (en [.int .i64 i, .int .i64 j, ptr ob]) 3 [.slice (some ⟨kb, 0, none⟩) n cap]) (t := c.tKeys) (x := .tmp 3) (i := .tmp 0) (b := kb) (o := 0) (l := n) (c := cap) (j := i) (kk := .i64) T.keys hsz rfl rfl (by omega) (by omega)
  rw [Int.toNat_natCast, Nat.mul_one] at h1
  refine p_val h1 (l_lok (l_cell T.oneU32 rfl (hc' i hi)) (l_lok (l_cell T.oneKeys rfl hs') ?_))
  have h2 := v_indexAddr (P := P) (ρ := ext (ext (ext (ext (en [.int .i64 i, .int .i64 j, ptr ob]) 3 [.slice (some ⟨kb, 0, none⟩) n cap]) (3 + 1) [.pointer (some ⟨kb, 0 + i, none⟩)]) (3 + 1 + 1) [.int .u32 (G i)]) (3 + 1 + 1 + 1) [.slice (some ⟨kb, 0, none⟩) n cap]) (t := c.tKeys) (x := .tmp 6) (i := .tmp 1) (b := kb) (o := 0) (l := n) (c := cap) (j := j) (kk := .i64) T.keys hsz rfl rfl (by omega) (by omega)
  rw [Int.toNat_natCast, Nat.mul_one] at h2
  refine p_val h2 (l_lok (l_cell T.oneU32 rfl (hc' j hj)) ?_)
  refine p_val (v_cmp (kk := .u32) (a := G i) (b := G j) (r := decide (G i < G j)) rfl rfl rfl) ?_
  exact s_ret1 ⟨rfl, rfl⟩

theorem keeps_grow (w : World) (os : Array Obj) : Keeps [] w (grow w os) := ⟨rfl, rfl, rfl, by simp [grow], fun k hk _ => heap_grow_old w os hk⟩

theorem keeps_putRow (w : World) (blk : Nat) (d : Array Int) (n : Nat) : Keeps [blk] w (putRow encK (Go.Sort.ahead w n) blk 0 d) := by
  refine ⟨rfl, rfl, rfl, by simp [putRow, mapBlock], fun k _ hm => ?_⟩
  simp only [List.mem_singleton] at hm
  simp only [putRow, mapBlock, Array.getElem?_modify]
  rw [if_neg (fun e => hm e.symm)]
  rfl

theorem has_putRow {w : World} {blk : Nat} {cs : List Value} (h : Has w blk cs) (d : Array Int) (n : Nat) : ∃ cs', Has (putRow encK (Go.Sort.ahead w n) blk 0 d) blk cs' ∧ cs'.length = cs.length := by
  obtain ⟨t, fr, hb, hf⟩ := h
  refine ⟨(putCells encK 0 d ⟨cs⟩).toList, ⟨t, fr, ?_, ?_⟩, ?_⟩
  · simp only [putRow, mapBlock, Array.getElem?_modify, if_true]
    show Option.map _ w.heap[blk]? = _
    rw [hb]
    rfl
  · simpa [putCells] using hf
  · simp [putCells]

/-- What a caller of the sort is given. -/
def SortGives (P : Program) (c : Nums) (fSort g : Nat) : Prop := ∀ (w : World) (ob kb cap : Nat) (ks : List Int) (spare : List Value), Has w ob [.slice (some ⟨kb, 0, none⟩) ks.length cap] → Has w kb (ks.map encK ++ spare) → ob ≠ kb → 0 < ks.length → ks.length < 4294967296 →
  Gives P fSort [.iface c.tKeys (.slice (some ⟨kb, 0, none⟩) ks.length cap), .func (.func g) #[] #[ptr ob]] w fun _ w' => ∃ (ks' : List Int) (cs' : List Value), ks'.Perm ks ∧ ks'.Pairwise (· ≤ ·) ∧ Has w' kb cs' ∧ (∀ j (hj : j < ks'.length), cs'[j]? = some (encK ks'[j])) ∧ Keeps [kb] w w'

theorem sort_gives {fSort g : Nat} (F : RdFacts P c) (T : TagFacts P c) (hg : goFn P fSort = true) (hS : SortAt P c fSort g) (hT : treeIn P g noOrc [.tmp 0, .tmp 1, .tmp 2] 3 = tLess c) : SortGives P c fSort g := by
  intro w ob kb cap ks spare ho hk hne hpos hbig
  refine ⟨hg, ?_⟩
  have hcellk : ∀ t, t < ks.length → w.cell? ⟨kb, 0 + t, none⟩ = some (encK (ks.toArray[t]!)) := fun t ht => by
    refine hk.cell ?_
    rw [Nat.zero_add, List.getElem?_append_left (by simpa using ht), List.getElem?_map, List.getElem?_eq_getElem ht]
    simp [ht]
  by_cases h1 : ks.length = 1
  · refine Calls.mono (h1 ▸ hS.one (some ⟨kb, 0, none⟩) cap #[ptr ob] w) fun e w' ⟨he, os, hw⟩ => ?_
    subst he
    subst hw
    refine ⟨ks, _, .refl _, ?_, hk.keep (keeps_grow w os) (by simp), fun j hj => ?_, (keeps_grow w os).mono (by simp)⟩
    · match ks, h1 with
      | [x], _ => simp
    · rw [List.getElem?_append_left (by simpa using hj), List.getElem?_map, List.getElem?_eq_getElem hj]; rfl
  · have hH : Go.Sort.Holds encK w kb 0 ks.toArray := fun j hj => by
      have hj' : j < ks.length := by simpa using hj
      refine ⟨hcellk j hj', ?_⟩
      obtain ⟨t, fr, hb, hf⟩ := hk
      unfold World.frozen?
      rw [show (⟨kb, 0 + j, none⟩ : Addr).block = kb from rfl, hb]
      simp only [Nat.zero_add, Bool.and_eq_false_iff, decide_eq_false_iff_not]
      simp only [List.length_append, List.length_map] at hf
      omega
    have hblk := hk.lt
    have hob := ho.lt
    have hless : LessReads P g #[ptr ob] encK ltInt kb 0 ks.toArray.size w := by
      intro m os dk hsz i j hi hj
      have hsz' : dk.size = ks.length := by simpa using hsz
      have e : sortWorld encK w kb 0 m dk os = putRow encK (grow (Go.Sort.ahead w m) os) kb 0 dk := by
        unfold sortWorld; rw [putRow_grow _ (Go.Sort.ahead w m) _ kb 0 _ hblk]
      have hHg : Go.Sort.Holds encK (grow (Go.Sort.ahead w m) os) kb 0 ks.toArray := holds_grow _ _ _ kb 0 _ hblk (holds_ahead _ _ _ _ _ _ hH)
      obtain ⟨_, hc⟩ := less_gives (w := sortWorld encK w kb 0 m dk os) (g := g) (i := i) (j := j) (n := ks.length) (cap := cap) (kb := kb) (ob := ob) (G := fun t => dk[t]!) F T hT (by simpa using hi) (by simpa using hj)
        (by
          rw [e, cell?_putRow_other _ _ kb 0 dk _ (.inl hne), cell?_grow _ _ _ hob]
          exact ho.cell rfl)
        (fun t ht => by rw [e]; exact cell?_putRow _ _ kb 0 _ dk hHg hsz t (by omega))
      refine Calls.mono hc fun e w' he => ?_
      match e, he with
      | .returned v, ⟨hv, hw⟩ => exact ⟨by rw [hv]; rfl, 1, hw⟩
    have hm := hS.many kb cap ks.toArray #[ptr ob] w (by simp; omega) (by simp; omega) hless hH hblk
    simp only [List.size_toArray] at hm
    refine Calls.mono hm fun e w' ⟨he, d', n, os, hp, hs, hw⟩ => ?_
    subst he
    subst hw
    have hd' : d'.size = ks.length := by simpa using hp.1
    have hperm : d'.toList.Perm ks := by
      have := hp.2.2
      simpa [hd', Array.extract_eq_self_of_le] using this
    obtain ⟨cs', hcs, hcl⟩ := has_putRow hk d' n
    refine ⟨d'.toList, cs', hperm, ?_, hcs.keep (keeps_grow _ os) (by simp), fun j hj => ?_, (keeps_putRow w kb d' n).trans ((keeps_grow _ os).mono (by simp))⟩
    · rw [List.pairwise_iff_getElem]
      intro i j hi hj hij
      have hi' : i < d'.size := by simpa using hi
      have hj' : j < d'.size := by simpa using hj
      have := hs i j (Nat.zero_le _) hij (by omega)
      rw [getElem!_pos d' j hj', getElem!_pos d' i hi'] at this
      simp only [ltInt, decide_eq_false_iff_not] at this
      simp only [Array.getElem_toList]
      omega
    · have hj' : j < d'.size := by simpa using hj
      have h1 := cell?_putRow encK (Go.Sort.ahead w n) kb 0 ks.toArray d' (holds_ahead _ _ _ _ _ _ hH) (by simpa using hd') j hj'
      rw [Nat.zero_add] at h1
      obtain ⟨t, fr, hb, _⟩ := hcs
      unfold World.cell? at h1
      rw [show (⟨kb, j, none⟩ : Addr).block = kb from rfl, hb] at h1
      simp only [Option.isSome_none, Bool.false_eq_true, if_false, List.getElem?_toArray] at h1
      rw [h1, getElem!_pos d' j hj']
      simp
end
end Go.Kf
/- Unknown tags, each told in turn: the loop over the map. -/
namespace Go.Kf
open Go

def keyInt (e : MapEntry) : Int := match e.key with
  | .int _ n => n
  | _ => 0

theorem v_makeIface {P : Program} {ρ : Nat → Value} {t e : Nat} {x : Operand} {v : Value} (ht : P.underlying t = some (.slice e)) (hx : ev ρ x = v) : Val P ρ (.makeInterface t x) (.iface t v) := fun w => by
  unfold runOp bareOp
  simp only [execOp, Instr.makeInterface, Sem.run_bind, run_under ht, Result.andThen_ok, hx, Sem.run_pure]

section
variable {P : Program} {c : Nums} {R : Value → World → Prop} {Γ : List (List Value → World → Prop)} {n : Nat} {ρ : Nat → Value} {w : World} {k : Tr}

/-- A function value, called. -/
theorem s_callv {g f : Nat} {xs : List Operand} {caps args : List Value} {Post : Value → World → Prop} (hf : ρ f = .func (.func g) #[] ⟨caps⟩) (hx : xs.map (ev ρ) = args) (h : Gives P g (args ++ caps) w Post) (hk : ∀ v w', Post v w' → k.sem P R Γ (n + 1) (ext ρ n [v]) w') :
    (Tr.op (.call { callee := .value (.tmp f), args := ⟨xs⟩, argTypes := #[] }) none [] k).sem P R Γ n ρ w := by
  have hrun : runOp P ρ (.call { callee := .value (.tmp f), args := ⟨xs⟩, argTypes := #[] }) w = .ok (.enter g ⟨args ++ caps⟩) w := by
    have hg := h.1
    unfold goFn at hg
    cases hfn : P.funcs[g]? with
    | none => rw [hfn] at hg; cases hg
    | some fn =>
      rw [hfn] at hg
      simp only [Bool.and_eq_true, Bool.not_eq_true'] at hg
      have hb : fn.body.isNone = false := by
        cases hx : fn.body with
        | none => rw [hx] at hg; cases hg.1
        | some c => rfl
      have hfv : ev ρ (.tmp f) = .func (.func g) #[] ⟨caps⟩ := hf
      have ha : Array.map (ev ρ) ⟨xs⟩ = ⟨args⟩ := by rw [← hx]; simp
      unfold runOp bareOp
      simp only [execOp, resolve, hfv, ha, Deferred.ofValue, pure_bind, invoke, callFunc, Sem.run_bind, run_program, Result.andThen_ok, hfn, hg.2, hb]
      simp
  simp only [Tr.sem]
  rw [hrun]
  refine Calls.mono h.2 fun e w' he => ?_
  cases e with
  | returned v => exact ⟨fun u hu => (by cases hu), fun p hp => (by cases hp), hk v w' he⟩
  | panicked c => exact he
  | outgrown => exact he

def gRange (c : Nums) (k : Tr) : Tr :=
  .loop 0 [] <| .op (.next (.tmp 17) false) none [] <| .op (.extract (.tmp 18) 0) none [] <| .cond (.tmp 19)
    (.op (.entry (.tmp 17)) none [] <| .op (.extract (.tmp 20) 0) none [] <| .op (.load c.tKeys (.tmp 12)) none [] <| .op (.buildSlice c.tKeys 1 ⟨[(0, .tmp 21)]⟩) none [] <| .op (.call { callee := .builtin .append, args := ⟨[.tmp 22, .tmp 23]⟩, argTypes := ⟨[c.tKeys, c.tKeys]⟩ }) none [] <| .op (.store c.tKeys (.tmp 12) (.tmp 24)) none [] <| .to 0 []) k

theorem keyInt_enc {es : List MapEntry} (h : Keys32 es) {e : MapEntry} (he : e ∈ es) : e.key = encK (keyInt e) := by
  obtain ⟨m, hm⟩ := h e he
  simp [keyInt, hm, encK]

/-- The keys, in the order in which the map yields them. -/
theorem s_range {it ob mb clock B : Nat} {es : List MapEntry} {ov : Value} (T : TagFacts P c) (h17 : ρ 17 = ptr it) (h12 : ρ 12 = ptr ob) (hi : IterIs w it mb clock [] clock) (hm : MapIs w mb es clock) (h32 : Keys32 es) (hp : es.Pairwise (fun a b => a.born < b.born)) (hb : ∀ e ∈ es, e.born < clock)
    (ho : Has w ob [ov]) (hown : Own w ov 1 0 []) (hio : it ≠ ob) (hit : B ≤ it) (hob : B ≤ ob) (hov : ∀ b ∈ blkOf ov, B ≤ b ∧ b ≠ it ∧ b ≠ ob) (hmb : mb < B) (hlen : es.length < 4294967296)
    (hk : ∀ (w' : World) (ρ' : Nat → Value) (ov' : Value) (ks : List Int) (M : List Nat) (Δ : List (List Value → World → Prop)), Δ.length = 1 → (∀ x, x < 18 → ρ' x = ρ x) → ks.Perm (es.map keyInt) → Has w' ob [ov'] → Own w' ov' 1 ks.length (ks.map encK) → (∀ b ∈ blkOf ov', B ≤ b ∧ b ≠ ob) → Keeps M w w' → (∀ b ∈ M, B ≤ b) → k.sem P R Δ 20 ρ' w') :
    (gRange c k).sem P R [] 18 ρ w := by
  refine ⟨rfl, fun vs w' => ∃ (dn : List MapEntry) (ov' : Value) (M : List Nat), vs = [] ∧ dn ⊆ es ∧ (dn.map (·.born)).Nodup ∧ IterIs w' it mb clock (dn.map (·.born)) clock ∧ Has w' ob [ov'] ∧ Own w' ov' 1 dn.length (dn.map fun e => encK (keyInt e)) ∧ (∀ b ∈ blkOf ov', B ≤ b ∧ b ≠ it ∧ b ≠ ob) ∧ Keeps M w w' ∧ (∀ b ∈ M, B ≤ b),
    fun _ w' => es.length - (match w'.heap[it]? with
      | some (.mapIter _ _ seen _) => seen.size
      | _ => 0), ⟨[], ov, [], rfl, by simp, by simp, hi, ho, hown, hov, .refl, fun b hb => by cases hb⟩, ?_⟩
  rintro vs w1 hvs ⟨dn, ov1, M, rfl, hsub, hnd, hi1, ho1, hown1, hov1, k1, hM⟩
  simp only [List.length_nil, Nat.add_zero]
  have hm1 : MapIs w1 mb es clock := hm.keep k1 (fun h => by have := hM _ h; omega)
  have hs1 := k1.size
  have hsz1 : (match w1.heap[it]? with | some (.mapIter _ _ seen _) => seen.size | _ => 0) = dn.length := by
    unfold IterIs at hi1
    rw [hi1]
    simp
  rcases a_next (P := P) (ρ := ext ρ 18 []) (x := .tmp 17) (by show ext ρ 18 [] 17 = _; rw [ext_lt (by omega)]; exact h17) hi1 hm1 hb with ⟨hall, w2, e2, k2⟩ | ⟨e, he, hnew, w2, e2, hi2, k2⟩
  · refine s_act e2 (fun p hp => (by cases hp)) ?_
    refine s_val (v_extract (vs := #[.bool false]) rfl rfl) ?_
    refine s_cond (b := false) rfl (fun h => by cases h) fun _ => ?_
    have hdn : dn.Perm es := by
      have n1 : dn.Nodup := by
        rw [List.nodup_iff_pairwise_ne, List.pairwise_map] at hnd
        rw [List.nodup_iff_pairwise_ne]
        exact hnd.imp fun h e => h (by rw [e])
      have n2 : es.Nodup := by
        rw [List.nodup_iff_pairwise_ne]
        exact hp.imp fun h e => by rw [e] at h; exact Nat.lt_irrefl _ h
      refine (List.perm_ext_iff_of_nodup n1 n2).2 fun a => ⟨fun h => hsub h, fun h => ?_⟩
      obtain ⟨d, hd, hdb⟩ := List.mem_map.1 (hall a h)
      have hd' := hsub hd
      have : d = a := by
        have inj : ∀ (l : List MapEntry), l.Pairwise (fun a b => a.born < b.born) → ∀ x ∈ l, ∀ y ∈ l, x.born = y.born → x = y := by
          intro l
          induction l with
          | nil => intro _ x hx; cases hx
          | cons z l ih =>
            intro hl x hx y hy hxy
            rw [List.pairwise_cons] at hl
            rcases List.mem_cons.1 hx with rfl | hx' <;> rcases List.mem_cons.1 hy with rfl | hy'
            · rfl
            · have := hl.1 y hy'; omega
            · have := hl.1 x hx'; omega
            · exact ih hl.2 x hx' y hy' hxy
        exact inj es hp d hd' a h hdb
      rw [← this]; exact hd
    refine hk w2 _ ov1 (dn.map keyInt) M _ (by simp) (fun x hx => by rw [ext_lt (by omega), ext_lt (by omega), ext_lt (by omega)]) (hdn.map _) (ho1.keep k2 (by simp)) ?_ (fun b hb => ⟨(hov1 b hb).1, (hov1 b hb).2.2⟩) (k1.trans (k2.mono (by simp))) hM
    rw [List.length_map, List.map_map]
    exact hown1.keep k2 (by simp)
  · refine s_act e2 (fun p hp => (by cases hp)) ?_
    refine s_val (v_extract (vs := #[.bool true, e.key, e.val]) rfl rfl) ?_
    refine s_cond (b := true) rfl (fun _ => ?_) (fun h => by cases h)
    have hm2 : MapIs w2 mb es clock := hm1.keep k2 (by simp only [List.mem_singleton]; omega)
    refine s_lok (l_entry (x := .tmp 17) (by show ext _ _ _ 17 = _; rw [ext_lt (by omega), ext_lt (by omega), ext_lt (by omega)]; exact h17) hi2 hm2 he hp) ?_
    refine s_val (v_extract (vs := #[e.key, e.val]) rfl rfl) ?_
    have ho2 : Has w2 ob [ov1] := ho1.keep k2 (by simp only [List.mem_singleton]; exact fun h => hio h.symm)
    have hown2 : Own w2 ov1 1 dn.length (dn.map fun e => encK (keyInt e)) := hown1.keep k2 (fun b hb => by simp only [List.mem_singleton]; exact (hov1 b hb).2.1)
    refine s_lok (l_load1 (b := ob) (o := 0) T.oneKeys (by show ext _ _ _ 12 = _; rw [ext_lt (by omega), ext_lt (by omega), ext_lt (by omega), ext_lt (by omega), ext_lt (by omega)]; exact h12) ho2 rfl) ?_
    obtain ⟨inf, z, hinf, hz, hsz, hzc, hby⟩ := info_of T.zeroU32
    have hkey := keyInt_enc h32 he
    obtain ⟨w3, e3, h3, k3, s3⟩ := a_sliceOne (P := P) (ρ := ext (ext (ext (ext (ext (ext ρ 18 []) 18 [.tuple #[.bool true, e.key, e.val]]) (18 + 1) [.bool true]) (18 + 1 + 1) [.tuple #[e.key, e.val]]) (18 + 1 + 1 + 1) [e.key]) (18 + 1 + 1 + 1 + 1) [ov1]) (w := w2) (t := c.tKeys) (x := .tmp 21) (z := z) (cs := [e.key]) T.keys (by simp [zeroTy, hinf, hz, hsz]) (by simp) (by simp) (by show (e.key).cells = _; rw [hkey]; rfl)
    refine s_act e3 (fun p hp => (by cases hp)) ?_
    have hr3 : Reads w3 (.slice (some ⟨w2.heap.size, 0, none⟩) 1 1) 1 1 [e.key] := ⟨by simp, .inr ⟨w2.heap.size, 0, 1, [e.key], rfl, Nat.le_refl _, h3, by simp, by simp⟩⟩
    have hdl : dn.length + 1 ≤ es.length := by
      have : (dn.map (·.born) ++ [e.born]).length ≤ (es.map (·.born)).length := List.Nodup.length_le_of_subset (by
        rw [List.nodup_append]
        refine ⟨hnd, by simp, fun a ha b hb' => ?_⟩
        simp only [List.mem_singleton] at hb'
        subst hb'
        exact fun h => hnew (h ▸ ha)) (by
        intro x hx
        rcases List.mem_append.1 hx with h | h
        · obtain ⟨d, hd, rfl⟩ := List.mem_map.1 h
          exact List.mem_map_of_mem (hsub hd)
        · simp only [List.mem_singleton] at h
          subst h
          exact List.mem_map_of_mem he)
      simpa using this
    obtain ⟨ov4, w4, e4, hown4, k4, hb4⟩ := a_append (P := P) (ρ := ext (ext (ext (ext (ext (ext (ext ρ 18 []) 18 [.tuple #[.bool true, e.key, e.val]]) (18 + 1) [.bool true]) (18 + 1 + 1) [.tuple #[e.key, e.val]]) (18 + 1 + 1 + 1) [e.key]) (18 + 1 + 1 + 1 + 1) [ov1]) (18 + 1 + 1 + 1 + 1 + 1) [.slice (some ⟨w2.heap.size, 0, none⟩) 1 1]) (w := w3) (t := c.tKeys) (tx := c.tKeys) (x := .tmp 22) (y := .tmp 23) T.keys hinf hz hsz hzc rfl rfl (hown2.keep k3 (by simp)) (hr3.src T.keys (by
        intro u hu
        simp only [List.mem_singleton] at hu
        subst hu
        rw [hkey]; rfl)) (by
        have : (dn.length + 1) * inf.bytes ≤ 4294967296 * 8 := Nat.mul_le_mul (by omega) hby
        omega) (by omega)
    refine s_act e4 (fun p hp => (by cases hp)) ?_
    have hlt1 := hown2.lt
    have hnob : ob ∉ blkOf ov1 := fun h => (hov1 ob h).2.2 rfl
    have ho4 : Has w4 ob [ov1] := (ho2.keep k3 (by simp)).keep k4 hnob
    have hl2 := ho2.lt
    obtain ⟨w5, e5, h5, k5⟩ := a_store1 (P := P) (ρ := ext (ext (ext (ext (ext (ext (ext (ext ρ 18 []) 18 [.tuple #[.bool true, e.key, e.val]]) (18 + 1) [.bool true]) (18 + 1 + 1) [.tuple #[e.key, e.val]]) (18 + 1 + 1 + 1) [e.key]) (18 + 1 + 1 + 1 + 1) [ov1]) (18 + 1 + 1 + 1 + 1 + 1) [.slice (some ⟨w2.heap.size, 0, none⟩) 1 1]) (18 + 1 + 1 + 1 + 1 + 1 + 1) [ov4]) (w := w4) (t := c.tKeys) (x := .tmp 12) (y := .tmp 24) (b := ob) (o := 0) T.oneKeys (by show ext _ _ _ 12 = _; rw [ext_lt (by omega), ext_lt (by omega), ext_lt (by omega), ext_lt (by omega), ext_lt (by omega), ext_lt (by omega), ext_lt (by omega), ext_lt (by omega)]; exact h12) rfl hown4.one ho4 (by simp)
    refine s_unit e5 (fun p hp => (by cases hp)) ?_
    have hs2 := k2.size
    have hs3 := k3.size
    have hs4 := k4.size
    have hov4 : ∀ b ∈ blkOf ov4, B ≤ b ∧ b ≠ it ∧ b ≠ ob := fun b hb' => by
      rcases hb4 b hb' with h | h
      · exact hov1 b h
      · have := hi2.lt
        exact ⟨by omega, by omega, by omega⟩
    have hi5 : IterIs w5 it mb clock ((dn ++ [e]).map (·.born)) clock := by
      rw [List.map_append]
      exact ((hi2.keep k3 (by simp)).keep k4 (fun h => (hov1 it h).2.1 rfl)).keep k5 (by simp only [List.mem_singleton]; exact hio)
    refine ⟨_, rfl, ⟨dn ++ [e], ov4, (M ++ [it]) ++ (blkOf ov1 ++ [ob]), rfl, ?_, ?_, hi5, h5, ?_, hov4, ?_, ?_⟩, ?_⟩
    · intro x hx
      rcases List.mem_append.1 hx with h | h
      · exact hsub h
      · simp only [List.mem_singleton] at h; rw [h]; exact he
    · rw [List.map_append, List.nodup_append]
      refine ⟨hnd, by simp, fun a ha b hb' => ?_⟩
      simp only [List.map_cons, List.map_nil, List.mem_singleton] at hb'
      subst hb'
      exact fun h => hnew (h ▸ ha)
    · have := hown4.keep k5 (fun b hb' => by simp only [List.mem_singleton]; exact (hov4 b hb').2.2)
      rw [List.map_append, List.length_append]
      simpa [hkey] using this
    · refine ((k1.mono fun x hx => ?_).trans (k2.mono fun x hx => ?_)).trans (((k3.mono (by simp)).trans (k4.mono fun x hx => ?_)).trans (k5.mono fun x hx => ?_))
      · exact List.mem_append_left _ (List.mem_append_left _ hx)
      · exact List.mem_append_left _ (List.mem_append_right _ hx)
      · exact List.mem_append_right _ (List.mem_append_left _ hx)
      · exact List.mem_append_right _ (List.mem_append_right _ hx)
    · intro b hb'
      rcases List.mem_append.1 hb' with h | h
      · rcases List.mem_append.1 h with h | h
        · exact hM b h
        · simp only [List.mem_singleton] at h; omega
      · rcases List.mem_append.1 h with h | h
        · exact (hov1 b h).1
        · simp only [List.mem_singleton] at h; omega
    · have hsz5 : (match w5.heap[it]? with | some (.mapIter _ _ seen _) => seen.size | _ => 0) = dn.length + 1 := by
        unfold IterIs at hi5
        rw [hi5]
        simp
      rw [hsz1, hsz5]
      omega
end
end Go.Kf
/- Rows of cells that are only read: arguments, and what the program has built. -/
namespace Go.Kf
open Go

/-! ### Fields and trees -/

/-- A field, apart from memory. -/
inductive PF where
  | mk (kind fr to nul tag dflt elem : Int) (sub : List PF)

mutual
def FieldC (w : World) : PF → List Value → Prop
  | .mk k f t n g d e sub, cs => ∃ sv scs, cs = [.int .i64 k, .int .i64 f, .int .i64 t, .int .i64 n, .int .i64 g, .int .i64 d, .int .i64 e, sv] ∧ Ro w sv 8 sub.length scs ∧ FieldsC w sub scs
def FieldsC (w : World) : List PF → List Value → Prop
  | [], cs => cs = []
  | t :: ts, cs => ∃ c1 c2, cs = c1 ++ c2 ∧ FieldC w t c1 ∧ FieldsC w ts c2
end

/-- A list of fields. -/
def FieldsV (w : World) (fs : List PF) (v : Value) : Prop := ∃ cs, Ro w v 8 fs.length cs ∧ FieldsC w fs cs

def TagsC (w : World) : TM → List Value → Prop
  | [], cs => cs = []
  | p :: m, cs => ∃ v r, cs = .int .u32 p.1 :: v :: r ∧ Ro w v 1 p.2.length (bcells p.2) ∧ TagsC w m r

mutual
def TreeC (w : World) : PT → List Value → Prop
  | .mk n s null l u, cs => ∃ sv lv uv lcs ucs, cs = [.int .i64 n, sv, .bool null, lv, uv] ∧ Ro w sv 1 s.length (bcells s) ∧ Ro w lv 5 l.length lcs ∧ TreesC w l lcs ∧ Ro w uv 2 u.length ucs ∧ TagsC w u ucs ∧ (s.length < 4294967296 ∧ l.length < 4294967296 ∧ u.length < 4294967296)
def TreesC (w : World) : List PT → List Value → Prop
  | [], cs => cs = []
  | t :: ts, cs => ∃ c1 c2, cs = c1 ++ c2 ∧ TreeC w t c1 ∧ TreesC w ts c2
end

section
variable {w w' : World}

mutual
theorem FieldC.keep (hk : Keeps [] w w') : ∀ (f : PF) (cs : List Value), FieldC w f cs → FieldC w' f cs
  | .mk _ _ _ _ _ _ _ sub, _, ⟨sv, scs, e, h1, h2⟩ => ⟨sv, scs, e, h1.keep hk, FieldsC.keep hk sub scs h2⟩
theorem FieldsC.keep (hk : Keeps [] w w') : ∀ (fs : List PF) (cs : List Value), FieldsC w fs cs → FieldsC w' fs cs
  | [], _, h => h
  | t :: ts, _, ⟨c1, c2, e, h1, h2⟩ => ⟨c1, c2, e, FieldC.keep hk t c1 h1, FieldsC.keep hk ts c2 h2⟩
end

theorem FieldsV.keep (hk : Keeps [] w w') {fs : List PF} {v : Value} (h : FieldsV w fs v) : FieldsV w' fs v := by
  obtain ⟨cs, h1, h2⟩ := h
  exact ⟨cs, h1.keep hk, FieldsC.keep hk fs cs h2⟩

theorem TagsC.keep (hk : Keeps [] w w') : ∀ (m : TM) (cs : List Value), TagsC w m cs → TagsC w' m cs
  | [], _, h => h
  | _ :: m, _, ⟨v, r, e, h1, h2⟩ => ⟨v, r, e, h1.keep hk, TagsC.keep hk m r h2⟩

mutual
theorem TreeC.keep (hk : Keeps [] w w') : ∀ (t : PT) (cs : List Value), TreeC w t cs → TreeC w' t cs
  | .mk _ _ _ l u, _, ⟨sv, lv, uv, lcs, ucs, e, h1, h2, h3, h4, h5, h6⟩ => ⟨sv, lv, uv, lcs, ucs, e, h1.keep hk, h2.keep hk, TreesC.keep hk l lcs h3, h4.keep hk, TagsC.keep hk u ucs h5, h6⟩
theorem TreesC.keep (hk : Keeps [] w w') : ∀ (ts : List PT) (cs : List Value), TreesC w ts cs → TreesC w' ts cs
  | [], _, h => h
  | t :: ts, _, ⟨c1, c2, e, h1, h2⟩ => ⟨c1, c2, e, TreeC.keep hk t c1 h1, TreesC.keep hk ts c2 h2⟩
end

theorem TagsC.of_rows {A : Nat → Prop} : ∀ {m : TM} {cs : List Value}, TagRows w A m cs → TagsC w m cs
  | [], _, h => h
  | _ :: _, _, ⟨v, r, e, h1, h2⟩ => ⟨v, r, e, h1.1, TagsC.of_rows h2⟩

mutual
theorem TreeC.of_at {A : Nat → Prop} : ∀ {t : PT} {cs : List Value}, TreeAt w A t cs → TreeC w t cs
  | .mk _ _ _ _ _, _, ⟨sv, lv, uv, lcs, e, h1, h2, h3, h4, ucs, h5, h7, h6⟩ => ⟨sv, lv, uv, lcs, ucs, e, h1.1, .of_reads h2, TreesC.of_at h4, .of_reads h5, TagsC.of_rows h6, h1.2.2, h3.2, h7.2⟩
theorem TreesC.of_at {A : Nat → Prop} : ∀ {ts : List PT} {cs : List Value}, TreesAt w A ts cs → TreesC w ts cs
  | [], _, h => h
  | _ :: _, _, ⟨c1, c2, e, h1, h2⟩ => ⟨c1, c2, e, TreeC.of_at h1, TreesC.of_at h2⟩
end

theorem FieldC.len {f : PF} {cs : List Value} (h : FieldC w f cs) : cs.length = 8 := by
  cases f with
  | mk => obtain ⟨sv, scs, e, _⟩ := h; rw [e]; rfl
theorem FieldC.ones {f : PF} {cs : List Value} (h : FieldC w f cs) : ∀ u ∈ cs, u.oneCell' = true := by
  cases f with
  | mk =>
    obtain ⟨sv, scs, e, h1, _⟩ := h
    have := h1.one
    subst e
    intro u hu
    simp only [List.mem_cons, List.not_mem_nil, or_false] at hu
    rcases hu with rfl | rfl | rfl | rfl | rfl | rfl | rfl | rfl <;> first | rfl | assumption
theorem TreeC.len {t : PT} {cs : List Value} (h : TreeC w t cs) : cs.length = 5 := by
  cases t with
  | mk => obtain ⟨sv, lv, uv, lcs, ucs, e, _⟩ := h; rw [e]; rfl
theorem TreeC.ones {t : PT} {cs : List Value} (h : TreeC w t cs) : ∀ u ∈ cs, u.oneCell' = true := by
  cases t with
  | mk =>
    obtain ⟨sv, lv, uv, lcs, ucs, e, h1, h2, _, h3, _⟩ := h
    have := h1.one; have := h2.one; have := h3.one
    subst e
    intro u hu
    simp only [List.mem_cons, List.not_mem_nil, or_false] at hu
    rcases hu with rfl | rfl | rfl | rfl | rfl <;> first | rfl | assumption

theorem FieldsC.get : ∀ {fs : List PF} {cs : List Value} {j : Nat}, FieldsC w fs cs → (hj : j < fs.length) → FieldC w fs[j] ((cs.drop (j * 8)).take 8)
  | t :: ts, _, 0, ⟨c1, c2, e, h1, h2⟩, _ => by
    have := h1.len
    subst e
    simp only [Nat.zero_mul, List.drop_zero, List.getElem_cons_zero]
    rw [List.take_append_of_le_length (by omega), List.take_of_length_le (by omega)]
    exact h1
  | t :: ts, _, j + 1, ⟨c1, c2, e, h1, h2⟩, hj => by
    have := h1.len
    subst e
    have := FieldsC.get h2 (by simpa using hj)
    rw [show (j + 1) * 8 = c1.length + j * 8 by omega, List.drop_append, List.drop_eq_nil_of_le (by omega), List.nil_append, show c1.length + j * 8 - c1.length = j * 8 by omega]
    exact this

theorem TreesC.get : ∀ {ts : List PT} {cs : List Value} {j : Nat}, TreesC w ts cs → (hj : j < ts.length) → TreeC w ts[j] ((cs.drop (j * 5)).take 5)
  | t :: ts, _, 0, ⟨c1, c2, e, h1, h2⟩, _ => by
    have := h1.len
    subst e
    simp only [Nat.zero_mul, List.drop_zero, List.getElem_cons_zero]
    rw [List.take_append_of_le_length (by omega), List.take_of_length_le (by omega)]
    exact h1
  | t :: ts, _, j + 1, ⟨c1, c2, e, h1, h2⟩, hj => by
    have := h1.len
    subst e
    have := TreesC.get h2 (by simpa using hj)
    rw [show (j + 1) * 5 = c1.length + j * 5 by omega, List.drop_append, List.drop_eq_nil_of_le (by omega), List.nil_append, show c1.length + j * 5 - c1.length = j * 5 by omega]
    exact this

theorem TagsC.get : ∀ {m : TM} {cs : List Value} {j : Nat}, TagsC w m cs → (hj : j < m.length) → ∃ v, (cs.drop (j * 2)).take 2 = [.int .u32 m[j].1, v] ∧ Ro w v 1 m[j].2.length (bcells m[j].2)
  | p :: m, _, 0, ⟨v, r, e, h1, h2⟩, _ => ⟨v, by subst e; rfl, h1⟩
  | p :: m, _, j + 1, ⟨v, r, e, h1, h2⟩, hj => by
    obtain ⟨v', h3, h4⟩ := TagsC.get h2 (j := j) (by simpa using hj)
    refine ⟨v', ?_, h4⟩
    subst e
    rw [show (j + 1) * 2 = j * 2 + 1 + 1 by omega]
    simpa using h3

/-- The cells of an element. -/
theorem Ro.elem {v : Value} {sz n j : Nat} {xs : List Value} (h : Ro w v sz n xs) (hj : j < n) (hsz : 0 < sz) :
    ∃ b o cap, v = .slice (some ⟨b, o, none⟩) n cap ∧ b < w.heap.size ∧ ((xs.drop (j * sz)).take sz).length = sz ∧ ∀ i, i < sz → w.cell? ⟨b, o + j * sz + i, none⟩ = ((xs.drop (j * sz)).take sz)[i]? := by
  obtain ⟨b, o, cap, e, hb, hx⟩ := h.at (by omega)
  have h1 : j * sz + sz ≤ n * sz := by rw [← Nat.succ_mul]; exact Nat.mul_le_mul_right _ hj
  refine ⟨b, o, cap, e, hb, by rw [List.length_take, List.length_drop, h.1]; omega, fun i hi => ?_⟩
  rw [Nat.add_assoc, hx _ (by omega), List.getElem?_take, if_pos hi, List.getElem?_drop]

theorem TreeC.zero (w : World) : TreeC w .zero zeroTree := TreeC.of_at (zeroTree_at w fun _ => True)

theorem FieldsC.of_get : ∀ {fs : List PF} {cs : List Value}, cs.length = fs.length * 8 → (∀ j (hj : j < fs.length), FieldC w fs[j] ((cs.drop (j * 8)).take 8)) → FieldsC w fs cs
  | [], cs, h, _ => List.eq_nil_of_length_eq_zero (by simpa using h)
  | f :: fs, cs, h, h2 => by
    simp only [List.length_cons] at h
    refine ⟨cs.take 8, cs.drop 8, by simp, ?_, FieldsC.of_get (by rw [List.length_drop]; omega) fun j hj => ?_⟩
    · have h3 := h2 0 (by simp)
      rw [Nat.zero_mul, List.drop_zero] at h3
      exact h3
    · have := h2 (j + 1) (by simpa using hj)
      rw [List.drop_drop, show 8 + j * 8 = (j + 1) * 8 by omega]
      simpa using this

theorem TreesC.len : ∀ {ts : List PT} {cs : List Value}, TreesC w ts cs → cs.length = ts.length * 5
  | [], _, h => by simp only [TreesC] at h; subst h; rfl
  | t :: ts, _, ⟨c1, c2, e, h1, h2⟩ => by rw [e, List.length_append, h1.len, TreesC.len h2, List.length_cons]; omega

theorem TreesC.take : ∀ {ts : List PT} {cs : List Value} (m : Nat), TreesC w ts cs → TreesC w (ts.take m) (cs.take (m * 5))
  | _, _, 0, _ => by simp [TreesC]
  | [], _, m + 1, h => by simp only [TreesC] at h; subst h; simp [TreesC]
  | t :: ts, _, m + 1, ⟨c1, c2, e, h1, h2⟩ => by
    have := h1.len
    subst e
    refine ⟨c1, c2.take (m * 5), ?_, h1, TreesC.take m h2⟩
    rw [List.take_append, show (m + 1) * 5 - c1.length = m * 5 by omega, List.take_of_length_le (by omega)]

theorem TagsC.len : ∀ {m : TM} {cs : List Value}, TagsC w m cs → cs.length = m.length * 2
  | [], _, h => by simp only [TagsC] at h; subst h; rfl
  | _ :: m, _, ⟨v, r, e, _, h2⟩ => by rw [e, List.length_cons, List.length_cons, TagsC.len h2, List.length_cons]; omega

theorem TagsC.take : ∀ {m : TM} {cs : List Value} (k : Nat), TagsC w m cs → TagsC w (m.take k) (cs.take (k * 2))
  | _, _, 0, _ => by simp [TagsC]
  | [], _, k + 1, h => by simp only [TagsC] at h; subst h; simp [TagsC]
  | p :: m, _, k + 1, ⟨v, r, e, h1, h2⟩ => by
    subst e
    exact ⟨v, r.take (k * 2), by rw [show (k + 1) * 2 = k * 2 + 1 + 1 by omega]; simp, h1, TagsC.take k h2⟩
end
end Go.Kf
/- Unknown tags that are only read: their octets may be anyone's. -/
namespace Go.Kf
open Go

def EntR (w : World) (e : MapEntry) (p : Nat × List UInt8) : Prop := e.key = .int .u32 p.1 ∧ Ro w e.val 1 p.2.length (bcells p.2)

def EntsR (w : World) : List MapEntry → TM → Prop
  | [], [] => True
  | e :: es, p :: m => EntR w e p ∧ EntsR w es m
  | _, _ => False

def TagsR (w : World) (m : TM) (v : Value) : Prop :=
  (v = .map none ∧ m = []) ∨ ∃ b es clock, v = .map (some b) ∧ w.heap[b]? = some (.map es clock) ∧ EntsR w es.toList m ∧ es.toList.Pairwise (fun a b => a.born < b.born) ∧ (∀ e ∈ es.toList, e.born < clock) ∧
    (∀ p ∈ m, p.1 < 2 ^ 32) ∧ (m.map (·.1)).Nodup ∧ m ≠ []

theorem EntsAt.r {D lo : Nat} {w : World} : ∀ {es : List MapEntry} {m : TM}, EntsAt D w lo es m → EntsR w es m
  | [], [], _ => trivial
  | _ :: _, _ :: _, hh => ⟨⟨hh.1.1, by obtain ⟨nl, h⟩ := hh.1.2; exact Ro.of_reads h.1⟩, EntsAt.r hh.2⟩
  | [], _ :: _, hh => hh.elim
  | _ :: _, [], hh => hh.elim

theorem TagsAt.r {D lo : Nat} {w : World} {m : TM} {v : Value} (h : TagsAt D w lo m v) : TagsR w m v := by
  rcases h with h | ⟨b, es, clock, hb, hv, hh, he, hr⟩
  · exact .inl h
  · exact .inr ⟨b, es, clock, hv, hh, he.r, hr⟩

theorem EntsR.len {w : World} : ∀ {es : List MapEntry} {m : TM}, EntsR w es m → es.length = m.length
  | [], [], _ => rfl
  | _ :: _, _ :: _, ⟨_, h⟩ => by simp [EntsR.len h]
  | [], _ :: _, h => h.elim
  | _ :: _, [], h => h.elim

theorem EntsR.get {w : World} : ∀ {es : List MapEntry} {m : TM} {i : Nat} {p : Nat × List UInt8}, EntsR w es m → m[i]? = some p → ∃ e, es[i]? = some e ∧ EntR w e p
  | e :: es, q :: m, 0, p, ⟨h, _⟩, hi => by
    simp only [List.getElem?_cons_zero, Option.some.injEq] at hi
    subst hi
    exact ⟨e, rfl, h⟩
  | e :: es, q :: m, i + 1, p, ⟨_, h⟩, hi => by
    simp only [List.getElem?_cons_succ] at hi ⊢
    exact EntsR.get h hi
  | [], [], _, _, _, hi => by simp at hi
  | [], _ :: _, _, _, h, _ => h.elim
  | _ :: _, [], _, _, h, _ => h.elim

theorem EntsR.keyInts {w : World} : ∀ {es : List MapEntry} {m : TM}, EntsR w es m → es.map keyInt = m.map fun p => (p.1 : Int)
  | [], [], _ => rfl
  | e :: es, p :: m, ⟨h, h2⟩ => by
    simp only [List.map_cons, EntsR.keyInts h2]
    congr 1
    simp [keyInt, h.1]
  | [], _ :: _, h => h.elim
  | _ :: _, [], h => h.elim

theorem EntsR.keys {w : World} : ∀ {es : List MapEntry} {m : TM}, EntsR w es m → Keys32 es
  | [], [], _ => fun e h => by cases h
  | e :: es, p :: m, ⟨h1, h2⟩ => fun x hx => by
    rcases List.mem_cons.1 hx with h | h
    · rw [h]; exact ⟨_, h1.1⟩
    · exact EntsR.keys h2 x h
  | [], _ :: _, h => h.elim
  | _ :: _, [], h => h.elim

theorem EntR.is {w : World} {e : MapEntry} {p : Nat × List UInt8} (h : EntR w e p) (k : Nat) : keyIs k e = decide (p.1 = k) := by
  simp only [keyIs, h.1]
  by_cases hk : p.1 = k
  · simp [hk]
  · have : ((k : Int) == (p.1 : Int)) = false := by simp; omega
    simp [hk, this]

/-- Kept, whatever changes elsewhere. -/
theorem TagsR.keep {w w' : World} {m : TM} {v : Value} (h : TagsR w m v) (hk : Keeps [] w w') : TagsR w' m v := by
  rcases h with h | ⟨b, es, clock, hv, hh, he, hr⟩
  · exact .inl h
  · refine .inr ⟨b, es, clock, hv, ?_, ?_, hr⟩
    · rw [hk.block b (Array.getElem?_eq_some_iff.1 hh).1 (by simp)]; exact hh
    · exact imp he
  where imp : ∀ {es : List MapEntry} {m : TM}, EntsR w es m → EntsR w' es m
  | [], [], _ => trivial
  | _ :: _, _ :: _, hh => ⟨⟨hh.1.1, hh.1.2.keep hk⟩, imp hh.2⟩
  | [], _ :: _, hh => hh.elim
  | _ :: _, [], hh => hh.elim
end Go.Kf
/- Unknown tags, each told in turn: as a whole. -/
namespace Go.Kf
open Go

def tmGet (m : TM) (k : Nat) : List UInt8 := match m.find? (fun p => Nat.beq p.1 k) with
  | some p => p.2
  | none => []

def leInt (a b : Int) : Bool := decide (a ≤ b)

/-- Tags by rising numbers. -/
def sortTM (m : TM) : TM := ((m.map fun p => (p.1 : Int)).mergeSort leInt).map fun k => (k.toNat, tmGet m k.toNat)

theorem sorted_eq {ks ks' : List Int} (h : ks'.Perm ks) (hs : ks'.Pairwise (· ≤ ·)) : ks' = ks.mergeSort leInt := by
  have h2 := List.pairwise_mergeSort (le := leInt) (fun a b c h1 h2 => by simp only [leInt, decide_eq_true_eq] at *; omega) (fun a b => by simp only [leInt, Bool.or_eq_true, decide_eq_true_eq]; omega) ks
  refine List.Perm.eq_of_pairwise (le := fun a b => a ≤ b) (fun a b _ _ h1 h2 => by omega) hs (h2.imp fun h => by simpa [leInt] using h) (h.trans (List.mergeSort_perm ks leInt).symm)

theorem tmGet_eq : ∀ {m : TM} {i : Nat} {p : Nat × List UInt8}, (m.map (·.1)).Nodup → m[i]? = some p → tmGet m p.1 = p.2
  | q :: m, 0, p, _, hi => by
    simp only [List.getElem?_cons_zero, Option.some.injEq] at hi
    subst hi
    simp [tmGet]
  | q :: m, i + 1, p, hn, hi => by
    simp only [List.map_cons, List.nodup_cons] at hn
    simp only [List.getElem?_cons_succ] at hi
    have hne : ¬ q.1 = p.1 := fun e => hn.1 (e ▸ List.mem_map_of_mem (List.mem_of_getElem? hi))
    have := tmGet_eq hn.2 hi
    unfold tmGet at this ⊢
    rw [List.find?_cons_of_neg (by simp [hne])]
    exact this
  | [], _, _, _, hi => by simp at hi

def tEach (c : Nums) (gLess fSort : Nat) : Tr :=
  gGet (.tmp 0) c.tTags 0 c.tMap 2 <| .op (.call { callee := .builtin .len, args := ⟨[.tmp 4]⟩, argTypes := ⟨[c.tMap]⟩ }) none [] <| .op (.binOp .eql c.tInt (.tmp 5) (.const (.int .i64 0)) c.tInt) none [] <| .cond (.tmp 6) (.ret []) <|
  gGet (.tmp 0) c.tTags 0 c.tMap 7 <| .op (.call { callee := .builtin .len, args := ⟨[.tmp 9]⟩, argTypes := ⟨[c.tMap]⟩ }) none [] <| .op (.makeSlice c.tKeys (.const (.int .i64 0)) (.tmp 10)) none [] <| .op (.alloc c.tKeys) none [] <| .op (.store c.tKeys (.tmp 12) (.tmp 11)) none [] <|
  gGet (.tmp 0) c.tTags 0 c.tMap 14 <| .op (.range c.tMap (.tmp 16)) none [] <| gRange c <|
  .op (.load c.tKeys (.tmp 12)) none [] <| .op (.makeInterface c.tKeys (.tmp 20)) none [] <| .op (.makeFunc (.func gLess) ⟨[]⟩ ⟨[.tmp 12]⟩) none [] <| .op (callOp fSort [.tmp 21, .tmp 22]) none [] <| .op (.load c.tKeys (.tmp 12)) none [] <|
  .op (.call { callee := .builtin .len, args := ⟨[.tmp 24]⟩, argTypes := ⟨[c.tKeys]⟩ }) none [] <| .loop 1 [.const (.int .i64 0)] <| .op (.binOp .lss c.tInt (.tmp 26) (.tmp 25) c.tInt) none [] <| .cond (.tmp 27)
    (.op (.indexAddr c.tKeys (.tmp 24) (.tmp 26)) none [] <| .op (.load c.tU32 (.tmp 28)) none [] <| gGet (.tmp 0) c.tTags 0 c.tMap 30 <| .op (.lookup c.tMap (.tmp 32) (.tmp 29) false) none [] <|
      .op (.call { callee := .value (.tmp 1), args := ⟨[.tmp 29, .tmp 33]⟩, argTypes := #[] }) none [] <| .op (.binOp .add c.tInt (.tmp 26) (.const (.int .i64 1)) c.tInt) none [] <| .to 1 [.tmp 35]) (.ret [])

theorem Reads.blk_lt {w : World} {v : Value} {sz n : Nat} {xs : List Value} (h : Reads w v sz n xs) : ∀ b ∈ blkOf v, b < w.heap.size := by
  rcases h.2 with ⟨rfl, _⟩ | ⟨b, o, cap, cs, rfl, _, hh, _⟩
  · intro b hb; cases hb
  · intro x hx
    simp only [blkOf, List.mem_singleton] at hx
    subst hx
    exact hh.lt

/-- What is owed for the closure's call, and what Each then gives. -/
def EachGives (P : Program) (f : Nat) : Prop := ∀ (w0 w : World) (V o gCl : Nat) (cs : List Value) (mv cap : Value) (m : TM) (J : Nat → TM → World → Prop) (M0 : List Nat),
  Has w0 V cs → cs[o]? = some mv → TagsR w0 m mv → m.length < 1073741826 → Keeps [] w0 w → (∀ b ∈ M0, w0.heap.size ≤ b ∧ b < w.heap.size) → (∀ w', Keeps [] w w' → J w'.heap.size [] w') →
  (∀ (h : Nat) (pre : TM) (p : Nat × List UInt8) (v : Value) (w1 : World), J h pre w1 → h ≤ w1.heap.size → w.heap.size ≤ h → (pre.length < m.length ∧ ∃ j, pre ++ [p] = (sortTM m).take j) → Ro w1 v 1 p.2.length (bcells p.2) → Ro w0 v 1 p.2.length (bcells p.2) → p ∈ m → Gives P gCl [.int .u32 p.1, v, cap] w1 fun _ w2 => J h (pre ++ [p]) w2 ∧ ∃ M, Keeps M w1 w2 ∧ ∀ b ∈ M, b ∈ M0 ∨ h ≤ b) →
  Gives P f [ptr V o, .func (.func gCl) #[] #[cap]] w fun _ w' => (∃ h, w.heap.size ≤ h ∧ J h (sortTM m) w') ∧ Keeps M0 w w'

section
variable {P : Program} {c : Nums}

theorem v_makeFunc1 {ρ : Nat → Value} {g : Nat} {x : Operand} {v : Value} (hx : ev ρ x = v) : Val P ρ (.makeFunc (.func g) ⟨[]⟩ ⟨[x]⟩) (.func (.func g) #[] #[v]) := by
  subst hx
  exact v_makeFunc

theorem pair_eq {α : Type} {a b c d : α} (h1 : a = c) (h2 : b = d) : [a, b] = [c, d] := by rw [h1, h2]

theorem sortTM_nil : sortTM [] = [] := by simp [sortTM]

theorem each_gives {f gLess fSort : Nat} (F : RdFacts P c) (T : TagFacts P c) (hS : SortGives P c fSort gLess) (hT : treeIn P f noOrc [.tmp 0, .tmp 1] 2 = tEach c gLess fSort) : EachGives P f := by
  intro w0 w V o gCl cs mv cap m J M0 hV hmv htags hml k0 hM0 hJ0 hJ
  refine gives_in (ρ := en [ptr V o, .func (.func gCl) #[] #[cap]]) F.mix hT (Nat.le_refl _) rfl (by simp [opBelow]) ?_
  have hmv' : cs[o + 0]? = some mv := hmv
  refine s_get (b := V) (o := o) T.f0 T.oneMap rfl (hV.keep k0 (by simp)) hmv' ?_
  rcases htags with ⟨rfl, rfl⟩ | ⟨mb, esA, clock, rfl, hmA, he, hp, hborn, h32, hnd, hne⟩
  · refine s_val (v_lenNilMap T.map rfl) ?_
    refine s_val (v_cmp (kk := .i64) (a := 0) (b := 0) (r := true) rfl rfl rfl) ?_
    refine s_cond (b := true) rfl (fun _ => s_ret0 ⟨⟨_, Nat.le_refl _, by rw [sortTM_nil]; exact hJ0 w .refl⟩, .refl⟩) (fun h => by cases h)
  obtain ⟨es, rfl⟩ : ∃ es, esA = ⟨es⟩ := ⟨esA.toList, rfl⟩
  have hm0 : MapIs w0 mb es clock := hmA
  simp only at he hp hborn
  have hlen := he.len
  have hpos : 0 < es.length := by
    rw [hlen]
    exact List.length_pos_iff.2 hne
  have hk32 := he.keys
  have hne0 : ((es.length : Int) == 0) = false := by
    have h : (es.length : Int) ≠ 0 := by omega
    exact beq_eq_false_iff_ne.2 h
  refine s_lok (l_lenMap T.map rfl (hm0.keep k0 (by simp))) ?_
  refine s_val (v_cmp (kk := .i64) (a := es.length) (b := 0) (r := false) rfl rfl (by rw [cmpOf, hne0])) ?_
  refine s_cond (b := false) rfl (fun h => by cases h) fun _ => ?_
  refine s_get (b := V) (o := o) T.f0 T.oneMap rfl (hV.keep k0 (by simp)) hmv' ?_
  refine s_lok (l_lenMap T.map rfl (hm0.keep k0 (by simp))) ?_
  obtain ⟨inf, z, hinf, hz, hsz, hzc, hby⟩ := info_of T.zeroU32
  generalize hρ : ext (ext (ext (ext (ext (en [ptr V o, .func (.func gCl) #[] #[cap]]) 2 _) _ _) _ _) _ _) _ _ = ρ1
  have r0 : ρ1 0 = ptr V o := by subst hρ; rfl
  have r1 : ρ1 1 = .func (.func gCl) #[] #[cap] := by subst hρ; rfl
  have r10 : ρ1 10 = .int .i64 es.length := by subst hρ; rfl
  clear hρ
  obtain ⟨w1, e1, h1, k1, z1⟩ := a_makeSlice (P := P) (ρ := ρ1) (w := w) (t := c.tKeys) (x := .const (.int .i64 0)) (y := .tmp 10) (k1 := .i64) (k2 := .i64) (l := 0) (c := es.length) T.keys hinf hz (by rw [hzc, hsz]) (by rw [hsz]; decide) rfl r10 (Int.le_refl _) (by omega) (by
    have : inf.bytes * es.length ≤ 8 * 1073741826 := Nat.mul_le_mul hby (by omega)
    have h2 : ((inf.bytes * es.length : Nat) : Int) = (inf.bytes : Int) * es.length := Int.natCast_mul _ _
    omega) (by omega)
  refine s_act e1 (fun p hp => (by cases hp)) ?_
  obtain ⟨w2, e2, h2, k2, z2⟩ := a_alloc (P := P) (ρ := ext ρ1 (7 + 3 + 1) [.slice (some ⟨w.heap.size, 0, none⟩) (0 : Int).toNat ((es.length : Nat) : Int).toNat]) (w := w1) T.zeroKeys
  refine s_act e2 (fun p hp => (by cases hp)) ?_
  obtain ⟨w3, e3, h3, k3⟩ := a_store1 (P := P) (ρ := ext (ext ρ1 (7 + 3 + 1) [.slice (some ⟨w.heap.size, 0, none⟩) (0 : Int).toNat ((es.length : Nat) : Int).toNat]) (7 + 3 + 1 + 1) [.pointer (some ⟨w1.heap.size, 0, none⟩)]) (w := w2) (t := c.tKeys) (x := .tmp 12) (y := .tmp 11) (b := w1.heap.size) (o := 0) (v := .slice (some ⟨w.heap.size, 0, none⟩) 0 es.length) T.oneKeys rfl rfl rfl h2 (by simp [Value.cells])
  refine s_unit e3 (fun p hp => (by cases hp)) ?_
  have k03 : Keeps [] w w3 := ((k1.trans k2).mono (by simp) |>.trans k3).less fun x hx => .inr (by simp only [List.mem_singleton] at hx; omega)
  have kw03 := k0.trans k03
  refine s_get (n := 14) (b := V) (o := o) T.f0 T.oneMap (by show ext _ _ _ 0 = _; rw [ext_lt (by omega), ext_lt (by omega), ext_lt (by omega), r0]) (hV.keep kw03 (by simp)) hmv' ?_
  obtain ⟨w4, e4, hi4, k4, z4⟩ := a_range (P := P) (w := w3) (t := c.tMap) (x := .tmp 16) (ρ := ext (ext (ext (ext ρ1 (7 + 3 + 1) [.slice (some ⟨w.heap.size, 0, none⟩) (0 : Int).toNat ((es.length : Nat) : Int).toNat]) (7 + 3 + 1 + 1) [.pointer (some ⟨w1.heap.size, 0, none⟩)]) (7 + 3 + 1 + 1 + 1) [undef]) 14 [ptr V o, ptr V (o + 0), .map (some mb)]) T.map rfl (hm0.keep kw03 (by simp))
  refine s_act e4 (fun p hp => (by cases hp)) ?_
  have s1 := k1.size
  have s2 := k2.size
  have s3 := k3.size
  have s4 := k4.size
  have s0 := k0.size
  have hm0lt := hm0.lt
  have hVlt := hV.lt
  have k04 := k03.trans k4
  have hcap : Has w4 w.heap.size ((List.replicate ((es.length : Nat) : Int).toNat z.cells.toList).flatten) := ((h1.keep k2 (by simp)).keep k3 (by simp only [List.mem_singleton]; omega)).keep k4 (by simp)
  have hflat : ((List.replicate ((es.length : Nat) : Int).toNat z.cells.toList).flatten).length = es.length := by
    rw [List.length_flatten, List.map_replicate, List.sum_replicate_nat]
    have : z.cells.toList.length = 1 := by simpa using hzc
    rw [this]; simp
  have hown : Own w4 (.slice (some ⟨w.heap.size, 0, none⟩) 0 es.length) 1 0 [] := ⟨rfl, .inr ⟨w.heap.size, es.length, _, rfl, by simpa using hcap, Nat.zero_le _, by omega, by simpa using hflat⟩⟩
  have ho4 : Has w4 w1.heap.size [.slice (some ⟨w.heap.size, 0, none⟩) 0 es.length] := by
    have := h3.keep k4 (by simp)
    simpa [Value.cells] using this
  generalize hρ2 : ext (ext (ext (ext (ext ρ1 _ _) _ _) _ _) 14 _) (14 + 3) _ = ρ2
  have q0 : ρ2 0 = ptr V o := by subst hρ2; rw [ext_lt (by omega), ext_lt (by omega), ext_lt (by omega), ext_lt (by omega), ext_lt (by omega), r0]
  have q1 : ρ2 1 = .func (.func gCl) #[] #[cap] := by subst hρ2; rw [ext_lt (by omega), ext_lt (by omega), ext_lt (by omega), ext_lt (by omega), ext_lt (by omega), r1]
  have q12 : ρ2 12 = ptr w1.heap.size := by subst hρ2; rw [ext_lt (by omega), ext_lt (by omega), ext_lt (by omega)]; exact ext_at
  have q17 : ρ2 17 = ptr w3.heap.size := by subst hρ2; exact ext_at
  clear hρ2
  refine s_range (B := w.heap.size) T q17 q12 hi4 ((hm0.keep kw03 (by simp)).keep k4 (by simp)) hk32 hp hborn ho4 hown (by omega) (by omega) (by omega) (fun b hb => by simp only [blkOf, List.mem_singleton] at hb; omega) (by omega) (by omega) ?_
  intro w5 ρ3 ov ks M Δ hΔ hag hperm ho5 hown5 hov5 k5 hM
  have hkl : ks.length = es.length := by rw [hperm.length_eq, List.length_map]
  rcases hown5.2 with ⟨_, h0⟩ | ⟨kb, kcap, spare, rfl, hk5, _, _, _⟩
  · omega
  have hkb := hov5 kb (by simp [blkOf])
  have p12 : ρ3 12 = ptr w1.heap.size := by rw [hag 12 (by omega)]; exact q12
  refine s_lok (l_load1 (b := w1.heap.size) (o := 0) T.oneKeys p12 ho5 rfl) ?_
  refine s_val (v_makeIface (v := .slice (some ⟨kb, 0, none⟩) ks.length kcap) T.keys ext_at) ?_
  refine s_val (v_makeFunc1 (v := ptr w1.heap.size) (by show ext _ _ _ 12 = _; rw [ext_lt (by omega), ext_lt (by omega)]; exact p12)) ?_
  have k05 : Keeps [] w w5 := ((k04.mono (by simp)).trans k5).less fun x hx => .inr (hM x hx)
  refine s_callx (hS w5 w1.heap.size kb kcap ks spare ho5 hk5 (fun e => hkb.2 e.symm) (by omega) (by omega)) (pair_eq (by show ext _ _ _ 21 = _; rw [ext_lt (by omega)]; exact ext_at) ext_at) fun u w6 ⟨ks', kcs, hperm', hsort, hk6, hkc, k6⟩ => ?_
  have hks : ks' = (m.map fun p => (p.1 : Int)).mergeSort leInt := sorted_eq (hperm'.trans (hperm.trans (by rw [he.keyInts]))) hsort
  have hkl' : ks'.length = ks.length := hperm'.length_eq
  have ho6 : Has w6 w1.heap.size [.slice (some ⟨kb, 0, none⟩) ks.length kcap] := ho5.keep k6 (by simp only [List.mem_singleton]; exact fun e => hkb.2 e.symm)
  have s6 := k6.size
  have s5 := k5.size
  have k06 : Keeps [] w w6 := ((k05.mono (by simp)).trans k6).less fun x hx => .inr (by simp only [List.mem_singleton] at hx; omega)
  refine s_lok (l_load1 (b := w1.heap.size) (o := 0) T.oneKeys (by show ext _ _ _ 12 = _; rw [ext_lt (by omega), ext_lt (by omega), ext_lt (by omega), ext_lt (by omega)]; exact p12) ho6 rfl) ?_
  refine s_val (v_len (a := some ⟨kb, 0, none⟩) (l := ks.length) (c := kcap) T.keys rfl) ?_
  generalize hρ4 : ext (ext (ext (ext (ext (ext ρ3 20 _) _ _) _ _) _ _) _ _) _ _ = ρ4
  have t0 : ρ4 0 = ptr V o := by subst hρ4; rw [ext_lt (by omega), ext_lt (by omega), ext_lt (by omega), ext_lt (by omega), ext_lt (by omega), ext_lt (by omega), hag 0 (by omega), q0]
  have t1 : ρ4 1 = .func (.func gCl) #[] #[cap] := by subst hρ4; rw [ext_lt (by omega), ext_lt (by omega), ext_lt (by omega), ext_lt (by omega), ext_lt (by omega), ext_lt (by omega), hag 1 (by omega), q1]
  have t24 : ρ4 24 = .slice (some ⟨kb, 0, none⟩) ks.length kcap := by subst hρ4; rw [ext_lt (by omega)]; exact ext_at
  have t25 : ρ4 25 = .int .i64 ks.length := by subst hρ4; exact ext_at
  clear hρ4
  have hkb6 := hk6.lt
  have hob6 := ho6.lt
  have hloop := s_count (P := P) (R := fun _ w' => (∃ h, w.heap.size ≤ h ∧ J h (sortTM m) w') ∧ Keeps M0 w w') (Γ := Δ) (n := 26) (q := 25) (ρ := ρ4) (w := w6) (kk := .i64) (t := c.tInt) (m := ks.length) (ri := [])
    (body := .op (.indexAddr c.tKeys (.tmp 24) (.tmp 26)) none [] <| .op (.load c.tU32 (.tmp 28)) none [] <| gGet (.tmp 0) c.tTags 0 c.tMap 30 <| .op (.lookup c.tMap (.tmp 32) (.tmp 29) false) none [] <|
      .op (.call { callee := .value (.tmp 1), args := ⟨[.tmp 29, .tmp 33]⟩, argTypes := #[] }) none [] <| .op (.binOp .add c.tInt (.tmp 26) (.const (.int .i64 1)) c.tInt) none [] <| .to 1 [.tmp 35]) (after := .ret [])
    (fun j w' => J w6.heap.size ((sortTM m).take j) w' ∧ ∃ M, Keeps M w6 w' ∧ ∀ b ∈ M, b ∈ M0 ∨ w6.heap.size ≤ b) (by omega) t25 ⟨by simpa using hJ0 w6 k06, [], .refl, fun b hb => by cases hb⟩ ?_ ?_
  · rw [hΔ] at hloop
    exact hloop
  · rintro j hj w7 vr ⟨hJ7, M7, k7, hM7⟩ hvr J2 hJ2
    obtain rfl : vr = [] := List.eq_nil_of_length_eq_zero hvr
    simp only [List.length_nil, Nat.add_zero, List.nil_append]
    have hj' : j < ks.length := by omega
    have hjs : j < ks'.length := by omega
    have hnot : ∀ b, w.heap.size ≤ b → b < w6.heap.size → b ∉ M7 := fun b hb hb' hbM => by
      rcases hM7 b hbM with h | h
      · have := (hM0 b h).2; omega
      · omega
    have k07 : Keeps [] w0 w7 := ((k0.mono (by simp)).trans ((k06.mono (by simp)).trans k7)).less fun x hx => .inr (by
      rcases hM7 x hx with h | h
      · exact (hM0 x h).1
      · omega)
    have hk7 : Has w7 kb kcs := hk6.keep k7 (hnot kb (by omega) hkb6)
    have hidx := v_indexAddr (P := P) (ρ := ext ρ4 26 [.int .i64 j, .bool true]) (t := c.tKeys) (x := .tmp 24) (i := .tmp 26) (b := kb) (o := 0) (l := ks.length) (c := kcap) (j := j) (kk := .i64) T.keys (chk_size T.zeroU32) (by show ext _ _ _ 24 = _; rw [ext_lt (by omega)]; exact t24) ext_at (by omega) (by omega)
    rw [Int.toNat_natCast, Nat.mul_one] at hidx
    refine s_val hidx ?_
    have hcell : kcs[0 + j]? = some (encK ks'[j]) := by rw [Nat.zero_add]; exact hkc j hjs
    refine s_lok (l_load1 (b := kb) (o := 0 + j) T.oneU32 ext_at hk7 hcell) ?_
    refine s_get (n := 30) (b := V) (o := o) T.f0 T.oneMap (by show ext _ _ _ 0 = _; rw [ext_lt (by omega), ext_lt (by omega), ext_lt (by omega)]; exact t0) (hV.keep k07 (by simp)) hmv' ?_
    -- the key's entry
    have hmem : ks'[j] ∈ m.map fun p => (p.1 : Int) := by
      have h1 : ks'[j] ∈ ks' := List.getElem_mem _
      rw [← he.keyInts]
      exact hperm.mem_iff.1 (hperm'.mem_iff.1 h1)
    obtain ⟨p, hpm, hpk⟩ := List.mem_map.1 hmem
    obtain ⟨i, hi, hip⟩ := List.getElem_of_mem hpm
    have hmi : m[i]? = some p := by rw [List.getElem?_eq_getElem hi, hip]
    obtain ⟨e, hei, hent⟩ := he.get hmi
    obtain ⟨hkey, hoct⟩ := hent
    have hkis : keyIs ks'[j] e = true := by rw [← hpk]; simp [keyIs, hkey]
    have hbefore : ∀ j' e', j' < i → es[j']? = some e' → keyIs ks'[j] e' = false := by
      intro j' e' hlt he'
      have hj'l : j' < m.length := by omega
      obtain ⟨e2, he2, hent2⟩ := he.get (i := j') (p := m[j']) (List.getElem?_eq_getElem hj'l)
      obtain rfl : e2 = e' := by rw [he'] at he2; simpa using he2.symm
      rw [← hpk, EntR.is hent2]
      have hne : m[j'].1 ≠ p.1 := by
        rw [← hip]
        have h1 := List.pairwise_iff_getElem.1 (List.nodup_iff_pairwise_ne.1 hnd) j' i (by simpa using hj'l) (by simpa using hi) hlt
        simpa using h1
      simp [hne]
    refine s_lok (l_lookup (j := i) (n := ks'[j]) (e := e) T.map F.u32 (by show ext _ 30 _ 32 = _; rfl) (by
      show ext _ _ _ 29 = _
      rw [ext_lt (by omega), show (29 : Nat) = 26 + 0 + 2 + 1 from rfl, ext_at]; rfl) (hm0.keep k07 (by simp)) hk32 hei hkis hbefore) ?_
    have hoct7 := hoct.keep k07
    have hnext : (sortTM m).take (j + 1) = (sortTM m).take j ++ [p] := by
      have hsl : (sortTM m).length = ks'.length := by rw [hks]; simp [sortTM]
      have hget : (sortTM m)[j]'(by omega) = p := by
        simp only [sortTM, List.getElem_map, ← hks, ← hpk]
        rw [Int.toNat_natCast, tmGet_eq hnd hmi]
      rw [List.take_succ_eq_append_getElem (by omega), hget]
    have hclo := hJ w6.heap.size ((sortTM m).take j) p e.val w7 hJ7 k7.size k06.size ⟨by rw [List.length_take]; omega, j + 1, hnext.symm⟩ hoct7 hoct hpm
    refine s_callv (g := gCl) (f := 1) (caps := [cap]) (args := [.int .u32 p.1, e.val]) (by
      rw [ext_lt (by omega), ext_lt (by omega), ext_lt (by omega), ext_lt (by omega), ext_lt (by omega)]; exact t1) (pair_eq (by
      show ext _ _ _ 29 = _
      rw [ext_lt (by omega), ext_lt (by omega), show (29 : Nat) = 26 + 0 + 2 + 1 from rfl, ext_at, ← hpk]; rfl) ext_at) hclo fun u w8 ⟨hJ8, M8, k8, hM8⟩ => ?_
    refine s_val (v_arith (kk := .i64) (a := j) (b := 1) (r := ((j + 1 : Nat) : Int)) (by
      show ext _ _ _ 26 = _
      rw [ext_lt (by omega), ext_lt (by omega), ext_lt (by omega), ext_lt (by omega), ext_lt (by omega)]; exact ext_at) rfl ?_) ?_
    · simp only [arithOf, Option.some.injEq]; rw [IntKind.wrap_i64]; omega
    refine ⟨J2, by rw [List.getElem?_append_right (by omega), hΔ]; rfl, ?_⟩
    have hlast := hJ2 [] w8 rfl ⟨?_, M7 ++ M8, (k7.mono fun x hx => List.mem_append_left _ hx).trans (k8.mono fun x hx => List.mem_append_right _ hx), fun b hb => by
      rcases List.mem_append.1 hb with h | h
      · exact hM7 b h
      · exact hM8 b h⟩
    · show J2 [ext _ (30 + 3 + 1 + 1) _ 35] w8
      rw [show (35 : Nat) = 30 + 3 + 1 + 1 from rfl, ext_at]
      exact hlast
    · rw [hnext]
      exact hJ8
  · rintro w7 vr J2 ⟨hJ7, M7, k7, hM7⟩ hvr
    have hsl : (sortTM m).length = ks.length := by rw [← hkl', hks]; simp [sortTM]
    rw [Int.toNat_natCast, List.take_of_length_le (by omega)] at hJ7
    refine s_ret0 ⟨⟨_, k06.size, hJ7⟩, ((k06.mono (by simp)).trans k7).less fun x hx => ?_⟩
    rcases hM7 x hx with h | h
    · exact .inl h
    · exact .inr (by have := k06.size; omega)
end
end Go.Kf
/- Tags that rise already are left as they are. -/
namespace Go.Kf
open Go

theorem TagRows.key {w : World} {A : Nat → Prop} : ∀ {u : TM} {cs : List Value} {i : Nat} {p : Nat × List UInt8}, TagRows w A u cs → u[i]? = some p → cs[i * 2]? = some (.int .u32 p.1)
  | [], _, _, _, _, hi => by simp at hi
  | q :: u, _, 0, p, ⟨v, r, e, _, _⟩, hi => by
    simp only [List.getElem?_cons_zero, Option.some.injEq] at hi
    subst hi
    rw [e]; rfl
  | q :: u, _, i + 1, p, ⟨v, r, e, _, h⟩, hi => by
    simp only [List.getElem?_cons_succ] at hi
    rw [e, show (i + 1) * 2 = i * 2 + 1 + 1 by omega]
    simp only [List.getElem?_cons_succ]
    exact TagRows.key h hi

def tSorted (c : Nums) : Tr :=
  .op (.call { callee := .builtin .len, args := ⟨[.tmp 0]⟩, argTypes := ⟨[c.tTagL]⟩ }) none [] <| .loop 0 [.const (.int .i64 0)] <| .op (.binOp .lss c.tInt (.tmp 2) (.tmp 1) c.tInt) none [] <| .cond (.tmp 3)
    (.loop 1 [.tmp 2] <| .draw <| .pur (.binOp .gtr c.tInt (.tmp 4) (.const (.int .i64 0)) c.tInt) none <| .cond (.tmp 5)
      (.pur (.indexAddr c.tTagL (.tmp 0) (.tmp 4)) none <| .pur (.fieldAddr c.tTag (.tmp 6) 0) none <| .lok (.load c.tU32 (.tmp 7)) none <| .pur (.binOp .sub c.tInt (.tmp 4) (.const (.int .i64 1)) c.tInt) none <|
        .pur (.indexAddr c.tTagL (.tmp 0) (.tmp 9)) none <| .pur (.fieldAddr c.tTag (.tmp 10) 0) none <| .lok (.load c.tU32 (.tmp 11)) none <| .pur (.binOp .lss c.tU32 (.tmp 8) (.tmp 12) c.tU32) none <| .cond (.tmp 13)
        (.draw <| .pur (.binOp .sub c.tInt (.tmp 4) (.const (.int .i64 1)) c.tInt) none <| .pur (.binOp .sub c.tInt (.tmp 4) (.const (.int .i64 1)) c.tInt) none <| .pur (.indexAddr c.tTagL (.tmp 0) (.tmp 15)) none <| .lok (.load c.tTag (.tmp 16)) none <|
          .pur (.indexAddr c.tTagL (.tmp 0) (.tmp 4)) none <| .lok (.load c.tTag (.tmp 18)) none <| .pur (.indexAddr c.tTagL (.tmp 0) (.tmp 4)) none <| .op (.store c.tTag (.tmp 20) (.tmp 17)) none [] <|
          .pur (.indexAddr c.tTagL (.tmp 0) (.tmp 14)) none <| .op (.store c.tTag (.tmp 22) (.tmp 19)) none [] <| .op (.binOp .sub c.tInt (.tmp 4) (.const (.int .i64 1)) c.tInt) none [] <| .to 1 [.tmp 24])
        (.op (.binOp .add c.tInt (.tmp 2) (.const (.int .i64 1)) c.tInt) none [] <| .to 0 [.tmp 14]))
      (.op (.binOp .add c.tInt (.tmp 2) (.const (.int .i64 1)) c.tInt) none [] <| .to 0 [.tmp 6])) (.ret [])

/-- What sorting does to tags that rise. -/
def SortedGives (P : Program) (f : Nat) : Prop := ∀ (w : World) (A : Nat → Prop) (v : Value) (u : TM) (cs : List Value), Reads w v 2 u.length cs → TagRows w A u cs → u.Pairwise (fun a b => a.1 ≤ b.1) → u.length < 4294967296 → Gives P f [v] w fun _ w' => Keeps [] w w'

theorem sorted_gives {P : Program} {c : Nums} {f : Nat} (F : RdFacts P c) (Z : TyFacts P c c.tTree c.tTrees c.tTagL c.tTag) (hT : treeIn P f noOrc [.tmp 0] 1 = tSorted c) : SortedGives P f := by
  intro w A v u cs hr hrows hasc hlen
  refine gives_in (ρ := en [v]) F.mix hT (Nat.le_refl _) rfl (by simp [opBelow]) ?_
  obtain ⟨a, cp, hv, _⟩ := hr.form
  have hszT : (P.info? c.tTag).map (·.size) = some 2 := (aggTy_spec (w := w) Z.aggTag).2
  refine s_val (v_len (a := a) (l := u.length) (c := cp) Z.slTag hv) ?_
  refine s_count (Γ := []) (n := 2) (q := 1) (kk := .i64) (m := u.length) (ri := []) (fun _ w' => Keeps [] w w') (by omega) rfl .refl ?_ ?_
  · rintro j hj w1 vr k1 hvr J hJ
    obtain rfl : vr = [] := List.eq_nil_of_length_eq_zero hvr
    have hj' : j < u.length := by omega
    simp only [List.length_nil, Nat.add_zero, List.nil_append]
    refine ⟨rfl, fun vs w' => vs = [.int .i64 j] ∧ Keeps [] w w', fun _ _ => 0, ⟨rfl, k1⟩, ?_⟩
    rintro vs w2 _ ⟨rfl, k2⟩
    simp only [List.length_cons, List.length_nil]
    show Tr.sem _ _ _ _ _ _ { w2 with drawn := w2.drawn + 1 }
    have k3 : Keeps [] w { w2 with drawn := w2.drawn + 1 } := k2.trans (keeps_drawn w2 _ _)
    generalize ({ w2 with drawn := w2.drawn + 1 } : World) = w3 at k3 ⊢
    refine p_val (v_cmp (kk := .i64) (a := j) (b := 0) (r := decide ((j : Int) > 0)) rfl rfl rfl) ?_
    have hsucc : ∀ (x : Nat) (ρ : Nat → Value) (n : Nat) (w' : World) (Δ : List (List Value → World → Prop)), ρ 2 = .int .i64 j → x = n → Δ[0]? = some J → Keeps [] w w' → (Tr.op (.binOp .add c.tInt (.tmp 2) (.const (.int .i64 1)) c.tInt) none [] <| .to 0 [.tmp x]).sem P (fun _ w' => Keeps [] w w') Δ n ρ w' := by
      intro x ρ n w' Δ h2 hx hΔ hk
      subst hx
      refine s_val (v_arith (kk := .i64) (a := j) (b := 1) (r := ((j + 1 : Nat) : Int)) h2 rfl ?_) ?_
      · simp only [arithOf, Option.some.injEq]; rw [IntKind.wrap_i64]; omega
      · refine ⟨J, hΔ, ?_⟩
        have := hJ [] w' rfl hk
        show J [ext ρ x _ x] w'
        rw [ext_at]
        exact this
    refine s_cond (b := decide ((j : Int) > 0)) rfl (fun hpos => ?_) (fun _ => hsucc 6 _ 6 w3 _ rfl rfl rfl k3)
    obtain ⟨i, rfl⟩ : ∃ i, j = i + 1 := ⟨j - 1, by have : (j : Int) > 0 := by simpa using hpos
                                                   omega⟩
    rcases hr.2 with ⟨_, h0⟩ | ⟨b, o, cap, bcs, rfl, _, hh, hl, rfl⟩
    · omega
    have hh3 := hh.keep k3 (by simp)
    have cell : ∀ x p, u[x]? = some p → x < u.length → bcs[o + x * 2 + 0]? = some (.int .u32 p.1) := by
      intro x p hp hx
      have := hrows.key hp
      rw [List.getElem?_take, if_pos (by omega), List.getElem?_drop] at this
      exact this
    have c1 := cell (i + 1) u[i + 1] (List.getElem?_eq_getElem hj') hj'
    have c0 := cell i (u[i]'(by omega)) (List.getElem?_eq_getElem (by omega)) (by omega)
    have hle : (u[i]'(by omega)).1 ≤ u[i + 1].1 := (List.pairwise_iff_getElem.1 hasc) i (i + 1) (by omega) hj' (by omega)
    generalize hρ : ext (ext (ext (ext (en [_]) _ _) _ _) _ _) _ _ = ρ1
    have r0 : ρ1 0 = .slice (some ⟨b, o, none⟩) u.length cap := by subst hρ; rfl
    have r2 : ρ1 2 = .int .i64 ((i + 1 : Nat) : Int) := by subst hρ; rfl
    have r4 : ρ1 4 = .int .i64 ((i + 1 : Nat) : Int) := by subst hρ; rfl
    clear hρ
    have i1 := v_indexAddr (P := P) (ρ := ρ1) (t := c.tTagL) (x := .tmp 0) (i := .tmp 4) (b := b) (o := o) (l := u.length) (c := cap) (j := ((i + 1 : Nat) : Int)) (kk := .i64) Z.slTag hszT r0 r4 (by omega) (by omega)
    rw [Int.toNat_natCast] at i1
    refine p_val i1 ?_
    refine p_val (v_field (b := b) (o := o + (i + 1) * 2) Z.g0 rfl) ?_
    refine l_lok (l_load1 (b := b) (o := o + (i + 1) * 2 + 0) Z.oneU32 rfl hh3 c1) ?_
    refine p_val (v_arith (kk := .i64) (a := ((i + 1 : Nat) : Int)) (b := 1) (r := (i : Int)) r4 rfl ?_) ?_
    · simp only [arithOf, Option.some.injEq]; rw [IntKind.wrap_i64]; omega
    have i0 := v_indexAddr (P := P) (ρ := ext (ext (ext (ext ρ1 (2 + 2 + 1 + 1) [.pointer (some ⟨b, o + (i + 1) * 2, none⟩)]) (2 + 2 + 1 + 1 + 1) [.pointer (some ⟨b, o + (i + 1) * 2 + 0, none⟩)]) (2 + 2 + 1 + 1 + 1 + 1) [.int .u32 u[i + 1].1]) (2 + 2 + 1 + 1 + 1 + 1 + 1) [.int .i64 i]) (t := c.tTagL) (x := .tmp 0) (i := .tmp 9) (b := b) (o := o) (l := u.length) (c := cap) (j := i) (kk := .i64) Z.slTag hszT
      (by show ext _ _ _ 0 = _; rw [ext_lt (by omega), ext_lt (by omega), ext_lt (by omega), ext_lt (by omega)]; exact r0) rfl (by omega) (by omega)
    rw [Int.toNat_natCast] at i0
    refine p_val i0 ?_
    refine p_val (v_field (b := b) (o := o + i * 2) Z.g0 rfl) ?_
    refine l_lok (l_load1 (b := b) (o := o + i * 2 + 0) Z.oneU32 rfl hh3 c0) ?_
    refine p_val (v_cmp (kk := .u32) (a := (u[i + 1].1 : Nat)) (b := ((u[i]'(by omega)).1 : Nat)) (r := false) rfl rfl (by simp only [cmpOf, Option.some.injEq, decide_eq_false_iff_not]; omega)) ?_
    refine s_cond (b := false) rfl (fun h => by cases h) fun _ => ?_
    exact hsucc 14 _ 14 w3 _ (by rw [ext_lt (by omega), ext_lt (by omega), ext_lt (by omega), ext_lt (by omega), ext_lt (by omega), ext_lt (by omega), ext_lt (by omega), ext_lt (by omega)]; exact r2) rfl rfl k3
  · rintro w1 vr J k1 hvr
    exact s_ret0 k1
end Go.Kf
/- Unknown tags, told. -/
namespace Go.Kf
open Go

/-- While tags are told: so far pre; the row of tags lies from h on. -/
def TJ (w0 : World) (N h : Nat) (pre : TM) (w : World) : Prop := ∃ uv xs, Has w (w0.heap.size + 2) [.int .i64 0, .slice none 0 0, .bool false, rowV w0 N, uv] ∧ Own w uv 2 pre.length xs ∧ (∀ b ∈ blkOf uv, h ≤ b) ∧ TagRows w (fun b => h ≤ b ∧ b ∉ blkOf uv) pre xs

def tTagCl (c : Nums) : Tr :=
  .draw <| .pur (.fieldAddr c.tTree (.tmp 2) 4) none <| .lok (.load c.tTagL (.tmp 3)) none <| .op (.call { callee := .builtin .append, args := ⟨[nilV, .tmp 1]⟩, argTypes := ⟨[c.tBytes, c.tBytes]⟩ }) none [(.load c.tTagL (.tmp 3), 4)] <|
  .pur (.build c.tTag ⟨[(0, .tmp 0), (1, .tmp 5)]⟩) none <| .op (.buildSlice c.tTagL 1 ⟨[(0, .tmp 6)]⟩) none [(.load c.tTagL (.tmp 3), 4)] <| .op (.call { callee := .builtin .append, args := ⟨[.tmp 4, .tmp 7]⟩, argTypes := ⟨[c.tTagL, c.tTagL]⟩ }) none [] <|
  .pur (.fieldAddr c.tTree (.tmp 2) 4) none <| .op (.store c.tTagL (.tmp 9) (.tmp 8)) none [] <| .ret []

/-- The closure that tells a tag. -/
def TagCl (P : Program) (g : Nat) : Prop := ∀ (w0 w1 : World) (N h : Nat) (pre : TM) (p : Nat × List UInt8) (v : Value), TJ w0 N h pre w1 → w0.heap.size + 2 < h → h ≤ w1.heap.size → pre.length < 1073741826 → Ro w1 v 1 p.2.length (bcells p.2) → p.2.length ≤ big →
  Gives P g [.int .u32 p.1, v, ptr (w0.heap.size + 2)] w1 fun _ w2 => TJ w0 N h (pre ++ [p]) w2 ∧ ∃ M, Keeps M w1 w2 ∧ ∀ b ∈ M, b ∈ [w0.heap.size + 2] ∨ h ≤ b

section
variable {P : Program} {c : Nums}

theorem closure_gives {g : Nat} (F : RdFacts P c) (Z : TyFacts P c c.tTree c.tTrees c.tTagL c.tTag) (O : OctFacts P c) (Rw : RowFacts P c.tTag 2) (hPlan : buildPlan P c.tTag = some ([.int .u32 0, .slice none 0 0], [(0, 1), (1, 1)])) (hT : treeIn P g noOrc [.tmp 0, .tmp 1, .tmp 2] 3 = tTagCl c) : TagCl P g := by
  intro w0 w1 N h pre p v ⟨uv, xs, htop, hown, hblk, hrows⟩ hh hsz hpl ho hpb
  refine gives_in (ρ := en [.int .u32 p.1, v, ptr (w0.heap.size + 2)]) F.mix hT (Nat.le_refl _) rfl (by simp [opBelow]) ?_
  show Tr.sem _ _ _ _ _ _ { w1 with drawn := w1.drawn + 1 }
  have kd : Keeps [] w1 { w1 with drawn := w1.drawn + 1 } := keeps_drawn w1 _ _
  generalize ({ w1 with drawn := w1.drawn + 1 } : World) = w2 at kd ⊢
  have htop2 := htop.keep kd (by simp)
  have hown2 := hown.keep kd (by simp)
  have ho2 := ho.keep kd
  refine p_fl Z.f4 Z.oneTagL (show ev _ (.tmp 2) = ptr (w0.heap.size + 2) from rfl) rfl htop2 rfl ?_
  obtain ⟨inf, z, hi, hz, hsz8, hzc, hby⟩ := O.info
  obtain ⟨v3, w3, e3, hown3, k3, hb3⟩ := a_append (P := P) (ρ := ext (ext (en [.int .u32 p.1, v, ptr (w0.heap.size + 2)]) 3 [ptr (w0.heap.size + 2) (0 + 4)]) (3 + 1) [uv]) (w := w2) (t := c.tBytes) (tx := c.tBytes) (x := nilV) (y := .tmp 1) F.bytes hi hz hsz8 hzc rfl rfl (Own.nil w2 1) (ho2.src F.bytes (bcells_one p.2)) (by
    have : (0 + p.2.length) * inf.bytes ≤ 1073741825 * 8 := Nat.mul_le_mul (by simp only [big] at hpb; omega) hby
    omega) (by simp only [big] at hpb; omega)
  rw [Nat.zero_add, List.nil_append] at hown3
  replace k3 : Keeps [] w2 w3 := k3
  have owed : ∀ (ρ : Nat → Value) (w : World), ρ 3 = ptr (w0.heap.size + 2) (0 + 4) → ρ 4 = uv → Has w (w0.heap.size + 2) [.int .i64 0, .slice none 0 0, .bool false, rowV w0 N, uv] → ∀ q ∈ [(Op.load c.tTagL (.tmp 3), 4)], runOp P ρ q.1 w = .ok (.value (ρ q.2)) w := by
    intro ρ w h3 h4 ht q hq
    simp only [List.mem_singleton] at hq
    subst hq
    show runOp P ρ (.load c.tTagL (.tmp 3)) w = .ok (.value (ρ 4)) w
    rw [h4]
    exact l_load1 (b := w0.heap.size + 2) (o := 0 + 4) Z.oneTagL h3 ht rfl
  have htop3 := htop2.keep k3 (by simp)
  refine s_act e3 (owed _ _ rfl rfl htop3) ?_
  refine p_val (v_build (cells := [.int .u32 p.1, v3]) hPlan (fun q hq => by
    simp only [List.mem_cons, List.not_mem_nil, or_false] at hq
    rcases hq with rfl | rfl
    · rfl
    · exact hown3.one) rfl) ?_
  refine s_oneSlice Rw Z.slTag (x := .tmp 6) (cs := [.int .u32 p.1, v3]) rfl rfl fun w4 hr4 k4 z4 => ⟨owed _ _ rfl rfl (htop3.keep k4 (by simp)), ?_⟩
  have hown4 : Own w4 uv 2 pre.length xs := (hown2.keep k3 (by simp)).keep k4 (by simp)
  have htop4 := htop3.keep k4 (by simp)
  refine s_appendOne (m := pre.length) (v := uv) (u := .slice (some ⟨w3.heap.size, 0, none⟩) 1 1) (xs := xs) (cs := [.int .u32 p.1, v3]) Rw Z.slTag rfl rfl hown4 hr4 (fun q hq => by
    simp only [List.mem_cons, List.not_mem_nil, or_false] at hq
    rcases hq with rfl | rfl
    · rfl
    · exact hown3.one) (by omega) fun uv' w5 hown5 k5 hb5 => ⟨fun q hq => (by cases hq), ?_⟩
  have hnt : w0.heap.size + 2 ∉ blkOf uv := fun hb => by have := hblk _ hb; omega
  have htop5 := htop4.keep k5 hnt
  refine p_fs (n := 9) (v := uv') Z.f4 Z.oneTagL (show ev _ (.tmp 2) = ptr (w0.heap.size + 2) from rfl) rfl rfl (by simp [opBelow]) hown5.one htop5 (by simp) fun w6 htop6 k6 => ?_
  have sd := kd.size
  have s3 := k3.size
  have s4 := k4.size
  have hlt := hown.lt
  have k14 : Keeps [] w1 w4 := (kd.trans k3).trans k4
  have hb' : ∀ b ∈ blkOf uv', h ≤ b := fun b hb => by
    rcases hb5 b hb with h' | h'
    · exact hblk b h'
    · omega
  have fresh : ∀ b, b < w4.heap.size → b ∉ blkOf uv → b ∉ blkOf uv' := fun b h1 h2 hb => by
    rcases hb5 b hb with h' | h'
    · exact h2 h'
    · omega
  have hrows4 : TagRows w4 (fun b => h ≤ b ∧ b ∉ blkOf uv) (pre ++ [p]) (xs ++ [.int .u32 p.1, v3]) := by
    refine TagRows.snoc (q := p) (.of (hown3.keep k4 (by simp)).reads (fun b hb => ?_) (by simp only [big] at hpb; omega)) (TagRows.keep k14 (fun b hb => by cases hb) (fun _ h _ => h) _ _ hrows)
    rcases hb3 b hb with h' | h'
    · cases h'
    · exact ⟨by omega, fun hb2 => by have := hlt b hb2; omega⟩
  refine s_ret0 ⟨⟨uv', xs ++ [.int .u32 p.1, v3], htop6, ?_, hb', ?_⟩, blkOf uv ++ [w0.heap.size + 2], ?_, fun b hb => ?_⟩
  · have := hown5.keep k6 (fun b hb => by simp only [List.mem_singleton]; have := hb' b hb; omega)
    rw [List.length_append]
    exact this
  · refine TagRows.keep k6 (fun b hb h' => by simp only [List.mem_singleton] at hb; omega) (fun _ h' _ => h') _ _ ?_
    exact TagRows.keep k5 (fun b hb h' => h'.2 hb) (fun b h' hl => ⟨h'.1, fresh b hl h'.2⟩) _ _ hrows4
  · exact ((k14.mono (by simp)).trans (k5.mono fun x hx => List.mem_append_left _ hx)).trans (k6.mono fun x hx => List.mem_append_right _ hx)
  · rcases List.mem_append.1 hb with h' | h'
    · exact .inr (hblk b h')
    · exact .inl h'

def tellTags : FV → TM
  | .tags m => sortTM m
  | _ => []

theorem gTSteps_snoc (c : Nums) (S : Nat) (x : TStep) : ∀ (ss : List TStep) (n d : Nat) (k : Nat → Nat → Tr), gTSteps c S (ss ++ [x]) n d k = gTSteps c S ss n d fun n' d' => gTStep c S x n' d' k
  | [], _, _, _ => rfl
  | s :: ss, n, d, k => by
    simp only [List.cons_append, gTSteps]
    congr 1
    funext n' d'
    exact gTSteps_snoc c S x ss n' d' k

theorem sortTM_len (m : TM) : (sortTM m).length = m.length := by simp [sortTM]

theorem sortTM_asc (m : TM) : (sortTM m).Pairwise (fun a b => a.1 ≤ b.1) := by
  have h2 := List.pairwise_mergeSort (le := leInt) (fun a b c h1 h2 => by simp only [leInt, decide_eq_true_eq] at *; omega) (fun a b => by simp only [leInt, Bool.or_eq_true, decide_eq_true_eq]; omega) (m.map fun p => (p.1 : Int))
  unfold sortTM
  rw [List.pairwise_map]
  refine h2.imp fun h => ?_
  simp only [leInt, decide_eq_true_eq] at h
  show Int.toNat _ ≤ Int.toNat _
  omega

/-- The tags of a struct, told. -/
theorem sem_tags {R : Value → World → Prop} {Γ : List (List Value → World → Prop)} {n : Nat} {ρ : Nat → Value} {w0 w : World} {N S V D lo i off g fEach fSorted : Nat} {pre post : List Value} {fs : List FV} {ls : List Nat} {ts : List PT} {m : TM} {k : Nat → Nat → Tr} (Z : TyFacts P c c.tTree c.tTrees c.tTagL c.tTag)
    (hCl : TagCl P g) (hE : EachGives P fEach) (hSo : SortedGives P fSorted) (h : TIn w0 D V lo pre post fs) (hls : fs.map FV.wd = ls) (hF : FieldOk P S ls i off) (hf : fs[i]? = some (.tags m)) (hm : m.length ≤ big ∧ ∀ p ∈ m, p.2.length ≤ big) (hn : 6 ≤ n) (h0 : ρ 0 = ptr V pre.length) (h4 : ρ 4 = ptr (w0.heap.size + 2))
    (hT : TS w0 w N ts [] (.slice none 0 0)) (hk : ∀ ρ' w' uv, (∀ x, x < n → ρ' x = ρ x) → TS w0 w' N ts (sortTM m) uv → (k (n + 7) Γ.length).sem P R Γ (n + 7) ρ' w') : (gTStep c S (.tags i g fEach fSorted) n Γ.length k).sem P R Γ n ρ w := by
  simp only [gTStep]
  obtain ⟨cs, mm, hh0, hmm, hcs, _⟩ := h.get (off := off) (w := w0) .refl hf (by rw [hls]; exact hF.off)
  obtain ⟨mv, rfl, htags⟩ := hmm
  have hcell : cs[pre.length + off]? = some mv := by have := hcs 0 (by simp); simpa using this
  have htop := hT.top.lt
  refine s_val (v_nilCheck h0) (s_val (v_field (b := V) (o := pre.length) hF.field ext_at) ?_)
  refine s_val (v_makeFunc1 (v := ptr (w0.heap.size + 2)) (by show ext _ _ _ 4 = _; rw [ext_lt (by omega), ext_lt (by omega)]; exact h4)) ?_
  have hbm : big = 1073741825 := rfl
  have hE1 := hE w0 w V (pre.length + off) g cs mv (ptr (w0.heap.size + 2)) m (fun h pre w' => TJ w0 N h pre w' ∧ w.heap.size ≤ h) [w0.heap.size + 2] hh0 hcell htags.r (by omega) hT.k (fun b hb => by simp only [List.mem_singleton] at hb; omega)
    (fun w' kk => ⟨⟨.slice none 0 0, [], hT.top.keep kk (by simp), Own.nil w' 2, (fun b hb => by cases hb), rfl⟩, kk.size⟩)
    (fun h pre p v w1 ⟨hj, hwh⟩ hsz _ ⟨hpl, _⟩ ho _ hp => (hCl w0 w1 N h pre p v hj (by omega) hsz (by omega) ho (hm.2 p hp)).mono fun _ w2 ⟨h1, h2⟩ => ⟨⟨h1, hwh⟩, h2⟩)
  refine s_callx hE1 (pair_eq (by show ext _ _ _ (n + 1) = _; rw [ext_lt (by omega)]; exact ext_at) ext_at) fun u w1 ⟨⟨hb, _, ⟨uv, xs, htop1, hown1, hblk1, hrows1⟩, hwh⟩, k1⟩ => ?_
  have k01 : Keeps [] w0 w1 := ((hT.k.mono (by simp)).trans k1).less fun x hx => .inr (by simp only [List.mem_singleton] at hx; omega)
  have huok : TagsIn w1 (fun b => w0.heap.size + 2 < b) (sortTM m) uv := ⟨xs, hown1.reads, ⟨fun b hb' => by have := hblk1 b hb'; omega, by rw [sortTM_len]; omega⟩, TagRows.keep (M := []) .refl (fun b hb => by cases hb) (fun b h' _ => by have := h'.1; omega) _ _ hrows1⟩
  have hTS1 : TS w0 w1 N ts (sortTM m) uv := by
    obtain ⟨rcs, r1, r2, r3⟩ := hT.row
    exact ⟨k01, hT.res.keep k1 (by simp), ⟨rcs, r1.keep k1 (by simp), r2, TreesAt.keep k1 (fun b hb h' => by simp only [List.mem_singleton] at hb; omega) (fun _ h' _ => h') _ _ r3⟩, hT.len, htop1, huok⟩
  refine s_val (v_field (b := w0.heap.size + 2) (o := 0) Z.f4 (by show ext _ _ _ 4 = _; rw [ext_lt (by omega), ext_lt (by omega), ext_lt (by omega), ext_lt (by omega)]; exact h4)) ?_
  refine s_lok (l_load1 (b := w0.heap.size + 2) (o := 0 + 4) Z.oneTagL ext_at htop1 rfl) ?_
  refine s_callx (args := [uv]) (hSo w1 _ uv (sortTM m) xs hown1.reads hrows1 (sortTM_asc m) (by rw [sortTM_len]; omega)) (by simp only [List.map_cons, List.map_nil]; congr 1; exact ext_at) fun u2 w2 k2 => ?_
  refine hk _ w2 uv (fun x hx => ?_) (hTS1.keep k2)
  rw [ext_lt (by omega), ext_lt (by omega), ext_lt (by omega), ext_lt (by omega), ext_lt (by omega), ext_lt (by omega), ext_lt (by omega)]
end
end Go.Kf
/- A tell function as a whole, of a struct with tags; and the functions that tell a text, octets, a truth. -/
namespace Go.Kf
open Go

section
variable {P : Program} {c : Nums}

theorem gTail_eq (c : Nums) (S N : Nat) (ss : List TStep) (x : TStep) : ∃ kf, gTell c S N (ss ++ [x]) = .op (.alloc c.tTree) none [] (.op (.makeSlice c.tTrees (.const (.int .i64 N)) (.const (.int .i64 N))) none [] (.op (.build c.tTree ⟨[(3, .tmp 2)]⟩) none [] (.op (.alloc c.tTree) none [] (.op (.store c.tTree (.tmp 4) (.tmp 3)) none []
    (gTSteps c S ss 6 0 fun n d => gTStep c S x n d kf))))) ∧ kf = fun n _ => .op (.load c.tTree (.tmp 4)) none [] <| .op (.store c.tTree (.tmp 1) (.tmp n)) none [] <| .ret [(.tmp 1, some c.tTree)] := by
  refine ⟨_, ?_, rfl⟩
  unfold gTell
  rw [gTSteps_snoc]

theorem told_tags {f S N i off g fEach fSorted : Nat} {ts : List Ty} {ss : List TStep} {tfs : List (List FV → PT)} (F : RdFacts P c) (Z : TyFacts P c c.tTree c.tTrees c.tTagL c.tTag) (K : TellFacts P c) (hCl : TagCl P g) (hE : EachGives P fEach) (hSo : SortedGives P fSorted)
    (hT : treeIn P f noOrc [.tmp 0] 1 = gTell c S N (ss ++ [.tags i g fEach fSorted])) (hN : tfs.length = N) (hsm : N ≤ 1024) (hs : StepsTell P c S ts ss tfs 0) (hF : FieldTy P S ts i off .tags) : TellOf P f ts fun fs => .mk 0 [] false (tfs.map (· fs)) (tellTags (fvGet fs i)) := by
  intro w0 D V lo pre post mid fs hok hh hf
  obtain ⟨f0, hf0, hft⟩ := okFs_get hok hF.2.2
  obtain ⟨m, rfl, hm⟩ := okF_tags hft
  simp only [fvGet_eq hf0, tellTags]
  have hin : TIn w0 D V lo pre post fs := ⟨mid, hh, hf⟩
  have hlt := hh.lt
  have hs' := fun R => steps_told (R := R) (N := N) hok hin hlt ss tfs 0 hs (by omega)
  generalize htl : tfs.map (· fs) = tl at hs' ⊢
  have hN' : tl.length = N := by rw [← htl, List.length_map, hN]
  refine gives_in (ρ := en [ptr V pre.length]) F.mix hT (Nat.le_refl _) rfl (by simp [opBelow]) ?_
  obtain ⟨kf, hkf, hkd⟩ := gTail_eq c S N ss (.tags i g fEach fSorted)
  rw [hkf]
  refine s_alloc K.zero fun w1 hr1 k1 z1 => ?_
  obtain ⟨inf, z, hi, hz, hsz, hzc, hby⟩ := K.row.info
  have hzz : z = .agg ⟨zeroTree⟩ := by
    have := K.zero
    simp only [zeroTy, hi, hz, Option.some.injEq, Prod.mk.injEq] at this
    exact this.1
  obtain ⟨w2, e2, hr2, k2, z2⟩ := a_makeSlice (P := P) (ρ := ext (en [ptr V pre.length]) 1 [ptr w0.heap.size]) (w := w1) (t := c.tTrees) (x := .const (.int .i64 N)) (y := .const (.int .i64 N)) (k1 := .i64) (k2 := .i64) (l := N) (c := N) Z.sl hi hz (by rw [hzc, hsz]) (by omega) rfl rfl (by omega) (Int.le_refl _) (by
    have : inf.bytes * N ≤ 1024 * 1024 := Nat.mul_le_mul hby hsm
    have h2 : ((inf.bytes * N : Nat) : Int) = (inf.bytes : Int) * N := Int.natCast_mul _ _
    omega) (by omega)
  rw [Int.toNat_natCast] at e2 hr2
  rw [hzz] at hr2
  refine s_act e2 (fun p hp => (by cases hp)) ?_
  refine s_val (v_build (cells := [.int .i64 0, .slice none 0 0, .bool false, .slice (some ⟨w1.heap.size, 0, none⟩) N N, .slice none 0 0]) K.plan (fun p hp => by simp only [List.mem_singleton] at hp; subst hp; rfl) rfl) ?_
  refine s_alloc K.zero fun w3 hr3 k3 z3 => ?_
  refine s_storeAll (b := w2.heap.size) (old := zeroTree) (cs := [.int .i64 0, .slice none 0 0, .bool false, .slice (some ⟨w1.heap.size, 0, none⟩) N N, .slice none 0 0]) Z.agg rfl rfl hr3 rfl (fun u hu => by
    simp only [List.mem_cons, List.not_mem_nil, or_false] at hu
    rcases hu with rfl | rfl | rfl | rfl | rfl <;> rfl) fun w4 hr4 k4 => ?_
  have k24 : Keeps [] w2 w4 := ((k3.mono (by simp)).trans k4).less fun x hx => .inr (by simp only [List.mem_singleton] at hx; omega)
  have k04 : Keeps [] w0 w4 := (k1.trans k2).trans k24
  rw [z1] at hr2 hr4
  rw [z2, z1] at hr4
  have hrow4 : Has w4 (w0.heap.size + 1) (List.replicate N zeroTree).flatten := hr2.keep k24 (by simp)
  have hTS : TS w0 w4 N (List.replicate N .zero) [] (.slice none 0 0) :=
    ⟨k04, (hr1.keep k2 (by simp)).keep k24 (by simp), ⟨_, hrow4, zeroTree_flat N, zeroTrees_at _ _ N⟩, by simp, hr4, [], ⟨rfl, .inl ⟨rfl, rfl⟩⟩, ⟨(fun b hb => by cases hb), by decide⟩, rfl⟩
  have hRaw : Raw w0 w4 N 0 := by
    intro rcs hr i _ hN'
    rw [hr.inj hrow4]
    exact zeroTree_drop N i hN'
  refine sem_tsteps (Γ := []) ss tl 0 6 _ _ w4 (List.replicate N .zero) [] (.slice none 0 0) (hs' _) (by simp; omega) (Nat.le_refl _) rfl rfl (by show ptr w2.heap.size = _; rw [z2, z1]) hTS hRaw fun n' Γ' ρ' w5 hle hag hT5 => ?_
  have hfin : (List.replicate N PT.zero).take 0 ++ tl ++ (List.replicate N PT.zero).drop (0 + tl.length) = tl := by simp [hN']
  rw [hfin] at hT5
  refine sem_tags (lo := lo) (ls := ts.map Ty.wd) Z hCl hE hSo hin (okFs_map _ _ hok) hF.ok hf0 hm hle (by rw [hag 0 (by omega)]; rfl) (by rw [hag 4 (by omega)]; show ptr w2.heap.size = _; rw [z2, z1]) hT5 fun ρ2 w6 uv hag2 hT6 => ?_
  subst hkd
  have g4 : ρ2 4 = ptr (w0.heap.size + 2) := by rw [hag2 4 (by omega), hag 4 (by omega)]; show ptr w2.heap.size = _; rw [z2, z1]
  have g1 : ρ2 1 = ptr w0.heap.size := by rw [hag2 1 (by omega), hag 1 (by omega)]; rfl
  refine s_lok (l_loadN (b := w0.heap.size + 2) (o := 0) Z.agg g4 hT6.top (show 0 + 5 ≤ 5 by omega)) ?_
  obtain ⟨rcs, hrr, hrl, hrt⟩ := hT6.row
  obtain ⟨ucs, hur, hub, huw⟩ := hT6.uok
  have huv : uv.oneCell' = true := hur.one
  refine s_storeAll (b := w0.heap.size) (old := zeroTree) (cs := [.int .i64 0, .slice none 0 0, .bool false, .slice (some ⟨w0.heap.size + 1, 0, none⟩) N N, uv]) Z.agg (by show ext _ _ _ 1 = _; rw [ext_lt (by omega)]; exact g1) (by show (ext _ (n' + 7) _ (n' + 7)).cells = _; rw [ext_at]; rfl) hT6.res rfl (fun u hu => by
    simp only [List.mem_cons, List.not_mem_nil, or_false] at hu
    rcases hu with rfl | rfl | rfl | rfl | rfl
    · rfl
    · rfl
    · rfl
    · rfl
    · exact huv) fun w7 hr7 k7 => ?_
  have k07 : Keeps [] w0 w7 := ((hT6.k.mono (by simp)).trans k7).less fun x hx => .inr (by simp only [List.mem_singleton] at hx; omega)
  refine s_retAgg (b := w0.heap.size) (by show ext _ _ _ 1 = _; rw [ext_lt (by omega), ext_lt (by omega)]; exact g1) hr7 Z.agg ⟨⟨_, rfl, ?_⟩, k07⟩
  have hnil : ∀ sz, Reads w7 (.slice none 0 0) sz 0 [] := fun sz => ⟨by simp, .inl ⟨rfl, rfl⟩⟩
  refine ⟨_, _, _, rcs, rfl, ⟨Ro.nil _ 1, (fun h => absurd rfl h), by decide⟩, ?_, ⟨?_, by omega⟩, TreesAt.keep k7 (fun b hb h' => by simp only [List.mem_singleton] at hb; omega) (fun b h' _ => by omega) _ _ hrt, ?_⟩
  · refine ⟨by rw [hrl, hN'], .inr ⟨w0.heap.size + 1, 0, N, rcs, by rw [hN'], by omega, hrr.keep k7 (by simp), by rw [hrl, hN']; omega, ?_⟩⟩
    rw [List.drop_zero, List.take_of_length_le (by rw [hrl, hN']; exact Nat.le_refl _)]
  · intro b hb
    simp only [blkOf, List.mem_singleton] at hb
    omega
  · exact TagsIn.keep ⟨ucs, hur, hub, huw⟩ k7 (fun b hb h' => by simp only [List.mem_singleton] at hb; omega) (fun b h' _ => by omega)
end
end Go.Kf
/- Octets, texts, truths and identifiers, told. -/
namespace Go.Kf
open Go

def tOctetsTree (c : Nums) : Tr := .op (.alloc c.tTree) none [] <| .op (.call { callee := .builtin .append, args := ⟨[nilV, .tmp 0]⟩, argTypes := ⟨[c.tBytes, c.tBytes]⟩ }) none [] <| .op (.binOp .eql c.tBytes (.tmp 0) nilV c.tBytes) none [] <|
  .op (.build c.tTree ⟨[(1, .tmp 2), (2, .tmp 3)]⟩) none [] <| .op (.store c.tTree (.tmp 1) (.tmp 4)) none [] <| .ret [(.tmp 1, some c.tTree)]

section
variable {P : Program} {c : Nums} {R : Value → World → Prop} {Γ : List (List Value → World → Prop)} {n : Nat} {ρ : Nat → Value} {w w0 : World} {k : Tr} {N : Nat} {ts : List PT} {u : TM} {uv : Value} {D V lo S : Nat} {pre post : List Value} {fs : List FV}

/-- A copy of octets, whatever their bound. -/
theorem copy_any {x : Operand} {v : Value} {l : List UInt8} (F : RdFacts P c) (O : OctFacts P c) (hx : ev ρ x = v) (hr : Reads w v 1 l.length (bcells l)) (hl : l.length ≤ big) :
    ∃ v' w', runOp P ρ (.call { callee := .builtin .append, args := ⟨[nilV, x]⟩, argTypes := ⟨[c.tBytes, c.tBytes]⟩ }) w = .ok (.value v') w' ∧ Own w' v' 1 l.length (bcells l) ∧ Keeps [] w w' ∧ (∀ b ∈ blkOf v', w.heap.size ≤ b) := by
  obtain ⟨inf, z, hi, hz, hsz, hzc, hby⟩ := O.info
  obtain ⟨v', w', e, ho, hk, hb⟩ := a_append (P := P) (ρ := ρ) (w := w) (t := c.tBytes) (tx := c.tBytes) (x := nilV) (y := x) F.bytes hi hz hsz hzc rfl hx (Own.nil w 1) (hr.src F.bytes (bcells_one l)) (by
    have : (0 + l.length) * inf.bytes ≤ 1073741825 * 8 := Nat.mul_le_mul (by simp only [big] at hl; omega) hby
    omega) (by simp only [big] at hl; omega)
  rw [Nat.zero_add, List.nil_append] at ho
  refine ⟨v', w', e, ho, hk, fun b hb' => ?_⟩
  rcases hb b hb' with h | h
  · cases h
  · exact h

theorem oct_tree' {A : Nat → Prop} {l : List UInt8} {v : Value} (h : OctIn w A l v) (null : Bool) : TreeAt w A (.mk 0 l null [] []) [.int .i64 0, v, .bool null, .slice none 0 0, .slice none 0 0] := oct_tree h null

theorem octetsTree_gives {f : Nat} (F : RdFacts P c) (O : OctFacts P c) (Z : TyFacts P c c.tTree c.tTrees c.tTagL c.tTag) (K : TellFacts P c) (hT : treeIn P f noOrc [.tmp 0] 1 = tOctetsTree c) : TellCellTy P f .octs := by
  refine ⟨rfl, fun D lo fv hok w v hv => ?_⟩
  obtain ⟨nl, l, rfl, hl⟩ := okF_octs hok
  obtain ⟨v0, e0, ho⟩ := hv
  obtain rfl : v = v0 := by simpa using e0
  refine gives_in (ρ := en [v]) F.mix hT (Nat.le_refl _) rfl (by simp [opBelow]) ?_
  refine s_alloc K.zero fun w1 h1 k1 z1 => ?_
  have ho1 := ho.keep k1 (fun b hb => by cases hb)
  obtain ⟨v2, w2, e2, hown, k2, hb2⟩ := copy_any (ρ := ext (en [v]) 1 [ptr w.heap.size]) (x := .tmp 0) (w := w1) F O rfl ho1.1 hl
  refine s_act e2 (fun p hp => (by cases hp)) ?_
  obtain ⟨a, cp, hva, _⟩ := ho1.1.form
  have hnl : a.isNone = nl := by
    rw [← ho.2.1, hva]
    cases a <;> rfl
  refine s_val (v_eqlSlice (op := .eql) (a := a) (l := l.length) (c := cp) (r := nl) F.bytes hva rfl (.inl ⟨rfl, hnl.symm⟩)) ?_
  refine s_val (v_build (cells := [.int .i64 0, v2, .bool nl, .slice none 0 0, .slice none 0 0]) K.plan (fun q hq => by
    simp only [List.mem_cons, List.not_mem_nil, or_false] at hq
    rcases hq with rfl | rfl
    · exact hown.one
    · rfl) rfl) ?_
  have s1 := k1.size
  refine s_storeAll (b := w.heap.size) (old := zeroTree) (cs := [.int .i64 0, v2, .bool nl, .slice none 0 0, .slice none 0 0]) Z.agg rfl rfl (h1.keep k2 (by simp)) rfl (fun q hq => by
    simp only [List.mem_cons, List.not_mem_nil, or_false] at hq
    rcases hq with rfl | rfl | rfl | rfl | rfl
    · rfl
    · exact hown.one
    · rfl
    · rfl
    · rfl) fun w3 h3 k3 => ?_
  refine s_retAgg (b := w.heap.size) rfl h3 Z.agg ⟨⟨_, rfl, oct_tree (.of (hown.keep k3 fun b hb => by have := hb2 b hb; simp only [List.mem_singleton]; omega).reads (fun b hb => by have := hb2 b hb; omega) (by simp only [big] at hl; omega)) nl⟩, ?_⟩
  exact ((k1.trans k2).mono (by simp) |>.trans k3).less fun x hx => .inr (by simp only [List.mem_singleton] at hx; omega)

/-- Identifiers. -/
theorem tell_uuid {i q off : Nat} {l : List UInt8} {ls : List Nat} (F : RdFacts P c) (U : UuidFacts P c) (O : OctFacts P c) (Z : TyFacts P c c.tTree c.tTrees c.tTagL c.tTag) (G : buildPlan P c.tTree = some (zeroTree, [(0, 1), (1, 1), (2, 1), (3, 1), (4, 1)])) (h : TIn w0 D V lo pre post fs) (hls : fs.map FV.wd = ls) (hF : FieldOk P S ls i off) (hq : q < N)
    (hf : fs[i]? = some (.uuid l)) : SemT P c R w0 N S V pre (.uuid i q) q (tellPrim (.uuid l)) := by
  intro n k Γ ρ w ts u uv hn h0 _ h4 hT hRaw hk
  simp only [gTStep]
  refine s_TL Z h4 hT fun w1 hT1 k1 => ?_
  obtain ⟨cs, m, hh, hm, hcs, hml⟩ := h.get (off := off) hT1.k hf (by rw [hls]; exact hF.off)
  obtain ⟨rfl, hl16⟩ := hm
  have hbl : (bcells l).length = 16 := by rw [bcells_length, hl16]
  refine p_val (v_nilCheck (show ev _ (.tmp 0) = ptr V pre.length by show ext _ _ _ 0 = _; rw [ext_lt (by omega), ext_lt (by omega)]; exact h0)) ?_
  refine p_val (v_field (b := V) (o := pre.length) hF.field ext_at) ?_
  refine p_val (v_sliceArr (b := V) (o := pre.length + off) (m := 16) U.arr F.szU8 ext_at) ?_
  have hr : Reads w1 (.slice (some ⟨V, pre.length + off, none⟩) 16 16) 1 l.length (bcells l) := by
    rw [hl16]
    refine ⟨by rw [hbl], .inr ⟨V, pre.length + off, 16, cs, rfl, Nat.le_refl _, hh, by omega, ?_⟩⟩
    apply List.ext_getElem?
    intro j
    rw [List.getElem?_take]
    split
    · rename_i hj
      rw [List.getElem?_drop]
      exact hcs j (by omega)
    · rw [List.getElem?_eq_none (by omega)]
  obtain ⟨v, w2, e2, ho, k2, hb⟩ := copy_any (ρ := ext (ext (ext (ext (ext ρ n [ptr (w0.heap.size + 2) 3]) (n + 1) [rowV w0 N]) (n + 2) [ptr V pre.length]) (n + 2 + 1) [.pointer (some ⟨V, pre.length + off, none⟩)]) (n + 2 + 1 + 1) [.slice (some ⟨V, pre.length + off, none⟩) 16 16]) (x := .tmp (n + 4)) (w := w1) F O ext_at hr (by rw [hl16]; decide)
  have hT2 := hT1.keep k2
  refine s_act e2 (TL_owed Z (by rw [ext_lt (by omega), ext_lt (by omega), ext_lt (by omega), ext_lt (by omega), ext_at]) (by rw [ext_lt (by omega), ext_lt (by omega), ext_lt (by omega), ext_at]) hT2) ?_
  have hoct : OctIn w2 (fun b => w0.heap.size + 2 < b) l v := .of ho.reads (fun b hb' => by
    have := hb b hb'
    have := hT1.top.lt
    omega) (by omega)
  refine p_val (v_build (cells := [.int .i64 0, v, .bool false, .slice none 0 0, .slice none 0 0]) G (fun p hp => by
    simp only [List.mem_singleton] at hp
    subst hp
    show (ext _ (n + 2 + 1 + 1 + 1) _ (n + 5)).oneCell' = true
    rw [show n + 5 = n + 2 + 1 + 1 + 1 from rfl, ext_at]; exact ho.one) (by
    simp only [List.map_cons, List.map_nil]
    have hev : ∀ ρ' : Nat → Value, ev (ext ρ' (n + 2 + 1 + 1 + 1) [v]) (.tmp (n + 5)) = v := fun _ => ext_at
    rw [hev]
    rfl)) ?_
  refine s_TSet (n := n + 7) (t := .mk 0 l false [] []) (cs := [.int .i64 0, v, .bool false, .slice none 0 0, .slice none 0 0]) Z ?_ hq ext_at (by simp [opBelow]) (oct_tree hoct false) hT2 fun w3 hT3 hR3 => ?_
  · rw [ext_lt (by omega), ext_lt (by omega), ext_lt (by omega), ext_lt (by omega), ext_lt (by omega), ext_at]
  · refine hk (n + 9) Γ _ w3 (by omega) ⟨[], by simp⟩ (fun y hy => ?_) hT3 (hR3 ((hRaw.keep hT k1).keep hT1 k2))
    rw [ext_lt (by omega), ext_lt (by omega), ext_lt (by omega), ext_lt (by omega), ext_lt (by omega), ext_lt (by omega), ext_lt (by omega), ext_lt (by omega), ext_lt (by omega)]

theorem told_uuid {i q off : Nat} {ty : List Ty} (F : RdFacts P c) (Z : TyFacts P c c.tTree c.tTrees c.tTagL c.tTag) (K : TellFacts P c) (O : OctFacts P c) (U : UuidFacts P c) (hF : FieldTy P S ty i off .uuid) : StepTell P c S ty (.uuid i q) q fun fs => tellPrim (fvGet fs i) := by
  intro R w0 N D V lo pre post fs hok hin hq _
  obtain ⟨f, hf, hft⟩ := okFs_get hok hF.2.2
  obtain ⟨l, rfl, _⟩ := okF_uuid hft
  simp only [fvGet_eq hf]
  exact tell_uuid F U O Z K.plan hin (okFs_map _ _ hok) hF.ok hq hf
end
end Go.Kf
/- The reader's functions, more; texts and truths, told. -/
namespace Go.Kf
open Go

theorem wrap_u16 (l : List UInt8) (h : l.length = 2) : IntKind.u16.wrap (Lib.beNat l) = Lib.beNat l := by
  have := beNat_lt l
  rw [h] at this
  simp only [IntKind.wrap, IntKind.bits, IntKind.signed]
  simp; omega

theorem wrap_u32 (l : List UInt8) (h : l.length = 4) : IntKind.u32.wrap (Lib.beNat l) = Lib.beNat l := by
  have := beNat_lt l
  rw [h] at this
  simp only [IntKind.wrap, IntKind.bits, IntKind.signed]
  simp; omega

theorem wrap_u64 (l : List UInt8) (h : l.length = 8) : IntKind.u64.wrap (Lib.beNat l) = Lib.beNat l := by
  have := beNat_lt l
  rw [h] at this
  simp only [IntKind.wrap, IntKind.bits, IntKind.signed]
  simp; omega

theorem wrap_i64_u64 (x : Int) : IntKind.i64.wrap (IntKind.u64.wrap x) = IntKind.i64.wrap x := by
  simp only [IntKind.wrap, IntKind.bits, IntKind.signed]
  simp

def gOctet (c : Nums) (k : Tr) : Tr := gSrc c 6 <| .op (.indexAddr c.tBytes (.tmp 8) (.const (.int .i64 0))) none [] <| .op (.load c.tU8 (.tmp 9)) none [] k

def gLen1 (c : Nums) (v0 : Value) (k : Tr) : Tr := gSrc c 1 <| .op (.call { callee := .builtin .len, args := ⟨[.tmp 3]⟩, argTypes := ⟨[c.tBytes]⟩ }) none [] <| .op (.binOp .lss c.tInt (.tmp 4) (.const (.int .i64 1)) c.tInt) none [] <|
  .cond (.tmp 5) (gFail c 6 <| .ret [(.const v0, none)]) <| gOctet c k

def tInt8 (c : Nums) : Tr := gLen1 c (.int .i8 0) <| gAdvance c (.const (.int .i64 1)) 11 <| .op (.convert c.tU8 c.tI8 (.tmp 10)) none [] <| .ret [(.tmp 18, none)]

def tBoolRd (c : Nums) : Tr := gLen1 c (.bool false) <| .op (.binOp .neq c.tU8 (.tmp 10) (.const (.int .u8 0)) c.tU8) none [] <| gAdvance c (.const (.int .i64 1)) 12 <| .ret [(.tmp 11, none)]

section
variable {P : Program} {c : Nums} {R : Value → World → Prop} {w : World} {rb D : Nat} {r : Rd}

/-- An octet, or nothing is left. -/
theorem s_octet {v0 : Value} {k : Tr} (F : RdFacts P c) (h : RdAt w rb D r) (hnone : r.l = [] → ∀ w', RdAt w' rb D .fail → Keeps [rb] w w' → R v0 w')
    (hk : ∀ (b : UInt8) (t : List UInt8) (ρ : Nat → Value), r.l = b :: t → ρ 0 = ptr rb → ρ 10 = .int .u8 b.toNat → k.sem P R [] 11 ρ w) : (gLen1 c v0 k).sem P R [] 1 (en [ptr rb]) w := by
  refine s_src F rfl h fun v hv hbv hh => ?_
  obtain ⟨a, cp, hav, hcp, hnil⟩ := hv.1.form
  refine s_val (v_len (a := a) (l := r.l.length) (c := cp) F.bytes hav) ?_
  refine s_val (v_cmp (kk := .i64) (a := r.l.length) (b := 1) (r := decide ((r.l.length : Int) < 1)) rfl rfl rfl) ?_
  refine s_cond (b := decide ((r.l.length : Int) < 1)) rfl (fun hb => ?_) fun hb => ?_
  · have hlt : (r.l.length : Int) < 1 := by simpa using hb
    refine s_fail F (by omega) rfl h fun w' vs h' k' => ?_
    exact s_ret1 (hnone (List.eq_nil_of_length_eq_zero (by omega)) w' h' k')
  · have hge : ¬ (r.l.length : Int) < 1 := by simpa using hb
    refine s_src F rfl h fun v2 hv2 hbv2 hh2 => ?_
    rcases hv2.1.2 with ⟨_, h0⟩ | ⟨b, o, cap, cs, rfl, _, hh3, hl3, hx3⟩
    · omega
    have hidx := v_indexAddr (P := P) (ρ := ext (ext (ext (ext (en [ptr rb]) 1 [ptr rb, ptr rb, v]) (1 + 3) [.int .i64 r.l.length]) (1 + 3 + 1) [.bool (decide ((r.l.length : Int) < 1))]) (1 + 3 + 1 + 1) [ptr rb, ptr rb, .slice (some ⟨b, o, none⟩) r.l.length cap]) (t := c.tBytes) (x := .tmp 8) (i := .const (.int .i64 0)) (b := b) (o := o) (l := r.l.length) (c := cap) (j := 0) (kk := .i64) F.bytes F.szU8 rfl rfl (by omega) (by omega)
    refine s_val hidx ?_
    obtain ⟨x, t, hl⟩ : ∃ x t, r.l = x :: t := by
      cases hr : r.l with
      | nil => rw [hr] at hge; simp at hge
      | cons x t => exact ⟨x, t, rfl⟩
    have hcell : cs[o + (0 : Int).toNat * 1]? = some (.int .u8 x.toNat) := by
      have h1 : (bcells r.l)[0]? = some (.int .u8 x.toNat) := by rw [hl]; rfl
      rw [← hx3, List.getElem?_take, if_pos (by omega), List.getElem?_drop] at h1
      simpa using h1
    refine s_lok (l_load1 (b := b) (o := o + (0 : Int).toNat * 1) F.oneU8 rfl hh3 hcell) ?_
    exact hk x t _ hl rfl rfl

theorem int8_gives {f : Nat} (F : RdFacts P c) (h8 : P.underlying c.tI8 = some (.int .i8)) (hT : treeIn P f noOrc [.tmp 0] 1 = tInt8 c) : RdNum P f 1 .i8 := by
  intro w rb D r h
  refine gives_in (ρ := en [ptr rb]) F.mix hT (Nat.le_refl _) rfl (by simp [opBelow]) ?_
  refine s_octet F h (fun hn w' h' k' => ?_) fun b t ρ hl h0 h10 => ?_
  · simp only [rFix, hn]
    exact ⟨rfl, h', k'⟩
  · refine s_advance (kk := .i64) (m := 1) F (by omega) h0 rfl trivial (by rw [hl]; simp) h fun w2 vs h2 k2 => ?_
    refine s_val (v_conv (k1 := .u8) (a := b.toNat) F.u8 h8 (by show ext ρ 11 vs 10 = _; rw [ext_lt (by omega)]; exact h10)) ?_
    refine s_ret1 ⟨?_, ?_, k2⟩
    · show ext _ 18 _ 18 = _
      rw [ext_at]
      simp [rFix, hl, Lib.beNat, Lib.beFrom]
    · have : (rFix 1 r).2 = { r with l := r.l.drop 1 } := by simp [rFix, hl]
      rw [this]
      exact h2

def RdBool (P : Program) (f : Nat) : Prop := RdPure P f fun r => (.bool (rBool r).1, (rBool r).2)

theorem bool_gives {f : Nat} (F : RdFacts P c) (hT : treeIn P f noOrc [.tmp 0] 1 = tBoolRd c) : RdBool P f := by
  intro w rb D r h
  refine gives_in (ρ := en [ptr rb]) F.mix hT (Nat.le_refl _) rfl (by simp [opBelow]) ?_
  refine s_octet F h (fun hn w' h' k' => ?_) fun b t ρ hl h0 h10 => ?_
  · simp only [rBool, rFix, hn]
    exact ⟨rfl, h', k'⟩
  · refine s_val (v_cmp (kk := .u8) (a := b.toNat) (b := 0) (r := (b.toNat : Int) != 0) h10 rfl rfl) ?_
    refine s_advance (n := 12) (kk := .i64) (m := 1) F (by omega) (by show ext ρ 11 _ 0 = _; rw [ext_lt (by omega)]; exact h0) rfl trivial (by rw [hl]; simp) h fun w2 vs h2 k2 => ?_
    refine s_ret1 ⟨?_, ?_, k2⟩
    · show ext _ 12 _ 11 = _
      rw [ext_lt (by omega)]
      show ext ρ 11 _ 11 = _
      rw [ext_at]
      simp only [rBool, rFix, hl]
      simp [Lib.beNat, Lib.beFrom]
      by_cases hb : b.toNat = 0
      · simp [hb]
      · have h2 : ((b.toNat : Int) != 0) = true := by simp; exact hb
        have h3 : (b.toNat != 0) = true := by simpa using hb
        simp [h2, h3]
    · have : (rBool r).2 = { r with l := r.l.drop 1 } := by simp [rBool, rFix, hl]
      rw [this]
      exact h2

theorem any_bool {f : Nat} (h : RdBool P f) : RdAny P f .bool := fun w rb D r hr =>
  (h w rb D r hr).mono fun v w' ⟨hv, h1, k1⟩ => ⟨⟨[v], by rw [hv]; rfl, by rw [hv]; exact ⟨rfl, rfl⟩⟩, h1, k1⟩

def tTextTree (c : Nums) : Tr := .op (.alloc c.tTree) none [] <| .op (.binOp .eql c.tPStr (.tmp 0) (.const (.pointer none)) c.tPStr) none [] <| .cond (.tmp 2)
  (.op (.build c.tTree ⟨[(2, .const (.bool true))]⟩) none [] <| .op (.store c.tTree (.tmp 1) (.tmp 3)) none [] <| .ret [(.tmp 1, some c.tTree)])
  (.op (.nilCheck (.tmp 0)) none [] <| .op (.load c.tStr (.tmp 3)) none [] <| .op (.convert c.tStr c.tBytes (.tmp 4)) none [] <| .op (.build c.tTree ⟨[(1, .tmp 5)]⟩) none [] <| .op (.store c.tTree (.tmp 1) (.tmp 6)) none [] <| .ret [(.tmp 1, some c.tTree)])

theorem tree_ones {A : Nat → Prop} {t : PT} {cs : List Value} (h : TreeAt w A t cs) : ∀ u ∈ cs, u.oneCell' = true := h.ones

theorem textTree_gives {f e : Nat} (F : RdFacts P c) (Z : TyFacts P c c.tTree c.tTrees c.tTagL c.tTag) (K : TellFacts P c) (hstr : oneTy P c.tStr = true) (hp : P.underlying c.tPStr = some (.pointer e)) (hT : treeIn P f noOrc [.tmp 0] 1 = tTextTree c) : TellCellTy P f .ntext := by
  refine ⟨rfl, fun D lo fv hok w v hv => ?_⟩
  obtain ⟨o, rfl, hl⟩ := okF_ntext hok
  obtain ⟨v0, e0, ho⟩ := hv
  obtain rfl : v = v0 := by simpa using e0
  refine gives_in (ρ := en [v]) F.mix hT (Nat.le_refl _) rfl (by simp [opBelow]) ?_
  refine s_alloc K.zero fun w1 h1 k1 z1 => ?_
  have hout : ∀ (t : PT) (cs : List Value) (w2 w3 : World), TreeAt w2 (fun b => w.heap.size < b) t cs → Keeps [] w w2 → Has w3 w.heap.size cs → Keeps [w.heap.size] w2 w3 → (∃ cs', (Value.agg ⟨cs⟩) = .agg ⟨cs'⟩ ∧ TreeAt w3 (fun b => w.heap.size ≤ b) t cs') ∧ Keeps [] w w3 := by
    intro t cs w2 w3 ht k2 _ k3
    refine ⟨⟨cs, rfl, TreeAt.keep k3 (fun b hb h' => by simp only [List.mem_singleton] at hb; omega) (fun b h' _ => by omega) _ _ ht⟩, ((k2.mono (by simp)).trans k3).less fun x hx => .inr (by simp only [List.mem_singleton] at hx; omega)⟩
  cases o with
  | none =>
    simp only [NStrAt] at ho
    subst ho
    refine s_val (v_eqlPtr (op := .eql) (a := none) (r := true) hp rfl rfl (.inl ⟨rfl, rfl⟩)) ?_
    refine s_cond (b := true) rfl (fun _ => ?_) (fun h => by cases h)
    refine s_val (v_build (cells := [.int .i64 0, .slice none 0 0, .bool true, .slice none 0 0, .slice none 0 0]) K.plan (fun q hq => by
      simp only [List.mem_singleton] at hq; subst hq; rfl) rfl) ?_
    have ht : TreeAt w1 (fun b => w.heap.size < b) (.mk 0 [] true [] []) [.int .i64 0, .slice none 0 0, .bool true, .slice none 0 0, .slice none 0 0] := oct_tree ⟨Ro.nil _ 1, (fun h => absurd rfl h), by decide⟩ true
    refine s_storeAll (b := w.heap.size) (old := zeroTree) (cs := [.int .i64 0, .slice none 0 0, .bool true, .slice none 0 0, .slice none 0 0]) Z.agg rfl rfl h1 rfl ht.ones fun w3 h3 k3 => ?_
    exact s_retAgg (b := w.heap.size) rfl h3 Z.agg (hout _ _ w1 w3 ht k1 h3 k3)
  | some l =>
    obtain ⟨b, hb, rfl, hh⟩ := ho
    have hl' := hl l rfl
    refine s_val (v_eqlPtr (op := .eql) (a := some ⟨b, 0, none⟩) (r := false) hp rfl rfl (.inl ⟨rfl, rfl⟩)) ?_
    refine s_cond (b := false) rfl (fun h => by cases h) fun _ => ?_
    refine s_val (v_nilCheck (a := ⟨b, 0, none⟩) rfl) ?_
    refine s_lok (l_load1 (b := b) (o := 0) hstr rfl (hh.keep k1 (by simp)) rfl) ?_
    obtain ⟨v2, w2, e2, ho2, k2, hb2⟩ := a_stringBytes (P := P) (ρ := ext (ext (ext (ext (en [ptr b]) 1 [ptr w.heap.size]) (1 + 1) [.bool false]) (1 + 1 + 1) [.pointer (some ⟨b, 0, none⟩)]) (1 + 1 + 1 + 1) [.string (strOf l)]) (s := c.tStr) (d := c.tBytes) (x := .tmp 4) (w := w1) (l := l) F.str F.bytes F.u8 rfl (by simp only [big] at hl'; omega)
    refine s_act e2 (fun p hp => (by cases hp)) ?_
    refine s_val (v_build (cells := [.int .i64 0, v2, .bool false, .slice none 0 0, .slice none 0 0]) K.plan (fun q hq => by
      simp only [List.mem_singleton] at hq; subst hq; exact ho2.one) rfl) ?_
    have ht : TreeAt w2 (fun b => w.heap.size < b) (.mk 0 l false [] []) [.int .i64 0, v2, .bool false, .slice none 0 0, .slice none 0 0] := oct_tree (.of ho2.reads (fun x hx => by
      rw [hb2] at hx
      simp only [List.mem_singleton] at hx
      omega) (by simp only [big] at hl'; omega)) false
    refine s_storeAll (b := w.heap.size) (old := zeroTree) (cs := [.int .i64 0, v2, .bool false, .slice none 0 0, .slice none 0 0]) Z.agg rfl rfl (h1.keep k2 (by simp)) rfl ht.ones fun w3 h3 k3 => ?_
    exact s_retAgg (b := w.heap.size) rfl h3 Z.agg (hout _ _ w2 w3 ht (k1.trans k2) h3 k3)

def tBoolTree (c : Nums) : Tr := .op (.alloc c.tTree) none [] <| .cond (.tmp 0)
  (.op (.build c.tTree ⟨[(0, .const (.int .i64 1))]⟩) none [] <| .op (.store c.tTree (.tmp 1) (.tmp 2)) none [] <| .ret [(.tmp 1, some c.tTree)])
  (.op (.build c.tTree ⟨[]⟩) none [] <| .op (.store c.tTree (.tmp 1) (.tmp 2)) none [] <| .ret [(.tmp 1, some c.tTree)])

theorem boolTree_gives {f : Nat} (F : RdFacts P c) (Z : TyFacts P c c.tTree c.tTrees c.tTagL c.tTag) (K : TellFacts P c) (hT : treeIn P f noOrc [.tmp 0] 1 = tBoolTree c) : TellCellTy P f .bool := by
  refine ⟨rfl, fun D lo fv hok w v hv => ?_⟩
  obtain ⟨x, rfl⟩ := okF_bool hok
  obtain ⟨hvv, _⟩ := hv
  obtain rfl : v = .bool x := by simpa using hvv
  refine gives_in (ρ := en [.bool x]) F.mix hT (Nat.le_refl _) rfl (by simp [opBelow]) ?_
  refine s_alloc K.zero fun w1 h1 k1 z1 => ?_
  refine s_cond (b := x) rfl (fun hb => ?_) (fun hb => ?_)
  · subst hb
    have ht := num_tree w1 (fun b => w.heap.size < b) 1
    refine s_val (v_build (cells := [.int .i64 1, .slice none 0 0, .bool false, .slice none 0 0, .slice none 0 0]) K.plan (fun q hq => by simp only [List.mem_singleton] at hq; subst hq; rfl) rfl) ?_
    refine s_storeAll (b := w.heap.size) (old := zeroTree) (cs := [.int .i64 1, .slice none 0 0, .bool false, .slice none 0 0, .slice none 0 0]) Z.agg rfl rfl h1 rfl ht.ones fun w3 h3 k3 => ?_
    refine s_retAgg (b := w.heap.size) rfl h3 Z.agg ⟨⟨_, rfl, TreeAt.keep k3 (fun b hb h' => by simp only [List.mem_singleton] at hb; omega) (fun b h' _ => by omega) _ _ ht⟩, ((k1.mono (by simp)).trans k3).less fun x hx => .inr (by simp only [List.mem_singleton] at hx; omega)⟩
  · subst hb
    have ht := num_tree w1 (fun b => w.heap.size < b) 0
    refine s_val (v_build (cells := [.int .i64 0, .slice none 0 0, .bool false, .slice none 0 0, .slice none 0 0]) K.plan (fun q hq => by cases hq) rfl) ?_
    refine s_storeAll (b := w.heap.size) (old := zeroTree) (cs := [.int .i64 0, .slice none 0 0, .bool false, .slice none 0 0, .slice none 0 0]) Z.agg rfl rfl h1 rfl ht.ones fun w3 h3 k3 => ?_
    refine s_retAgg (b := w.heap.size) rfl h3 Z.agg ⟨⟨_, rfl, TreeAt.keep k3 (fun b hb h' => by simp only [List.mem_singleton] at hb; omega) (fun b h' _ => by omega) _ _ ht⟩, ((k1.mono (by simp)).trans k3).less fun x hx => .inr (by simp only [List.mem_singleton] at hx; omega)⟩
end
end Go.Kf
