/- The library for this proof, part 3: trees of function bodies, and what the package's functions do. -/
import Derived.Test.YtecjdkhklbcebadGreatDoorKf2
import Derived.OpenShut
import Derived.ChangeSlices
import Derived.LaidSub
import Derived.Shelf.Bin.BEUint16
import Derived.Shelf.Bin.BEUint32
import Derived.Shelf.Bin.BEUint64
import Derived.MapKept
/- That a tell function's tree tells: a list as a whole. -/
namespace Go.Kf
open Go

section
variable {P : Program} {c : Nums} {R : Value → World → Prop} {w0 : World} {N : Nat} {D V lo S : Nat} {pre post : List Value} {fs : List FV}

theorem zero_raw {rcs a m z : List Value} {q : Nat} (e : rcs = a ++ m ++ z) (ha : a.length = q * 5) (hm : m.length = 5) (h : (rcs.drop (q * 5)).take 5 = zeroTree) : m = zeroTree := by
  rw [e, List.append_assoc, ← ha, List.drop_left' rfl, List.take_left' hm] at h
  exact h

theorem tell_list {i tySl q T sz off : Nat} {nl : Bool} {rows : List (List FV)} {el : TEl} {tl : List PT} {ls : List Nat} (F : RdFacts P c) (Z : TyFacts P c c.tTree c.tTrees c.tTagL c.tTag) (G : buildPlan P c.tTree = some (zeroTree, [(0, 1), (1, 1), (2, 1), (3, 1), (4, 1)])) (Rw : RowFacts P c.tTree 5)
    (hcoin : (P.info? c.tBool).map (fun i => (i.zero, i.size)) = some (some (.bool false), 1)) (h : TIn w0 D V lo pre post fs) (hls : fs.map FV.wd = ls) (hF : FieldOk P S ls i off) (hq : q < N) (hone : oneTy P tySl = true) (hsl : P.underlying tySl = some (.slice T)) (hsz : (P.info? T).map (·.size) = some sz)
    (hf : fs[i]? = some (.list nl rows)) (htl : tl.length = rows.length) (hbig : tl.length < 4294967296) (hVlt : V < w0.heap.size)
    (hel : ∀ (w : World) (B : Nat) (rcs : List Value), Keeps [] w0 w → Has w B rcs → RowsAt D w (B + 1) rows rcs → ∀ (j : Nat) (hj : j < tl.length), ElLaid P c el B (0 + j * sz) tl[j] w) : SemT P c R w0 N S V pre (.list i tySl q el) q (.mk 0 [] nl tl []) := by
  intro n k Γ ρ w ts u uv hn h0 _ h4 hT hRaw hk
  simp only [gTStep]
  refine s_TL Z h4 hT fun w1 hT1 k1 => ?_
  obtain ⟨vcs, mm, hh0, hm, hcs, _⟩ := h.get (off := off) (w := w0) .refl hf (by rw [hls]; exact hF.off)
  obtain ⟨sv, adr, cap, rfl, hsv, hadr, hrow⟩ : ∃ sv adr cap, mm = [sv] ∧ sv = .slice adr tl.length cap ∧ adr.isNone = nl ∧ (0 < tl.length → ∃ B rcs, adr = some ⟨B, 0, none⟩ ∧ Has w0 B rcs ∧ RowsAt D w0 (B + 1) rows rcs) := by
    rcases hm with ⟨rfl, e, rfl⟩ | ⟨rfl, B, cap, rcs, _, e, _, hB, hr⟩
    · exact ⟨_, none, 0, e, by rw [htl]; rfl, rfl, fun h => by rw [htl] at h; simp at h⟩
    · exact ⟨_, some ⟨B, 0, none⟩, cap, e, by rw [htl], rfl, fun _ => ⟨B, rcs, rfl, hB, hr⟩⟩
  have hvc : vcs[pre.length + off]? = some sv := by have := hcs 0 (by simp); simpa using this
  have hV1 := hh0.keep hT1.k (by simp)
  refine s_VX hF.field hone (by rw [ext_lt (by omega), ext_lt (by omega)]; exact h0) hV1 hvc ?_
  refine p_val (v_eqlSlice (op := .eql) (a := adr) (l := tl.length) (c := cap) (r := nl) hsl (by show ext _ (n + 2 + 2) _ (n + 4) = _; rw [ext_at]; exact hsv) rfl (.inl ⟨rfl, hadr.symm⟩)) ?_
  refine p_val (v_slot (w0 := w0) (N := N) Z (by show ext _ _ _ (n + 1) = _; rw [ext_lt (by omega), ext_lt (by omega), ext_lt (by omega), ext_lt (by omega)]; exact ext_at) hq) ?_
  obtain ⟨rcs, hr1, hrl, hrt⟩ := hT1.row
  have hlen := hT1.len
  obtain ⟨a, m0, z, e, ha, hta, hm0, htz⟩ := hrt.cut (List.getElem?_eq_getElem (show q < ts.length by omega))
  have hm0z := zero_raw e ha hm0.len ((hRaw.keep hT k1) rcs hr1 q (Nat.le_refl _) hq)
  subst hm0z
  have hl3 : q * 5 + 2 < rcs.length := by rw [hrl]; omega
  refine p_fs (n := n + 7) (v := .bool nl) Z.f2 F.oneBool (show ev _ (.tmp (n + 6)) = ptr (w0.heap.size + 1) (q * 5) from ext_at) rfl (by show ext _ _ _ (n + 5) = _; rw [ext_lt (by omega)]; exact ext_at) (by simp [opBelow]) rfl hr1 hl3 fun w2 hrow2 k2 => ?_
  have hset : rcs.set (q * 5 + 2) (.bool nl) = a ++ [.int .i64 0, .slice none 0 0, .bool nl, .slice none 0 0, .slice none 0 0] ++ z := by
    rw [e, List.append_assoc, List.set_append_right _ _ (by omega), ha, show q * 5 + 2 - q * 5 = 2 by omega, List.append_assoc]
    rfl
  rw [hset] at hrow2
  have hA : ∀ b ∈ [w0.heap.size + 1], ¬ w0.heap.size + 2 < b := fun b hb => by simp only [List.mem_singleton] at hb; omega
  have htop := hT1.top.lt
  have hs2 := k2.size
  have k02 : Keeps [] w0 w2 := ((hT1.k.mono (by simp)).trans k2).less fun x hx => .inr (by simp only [List.mem_singleton] at hx; omega)
  have hLS : LS w0 w2 w2.heap.size N q nl ts u uv tl 0 (.slice none 0 0) [] a z :=
    ⟨k02, Nat.le_refl _, by omega, hT1.res.keep k2 (by simp), hT1.top.keep k2 (by simp), hT1.uok.keep k2 hA (fun b h' hlt => ⟨h', by omega⟩), hrow2, ha, by rw [← hset, List.length_set]; exact hrl,
      TreesAt.keep k2 hA (fun b h' hlt => ⟨h', by omega⟩) _ _ hta, TreesAt.keep k2 hA (fun b h' hlt => ⟨h', by omega⟩) _ _ htz, Own.nil w2 5, (fun b hb => by cases hb), rfl⟩
  have hV2 := hh0.keep k02 (by simp)
  refine s_get (p := .tmp 0) (n := n + 9) hF.field hone (by show ext _ _ _ 0 = _; rw [ext_lt (by omega), ext_lt (by omega), ext_lt (by omega), ext_lt (by omega), ext_lt (by omega), ext_lt (by omega), ext_lt (by omega), ext_lt (by omega), ext_lt (by omega)]; exact h0) hV2 hvc ?_
  refine s_val (v_len (a := adr) (l := tl.length) (c := cap) hsl (by show ext _ (n + 9) _ (n + 9 + 2) = _; rw [ext_ge]; exact hsv)) ?_
  generalize hρA : (ext (ext _ (n + 9) _) (n + 9 + 3) [Value.int .i64 tl.length]) = ρA
  have hag : ∀ y, y < n → ρA y = ρ y := fun y hy => by
    subst hρA
    rw [ext_lt (by omega), ext_lt (by omega), ext_lt (by omega), ext_lt (by omega), ext_lt (by omega), ext_lt (by omega), ext_lt (by omega), ext_lt (by omega), ext_lt (by omega), ext_lt (by omega), ext_lt (by omega)]
  have fl : ρA (n + 12) = .int .i64 tl.length := by subst hρA; exact ext_at
  clear hρA
  refine s_count (n := n + 13) (q := n + 12) (kk := .i64) (m := tl.length) (ri := []) (fun j w' => ∃ lv xs, LS w0 w' w2.heap.size N q nl ts u uv tl j lv xs a z) (by omega) fl ⟨_, _, hLS⟩ ?_ ?_
  · rintro j hj w3 vr ⟨lv, xs, hls3⟩ hvr J hJ
    obtain rfl : vr = [] := List.eq_nil_of_length_eq_zero hvr
    have hj' : j < tl.length := by omega
    obtain ⟨B, brcs, rfl, hB, hBr⟩ := hrow (by omega)
    have g0 : ext ρA (n + 13) ([] ++ [.int .i64 j, .bool true]) 0 = ptr V pre.length := by rw [ext_lt (by omega), hag 0 (by omega)]; exact h0
    have g4 : ext ρA (n + 13) ([] ++ [.int .i64 j, .bool true]) 4 = ptr (w0.heap.size + 2) := by rw [ext_lt (by omega), hag 4 (by omega)]; exact h4
    have hnext : ∀ w' lv' xs', LS w0 w' w2.heap.size N q nl ts u uv tl (j + 1) lv' xs' a z → J [.int .i64 (j + 1 : Nat)] w' := fun w' lv' xs' hl => hJ [] w' rfl ⟨lv', xs', hl⟩
    have prep : ∀ bb, LS w0 (coinWorld c.tBool bb w3) w2.heap.size N q nl ts u uv tl j lv xs a z ∧ Has (coinWorld c.tBool bb w3) V vcs ∧ ElLaid P c el B (0 + j * sz) tl[j] (coinWorld c.tBool bb w3) := fun bb => by
      have hl := hls3.keep (keeps_coin c.tBool bb w3)
      exact ⟨hl, hh0.keep hl.k (by simp), hel _ B brcs hl.k (hB.keep hl.k (by simp)) (RowsAt.keep hl.k (B + 1) (fun b hb => by cases hb) _ _ hBr) j hj'⟩
    refine ⟨Z.bool, hcoin, ?_, ?_⟩
    · obtain ⟨p1, p2, p3⟩ := prep true
      exact sem_listA (m := n + 15) (jid := n + 13) (Γ := Γ ++ [J]) F Z G Rw hF.field hone hsl hsz (by omega) (by omega) g0 g4 ext_at hq p2 hvc hsv hj' hbig rfl p3 p1 (by simp) hnext
    · obtain ⟨p1, p2, p3⟩ := prep false
      exact sem_listB (m := n + 15) (jid := n + 13) (Γ := Γ ++ [J]) F Z G Rw hF.field hone hsl hsz (by omega) (by omega) g0 g4 ext_at hq p2 hVlt hvc hsv hj' hbig rfl p3 p1 (by simp) hnext
  · rintro w3 vr J ⟨lv, xs, hl⟩ hvr
    obtain rfl : vr = [] := List.eq_nil_of_length_eq_zero hvr
    rw [Int.toNat_natCast] at hl
    have htx := hl.tx
    rw [List.take_length] at htx
    have hs00 := hl.s00
    have hnilO : ∀ (A : Nat → Prop), OctIn w3 A [] (.slice none 0 0) := fun A => ⟨Ro.nil _ 1, (fun h => absurd rfl h), by decide⟩
    have hnilT : ∀ (A : Nat → Prop), TagsIn w3 A [] (.slice none 0 0) := fun A => ⟨[], ⟨rfl, .inl ⟨rfl, rfl⟩⟩, ⟨(fun b hb => by cases hb), by decide⟩, rfl⟩
    have htree : TreeAt w3 (fun b => w0.heap.size + 2 < b) (.mk 0 [] nl tl []) [.int .i64 0, .slice none 0 0, .bool nl, lv, .slice none 0 0] :=
      ⟨_, _, _, xs, rfl, hnilO _, hl.own.reads, ⟨fun b hb => by have := hl.blk b hb; omega, hbig⟩, htx.mono fun b h' _ => by have := h'.1; omega, hnilT _⟩
    have hrows : TreesAt w3 (fun b => w0.heap.size + 2 < b) (ts.set q (.mk 0 [] nl tl [])) (a ++ [.int .i64 0, .slice none 0 0, .bool nl, lv, .slice none 0 0] ++ z) := by
      rw [set_eq (show q < ts.length by omega), List.append_assoc]
      exact TreesAt.append (hl.ta.mono fun b h' _ => h'.1) ⟨_, z, rfl, htree, hl.tz.mono fun b h' _ => h'.1⟩
    have hTS : TS w0 w3 N (ts.set q (.mk 0 [] nl tl [])) u uv := ⟨hl.k, hl.res, ⟨_, hl.row, hl.rl, hrows⟩, by simp [hlen], hl.top, hl.uok.keep (M := []) .refl (fun b hb => by cases hb) (fun b h' _ => h'.1)⟩
    have hRaw3 : Raw w0 w3 N (q + 1) := by
      intro rcs' hr' i hi hN
      rw [hr'.inj hl.row]
      have hold := (hRaw.keep hT k1) rcs hr1 i (by omega) hN
      rw [← hold, e]
      apply List.ext_getElem?
      intro p
      simp only [List.getElem?_take]
      split
      · rw [List.getElem?_drop, List.getElem?_drop, List.getElem?_append_right (by simp; omega), List.getElem?_append_right (by simp [zeroTree]; omega)]
        simp [zeroTree]
      · rfl
    have hgoal := hk (n + 15) (Γ ++ [J]) (ext ρA (n + 13) ([] ++ [.int .i64 ((tl.length : Int).toNat : Int), .bool false])) w3 (by omega) ⟨[J], rfl⟩ (fun y hy => by rw [ext_lt (by omega)]; exact hag y hy) hTS hRaw3
    rw [show (Γ ++ [J]).length = Γ.length + 1 by simp] at hgoal
    exact hgoal
end
end Go.Kf
/- A tell function as a whole, of a struct without tags. -/
namespace Go.Kf
open Go

section
variable {P : Program} {c : Nums} {R : Value → World → Prop} {w0 : World} {N : Nat} {D V lo S : Nat} {pre post : List Value} {fs : List FV}

/-- Each step tells its thing. -/
def StepsT (P : Program) (c : Nums) (R : Value → World → Prop) (w0 : World) (N S V : Nat) (pre : List Value) : List TStep → List PT → Nat → Prop
  | [], [], _ => True
  | s :: ss, t :: tl, q => SemT P c R w0 N S V pre s q t ∧ StepsT P c R w0 N S V pre ss tl (q + 1)
  | _, _, _ => False

theorem sem_tsteps : ∀ (ss : List TStep) (tl : List PT) (q n : Nat) (k : Nat → Nat → Tr) (Γ : List (List Value → World → Prop)) (ρ : Nat → Value) (w : World) (ts : List PT) (u : TM) (uv : Value), StepsT P c R w0 N S V pre ss tl q → q + tl.length ≤ ts.length → 6 ≤ n → ρ 0 = ptr V pre.length → ρ 1 = ptr w0.heap.size → ρ 4 = ptr (w0.heap.size + 2) → TS w0 w N ts u uv → Raw w0 w N q →
    (∀ n' Γ' ρ' w', n ≤ n' → (∀ x, x < n → ρ' x = ρ x) → TS w0 w' N (ts.take q ++ tl ++ ts.drop (q + tl.length)) u uv → (k n' Γ'.length).sem P R Γ' n' ρ' w') → (gTSteps c S ss n Γ.length k).sem P R Γ n ρ w
  | [], [], q, n, k, Γ, ρ, w, ts, u, uv, _, _, _, _, _, _, hT, _, hk => by
    refine hk n Γ ρ w (Nat.le_refl _) (fun _ _ => rfl) ?_
    have : ts.take q ++ [] ++ ts.drop (q + ([] : List PT).length) = ts := by simp
    rw [this]
    exact hT
  | [], _ :: _, _, _, _, _, _, _, _, _, _, h, _, _, _, _, _, _, _, _ => h.elim
  | _ :: _, [], _, _, _, _, _, _, _, _, _, h, _, _, _, _, _, _, _, _ => h.elim
  | s :: ss, t :: tl, q, n, k, Γ, ρ, w, ts, u, uv, ⟨h1, h2⟩, hl, hn, h0, hr, h4, hT, hRaw, hk => by
    simp only [gTSteps]
    simp only [List.length_cons] at hl
    refine h1 n _ Γ ρ w ts u uv hn h0 hr h4 hT hRaw fun n1 Γ1 ρ1 w1 hle _ hag hT1 hRaw1 => ?_
    refine sem_tsteps ss tl (q + 1) n1 k Γ1 ρ1 w1 (ts.set q t) u uv h2 (by simp; omega) (by omega) (by rw [hag 0 (by omega)]; exact h0) (by rw [hag 1 (by omega)]; exact hr) (by rw [hag 4 (by omega)]; exact h4) hT1 hRaw1 fun n2 Γ2 ρ2 w2 hle2 hag2 hT2 => ?_
    refine hk n2 Γ2 ρ2 w2 (by omega) (fun y hy => (hag2 y (by omega)).trans (hag y hy)) ?_
    have e : (ts.set q t).take (q + 1) ++ tl ++ (ts.set q t).drop (q + 1 + tl.length) = ts.take q ++ (t :: tl) ++ ts.drop (q + (t :: tl).length) := by
      have e1 : (ts.set q t).take (q + 1) = ts.take q ++ [t] := by
        rw [List.take_succ_eq_append_getElem (by simp; omega), List.take_set_of_le (Nat.le_refl q)]
        simp
      have e2 : (ts.set q t).drop (q + 1 + tl.length) = ts.drop (q + 1 + tl.length) := List.drop_set_of_lt (by omega)
      rw [e1, e2, List.length_cons, show q + (tl.length + 1) = q + 1 + tl.length by omega]
      simp
    rw [e] at hT2
    exact hT2

theorem zeroTree_flat (n : Nat) : ((List.replicate n zeroTree).flatten).length = n * 5 := by
  induction n with
  | zero => rfl
  | succ n ih => rw [List.replicate_succ, List.flatten_cons, List.length_append, ih]; simp [zeroTree]; omega

theorem zeroTree_drop (n i : Nat) (h : i < n) : ((((List.replicate n zeroTree).flatten).drop (i * 5)).take 5) = zeroTree := by
  induction i generalizing n with
  | zero =>
    obtain ⟨m, rfl⟩ : ∃ m, n = m + 1 := ⟨n - 1, by omega⟩
    rw [List.replicate_succ, List.flatten_cons, Nat.zero_mul, List.drop_zero, List.take_left' (show zeroTree.length = 5 from rfl)]
  | succ i ih =>
    obtain ⟨m, rfl⟩ : ∃ m, n = m + 1 := ⟨n - 1, by omega⟩
    rw [List.replicate_succ, List.flatten_cons, show (i + 1) * 5 = 5 + i * 5 by omega, ← List.drop_drop, List.drop_left' (show zeroTree.length = 5 from rfl)]
    exact ih m (by omega)

structure TellFacts (P : Program) (c : Nums) : Prop where
  plan : buildPlan P c.tTree = some (zeroTree, [(0, 1), (1, 1), (2, 1), (3, 1), (4, 1)])
  zero : zeroTy P c.tTree = some (.agg ⟨zeroTree⟩, 5)
  row : RowFacts P c.tTree 5
  coin : (P.info? c.tBool).map (fun i => (i.zero, i.size)) = some (some (.bool false), 1)

/-- A struct's telling. -/
theorem tell_gives {f : Nat} {ss : List TStep} {tl : List PT} (F : RdFacts P c) (Z : TyFacts P c c.tTree c.tTrees c.tTagL c.tTag) (K : TellFacts P c) (hT : treeIn P f noOrc [.tmp 0] 1 = gTell c S N ss) (hN : tl.length = N) (hsm : N ≤ 1024)
    (hs : ∀ R, StepsT P c R w0 N S V pre ss tl 0) : Gives P f [ptr V pre.length] w0 fun v w' => (∃ cs, v = .agg ⟨cs⟩ ∧ TreeAt w' (fun b => w0.heap.size ≤ b) (.mk 0 [] false tl []) cs) ∧ Keeps [] w0 w' := by
  refine gives_in (ρ := en [ptr V pre.length]) F.mix hT (Nat.le_refl _) rfl (by simp [opBelow]) ?_
  unfold gTell
  refine s_alloc K.zero fun w1 hr1 k1 z1 => ?_
  obtain ⟨inf, z, hi, hz, hsz, hzc, hby⟩ := K.row.info
  have hzz : z = .agg ⟨zeroTree⟩ := by
    have := K.zero
    simp only [zeroTy, hi, hz, Option.some.injEq, Prod.mk.injEq] at this
    exact this.1
  obtain ⟨w2, e2, hr2, k2, z2⟩ := a_makeSlice (P := P) (ρ := ext (en [ptr V pre.length]) 1 [ptr w0.heap.size]) (w := w1) (t := c.tTrees) (x := .const (.int .i64 N)) (y := .const (.int .i64 N)) (k1 := .i64) (k2 := .i64) (l := N) (c := N) Z.sl hi hz (by rw [hzc, hsz]) (by omega) rfl rfl (by omega) (Int.le_refl _) (by
    have : inf.bytes * N ≤ 1024 * 1024 := Nat.mul_le_mul hby hsm
    have h2 : ((inf.bytes * N : Nat) : Int) = (inf.bytes : Int) * N := Int.natCast_mul _ _
    omega) (by omega)
  rw [Int.toNat_natCast] at e2 hr2
  rw [hzz] at hr2
  refine s_act e2 (fun p hp => (by cases hp)) ?_
  refine s_val (v_build (cells := [.int .i64 0, .slice none 0 0, .bool false, .slice (some ⟨w1.heap.size, 0, none⟩) N N, .slice none 0 0]) K.plan (fun p hp => by simp only [List.mem_singleton] at hp; subst hp; rfl) rfl) ?_
  refine s_alloc K.zero fun w3 hr3 k3 z3 => ?_
  refine s_storeAll (b := w2.heap.size) (old := zeroTree) (cs := [.int .i64 0, .slice none 0 0, .bool false, .slice (some ⟨w1.heap.size, 0, none⟩) N N, .slice none 0 0]) Z.agg rfl rfl hr3 rfl (fun u hu => by
    simp only [List.mem_cons, List.not_mem_nil, or_false] at hu
    rcases hu with rfl | rfl | rfl | rfl | rfl <;> rfl) fun w4 hr4 k4 => ?_
  have k24 : Keeps [] w2 w4 := ((k3.mono (by simp)).trans k4).less fun x hx => .inr (by simp only [List.mem_singleton] at hx; omega)
  have k04 : Keeps [] w0 w4 := (k1.trans k2).trans k24
  rw [z1] at hr2 hr4
  rw [z2, z1] at hr4
  have hrow4 : Has w4 (w0.heap.size + 1) (List.replicate N zeroTree).flatten := hr2.keep k24 (by simp)
  have hTS : TS w0 w4 N (List.replicate N .zero) [] (.slice none 0 0) :=
    ⟨k04, (hr1.keep k2 (by simp)).keep k24 (by simp), ⟨_, hrow4, zeroTree_flat N, zeroTrees_at _ _ N⟩, by simp, hr4, [], ⟨rfl, .inl ⟨rfl, rfl⟩⟩, ⟨(fun b hb => by cases hb), by decide⟩, rfl⟩
  have hRaw : Raw w0 w4 N 0 := by
    intro rcs hr i _ hN'
    rw [hr.inj hrow4]
    exact zeroTree_drop N i hN'
  refine sem_tsteps (Γ := []) ss tl 0 6 _ _ w4 (List.replicate N .zero) [] (.slice none 0 0) (hs _) (by simp; omega) (Nat.le_refl _) rfl rfl (by show ptr w2.heap.size = _; rw [z2, z1]) hTS hRaw fun n' Γ' ρ' w5 hle hag hT5 => ?_
  have hfin : (List.replicate N PT.zero).take 0 ++ tl ++ (List.replicate N PT.zero).drop (0 + tl.length) = tl := by simp [hN]
  rw [hfin] at hT5
  refine s_lok (l_loadN (b := w0.heap.size + 2) (o := 0) Z.agg (by show ρ' 4 = _; rw [hag 4 (by omega)]; show ptr w2.heap.size = _; rw [z2, z1]; rfl) hT5.top (show 0 + 5 ≤ 5 by omega)) ?_
  obtain ⟨rcs, hrr, hrl, hrt⟩ := hT5.row
  refine s_storeAll (b := w0.heap.size) (old := zeroTree) (cs := [.int .i64 0, .slice none 0 0, .bool false, .slice (some ⟨w0.heap.size + 1, 0, none⟩) N N, .slice none 0 0]) Z.agg (by show ext _ _ _ 1 = _; rw [ext_lt (by omega), hag 1 (by omega)]; rfl) (by show (ext _ n' _ n').cells = _; rw [ext_at]; rfl) hT5.res rfl (fun u hu => by
    simp only [List.mem_cons, List.not_mem_nil, or_false] at hu
    rcases hu with rfl | rfl | rfl | rfl | rfl <;> rfl) fun w6 hr6 k6 => ?_
  have k06 : Keeps [] w0 w6 := ((hT5.k.mono (by simp)).trans k6).less fun x hx => .inr (by simp only [List.mem_singleton] at hx; omega)
  refine s_retAgg (b := w0.heap.size) (by show ext _ _ _ 1 = _; rw [ext_lt (by omega), ext_lt (by omega), hag 1 (by omega)]; rfl) hr6 Z.agg ⟨⟨_, rfl, ?_⟩, k06⟩
  have hnil : ∀ sz, Reads w6 (.slice none 0 0) sz 0 [] := fun sz => ⟨by simp, .inl ⟨rfl, rfl⟩⟩
  refine ⟨_, _, _, rcs, rfl, ⟨Ro.nil _ 1, (fun h => absurd rfl h), by decide⟩, ?_, ⟨?_, by omega⟩, TreesAt.keep k6 (fun b hb h' => by simp only [List.mem_singleton] at hb; omega) (fun b h' _ => by omega) _ _ hrt, [], hnil 2, ⟨(fun b hb => by cases hb), by decide⟩, rfl⟩
  · refine ⟨by rw [hrl, hN], .inr ⟨w0.heap.size + 1, 0, N, rcs, by rw [hN], by omega, hrr.keep k6 (by simp), by rw [hrl, hN]; omega, ?_⟩⟩
    rw [List.drop_zero, List.take_of_length_le (by rw [hrl, hN]; exact Nat.le_refl _)]
  · intro b hb
    simp only [blkOf, List.mem_singleton] at hb
    omega
end
end Go.Kf
/- A message made, its version set, read, told. -/
namespace Go.Kf
open Go

section
variable {P : Program} {c : Nums} {w : World}

/-- kmsg.NewPtr..: the struct's type, how it is set to its defaults. -/
def tNew (S fDef : Nat) : Tr := .op (.alloc S) none [] <| .op (callOp fDef [.tmp 0]) none [] <| .ret [(.tmp 0, none)]

def NewOk (P : Program) (f : Nat) (mid : List Value) : Prop := ∀ w : World, Gives P f [] w fun v w' => v = ptr w.heap.size ∧ Has w' w.heap.size mid ∧ Keeps [] w w'

theorem new_gives {f S fDef s : Nat} {z : Value} {dflt : List FV} {mid : List Value} (hmix : P.follows .mixedOrders = true) (hz : zeroTy P S = some (z, s)) (hD : DefOk P fDef S dflt) (hmid : immL dflt = some mid) (hT : treeIn P f noOrc [] 0 = tNew S fDef) : NewOk P f mid := by
  intro w
  refine gives_in (ρ := en []) hmix hT (Nat.le_refl _) rfl (by simp) ?_
  obtain ⟨z', dc, hz', hdc, hdef⟩ := hD
  obtain rfl : z' = z := by
    unfold zeroTy at hz
    cases hi : P.info? S with
    | none => rw [hi] at hz'; cases hz'
    | some inf =>
      rw [hi] at hz'
      simp only [Option.map_some, Option.some.injEq] at hz'
      rw [hi] at hz
      simp only [hz', Option.some.injEq, Prod.mk.injEq] at hz
      exact hz.1
  refine s_alloc hz fun w1 h1 k1 z1 => ?_
  have h2 := hdef w1 w.heap.size [] [] (by simpa using h1)
  refine s_callx h2 rfl fun v w2 ⟨h3, k2⟩ => ?_
  have : dc = mid := immL_eq hmid (hdc 0 w 0)
  subst this
  exact s_ret1 ⟨rfl, by simpa using h3, ((k1.mono (by simp)).trans k2).less fun x hx => .inr (by simp only [List.mem_singleton] at hx; subst hx; exact Nat.le_refl _)⟩

/-- SetVersion -/
def tSetVersion (c : Nums) (S : Nat) : Tr := gSet (.tmp 0) S 0 c.tI16 (.tmp 1) 2 <| .ret []

theorem setVersion_gives {f S : Nat} (F : RdFacts P c) (hone : oneTy P c.tI16 = true) (hS : fieldOff P S 0 = some 0) (hT : treeIn P f noOrc [.tmp 0, .tmp 1] 2 = tSetVersion c S) {V : Nat} {x : Value} {mid : List Value} (hV : Has w V (x :: mid)) (v : Int) :
    Gives P f [ptr V, .int .i16 v] w fun _ w' => Has w' V (.int .i16 v :: mid) ∧ Keeps [V] w w' := by
  refine gives_in (ρ := en [ptr V, .int .i16 v]) F.mix hT (Nat.le_refl _) rfl (by simp [opBelow]) ?_
  refine s_set hS hone rfl rfl (by simp [opBelow]) rfl hV (by simp) fun w' h' k' => s_ret0 ⟨h', k'⟩

/-- ReadFrom, UnsafeReadFrom -/
def tWrap (f : Nat) (b : Bool) : Tr := .op (callOp f [.tmp 0, .tmp 1, .const (.bool b)]) none [] <| .ret [(.tmp 2, none)]

theorem wrap_gives {f g : Nat} {b : Bool} {v1 v2 : Value} {Post : Value → World → Prop} (hmix : P.follows .mixedOrders = true) (hT : treeIn P f noOrc [.tmp 0, .tmp 1] 2 = tWrap g b) (h : Gives P g [v1, v2, .bool b] w Post) : Gives P f [v1, v2] w Post := by
  refine gives_in (ρ := en [v1, v2]) hmix hT (Nat.le_refl _) rfl (by simp [opBelow]) ?_
  exact s_callx h rfl fun v w' hp => s_ret1 hp

/-- A constant. -/
def tConst (v : Value) : Tr := .ret [(.const v, none)]

def tMax (c : Nums) (fNew fMax : Nat) : Tr := .op (callOp fNew []) none [] <| .op (callOp fMax [.tmp 0]) none [] <| .op (.convert c.tI16 c.tInt (.tmp 1)) none [] <| .ret [(.tmp 2, none)]

theorem max_gives {f fNew fMax : Nat} {mid : List Value} {m : Int} (F : RdFacts P c) (hN : NewOk P fNew mid) (hM : treeIn P fMax noOrc [.tmp 0] 1 = tConst (.int .i16 m)) (hT : treeIn P f noOrc [] 0 = tMax c fNew fMax) (hm : IntKind.i64.wrap m = m) :
    Gives P f [] w fun v w' => v = .int .i64 m ∧ Keeps [] w w' := by
  refine gives_in (ρ := en []) F.mix hT (Nat.le_refl _) rfl (by simp) ?_
  refine s_callx (hN w) rfl fun v w1 ⟨hv, _, k1⟩ => ?_
  have h2 : Gives P fMax [v] w1 fun u w' => u = .int .i16 m ∧ w' = w1 := gives_in (ρ := en [v]) F.mix hM (Nat.le_refl _) rfl (by simp [opBelow]) (s_ret1 ⟨rfl, rfl⟩)
  refine s_callx h2 rfl fun u w2 ⟨hu, hw⟩ => ?_
  subst hw
  refine s_val (v_conv (k1 := .i16) (a := m) F.i16 F.int hu) ?_
  rw [hm]
  exact s_ret1 ⟨rfl, k1⟩

/-- n % (most + 1) -/
def tVersion (c : Nums) : Tr := .op (.convert c.tU8 c.tInt (.tmp 0)) none [] <| .op (.binOp .add c.tInt (.tmp 1) (.const (.int .i64 1)) c.tInt) none [] <| .op (.binOp .rem c.tInt (.tmp 2) (.tmp 3) c.tInt) none [] <| .ret [(.tmp 4, none)]

theorem v_rem {ρ : Nat → Value} {t u : Nat} {x y : Operand} {a b : Nat} (hx : ev ρ x = .int .i64 a) (hy : ev ρ y = .int .i64 b) (hb : 0 < b) : Val P ρ (.binOp .rem t x y u) (.int .i64 (a % b : Nat)) := fun w => by
  unfold runOp bareOp
  simp only [execOp, hx, hy]
  have hb0 : ¬ b = 0 := by omega
  have h2 : Int.tmod (a : Int) b = ((a % b : Nat) : Int) := rfl
  simp [eqGuard, binOp, Op.intDiv, hb0, h2]

theorem version_gives {f : Nat} (F : RdFacts P c) (hT : treeIn P f noOrc [.tmp 0, .tmp 1] 2 = tVersion c) {n m : Nat} (hn : n < 256) (hm : m < 32768) : Gives P f [.int .u8 n, .int .i64 m] w fun v w' => v = .int .i64 (n % (m + 1) : Nat) ∧ w' = w := by
  refine gives_in (ρ := en [.int .u8 n, .int .i64 m]) F.mix hT (Nat.le_refl _) rfl (by simp [opBelow]) ?_
  refine s_val (v_conv (k1 := .u8) (a := n) F.u8 F.int rfl) ?_
  rw [i64_small (by omega) (by omega)]
  refine s_val (v_arith (kk := .i64) (a := m) (b := 1) (r := ((m + 1 : Nat) : Int)) rfl rfl ?_) ?_
  · simp only [arithOf, Option.some.injEq]; rw [IntKind.wrap_i64]; omega
  refine s_val (v_rem (a := n) (b := m + 1) rfl rfl (by omega)) ?_
  exact s_ret1 ⟨rfl, rfl⟩
end
end Go.Kf
/- The doors that tell: a message made, read from a copy of octets, told. -/
namespace Go.Kf
open Go

section
variable {P : Program} {c : Nums} {w : World}

/-- Octets that are given: they can be read. -/
def DataIn (w : World) (v : Value) (l : List UInt8) : Prop := (v = .slice none 0 0 ∧ l = []) ∨ ∃ a cap, v = .slice (some a) l.length cap ∧ ∀ i (hi : i < l.length), w.cell? (a.add i) = some (.int .u8 l[i].toNat)

theorem DataIn.form {v : Value} {l : List UInt8} (h : DataIn w v l) : ∃ a cp, v = .slice a l.length cp := by
  rcases h with ⟨rfl, rfl⟩ | ⟨a, cap, rfl, _⟩
  · exact ⟨_, _, rfl⟩
  · exact ⟨_, _, rfl⟩

theorem DataIn.keep {w' : World} {v : Value} {l : List UInt8} (h : DataIn w v l) (hk : Keeps [] w w') : DataIn w' v l := by
  rcases h with h | ⟨a, cap, e, hc⟩
  · exact .inl h
  · refine .inr ⟨a, cap, e, fun i hi => ?_⟩
    have h1 := hc i hi
    unfold World.cell? at h1 ⊢
    cases hb : w.heap[(a.add i).block]? with
    | none => rw [hb] at h1; cases h1
    | some o => rw [hk.block _ (Array.getElem?_eq_some_iff.1 hb).1 (by simp)]; exact h1

theorem DataIn.src {v : Value} {l : List UInt8} {tx e : Nat} (h : DataIn w v l) (ht : P.underlying tx = some (.slice e)) : Src P 1 tx v l.length (bcells l) w := by
  rcases h with ⟨rfl, rfl⟩ | ⟨a, cap, rfl, hc⟩
  · exact Src.ofNil w ht 0
  · refine Src.ofSlice w ht a l.length cap _ (by simp [bcells_length]) (fun j u hu => ?_) (bcells_one l)
    simp only [bcells, List.getElem?_map] at hu
    cases hj : l[j]? with
    | none => rw [hj] at hu; cases hu
    | some x =>
      rw [hj] at hu
      simp only [Option.map_some, Option.some.injEq] at hu
      obtain ⟨hlt, hx⟩ := List.getElem?_eq_some_iff.1 hj
      rw [hc j hlt, hx, hu]

def tDoor (c : Nums) (fNew fSet fRead fTell : Nat) : Tr :=
  .op (.alloc c.tTree) none [] <| .op (callOp fNew []) none [] <| .op (.convert c.tInt c.tI16 (.tmp 0)) none [] <| .op (callOp fSet [.tmp 3, .tmp 4]) none [] <|
  .op (.call { callee := .builtin .append, args := ⟨[nilV, .tmp 1]⟩, argTypes := ⟨[c.tBytes, c.tBytes]⟩ }) none [] <| .op (callOp fRead [.tmp 3, .tmp 6]) none [] <| .op (.binOp .neq c.tErr (.tmp 7) (.const .nilIface) c.tErr) none [] <|
  .cond (.tmp 8) (.op (.build c.tTree ⟨[]⟩) none [] <| .op (.store c.tTree (.tmp 2) (.tmp 9)) none [] <| .ret [(.tmp 2, some c.tTree), (.const (.bool false), none)]) <|
  .op (callOp fTell [.tmp 3]) none [] <| .op (.store c.tTree (.tmp 2) (.tmp 9)) none [] <| .ret [(.tmp 2, some c.tTree), (.const (.bool true), none)]

/-- A tree and whether it was told. -/
theorem s_retTold {R : Value → World → Prop} {Γ : List (List Value → World → Prop)} {n b t : Nat} {ρ : Nat → Value} {x : Operand} {cs : List Value} {ok : Bool} (hx : ev ρ x = ptr b) (hh : Has w b cs) (ht : aggTy P t = some cs.length) (h : R (.tuple #[.agg ⟨cs⟩, .bool ok]) w) :
    (Tr.ret [(x, some t), (.const (.bool ok), none)]).sem P R Γ n ρ w := by
  refine ⟨[.agg ⟨cs⟩, .bool ok], ?_, h⟩
  have h1 := aggTy_spec (w := w) ht
  have h2 := loadCells_run (P := P) (n := cs.length) (o := 0) hh (by omega)
  simp only [List.drop_zero, List.take_length] at h2
  have h3 : ev ρ (.const (.bool ok)) = .bool ok := rfl
  simp only [evRet, List.map_cons, List.map_nil, hx, h3, ptr, retVals, asAddr, Sem.run_bind, Sem.run_pure, Result.andThen_ok, loadVar, h1.1, if_true, size_run h1.2, h2]

/-- What a message is told as, of octets: its steps' pure twin. -/
def toldOf (ss : List Step) (fs1 : List FV) (g : List FV → PT) (l : List UInt8) : Option PT := match runSteps ss fs1 ⟨l, false, l.isEmpty⟩ with
  | some (fs, r) => if r.bad then none else some (g fs)
  | none => none

structure OctFacts (P : Program) (c : Nums) : Prop where
  info : ∃ inf z, P.info? c.tU8 = some inf ∧ inf.zero = some z ∧ inf.size = 1 ∧ z.cells.size = 1 ∧ inf.bytes ≤ 8

/-- A copy of octets. -/
theorem copy_octets {ρ : Nat → Value} {x : Operand} {v : Value} {l : List UInt8} (F : RdFacts P c) (O : OctFacts P c) (hx : ev ρ x = v) (hr : DataIn w v l) (hl : l.length ≤ 1073741824) :
    ∃ v' w', runOp P ρ (.call { callee := .builtin .append, args := ⟨[nilV, x]⟩, argTypes := ⟨[c.tBytes, c.tBytes]⟩ }) w = .ok (.value v') w' ∧ Own w' v' 1 l.length (bcells l) ∧ Keeps [] w w' ∧ (∀ b ∈ blkOf v', w.heap.size ≤ b) ∧ nilOf v' = l.isEmpty := by
  obtain ⟨inf, z, hi, hz, hsz, hzc, hb⟩ := O.info
  by_cases hnil : l = []
  · subst hnil
    have hs := hr.src (P := P) F.bytes
    refine ⟨.slice none 0 0, w, ?_, ⟨rfl, .inl ⟨rfl, rfl⟩⟩, .refl, (fun b hb => by cases hb), rfl⟩
    unfold runOp bareOp
    have e2 : ev ρ nilV = .slice none 0 0 := rfl
    have e1 : (Array.map (ev ρ) ⟨[nilV, x]⟩ : Array Value) = ⟨[.slice none 0 0, v]⟩ := by simp [hx, e2]
    simp only [execOp, resolve, pure_bind, invoke, builtin, Sem.run_bind, e1]
    have hcells : (Builtin.firstCells inf.size 0 v).run P w = .ok (bcells []).toArray w := by
      rw [hsz]
      exact hs.cells
    have h' : (Builtin.append_ ⟨[c.tBytes, c.tBytes]⟩ 0 ⟨[.slice none 0 0, v]⟩).run P w = .ok (.slice none 0 0) w := by
      simp [Builtin.append_, run_underlying F.bytes, sizeOf, typeInfo, hi, hs.len, hcells]
    rw [h']
    rfl
  obtain ⟨v', w', h1, h2, h3, h4⟩ := a_append (P := P) (ρ := ρ) (w := w) (t := c.tBytes) (tx := c.tBytes) (x := nilV) (y := x) F.bytes hi hz hsz hzc rfl hx (Own.nil w 1) (hr.src F.bytes) (by
    have : (0 + l.length) * inf.bytes ≤ 1073741824 * 8 := Nat.mul_le_mul (by omega) hb
    omega) (by omega)
  rw [Nat.zero_add, List.nil_append] at h2
  refine ⟨v', w', h1, h2, h3, fun b hb => ?_, ?_⟩
  · rcases h4 b hb with h | h
    · cases h
    · exact h
  · rcases h2.2 with ⟨_, h0⟩ | ⟨b, cap, spare, rfl, _⟩
    · exact absurd (List.eq_nil_of_length_eq_zero h0) hnil
    · cases l with
      | nil => exact absurd rfl hnil
      | cons _ _ => rfl


/-- What the door yields. -/
def DoorPost (w w' : World) (v : Value) : Option PT → Prop
  | some t => ∃ cs, v = .tuple #[.agg ⟨cs⟩, .bool true] ∧ TreeAt w' (fun b => w.heap.size ≤ b) t cs
  | none => v = .tuple #[.agg ⟨zeroTree⟩, .bool false]

theorem door_gives {f fNew fSet fRead fTell : Nat} {mid : List Value} {x0 e0 : Value} {ver : Int} {out : List UInt8 → Option PT} {data : Value} {l : List UInt8} (F : RdFacts P c) (O : OctFacts P c) (K : TellFacts P c) (Z : TyFacts P c c.tTree c.tTrees c.tTagL c.tTag) (hT : treeIn P f noOrc [.tmp 0, .tmp 1] 2 = tDoor c fNew fSet fRead fTell)
    (herr : ∃ ms, P.underlying c.tErr = some (.interface ms)) (he0 : ∃ d y, e0 = .iface d y) (hver : IntKind.i16.wrap ver = ver) (hN : NewOk P fNew (x0 :: mid)) (hSet : ∀ (w : World) (V : Nat), Has w V (x0 :: mid) → Gives P fSet [ptr V, .int .i16 ver] w fun _ w' => Has w' V (.int .i16 ver :: mid) ∧ Keeps [V] w w')
    (hRT : ∀ (w : World) (V D : Nat) (src : Value), w.heap.size ≤ w.heap.size → Has w V (.int .i16 ver :: mid) → Reads w src 1 l.length (bcells l) → nilOf src = l.isEmpty → (∀ b ∈ blkOf src, b = D) → D < w.heap.size → V ≠ D → ErrAt w c.gErr e0 → c.gErr ≠ V → Gives P fRead [ptr V, src] w fun u w' => Keeps [V] w w' ∧
      match out l with
      | some t => u = .nilIface ∧ Gives P fTell [ptr V] w' fun v w2 => (∃ cs, v = .agg ⟨cs⟩ ∧ TreeAt w2 (fun b => w'.heap.size ≤ b) t cs) ∧ Keeps [] w' w2
      | none => u = e0)
    (hl : l.length ≤ 1073741824) (hr : DataIn w data l) (he : ErrAt w c.gErr e0) : Gives P f [.int .i64 ver, data] w fun v w' => DoorPost w w' v (out l) ∧ Keeps [] w w' := by
  refine gives_in (ρ := en [.int .i64 ver, data]) F.mix hT (Nat.le_refl _) rfl (by simp [opBelow]) ?_
  refine s_alloc K.zero fun w1 h1 k1 z1 => ?_
  refine s_callx (hN w1) rfl fun v w2 ⟨hv, h2, k2⟩ => ?_
  subst hv
  refine s_val (v_conv (k1 := .i64) (a := ver) F.int F.i16 rfl) ?_
  rw [hver]
  refine s_callx (hSet w2 w1.heap.size h2) rfl fun u3 w3 ⟨h3, k3⟩ => ?_
  have s2 := k2.size
  have s3 := k3.size
  have k13 : Keeps [] w1 w3 := ((k2.mono (by simp)).trans k3).less fun x hx => .inr (by simp only [List.mem_singleton] at hx; omega)
  have k03 := k1.trans k13
  have hr3 := hr.keep k03
  obtain ⟨src, w4, e4, ho4, k4, hb4, hnil⟩ := copy_octets (ρ := ext (ext (ext (ext (en [.int .i64 ver, data]) 2 [ptr w.heap.size]) 3 [ptr w1.heap.size]) 4 [.int .i16 ver]) 5 [u3]) (x := .tmp 1) (v := data) F O rfl hr3 hl
  refine s_act e4 (fun p hp => (by cases hp)) ?_
  have h4 := h3.keep k4 (by simp)
  have k04 := k03.trans k4
  have he4 := he.keep k04 (by simp)
  have s4 := k4.size
  have hgl := he.2
  have hV4 := h4.lt
  -- the block of the octets
  obtain ⟨D, hD1, hD2, hD3⟩ : ∃ D, (∀ b ∈ blkOf src, b = D) ∧ D < w4.heap.size ∧ w1.heap.size ≠ D := by
    rcases ho4.2 with ⟨rfl, _⟩ | ⟨b, cap, spare, rfl, hh, _⟩
    · exact ⟨c.gErr, (fun b hb => by cases hb), by omega, by omega⟩
    · exact ⟨b, (fun x hx => by simpa [blkOf] using hx), hh.lt, by have := hb4 b (by simp [blkOf]); have := h3.lt; omega⟩
  refine s_callx (hRT w4 w1.heap.size D src (Nat.le_refl _) h4 ho4.reads hnil hD1 hD2 hD3 he4 (by omega)) rfl fun u w5 ⟨k5, hout⟩ => ?_
  have h15 : Has w5 w.heap.size zeroTree := ((h1.keep k13 (by simp)).keep k4 (by simp)).keep k5 (by simp; omega)
  have k05 : Keeps [] w w5 := ((k04.mono (by simp)).trans k5).less fun x hx => .inr (by simp only [List.mem_singleton] at hx; omega)
  obtain ⟨ms, hms⟩ := herr
  cases ho : out l with
  | none =>
    rw [ho] at hout
    subst hout
    obtain ⟨d, y, rfl⟩ := he0
    refine s_val (v_neqNil (v := .iface d y) (r := true) hms rfl (.inr ⟨d, y, rfl, rfl⟩)) ?_
    refine s_cond (b := true) rfl (fun _ => ?_) (fun h => by cases h)
    refine s_val (v_build (cells := zeroTree) K.plan (fun p hp => by cases hp) rfl) ?_
    refine s_storeAll (b := w.heap.size) (old := zeroTree) (cs := zeroTree) Z.agg rfl rfl h15 rfl (zeroTree_at w (fun _ => True)).ones fun w6 h6 k6 => ?_
    refine s_retTold (b := w.heap.size) rfl h6 Z.agg ⟨rfl, ?_⟩
    exact ((k05.mono (by simp)).trans k6).less fun x hx => .inr (by simp only [List.mem_singleton] at hx; omega)
  | some t =>
    rw [ho] at hout
    obtain ⟨rfl, hTell⟩ := hout
    refine s_val (v_neqNil (v := .nilIface) (r := false) hms rfl (.inl ⟨rfl, rfl⟩)) ?_
    refine s_cond (b := false) rfl (fun h => by cases h) fun _ => ?_
    refine s_callx hTell rfl fun v w6 ⟨⟨cs, hv, ht⟩, k6⟩ => ?_
    subst hv
    have hcl := ht.len
    have s5 := k5.size
    refine s_storeAll (b := w.heap.size) (old := zeroTree) (cs := cs) (by rw [hcl]; exact Z.agg) rfl rfl (h15.keep k6 (by simp)) (by rw [hcl]; rfl) ht.ones fun w7 h7 k7 => ?_
    refine s_retTold (b := w.heap.size) rfl h7 (by rw [hcl]; exact Z.agg) ⟨⟨cs, rfl, ?_⟩, ?_⟩
    · exact TreeAt.keep k7 (fun b hb h' => by simp only [List.mem_singleton] at hb; omega) (fun b h' _ => by omega) _ _ ht
    · exact (((k05.trans k6).mono (by simp)).trans k7).less fun x hx => .inr (by simp only [List.mem_singleton] at hx; omega)
end
end Go.Kf
/- The laws that both ways of reading tell the same. -/
namespace Go.Kf
open Go

section
variable {P : Program} {c : Nums} {w : World}

def tUnsafeLaw (c : Nums) (fMax fVer fTell fUns fGot fSame : Nat) : Tr :=
  .op (.call { callee := .builtin .len, args := ⟨[.tmp 1]⟩, argTypes := ⟨[c.tBytes]⟩ }) none [] <| .op (.binOp .gtr c.tInt (.tmp 2) (.const (.int .i64 2147483647)) c.tInt) none [] <|
  .cond (.tmp 3) (.ret [(.const (.bool true), none)]) <| .op (callOp fMax []) none [] <| .op (.binOp .lss c.tInt (.tmp 4) (.const (.int .i64 0)) c.tInt) none [] <|
  .cond (.tmp 5) (.ret [(.const (.bool false), none)]) <| .op (.call { callee := .builtin .len, args := ⟨[.tmp 1]⟩, argTypes := ⟨[c.tBytes]⟩ }) none [] <| .op (.binOp .gtr c.tInt (.tmp 6) (.const (.int .i64 1000)) c.tInt) none [] <|
  .cond (.tmp 7) (.ret [(.const (.bool true), none)]) <| .op (callOp fVer [.tmp 0, .tmp 4]) none [] <| .op (callOp fTell [.tmp 8, .tmp 1]) none [] <| .op (.extract (.tmp 9) 0) none [] <| .op (.extract (.tmp 9) 1) none [] <|
  .op (.alloc c.tTree) none [] <| .op (.store c.tTree (.tmp 12) (.tmp 10)) none [] <| .op (callOp fVer [.tmp 0, .tmp 4]) none [] <| .op (callOp fUns [.tmp 14, .tmp 1]) none [] <| .op (.extract (.tmp 15) 0) none [] <| .op (.extract (.tmp 15) 1) none [] <|
  .op (.alloc c.tTree) none [] <| .op (.store c.tTree (.tmp 18) (.tmp 16)) none [] <| .draw <| .pur (.binOp .eql c.tBool (.tmp 11) (.tmp 17) c.tBool) none <|
  .cond (.tmp 20) (.pur (.unOp .not c.tBool (.tmp 11)) none <| .cond (.tmp 21) (.ret [(.const (.bool true), none)]) <| .lok (.load c.tTree (.tmp 12)) none <| .lok (.load c.tTree (.tmp 18)) none <|
    .op (callOp fGot [.tmp 22]) none [(.load c.tTree (.tmp 18), 23)] <| .op (callOp fGot [.tmp 23]) none [] <| .op (callOp fSame [.tmp 24, .tmp 25]) none [] <| .ret [(.tmp 26, none)]) (.ret [(.const (.bool false), none)])

theorem DoorPost.form {w w' : World} {v : Value} {o : Option PT} (h : DoorPost w w' v o) : ∃ cs, v = .tuple #[.agg ⟨cs⟩, .bool o.isSome] ∧ cs.length = 5 ∧ (∀ q ∈ cs, q.oneCell' = true) ∧ ∀ t, o = some t → TreeAt w' (fun b => w.heap.size ≤ b) t cs := by
  cases o with
  | none => exact ⟨zeroTree, h, rfl, (zeroTree_at w (fun _ => True)).ones, fun t ht => by cases ht⟩
  | some t =>
    obtain ⟨cs, hv, ht⟩ := h
    exact ⟨cs, hv, ht.len, ht.ones, fun t' ht' => by cases ht'; exact ht⟩

theorem unsafeLaw_gives {f fMax fVer fTell fUns fGot fSame n m : Nat} {data : Value} {l : List UInt8} {e0 : Value} {out : Nat → Option PT} (F : RdFacts P c) (K : TellFacts P c) (Z : TyFacts P c c.tTree c.tTrees c.tTagL c.tTag) (hT : treeIn P f noOrc [.tmp 0, .tmp 1] 2 = tUnsafeLaw c fMax fVer fTell fUns fGot fSame)
    (hMax : ∀ w, Gives P fMax [] w fun v w' => v = .int .i64 m ∧ Keeps [] w w') (hVer : ∀ w, Gives P fVer [.int .u8 n, .int .i64 m] w fun v w' => v = .int .i64 (n % (m + 1) : Nat) ∧ w' = w)
    (hTell : ∀ w, l.length ≤ 1000 → DataIn w data l → ErrAt w c.gErr e0 → Gives P fTell [.int .i64 (n % (m + 1) : Nat), data] w fun v w' => DoorPost w w' v (out (n % (m + 1))) ∧ Keeps [] w w')
    (hUns : ∀ w, l.length ≤ 1000 → DataIn w data l → ErrAt w c.gErr e0 → Gives P fUns [.int .i64 (n % (m + 1) : Nat), data] w fun v w' => DoorPost w w' v (out (n % (m + 1))) ∧ Keeps [] w w')
    (hGot : ∀ x, GotOf P fGot x) (hSame : ∀ x, SameTreeOf P fSame x) (hr : DataIn w data l) (he : ErrAt w c.gErr e0) : Gives P f [.int .u8 n, data] w fun v w' => v = .bool true ∧ Keeps [] w w' := by
  refine gives_in (ρ := en [.int .u8 n, data]) F.mix hT (Nat.le_refl _) rfl (by simp [opBelow]) ?_
  obtain ⟨a, cp, hda⟩ := hr.form
  refine s_val (v_len (a := a) (l := l.length) (c := cp) F.bytes hda) ?_
  refine s_val (v_cmp (kk := .i64) (a := l.length) (b := 2147483647) (r := decide ((l.length : Int) > 2147483647)) rfl rfl rfl) ?_
  refine s_cond (b := decide ((l.length : Int) > 2147483647)) rfl (fun _ => s_ret1 ⟨rfl, .refl⟩) fun _ => ?_
  refine s_callx (hMax w) rfl fun v w1 ⟨hv, k1⟩ => ?_
  subst hv
  refine s_val (v_cmp (kk := .i64) (a := m) (b := 0) (r := false) rfl rfl (by simp [cmpOf])) ?_
  refine s_cond (b := false) rfl (fun h => by cases h) fun _ => ?_
  refine s_val (v_len (a := a) (l := l.length) (c := cp) F.bytes hda) ?_
  refine s_val (v_cmp (kk := .i64) (a := l.length) (b := 1000) (r := decide ((l.length : Int) > 1000)) rfl rfl rfl) ?_
  refine s_cond (b := decide ((l.length : Int) > 1000)) rfl (fun _ => s_ret1 ⟨rfl, k1⟩) fun hle => ?_
  have hl : l.length ≤ 1000 := by
    have : ¬ (l.length : Int) > 1000 := by simpa using hle
    omega
  refine s_callx (hVer w1) rfl fun v w2 ⟨hv, hw⟩ => ?_
  subst hw
  subst hv
  refine s_callx (hTell w2 hl (hr.keep k1) (he.keep k1 (by simp))) rfl fun v w3 ⟨hd1, k3⟩ => ?_
  obtain ⟨cs1, rfl, hl1, ho1, ht1⟩ := hd1.form
  refine s_val (v_extract (vs := #[.agg ⟨cs1⟩, .bool (out (n % (m + 1))).isSome]) rfl rfl) ?_
  refine s_val (v_extract (vs := #[.agg ⟨cs1⟩, .bool (out (n % (m + 1))).isSome]) rfl rfl) ?_
  refine s_alloc K.zero fun w4 h4 k4 z4 => ?_
  refine s_storeAll (b := w3.heap.size) (old := zeroTree) (cs := cs1) (by rw [hl1]; exact Z.agg) rfl rfl h4 (by rw [hl1]; rfl) ho1 fun w5 h5 k5 => ?_
  have k35 : Keeps [] w3 w5 := ((k4.mono (by simp)).trans k5).less fun x hx => .inr (by simp only [List.mem_singleton] at hx; omega)
  have k05 := (k1.trans k3).trans k35
  refine s_callx (hVer w5) rfl fun v w6 ⟨hv, hw⟩ => ?_
  subst hw
  subst hv
  refine s_callx (hUns w6 hl (hr.keep k05) (he.keep k05 (by simp))) rfl fun v w7 ⟨hd2, k7⟩ => ?_
  obtain ⟨cs2, rfl, hl2, ho2, ht2⟩ := hd2.form
  refine s_val (v_extract (vs := #[.agg ⟨cs2⟩, .bool (out (n % (m + 1))).isSome]) rfl rfl) ?_
  refine s_val (v_extract (vs := #[.agg ⟨cs2⟩, .bool (out (n % (m + 1))).isSome]) rfl rfl) ?_
  refine s_alloc K.zero fun w8 h8 k8 z8 => ?_
  refine s_storeAll (b := w7.heap.size) (old := zeroTree) (cs := cs2) (by rw [hl2]; exact Z.agg) rfl rfl h8 (by rw [hl2]; rfl) ho2 fun w9 h9 k9 => ?_
  have k79 : Keeps [] w7 w9 := ((k8.mono (by simp)).trans k9).less fun x hx => .inr (by simp only [List.mem_singleton] at hx; omega)
  show Tr.sem _ _ _ _ _ _ { w9 with drawn := w9.drawn + 1 }
  have hd : Keeps [] w9 { w9 with drawn := w9.drawn + 1 } := keeps_drawn w9 _ _
  generalize ({ w9 with drawn := w9.drawn + 1 } : World) = w10 at hd ⊢
  have k0a : Keeps [] w w10 := ((k05.trans k7).trans k79).trans hd
  have h5a := ((h5.keep k7 (by simp)).keep k79 (by simp)).keep hd (by simp)
  have h9a := h9.keep hd (by simp)
  refine p_val (v_eqlBool (op := .eql) (a := (out (n % (m + 1))).isSome) (b := (out (n % (m + 1))).isSome) (r := true) Z.bool rfl rfl (.inl ⟨rfl, by simp⟩)) ?_
  refine s_cond (b := true) rfl (fun _ => ?_) (fun h => by cases h)
  refine p_val (v_not (b := (out (n % (m + 1))).isSome) rfl) ?_
  refine s_cond (b := !(out (n % (m + 1))).isSome) rfl (fun _ => s_ret1 ⟨rfl, k0a⟩) fun hs => ?_
  obtain ⟨t, hto⟩ : ∃ t, out (n % (m + 1)) = some t := Option.isSome_iff_exists.1 (by simpa using hs)
  have t1 := TreeAt.keep ((((k35.trans k7).trans k79).trans hd)) (fun b hb => by cases hb) (fun _ h _ => h) _ _ (ht1 t hto)
  have t2 := TreeAt.keep (k79.trans hd) (fun b hb => by cases hb) (fun _ h _ => h) _ _ (ht2 t hto)
  refine l_lok (l_loadN (b := w3.heap.size) (o := 0) Z.agg rfl h5a (by omega)) ?_
  rw [show (cs1.drop 0).take 5 = cs1 by rw [List.drop_zero, List.take_of_length_le (by omega)]]
  refine l_lok (l_loadN (b := w7.heap.size) (o := 0) Z.agg rfl h9a (by omega)) ?_
  rw [show (cs2.drop 0).take 5 = cs2 by rw [List.drop_zero, List.take_of_length_le (by omega)]]
  refine s_call (xs := [.tmp 22]) (hGot t w10 _ cs1 t1) fun v w11 ⟨⟨g1, hv, tg1⟩, k11⟩ => ⟨?_, ?_⟩
  · intro p hp
    simp only [List.mem_singleton] at hp
    subst hp
    have := l_loadN (P := P) (ρ := en []) (w := w11) (x := .const (ptr w7.heap.size)) (b := w7.heap.size) (o := 0) Z.agg rfl (h9a.keep k11 (by simp)) (by omega)
    rw [show (cs2.drop 0).take 5 = cs2 by rw [List.drop_zero, List.take_of_length_le (by omega)]] at this
    exact this
  subst hv
  refine s_callx (hGot t w11 _ cs2 (TreeAt.keep k11 (fun b hb => by cases hb) (fun _ h _ => h) _ _ t2)) rfl fun v w12 ⟨⟨g2, hv, tg2⟩, k12⟩ => ?_
  subst hv
  refine s_callx (hSame t w12 _ _ g1 g2 (TreeAt.keep k12 (fun b hb => by cases hb) (fun _ h _ => h) _ _ tg1) tg2) rfl fun v w13 ⟨hv, k13⟩ => ?_
  exact s_ret1 ⟨hv, ((k0a.trans k11).trans k12).trans k13⟩
end
end Go.Kf
/- Reading and telling, joined. -/
namespace Go.Kf
open Go

/-- A tell function, over values of these types. -/
def TellOf (P : Program) (f : Nat) (ts : List Ty) (g : List FV → PT) : Prop := ∀ (w : World) (D V lo : Nat) (pre post mid : List Value) (fs : List FV), okFs fs ts → Has w V (pre ++ mid ++ post) → FsAt D w lo fs mid →
  Gives P f [ptr V pre.length] w fun v w' => (∃ cs, v = .agg ⟨cs⟩ ∧ TreeAt w' (fun b => w.heap.size ≤ b) (g fs) cs) ∧ Keeps [] w w'

theorem rt_gives {P : Program} {c : Nums} {e : Fns} {f g fTell S fDef : Nat} {ds : List Dset} {ls : List Nat} {ss : List Step} {v : Int} {uns : Bool} {fs0 fs1 : List FV} {mid0 mid1 : List Value} {ts : List Ty} {gp : List FV → PT} (F : RdFacts P c) (A : RfFacts P c S) (hOk : hasRet ss = true → OkGives P e.ok) (hCo : CompGives P e.complete c.gErr)
    (hT : treeIn P g (orcV 9 v) [.tmp 0, .tmp 1, .const (.bool uns)] 3 = gReadFrom c e S fDef v ss) (hW : treeIn P f noOrc [.tmp 0, .tmp 1] 2 = tWrap g uns) (hDef : DefSets P fDef ls ds) (hok : StepsOk P c S ls ss) (hdeep : deepsOk ss = true) (hsh : shapesOk fs0 ds = true) (h0 : fs0.map FV.wd = ls) (h01 : applyD ds fs0 = fs1) (hidx : idxOk fs1 ss = true)
    (himm0 : immL fs0 = some mid0) (himm : immL fs1 = some mid1) (hv : fs1[0]? = some (.one (.int .i16 v))) (hl1 : fs1.map FV.wd = ls) (hty : tySteps ts ss = true) (htd : okImms fs1 ts = true) (hTell : TellOf P fTell ts gp)
    {w : World} {V D : Nat} {src e0 : Value} {l : List UInt8} (hV : Has w V mid0) (hr : Reads w src 1 l.length (bcells l)) (hn : nilOf src = l.isEmpty) (hb : ∀ b ∈ blkOf src, b = D) (hD : D < w.heap.size) (hVD : V ≠ D) (he : ErrAt w c.gErr e0) (hgV : c.gErr ≠ V) (hl : l.length ≤ 1073741824) :
    Gives P f [ptr V, src] w fun u w' => Keeps [V] w w' ∧ match toldOf ss fs1 gp l with
      | some t => u = .nilIface ∧ Gives P fTell [ptr V] w' fun v w2 => (∃ cs, v = .agg ⟨cs⟩ ∧ TreeAt w2 (fun b => w'.heap.size ≤ b) t cs) ∧ Keeps [] w' w2
      | none => u = e0 := by
  refine wrap_gives F.mix hW ((readFrom_gives F A hOk hCo hT hDef hok hdeep hsh h0 h01 hidx himm hv hl1 hV (fun D lo => immL_at himm0 D w lo) hr hb hD hVD he hgV hl).mono fun u w' ⟨kk, hp⟩ => ⟨kk, ?_⟩)
  rw [hn] at hp
  unfold toldOf
  cases hrun : runSteps ss fs1 ⟨l, false, l.isEmpty⟩ with
  | none => rw [hrun] at hp; exact hp
  | some x =>
    obtain ⟨fs, r⟩ := x
    rw [hrun] at hp
    simp only [RfPost] at hp
    cases hbad : r.bad with
    | true =>
      rw [hbad] at hp
      simp only [hbad, if_true] at hp ⊢
      exact hp
    | false =>
      rw [hbad] at hp
      obtain ⟨hu, mid, hm, hf⟩ := hp
      simp only [hbad, Bool.false_eq_true, if_false]
      exact ⟨hu, hTell w' D V w.heap.size [] [] mid fs (runSteps_ok ss ts fs1 _ fs r hty (okImms_ok htd) hl hrun) (by simpa using hm) hf⟩
end Go.Kf
/- A tell function, by the types of its struct's fields. -/
namespace Go.Kf
open Go

mutual
def Ty.wd : Ty → Nat
  | .uuid => 16
  | .sub ts => tyWds ts
  | _ => 1
def tyWds : List Ty → Nat
  | [] => 0
  | t :: ts => t.wd + tyWds ts
end

theorem okF_num {f : FV} {k : IntKind} (h : okF f (.num k)) : ∃ x, f = .one (.int k x) ∧ k.wrap x = x := by
  cases f with
  | one v => obtain ⟨x, rfl, h⟩ := h; exact ⟨x, rfl, h⟩
  | ptr o => cases o <;> simp [okF] at h
  | _ => simp [okF] at h

theorem okF_bool {f : FV} (h : okF f .bool) : ∃ b, f = .one (.bool b) := by
  cases f with
  | one v => obtain ⟨x, rfl⟩ := h; exact ⟨x, rfl⟩
  | ptr o => cases o <;> simp [okF] at h
  | _ => simp [okF] at h

theorem okF_text {f : FV} (h : okF f .text) : ∃ l, f = .text l ∧ l.length ≤ big := by
  cases f with
  | text l => exact ⟨l, rfl, h.2⟩
  | ptr o => cases o <;> simp [okF] at h
  | _ => simp [okF] at h

theorem okF_ntext {f : FV} (h : okF f .ntext) : ∃ o, f = .ntext o ∧ ∀ l, o = some l → l.length ≤ big := by
  cases f with
  | ntext l => exact ⟨l, rfl, h.2⟩
  | ptr o => cases o <;> simp [okF] at h
  | _ => simp [okF] at h

theorem okF_octs {f : FV} (h : okF f .octs) : ∃ nl l, f = .octs nl l ∧ l.length ≤ big := by
  cases f with
  | octs nl l => exact ⟨nl, l, rfl, h.2⟩
  | ptr o => cases o <;> simp [okF] at h
  | _ => simp [okF] at h

theorem okF_uuid {f : FV} (h : okF f .uuid) : ∃ l, f = .uuid l ∧ l.length = 16 := by
  cases f with
  | uuid l => exact ⟨l, rfl, h.2⟩
  | ptr o => cases o <;> simp [okF] at h
  | _ => simp [okF] at h

theorem okF_tags {f : FV} (h : okF f .tags) : ∃ m, f = .tags m ∧ m.length ≤ big ∧ ∀ p ∈ m, p.2.length ≤ big := by
  cases f with
  | tags m => exact ⟨m, rfl, h.2⟩
  | ptr o => cases o <;> simp [okF] at h
  | _ => simp [okF] at h

theorem okF_list {f : FV} {ts : List Ty} (h : okF f (.list ts)) : ∃ nl rows, f = .list nl rows ∧ rows.length ≤ big ∧ okRows rows ts := by
  cases f with
  | list nl rows => exact ⟨nl, rows, rfl, h.1, h.2⟩
  | ptr o => cases o <;> simp [okF] at h
  | _ => simp [okF] at h

theorem okF_sub {f : FV} {ts : List Ty} (h : okF f (.sub ts)) : ∃ fs, f = .sub fs ∧ okFs fs ts := by
  cases f with
  | sub fs => exact ⟨fs, rfl, h⟩
  | ptr o => cases o <;> simp [okF] at h
  | _ => simp [okF] at h

theorem okF_ptr {f : FV} {ts : List Ty} (h : okF f (.ptr ts)) : ∃ o, f = .ptr o ∧ ∀ fs, o = some fs → okFs fs ts := by
  cases f with
  | ptr o => cases o with
    | none => exact ⟨none, rfl, fun fs h => by cases h⟩
    | some fs => exact ⟨some fs, rfl, fun fs' h' => by cases h'; exact h⟩
  | _ => simp [okF] at h

mutual
theorem okF_wd : ∀ (f : FV) (t : Ty), okF f t → f.wd = t.wd
  | f, .num k, h => by obtain ⟨x, rfl, _⟩ := okF_num h; rfl
  | f, .bool, h => by obtain ⟨x, rfl⟩ := okF_bool h; rfl
  | f, .uuid, h => by obtain ⟨x, rfl, _⟩ := okF_uuid h; rfl
  | f, .text, h => by obtain ⟨x, rfl, _⟩ := okF_text h; rfl
  | f, .ntext, h => by obtain ⟨x, rfl, _⟩ := okF_ntext h; rfl
  | f, .octs, h => by obtain ⟨_, x, rfl, _⟩ := okF_octs h; rfl
  | f, .tags, h => by obtain ⟨x, rfl, _⟩ := okF_tags h; rfl
  | f, .list ts, h => by obtain ⟨_, x, rfl, _⟩ := okF_list h; rfl
  | f, .ptr ts, h => by obtain ⟨x, rfl, _⟩ := okF_ptr h; rfl
  | f, .sub ts, h => by
    obtain ⟨fs, rfl, hf⟩ := okF_sub h
    simp only [FV.wd, Ty.wd]
    exact okFs_wds fs ts hf
theorem okFs_wds : ∀ (fs : List FV) (ts : List Ty), okFs fs ts → wds fs = tyWds ts
  | [], ts, h => by simp only [okFs] at h; subst h; rfl
  | f :: fs, [], h => by simp only [okFs] at h
  | f :: fs, t :: ts, h => by
    simp only [okFs] at h
    simp only [wds, tyWds, okF_wd f t h.1, okFs_wds fs ts h.2]
end

theorem okFs_map : ∀ (fs : List FV) (ts : List Ty), okFs fs ts → fs.map FV.wd = ts.map Ty.wd
  | [], ts, h => by simp only [okFs] at h; subst h; rfl
  | f :: fs, [], h => by simp only [okFs] at h
  | f :: fs, t :: ts, h => by
    simp only [okFs] at h
    simp only [List.map_cons, okF_wd f t h.1, okFs_map fs ts h.2]

/-- The row j of a list. -/
theorem RowsAt.at {D : Nat} {w : World} {lo sz : Nat} : ∀ {rows : List (List FV)} {cs : List Value} {j : Nat}, RowsAt D w lo rows cs → (∀ r ∈ rows, wds r = sz) → (hj : j < rows.length) → ∃ a m z, cs = a ++ m ++ z ∧ a.length = j * sz ∧ FsAt D w lo rows[j] m
  | [], _, _, _, _, hj => by simp at hj
  | r :: rows, _, 0, ⟨c1, c2, e, h1, _⟩, _, _ => ⟨[], c1, c2, by simpa using e, by simp, h1⟩
  | r :: rows, _, j + 1, ⟨c1, c2, e, h1, h2⟩, hs, hj => by
    obtain ⟨a, m, z, e2, ha, hm⟩ := RowsAt.at (j := j) h2 (fun x hx => hs x (List.mem_cons_of_mem _ hx)) (by simpa using hj)
    refine ⟨c1 ++ a, m, z, by rw [e, e2]; simp, ?_, by simpa using hm⟩
    rw [List.length_append, ha, FsAt.len r c1 h1, hs r List.mem_cons_self, Nat.add_mul]
    omega

theorem okRows_wds {rows : List (List FV)} {ts : List Ty} (h : okRows rows ts) : ∀ r ∈ rows, wds r = tyWds ts := fun r hr => okFs_wds r ts (okRows_mem h r hr)

section
variable {P : Program} {c : Nums}

/-- A step of the telling, over values of these types. -/
def StepTell (P : Program) (c : Nums) (S : Nat) (ts : List Ty) (s : TStep) (q : Nat) (tf : List FV → PT) : Prop :=
  ∀ (R : Value → World → Prop) (w0 : World) (N D V lo : Nat) (pre post : List Value) (fs : List FV), okFs fs ts → TIn w0 D V lo pre post fs → q < N → V < w0.heap.size → SemT P c R w0 N S V pre s q (tf fs)

def FieldTy (P : Program) (S : Nat) (ts : List Ty) (i off : Nat) (t : Ty) : Prop := fieldOff P S i = some off ∧ ((ts.map Ty.wd).take i).sum = off ∧ ts[i]? = some t

theorem FieldTy.ok {S i off : Nat} {ts : List Ty} {t : Ty} (h : FieldTy P S ts i off t) : FieldOk P S (ts.map Ty.wd) i off := ⟨h.1, h.2.1⟩

def fvGet (fs : List FV) (i : Nat) : FV := fs.getD i (.text [])

theorem fvGet_eq {fs : List FV} {i : Nat} {f : FV} (h : fs[i]? = some f) : fvGet fs i = f := by
  unfold fvGet
  rw [List.getD_eq_getElem?_getD, h]; rfl

/-- Kinds that 64 bits hold. -/
def IntKind.fits (k : IntKind) : Prop := ∀ x, k.wrap x = x → IntKind.i64.wrap x = x

theorem fits_i8 : IntKind.fits .i8 := fun x h => by
  simp only [IntKind.wrap, IntKind.bits, IntKind.signed] at h ⊢; simp at h ⊢; omega
theorem fits_i16 : IntKind.fits .i16 := fun x h => by
  simp only [IntKind.wrap, IntKind.bits, IntKind.signed] at h ⊢; simp at h ⊢; omega
theorem fits_i32 : IntKind.fits .i32 := fun x h => by
  simp only [IntKind.wrap, IntKind.bits, IntKind.signed] at h ⊢; simp at h ⊢; omega
theorem fits_i64 : IntKind.fits .i64 := fun _ h => h
theorem fits_u8 : IntKind.fits .u8 := fun x h => by
  simp only [IntKind.wrap, IntKind.bits, IntKind.signed] at h ⊢; simp at h ⊢; omega
theorem fits_u16 : IntKind.fits .u16 := fun x h => by
  simp only [IntKind.wrap, IntKind.bits, IntKind.signed] at h ⊢; simp at h ⊢; omega
theorem fits_u32 : IntKind.fits .u32 := fun x h => by
  simp only [IntKind.wrap, IntKind.bits, IntKind.signed] at h ⊢; simp at h ⊢; omega

theorem told_num {S i ty q off : Nat} {ik : IntKind} {ts : List Ty} (Z : TyFacts P c c.tTree c.tTrees c.tTagL c.tTag) (K : TellFacts P c) (hF : FieldTy P S ts i off (.num ik)) (hty : P.underlying ty = some (.int ik)) (hone : oneTy P ty = true) (hk : IntKind.fits ik) :
    StepTell P c S ts (.num i ty q) q fun fs => tellPrim (fvGet fs i) := by
  intro R w0 N D V lo pre post fs hok hin hq _
  obtain ⟨f, hf, hft⟩ := okFs_get hok hF.2.2
  obtain ⟨x, rfl, hx⟩ := okF_num hft
  simp only [fvGet_eq hf]
  exact tell_num Z K.plan hin (okFs_map _ _ hok) hF.ok hq hty hone hf (hk x hx)

theorem told_num64 {S i q off : Nat} {ts : List Ty} (Z : TyFacts P c c.tTree c.tTrees c.tTagL c.tTag) (K : TellFacts P c) (hF : FieldTy P S ts i off (.num .i64)) : StepTell P c S ts (.num64 i q) q fun fs => tellPrim (fvGet fs i) := by
  intro R w0 N D V lo pre post fs hok hin hq _
  obtain ⟨f, hf, hft⟩ := okFs_get hok hF.2.2
  obtain ⟨x, rfl, hx⟩ := okF_num hft
  simp only [fvGet_eq hf]
  exact tell_num64 Z K.plan hin (okFs_map _ _ hok) hF.ok hq hf

theorem told_text {S i q off : Nat} {ts : List Ty} (F : RdFacts P c) (Z : TyFacts P c c.tTree c.tTrees c.tTagL c.tTag) (K : TellFacts P c) (hstr : oneTy P c.tStr = true) (hF : FieldTy P S ts i off .text) : StepTell P c S ts (.text i q) q fun fs => tellPrim (fvGet fs i) := by
  intro R w0 N D V lo pre post fs hok hin hq _
  obtain ⟨f, hf, hft⟩ := okFs_get hok hF.2.2
  obtain ⟨l, rfl, hl⟩ := okF_text hft
  simp only [fvGet_eq hf]
  exact tell_text F hstr Z K.plan hin (okFs_map _ _ hok) hF.ok hq hf hl

/-- A function that tells one cell's value, by its type. -/
def TellCellTy (P : Program) (f : Nat) (t : Ty) : Prop := t.wd = 1 ∧ ∀ (D lo : Nat) (fv : FV), okF fv t → TellCell P f D lo fv

theorem told_call {S f i ty q off : Nat} {t : Ty} {ts : List Ty} (Z : TyFacts P c c.tTree c.tTrees c.tTagL c.tTag) (hF : FieldTy P S ts i off t) (hone : oneTy P ty = true) (hC : TellCellTy P f t) : StepTell P c S ts (.call f i ty q) q fun fs => tellPrim (fvGet fs i) := by
  intro R w0 N D V lo pre post fs hok hin hq _
  obtain ⟨fv, hf, hft⟩ := okFs_get hok hF.2.2
  simp only [fvGet_eq hf]
  exact tell_call Z hin (okFs_map _ _ hok) hF.ok hq hone hf ((okF_wd fv t hft).trans hC.1) (hC.2 D lo fv hft)

/-- An element of a list, told. -/
def ElTell (P : Program) (c : Nums) (el : TEl) (ts : List Ty) (g : List FV → PT) : Prop :=
  ∀ (w : World) (D lo B : Nat) (a m z : List Value) (r : List FV), Has w B (a ++ m ++ z) → FsAt D w lo r m → okFs r ts → ElLaid P c el B a.length (g r) w

theorem el_sub {f : Nat} {ts : List Ty} {g : List FV → PT} (h : TellOf P f ts g) : ElTell P c (.sub f) ts g := fun w D lo B a m z r hh hf hok w' k' =>
  h w' D B lo a z m r hok (hh.keep k' (by simp)) (FsAt.keep k' lo (fun b hb => by cases hb) _ _ hf)

theorem el_text (hstr : oneTy P c.tStr = true) : ElTell P c .text [.text] fun r => tellPrim (fvGet r 0) := by
  intro w D lo B a m z r hh hf hok
  obtain ⟨f, hr, hft⟩ := okFs_get (i := 0) hok rfl
  obtain ⟨l, rfl, hl⟩ := okF_text hft
  simp only [fvGet_eq hr]
  obtain ⟨a1, m1, z1, e, ha, hm, _⟩ := hf.split hr
  have : a1 = [] := List.eq_nil_of_length_eq_zero (by rw [ha]; rfl)
  subst this
  simp only [FAt] at hm
  subst hm
  exact ⟨_, _, hh, by rw [e, List.append_assoc, List.getElem?_append_right (Nat.le_refl _), Nat.sub_self]; rfl, ⟨l, rfl, hl, rfl⟩, hstr⟩

theorem el_num {ty : Nat} {ik : IntKind} (hty : P.underlying ty = some (.int ik)) (hone : oneTy P ty = true) (hk : IntKind.fits ik) : ElTell P c (.num ty) [.num ik] fun r => tellPrim (fvGet r 0) := by
  intro w D lo B a m z r hh hf hok
  obtain ⟨f, hr, hft⟩ := okFs_get (i := 0) hok rfl
  obtain ⟨x, rfl, hx⟩ := okF_num hft
  simp only [fvGet_eq hr]
  obtain ⟨a1, m1, z1, e, ha, hm, _⟩ := hf.split hr
  have : a1 = [] := List.eq_nil_of_length_eq_zero (by rw [ha]; rfl)
  subst this
  obtain ⟨rfl, _⟩ := hm
  exact ⟨_, _, hh, by rw [e, List.append_assoc, List.getElem?_append_right (Nat.le_refl _), Nat.sub_self]; rfl, ⟨ik, x, rfl, hty, hk x hx, rfl⟩, hone⟩

/-- What a list is told as. -/
def tellList (g : List FV → PT) : FV → PT
  | .list nl rows => .mk 0 [] nl (rows.map g) []
  | _ => .zero

theorem told_list {S i tySl q T sz off : Nat} {el : TEl} {ets ts : List Ty} {g : List FV → PT} (F : RdFacts P c) (Z : TyFacts P c c.tTree c.tTrees c.tTagL c.tTag) (K : TellFacts P c) (hF : FieldTy P S ts i off (.list ets)) (hone : oneTy P tySl = true) (hsl : P.underlying tySl = some (.slice T)) (hsz : (P.info? T).map (·.size) = some sz)
    (hw : tyWds ets = sz) (hE : ElTell P c el ets g) : StepTell P c S ts (.list i tySl q el) q fun fs => tellList g (fvGet fs i) := by
  intro R w0 N D V lo pre post fs hok hin hq hV
  obtain ⟨f, hf, hft⟩ := okFs_get hok hF.2.2
  obtain ⟨nl, rows, rfl, hl, hrows⟩ := okF_list hft
  simp only [fvGet_eq hf]
  refine tell_list (tl := rows.map g) F Z K.plan K.row K.coin hin (okFs_map _ _ hok) hF.ok hq hone hsl hsz hf (by simp) (by simp only [List.length_map, big] at hl ⊢; omega) hV fun w B rcs kk hB hr j hj => ?_
  have hj' : j < rows.length := by simpa using hj
  obtain ⟨a, m, z, e, ha, hm⟩ := hr.at (j := j) (fun r hr => (okRows_wds hrows r hr).trans hw) hj'
  subst e
  have := hE w D (B + 1) B a m z rows[j] hB hm (okRows_mem hrows _ (List.getElem_mem _))
  rw [ha] at this
  rw [Nat.zero_add, List.getElem_map]
  exact this

/-- What a part is told as. -/
def tellPart (g : List FV → PT) : FV → PT
  | .sub fs => g fs
  | _ => .zero

theorem told_part {S f i q off : Nat} {us ts : List Ty} {g : List FV → PT} (Z : TyFacts P c c.tTree c.tTrees c.tTagL c.tTag) (hF : FieldTy P S ts i off (.sub us)) (hT : TellOf P f us g) : StepTell P c S ts (.part f i q) q fun fs => tellPart g (fvGet fs i) := by
  intro R w0 N D V lo pre post fs hok hin hq hV n k Γ ρ w tts u uv hn h0 _ h4 hT0 hRaw hk
  obtain ⟨f0, hf, hft⟩ := okFs_get hok hF.2.2
  obtain ⟨gs, rfl, hg⟩ := okF_sub hft
  simp only [fvGet_eq hf, tellPart] at hk
  simp only [gTStep]
  refine s_TL Z h4 hT0 fun w1 hT1 k1 => ?_
  obtain ⟨mid, hh0, hfs0⟩ := hin.st
  have hh := hh0.keep hT1.k (by simp)
  have hfs := FsAt.keep (D := D) hT1.k lo (fun b hb => by cases hb) _ _ hfs0
  obtain ⟨a, m, z, e, ha, hm, _⟩ := hfs.split hf
  have hao : a.length = off := by rw [ha, wds_eq, List.map_take, okFs_map _ _ hok]; exact hF.2.1
  have hpl : (pre ++ a).length = pre.length + off := by simp [hao]
  have hh' : Has w1 V ((pre ++ a) ++ m ++ (z ++ post)) := by rw [e] at hh; simpa using hh
  refine p_val (v_nilCheck (show ev _ (.tmp 0) = ptr V pre.length by show ext _ _ _ 0 = _; rw [ext_lt (by omega), ext_lt (by omega)]; exact h0)) ?_
  refine p_val (v_field (b := V) (o := pre.length) hF.1 ext_at) ?_
  have hcall := hT w1 D V lo (pre ++ a) (z ++ post) m gs hg hh' hm
  rw [hpl] at hcall
  refine s_call (xs := [.tmp (n + 3)]) (Post := fun u w' => (∃ cs, u = .agg ⟨cs⟩ ∧ TreeAt w' (fun b => w1.heap.size ≤ b) (g gs) cs) ∧ Keeps [] w1 w') (by
    rw [List.map_cons, List.map_nil]
    have : ev (ext (ext (ext (ext ρ n [ptr (w0.heap.size + 2) 3]) (n + 1) [rowV w0 N]) (n + 2) [.pointer (some ⟨V, pre.length, none⟩)]) (n + 2 + 1) [.pointer (some ⟨V, pre.length + off, none⟩)]) (.tmp (n + 3)) = ptr V (pre.length + off) := ext_at
    exact this ▸ hcall) fun x w2 ⟨⟨ccs, hx, htr⟩, k2⟩ => ?_
  subst hx
  have hT2 := hT1.keep k2
  refine ⟨TL_owed Z (by rw [ext_lt (by omega), ext_lt (by omega), ext_lt (by omega), ext_at]) (by rw [ext_lt (by omega), ext_lt (by omega), ext_at]) hT2, ?_⟩
  have hlt := hT1.top.lt
  refine s_TSet (n := n + 5) (t := g gs) (cs := ccs) Z ?_ hq (show ev _ (.tmp (n + 4)) = _ from ext_at) (by simp [opBelow]) (htr.mono fun b hb _ => by omega) hT2 fun w3 hT3 hR3 => ?_
  · rw [ext_lt (by omega), ext_lt (by omega), ext_lt (by omega), ext_at]
  · refine hk (n + 7) Γ _ w3 (by omega) ⟨[], by simp⟩ (fun y hy => ?_) hT3 (hR3 ((hRaw.keep hT0 k1).keep hT1 k2))
    rw [ext_lt (by omega), ext_lt (by omega), ext_lt (by omega), ext_lt (by omega), ext_lt (by omega), ext_lt (by omega), ext_lt (by omega)]

/-- Steps and what they tell. -/
def StepsTell (P : Program) (c : Nums) (S : Nat) (ts : List Ty) : List TStep → List (List FV → PT) → Nat → Prop
  | [], [], _ => True
  | s :: ss, t :: tl, q => StepTell P c S ts s q t ∧ StepsTell P c S ts ss tl (q + 1)
  | _, _, _ => False

theorem steps_told {S : Nat} {ts : List Ty} {R : Value → World → Prop} {w0 : World} {N D V lo : Nat} {pre post : List Value} {fs : List FV} (hok : okFs fs ts) (hin : TIn w0 D V lo pre post fs) (hV : V < w0.heap.size) :
    ∀ (ss : List TStep) (tfs : List (List FV → PT)) (q : Nat), StepsTell P c S ts ss tfs q → q + tfs.length ≤ N → StepsT P c R w0 N S V pre ss (tfs.map (· fs)) q
  | [], [], _, _, _ => trivial
  | [], _ :: _, _, h, _ => h.elim
  | _ :: _, [], _, h, _ => h.elim
  | s :: ss, t :: tl, q, ⟨h1, h2⟩, hq => by
    simp only [List.length_cons] at hq
    exact ⟨h1 R w0 N D V lo pre post fs hok hin (by omega) hV, steps_told hok hin hV ss tl (q + 1) h2 (by omega)⟩

/-- A struct without tags. -/
theorem told_of {f S N : Nat} {ts : List Ty} {ss : List TStep} {tfs : List (List FV → PT)} (F : RdFacts P c) (Z : TyFacts P c c.tTree c.tTrees c.tTagL c.tTag) (K : TellFacts P c) (hT : treeIn P f noOrc [.tmp 0] 1 = gTell c S N ss) (hN : tfs.length = N) (hsm : N ≤ 1024) (hs : StepsTell P c S ts ss tfs 0) :
    TellOf P f ts fun fs => .mk 0 [] false (tfs.map (· fs)) [] := by
  intro w D V lo pre post mid fs hok hh hf
  exact tell_gives F Z K hT (by simpa using hN) hsm fun R => steps_told hok ⟨mid, hh, hf⟩ hh.lt ss tfs 0 hs (by omega)
end
end Go.Kf
/- A law's row: what its arguments are, what is to be said behind it. -/
namespace Go.Kf
open Go Go.ChangeShapes Go.WideShapes Go.RowKit

theorem lit_u8 {n : Int} (h : (Lit.int .u8 n).wf = true) : ∃ m : Nat, n = m ∧ m < 256 := by
  simp only [Lit.wf, Bool.and_eq_true, decide_eq_true_eq] at h
  have e1 : IntKind.u8.min = 0 := rfl
  have e2 : IntKind.u8.max = 255 := rfl
  rw [e1, e2] at h
  exact ⟨n.toNat, by omega, by omega⟩

theorem keep_cell {w w' : World} (hk : Keeps [] w w') {a : Addr} {v : Value} (h : w.cell? a = some v) : w'.cell? a = some v := by
  unfold World.cell? at h ⊢
  cases hb : w.heap[a.block]? with
  | none => rw [hb] at h; cases h
  | some o => rw [hk.block _ (Array.getElem?_eq_some_iff.1 hb).1 (by simp)]; exact h

theorem cell_block {w : World} {a : Addr} {v : Value} (h : w.cell? a = some v) : a.block < w.heap.size := by
  unfold World.cell? at h
  cases hb : w.heap[a.block]? with
  | none => rw [hb] at h; cases h
  | some o => exact (Array.getElem?_eq_some_iff.1 hb).1

theorem keptBut_keeps {w w' : World} (hk : Keeps [] w w') (may : MemPlace → Prop) : w.keptBut w' may := by
  refine ⟨hk.os, hk.output, fun i hi => ?_⟩
  rw [hk.block i hi (by simp)]
  split <;> simp_all

/-- A law of an octet and octets. -/
theorem law_row {H : Type} {enc : TypeId × Value → H} {P : Program} {fn : Func} {s : ChangeSpec} {tU tBy tB : Nat} (hp : fn.params = #[tU, tBy]) (hr : fn.resultTypes = #[tB]) (hu : P.underlying tU = some (.int .u8)) (hby : P.underlying tBy = some (.slice tU)) (hc : P.cellsOf tU = 1) (hb : P.underlying tB = some .bool)
    (hs : ∀ (H : Type) (d1 d2 : DataW H), s.fn H [d1, d2] = { results := [.lit (.bool true)], args := [d1, d2] }) (hvs : s.vars = []) {W : World} {base : Nat} {args : Array Value} {ds gs : List (DataW H)} {before : List MemPlace}
    (hval : ∀ (j : Nat) t v, fn.params[j]? = some t → args[j]? = some v → Value.okWide P W .any base t v) (hW : DataW.Whole enc P fn.params.toList s.vars false W args.toList ds gs before) :
    ∃ (n : Nat) (data : Value) (l : List UInt8), n < 256 ∧ args = #[.int .u8 n, data] ∧ DataIn W data l ∧ ∀ W', Keeps [] W W' → s.post enc P fn false true false false W args (.bool true) W' := by
  have hW0 := hW
  obtain ⟨p, q, hA, hV, rfl, hfz, hnd⟩ := hW
  rw [hvs] at hV
  obtain ⟨rfl, rfl⟩ := trodVars_none hV
  rw [hp] at hA hval
  obtain ⟨v0, vs0, d0, ds0, p0, q0, hargs, rfl, rfl, h0, r0⟩ := trodAll_cons hA
  obtain ⟨v1, vs1, d1, ds1, p1, q1, rfl, rfl, rfl, h1, r1⟩ := trodAll_cons r0
  obtain ⟨rfl, rfl, rfl⟩ := trodAll_nil r1
  obtain rfl : args = #[v0, v1] := by cases args; simp_all
  obtain ⟨n0, rfl, rfl, rfl, hw0⟩ := open_int hu (hval 0 tU v0 rfl rfl) h0
  obtain ⟨n, rfl, hn⟩ := lit_u8 hw0
  obtain ⟨a0, len0, cap0, rfl⟩ := okWide_slice hby (hval 1 tBy v1 rfl rfl)
  have hres : ∀ (W' : World) (b : Nat) (sp : Nat → Bool) (hd : Bool), DataW.TrodAll enc P W' b sp hd fn.resultTypes.toList ((Value.bool true).resultList fn.resultTypes.size) [.lit (.bool true)] [] := by
    intro W' b sp hd
    rw [hr]
    exact trodAll_cons_mk (shut_bool hb _) trodAll_mk0
  have hintAt : ∀ (W' : World) (sp : Nat → Bool), DataW.Trod enc P W' 0 sp true tU (.int .u8 (n : Int)) (.lit (.int .u8 n)) [] := fun W' sp => ⟨1, trod_int_mk 0 hu hw0⟩
  have fin : ∀ (d1 : DataW H) (p1 : List MemPlace), (∀ W', Keeps [] W W' → DataW.Trod enc P W' 0 (fun b => decide (b < W.heap.size)) true tBy (.slice a0 len0 cap0) d1 p1) → DataW.Whole enc P fn.params.toList s.vars false W #[.int .u8 n, .slice a0 len0 cap0].toList ([.lit (.int .u8 n), d1]) [] ([] ++ (p1 ++ []) ++ []) →
      ∀ W', Keeps [] W W' → s.post enc P fn false true false false W #[.int .u8 n, .slice a0 len0 cap0] (.bool true) W' := by
    intro d1 p1 hsl hWh W' hk
    refine ⟨_, _, _, [], [] ++ (p1 ++ []), [], hWh, ?_, ?_, ?_, ?_, fun h => by cases h⟩
    · rw [List.append_nil, hs]; exact hres W' _ _ _
    · rw [List.append_nil, hs, hp]
      exact trodAll_cons_mk (hintAt W' _) (trodAll_cons_mk (hsl W' hk) trodAll_mk0)
    · rw [hvs, List.append_nil, hs]; rfl
    · exact World.keptBut_mono (fun p hp => ⟨hp, .inr (.inl (by simpa using hp))⟩) (keptBut_keeps hk _)
  obtain ⟨fuel, hf⟩ := h1
  rcases open_ints hby hu hc hf with ⟨hcs, hx⟩ | ⟨a, len, cap, zs, hcs, hba, hle, hmx, hzl, hx, hcell, hwf⟩
  · simp only [Prod.mk.injEq] at hx
    obtain ⟨rfl, rfl⟩ := hx
    have hv : a0 = none ∧ len0 = 0 ∧ cap0 = 0 := by simpa [Value.cells] using hcs
    obtain ⟨rfl, rfl, rfl⟩ := hv
    refine ⟨n, _, [], hn, rfl, .inl ⟨rfl, rfl⟩, ?_⟩
    refine fin _ _ (fun W' hk => ⟨1, ?_⟩) hW0
    simp [Value.cells, DataW.trod, hby]
  · simp only [Prod.mk.injEq] at hx
    obtain ⟨rfl, rfl⟩ := hx
    have hv : a0 = some a ∧ len0 = len ∧ cap0 = cap := by simpa [Value.cells] using hcs
    obtain ⟨rfl, rfl, rfl⟩ := hv
    simp only [if_true] at hzl
    have hz8 : ∀ z ∈ zs, ∃ m : Nat, z = m ∧ m < 256 := fun z hz => lit_u8 (hwf z hz)
    refine ⟨n, _, (zs.take len0).map fun z => UInt8.ofNat z.toNat, hn, rfl, .inr ⟨a, cap0, ?_, ?_⟩, ?_⟩
    · simp only [List.length_map, List.length_take]
      rw [Nat.min_eq_left (by omega)]
    · intro i hi
      simp only [List.length_map, List.length_take] at hi
      have hi' : i < zs.length := by omega
      rw [hcell i hi']
      obtain ⟨m, hm, hlt⟩ := hz8 zs[i] (List.getElem_mem _)
      simp only [List.getElem_map, List.getElem_take, List.getD_eq_getElem?_getD, List.getElem?_eq_getElem hi', Option.getD_some, hm, Int.toNat_natCast]
      congr 2
      have : (UInt8.ofNat m).toNat = m := by rw [UInt8.toNat_ofNat']; omega
      rw [this]
    · refine fin _ _ (fun W' hk => ⟨2, ?_⟩) hW0
      have hsz : ∀ i, i < zs.length → a.block < W.heap.size := fun i hi => by have := cell_block (hcell i hi); rwa [block_add] at this
      have hlen : zs.length = if decide (a.block < W.heap.size) then cap0 else len0 := by
        by_cases hz : 0 < zs.length
        · rw [decide_eq_true (hsz 0 hz)]; simpa using hzl
        · split <;> omega
      exact shut_ints 0 hby hu hc (Nat.zero_le _) hle hmx hlen (fun i hi => keep_cell hk (hcell i hi)) hwf

/-- The listed error's variable. -/
theorem err_at {P : Program} {W : World} {name nm : String} {d : DataW Unit} {g t : Nat} (hg : P.globalNamed name = some g) (ht : (P.globals[g]?).map (·.type) = some t) (hu : ∃ ms, P.underlying t = some (.interface ms)) (hn : (DataW.iface nm d : DataW Unit).handleName?.isNone = true) (hL : laidMetH P [(name, .iface nm d)] W) :
    ∃ u v, ErrAt W g (.iface u v) := by
  have hL' : laidMet P [(name, .iface nm d)] W := by
    unfold laidMetH at hL
    have : ([(name, DataW.iface nm d)].filter fun x => x.2.handleName?.isSome) = [] := by
      simp only [List.filter_cons, List.filter_nil]
      rw [if_neg (by simpa using hn)]
    rw [this] at hL
    exact hL
  obtain ⟨ps, ⟨g', t', cs, fuel, p, q, hg', ht', hv, htr, _⟩, _⟩ := hL'
  obtain rfl : g = g' := by rw [hg] at hg'; simpa using hg'
  obtain rfl : t = t' := by rw [ht] at ht'; simpa using ht'
  obtain ⟨ms, hu⟩ := hu
  unfold World.var? at hv
  rw [hg] at hv
  simp only [Option.bind_some] at hv
  cases hb : W.heap[g]? with
  | none => rw [hb] at hv; cases hv
  | some o =>
    rw [hb] at hv
    obtain ⟨c, ty, fr, rfl⟩ : ∃ c ty fr, o = .cells c ty fr := by cases o <;> first | exact ⟨_, _, _, rfl⟩ | cases hv
    simp only [Option.some.injEq] at hv
    subst hv
    cases fuel with
    | zero => simp [DataW.trod] at htr
    | succ fuel =>
      unfold DataW.trod at htr
      rw [hu] at htr
      obtain ⟨u, v, hcs⟩ : ∃ u v, c.toList = [.iface u v] := by
        match hc : c.toList with
        | [.iface u v] => exact ⟨u, v, rfl⟩
        | [.nilIface] => rw [hc] at htr; simp at htr
        | [] => rw [hc] at htr; simp at htr
        | _ :: _ :: _ => rw [hc] at htr; simp at htr
        | [.bool _] => rw [hc] at htr; simp at htr
        | [.int _ _] => rw [hc] at htr; simp at htr
        | [.string _] => rw [hc] at htr; simp at htr
        | [.pointer _] => rw [hc] at htr; simp at htr
        | [.slice _ _ _] => rw [hc] at htr; simp at htr
        | [.map _] => rw [hc] at htr; simp at htr
        | [.agg _] => rw [hc] at htr; simp at htr
        | [x] => rw [hc] at htr; cases x <;> simp_all
      refine ⟨u, v, ?_, (Array.getElem?_eq_some_iff.1 hb).1⟩
      unfold World.cell?
      rw [show (⟨g, 0, none⟩ : Addr).block = g from rfl, hb]
      simp only [Option.isSome_none, Bool.false_eq_true, if_false]
      rw [← Array.getElem?_toList, hcs]
      rfl
end Go.Kf
/- The package encoding/binary's reading functions, by the shelf's contracts. -/
namespace Go.Kf
open Go Go.Shelf Go.Proofs
variable {P : Program} {ρ : Ren}

theorem be_cell {w : World} {b o i : Nat} {cs : List Value} {l : List UInt8} (hh : Has w b cs) (hx : (cs.drop o).take (l.length * 1) = bcells l) (hi : i < l.length) : w.cell? ⟨b, o + i, none⟩ = some (.int .u8 l[i].toNat) := by
  refine hh.cell ?_
  have h1 : (bcells l)[i]? = some (.int .u8 l[i].toNat) := by simp [bcells, hi]
  rw [← hx, List.getElem?_take, if_pos (by omega), List.getElem?_drop] at h1
  exact h1

theorem be16 {f : Nat} (L : LaysBin.n36 P ρ) (hf : ρ.f 36 = f) (hg : goFn P f = true) : BeGives P f 2 .u16 := by
  subst hf
  intro w v l hl hr
  rcases hr.2 with ⟨_, h0⟩ | ⟨b, o, cap, cs, rfl, hc, hh, hlen, hx⟩
  · omega
  · refine ⟨hg, Calls.mono (Proofs.Any.binary_BE_Uint16 L b o l.length cap l[0] l[1] w hl (be_cell (i := 0) hh hx (by omega)) (be_cell (i := 1) hh hx (by omega))) fun e w' ⟨he, hb⟩ => ?_⟩
    subst he
    refine ⟨?_, .ofBelow hb⟩
    match l, hl with
    | b0 :: b1 :: r, _ => rfl

theorem be32 {f : Nat} (L : LaysBin.n39 P ρ) (hf : ρ.f 39 = f) (hg : goFn P f = true) : BeGives P f 4 .u32 := by
  subst hf
  intro w v l hl hr
  rcases hr.2 with ⟨_, h0⟩ | ⟨b, o, cap, cs, rfl, hc, hh, hlen, hx⟩
  · omega
  · refine ⟨hg, Calls.mono (Proofs.Any.binary_BE_Uint32 L b o l.length cap l[0] l[1] l[2] l[3] w hl (be_cell (i := 0) hh hx (by omega)) (be_cell (i := 1) hh hx (by omega)) (be_cell (i := 2) hh hx (by omega)) (be_cell (i := 3) hh hx (by omega))) fun e w' ⟨he, hb⟩ => ?_⟩
    subst he
    refine ⟨?_, .ofBelow hb⟩
    match l, hl with
    | b0 :: b1 :: b2 :: b3 :: r, _ => rfl

theorem be64 {f : Nat} (L : LaysBin.n42 P ρ) (hf : ρ.f 42 = f) (hg : goFn P f = true) : BeGives P f 8 .u64 := by
  subst hf
  intro w v l hl hr
  rcases hr.2 with ⟨_, h0⟩ | ⟨b, o, cap, cs, rfl, hc, hh, hlen, hx⟩
  · omega
  · refine ⟨hg, Calls.mono (Proofs.Any.binary_BE_Uint64 L b o l.length cap l[0] l[1] l[2] l[3] l[4] l[5] l[6] l[7] w hl (be_cell (i := 0) hh hx (by omega)) (be_cell (i := 1) hh hx (by omega)) (be_cell (i := 2) hh hx (by omega)) (be_cell (i := 3) hh hx (by omega)) (be_cell (i := 4) hh hx (by omega)) (be_cell (i := 5) hh hx (by omega)) (be_cell (i := 6) hh hx (by omega)) (be_cell (i := 7) hh hx (by omega))) fun e w' ⟨he, hb⟩ => ?_⟩
    subst he
    refine ⟨?_, .ofBelow hb⟩
    match l, hl with
    | b0 :: b1 :: b2 :: b3 :: b4 :: b5 :: b6 :: b7 :: r, _ => rfl
end Go.Kf
/- Facts of a seat's types, from checks that the kernel runs. -/
namespace Go.Kf
open Go
variable {P : Program} {c : Nums}

def chkZero (P : Program) (t s : Nat) : Bool := match zeroTy P t with
  | some (z, s') => Nat.beq s' s && Nat.beq z.cells.size s
  | none => false

theorem zero_of {t s : Nat} (h : chkZero P t s = true) : ∃ z, zeroTy P t = some (z, s) ∧ z.cells.size = s := by
  unfold chkZero at h
  split at h
  · rename_i z s' hz
    simp only [Bool.and_eq_true] at h
    obtain rfl := Nat.eq_of_beq_eq_true h.1
    exact ⟨z, hz, Nat.eq_of_beq_eq_true h.2⟩
  · cases h

def chkInfo (P : Program) (t s m : Nat) : Bool := match P.info? t with
  | some i => match i.zero with
    | some z => Nat.beq i.size s && Nat.beq z.cells.size s && Nat.ble i.bytes m
    | none => false
  | none => false

theorem info_of {t s m : Nat} (h : chkInfo P t s m = true) : ∃ inf z, P.info? t = some inf ∧ inf.zero = some z ∧ inf.size = s ∧ z.cells.size = s ∧ inf.bytes ≤ m := by
  unfold chkInfo at h
  split at h
  · rename_i i hi
    split at h
    · rename_i z hz
      simp only [Bool.and_eq_true] at h
      exact ⟨i, z, hi, hz, Nat.eq_of_beq_eq_true h.1.1, Nat.eq_of_beq_eq_true h.1.2, Nat.le_of_ble_eq_true h.2⟩
    · cases h
  · cases h

theorem StrFacts.of (h : chkZero P c.tStr 1 = true) (h1 : oneTy P c.tStr = true) : StrFacts P c := ⟨zero_of h, h1⟩

theorem RowFacts.of {T sz : Nat} (h : chkInfo P T sz 1024 = true) (ha : aggTy P T = some sz) (hp : 0 < sz ∧ sz ≤ 1024) : RowFacts P T sz := ⟨info_of h, ha, hp⟩

theorem OctFacts.of (h : chkInfo P c.tU8 1 8 = true) : OctFacts P c := ⟨info_of h⟩

theorem ListOk.of {tySl T sz : Nat} (h1 : P.underlying tySl = some (.slice T)) (h2 : oneTy P tySl = true) (h3 : chkInfo P T sz 65536 = true) (h4 : 0 < sz) : ListOk P c tySl T sz := by
  obtain ⟨i, z, hi, hz, hs, hc, hb⟩ := info_of h3
  exact ⟨h1, h2, i, z, hi, hz, hs, hc, h4, hb⟩

def chkPlan (P : Program) (t n : Nat) (fs : List (Nat × Nat)) : Bool := match buildPlan P t with
  | some (z, gs) => Nat.beq z.length n && decide (gs = fs)
  | none => false

theorem plan_of {t n : Nat} {fs : List (Nat × Nat)} (h : chkPlan P t n fs = true) : ∃ z, buildPlan P t = some (z, fs) ∧ z.length = n := by
  unfold chkPlan at h
  split at h
  · rename_i z gs hz
    simp only [Bool.and_eq_true, decide_eq_true_eq] at h
    obtain rfl := h.2
    exact ⟨z, hz, Nat.eq_of_beq_eq_true h.1⟩
  · cases h

theorem GotFacts.of (h1 : buildPlan P c.sTree = some (zeroTree, [(0, 1), (1, 1), (2, 1), (3, 1), (4, 1)])) (h2 : chkPlan P c.sTag 2 [(0, 1), (1, 1)] = true) (h3 : zeroTy P c.sTree = some (.agg ⟨zeroTree⟩, 5)) (h4 : chkZero P c.tTree 5 = true) (h5 : chkZero P c.tTag 2 = true)
    (h6 : RowFacts P c.sTree 5) (h7 : RowFacts P c.sTag 2) : GotFacts P c := ⟨h1, plan_of h2, h3, zero_of h4, zero_of h5, h6, h7⟩

theorem RfFacts.of {S : Nat} (h1 : buildPlan P c.tRd = some ([.slice none 0 0, .bool false], [(0, 1), (1, 1)])) (h2 : zeroTy P c.tRd = some (.agg #[.slice none 0 0, .bool false], 2)) (h3 : (P.info? c.tRd).map (·.size) = some 2) (h4 : fieldOff P S 0 = some 0) (h5 : oneTy P c.tI16 = true) : RfFacts P c S :=
  ⟨⟨false, h1, rfl⟩, h2, h3, h4, h5⟩

def isIface : Option TypeDesc → Bool
  | some (.interface _) => true
  | _ => false

theorem iface_of {t : Nat} (h : isIface (P.underlying t) = true) : ∃ ms, P.underlying t = some (.interface ms) := by
  unfold isIface at h
  split at h
  · rename_i ms hm; exact ⟨ms, hm⟩
  · cases h
end Go.Kf
/- Reading hangs on no function's number. -/
namespace Go.Kf
open Go

mutual
def eraseS : Step → Step
  | .call pk _ i _ _ => .call pk 0 i 0 0
  | .uuid _ i _ => .uuid 0 i 0
  | .listP lk _ i _ _ pk _ _ => .listP lk 0 i 0 0 pk 0 0
  | .listS lk _ i _ _ _ _ _ dflt ss => .listS lk 0 i 0 0 0 0 0 dflt (eraseSs ss)
  | .sub i _ _ _ ds _ ss => .sub i 0 0 0 ds [] (eraseSs ss)
  | .strP pk _ i _ _ => .strP pk 0 i 0 0
  | .ghost => .ghost
def eraseSs : List Step → List Step
  | [] => []
  | s :: ss => eraseS s :: eraseSs ss
end

mutual
theorem runStep_erase : ∀ (s : Step) (fs : List FV) (r : Rd), runStep (eraseS s) fs r = runStep s fs r
  | .call .., _, _ => rfl
  | .uuid .., _, _ => rfl
  | .listP .., _, _ => rfl
  | .listS lk f i a b c d e dflt ss, fs, r => by
    have h : (fun r => runSteps (eraseSs ss) dflt r) = fun r => runSteps ss dflt r := funext fun r => runSteps_erase ss dflt r
    simp only [eraseS, runStep, h]
  | .sub i a b c ds l ss, fs, r => by
    simp only [eraseS, runStep, runSteps_erase ss]
  | .strP .., _, _ => rfl
  | .ghost, _, _ => rfl
theorem runSteps_erase : ∀ (ss : List Step) (fs : List FV) (r : Rd), runSteps (eraseSs ss) fs r = runSteps ss fs r
  | [], _, _ => rfl
  | s :: ss, fs, r => by
    simp only [eraseSs, runSteps, runStep_erase s]
    cases runStep s fs r with
    | none => rfl
    | some x => exact runSteps_erase ss x.1 x.2
end

theorem told_same {ss ss' : List Step} (h : eraseSs ss = eraseSs ss') (fs1 : List FV) (g : List FV → PT) (l : List UInt8) : toldOf ss fs1 g l = toldOf ss' fs1 g l := by
  unfold toldOf
  rw [← runSteps_erase ss, h, runSteps_erase]
end Go.Kf
/- A door at a version, from a message's parts. -/
namespace Go.Kf
open Go

theorem door_ver {P : Program} {c : Nums} {e : Fns} {fDoor fNew fSet fRead fRf fDef fTell S : Nat} {ds : List Dset} {ls : List Nat} {ss : List Step} {v : Int} {uns : Bool} {fs0 fs1 : List FV} {mid mid1 : List Value} {ts : List Ty} {gp : List FV → PT} (F : RdFacts P c) (O : OctFacts P c) (K : TellFacts P c)
    (Z : TyFacts P c c.tTree c.tTrees c.tTagL c.tTag) (A : RfFacts P c S) (hOk : hasRet ss = true → OkGives P e.ok) (hCo : CompGives P e.complete c.gErr) (herr : ∃ ms, P.underlying c.tErr = some (.interface ms)) (hN : NewOk P fNew (.int .i16 0 :: mid)) (hDef : DefSets P fDef ls ds) (hTell : TellOf P fTell ts gp)
    (hTd : treeIn P fDoor noOrc [.tmp 0, .tmp 1] 2 = tDoor c fNew fSet fRead fTell) (hTs : treeIn P fSet noOrc [.tmp 0, .tmp 1] 2 = tSetVersion c S) (hTw : treeIn P fRead noOrc [.tmp 0, .tmp 1] 2 = tWrap fRf uns)
    (hTr : treeIn P fRf (orcV 9 v) [.tmp 0, .tmp 1, .const (.bool uns)] 3 = gReadFrom c e S fDef v ss) (hok : StepsOk P c S ls ss) (hdeep : deepsOk ss = true) (hsh : shapesOk fs0 ds = true) (h0 : fs0.map FV.wd = ls) (h01 : applyD ds fs0 = fs1) (hidx : idxOk fs1 ss = true)
    (himm0 : immL fs0 = some (.int .i16 v :: mid)) (himm : immL fs1 = some mid1) (hv : fs1[0]? = some (.one (.int .i16 v))) (hl1 : fs1.map FV.wd = ls) (hty : tySteps ts ss = true) (htd : okImms fs1 ts = true) (hver : IntKind.i16.wrap v = v)
    {w : World} {l : List UInt8} {data e0 : Value} (hl : l.length ≤ 1073741824) (hd : DataIn w data l) (he : ErrAt w c.gErr e0) (he0 : ∃ d y, e0 = .iface d y) : Gives P fDoor [.int .i64 v, data] w fun u w' => DoorPost w w' u (toldOf ss fs1 gp l) ∧ Keeps [] w w' := by
  refine door_gives (x0 := .int .i16 0) (mid := mid) (e0 := e0) (out := fun l => toldOf ss fs1 gp l) F O K Z hTd herr he0 hver hN (fun w V hV => setVersion_gives F A.oneI16 A.ver hTs hV v) ?_ (by omega) hd he
  intro w V D src _ hV hr hn hb hD hVD he hgV
  exact rt_gives F A hOk hCo hTr hTw hDef hok hdeep hsh h0 h01 hidx himm0 himm hv hl1 hty htd hTell hV hr hn hb hD hVD he hgV (by omega)
end Go.Kf
/- Rows of cells that are only read: arguments, and what the program has built. -/
namespace Go.Kf
open Go

/-! ### Fields and trees -/

/-- A field, apart from memory. -/
inductive PF where
  | mk (kind fr to nul tag dflt elem : Int) (sub : List PF)

mutual
def FieldC (w : World) : PF → List Value → Prop
  | .mk k f t n g d e sub, cs => ∃ sv scs, cs = [.int .i64 k, .int .i64 f, .int .i64 t, .int .i64 n, .int .i64 g, .int .i64 d, .int .i64 e, sv] ∧ Ro w sv 8 sub.length scs ∧ FieldsC w sub scs
def FieldsC (w : World) : List PF → List Value → Prop
  | [], cs => cs = []
  | t :: ts, cs => ∃ c1 c2, cs = c1 ++ c2 ∧ FieldC w t c1 ∧ FieldsC w ts c2
end

/-- A list of fields. -/
def FieldsV (w : World) (fs : List PF) (v : Value) : Prop := ∃ cs, Ro w v 8 fs.length cs ∧ FieldsC w fs cs

def TagsC (w : World) : TM → List Value → Prop
  | [], cs => cs = []
  | p :: m, cs => ∃ v r, cs = .int .u32 p.1 :: v :: r ∧ Ro w v 1 p.2.length (bcells p.2) ∧ TagsC w m r

mutual
def TreeC (w : World) : PT → List Value → Prop
  | .mk n s null l u, cs => ∃ sv lv uv lcs ucs, cs = [.int .i64 n, sv, .bool null, lv, uv] ∧ Ro w sv 1 s.length (bcells s) ∧ Ro w lv 5 l.length lcs ∧ TreesC w l lcs ∧ Ro w uv 2 u.length ucs ∧ TagsC w u ucs ∧ (s.length < 4294967296 ∧ l.length < 4294967296 ∧ u.length < 4294967296)
def TreesC (w : World) : List PT → List Value → Prop
  | [], cs => cs = []
  | t :: ts, cs => ∃ c1 c2, cs = c1 ++ c2 ∧ TreeC w t c1 ∧ TreesC w ts c2
end

section
variable {w w' : World}

mutual
theorem FieldC.keep (hk : Keeps [] w w') : ∀ (f : PF) (cs : List Value), FieldC w f cs → FieldC w' f cs
  | .mk _ _ _ _ _ _ _ sub, _, ⟨sv, scs, e, h1, h2⟩ => ⟨sv, scs, e, h1.keep hk, FieldsC.keep hk sub scs h2⟩
theorem FieldsC.keep (hk : Keeps [] w w') : ∀ (fs : List PF) (cs : List Value), FieldsC w fs cs → FieldsC w' fs cs
  | [], _, h => h
  | t :: ts, _, ⟨c1, c2, e, h1, h2⟩ => ⟨c1, c2, e, FieldC.keep hk t c1 h1, FieldsC.keep hk ts c2 h2⟩
end

theorem FieldsV.keep (hk : Keeps [] w w') {fs : List PF} {v : Value} (h : FieldsV w fs v) : FieldsV w' fs v := by
  obtain ⟨cs, h1, h2⟩ := h
  exact ⟨cs, h1.keep hk, FieldsC.keep hk fs cs h2⟩

theorem TagsC.keep (hk : Keeps [] w w') : ∀ (m : TM) (cs : List Value), TagsC w m cs → TagsC w' m cs
  | [], _, h => h
  | _ :: m, _, ⟨v, r, e, h1, h2⟩ => ⟨v, r, e, h1.keep hk, TagsC.keep hk m r h2⟩

mutual
theorem TreeC.keep (hk : Keeps [] w w') : ∀ (t : PT) (cs : List Value), TreeC w t cs → TreeC w' t cs
  | .mk _ _ _ l u, _, ⟨sv, lv, uv, lcs, ucs, e, h1, h2, h3, h4, h5, h6⟩ => ⟨sv, lv, uv, lcs, ucs, e, h1.keep hk, h2.keep hk, TreesC.keep hk l lcs h3, h4.keep hk, TagsC.keep hk u ucs h5, h6⟩
theorem TreesC.keep (hk : Keeps [] w w') : ∀ (ts : List PT) (cs : List Value), TreesC w ts cs → TreesC w' ts cs
  | [], _, h => h
  | t :: ts, _, ⟨c1, c2, e, h1, h2⟩ => ⟨c1, c2, e, TreeC.keep hk t c1 h1, TreesC.keep hk ts c2 h2⟩
end

theorem TagsC.of_rows {A : Nat → Prop} : ∀ {m : TM} {cs : List Value}, TagRows w A m cs → TagsC w m cs
  | [], _, h => h
  | _ :: _, _, ⟨v, r, e, h1, h2⟩ => ⟨v, r, e, h1.1, TagsC.of_rows h2⟩

mutual
theorem TreeC.of_at {A : Nat → Prop} : ∀ {t : PT} {cs : List Value}, TreeAt w A t cs → TreeC w t cs
  | .mk _ _ _ _ _, _, ⟨sv, lv, uv, lcs, e, h1, h2, h3, h4, ucs, h5, h7, h6⟩ => ⟨sv, lv, uv, lcs, ucs, e, h1.1, .of_reads h2, TreesC.of_at h4, .of_reads h5, TagsC.of_rows h6, h1.2.2, h3.2, h7.2⟩
theorem TreesC.of_at {A : Nat → Prop} : ∀ {ts : List PT} {cs : List Value}, TreesAt w A ts cs → TreesC w ts cs
  | [], _, h => h
  | _ :: _, _, ⟨c1, c2, e, h1, h2⟩ => ⟨c1, c2, e, TreeC.of_at h1, TreesC.of_at h2⟩
end

theorem FieldC.len {f : PF} {cs : List Value} (h : FieldC w f cs) : cs.length = 8 := by
  cases f with
  | mk => obtain ⟨sv, scs, e, _⟩ := h; rw [e]; rfl
theorem FieldC.ones {f : PF} {cs : List Value} (h : FieldC w f cs) : ∀ u ∈ cs, u.oneCell' = true := by
  cases f with
  | mk =>
    obtain ⟨sv, scs, e, h1, _⟩ := h
    have := h1.one
    subst e
    intro u hu
    simp only [List.mem_cons, List.not_mem_nil, or_false] at hu
    rcases hu with rfl | rfl | rfl | rfl | rfl | rfl | rfl | rfl <;> first | rfl | assumption
theorem TreeC.len {t : PT} {cs : List Value} (h : TreeC w t cs) : cs.length = 5 := by
  cases t with
  | mk => obtain ⟨sv, lv, uv, lcs, ucs, e, _⟩ := h; rw [e]; rfl
theorem TreeC.ones {t : PT} {cs : List Value} (h : TreeC w t cs) : ∀ u ∈ cs, u.oneCell' = true := by
  cases t with
  | mk =>
    obtain ⟨sv, lv, uv, lcs, ucs, e, h1, h2, _, h3, _⟩ := h
    have := h1.one; have := h2.one; have := h3.one
    subst e
    intro u hu
    simp only [List.mem_cons, List.not_mem_nil, or_false] at hu
    rcases hu with rfl | rfl | rfl | rfl | rfl <;> first | rfl | assumption

theorem FieldsC.get : ∀ {fs : List PF} {cs : List Value} {j : Nat}, FieldsC w fs cs → (hj : j < fs.length) → FieldC w fs[j] ((cs.drop (j * 8)).take 8)
  | t :: ts, _, 0, ⟨c1, c2, e, h1, h2⟩, _ => by
    have := h1.len
    subst e
    simp only [Nat.zero_mul, List.drop_zero, List.getElem_cons_zero]
    rw [List.take_append_of_le_length (by omega), List.take_of_length_le (by omega)]
    exact h1
  | t :: ts, _, j + 1, ⟨c1, c2, e, h1, h2⟩, hj => by
    have := h1.len
    subst e
    have := FieldsC.get h2 (by simpa using hj)
    rw [show (j + 1) * 8 = c1.length + j * 8 by omega, List.drop_append, List.drop_eq_nil_of_le (by omega), List.nil_append, show c1.length + j * 8 - c1.length = j * 8 by omega]
    exact this

theorem TreesC.get : ∀ {ts : List PT} {cs : List Value} {j : Nat}, TreesC w ts cs → (hj : j < ts.length) → TreeC w ts[j] ((cs.drop (j * 5)).take 5)
  | t :: ts, _, 0, ⟨c1, c2, e, h1, h2⟩, _ => by
    have := h1.len
    subst e
    simp only [Nat.zero_mul, List.drop_zero, List.getElem_cons_zero]
    rw [List.take_append_of_le_length (by omega), List.take_of_length_le (by omega)]
    exact h1
  | t :: ts, _, j + 1, ⟨c1, c2, e, h1, h2⟩, hj => by
    have := h1.len
    subst e
    have := TreesC.get h2 (by simpa using hj)
    rw [show (j + 1) * 5 = c1.length + j * 5 by omega, List.drop_append, List.drop_eq_nil_of_le (by omega), List.nil_append, show c1.length + j * 5 - c1.length = j * 5 by omega]
    exact this

theorem TagsC.get : ∀ {m : TM} {cs : List Value} {j : Nat}, TagsC w m cs → (hj : j < m.length) → ∃ v, (cs.drop (j * 2)).take 2 = [.int .u32 m[j].1, v] ∧ Ro w v 1 m[j].2.length (bcells m[j].2)
  | p :: m, _, 0, ⟨v, r, e, h1, h2⟩, _ => ⟨v, by subst e; rfl, h1⟩
  | p :: m, _, j + 1, ⟨v, r, e, h1, h2⟩, hj => by
    obtain ⟨v', h3, h4⟩ := TagsC.get h2 (j := j) (by simpa using hj)
    refine ⟨v', ?_, h4⟩
    subst e
    rw [show (j + 1) * 2 = j * 2 + 1 + 1 by omega]
    simpa using h3

/-- The cells of an element. -/
theorem Ro.elem {v : Value} {sz n j : Nat} {xs : List Value} (h : Ro w v sz n xs) (hj : j < n) (hsz : 0 < sz) :
    ∃ b o cap, v = .slice (some ⟨b, o, none⟩) n cap ∧ b < w.heap.size ∧ ((xs.drop (j * sz)).take sz).length = sz ∧ ∀ i, i < sz → w.cell? ⟨b, o + j * sz + i, none⟩ = ((xs.drop (j * sz)).take sz)[i]? := by
  obtain ⟨b, o, cap, e, hb, hx⟩ := h.at (by omega)
  have h1 : j * sz + sz ≤ n * sz := by rw [← Nat.succ_mul]; exact Nat.mul_le_mul_right _ hj
  refine ⟨b, o, cap, e, hb, by rw [List.length_take, List.length_drop, h.1]; omega, fun i hi => ?_⟩
  rw [Nat.add_assoc, hx _ (by omega), List.getElem?_take, if_pos hi, List.getElem?_drop]

theorem TreeC.zero (w : World) : TreeC w .zero zeroTree := TreeC.of_at (zeroTree_at w fun _ => True)

theorem FieldsC.of_get : ∀ {fs : List PF} {cs : List Value}, cs.length = fs.length * 8 → (∀ j (hj : j < fs.length), FieldC w fs[j] ((cs.drop (j * 8)).take 8)) → FieldsC w fs cs
  | [], cs, h, _ => List.eq_nil_of_length_eq_zero (by simpa using h)
  | f :: fs, cs, h, h2 => by
    simp only [List.length_cons] at h
    refine ⟨cs.take 8, cs.drop 8, by simp, ?_, FieldsC.of_get (by rw [List.length_drop]; omega) fun j hj => ?_⟩
    · have h3 := h2 0 (by simp)
      rw [Nat.zero_mul, List.drop_zero] at h3
      exact h3
    · have := h2 (j + 1) (by simpa using hj)
      rw [List.drop_drop, show 8 + j * 8 = (j + 1) * 8 by omega]
      simpa using this

theorem TreesC.len : ∀ {ts : List PT} {cs : List Value}, TreesC w ts cs → cs.length = ts.length * 5
  | [], _, h => by simp only [TreesC] at h; subst h; rfl
  | t :: ts, _, ⟨c1, c2, e, h1, h2⟩ => by rw [e, List.length_append, h1.len, TreesC.len h2, List.length_cons]; omega

theorem TreesC.take : ∀ {ts : List PT} {cs : List Value} (m : Nat), TreesC w ts cs → TreesC w (ts.take m) (cs.take (m * 5))
  | _, _, 0, _ => by simp [TreesC]
  | [], _, m + 1, h => by simp only [TreesC] at h; subst h; simp [TreesC]
  | t :: ts, _, m + 1, ⟨c1, c2, e, h1, h2⟩ => by
    have := h1.len
    subst e
    refine ⟨c1, c2.take (m * 5), ?_, h1, TreesC.take m h2⟩
    rw [List.take_append, show (m + 1) * 5 - c1.length = m * 5 by omega, List.take_of_length_le (by omega)]

theorem TagsC.len : ∀ {m : TM} {cs : List Value}, TagsC w m cs → cs.length = m.length * 2
  | [], _, h => by simp only [TagsC] at h; subst h; rfl
  | _ :: m, _, ⟨v, r, e, _, h2⟩ => by rw [e, List.length_cons, List.length_cons, TagsC.len h2, List.length_cons]; omega

theorem TagsC.take : ∀ {m : TM} {cs : List Value} (k : Nat), TagsC w m cs → TagsC w (m.take k) (cs.take (k * 2))
  | _, _, 0, _ => by simp [TagsC]
  | [], _, k + 1, h => by simp only [TagsC] at h; subst h; simp [TagsC]
  | p :: m, _, k + 1, ⟨v, r, e, h1, h2⟩ => by
    subst e
    exact ⟨v, r.take (k * 2), by rw [show (k + 1) * 2 = k * 2 + 1 + 1 by omega]; simp, h1, TagsC.take k h2⟩
end
end Go.Kf
/- What the reference writes and tells, apart from memory. -/
namespace Go.Kf
open Go

def PF.kind : PF → Int | .mk k _ _ _ _ _ _ _ => k
def PF.fr : PF → Int | .mk _ f _ _ _ _ _ _ => f
def PF.to : PF → Int | .mk _ _ t _ _ _ _ _ => t
def PF.nul : PF → Int | .mk _ _ _ n _ _ _ _ => n
def PF.tag : PF → Int | .mk _ _ _ _ g _ _ _ => g
def PF.dflt : PF → Int | .mk _ _ _ _ _ d _ _ => d
def PF.elem : PF → Int | .mk _ _ _ _ _ _ e _ => e
def PF.sub : PF → List PF | .mk _ _ _ _ _ _ _ s => s
def PT.n : PT → Int | .mk n _ _ _ _ => n
def PT.s : PT → List UInt8 | .mk _ s _ _ _ => s
def PT.null : PT → Bool | .mk _ _ b _ _ => b
def PT.l : PT → List PT | .mk _ _ _ l _ => l
def PT.u : PT → TM | .mk _ _ _ _ u => u

def pHas (f : PF) (v : Int) : Bool := decide (f.fr ≤ v) && (decide (f.to < 0) || decide (v ≤ f.to))
def pNull (f : PF) (v : Int) (t : PT) : Bool := t.null && decide (0 ≤ f.nul) && decide (f.nul ≤ v)
def pWhole (s : List UInt8) : List UInt8 := s.take 32767
def pThings (l : List PT) : List PT := l.take 32767
def pAt (t : PT) (i : Nat) : PT := t.l.getD i .zero

def pUvN : Nat → Nat → List UInt8
  | 0, n => [UInt8.ofNat n]
  | k + 1, n => if 127 < n then UInt8.ofNat (n % 128 + 128) :: pUvN k (n / 128) else [UInt8.ofNat n]
def pUv (n : Nat) : List UInt8 := pUvN 10 n

/-- The octet i of a number. -/
def octOf (n : Int) (i : Nat) : UInt8 := UInt8.ofNat ((n / 2 ^ (8 * i)) % 256).toNat
def pFixed (n : Int) : Nat → List UInt8
  | 0 => []
  | k + 1 => octOf n k :: pFixed n k

def pWidth (kind : Int) : Nat := if kind = 1 then 1 else if kind = 2 ∨ kind = 5 then 2 else if kind = 3 then 4 else 8

def pCounted (flex null : Bool) (n size : Nat) : List UInt8 :=
  if flex then (if null then [0] else pUv (n + 1)) else if null then pFixed (-1) size else pFixed n size

/-- 16 octets. -/
def pId (s : List UInt8) : List UInt8 := (s ++ List.replicate 16 0).take 16

/-- What is written of a value; pp: of a part. -/
def pValue (pp : PT → List UInt8) (kind : Int) (null flex : Bool) (t : PT) : List UInt8 :=
  if kind = 0 then [UInt8.ofNat (t.n % 2).toNat]
  else if kind = 7 then pId t.s
  else if kind = 8 then (let s := if null then [] else pWhole t.s; pCounted flex null s.length 2 ++ s)
  else if kind = 9 then (let s := if null then [] else pWhole t.s; pCounted flex null s.length 4 ++ s)
  else if kind = 10 then pp t
  else pFixed t.n (pWidth kind)

def pFieldOf (pp : PT → List UInt8) (f : PF) (v : Int) (flex : Bool) (t : PT) : List UInt8 :=
  let null := pNull f v t
  if f.kind = 11 then
    let l := if null then [] else pThings t.l
    pCounted flex null l.length 4 ++ (l.map fun x => pValue pp f.elem false flex x).flatten
  else if f.kind = 10 ∧ 0 ≤ f.nul then (if null then pFixed (-1) 1 else pFixed 1 1 ++ pp t)
  else pValue pp f.kind null flex t

/-- The tag that is one more than all. -/
def pKnown : List PF → Nat → Nat
  | [], n => n
  | f :: r, n => pKnown r (if 0 ≤ f.tag then max n (f.tag.toNat + 1) else n)

/-- A tag, put where it belongs. -/
def pPut (q : Nat × List UInt8) : TM → TM
  | [] => [q]
  | p :: m => if p.1 < q.1 then p :: pPut q m else if p.1 = q.1 then p :: m else q :: p :: m

def pUnknownN (least : Nat) : TM → TM → TM
  | [], out => out
  | q :: m, out => pUnknownN least m (if q.1 < least then out else pPut q out)
def pUnknown (fs : List PF) (u : TM) : TM := pUnknownN (pKnown fs 0) (u.take 32767) []

def pTag1 (k : Nat) (b : List UInt8) : List UInt8 := pUv k ++ pUv b.length ++ b
def pTags (m : TM) : List UInt8 := (m.map fun q => pTag1 q.1 (pWhole q.2)).flatten

def pNumber (kind n : Int) : Int :=
  if kind = 0 then n % 2 else if kind = 1 then IntKind.i8.wrap n else if kind = 2 then IntKind.i16.wrap n else if kind = 3 then IntKind.i32.wrap n else if kind = 5 then IntKind.u16.wrap n else n

/-- Is it as by default? uu: of a part. -/
def pUsualOf (uu : PT → Bool) (f : PF) (t : PT) : Bool :=
  if f.kind = 0 then decide (t.n % 2 = f.dflt)
  else if f.kind = 7 then (t.s.take 16).all (· == 0)
  else if f.kind = 8 ∨ f.kind = 9 then (if 0 ≤ f.nul then t.null else t.s.isEmpty)
  else if f.kind = 11 then t.l.isEmpty
  else if f.kind = 10 then uu t
  else decide (pFixed t.n (pWidth f.kind) = pFixed f.dflt (pWidth f.kind))

mutual
def pUsual : PF → PT → Bool
  | .mk k f t n g d e sub, x => pUsualOf (fun y => pUsuals sub y 0 && (pUnknown sub y.u).isEmpty) (.mk k f t n g d e sub) x
def pUsuals : List PF → PT → Nat → Bool
  | [], _, _ => true
  | f :: r, t, i => pUsual f (pAt t i) && pUsuals r t (i + 1)
end

mutual
def pField : PF → Int → Bool → PT → List UInt8
  | .mk k f t n g d e sub, v, flex, x =>
    pFieldOf (fun y => pPlain sub v flex y 0 ++ pEnd sub (pTagged sub v flex y 0) flex y) (.mk k f t n g d e sub) v flex x
/-- The fields without tags. -/
def pPlain : List PF → Int → Bool → PT → Nat → List UInt8
  | [], _, _, _, _ => []
  | f :: r, v, flex, t, i => (if decide (f.tag < 0) && pHas f v then pField f v flex (pAt t i) else []) ++ pPlain r v flex t (i + 1)
/-- Those with tags that aren't as by default. -/
def pTagged : List PF → Int → Bool → PT → Nat → List (Int × List UInt8)
  | [], _, _, _, _ => []
  | f :: r, v, flex, t, i => (if 0 ≤ f.tag ∧ pUsual f (pAt t i) = false then [(f.tag, pField f v flex (pAt t i))] else []) ++ pTagged r v flex t (i + 1)
/-- What stands behind the fields without tags. -/
def pEnd (fs : List PF) (tg : List (Int × List UInt8)) (flex : Bool) (t : PT) : List UInt8 :=
  if flex then
    let known := (List.range (pKnown fs 0)).flatMap fun (k : Nat) => tg.filter fun p => p.1 == (k : Int)
    pUv (known.length + (pUnknown fs t.u).length) ++ ((known.map fun p => pTag1 p.1.toNat p.2).flatten ++ pTags (pUnknown fs t.u))
  else []
end

def pPart (fs : List PF) (v : Int) (flex : Bool) (t : PT) : List UInt8 := pPlain fs v flex t 0 ++ pEnd fs (pTagged fs v flex t 0) flex t
def pFlex (flex v : Int) : Bool := decide (0 ≤ flex) && decide (flex ≤ v)
def pWrite (fs : List PF) (flex v : Int) (t : PT) : List UInt8 := pPart fs v (pFlex flex v) t

theorem pField_eq (f : PF) (v : Int) (flex : Bool) (t : PT) : pField f v flex t = pFieldOf (fun y => pPart f.sub v flex y) f v flex t := by
  cases f; rw [pField]; rfl

/-- All of it as by default. -/
def pUsualGotOf (uu : PT → Bool) (f : PF) (x : PT) : Bool :=
  if f.kind = 8 then (x.null == decide (0 ≤ f.nul)) && x.s.isEmpty
  else if f.kind = 7 then decide (x.s = List.replicate 16 0)
  else if f.kind = 9 ∨ f.kind = 11 then x.s.isEmpty && x.l.isEmpty
  else if f.kind = 10 then (if 0 ≤ f.nul then x.null else uu x)
  else decide (x.n = pNumber f.kind f.dflt)

mutual
def pUsualGot : PF → PT → Bool
  | .mk k f t n g d e sub, x => pUsualGotOf (fun y => y.u.isEmpty && pUsualGots sub y 0) (.mk k f t n g d e sub) x
def pUsualGots : List PF → PT → Nat → Bool
  | [], _, _ => true
  | f :: r, t, i => pUsualGot f (pAt t i) && pUsualGots r t (i + 1)
end

def pAll2 (f : PT → PT → Bool) : List PT → List PT → Bool
  | x :: l, y :: r => f x y && pAll2 f l r
  | _, _ => true

/-- Is it told so? of a kind; tt: of a part. -/
def pToldV (tt : PT → PT → Bool) (kind : Int) (t got : PT) : Bool :=
  if kind = 8 ∨ kind = 9 then decide (got.s = pWhole t.s)
  else if kind = 7 then decide (got.s = pId t.s)
  else if kind = 10 then tt t got
  else decide (got.n = pNumber kind t.n)

def pToldOf (tt : PT → PT → Bool) (f : PF) (v : Int) (t got : PT) : Bool :=
  let null := pNull f v t
  let may := decide (0 ≤ f.nul) && decide (f.nul ≤ v)
  if (decide (f.kind = 8) || decide (f.kind = 10) || may) && (got.null != null) then false
  else if null then true
  else if f.kind = 11 then decide (got.l.length = (pThings t.l).length) && pAll2 (fun x y => !(decide (f.elem = 8 ∨ f.elem = 10) && y.null) && pToldV tt f.elem x y) (pThings t.l) got.l
  else pToldV tt f.kind t got

def pTagsTold : TM → TM → Bool
  | p :: m, q :: r => decide (q.1 = p.1) && decide (q.2 = pWhole p.2) && pTagsTold m r
  | [], _ => true
  | _ :: _, [] => false

def pToldEnd (fs : List PF) (flex : Bool) (t got : PT) : Bool :=
  let l := if flex then pUnknown fs t.u else []
  decide (got.u.length = l.length) && pTagsTold l got.u

mutual
def pTold1 : PF → Int → Bool → PT → PT → Bool
  | .mk k f t n g d e sub, v, flex, x, got => pToldOf (fun y z => decide (z.l.length = sub.length) && pTolds sub v flex y z 0 && pToldEnd sub flex y z) (.mk k f t n g d e sub) v x got
def pTolds : List PF → Int → Bool → PT → PT → Nat → Bool
  | [], _, _, _, _, _ => true
  | f :: r, v, flex, t, got, i => (if (f.tag < 0 ∧ pHas f v = true) ∨ (0 ≤ f.tag ∧ flex = true ∧ pUsual f (pAt t i) = false) then pTold1 f v flex (pAt t i) (pAt got i) else pUsualGot f (pAt got i)) && pTolds r v flex t got (i + 1)
end

def pTold (fs : List PF) (v : Int) (flex : Bool) (t got : PT) : Bool := decide (got.l.length = fs.length) && pTolds fs v flex t got 0 && pToldEnd fs flex t got
end Go.Kf
/- The reference's writing and telling: the small functions' trees, and what they do. -/
namespace Go.Kf
open Go

/-- The numbers of the reference's types and functions. -/
structure SN where
  field : Nat
  fields : Nat
  msg : Nat
  has : Nat
  null : Nat
  whole : Nat
  things : Nat
  at_ : Nat
  uv : Nat
  fixed : Nat
  width : Nat
  counted : Nat
  value : Nat
  fld : Nat
  part : Nat
  known : Nat
  usual : Nat
  unknown : Nat
  write : Nat
  flex : Nat
  number : Nat
  usualG : Nat
  told1 : Nat
  told : Nat
  same : Nat
  fits1 : Nat
  fits2 : Nat
  fits3 : Nat

def tHas (c : Nums) (s : SN) : Tr :=
  .op (.box s.field (.tmp 0)) none [] <|
  .op (.fieldAddr s.field (.tmp 2) 1) none [] <|
  .op (.load c.tInt (.tmp 3)) none [] <|
  .op (.binOp .leq c.tInt (.tmp 4) (.tmp 1) c.tInt) none [] <|
  .cond (.tmp 5) (
    .op (.fieldAddr s.field (.tmp 2) 2) none [] <|
    .op (.load c.tInt (.tmp 6)) none [] <|
    .op (.binOp .lss c.tInt (.tmp 7) (.const (.int .i64 0)) c.tInt) none [] <|
    .cond (.tmp 8) (
      .ret [((.const (.bool true)), none)]
    ) (
      .op (.fieldAddr s.field (.tmp 2) 2) none [] <|
      .op (.load c.tInt (.tmp 9)) none [] <|
      .op (.binOp .leq c.tInt (.tmp 1) (.tmp 10) c.tInt) none [] <|
      .ret [((.tmp 11), none)]
    )
  ) (
    .ret [((.const (.bool false)), none)]
  )

def tNull (c : Nums) (s : SN) : Tr :=
  .op (.box s.field (.tmp 0)) none [] <|
  .op (.box c.sTree (.tmp 2)) none [] <|
  .op (.fieldAddr c.sTree (.tmp 4) 2) none [] <|
  .op (.load c.tBool (.tmp 5)) none [] <|
  .cond (.tmp 6) (
    .op (.fieldAddr s.field (.tmp 3) 3) none [] <|
    .op (.load c.tInt (.tmp 7)) none [] <|
    .op (.binOp .geq c.tInt (.tmp 8) (.const (.int .i64 0)) c.tInt) none [] <|
    .cond (.tmp 9) (
      .op (.fieldAddr s.field (.tmp 3) 3) none [] <|
      .op (.load c.tInt (.tmp 10)) none [] <|
      .op (.binOp .geq c.tInt (.tmp 1) (.tmp 11) c.tInt) none [] <|
      .ret [((.tmp 12), none)]
    ) (
      .ret [((.const (.bool false)), none)]
    )
  ) (
    .ret [((.const (.bool false)), none)]
  )

def tWhole (c : Nums) : Tr :=
  .op (.call { callee := (.builtin .len), args := ⟨[(.tmp 0)]⟩, argTypes := ⟨[c.tBytes]⟩ }) none [] <|
  .op (.call { callee := (.builtin .min), args := ⟨[(.tmp 1), (.const (.int .i64 32767))]⟩, argTypes := ⟨[c.tInt, c.tInt]⟩ }) none [] <|
  .op (.slice c.tBytes (.tmp 0) none (some (.tmp 2)) none) none [] <|
  .ret [((.tmp 3), none)]

def tThings (c : Nums) : Tr :=
  .op (.call { callee := (.builtin .len), args := ⟨[(.tmp 0)]⟩, argTypes := ⟨[c.sTrees]⟩ }) none [] <|
  .op (.call { callee := (.builtin .min), args := ⟨[(.tmp 1), (.const (.int .i64 32767))]⟩, argTypes := ⟨[c.tInt, c.tInt]⟩ }) none [] <|
  .op (.slice c.sTrees (.tmp 0) none (some (.tmp 2)) none) none [] <|
  .ret [((.tmp 3), none)]

def tAt (c : Nums) : Tr :=
  .op (.box c.sTree (.tmp 0)) none [] <|
  .op (.alloc c.sTree) none [] <|
  .op (.fieldAddr c.sTree (.tmp 2) 3) none [] <|
  .op (.load c.sTrees (.tmp 4)) none [] <|
  .op (.call { callee := (.builtin .len), args := ⟨[(.tmp 5)]⟩, argTypes := ⟨[c.sTrees]⟩ }) none [] <|
  .op (.binOp .lss c.tInt (.tmp 1) (.tmp 6) c.tInt) none [] <|
  .cond (.tmp 7) (
    .op (.fieldAddr c.sTree (.tmp 2) 3) none [] <|
    .op (.load c.sTrees (.tmp 8)) none [] <|
    .op (.indexAddr c.sTrees (.tmp 9) (.tmp 1)) none [] <|
    .op (.load c.sTree (.tmp 10)) none [] <|
    .op (.store c.sTree (.tmp 3) (.tmp 11)) none [] <|
    .ret [((.tmp 3), (some c.sTree))]
  ) (
    .op (.build c.sTree ⟨[]⟩) none [] <|
    .op (.store c.sTree (.tmp 3) (.tmp 8)) none [] <|
    .ret [((.tmp 3), (some c.sTree))]
  )

def tUv (c : Nums) : Tr :=
  .loop 0 [(.const (.slice none 0 0)), (.tmp 0)] <|
  .op (.binOp .gtr c.tU64 (.tmp 2) (.const (.int .u64 127)) c.tU64) none [] <|
  .cond (.tmp 3) (
    .op (.binOp .and c.tU64 (.tmp 2) (.const (.int .u64 127)) c.tU64) none [] <|
    .op (.convert c.tU64 c.tU8 (.tmp 4)) none [] <|
    .op (.binOp .or c.tU8 (.tmp 5) (.const (.int .u8 128)) c.tU8) none [] <|
    .op (.buildSlice c.tBytes 1 ⟨[(0, (.tmp 6))]⟩) none [] <|
    .op (.call { callee := (.builtin .append), args := ⟨[(.tmp 1), (.tmp 7)]⟩, argTypes := ⟨[c.tBytes, c.tBytes]⟩ }) none [] <|
    .op (.binOp .shr c.tU64 (.tmp 2) (.const (.int .u64 7)) c.tUint) none [] <|
    .to 0 [(.tmp 8), (.tmp 9)]
  ) (
    .op (.convert c.tU64 c.tU8 (.tmp 2)) none [] <|
    .op (.buildSlice c.tBytes 1 ⟨[(0, (.tmp 4))]⟩) none [] <|
    .op (.call { callee := (.builtin .append), args := ⟨[(.tmp 1), (.tmp 5)]⟩, argTypes := ⟨[c.tBytes, c.tBytes]⟩ }) none [] <|
    .ret [((.tmp 6), none)]
  )

def tFixed (c : Nums) : Tr :=
  .op (.binOp .sub c.tInt (.tmp 1) (.const (.int .i64 1)) c.tInt) none [] <|
  .loop 0 [(.const (.slice none 0 0)), (.tmp 2)] <|
  .op (.binOp .geq c.tInt (.tmp 4) (.const (.int .i64 0)) c.tInt) none [] <|
  .cond (.tmp 5) (
    .op (.binOp .mul c.tInt (.const (.int .i64 8)) (.tmp 4) c.tInt) none [] <|
    .op (.binOp .shr c.tI64 (.tmp 0) (.tmp 6) c.tInt) none [] <|
    .op (.convert c.tI64 c.tU8 (.tmp 7)) none [] <|
    .op (.buildSlice c.tBytes 1 ⟨[(0, (.tmp 8))]⟩) none [] <|
    .op (.call { callee := (.builtin .append), args := ⟨[(.tmp 3), (.tmp 9)]⟩, argTypes := ⟨[c.tBytes, c.tBytes]⟩ }) none [] <|
    .op (.binOp .sub c.tInt (.tmp 4) (.const (.int .i64 1)) c.tInt) none [] <|
    .to 0 [(.tmp 10), (.tmp 11)]
  ) (
    .ret [((.tmp 3), none)]
  )

def tWidth (c : Nums) : Tr :=
  .op (.binOp .eql c.tInt (.tmp 0) (.const (.int .i64 1)) c.tInt) none [] <|
  .cond (.tmp 1) (
    .ret [((.const (.int .i64 1)), none)]
  ) (
    .op (.binOp .eql c.tInt (.tmp 0) (.const (.int .i64 2)) c.tInt) none [] <|
    .join 0 (
      .cond (.tmp 2) (
        .to 0 [(.tmp 2)]
      ) (
        .op (.binOp .eql c.tInt (.tmp 0) (.const (.int .i64 5)) c.tInt) none [] <|
        .to 0 [(.tmp 3)]
      )
    ) 1 <|
    .cond (.tmp 3) (
      .ret [((.const (.int .i64 2)), none)]
    ) (
      .op (.binOp .eql c.tInt (.tmp 0) (.const (.int .i64 3)) c.tInt) none [] <|
      .cond (.tmp 4) (
        .ret [((.const (.int .i64 4)), none)]
      ) (
        .ret [((.const (.int .i64 8)), none)]
      )
    )
  )

def tCounted (c : Nums) (s : SN) : Tr :=
  .cond (.tmp 0) (
    .cond (.tmp 1) (
      .op (.buildSlice c.tBytes 1 ⟨[(0, (.const (.int .u8 0)))]⟩) none [] <|
      .ret [((.tmp 4), none)]
    ) (
      .cond (.tmp 0) (
        .op (.convert c.tInt c.tU64 (.tmp 2)) none [] <|
        .op (.binOp .add c.tU64 (.tmp 4) (.const (.int .u64 1)) c.tU64) none [] <|
        .op (callOp s.uv [(.tmp 5)]) none [] <|
        .ret [((.tmp 6), none)]
      ) (
        .cond (.tmp 1) (
          .op (callOp s.fixed [(.const (.int .i64 (-1))), (.tmp 3)]) none [] <|
          .ret [((.tmp 4), none)]
        ) (
          .op (callOp s.fixed [(.tmp 2), (.tmp 3)]) none [] <|
          .ret [((.tmp 4), none)]
        )
      )
    )
  ) (
    .cond (.tmp 0) (
      .op (.convert c.tInt c.tU64 (.tmp 2)) none [] <|
      .op (.binOp .add c.tU64 (.tmp 4) (.const (.int .u64 1)) c.tU64) none [] <|
      .op (callOp s.uv [(.tmp 5)]) none [] <|
      .ret [((.tmp 6), none)]
    ) (
      .cond (.tmp 1) (
        .op (callOp s.fixed [(.const (.int .i64 (-1))), (.tmp 3)]) none [] <|
        .ret [((.tmp 4), none)]
      ) (
        .op (callOp s.fixed [(.tmp 2), (.tmp 3)]) none [] <|
        .ret [((.tmp 4), none)]
      )
    )
  )

def tFlex (c : Nums) (s : SN) : Tr :=
  .op (.box s.msg (.tmp 0)) none [] <|
  .op (.fieldAddr s.msg (.tmp 2) 1) none [] <|
  .op (.load c.tInt (.tmp 3)) none [] <|
  .op (.binOp .geq c.tInt (.tmp 4) (.const (.int .i64 0)) c.tInt) none [] <|
  .cond (.tmp 5) (
    .op (.fieldAddr s.msg (.tmp 2) 1) none [] <|
    .op (.load c.tInt (.tmp 6)) none [] <|
    .op (.binOp .geq c.tInt (.tmp 1) (.tmp 7) c.tInt) none [] <|
    .ret [((.tmp 8), none)]
  ) (
    .ret [((.const (.bool false)), none)]
  )

def tNumber (c : Nums) : Tr :=
  .op (.binOp .eql c.tInt (.tmp 0) (.const (.int .i64 0)) c.tInt) none [] <|
  .cond (.tmp 2) (
    .op (.binOp .and c.tI64 (.tmp 1) (.const (.int .i64 1)) c.tI64) none [] <|
    .ret [((.tmp 3), none)]
  ) (
    .op (.binOp .eql c.tInt (.tmp 0) (.const (.int .i64 1)) c.tInt) none [] <|
    .cond (.tmp 3) (
      .op (.convert c.tI64 c.tI8 (.tmp 1)) none [] <|
      .op (.convert c.tI8 c.tI64 (.tmp 4)) none [] <|
      .ret [((.tmp 5), none)]
    ) (
      .op (.binOp .eql c.tInt (.tmp 0) (.const (.int .i64 2)) c.tInt) none [] <|
      .cond (.tmp 4) (
        .op (.convert c.tI64 c.tI16 (.tmp 1)) none [] <|
        .op (.convert c.tI16 c.tI64 (.tmp 5)) none [] <|
        .ret [((.tmp 6), none)]
      ) (
        .op (.binOp .eql c.tInt (.tmp 0) (.const (.int .i64 3)) c.tInt) none [] <|
        .cond (.tmp 5) (
          .op (.convert c.tI64 c.tI32 (.tmp 1)) none [] <|
          .op (.convert c.tI32 c.tI64 (.tmp 6)) none [] <|
          .ret [((.tmp 7), none)]
        ) (
          .op (.binOp .eql c.tInt (.tmp 0) (.const (.int .i64 5)) c.tInt) none [] <|
          .cond (.tmp 6) (
            .op (.convert c.tI64 c.tU16 (.tmp 1)) none [] <|
            .op (.convert c.tU16 c.tI64 (.tmp 7)) none [] <|
            .ret [((.tmp 8), none)]
          ) (
            .ret [((.tmp 1), none)]
          )
        )
      )
    )
  )

/-- The kinds of numbers that are narrowed, too. -/
structure NumTys (P : Program) (c : Nums) : Prop where
  i8 : P.underlying c.tI8 = some (.int .i8)
  u16 : P.underlying c.tU16 = some (.int .u16)

/-- What the reference's functions ask of the types. -/
structure SpFacts (P : Program) (c : Nums) (s : SN) : Prop where
  rd : RdFacts P c
  ty : TyFacts P c c.sTree c.sTrees c.sTagL c.sTag
  got : GotFacts P c
  agg : aggTy P s.field = some 8
  f0 : fieldOff P s.field 0 = some 0
  f1 : fieldOff P s.field 1 = some 1
  f2 : fieldOff P s.field 2 = some 2
  f3 : fieldOff P s.field 3 = some 3
  f4 : fieldOff P s.field 4 = some 4
  f5 : fieldOff P s.field 5 = some 5
  f6 : fieldOff P s.field 6 = some 6
  f7 : fieldOff P s.field 7 = some 7
  sl : P.underlying s.fields = some (.slice s.field)
  oneFields : oneTy P s.fields = true
  msg : aggTy P s.msg = some 2
  m0 : fieldOff P s.msg 0 = some 0
  m1 : fieldOff P s.msg 1 = some 1
  oneInt : oneTy P c.tInt = true
  u64 : P.underlying c.tU64 = some (.int .u64)
  zero8 : ∃ inf, P.info? c.tU8 = some inf ∧ inf.zero = some (.int .u8 0) ∧ inf.size = 1 ∧ inf.bytes ≤ 8
  zField : ∃ z, zeroTy P s.field = some (z, 8) ∧ z.cells.size = 8
  zTag : ∃ z, zeroTy P c.sTag = some (z, 2) ∧ z.cells.size = 2
  rowF : RowFacts P s.field 8
  planTag : buildPlan P c.sTag = some ([.int .u32 0, .slice none 0 0], [(0, 1), (1, 1)])

theorem SpFacts.szF {P : Program} {c : Nums} {s : SN} (S : SpFacts P c s) : (P.info? s.field).map (·.size) = some 8 := (aggTy_spec (w := default) S.agg).2
theorem SpFacts.szT {P : Program} {c : Nums} {s : SN} (S : SpFacts P c s) : (P.info? c.sTree).map (·.size) = some 5 := (aggTy_spec (w := default) S.ty.agg).2
theorem SpFacts.szG {P : Program} {c : Nums} {s : SN} (S : SpFacts P c s) : (P.info? c.sTag).map (·.size) = some 2 := (aggTy_spec (w := default) S.ty.aggTag).2

/-- The function yields this value; what was there is as it was. -/
def Yields (P : Program) (f : Nat) (args : List Value) (w : World) (v : Value) : Prop := Gives P f args w fun u w' => u = v ∧ Keeps [] w w'

/-- The function yields new octets. -/
def YieldsO (P : Program) (f : Nat) (args : List Value) (w : World) (l : List UInt8) : Prop := Gives P f args w fun u w' => Own w' u 1 l.length (bcells l) ∧ (∀ b ∈ blkOf u, w.heap.size ≤ b) ∧ Keeps [] w w'

section
variable {P : Program} {c : Nums} {s : SN} {R : Value → World → Prop} {Γ : List (List Value → World → Prop)} {n : Nat} {ρ : Nat → Value} {w : World} {k : Tr}

theorem v_min {t1 t2 : Nat} {x y : Operand} {kk k2 : IntKind} {a b : Int} (hx : ev ρ x = .int kk a) (hy : ev ρ y = .int k2 b) : Val P ρ (.call { callee := .builtin .min, args := ⟨[x, y]⟩, argTypes := ⟨[t1, t2]⟩ }) (.int kk (if b < a then b else a)) := fun w => by
  unfold runOp bareOp
  have e1 : (Array.map (ev ρ) ⟨[x, y]⟩ : Array Value) = ⟨[.int kk a, .int k2 b]⟩ := by simp [hx, hy]
  simp only [execOp, resolve, pure_bind, invoke, builtin, Sem.run_bind, e1, Builtin.min_]
  simp [Builtin.min2]

theorem v_max {t1 t2 : Nat} {x y : Operand} {kk k2 : IntKind} {a b : Int} (hx : ev ρ x = .int kk a) (hy : ev ρ y = .int k2 b) : Val P ρ (.call { callee := .builtin .max, args := ⟨[x, y]⟩, argTypes := ⟨[t1, t2]⟩ }) (.int kk (if a < b then b else a)) := fun w => by
  unfold runOp bareOp
  have e1 : (Array.map (ev ρ) ⟨[x, y]⟩ : Array Value) = ⟨[.int kk a, .int k2 b]⟩ := by simp [hx, hy]
  simp only [execOp, resolve, pure_bind, invoke, builtin, Sem.run_bind, e1, Builtin.max_]
  simp [Builtin.max2]

theorem v_shr {t u : Nat} {x y : Operand} {kk k2 : IntKind} {a : Int} {j : Nat} (hx : ev ρ x = .int kk a) (hy : ev ρ y = .int k2 j) (hj : j ≤ kk.bits) : Val P ρ (.binOp .shr t x y u) (.int kk (a / 2 ^ j)) := fun w => by
  unfold runOp bareOp
  simp only [execOp, hx, hy]
  simp [eqGuard, binOp, Op.shift, Nat.min_eq_left hj, show ¬ ((j : Int) < 0) by omega, Int.fdiv_eq_ediv_of_nonneg a (show (0 : Int) ≤ 2 ^ j from Int.pow_nonneg (by omega))]

/-- A counted loop that carries values. -/
theorem s_countV {kk : IntKind} {t q : Nat} {m : Int} {ri : List Operand} {body after : Tr} (Q : Nat → List Value → World → Prop) (hqn : q < n) (hq : ρ q = .int kk m) (h0 : Q 0 (ri.map (ev ρ)) w)
    (hbody : ∀ j, j < m.toNat → ∀ (w' : World) (vr : List Value), Q j vr w' → vr.length = ri.length → ∀ J : List Value → World → Prop, (∀ (vr' : List Value) (w'' : World), vr'.length = ri.length → Q (j + 1) vr' w'' → J (vr' ++ [.int kk ((j + 1 : Nat) : Int)]) w'') →
      body.sem P R (Γ ++ [J]) (n + ri.length + 2) (ext ρ n (vr ++ [.int kk j, .bool true])) w')
    (hafter : ∀ (w' : World) (vr : List Value) (J : List Value → World → Prop), Q m.toNat vr w' → vr.length = ri.length → after.sem P R (Γ ++ [J]) (n + ri.length + 2) (ext ρ n (vr ++ [.int kk m.toNat, .bool false])) w') :
    (Tr.loop Γ.length (ri ++ [.const (.int kk 0)]) (.op (.binOp .lss t (.tmp (n + ri.length)) (.tmp q) t) none [] (.cond (.tmp (n + ri.length + 1)) body after))).sem P R Γ n ρ w := by
  refine ⟨rfl, fun vs w' => ∃ (vr : List Value) (j : Nat), vs = vr ++ [.int kk j] ∧ vr.length = ri.length ∧ j ≤ m.toNat ∧ Q j vr w', fun vs _ => m.toNat - (match vs.getLast? with
    | some (.int _ j) => j.toNat
    | _ => 0), ⟨ri.map (ev ρ), 0, by simp [ev], by simp, by omega, h0⟩, ?_⟩
  rintro vs w' _ ⟨vr, j, rfl, hvr, hj, hQ⟩
  rw [List.length_append, List.length_singleton]
  have e1 : ext ρ n (vr ++ [.int kk j]) (n + ri.length) = .int kk j := by
    rw [ext_ge, ← hvr]; simp
  refine s_val (v_cmp (kk := kk) (a := j) (b := m) (r := decide ((j : Int) < m)) e1 ((ext_lt hqn).trans hq) rfl) ?_
  have e2 := ext_ext ρ n (vr ++ [.int kk j]) [.bool (decide ((j : Int) < m))]
  rw [List.length_append, List.length_singleton, hvr, List.append_assoc] at e2
  rw [e2]
  have e3 : ext ρ n (vr ++ ([.int kk j] ++ [.bool (decide ((j : Int) < m))])) (n + ri.length + 1) = .bool (decide ((j : Int) < m)) := by
    rw [Nat.add_assoc, ext_ge, ← hvr]; simp
  refine s_cond (b := decide ((j : Int) < m)) e3 (fun hb => ?_) fun hb => ?_
  · have hlt : (j : Int) < m := by simpa using hb
    rw [decide_eq_true hlt]
    refine hbody j (by omega) w' vr hQ hvr _ fun vr' w'' hl hQ' => ⟨⟨vr', j + 1, rfl, hl, by omega, hQ'⟩, ?_⟩
    simp
    omega
  · have hge : ¬ (j : Int) < m := by simpa using hb
    rw [decide_eq_false hge]
    obtain rfl : j = m.toNat := by omega
    exact hafter w' vr _ hQ hvr

/-- A field, unfolded. -/
theorem FieldC.cells {f : PF} {cs : List Value} (h : FieldC w f cs) : ∃ sv, cs = [.int .i64 f.kind, .int .i64 f.fr, .int .i64 f.to, .int .i64 f.nul, .int .i64 f.tag, .int .i64 f.dflt, .int .i64 f.elem, sv] ∧ FieldsV w f.sub sv := by
  cases f
  obtain ⟨sv, scs, e, h1, h2⟩ := h
  exact ⟨sv, e, scs, h1, h2⟩

theorem TreeC.cells {t : PT} {cs : List Value} (h : TreeC w t cs) : ∃ sv lv uv lcs ucs, cs = [.int .i64 t.n, sv, .bool t.null, lv, uv] ∧ Ro w sv 1 t.s.length (bcells t.s) ∧ Ro w lv 5 t.l.length lcs ∧ TreesC w t.l lcs ∧ Ro w uv 2 t.u.length ucs ∧ TagsC w t.u ucs := by
  cases t
  obtain ⟨sv, lv, uv, lcs, ucs, e, h1, h2, h3, h4, h5, _⟩ := h
  exact ⟨sv, lv, uv, lcs, ucs, e, h1, h2, h3, h4, h5⟩

theorem TreeC.lens {t : PT} {cs : List Value} (h : TreeC w t cs) : t.s.length < 4294967296 ∧ t.l.length < 4294967296 ∧ t.u.length < 4294967296 := by
  cases t
  obtain ⟨sv, lv, uv, lcs, ucs, e, h1, h2, h3, h4, h5, h6⟩ := h
  exact h6

theorem has_gives (S : SpFacts P c s) (hT : treeIn P s.has noOrc [.tmp 0, .tmp 1] 2 = tHas c s) {f : PF} {cs : List Value} (h : FieldC w f cs) (v : Int) : Yields P s.has [.agg ⟨cs⟩, .int .i64 v] w (.bool (pHas f v)) := by
  obtain ⟨sv, rfl, _⟩ := h.cells
  refine gives_in (ρ := en [_, _]) S.rd.mix hT (Nat.le_refl _) rfl (by simp [opBelow]) ?_
  refine s_box rfl fun w1 hx1 k1 z1 => ?_
  refine s_fl S.f1 S.oneInt rfl rfl hx1 rfl ?_
  refine s_val (v_cmp (kk := .i64) (a := f.fr) (b := v) (r := decide (f.fr ≤ v)) rfl rfl rfl) ?_
  refine s_cond (b := decide (f.fr ≤ v)) rfl (fun hb => ?_) fun hb => s_ret1 ⟨by simp [pHas, hb, ev], k1⟩
  refine s_fl S.f2 S.oneInt rfl rfl hx1 rfl ?_
  refine s_val (v_cmp (kk := .i64) (a := f.to) (b := 0) (r := decide (f.to < 0)) rfl rfl rfl) ?_
  refine s_cond (b := decide (f.to < 0)) rfl (fun hb2 => s_ret1 ⟨by simp [pHas, hb, hb2, ev], k1⟩) fun hb2 => ?_
  refine s_fl S.f2 S.oneInt rfl rfl hx1 rfl ?_
  refine s_val (v_cmp (kk := .i64) (a := v) (b := f.to) (r := decide (v ≤ f.to)) rfl rfl rfl) ?_
  exact s_ret1 ⟨by simp only [pHas, hb, hb2, Bool.true_and, Bool.false_or]; rfl, k1⟩

theorem null_gives (S : SpFacts P c s) (hT : treeIn P s.null noOrc [.tmp 0, .tmp 1, .tmp 2] 3 = tNull c s) {f : PF} {t : PT} {cs ts : List Value} (h : FieldC w f cs) (ht : TreeC w t ts) (v : Int) : Yields P s.null [.agg ⟨cs⟩, .int .i64 v, .agg ⟨ts⟩] w (.bool (pNull f v t)) := by
  obtain ⟨sv, rfl, _⟩ := h.cells
  obtain ⟨s1, lv, uv, lcs, ucs, rfl, _⟩ := ht.cells
  refine gives_in (ρ := en [_, _, _]) S.rd.mix hT (Nat.le_refl _) rfl (by simp [opBelow]) ?_
  refine s_box rfl fun w1 hx1 k1 z1 => ?_
  refine s_box rfl fun w2 hx2 k2 z2 => ?_
  have hx1 := hx1.keep k2 (by simp)
  have k12 : Keeps [] w w2 := k1.trans k2
  refine s_fl S.ty.f2 S.rd.oneBool rfl rfl hx2 rfl ?_
  refine s_cond (b := t.null) rfl (fun hb => ?_) fun hb => s_ret1 ⟨by simp [pNull, hb, ev], k12⟩
  refine s_fl S.f3 S.oneInt rfl rfl hx1 rfl ?_
  refine s_val (v_cmp (kk := .i64) (a := f.nul) (b := 0) (r := decide (f.nul ≥ 0)) rfl rfl rfl) ?_
  refine s_cond (b := decide (f.nul ≥ 0)) rfl (fun hb2 => ?_) fun hb2 => s_ret1 ⟨by simp only [pNull]; rw [show decide (0 ≤ f.nul) = false from hb2]; simp [ev], k12⟩
  refine s_fl S.f3 S.oneInt rfl rfl hx1 rfl ?_
  refine s_val (v_cmp (kk := .i64) (a := v) (b := f.nul) (r := decide (v ≥ f.nul)) rfl rfl rfl) ?_
  exact s_ret1 ⟨by simp only [pNull]; rw [show decide (0 ≤ f.nul) = true from hb2, hb]; rfl, k12⟩

theorem flex_gives (S : SpFacts P c s) (hT : treeIn P s.flex noOrc [.tmp 0, .tmp 1] 2 = tFlex c s) (fv : Value) (x v : Int) : Yields P s.flex [.agg ⟨[fv, .int .i64 x]⟩, .int .i64 v] w (.bool (pFlex x v)) := by
  refine gives_in (ρ := en [_, _]) S.rd.mix hT (Nat.le_refl _) rfl (by simp [opBelow]) ?_
  refine s_box rfl fun w1 hx1 k1 z1 => ?_
  refine s_fl S.m1 S.oneInt rfl rfl hx1 rfl ?_
  refine s_val (v_cmp (kk := .i64) (a := x) (b := 0) (r := decide (x ≥ 0)) rfl rfl rfl) ?_
  refine s_cond (b := decide (x ≥ 0)) rfl (fun hb => ?_) fun hb => s_ret1 ⟨by simp only [pFlex]; rw [show decide (0 ≤ x) = false from hb]; rfl, k1⟩
  refine s_fl S.m1 S.oneInt rfl rfl hx1 rfl ?_
  refine s_val (v_cmp (kk := .i64) (a := v) (b := x) (r := decide (v ≥ x)) rfl rfl rfl) ?_
  exact s_ret1 ⟨by simp only [pFlex]; rw [show decide (0 ≤ x) = true from hb]; rfl, k1⟩

theorem take_min {α : Type} (l : List α) : l.take 32767 = l.take (if (32767 : Int) < (l.length : Int) then (32767 : Int) else (l.length : Int)).toNat := by
  split
  · rfl
  · rw [List.take_of_length_le (by omega), List.take_of_length_le (by omega)]

theorem whole_gives (S : SpFacts P c s) (hT : treeIn P s.whole noOrc [.tmp 0] 1 = tWhole c) {v : Value} {l : List UInt8} (h : Ro w v 1 l.length (bcells l)) : Gives P s.whole [v] w fun u w' => w' = w ∧ ∀ w0, Ro w0 v 1 l.length (bcells l) → Ro w0 u 1 (pWhole l).length (bcells (pWhole l)) := by
  refine gives_in (ρ := en [v]) S.rd.mix hT (Nat.le_refl _) rfl (by simp [opBelow]) ?_
  obtain ⟨a, cp, rfl⟩ := h.form
  refine s_val (v_len (a := a) (l := l.length) (c := cp) S.rd.bytes rfl) ?_
  refine s_val (v_min (kk := .i64) (a := l.length) (b := 32767) rfl rfl) ?_
  have hcap : l.length ≤ cp := by
    rcases h.2 with ⟨h0, _⟩ | ⟨_, _, _, e, _, hc, _⟩
    · omega
    · simp only [Value.slice.injEq] at e; omega
  refine s_val (v_sliceTo (a := a) (l := l.length) (c := cp) (k := .i64) (h := if (32767 : Int) < (l.length : Int) then (32767 : Int) else (l.length : Int)) S.rd.bytes S.rd.szU8 rfl rfl (by split <;> omega) (by split <;> omega)) ?_
  refine s_ret1 ⟨rfl, fun w0 h => ?_⟩
  have h2 := h.to (m := (if (32767 : Int) < (l.length : Int) then (32767 : Int) else (l.length : Int)).toNat) (by split <;> omega)
  rw [Nat.mul_one, bcells_take, ← take_min] at h2
  have e : (pWhole l).length = (if (32767 : Int) < (l.length : Int) then (32767 : Int) else (l.length : Int)).toNat := by
    unfold pWhole
    rw [take_min, List.length_take]
    split <;> omega
  rw [e]
  exact h2

theorem things0_gives (S : SpFacts P c s) (hT : treeIn P s.things noOrc [.tmp 0] 1 = tThings c) {v : Value} {l : List PT} {cs : List Value} (h : Ro w v 5 l.length cs) : Gives P s.things [v] w fun u w' => w' = w ∧ ∃ cs', (∀ w0, Ro w0 v 5 l.length cs → Ro w0 u 5 (pThings l).length cs') ∧ ∀ w0, TreesC w0 l cs → TreesC w0 (pThings l) cs' := by
  refine gives_in (ρ := en [v]) S.rd.mix hT (Nat.le_refl _) rfl (by simp [opBelow]) ?_
  obtain ⟨a, cp, rfl⟩ := h.form
  refine s_val (v_len (a := a) (l := l.length) (c := cp) S.ty.sl rfl) ?_
  refine s_val (v_min (kk := .i64) (a := l.length) (b := 32767) rfl rfl) ?_
  have hcap : l.length ≤ cp := by
    rcases h.2 with ⟨h0, _⟩ | ⟨_, _, _, e, _, hc, _⟩
    · omega
    · simp only [Value.slice.injEq] at e; omega
  refine s_val (v_sliceTo (a := a) (l := l.length) (c := cp) (k := .i64) (h := if (32767 : Int) < (l.length : Int) then (32767 : Int) else (l.length : Int)) S.ty.sl S.szT rfl rfl (by split <;> omega) (by split <;> omega)) ?_
  have e : (pThings l).length = (if (32767 : Int) < (l.length : Int) then (32767 : Int) else (l.length : Int)).toNat := by
    unfold pThings
    rw [take_min, List.length_take]
    split <;> omega
  refine s_ret1 ⟨rfl, _, fun w0 hr => ?_, fun w0 ht => (show l.take (pThings l).length = pThings l by unfold pThings; rw [List.length_take, List.take_eq_take_min]; simp) ▸ ht.take (pThings l).length⟩
  show Ro w0 (.slice a (if (32767 : Int) < (l.length : Int) then (32767 : Int) else (l.length : Int)).toNat cp) 5 _ _
  rw [← e]
  exact hr.to (m := (pThings l).length) (by rw [e]; split <;> omega)

theorem things_gives (S : SpFacts P c s) (hT : treeIn P s.things noOrc [.tmp 0] 1 = tThings c) {v : Value} {l : List PT} {cs : List Value} (h : Ro w v 5 l.length cs) (ht : TreesC w l cs) : Gives P s.things [v] w fun u w' => w' = w ∧ ∃ cs', Ro w u 5 (pThings l).length cs' ∧ TreesC w (pThings l) cs' :=
  (things0_gives S hT h).mono fun _ _ ⟨h1, cs', h2, h3⟩ => ⟨h1, cs', h2 w h, h3 w ht⟩

theorem at0_gives (S : SpFacts P c s) (hT : treeIn P s.at_ noOrc [.tmp 0, .tmp 1] 2 = tAt c) {t : PT} {ts : List Value} {w0 : World} (k0 : Keeps [] w0 w) (ht : TreeC w0 t ts) (i : Nat) : Gives P s.at_ [.agg ⟨ts⟩, .int .i64 i] w fun u w' => Keeps [] w w' ∧ ∃ cs, u = .agg ⟨cs⟩ ∧ TreeC w0 (pAt t i) cs := by
  obtain ⟨sv, lv, uv, lcs, ucs, rfl, h1, h2, h3, h4, h5⟩ := ht.cells
  refine gives_in (ρ := en [_, _]) S.rd.mix hT (Nat.le_refl _) rfl (by simp [opBelow]) ?_
  refine s_box rfl fun w1 hx1 k1 z1 => ?_
  refine s_alloc S.got.zero fun w2 hz2 k2 z2 => ?_
  have hx1 := hx1.keep k2 (by simp)
  have k12 : Keeps [] w w2 := k1.trans k2
  obtain ⟨a, q, e⟩ := h2.form
  refine s_fl S.ty.f3 S.ty.oneTrees rfl rfl hx1 rfl (s_val (v_len (a := a) (l := t.l.length) (c := q) S.ty.sl e) ?_)
  refine s_val (v_cmp (kk := .i64) (a := i) (b := t.l.length) (r := decide ((i : Int) < t.l.length)) rfl rfl rfl) ?_
  refine s_cond (b := decide ((i : Int) < t.l.length)) rfl (fun hb => ?_) fun hb => ?_
  · have hlt : i < t.l.length := by
      have : (i : Int) < t.l.length := by simpa using hb
      omega
    refine s_fl S.ty.f3 S.ty.oneTrees rfl rfl hx1 rfl ?_
    have h2' := h2.keep (k0.trans k12)
    obtain ⟨b, o, cap, e2, hbl, hel, hcell⟩ := h2'.elem hlt (by omega)
    have htr := TreesC.get h3 hlt
    refine s_val (v_indexAddr (b := b) (o := o) (l := t.l.length) (c := cap) (j := i) (kk := .i64) S.ty.sl S.szT e2 rfl (by omega) (by omega)) ?_
    rw [Int.toNat_natCast]
    refine s_lok (l_cellN (b := b) (o := o + i * 5) S.ty.agg ext_at hel hcell) ?_
    refine s_storeAll (b := w1.heap.size) (old := zeroTree) (cs := (lcs.drop (i * 5)).take 5) (by rw [hel]; exact S.ty.agg) rfl rfl hz2 (by rw [hel]; rfl) htr.ones fun w3 h3' k3 => ?_
    have k13 : Keeps [] w w3 := ((k12.mono (by simp)).trans k3).less fun x hx => .inr (by simp only [List.mem_singleton] at hx; have := k1.size; omega)
    refine s_retAgg (b := w1.heap.size) rfl h3' (by rw [hel]; exact S.ty.agg) ⟨k13, _, rfl, ?_⟩
    have : pAt t i = t.l[i] := by unfold pAt; rw [List.getD_eq_getElem?_getD, List.getElem?_eq_getElem hlt]; rfl
    rw [this]
    exact TreesC.get h3 hlt
  · have hge : ¬ (i : Int) < t.l.length := by simpa using hb
    refine s_val (v_build (cells := zeroTree) S.got.plan (fun p hp => by cases hp) rfl) ?_
    refine s_storeAll (b := w1.heap.size) (old := zeroTree) (cs := zeroTree) S.ty.agg rfl rfl hz2 rfl (zeroTree_at w (fun _ => True)).ones fun w3 h3' k3 => ?_
    have k13 : Keeps [] w w3 := ((k12.mono (by simp)).trans k3).less fun x hx => .inr (by simp only [List.mem_singleton] at hx; have := k1.size; omega)
    refine s_retAgg (b := w1.heap.size) rfl h3' S.ty.agg ⟨k13, _, rfl, ?_⟩
    have : pAt t i = .zero := by unfold pAt; rw [List.getD_eq_getElem?_getD, List.getElem?_eq_none (by omega)]; rfl
    rw [this]
    exact TreeC.zero w0

theorem at_gives (S : SpFacts P c s) (hT : treeIn P s.at_ noOrc [.tmp 0, .tmp 1] 2 = tAt c) {t : PT} {ts : List Value} (ht : TreeC w t ts) (i : Nat) : Gives P s.at_ [.agg ⟨ts⟩, .int .i64 i] w fun u w' => Keeps [] w w' ∧ ∃ cs, u = .agg ⟨cs⟩ ∧ TreeC w' (pAt t i) cs :=
  (at0_gives S hT .refl ht i).mono fun _ _ ⟨k, cs, h1, h2⟩ => ⟨k, cs, h1, TreeC.keep k _ _ h2⟩

theorem width_gives (S : SpFacts P c s) (hT : treeIn P s.width noOrc [.tmp 0] 1 = tWidth c) (x : Int) : Yields P s.width [.int .i64 x] w (.int .i64 (pWidth x)) := by
  refine gives_in (ρ := en [_]) S.rd.mix hT (Nat.le_refl _) rfl (by simp [opBelow]) ?_
  refine s_val (v_cmp (kk := .i64) (a := x) (b := 1) (r := x == 1) rfl rfl rfl) ?_
  refine s_cond (b := x == 1) rfl (fun hb => s_ret1 ⟨by simp at hb; subst hb; rfl, .refl⟩) fun h1 => ?_
  refine s_val (v_cmp (kk := .i64) (a := x) (b := 2) (r := x == 2) rfl rfl rfl) ?_
  refine ⟨rfl, fun vs w' => vs = [.bool (x == 2 || x == 5)] ∧ w' = w, ?_, ?_⟩
  · refine s_cond (b := x == 2) rfl (fun hb => ⟨_, rfl, by simp [ev, ext, hb], rfl⟩) fun hb => ?_
    refine s_val (v_cmp (kk := .i64) (a := x) (b := 5) (r := x == 5) rfl rfl rfl) ?_
    exact ⟨_, rfl, by simp [ev, ext, hb], rfl⟩
  · rintro vs w' _ ⟨rfl, rfl⟩
    simp at h1
    refine s_cond (b := x == 2 || x == 5) rfl (fun hb => s_ret1 ⟨by simp at hb; simp [pWidth, h1, hb, ev], .refl⟩) fun hb => ?_
    refine s_val (v_cmp (kk := .i64) (a := x) (b := 3) (r := x == 3) rfl rfl rfl) ?_
    simp at hb
    refine s_cond (b := x == 3) rfl (fun h3 => s_ret1 ⟨by simp at h3; subst h3; rfl, .refl⟩) fun h3 => s_ret1 ⟨by simp at h3; simp [pWidth, h1, hb, h3, ev], .refl⟩
end
end Go.Kf
/- The reference's numbers, written. -/
namespace Go.Kf
open Go

theorem wraps_u64 (n : Int) (h0 : 0 ≤ n) (h1 : n < 2 ^ 64) : IntKind.u64.wrap n = n := by
  simp only [IntKind.wrap, IntKind.bits, IntKind.signed]
  simp
  omega

theorem and1_i64 (n : Int) : bits .and .i64 n 1 = n % 2 := by
  have h : ((BitVec.ofInt 64 n) &&& (BitVec.ofInt 64 1)).toNat = (n % 2).toNat := by
    rw [BitVec.toNat_and, BitVec.toNat_ofInt, show (BitVec.ofInt 64 1).toNat = 1 from rfl, Nat.and_one_is_mod]
    omega
  show IntKind.i64.wrap (((BitVec.ofInt 64 n) &&& (BitVec.ofInt 64 1)).toNat : Int) = n % 2
  rw [h, IntKind.wrap_i64]
  omega

theorem and127_u64 (m : Nat) (_h : m < 2 ^ 64) : bits .and .u64 m 127 = ((m % 128 : Nat) : Int) := by
  have h2 : ((BitVec.ofInt 64 (m : Int)) &&& (BitVec.ofInt 64 127)).toNat = m % 128 := by
    rw [BitVec.toNat_and, BitVec.toNat_ofInt, show (BitVec.ofInt 64 127).toNat = 2 ^ 7 - 1 from rfl, Nat.and_two_pow_sub_one_eq_mod]
    omega
  show IntKind.u64.wrap (((BitVec.ofInt 64 (m : Int)) &&& (BitVec.ofInt 64 127)).toNat : Int) = _
  rw [h2, wraps_u64 _ (by omega) (by omega)]

theorem or128_u8 (m : Nat) (h : m < 128) : bits .or .u8 m 128 = ((m + 128 : Nat) : Int) := by
  have h2 : ∀ x : Fin 128, bits .or .u8 (x.val : Int) 128 = ((x.val + 128 : Nat) : Int) := by decide +kernel
  exact h2 ⟨m, h⟩

theorem wrap_u8' (n : Int) : IntKind.u8.wrap n = n % 256 := IntKind.wrap_u8 n

/-- An octet of a number, as it stands in memory. -/
theorem octCell (n : Int) : (Value.int .u8 (IntKind.u8.wrap n)) = .int .u8 ((UInt8.ofNat (n % 256).toNat).toNat : Int) := by
  rw [wrap_u8', UInt8.toNat_ofNat']
  congr 1
  omega

theorem pFixed_length (n : Int) : ∀ k : Nat, (pFixed n k).length = k
  | 0 => rfl
  | k + 1 => by simp [pFixed, pFixed_length n k]

section
variable {P : Program} {c : Nums} {s : SN} {R : Value → World → Prop} {Γ : List (List Value → World → Prop)} {n : Nat} {ρ : Nat → Value} {w : World} {k : Tr}

/-- Octets that are made: on top of w0. -/
def MadeO (w0 w : World) (v : Value) (l : List UInt8) : Prop := Own w v 1 l.length (bcells l) ∧ (∀ b ∈ blkOf v, w0.heap.size ≤ b) ∧ Keeps [] w0 w

theorem MadeO.nil (w : World) : MadeO w w (.slice none 0 0) [] := ⟨Own.nil w 1, (fun b hb => by cases hb), .refl⟩

theorem MadeO.drawn {w0 : World} {v : Value} {l : List UInt8} (h : MadeO w0 w v l) (d : Nat) : MadeO w0 { w with drawn := d } v l := ⟨h.1.keep (keeps_drawn w [] _) (by simp), h.2.1, h.2.2.trans (keeps_drawn w [] _)⟩

theorem MadeO.more {w0 w1 : World} {v : Value} {l : List UInt8} (h : MadeO w0 w v l) (hk : Keeps [] w w1) : MadeO w0 w1 v l := ⟨h.1.keep hk (by simp), h.2.1, h.2.2.trans hk⟩

theorem MadeO.one {w0 : World} {v : Value} {l : List UInt8} (h : MadeO w0 w v l) : v.oneCell' = true := h.1.reads.one

/-- append(a, b...) of octets. -/
theorem s_appendO {x y : Operand} {v u : Value} {l1 l2 : List UInt8} {w0 : World} {Fo : List (Op × Nat)} (S : SpFacts P c s) (hx : ev ρ x = v) (hy : ev ρ y = u) (h1 : MadeO w0 w v l1) (h2 : Src P 1 c.tBytes u l2.length (bcells l2) w) (hl : (l1 ++ l2).length ≤ 1099511627776)
    (hk : ∀ v' w', MadeO w0 w' v' (l1 ++ l2) → Keeps (blkOf v) w w' → (∀ p ∈ Fo, runOp P ρ p.1 w' = .ok (.value (ρ p.2)) w') ∧ k.sem P R Γ (n + 1) (ext ρ n [v']) w') :
    (Tr.op (.call { callee := .builtin .append, args := ⟨[x, y]⟩, argTypes := ⟨[c.tBytes, c.tBytes]⟩ }) none Fo k).sem P R Γ n ρ w := by
  obtain ⟨inf, hi, hz, hsz, hb⟩ := S.zero8
  rw [List.length_append] at hl
  obtain ⟨v', w', e, ho, kk, hbl⟩ := a_append (P := P) (ρ := ρ) (w := w) (tx := c.tBytes) S.rd.bytes hi hz hsz rfl hx hy h1.1 h2 (by
    calc (l1.length + l2.length) * inf.bytes ≤ 1099511627776 * 8 := Nat.mul_le_mul hl hb
      _ ≤ 140737488355328 := by decide) (by omega)
  have s0 := h1.2.2.size
  have hm : MadeO w0 w' v' (l1 ++ l2) := ⟨by rw [List.length_append, bcells_append]; exact ho, fun b hb => (hbl b hb).elim (h1.2.1 b) fun h => by omega,
    ((h1.2.2.mono (by simp)).trans kk).less fun b hb => .inr (h1.2.1 b hb)⟩
  exact s_act e (hk v' w' hm kk).1 (hk v' w' hm kk).2

/-- []byte{x} -/
theorem s_litO {y : Operand} {b : UInt8} (S : SpFacts P c s) (hy : ev ρ y = .int .u8 (b.toNat : Int)) (hk : ∀ v' w', MadeO w w' v' [b] → k.sem P R Γ (n + 1) (ext ρ n [v']) w') :
    (Tr.op (.buildSlice c.tBytes 1 ⟨[(0, y)]⟩) none [] k).sem P R Γ n ρ w := by
  obtain ⟨inf, hi, hz, hsz, hb⟩ := S.zero8
  obtain ⟨w', e1, hh, kk, hs⟩ := a_sliceOne (P := P) (ρ := ρ) (w := w) (x := y) (z := .int .u8 0) (cs := [.int .u8 (b.toNat : Int)]) S.rd.bytes (by simp [zeroTy, hi, hz, hsz]) (by simp) (by simp) (by rw [hy]; rfl)
  refine s_act e1 (fun p hp => by cases hp) (hk _ w' ⟨⟨rfl, .inr ⟨w.heap.size, 1, [], rfl, by simpa [bcells] using hh, Nat.le_refl _, by decide, rfl⟩⟩, fun b' hb' => ?_, kk⟩)
  simp only [blkOf, List.mem_singleton] at hb'
  omega

/-- append(a, x), of an octet. -/
theorem s_pushO {x y : Operand} {v : Value} {l : List UInt8} {b : UInt8} {w0 : World} (S : SpFacts P c s) (hx : ev ρ x = v) (hbx : opBelow n x) (hy : ev ρ y = .int .u8 (b.toNat : Int)) (h1 : MadeO w0 w v l) (hl : l.length + 1 ≤ 1099511627776)
    (hk : ∀ u v' w', MadeO w0 w' v' (l ++ [b]) → k.sem P R Γ (n + 2) (ext (ext ρ n [u]) (n + 1) [v']) w') :
    (Tr.op (.buildSlice c.tBytes 1 ⟨[(0, y)]⟩) none [] <| Tr.op (.call { callee := .builtin .append, args := ⟨[x, .tmp n]⟩, argTypes := ⟨[c.tBytes, c.tBytes]⟩ }) none [] k).sem P R Γ n ρ w := by
  refine s_litO S hy fun u w1 hM => ?_
  exact s_appendO (l2 := [b]) S (by rw [ev_ext hbx]; exact hx) ext_at (h1.more hM.2.2) (hM.1.reads.src S.rd.bytes (bcells_one _)) (by simpa using hl) fun v' w2 hm kk => ⟨fun p hp => (by cases hp), hk u v' w2 hm⟩

theorem fixed_gives (S : SpFacts P c s) (hT : treeIn P s.fixed noOrc [.tmp 0, .tmp 1] 2 = tFixed c) (x : Int) (m : Nat) (hm : m ≤ 8) : YieldsO P s.fixed [.int .i64 x, .int .i64 m] w (pFixed x m) := by
  refine gives_in (ρ := en [_, _]) S.rd.mix hT (Nat.le_refl _) rfl (by simp [opBelow]) ?_
  refine s_val (v_arith (kk := .i64) (a := m) (b := 1) (r := (m : Int) - 1) rfl rfl (by simp only [arithOf, Option.some.injEq]; rw [IntKind.wrap_i64]; omega)) ?_
  refine ⟨rfl, fun vs w' => ∃ (v : Value) (j : Nat) (d : List UInt8), vs = [v, .int .i64 ((j : Int) - 1)] ∧ j ≤ m ∧ MadeO w w' v d ∧ d ++ pFixed x j = pFixed x m, fun vs _ => match vs with
    | [_, .int _ j] => (j + 1).toNat
    | _ => 0, ⟨.slice none 0 0, m, [], rfl, Nat.le_refl _, MadeO.nil w, rfl⟩, ?_⟩
  rintro _ w' _ ⟨v, j, d, rfl, hj, hM, hd⟩
  refine s_val (v_cmp (kk := .i64) (a := (j : Int) - 1) (b := 0) (r := decide ((j : Int) - 1 ≥ 0)) rfl rfl rfl) ?_
  refine s_cond (b := decide ((j : Int) - 1 ≥ 0)) rfl (fun hb => ?_) fun hb => ?_
  · obtain ⟨i, rfl⟩ : ∃ i, j = i + 1 := ⟨j - 1, by
      have : (j : Int) - 1 ≥ 0 := by simpa using hb
      omega⟩
    have hi : (((i + 1 : Nat) : Int) - 1) = (i : Int) := by omega
    rw [hi] at hb ⊢
    refine s_val (v_arith (kk := .i64) (a := 8) (b := i) (r := ((8 * i : Nat) : Int)) rfl rfl (by simp only [arithOf, Option.some.injEq]; rw [IntKind.wrap_i64]; omega)) ?_
    refine s_val (v_shr (kk := .i64) (k2 := .i64) (a := x) (j := 8 * i) rfl rfl (by simp only [IntKind.bits]; omega)) ?_
    refine s_val (v_conv (k1 := .i64) (k2 := .u8) (a := x / 2 ^ (8 * i)) S.ty.i64 S.rd.u8 rfl) ?_
    have hl : d.length + (i + 1) = m := by
      have := congrArg List.length hd
      rw [List.length_append, pFixed_length, pFixed_length] at this
      exact this
    refine s_pushO (v := v) (l := d) (b := octOf x i) (w0 := w) S rfl (by simp [opBelow]) (octCell (x / 2 ^ (8 * i))) hM (by omega) fun _ v' w2 hM2 => ?_
    refine s_val (v_arith (kk := .i64) (a := i) (b := 1) (r := (i : Int) - 1) rfl rfl (by simp only [arithOf, Option.some.injEq]; rw [IntKind.wrap_i64]; omega)) ?_
    refine ⟨_, rfl, ⟨v', i, d ++ [octOf x i], rfl, by omega, hM2, by rw [List.append_assoc]; exact hd⟩, ?_⟩
    show ((i : Int) - 1 + 1).toNat < ((i : Int) + 1).toNat
    omega
  · have h0 : j = 0 := by
      have : ¬ (j : Int) - 1 ≥ 0 := by simpa using hb
      omega
    subst h0
    rw [pFixed, List.append_nil] at hd
    subst hd
    exact s_ret1 hM

theorem uv_gives (S : SpFacts P c s) (hT : treeIn P s.uv noOrc [.tmp 0] 1 = tUv c) (x : Nat) (hx : x < 2 ^ 64) : YieldsO P s.uv [.int .u64 x] w (pUv x) := by
  refine gives_in (ρ := en [_]) S.rd.mix hT (Nat.le_refl _) rfl (by simp [opBelow]) ?_
  refine ⟨rfl, fun vs w' => ∃ (v : Value) (q m : Nat) (d : List UInt8), vs = [v, .int .u64 m] ∧ m < 128 ^ (q + 1) ∧ m < 2 ^ 64 ∧ MadeO w w' v d ∧ d ++ pUvN q m = pUv x ∧ d.length + q = 10, fun vs _ => match vs with
    | [_, .int _ j] => j.toNat
    | _ => 0, ⟨.slice none 0 0, 10, x, [], rfl, by omega, hx, MadeO.nil w, rfl, rfl⟩, ?_⟩
  rintro _ w' _ ⟨v, q, m, d, rfl, hq, hm, hM, hd, hl⟩
  refine s_val (v_cmp (kk := .u64) (a := m) (b := 127) (r := decide ((m : Int) > 127)) rfl rfl rfl) ?_
  refine s_cond (b := decide ((m : Int) > 127)) rfl (fun hb => ?_) fun hb => ?_
  · have hgt : 127 < m := by
      have : (m : Int) > 127 := by simpa using hb
      omega
    obtain ⟨p, rfl⟩ : ∃ p, q = p + 1 := by
      cases q with
      | zero => simp at hq; omega
      | succ p => exact ⟨p, rfl⟩
    refine s_val (v_bits (op := .and) (kk := .u64) (.inl rfl) rfl rfl (and127_u64 m hm)) ?_
    refine s_val (v_conv (k1 := .u64) (k2 := .u8) (a := ((m % 128 : Nat) : Int)) S.u64 S.rd.u8 rfl) ?_
    have e1 : IntKind.u8.wrap ((m % 128 : Nat) : Int) = ((m % 128 : Nat) : Int) := by rw [wrap_u8']; omega
    rw [e1]
    refine s_val (v_bits (op := .or) (kk := .u8) (.inr rfl) rfl rfl (or128_u8 (m % 128) (by omega))) ?_
    refine s_pushO (v := v) (l := d) (b := UInt8.ofNat (m % 128 + 128)) (w0 := w) S rfl (by simp [opBelow]) (show _ = Value.int .u8 (((UInt8.ofNat (m % 128 + 128)).toNat : Nat) : Int) by rw [UInt8.toNat_ofNat', Nat.mod_eq_of_lt (show m % 128 + 128 < 2 ^ 8 by omega)]; rfl) hM (by omega) fun _ v' w2 hM2 => ?_
    refine s_val (v_shr (kk := .u64) (k2 := .u64) (a := m) (j := 7) rfl rfl (by decide)) ?_
    have e2 : ((m : Int) / 2 ^ 7) = ((m / 128 : Nat) : Int) := by omega
    rw [e2]
    refine ⟨_, rfl, ⟨v', p, m / 128, d ++ [UInt8.ofNat (m % 128 + 128)], rfl, ?_, by omega, hM2, ?_, by simp; omega⟩, ?_⟩
    · rw [Nat.pow_succ] at hq
      exact Nat.div_lt_of_lt_mul (by rw [Nat.mul_comm]; exact hq)
    · rw [← hd, pUvN, if_pos hgt, List.append_assoc]
      rfl
    · show ((m / 128 : Nat) : Int).toNat < (m : Int).toNat
      omega
  · have hle : ¬ 127 < m := by
      have : ¬ (m : Int) > 127 := by simpa using hb
      omega
    refine s_val (v_conv (k1 := .u64) (k2 := .u8) (a := (m : Int)) S.u64 S.rd.u8 rfl) ?_
    have e1 : IntKind.u8.wrap (m : Int) = (m : Int) := by rw [wrap_u8']; omega
    rw [e1]
    refine s_pushO (v := v) (l := d) (b := UInt8.ofNat m) (w0 := w) S rfl (by simp [opBelow]) (show _ = Value.int .u8 (((UInt8.ofNat m).toNat : Nat) : Int) by rw [UInt8.toNat_ofNat', Nat.mod_eq_of_lt (show m < 2 ^ 8 by omega)]; rfl) hM (by omega) fun _ v' w2 hM2 => ?_
    have hfin : d ++ [UInt8.ofNat m] = pUv x := by
      rw [← hd]
      cases q with
      | zero => rfl
      | succ p => rw [pUvN, if_neg hle]
    rw [hfin] at hM2
    exact s_ret1 hM2

theorem pUvN_length : ∀ (q m : Nat), (pUvN q m).length ≤ q + 1
  | 0, _ => by simp [pUvN]
  | q + 1, m => by
    rw [pUvN]
    split
    · have := pUvN_length q (m / 128); simp; omega
    · simp

theorem pUv_length (m : Nat) : (pUv m).length ≤ 11 := pUvN_length 10 m

theorem counted_gives (S : SpFacts P c s) (hF : ∀ (w : World) (x : Int) (m : Nat), m ≤ 8 → YieldsO P s.fixed [.int .i64 x, .int .i64 m] w (pFixed x m)) (hU : ∀ (w : World) (x : Nat), x < 2 ^ 64 → YieldsO P s.uv [.int .u64 x] w (pUv x))
    (hT : treeIn P s.counted noOrc [.tmp 0, .tmp 1, .tmp 2, .tmp 3] 4 = tCounted c s) (fl nu : Bool) (x m : Nat) (hx : x < 2 ^ 62) (hm : m ≤ 8) : YieldsO P s.counted [.bool fl, .bool nu, .int .i64 x, .int .i64 m] w (pCounted fl nu x m) := by
  refine gives_in (ρ := en [_, _, _, _]) S.rd.mix hT (Nat.le_refl _) rfl (by simp [opBelow]) ?_
  have hlen : ∀ {k2 : Tr}, (∀ (u1 u2 : Value), k2.sem P (fun u w' => Own w' u 1 (pUv (x + 1)).length (bcells (pUv (x + 1))) ∧ (∀ b ∈ blkOf u, w.heap.size ≤ b) ∧ Keeps [] w w') [] 6 (ext (ext (en [.bool fl, .bool nu, .int .i64 x, .int .i64 m]) 4 [.int .u64 x]) 5 [.int .u64 ((x + 1 : Nat) : Int)]) w) →
      (Tr.op (.convert c.tInt c.tU64 (.tmp 2)) none [] <| Tr.op (.binOp .add c.tU64 (.tmp 4) (.const (.int .u64 1)) c.tU64) none [] k2).sem P (fun u w' => Own w' u 1 (pUv (x + 1)).length (bcells (pUv (x + 1))) ∧ (∀ b ∈ blkOf u, w.heap.size ≤ b) ∧ Keeps [] w w') [] 4 (en [.bool fl, .bool nu, .int .i64 x, .int .i64 m]) w := fun hk2 => by
    refine s_val (v_conv (k1 := .i64) (k2 := .u64) (a := (x : Int)) S.rd.int S.u64 rfl) ?_
    rw [wraps_u64 _ (by omega) (by omega)]
    refine s_val (v_arith (kk := .u64) (a := x) (b := 1) (r := ((x + 1 : Nat) : Int)) rfl rfl ?_) (hk2 undef undef)
    simp only [arithOf, Option.some.injEq]; rw [wraps_u64 _ (by omega) (by omega)]; omega
  cases fl
  · refine s_cond (b := false) rfl (fun h => by cases h) fun _ => ?_
    refine s_cond (b := false) rfl (fun h => by cases h) fun _ => ?_
    cases nu
    · refine s_cond (b := false) rfl (fun h => by cases h) fun _ => ?_
      exact s_callx (hF w x m hm) rfl fun v w' h => s_ret1 h
    · refine s_cond (b := true) rfl (fun _ => ?_) fun h => by cases h
      exact s_callx (hF w (-1) m hm) rfl fun v w' h => s_ret1 h
  · refine s_cond (b := true) rfl (fun _ => ?_) fun h => by cases h
    cases nu
    · refine s_cond (b := false) rfl (fun h => by cases h) fun _ => ?_
      refine s_cond (b := true) rfl (fun _ => ?_) fun h => by cases h
      exact hlen fun _ _ => s_callx (hU w (x + 1) (by omega)) rfl fun v w' h => s_ret1 h
    · refine s_cond (b := true) rfl (fun _ => ?_) fun h => by cases h
      exact s_litO (b := 0) S rfl fun v' w1 hM => s_ret1 hM
end
end Go.Kf
/- The reference's writing of values and fields. -/
namespace Go.Kf
open Go

def tValue (c : Nums) (s : SN) : Tr :=
  .op (.box c.sTree (.tmp 5)) none [] <|
  .op (.binOp .eql c.tInt (.tmp 0) (.const (.int .i64 0)) c.tInt) none [] <|
  .cond (.tmp 7) (
    .op (.fieldAddr c.sTree (.tmp 6) 0) none [] <|
    .op (.load c.tI64 (.tmp 8)) none [] <|
    .op (.binOp .and c.tI64 (.tmp 9) (.const (.int .i64 1)) c.tI64) none [] <|
    .op (.convert c.tI64 c.tU8 (.tmp 10)) none [] <|
    .op (.buildSlice c.tBytes 1 ⟨[(0, (.tmp 11))]⟩) none [] <|
    .ret [((.tmp 12), none)]
  ) (
    .op (.binOp .eql c.tInt (.tmp 0) (.const (.int .i64 7)) c.tInt) none [] <|
    .cond (.tmp 8) (
      .op (.makeSlice c.tBytes (.const (.int .i64 16)) (.const (.int .i64 16))) none [] <|
      .op (.fieldAddr c.sTree (.tmp 6) 1) none [] <|
      .op (.load c.tBytes (.tmp 10)) none [] <|
      .op (.call { callee := (.builtin .copy), args := ⟨[(.tmp 9), (.tmp 11)]⟩, argTypes := ⟨[c.tBytes, c.tBytes]⟩ }) none [] <|
      .ret [((.tmp 9), none)]
    ) (
      .op (.binOp .eql c.tInt (.tmp 0) (.const (.int .i64 8)) c.tInt) none [] <|
      .cond (.tmp 9) (
        .op (.fieldAddr c.sTree (.tmp 6) 1) none [] <|
        .op (.load c.tBytes (.tmp 10)) none [] <|
        .op (callOp s.whole [(.tmp 11)]) none [] <|
        .join 0 (
          .cond (.tmp 2) (
            .to 0 [(.const (.slice none 0 0))]
          ) (
            .to 0 [(.tmp 12)]
          )
        ) 1 <|
        .op (.call { callee := (.builtin .len), args := ⟨[(.tmp 13)]⟩, argTypes := ⟨[c.tBytes]⟩ }) none [] <|
        .op (callOp s.counted [(.tmp 4), (.tmp 2), (.tmp 14), (.const (.int .i64 2))]) none [] <|
        .op (.call { callee := (.builtin .append), args := ⟨[(.tmp 15), (.tmp 13)]⟩, argTypes := ⟨[c.tBytes, c.tBytes]⟩ }) none [] <|
        .ret [((.tmp 16), none)]
      ) (
        .op (.binOp .eql c.tInt (.tmp 0) (.const (.int .i64 9)) c.tInt) none [] <|
        .cond (.tmp 10) (
          .op (.fieldAddr c.sTree (.tmp 6) 1) none [] <|
          .op (.load c.tBytes (.tmp 11)) none [] <|
          .op (callOp s.whole [(.tmp 12)]) none [] <|
          .join 0 (
            .cond (.tmp 2) (
              .to 0 [(.const (.slice none 0 0))]
            ) (
              .to 0 [(.tmp 13)]
            )
          ) 1 <|
          .op (.call { callee := (.builtin .len), args := ⟨[(.tmp 14)]⟩, argTypes := ⟨[c.tBytes]⟩ }) none [] <|
          .op (callOp s.counted [(.tmp 4), (.tmp 2), (.tmp 15), (.const (.int .i64 4))]) none [] <|
          .op (.call { callee := (.builtin .append), args := ⟨[(.tmp 16), (.tmp 14)]⟩, argTypes := ⟨[c.tBytes, c.tBytes]⟩ }) none [] <|
          .ret [((.tmp 17), none)]
        ) (
          .op (.binOp .eql c.tInt (.tmp 0) (.const (.int .i64 10)) c.tInt) none [] <|
          .cond (.tmp 11) (
            .op (.load c.sTree (.tmp 6)) none [] <|
            .op (callOp s.part [(.tmp 1), (.tmp 3), (.tmp 4), (.tmp 12)]) none [] <|
            .ret [((.tmp 13), none)]
          ) (
            .draw <|
            .pur (.fieldAddr c.sTree (.tmp 6) 0) none <|
            .lok (.load c.tI64 (.tmp 12)) none <|
            .op (callOp s.width [(.tmp 0)]) none [((.load c.tI64 (.tmp 12)), 13)] <|
            .op (callOp s.fixed [(.tmp 13), (.tmp 14)]) none [] <|
            .ret [((.tmp 15), none)]
          )
        )
      )
    )
  )

def tField (c : Nums) (s : SN) : Tr :=
  .op (.box s.field (.tmp 0)) none [] <|
  .op (.box c.sTree (.tmp 3)) none [] <|
  .op (.load s.field (.tmp 4)) none [] <|
  .op (.load c.sTree (.tmp 5)) none [] <|
  .op (callOp s.null [(.tmp 6), (.tmp 1), (.tmp 7)]) none [] <|
  .op (.fieldAddr s.field (.tmp 4) 0) none [] <|
  .op (.load c.tInt (.tmp 9)) none [] <|
  .op (.binOp .eql c.tInt (.tmp 10) (.const (.int .i64 11)) c.tInt) none [] <|
  .cond (.tmp 11) (
    .op (.fieldAddr c.sTree (.tmp 5) 3) none [] <|
    .op (.load c.sTrees (.tmp 12)) none [] <|
    .op (callOp s.things [(.tmp 13)]) none [] <|
    .join 0 (
      .cond (.tmp 8) (
        .to 0 [(.const (.slice none 0 0))]
      ) (
        .to 0 [(.tmp 14)]
      )
    ) 1 <|
    .op (.call { callee := (.builtin .len), args := ⟨[(.tmp 15)]⟩, argTypes := ⟨[c.sTrees]⟩ }) none [] <|
    .op (callOp s.counted [(.tmp 2), (.tmp 8), (.tmp 16), (.const (.int .i64 4))]) none [] <|
    .op (.call { callee := (.builtin .len), args := ⟨[(.tmp 15)]⟩, argTypes := ⟨[c.sTrees]⟩ }) none [] <|
    .loop 0 [(.tmp 17), (.const (.int .i64 0))] <|
    .op (.binOp .lss c.tInt (.tmp 20) (.tmp 18) c.tInt) none [] <|
    .cond (.tmp 21) (
      .draw <|
      .pur (.fieldAddr s.field (.tmp 4) 6) none <|
      .lok (.load c.tInt (.tmp 22)) none <|
      .pur (.fieldAddr s.field (.tmp 4) 7) none <|
      .lok (.load s.fields (.tmp 24)) none <|
      .pur (.indexAddr c.sTrees (.tmp 15) (.tmp 20)) none <|
      .lok (.load c.sTree (.tmp 26)) none <|
      .op (callOp s.value [(.tmp 23), (.tmp 25), (.const (.bool false)), (.tmp 1), (.tmp 2), (.tmp 27)]) none [] <|
      .op (.call { callee := (.builtin .append), args := ⟨[(.tmp 19), (.tmp 28)]⟩, argTypes := ⟨[c.tBytes, c.tBytes]⟩ }) none [] <|
      .op (.binOp .add c.tInt (.tmp 20) (.const (.int .i64 1)) c.tInt) none [] <|
      .to 0 [(.tmp 29), (.tmp 30)]
    ) (
      .ret [((.tmp 19), none)]
    )
  ) (
    .op (.fieldAddr s.field (.tmp 4) 0) none [] <|
    .op (.load c.tInt (.tmp 12)) none [] <|
    .op (.binOp .eql c.tInt (.tmp 13) (.const (.int .i64 10)) c.tInt) none [] <|
    .cond (.tmp 14) (
      .op (.fieldAddr s.field (.tmp 4) 3) none [] <|
      .op (.load c.tInt (.tmp 15)) none [] <|
      .op (.binOp .geq c.tInt (.tmp 16) (.const (.int .i64 0)) c.tInt) none [] <|
      .cond (.tmp 17) (
        .cond (.tmp 8) (
          .op (callOp s.fixed [(.const (.int .i64 (-1))), (.const (.int .i64 1))]) none [] <|
          .ret [((.tmp 18), none)]
        ) (
          .draw <|
          .pur (.fieldAddr s.field (.tmp 4) 7) none <|
          .lok (.load s.fields (.tmp 18)) none <|
          .lok (.load c.sTree (.tmp 5)) none <|
          .op (callOp s.fixed [(.const (.int .i64 1)), (.const (.int .i64 1))]) none [((.load c.sTree (.tmp 5)), 20), ((.load s.fields (.tmp 18)), 19)] <|
          .op (callOp s.part [(.tmp 19), (.tmp 1), (.tmp 2), (.tmp 20)]) none [] <|
          .op (.call { callee := (.builtin .append), args := ⟨[(.tmp 21), (.tmp 22)]⟩, argTypes := ⟨[c.tBytes, c.tBytes]⟩ }) none [] <|
          .ret [((.tmp 23), none)]
        )
      ) (
        .op (.fieldAddr s.field (.tmp 4) 0) none [] <|
        .op (.load c.tInt (.tmp 18)) none [] <|
        .op (.fieldAddr s.field (.tmp 4) 7) none [] <|
        .op (.load s.fields (.tmp 20)) none [] <|
        .op (.load c.sTree (.tmp 5)) none [] <|
        .op (callOp s.value [(.tmp 19), (.tmp 21), (.tmp 8), (.tmp 1), (.tmp 2), (.tmp 22)]) none [] <|
        .ret [((.tmp 23), none)]
      )
    ) (
      .op (.fieldAddr s.field (.tmp 4) 0) none [] <|
      .op (.load c.tInt (.tmp 15)) none [] <|
      .op (.fieldAddr s.field (.tmp 4) 7) none [] <|
      .op (.load s.fields (.tmp 17)) none [] <|
      .op (.load c.sTree (.tmp 5)) none [] <|
      .op (callOp s.value [(.tmp 16), (.tmp 18), (.tmp 8), (.tmp 1), (.tmp 2), (.tmp 19)]) none [] <|
      .ret [((.tmp 20), none)]
    )
  )

def tWrite (c : Nums) (s : SN) : Tr :=
  .op (.box s.msg (.tmp 0)) none [] <|
  .op (.box c.sTree (.tmp 2)) none [] <|
  .op (.fieldAddr s.msg (.tmp 3) 0) none [] <|
  .op (.load s.fields (.tmp 5)) none [] <|
  .op (.fieldAddr s.msg (.tmp 3) 1) none [] <|
  .op (.load c.tInt (.tmp 7)) none [] <|
  .op (.binOp .geq c.tInt (.tmp 8) (.const (.int .i64 0)) c.tInt) none [] <|
  .cond (.tmp 9) (
    .op (.fieldAddr s.msg (.tmp 3) 1) none [] <|
    .op (.load c.tInt (.tmp 10)) none [] <|
    .op (.binOp .geq c.tInt (.tmp 1) (.tmp 11) c.tInt) none [] <|
    .op (.load c.sTree (.tmp 4)) none [] <|
    .op (callOp s.part [(.tmp 6), (.tmp 1), (.tmp 12), (.tmp 13)]) none [] <|
    .ret [((.tmp 14), none)]
  ) (
    .op (.load c.sTree (.tmp 4)) none [] <|
    .op (callOp s.part [(.tmp 6), (.tmp 1), (.const (.bool false)), (.tmp 10)]) none [] <|
    .ret [((.tmp 11), none)]
  )

mutual
/-- What a tree says fits its kinds. -/
def PT.ok : PT → Prop
  | .mk n _ _ l u => IntKind.i64.wrap n = n ∧ (∀ p ∈ u, p.1 < 4294967296) ∧ PT.oks l
def PT.oks : List PT → Prop
  | [] => True
  | t :: r => t.ok ∧ PT.oks r
end

theorem PT.oks_mem : ∀ {l : List PT}, PT.oks l → ∀ t ∈ l, t.ok
  | [], _, t, h => by cases h
  | x :: l, ⟨h1, h2⟩, t, h => by
    rcases List.mem_cons.1 h with rfl | h
    · exact h1
    · exact PT.oks_mem h2 t h

theorem PT.oks_of : ∀ {l : List PT}, (∀ t ∈ l, t.ok) → PT.oks l
  | [], _ => trivial
  | x :: l, h => ⟨h x (by simp), PT.oks_of fun t ht => h t (by simp [ht])⟩

theorem PT.ok_zero : PT.zero.ok := ⟨by decide, (fun p hp => by cases hp), trivial⟩

theorem PT.ok.l {t : PT} (h : t.ok) : ∀ x ∈ t.l, x.ok := by
  cases t
  exact PT.oks_mem h.2.2

theorem PT.ok.at {t : PT} (h : t.ok) (i : Nat) : (pAt t i).ok := by
  unfold pAt
  rw [List.getD_eq_getElem?_getD]
  by_cases hi : i < t.l.length
  · rw [List.getElem?_eq_getElem hi]; exact h.l _ (List.getElem_mem hi)
  · rw [List.getElem?_eq_none (by omega)]; exact PT.ok_zero

theorem PT.ok.u {t : PT} (h : t.ok) : ∀ p ∈ t.u, p.1 < 4294967296 := by
  cases t
  exact h.2.1

theorem PT.ok.n {t : PT} (h : t.ok) : IntKind.i64.wrap t.n = t.n := by
  cases t
  exact h.1

/-- How long what is written may get. -/
def maxW : Nat := 1099511627776

section
variable {P : Program} {c : Nums} {s : SN} {R : Value → World → Prop} {Γ : List (List Value → World → Prop)} {n : Nat} {ρ : Nat → Value} {w : World} {k : Tr}

def PartOf (P : Program) (s : SN) (fs : List PF) : Prop := ∀ (w : World) (fv : Value) (v : Int) (fl : Bool) (t : PT) (ts : List Value), FieldsV w fs fv → TreeC w t ts → t.ok → (pPart fs v fl t).length ≤ maxW → YieldsO P s.part [fv, .int .i64 v, .bool fl, .agg ⟨ts⟩] w (pPart fs v fl t)

def FieldOf (P : Program) (s : SN) (f : PF) : Prop := ∀ (w : World) (v : Int) (fl : Bool) (t : PT) (cs ts : List Value), FieldC w f cs → TreeC w t ts → t.ok → (pField f v fl t).length ≤ maxW → YieldsO P s.fld [.agg ⟨cs⟩, .int .i64 v, .bool fl, .agg ⟨ts⟩] w (pField f v fl t)

/-- The reference's small functions. -/
structure Smalls (P : Program) (s : SN) : Prop where
  has : ∀ (w : World) (f : PF) (cs : List Value) (v : Int), FieldC w f cs → Yields P s.has [.agg ⟨cs⟩, .int .i64 v] w (.bool (pHas f v))
  null : ∀ (w : World) (f : PF) (t : PT) (cs ts : List Value) (v : Int), FieldC w f cs → TreeC w t ts → Yields P s.null [.agg ⟨cs⟩, .int .i64 v, .agg ⟨ts⟩] w (.bool (pNull f v t))
  whole : ∀ (w : World) (v : Value) (l : List UInt8), Ro w v 1 l.length (bcells l) → Gives P s.whole [v] w fun u w' => w' = w ∧ ∀ w0, Ro w0 v 1 l.length (bcells l) → Ro w0 u 1 (pWhole l).length (bcells (pWhole l))
  things : ∀ (w : World) (v : Value) (l : List PT) (cs : List Value), Ro w v 5 l.length cs → TreesC w l cs → Gives P s.things [v] w fun u w' => w' = w ∧ ∃ cs', Ro w u 5 (pThings l).length cs' ∧ TreesC w (pThings l) cs'
  at_ : ∀ (w : World) (t : PT) (ts : List Value) (i : Nat), TreeC w t ts → Gives P s.at_ [.agg ⟨ts⟩, .int .i64 i] w fun u w' => Keeps [] w w' ∧ ∃ cs, u = .agg ⟨cs⟩ ∧ TreeC w' (pAt t i) cs
  width : ∀ (w : World) (x : Int), Yields P s.width [.int .i64 x] w (.int .i64 (pWidth x))
  fixed : ∀ (w : World) (x : Int) (m : Nat), m ≤ 8 → YieldsO P s.fixed [.int .i64 x, .int .i64 m] w (pFixed x m)
  uv : ∀ (w : World) (x : Nat), x < 2 ^ 64 → YieldsO P s.uv [.int .u64 x] w (pUv x)
  counted : ∀ (w : World) (fl nu : Bool) (x m : Nat), x < 2 ^ 62 → m ≤ 8 → YieldsO P s.counted [.bool fl, .bool nu, .int .i64 x, .int .i64 m] w (pCounted fl nu x m)

theorem pWidth_le (k : Int) : pWidth k ≤ 8 := by
  unfold pWidth
  split
  · omega
  · split
    · omega
    · split <;> omega

/-- A call whose value is new octets. -/
theorem s_callO {f : Nat} {xs : List Operand} {args : List Value} {l : List UInt8} {Fo : List (Op × Nat)} (h : YieldsO P f args w l) (hx : xs.map (ev ρ) = args)
    (hk : ∀ v w', MadeO w w' v l → (∀ p ∈ Fo, runOp P ρ p.1 w' = .ok (.value (ρ p.2)) w') ∧ k.sem P R Γ (n + 1) (ext ρ n [v]) w') : (Tr.op (callOp f xs) none Fo k).sem P R Γ n ρ w := by
  subst hx
  exact s_call h fun v w' hp => hk v w' hp

/-- make([]byte, 16), and what is copied there. -/
theorem s_id {v : Value} {l : List UInt8} {b o : Nat} {bc : List Value} {p : Operand} (S : SpFacts P c s) (hp : ev ρ p = ptr b o) (hbp : opBelow n p) (hh : Has w b bc) (hv : bc[o + 1]? = some v) (hr : Ro w v 1 l.length (bcells l))
    (hk : ∀ v' w', MadeO w w' v' (pId l) → k.sem P R Γ (n + 4) (ext (ext (ext (ext ρ n [v']) (n + 1) [ptr b (o + 1)]) (n + 2) [v]) (n + 3) [goInt (Nat.min l.length 16)]) w') :
    (Tr.op (.makeSlice c.tBytes (.const (.int .i64 16)) (.const (.int .i64 16))) none [] <| Tr.op (.fieldAddr c.sTree p 1) none [] <| Tr.op (.load c.tBytes (.tmp (n + 1))) none [] <|
      Tr.op (.call { callee := .builtin .copy, args := ⟨[.tmp n, .tmp (n + 2)]⟩, argTypes := ⟨[c.tBytes, c.tBytes]⟩ }) none [] k).sem P R Γ n ρ w := by
  obtain ⟨inf, hi, hz, hsz, hb⟩ := S.zero8
  obtain ⟨w1, e1, h1, k1, z1⟩ := a_makeSlice (P := P) (ρ := ρ) (w := w) (x := .const (.int .i64 16)) (y := .const (.int .i64 16)) S.rd.bytes hi hz (by rw [hsz]; rfl) (by omega) rfl rfl (by decide) (by decide) (by omega) (by decide)
  refine s_act e1 (fun p hp => (by cases hp)) ?_
  have hh1 := hh.keep k1 (by simp)
  refine s_fl S.ty.f1 S.rd.oneBytes (by rw [ev_ext hbp]; exact hp) rfl hh1 hv ?_
  have hr1 := hr.keep k1
  have hy : ev (ext (ext (ext ρ n [.slice (some ⟨w.heap.size, 0, none⟩) 16 16]) (n + 1) [ptr b (o + 1)]) (n + 2) [v]) (.tmp (n + 2)) = v := ext_at
  have hx : ev (ext (ext (ext ρ n [.slice (some ⟨w.heap.size, 0, none⟩) 16 16]) (n + 1) [ptr b (o + 1)]) (n + 2) [v]) (.tmp n) = .slice (some ⟨w.heap.size, 0, none⟩) 16 16 := by
    show ext _ _ _ n = _
    rw [ext_lt (by omega), ext_lt (by omega)]; exact ext_at
  have hz16 : (List.replicate (16 : Int).toNat (Value.int .u8 0).cells.toList).flatten = List.replicate 16 (Value.int .u8 0) := rfl
  rw [hz16] at h1
  obtain ⟨w2, h2, h3, h4⟩ := storeCells_run (P := P) ((bcells l).take 16) w1 w.heap.size 0 0 _ h1 (by simp; omega) fun u hu => bcells_one l u (List.mem_of_mem_take hu)
  have hlo : (Builtin.lenOf v).run P w1 = .ok l.length w1 := by
    obtain ⟨a, cp, rfl⟩ := hr.form
    rfl
  have hfc : (Builtin.firstCells 1 (Nat.min l.length 16) v).run P w1 = .ok ⟨(bcells l).take 16⟩ w1 := by
    by_cases h0 : l.length = 0
    · have : l = [] := List.eq_nil_of_length_eq_zero h0
      subst this
      obtain ⟨a, cp, rfl⟩ := hr.form
      cases a <;> simp [Builtin.firstCells, bcells, loadCells, loadCellsFrom]
    · obtain ⟨b2, o2, cap, e2, _, hcell⟩ := hr1.at (by omega)
      subst e2
      have hm : Nat.min l.length 16 * 1 ≤ l.length := by rw [Nat.mul_one]; exact Nat.min_le_left _ _
      have h5 := loadCellsFrom_cells (P := P) (w := w1) (b := b2) (o := o2) (xs := bcells l) (fun i hi => hcell i (by rw [bcells_length] at hi; omega)) (Nat.min l.length 16 * 1) 0 #[] (by rw [bcells_length]; omega)
      unfold Builtin.firstCells
      show (loadCells ⟨b2, o2, none⟩ _).run P w1 = _
      unfold loadCells
      rw [h5]
      congr 1
      apply Array.ext'
      simp only [List.drop_zero, Array.toList_append, List.nil_append, Nat.mul_one]
      rw [show (16 : Nat) = 16 from rfl, List.take_eq_take_iff, bcells_length]
      exact Nat.min_assoc _ _ _ |>.trans (by rw [Nat.min_comm 16 l.length, ← Nat.min_assoc, Nat.min_self])
  have e3 : runOp P (ext (ext (ext ρ n [.slice (some ⟨w.heap.size, 0, none⟩) 16 16]) (n + 1) [ptr b (o + 1)]) (n + 2) [v]) (.call { callee := .builtin .copy, args := ⟨[.tmp n, .tmp (n + 2)]⟩, argTypes := ⟨[c.tBytes, c.tBytes]⟩ }) w1 = .ok (.value (goInt (Nat.min l.length 16))) w2 := by
    have e1 : (Array.map (ev (ext (ext (ext ρ n [.slice (some ⟨w.heap.size, 0, none⟩) 16 16]) (n + 1) [ptr b (o + 1)]) (n + 2) [v])) ⟨[.tmp n, .tmp (n + 2)]⟩ : Array Value) = ⟨[.slice (some ⟨w.heap.size, 0, none⟩) 16 16, v]⟩ := by
      simp only [List.map_toArray, List.map_cons, List.map_nil, hx, hy]
    unfold runOp bareOp
    simp only [execOp, resolve, pure_bind, invoke, builtin, Sem.run_bind, e1]
    unfold Builtin.copy_
    simp [run_under S.rd.bytes, size_run S.rd.szU8, hlo, hfc, h2]
  refine s_act e3 (fun p hp => (by cases hp)) (hk _ w2 ⟨⟨?_, .inr ⟨w.heap.size, 16, [], ?_, ?_, ?_, by decide, ?_⟩⟩, fun b' hb' => ?_, ?_⟩)
  · rw [bcells_length, Nat.mul_one]
  · have : (pId l).length = 16 := by simp [pId]
    rw [this]; rfl
  · have : splice (List.replicate 16 (Value.int .u8 0)) 0 ((bcells l).take 16) = bcells (pId l) ++ [] := by
      have hrep : (List.replicate 16 (Value.int .u8 0)) = bcells (List.replicate 16 0) := by simp [bcells]
      rw [hrep, List.append_nil, bcells_take]
      unfold splice pId
      rw [List.take_zero, List.nil_append, Nat.zero_add, bcells_drop, ← bcells_append, bcells_length]
      congr 1
      rw [List.take_append, List.take_replicate, List.drop_replicate]
      congr 2
      rw [List.length_take]
      omega
    rw [← this]
    exact h3
  · simp [pId]
  · simp [pId, bcells_length]
  · simp only [blkOf, List.mem_singleton] at hb'
    omega
  · exact ((k1.mono (by simp)).trans h4).less fun b hb => .inr (by simp only [List.mem_singleton] at hb; omega)

theorem pCounted_length (fl nu : Bool) (x m : Nat) : (pCounted fl nu x m).length ≤ m + 11 := by
  unfold pCounted
  split
  · split
    · simp
    · have := pUv_length (x + 1); omega
  · split <;> rw [pFixed_length] <;> omega

/-- A count, and octets. -/
theorem pText_length (fl nu : Bool) (l : List UInt8) (m : Nat) (hm : m ≤ 8) : (pCounted fl nu (pWhole l).length m ++ pWhole l).length ≤ maxW := by
  have h1 := pCounted_length fl nu (pWhole l).length m
  have h2 : (pWhole l).length ≤ 32767 := by unfold pWhole; rw [List.length_take]; omega
  rw [List.length_append]
  unfold maxW
  omega

/-- What is written of a text, or octets: from the null, or the whole, on. -/
theorem sem_text {w0 : World} {u : Value} {l : List UInt8} {nu fl : Bool} {m : Nat} {xv : Nat} (S : SpFacts P c s) (Q : Smalls P s) (hm : m ≤ 8) (h5 : 5 ≤ n) (hx : ρ xv = u) (h2 : ρ 2 = .bool nu) (h4 : ρ 4 = .bool fl) (hk0 : Keeps [] w0 w) (hu : Ro w u 1 (pWhole l).length (bcells (pWhole l)))
    (hR : ∀ v w', MadeO w0 w' v (let s := if nu then [] else pWhole l; pCounted fl nu s.length m ++ s) → R v w') :
    (Tr.join 0 (.cond (.tmp 2) (.to 0 [.const (.slice none 0 0)]) (.to 0 [.tmp xv])) 1 <|
      Tr.op (.call { callee := .builtin .len, args := ⟨[.tmp n]⟩, argTypes := ⟨[c.tBytes]⟩ }) none [] <|
      Tr.op (callOp s.counted [.tmp 4, .tmp 2, .tmp (n + 1), .const (.int .i64 m)]) none [] <|
      Tr.op (.call { callee := .builtin .append, args := ⟨[.tmp (n + 2), .tmp n]⟩, argTypes := ⟨[c.tBytes, c.tBytes]⟩ }) none [] <| .ret [(.tmp (n + 3), none)]).sem P R [] n ρ w := by
  refine ⟨rfl, fun vs w' => w' = w ∧ ∃ v, vs = [v] ∧ Ro w v 1 (if nu then [] else pWhole l).length (bcells (if nu then [] else pWhole l)), ?_, ?_⟩
  · refine s_cond (b := nu) h2 (fun hb => ⟨_, rfl, rfl, _, rfl, ?_⟩) fun hb => ⟨_, rfl, rfl, _, rfl, ?_⟩
    · rw [hb]; exact Ro.nil w 1
    · rw [hb]
      show Ro w (ρ xv) 1 _ _
      rw [hx]
      exact hu
  · rintro vs w' _ ⟨rfl, v, rfl, hr⟩
    have hlen : (if nu then [] else pWhole l).length ≤ 32767 := by
      split
      · simp
      · unfold pWhole; rw [List.length_take]; omega
    obtain ⟨a, cp, e⟩ := hr.form
    refine s_val (v_len (a := a) (l := (if nu then [] else pWhole l).length) (c := cp) S.rd.bytes (ext_at.trans e)) ?_
    refine s_callO (Q.counted w' fl nu (if nu then [] else pWhole l).length m (by omega) hm) ?_ fun v2 w2 hM => ⟨fun p hp => (by cases hp), ?_⟩
    · have e4 : ev (ext (ext ρ n [v]) (n + 1) [.int .i64 ((if nu then [] else pWhole l).length : Nat)]) (.tmp 4) = .bool fl := by show ext _ _ _ 4 = _; rw [ext_lt (by omega), ext_lt (by omega)]; exact h4
      have e2 : ev (ext (ext ρ n [v]) (n + 1) [.int .i64 ((if nu then [] else pWhole l).length : Nat)]) (.tmp 2) = .bool nu := by show ext _ _ _ 2 = _; rw [ext_lt (by omega), ext_lt (by omega)]; exact h2
      have e1 : ev (ext (ext ρ n [v]) (n + 1) [.int .i64 ((if nu then [] else pWhole l).length : Nat)]) (.tmp (n + 1)) = .int .i64 ((if nu then [] else pWhole l).length : Nat) := ext_at
      simp only [List.map_cons, List.map_nil, e4, e2, e1]
      rfl
    · have hM0 : MadeO w0 w2 v2 _ := ⟨hM.1, fun b hb => Nat.le_trans hk0.size (hM.2.1 b hb), hk0.trans hM.2.2⟩
      have ev1 : ev (ext (ext (ext ρ n [v]) (n + 1) [.int .i64 ((if nu then [] else pWhole l).length : Nat)]) (n + 2) [v2]) (.tmp n) = v := by show ext _ _ _ n = _; rw [ext_lt (by omega), ext_lt (by omega)]; exact ext_at
      refine s_appendO (v := v2) (u := v) (l2 := if nu then [] else pWhole l) S ext_at ev1 hM0 ((hr.keep hM.2.2).src S.rd.bytes (bcells_one _)) ?_ fun v3 w3 hM3 _ => ⟨fun p hp => (by cases hp), s_ret1 (hR _ _ ?_)⟩
      · have := pCounted_length fl nu (if nu then [] else pWhole l).length m
        rw [List.length_append]
        omega
      · show MadeO w0 w3 (ext _ _ _ _) _
        rw [ext_at]
        exact hM3

theorem value_gives (S : SpFacts P c s) (Q : Smalls P s) (hT : treeIn P s.value noOrc [.tmp 0, .tmp 1, .tmp 2, .tmp 3, .tmp 4, .tmp 5] 6 = tValue c s) {sub : List PF} (hP : PartOf P s sub) {fv : Value} {t : PT} {ts : List Value} (kind : Int) (nu fl : Bool) (v : Int) (hf : FieldsV w sub fv) (ht : TreeC w t ts) (hok : t.ok)
    (hl : (pValue (fun y => pPart sub v fl y) kind nu fl t).length ≤ maxW) : YieldsO P s.value [.int .i64 kind, fv, .bool nu, .int .i64 v, .bool fl, .agg ⟨ts⟩] w (pValue (fun y => pPart sub v fl y) kind nu fl t) := by
  have htc := ht
  obtain ⟨sv, lv, uv, lcs, ucs, rfl, h1, h2, h3, h4, h5⟩ := ht.cells
  refine gives_in (ρ := en [_, _, _, _, _, _]) S.rd.mix hT (Nat.le_refl _) rfl (by simp [opBelow]) ?_
  unfold pValue at hl ⊢
  refine s_box rfl fun w1 hx1 k1 z1 => ?_
  refine s_val (v_cmp (kk := .i64) (a := kind) (b := 0) (r := kind == 0) rfl rfl rfl) ?_
  refine s_cond (b := kind == 0) rfl (fun hb => ?_) fun hb => ?_
  · rw [if_pos (by simpa using hb)]
    refine s_fl S.ty.f0 S.ty.oneI64 rfl rfl hx1 rfl ?_
    refine s_val (v_bits (op := .and) (kk := .i64) (.inl rfl) rfl rfl (and1_i64 t.n)) ?_
    refine s_val (v_conv (k1 := .i64) (k2 := .u8) (a := t.n % 2) S.ty.i64 S.rd.u8 rfl) ?_
    refine s_litO (b := UInt8.ofNat (t.n % 2).toNat) S ?_ fun v' w2 hM => s_ret1 ⟨hM.1, fun b hb => Nat.le_trans k1.size (hM.2.1 b hb), k1.trans hM.2.2⟩
    show Value.int .u8 (IntKind.u8.wrap (t.n % 2)) = _
    rw [wrap_u8', UInt8.toNat_ofNat']
    congr 1
    omega
  rw [if_neg (by simpa using hb)] at hl ⊢
  refine s_val (v_cmp (kk := .i64) (a := kind) (b := 7) (r := kind == 7) rfl rfl rfl) ?_
  refine s_cond (b := kind == 7) rfl (fun hb => ?_) fun hb => ?_
  · rw [if_pos (by simpa using hb)]
    refine s_id (v := sv) (l := t.s) (b := w.heap.size) (o := 0) S rfl (by simp [opBelow]) hx1 rfl (h1.keep k1) fun v' w2 hM => s_ret1 ⟨hM.1, fun b hb => Nat.le_trans k1.size (hM.2.1 b hb), k1.trans hM.2.2⟩
  rw [if_neg (by simpa using hb)] at hl ⊢
  refine s_val (v_cmp (kk := .i64) (a := kind) (b := 8) (r := kind == 8) rfl rfl rfl) ?_
  refine s_cond (b := kind == 8) rfl (fun hb => ?_) fun hb => ?_
  · rw [if_pos (by simpa using hb)]
    refine s_fl S.ty.f1 S.rd.oneBytes rfl rfl hx1 rfl ?_
    refine s_callx (Q.whole w1 sv t.s (h1.keep k1)) rfl fun u w2 ⟨hw, hu⟩ => ?_
    subst hw
    exact sem_text (w0 := w) (xv := 12) S Q (by decide) (by decide) rfl rfl rfl k1 (hu _ (h1.keep k1)) fun v w' h => h
  rw [if_neg (by simpa using hb)] at hl ⊢
  refine s_val (v_cmp (kk := .i64) (a := kind) (b := 9) (r := kind == 9) rfl rfl rfl) ?_
  refine s_cond (b := kind == 9) rfl (fun hb => ?_) fun hb => ?_
  · rw [if_pos (by simpa using hb)]
    refine s_fl S.ty.f1 S.rd.oneBytes rfl rfl hx1 rfl ?_
    refine s_callx (Q.whole w1 sv t.s (h1.keep k1)) rfl fun u w2 ⟨hw, hu⟩ => ?_
    subst hw
    exact sem_text (w0 := w) (xv := 13) S Q (by decide) (by decide) rfl rfl rfl k1 (hu _ (h1.keep k1)) fun v w' h => h
  rw [if_neg (by simpa using hb)] at hl ⊢
  refine s_val (v_cmp (kk := .i64) (a := kind) (b := 10) (r := kind == 10) rfl rfl rfl) ?_
  refine s_cond (b := kind == 10) rfl (fun hb => ?_) fun hb => ?_
  · rw [if_pos (by simpa using hb)] at hl ⊢
    refine s_lok (l_loadN (b := w.heap.size) (o := 0) S.ty.agg rfl hx1 (show 0 + 5 ≤ 5 by omega)) ?_
    refine s_callO (hP w1 fv v fl t _ (hf.keep k1) (TreeC.keep k1 _ _ htc) hok hl) rfl fun v' w2 hM => ⟨fun p hp => (by cases hp), s_ret1 ⟨hM.1, fun b hb => Nat.le_trans k1.size (hM.2.1 b hb), k1.trans hM.2.2⟩⟩
  rw [if_neg (by simpa using hb)] at hl ⊢
  show Tr.sem _ _ _ _ _ _ { w1 with drawn := w1.drawn + 1 }
  have hd : Keeps [] w1 { w1 with drawn := w1.drawn + 1 } := keeps_drawn w1 _ _
  generalize ({ w1 with drawn := w1.drawn + 1 } : World) = w2 at hd ⊢
  have hx2 := hx1.keep hd (by simp)
  refine p_fl S.ty.f0 S.ty.oneI64 rfl rfl hx2 rfl ?_
  refine s_call (xs := [.tmp 0]) (Q.width w2 kind) fun u w3 ⟨hu, k3⟩ => ⟨?_, ?_⟩
  · intro p hp
    simp only [List.mem_singleton] at hp
    subst hp
    exact l_load1 (b := w.heap.size) (o := 0) S.ty.oneI64 rfl (hx2.keep k3 (by simp)) rfl
  · subst hu
    refine s_callO (Q.fixed w3 t.n (pWidth kind) (pWidth_le kind)) rfl fun v' w4 hM => ⟨fun p hp => (by cases hp), s_ret1 ?_⟩
    have k03 := (k1.trans hd).trans k3
    exact ⟨hM.1, fun b hb => Nat.le_trans k03.size (hM.2.1 b hb), k03.trans hM.2.2⟩
end
end Go.Kf
/- The reference's writing of a field. -/
namespace Go.Kf
open Go

section
variable {P : Program} {c : Nums} {s : SN} {R : Value → World → Prop} {Γ : List (List Value → World → Prop)} {n : Nat} {ρ : Nat → Value} {w : World} {k : Tr}

theorem MadeO.under {w0 w1 : World} {v : Value} {l : List UInt8} (h : MadeO w1 w v l) (hk : Keeps [] w0 w1) : MadeO w0 w v l := ⟨h.1, fun b hb => Nat.le_trans hk.size (h.2.1 b hb), hk.trans h.2.2⟩

def ValueOf (P : Program) (s : SN) (sub : List PF) : Prop := ∀ (w : World) (fv : Value) (t : PT) (ts : List Value) (kind : Int) (nu fl : Bool) (v : Int), FieldsV w sub fv → TreeC w t ts → t.ok → (pValue (fun y => pPart sub v fl y) kind nu fl t).length ≤ maxW →
  YieldsO P s.value [.int .i64 kind, fv, .bool nu, .int .i64 v, .bool fl, .agg ⟨ts⟩] w (pValue (fun y => pPart sub v fl y) kind nu fl t)

theorem flatten_take {f : PT → List UInt8} {l : List PT} {j : Nat} (hj : j < l.length) : ((l.take (j + 1)).map f).flatten = ((l.take j).map f).flatten ++ f l[j] := by
  rw [List.take_succ_eq_append_getElem hj, List.map_append, List.flatten_append]
  simp

theorem flatten_le {f : PT → List UInt8} {l : List PT} (j : Nat) : ((l.take j).map f).flatten.length ≤ (l.map f).flatten.length := by
  have h : (l.map f).flatten = ((l.take j).map f).flatten ++ ((l.drop j).map f).flatten := by
    rw [← List.flatten_append, ← List.map_append, List.take_append_drop]
  rw [h, List.length_append]
  omega

theorem field_step (S : SpFacts P c s) (Q : Smalls P s) (hT : treeIn P s.fld noOrc [.tmp 0, .tmp 1, .tmp 2, .tmp 3] 4 = tField c s) {f : PF} (hV : ValueOf P s f.sub) (hP : PartOf P s f.sub) : FieldOf P s f := by
  intro w v fl t cs ts hfc ht hok hl
  rw [pField_eq] at hl ⊢
  have hfc0 := hfc
  obtain ⟨fv, rfl, hfs⟩ := hfc.cells
  have htc := ht
  obtain ⟨sv, lv, uv, lcs, ucs, rfl, h1, h2, h3, h4, h5⟩ := ht.cells
  refine gives_in (ρ := en [_, _, _, _]) S.rd.mix hT (Nat.le_refl _) rfl (by simp [opBelow]) ?_
  refine s_box rfl fun w1 hx1 k1 z1 => ?_
  refine s_box rfl fun w2 hy2 k2 z2 => ?_
  have hx2 := hx1.keep k2 (by simp)
  have k02 : Keeps [] w w2 := k1.trans k2
  refine s_lok (l_loadN (b := w.heap.size) (o := 0) S.agg rfl hx2 (show 0 + 8 ≤ 8 by omega)) ?_
  refine s_lok (l_loadN (b := w1.heap.size) (o := 0) S.ty.agg rfl hy2 (show 0 + 5 ≤ 5 by omega)) ?_
  refine s_callx (Q.null w2 f t _ _ v (FieldC.keep k02 _ _ hfc0) (TreeC.keep k02 _ _ htc)) rfl fun u w3 ⟨hu, k3⟩ => ?_
  subst hu
  have k03 := k02.trans k3
  have hx3 := hx2.keep k3 (by simp)
  have hy3 := hy2.keep k3 (by simp)
  refine s_fl S.f0 S.oneInt rfl rfl hx3 rfl ?_
  refine s_val (v_cmp (kk := .i64) (a := f.kind) (b := 11) (r := f.kind == 11) rfl rfl rfl) ?_
  unfold pFieldOf at hl ⊢
  simp only at hl ⊢
  refine s_cond (b := f.kind == 11) rfl (fun hb => ?_) fun hb => ?_
  · rw [if_pos (by simpa using hb)] at hl ⊢
    refine s_fl S.ty.f3 S.ty.oneTrees rfl rfl hy3 rfl ?_
    refine s_callx (Q.things w3 lv t.l lcs (h2.keep k03) (TreesC.keep k03 _ _ h3)) rfl fun u w4 ⟨hw, tcs, hr, htr⟩ => ?_
    subst hw
    generalize hll : (if pNull f v t = true then [] else pThings t.l) = l at hl ⊢
    have hl7 : l.length ≤ 32767 := by
      rw [← hll]
      split
      · simp
      · unfold pThings; rw [List.length_take]; omega
    have hlok : ∀ x ∈ l, x.ok := by
      intro x hx
      rw [← hll] at hx
      split at hx
      · cases hx
      · exact hok.l x (List.mem_of_mem_take hx)
    refine ⟨rfl, fun vs w' => w' = w4 ∧ ∃ u, vs = [u] ∧ ∃ cs', Ro w4 u 5 l.length cs' ∧ TreesC w4 l cs', ?_, ?_⟩
    · refine s_cond (b := pNull f v t) rfl (fun hb => ⟨_, rfl, rfl, _, rfl, ?_⟩) fun hb => ⟨_, rfl, rfl, _, rfl, ?_⟩
      · rw [hb] at hll
        subst hll
        exact ⟨[], Ro.nil w4 5, rfl⟩
      · rw [hb] at hll
        subst hll
        exact ⟨tcs, hr, htr⟩
    · rintro vs w' _ ⟨rfl, u, rfl, cs', hr', htr'⟩
      obtain ⟨a, cp, e⟩ := hr'.form
      refine s_val (v_len (a := a) (l := l.length) (c := cp) S.ty.sl e) ?_
      refine s_callO (Q.counted w' fl (pNull f v t) l.length 4 (by omega) (by decide)) rfl fun v2 w5 hM => ⟨fun p hp => (by cases hp), ?_⟩
      refine s_val (v_len (a := a) (l := l.length) (c := cp) S.ty.sl e) ?_
      have k35 := hM.2.2
      refine s_countV (n := 19) (q := 18) (kk := .i64) (m := l.length) (ri := [.tmp 17]) (Γ := []) (fun j vr w'' => ∃ acc, vr = [acc] ∧ MadeO w' w'' acc (pCounted fl (pNull f v t) l.length 4 ++ ((l.take j).map fun x => pValue (fun y => pPart f.sub v fl y) f.elem false fl x).flatten)) (by omega) rfl
        ⟨v2, rfl, by simpa using hM⟩ ?_ ?_
      · rintro j hj w6 vr ⟨acc, rfl, hA⟩ hvr J hJ
        have hj' : j < l.length := by omega
        show Tr.sem _ _ _ _ _ _ { w6 with drawn := w6.drawn + 1 }
        have hd : Keeps [] w6 { w6 with drawn := w6.drawn + 1 } := keeps_drawn w6 _ _
        have hA7 := hA.drawn (w6.drawn + 1)
        generalize ({ w6 with drawn := w6.drawn + 1 } : World) = w7 at hd hA7 ⊢
        have k37 : Keeps [] w' w7 := hA.2.2.trans hd
        have k07 := k03.trans k37
        have hx7 := hx3.keep k37 (by simp)
        refine p_fl S.f6 S.oneInt rfl rfl hx7 rfl ?_
        refine p_fl S.f7 S.oneFields rfl rfl hx7 rfl ?_
        obtain ⟨b, o, cap, e2, hbl, hel, hcell⟩ := (hr'.keep k37).elem hj' (by omega)
        have htj := TreesC.get (TreesC.keep k37 _ _ htr') hj'
        refine p_val (v_indexAddr (b := b) (o := o) (l := l.length) (c := cap) (j := j) (kk := .i64) S.ty.sl S.szT e2 rfl (by omega) (by omega)) ?_
        rw [Int.toNat_natCast]
        refine l_lok (l_cellN (b := b) (o := o + j * 5) S.ty.agg ext_at hel hcell) ?_
        rw [List.length_append] at hl
        have hle1 := flatten_le (f := fun x => pValue (fun y => pPart f.sub v fl y) f.elem false fl x) (l := l) (j + 1)
        rw [flatten_take hj', List.length_append] at hle1
        have hlj : (pValue (fun y => pPart f.sub v fl y) f.elem false fl l[j]).length ≤ maxW := by omega
        refine s_callO (hV w7 fv l[j] _ f.elem false fl v (hfs.keep k07) htj (hlok _ (List.getElem_mem hj')) hlj) rfl fun v3 w8 hM8 => ⟨fun p hp => (by cases hp), ?_⟩
        refine s_appendO (v := acc) (u := v3) (l2 := pValue (fun y => pPart f.sub v fl y) f.elem false fl l[j]) S rfl rfl (hA7.more hM8.2.2) (hM8.1.reads.src S.rd.bytes (bcells_one _)) (by simp only [List.length_append, maxW] at hl hle1 ⊢; omega) fun v4 w9 hM9 _ => ⟨fun p hp => (by cases hp), ?_⟩
        refine s_val (v_arith (kk := .i64) (a := j) (b := 1) (r := ((j + 1 : Nat) : Int)) rfl rfl ?_) ?_
        · simp only [arithOf, Option.some.injEq]; rw [IntKind.wrap_i64]; omega
        refine ⟨J, rfl, hJ [v4] _ rfl ⟨v4, rfl, ?_⟩⟩
        · rw [flatten_take hj', ← List.append_assoc]
          exact hM9
      · rintro w6 vr J ⟨acc, rfl, hA⟩ hvr
        rw [Int.toNat_natCast, List.take_length] at hA
        exact s_ret1 (hA.under k03)
  · have hne : ¬ f.kind = 11 := by simpa using hb
    rw [if_neg hne] at hl ⊢
    refine s_fl S.f0 S.oneInt rfl rfl hx3 rfl ?_
    refine s_val (v_cmp (kk := .i64) (a := f.kind) (b := 10) (r := f.kind == 10) rfl rfl rfl) ?_
    refine s_cond (b := f.kind == 10) rfl (fun hb2 => ?_) fun hb2 => ?_
    · have h10 : f.kind = 10 := by simpa using hb2
      refine s_fl S.f3 S.oneInt rfl rfl hx3 rfl ?_
      refine s_val (v_cmp (kk := .i64) (a := f.nul) (b := 0) (r := decide (f.nul ≥ 0)) rfl rfl rfl) ?_
      refine s_cond (b := decide (f.nul ≥ 0)) rfl (fun hb3 => ?_) fun hb3 => ?_
      · rw [if_pos ⟨h10, by simpa using hb3⟩] at hl ⊢
        refine s_cond (b := pNull f v t) rfl (fun hb4 => ?_) fun hb4 => ?_
        · rw [if_pos hb4]
          exact s_callO (Q.fixed w3 (-1) 1 (by decide)) rfl fun v2 w4 hM => ⟨fun p hp => (by cases hp), s_ret1 (hM.under k03)⟩
        · rw [if_neg (by simp [hb4])] at hl ⊢
          show Tr.sem _ _ _ _ _ _ { w3 with drawn := w3.drawn + 1 }
          have hd : Keeps [] w3 { w3 with drawn := w3.drawn + 1 } := keeps_drawn w3 _ _
          generalize ({ w3 with drawn := w3.drawn + 1 } : World) = w4 at hd ⊢
          have hx4 := hx3.keep hd (by simp)
          have hy4 := hy3.keep hd (by simp)
          have k04 := k03.trans hd
          refine p_fl S.f7 S.oneFields rfl rfl hx4 rfl ?_
          refine l_lok (l_loadN (b := w1.heap.size) (o := 0) S.ty.agg rfl hy4 (show 0 + 5 ≤ 5 by omega)) ?_
          refine s_callO (Q.fixed w4 1 1 (by decide)) rfl fun v2 w5 hM => ⟨fun p hp => ?_, ?_⟩
          · simp only [List.mem_cons, List.not_mem_nil, or_false] at hp
            rcases hp with rfl | rfl
            · exact l_loadN (b := w1.heap.size) (o := 0) S.ty.agg rfl (hy4.keep hM.2.2 (by simp)) (show 0 + 5 ≤ 5 by omega)
            · exact l_load1 (b := w.heap.size) (o := 7) S.oneFields rfl (hx4.keep hM.2.2 (by simp)) rfl
          · have k05 := k04.trans hM.2.2
            rw [List.length_append] at hl
            refine s_callO (hP w5 fv v fl t _ (hfs.keep k05) (TreeC.keep k05 _ _ htc) hok (by omega)) rfl fun v3 w6 hM6 => ⟨fun p hp => (by cases hp), ?_⟩
            exact s_appendO (v := v2) (u := v3) (l2 := pPart f.sub v fl t) S rfl rfl ((hM.under k04).more hM6.2.2) (hM6.1.reads.src S.rd.bytes (bcells_one _)) (by rw [List.length_append]; exact hl) fun v4 w9 hM9 _ => ⟨fun p hp => (by cases hp), s_ret1 hM9⟩
      · rw [if_neg (fun hh => by simp at hb3; omega)] at hl ⊢
        refine s_fl S.f0 S.oneInt rfl rfl hx3 rfl (s_fl S.f7 S.oneFields rfl rfl hx3 rfl ?_)
        refine s_lok (l_loadN (b := w1.heap.size) (o := 0) S.ty.agg rfl hy3 (show 0 + 5 ≤ 5 by omega)) ?_
        exact s_callO (hV w3 fv t _ f.kind (pNull f v t) fl v (hfs.keep k03) (TreeC.keep k03 _ _ htc) hok hl) rfl fun v2 w4 hM => ⟨fun p hp => (by cases hp), s_ret1 (hM.under k03)⟩
    · rw [if_neg (fun hh => by simp at hb2; omega)] at hl ⊢
      refine s_fl S.f0 S.oneInt rfl rfl hx3 rfl (s_fl S.f7 S.oneFields rfl rfl hx3 rfl ?_)
      refine s_lok (l_loadN (b := w1.heap.size) (o := 0) S.ty.agg rfl hy3 (show 0 + 5 ≤ 5 by omega)) ?_
      exact s_callO (hV w3 fv t _ f.kind (pNull f v t) fl v (hfs.keep k03) (TreeC.keep k03 _ _ htc) hok hl) rfl fun v2 w4 hM => ⟨fun p hp => (by cases hp), s_ret1 (hM.under k03)⟩
end
end Go.Kf
/- The reference's writing of a part: of fields without tags. -/
namespace Go.Kf
open Go

def tPart (c : Nums) (s : SN) : Tr :=
  .op (.box c.sTree (.tmp 3)) none [] <|
  .op (.call { callee := (.builtin .len), args := ⟨[(.tmp 0)]⟩, argTypes := ⟨[s.fields]⟩ }) none [] <|
  .loop 0 [(.const (.slice none 0 0)), (.const (.int .i64 0))] <|
  .op (.binOp .lss c.tInt (.tmp 7) (.tmp 5) c.tInt) none [] <|
  .cond (.tmp 8) (
    .op (.indexAddr s.fields (.tmp 0) (.tmp 7)) none [] <|
    .op (.load s.field (.tmp 9)) none [] <|
    .op (.alloc s.field) none [] <|
    .op (.store s.field (.tmp 11) (.tmp 10)) none [] <|
    .op (.fieldAddr s.field (.tmp 11) 4) none [] <|
    .op (.load c.tInt (.tmp 13)) none [] <|
    .op (.binOp .lss c.tInt (.tmp 14) (.const (.int .i64 0)) c.tInt) none [] <|
    .cond (.tmp 15) (
      .op (.load s.field (.tmp 11)) none [] <|
      .op (callOp s.has [(.tmp 16), (.tmp 1)]) none [] <|
      .join 1 (
        .cond (.tmp 17) (
          .draw <|
          .lok (.load s.field (.tmp 11)) none <|
          .lok (.load c.sTree (.tmp 4)) none <|
          .op (callOp s.at_ [(.tmp 19), (.tmp 7)]) none [((.load s.field (.tmp 11)), 18)] <|
          .op (callOp s.fld [(.tmp 18), (.tmp 1), (.tmp 2), (.tmp 20)]) none [] <|
          .op (.call { callee := (.builtin .append), args := ⟨[(.tmp 6), (.tmp 21)]⟩, argTypes := ⟨[c.tBytes, c.tBytes]⟩ }) none [] <|
          .to 1 [(.tmp 22)]
        ) (
          .to 1 [(.tmp 6)]
        )
      ) 1 <|
      .op (.binOp .add c.tInt (.tmp 7) (.const (.int .i64 1)) c.tInt) none [] <|
      .to 0 [(.tmp 18), (.tmp 19)]
    ) (
      .op (.binOp .add c.tInt (.tmp 7) (.const (.int .i64 1)) c.tInt) none [] <|
      .to 0 [(.tmp 6), (.tmp 16)]
    )
  ) (
    .op (.unOp .not c.tBool (.tmp 2)) none [] <|
    .cond (.tmp 9) (
      .ret [((.tmp 6), none)]
    ) (
      .op (callOp s.known [(.tmp 0)]) none [] <|
      .op (.convert c.tU32 c.tInt (.tmp 10)) none [] <|
      .loop 1 [(.const (.slice none 0 0)), (.const (.int .i64 0)), (.const (.int .i64 0))] <|
      .op (.binOp .lss c.tInt (.tmp 14) (.tmp 11) c.tInt) none [] <|
      .cond (.tmp 15) (
        .op (.call { callee := (.builtin .len), args := ⟨[(.tmp 0)]⟩, argTypes := ⟨[s.fields]⟩ }) none [] <|
        .loop 2 [(.tmp 12), (.tmp 13), (.const (.int .i64 0))] <|
        .op (.binOp .lss c.tInt (.tmp 19) (.tmp 16) c.tInt) none [] <|
        .cond (.tmp 20) (
          .op (.indexAddr s.fields (.tmp 0) (.tmp 19)) none [] <|
          .op (.load s.field (.tmp 21)) none [] <|
          .op (.alloc s.field) none [] <|
          .op (.store s.field (.tmp 23) (.tmp 22)) none [] <|
          .draw <|
          .pur (.fieldAddr s.field (.tmp 23) 4) none <|
          .lok (.load c.tInt (.tmp 25)) none <|
          .pur (.binOp .eql c.tInt (.tmp 26) (.tmp 14) c.tInt) none <|
          .cond (.tmp 27) (
            .lok (.load s.field (.tmp 23)) none <|
            .lok (.load c.sTree (.tmp 4)) none <|
            .op (callOp s.at_ [(.tmp 29), (.tmp 19)]) none [((.load s.field (.tmp 23)), 28), ((.load c.tInt (.tmp 25)), 26)] <|
            .op (callOp s.usual [(.tmp 28), (.tmp 30)]) none [((.load c.tInt (.tmp 25)), 26)] <|
            .pur (.unOp .not c.tBool (.tmp 31)) none <|
            .join 3 (
              .cond (.tmp 32) (
                .draw <|
                .lok (.load s.field (.tmp 23)) none <|
                .lok (.load c.sTree (.tmp 4)) none <|
                .op (callOp s.at_ [(.tmp 34), (.tmp 19)]) none [((.load s.field (.tmp 23)), 33)] <|
                .op (callOp s.fld [(.tmp 33), (.tmp 1), (.tmp 2), (.tmp 35)]) none [] <|
                .op (.convert c.tInt c.tU64 (.tmp 14)) none [] <|
                .op (callOp s.uv [(.tmp 37)]) none [] <|
                .op (.call { callee := (.builtin .append), args := ⟨[(.tmp 17), (.tmp 38)]⟩, argTypes := ⟨[c.tBytes, c.tBytes]⟩ }) none [] <|
                .op (.call { callee := (.builtin .len), args := ⟨[(.tmp 36)]⟩, argTypes := ⟨[c.tBytes]⟩ }) none [] <|
                .op (.convert c.tInt c.tU64 (.tmp 40)) none [] <|
                .op (callOp s.uv [(.tmp 41)]) none [] <|
                .op (.call { callee := (.builtin .append), args := ⟨[(.tmp 39), (.tmp 42)]⟩, argTypes := ⟨[c.tBytes, c.tBytes]⟩ }) none [] <|
                .op (.call { callee := (.builtin .append), args := ⟨[(.tmp 43), (.tmp 36)]⟩, argTypes := ⟨[c.tBytes, c.tBytes]⟩ }) none [] <|
                .op (.binOp .add c.tInt (.tmp 18) (.const (.int .i64 1)) c.tInt) none [] <|
                .to 3 [(.tmp 44), (.tmp 45)]
              ) (
                .to 3 [(.tmp 17), (.tmp 18)]
              )
            ) 2 <|
            .op (.binOp .add c.tInt (.tmp 19) (.const (.int .i64 1)) c.tInt) none [] <|
            .to 2 [(.tmp 33), (.tmp 34), (.tmp 35)]
          ) (
            .op (.binOp .add c.tInt (.tmp 19) (.const (.int .i64 1)) c.tInt) none [] <|
            .to 2 [(.tmp 17), (.tmp 18), (.tmp 28)]
          )
        ) (
          .op (.binOp .add c.tInt (.tmp 14) (.const (.int .i64 1)) c.tInt) none [] <|
          .to 1 [(.tmp 17), (.tmp 18), (.tmp 21)]
        )
      ) (
        .op (.fieldAddr c.sTree (.tmp 4) 4) none [] <|
        .op (.load c.sTagL (.tmp 16)) none [] <|
        .op (callOp s.unknown [(.tmp 0), (.tmp 17)]) none [] <|
        .op (.call { callee := (.builtin .len), args := ⟨[(.tmp 18)]⟩, argTypes := ⟨[c.sTagL]⟩ }) none [] <|
        .loop 2 [(.tmp 12), (.tmp 13), (.const (.int .i64 0))] <|
        .op (.binOp .lss c.tInt (.tmp 22) (.tmp 19) c.tInt) none [] <|
        .cond (.tmp 23) (
          .op (.indexAddr c.sTagL (.tmp 18) (.tmp 22)) none [] <|
          .op (.load c.sTag (.tmp 24)) none [] <|
          .op (.alloc c.sTag) none [] <|
          .op (.store c.sTag (.tmp 26) (.tmp 25)) none [] <|
          .op (.fieldAddr c.sTag (.tmp 26) 1) none [] <|
          .op (.load c.tBytes (.tmp 28)) none [] <|
          .op (callOp s.whole [(.tmp 29)]) none [] <|
          .op (.fieldAddr c.sTag (.tmp 26) 0) none [] <|
          .op (.load c.tU32 (.tmp 31)) none [] <|
          .op (.convert c.tU32 c.tU64 (.tmp 32)) none [] <|
          .op (callOp s.uv [(.tmp 33)]) none [] <|
          .op (.call { callee := (.builtin .append), args := ⟨[(.tmp 20), (.tmp 34)]⟩, argTypes := ⟨[c.tBytes, c.tBytes]⟩ }) none [] <|
          .op (.call { callee := (.builtin .len), args := ⟨[(.tmp 30)]⟩, argTypes := ⟨[c.tBytes]⟩ }) none [] <|
          .op (.convert c.tInt c.tU64 (.tmp 36)) none [] <|
          .op (callOp s.uv [(.tmp 37)]) none [] <|
          .op (.call { callee := (.builtin .append), args := ⟨[(.tmp 35), (.tmp 38)]⟩, argTypes := ⟨[c.tBytes, c.tBytes]⟩ }) none [] <|
          .op (.call { callee := (.builtin .append), args := ⟨[(.tmp 39), (.tmp 30)]⟩, argTypes := ⟨[c.tBytes, c.tBytes]⟩ }) none [] <|
          .op (.binOp .add c.tInt (.tmp 21) (.const (.int .i64 1)) c.tInt) none [] <|
          .op (.binOp .add c.tInt (.tmp 22) (.const (.int .i64 1)) c.tInt) none [] <|
          .to 2 [(.tmp 40), (.tmp 41), (.tmp 42)]
        ) (
          .op (.convert c.tInt c.tU64 (.tmp 21)) none [] <|
          .op (callOp s.uv [(.tmp 24)]) none [] <|
          .op (.call { callee := (.builtin .append), args := ⟨[(.tmp 6), (.tmp 25)]⟩, argTypes := ⟨[c.tBytes, c.tBytes]⟩ }) none [] <|
          .op (.call { callee := (.builtin .append), args := ⟨[(.tmp 26), (.tmp 20)]⟩, argTypes := ⟨[c.tBytes, c.tBytes]⟩ }) none [] <|
          .ret [((.tmp 27), none)]
        )
      )
    )
  )

def tKnown (c : Nums) (s : SN) : Tr :=
  .op (.call { callee := (.builtin .len), args := ⟨[(.tmp 0)]⟩, argTypes := ⟨[s.fields]⟩ }) none [] <|
  .loop 0 [(.const (.int .u32 0)), (.const (.int .i64 0))] <|
  .op (.binOp .lss c.tInt (.tmp 3) (.tmp 1) c.tInt) none [] <|
  .cond (.tmp 4) (
    .op (.indexAddr s.fields (.tmp 0) (.tmp 3)) none [] <|
    .op (.load s.field (.tmp 5)) none [] <|
    .op (.alloc s.field) none [] <|
    .op (.store s.field (.tmp 7) (.tmp 6)) none [] <|
    .op (.fieldAddr s.field (.tmp 7) 4) none [] <|
    .op (.load c.tInt (.tmp 9)) none [] <|
    .op (.binOp .geq c.tInt (.tmp 10) (.const (.int .i64 0)) c.tInt) none [] <|
    .join 1 (
      .cond (.tmp 11) (
        .op (.fieldAddr s.field (.tmp 7) 4) none [] <|
        .op (.load c.tInt (.tmp 12)) none [] <|
        .op (.convert c.tInt c.tU32 (.tmp 13)) none [] <|
        .op (.binOp .add c.tU32 (.tmp 14) (.const (.int .u32 1)) c.tU32) none [] <|
        .op (.call { callee := (.builtin .max), args := ⟨[(.tmp 2), (.tmp 15)]⟩, argTypes := ⟨[c.tU32, c.tU32]⟩ }) none [] <|
        .to 1 [(.tmp 16)]
      ) (
        .to 1 [(.tmp 2)]
      )
    ) 1 <|
    .op (.binOp .add c.tInt (.tmp 3) (.const (.int .i64 1)) c.tInt) none [] <|
    .to 0 [(.tmp 12), (.tmp 13)]
  ) (
    .ret [((.tmp 2), none)]
  )

mutual
/-- No field has a tag, nor has one within. -/
def PF.plain : PF → Bool
  | .mk k _ _ _ g _ e sub => decide (g < 0) && decide (sub.length < 65536) && (!decide (k = 11) || !decide (e = 11)) && PF.plains sub
def PF.plains : List PF → Bool
  | [] => true
  | f :: r => f.plain && PF.plains r
end

theorem PF.plains_mem : ∀ {l : List PF}, PF.plains l = true → ∀ f ∈ l, f.plain = true
  | [], _, f, h => by cases h
  | x :: l, hl, f, h => by
    simp only [PF.plains, Bool.and_eq_true] at hl
    rcases List.mem_cons.1 h with rfl | h
    · exact hl.1
    · exact PF.plains_mem hl.2 f h

theorem PF.plain_tag {f : PF} (h : f.plain = true) : f.tag < 0 := by
  cases f
  simp only [PF.plain, Bool.and_eq_true, decide_eq_true_eq] at h
  exact h.1.1.1

theorem PF.plain_sub {f : PF} (h : f.plain = true) : PF.plains f.sub = true := by
  cases f
  simp only [PF.plain, Bool.and_eq_true] at h
  exact h.2

theorem PF.plain_len {f : PF} (h : f.plain = true) : f.sub.length < 65536 := by
  cases f
  simp only [PF.plain, Bool.and_eq_true, decide_eq_true_eq] at h
  exact h.1.1.2

theorem PF.plain_elem {f : PF} (h : f.plain = true) (h11 : f.kind = 11) : f.elem ≠ 11 := by
  cases f
  simp only [PF.plain, Bool.and_eq_true, decide_eq_true_eq] at h
  intro he
  have h1 := h.1.2
  simp only [PF.kind, PF.elem] at h11 he
  rw [h11, he] at h1
  simp at h1

theorem pKnown_plain : ∀ {fs : List PF} (n : Nat), (∀ f ∈ fs, f.tag < 0) → pKnown fs n = n
  | [], _, _ => rfl
  | f :: r, n, h => by
    have := h f (by simp)
    rw [pKnown, if_neg (by omega)]
    exact pKnown_plain n fun g hg => h g (by simp [hg])

theorem pTagged_plain : ∀ {fs : List PF} (v : Int) (fl : Bool) (t : PT) (i : Nat), (∀ f ∈ fs, f.tag < 0) → pTagged fs v fl t i = []
  | [], _, _, _, _, _ => by rw [pTagged]
  | f :: r, v, fl, t, i, h => by
    have := h f (by simp)
    rw [pTagged, if_neg (by omega), List.nil_append]
    exact pTagged_plain v fl t (i + 1) fun g hg => h g (by simp [hg])

/-- What is written of a part without tags. -/
theorem pPart_plain {fs : List PF} (h : ∀ f ∈ fs, f.tag < 0) (v : Int) (fl : Bool) (t : PT) : pPart fs v fl t = pPlain fs v fl t 0 ++ if fl then pUv (pUnknown fs t.u).length ++ pTags (pUnknown fs t.u) else [] := by
  unfold pPart
  rw [pTagged_plain v fl t 0 h, pEnd]
  cases fl
  · rfl
  · have : ((List.range (pKnown fs 0)).flatMap fun (k : Nat) => ([] : List (Int × List UInt8)).filter fun p => p.1 == (k : Int)) = [] := by simp
    simp only [this, if_true]
    simp

def pOne (f : PF) (v : Int) (fl : Bool) (t : PT) : List UInt8 := if decide (f.tag < 0) && pHas f v then pField f v fl t else []

theorem pPlain_cons (f : PF) (r : List PF) (v : Int) (fl : Bool) (t : PT) (i : Nat) : pPlain (f :: r) v fl t i = pOne f v fl (pAt t i) ++ pPlain r v fl t (i + 1) := by rw [pPlain]; rfl

theorem pPlain_take : ∀ {fs : List PF} {j : Nat} (v : Int) (fl : Bool) (t : PT) (i : Nat) (hj : j < fs.length), pPlain (fs.take (j + 1)) v fl t i = pPlain (fs.take j) v fl t i ++ pOne fs[j] v fl (pAt t (i + j))
  | f :: r, 0, v, fl, t, i, _ => by
    simp only [List.take_succ_cons, List.take_zero, pPlain_cons, List.getElem_cons_zero, Nat.add_zero]
    rw [pPlain, pPlain]; simp
  | f :: r, j + 1, v, fl, t, i, hj => by
    rw [List.take_succ_cons, pPlain_cons, pPlain_take v fl t (i + 1) (by simpa using hj), List.take_succ_cons, pPlain_cons, List.append_assoc, List.getElem_cons_succ, show i + 1 + j = i + (j + 1) by omega]

theorem pPlain_append : ∀ (a b : List PF) (v : Int) (fl : Bool) (t : PT) (i : Nat), pPlain (a ++ b) v fl t i = pPlain a v fl t i ++ pPlain b v fl t (i + a.length)
  | [], b, v, fl, t, i => by simp [pPlain]
  | f :: r, b, v, fl, t, i => by rw [List.cons_append, pPlain_cons, pPlain_cons, pPlain_append r b, List.append_assoc, List.length_cons, show i + 1 + r.length = i + (r.length + 1) by omega]

theorem pPlain_le (fs : List PF) (j : Nat) (v : Int) (fl : Bool) (t : PT) : (pPlain (fs.take j) v fl t 0).length ≤ (pPlain fs v fl t 0).length := by
  conv => rhs; rw [← List.take_append_drop j fs, pPlain_append, List.length_append]
  omega

theorem pTags_take {m : TM} {j : Nat} (hj : j < m.length) : pTags (m.take (j + 1)) = pTags (m.take j) ++ pTag1 m[j].1 (pWhole m[j].2) := by
  unfold pTags
  rw [List.take_succ_eq_append_getElem hj, List.map_append, List.flatten_append]
  simp

theorem pTags_le (m : TM) (j : Nat) : (pTags (m.take j)).length ≤ (pTags m).length := by
  have h : pTags m = pTags (m.take j) ++ pTags (m.drop j) := by
    unfold pTags
    rw [← List.flatten_append, ← List.map_append, List.take_append_drop]
  rw [h, List.length_append]
  omega

section
variable {P : Program} {c : Nums} {s : SN} {R : Value → World → Prop} {Γ : List (List Value → World → Prop)} {n : Nat} {ρ : Nat → Value} {w : World} {k : Tr}

/-- A field of a list, in a variable of its own. -/
theorem s_eachF {x i : Operand} {fv : Value} {fs : List PF} {j : Nat} (S : SpFacts P c s) (hfv : FieldsV w fs fv) (hx : ev ρ x = fv) (hi : ev ρ i = .int .i64 j) (hj : j < fs.length)
    (hk : ∀ (w' : World) (a : Value) (b : Nat) (cs : List Value), Has w' b cs → FieldC w' fs[j] cs → Keeps [] w w' → w.heap.size ≤ b → k.sem P R Γ (n + 4) (ext (ext (ext (ext ρ n [a]) (n + 1) [.agg ⟨cs⟩]) (n + 2) [ptr b]) (n + 3) [undef]) w') :
    (Tr.op (.indexAddr s.fields x i) none [] <| Tr.op (.load s.field (.tmp n)) none [] <| Tr.op (.alloc s.field) none [] <| Tr.op (.store s.field (.tmp (n + 2)) (.tmp (n + 1))) none [] k).sem P R Γ n ρ w := by
  obtain ⟨fcs, hr, hfc⟩ := hfv
  obtain ⟨b, o, cap, e, hbl, hel, hcell⟩ := hr.elem hj (by omega)
  refine s_val (v_indexAddr (b := b) (o := o) (l := fs.length) (c := cap) (j := j) (kk := .i64) S.sl S.szF (hx.trans e) hi (by omega) (by omega)) ?_
  rw [Int.toNat_natCast]
  refine s_lok (l_cellN (b := b) (o := o + j * 8) S.agg ext_at hel hcell) ?_
  obtain ⟨z, hz, hzc⟩ := S.zField
  refine s_alloc hz fun w1 h1 k1 z1 => ?_
  have hf := FieldsC.get hfc hj
  have e1 : ev (ext (ext (ext ρ n [ptr b (o + j * 8)]) (n + 1) [.agg ⟨(fcs.drop (j * 8)).take 8⟩]) (n + 2) [ptr w.heap.size]) (.tmp (n + 1)) = .agg ⟨(fcs.drop (j * 8)).take 8⟩ := by show ext _ _ _ (n + 1) = _; rw [ext_lt (by omega)]; exact ext_at
  refine s_storeAll (b := w.heap.size) (cs := (fcs.drop (j * 8)).take 8) (by rw [hel]; exact S.agg) ext_at (congrArg Value.cells e1) h1 (by rw [hel]; simpa using hzc) hf.ones fun w2 h2 k2 => ?_
  have k02 : Keeps [] w w2 := ((k1.mono (by simp)).trans k2).less fun x hx => .inr (by simp only [List.mem_singleton] at hx; omega)
  exact hk w2 _ _ _ h2 (FieldC.keep k02 _ _ hf) k02 (Nat.le_refl _)

/-- A tag of a list, in a variable of its own. -/
theorem s_eachT {x i : Operand} {tv : Value} {m : TM} {tcs : List Value} {j : Nat} {w0 : World} (S : SpFacts P c s) (hr : Ro w tv 2 m.length tcs) (ht : TagsC w0 m tcs) (hx : ev ρ x = tv) (hi : ev ρ i = .int .i64 j) (hj : j < m.length)
    (hk : ∀ (w' : World) (a : Value) (b : Nat) (vv : Value), Has w' b [.int .u32 m[j].1, vv] → Ro w0 vv 1 m[j].2.length (bcells m[j].2) → Keeps [] w w' → w.heap.size ≤ b → k.sem P R Γ (n + 4) (ext (ext (ext (ext ρ n [a]) (n + 1) [.agg ⟨[.int .u32 m[j].1, vv]⟩]) (n + 2) [ptr b]) (n + 3) [undef]) w') :
    (Tr.op (.indexAddr c.sTagL x i) none [] <| Tr.op (.load c.sTag (.tmp n)) none [] <| Tr.op (.alloc c.sTag) none [] <| Tr.op (.store c.sTag (.tmp (n + 2)) (.tmp (n + 1))) none [] k).sem P R Γ n ρ w := by
  obtain ⟨b, o, cap, e, hbl, hel, hcell⟩ := hr.elem hj (by omega)
  refine s_val (v_indexAddr (b := b) (o := o) (l := m.length) (c := cap) (j := j) (kk := .i64) S.ty.slTag S.szG (hx.trans e) hi (by omega) (by omega)) ?_
  rw [Int.toNat_natCast]
  refine s_lok (l_cellN (b := b) (o := o + j * 2) S.ty.aggTag ext_at hel hcell) ?_
  obtain ⟨z, hz, hzc⟩ := S.zTag
  refine s_alloc hz fun w1 h1 k1 z1 => ?_
  obtain ⟨vv, hc2, hvv⟩ := ht.get hj
  have h1v := hvv.one
  rw [hc2]
  have e1 : ev (ext (ext (ext ρ n [ptr b (o + j * 2)]) (n + 1) [.agg ⟨[.int .u32 m[j].1, vv]⟩]) (n + 2) [ptr w.heap.size]) (.tmp (n + 1)) = .agg ⟨[.int .u32 m[j].1, vv]⟩ := by show ext _ _ _ (n + 1) = _; rw [ext_lt (by omega)]; exact ext_at
  refine s_storeAll (b := w.heap.size) (cs := [.int .u32 m[j].1, vv]) S.ty.aggTag ext_at (congrArg Value.cells e1) h1 (by simpa using hzc) (fun q hq => by
    simp only [List.mem_cons, List.not_mem_nil, or_false] at hq
    rcases hq with rfl | rfl
    · rfl
    · exact h1v) fun w2 h2 k2 => ?_
  have k02 : Keeps [] w w2 := ((k1.mono (by simp)).trans k2).less fun x hx => .inr (by simp only [List.mem_singleton] at hx; omega)
  exact hk w2 _ _ _ h2 hvv k02 (Nat.le_refl _)

theorem known_plain (S : SpFacts P c s) (hT : treeIn P s.known noOrc [.tmp 0] 1 = tKnown c s) {fs : List PF} {fv : Value} (hp : ∀ f ∈ fs, f.tag < 0) (hfv : FieldsV w fs fv) (hlen : fs.length < 2 ^ 31) : Yields P s.known [fv] w (.int .u32 0) := by
  refine gives_in (ρ := en [fv]) S.rd.mix hT (Nat.le_refl _) rfl (by simp [opBelow]) ?_
  have hfv0 := hfv
  obtain ⟨fcs, hr, hfc⟩ := hfv
  obtain ⟨a, cp, e⟩ := hr.form
  refine s_val (v_len (a := a) (l := fs.length) (c := cp) S.sl e) ?_
  refine s_countV (n := 2) (q := 1) (kk := .i64) (m := fs.length) (ri := [.const (.int .u32 0)]) (Γ := []) (fun j vr w' => vr = [.int .u32 0] ∧ Keeps [] w w') (by omega) rfl ⟨rfl, .refl⟩ ?_ ?_
  · rintro j hj w1 vr ⟨rfl, k1⟩ hvr J hJ
    have hj' : j < fs.length := by omega
    refine s_eachF (fv := fv) (fs := fs) (j := j) S (hfv0.keep k1) rfl rfl hj' fun w2 a b cs hh hf k2 hb => ?_
    obtain ⟨sv, rfl, _⟩ := hf.cells
    have hneg := hp _ (List.getElem_mem hj')
    refine s_fl S.f4 S.oneInt rfl rfl hh rfl ?_
    refine s_val (v_cmp (kk := .i64) (a := (fs[j]'hj').tag) (b := 0) (r := decide ((fs[j]'hj').tag ≥ 0)) rfl rfl rfl) ?_
    refine ⟨rfl, fun vs w' => vs = [.int .u32 0] ∧ w' = w2, ?_, ?_⟩
    · refine s_cond (b := decide ((fs[j]'hj').tag ≥ 0)) rfl (fun hb => ?_) fun hb => ⟨_, rfl, rfl, rfl⟩
      simp at hb
      omega
    · rintro vs w' _ ⟨rfl, rfl⟩
      refine s_val (v_arith (kk := .i64) (a := j) (b := 1) (r := ((j + 1 : Nat) : Int)) rfl rfl ?_) ?_
      · simp only [arithOf, Option.some.injEq]; rw [IntKind.wrap_i64]; omega
      exact ⟨J, rfl, hJ [_] _ rfl ⟨rfl, k1.trans k2⟩⟩
  · rintro w1 vr J ⟨rfl, k1⟩ hvr
    exact s_ret1 ⟨rfl, k1⟩

/-- The unknown tags. -/
def UnknownOf (P : Program) (s : SN) (fs : List PF) : Prop := ∀ (w0 w : World) (fv uv : Value) (u : TM) (ucs : List Value), FieldsV w fs fv → Ro w uv 2 u.length ucs → TagsC w0 u ucs → (∀ p ∈ u, p.1 < 4294967296) →
  Gives P s.unknown [fv, uv] w fun r w' => ∃ cs, Own w' r 2 (pUnknown fs u).length cs ∧ TagsC w0 (pUnknown fs u) cs ∧ (∀ b ∈ blkOf r, w.heap.size ≤ b) ∧ Keeps [] w w'

theorem pPut_mem {q : Nat × List UInt8} : ∀ {m : TM} {p : Nat × List UInt8}, p ∈ pPut q m → p = q ∨ p ∈ m
  | [], p, h => by simpa [pPut] using h
  | x :: m, p, h => by
    unfold pPut at h
    split at h
    · rcases List.mem_cons.1 h with rfl | h
      · exact .inr (by simp)
      · exact (pPut_mem h).imp id fun h => by simp [h]
    · split at h
      · exact .inr h
      · rcases List.mem_cons.1 h with rfl | h
        · exact .inl rfl
        · exact .inr h

theorem pUnknownN_mem (least : Nat) : ∀ {u out : TM} {p : Nat × List UInt8}, p ∈ pUnknownN least u out → p ∈ u ∨ p ∈ out
  | [], out, p, h => .inr h
  | q :: u, out, p, h => by
    rcases pUnknownN_mem least (u := u) h with h | h
    · exact .inl (by simp [h])
    · split at h
      · exact .inr h
      · rcases pPut_mem h with rfl | h
        · exact .inl (by simp)
        · exact .inr h

theorem pUnknown_mem {fs : List PF} {u : TM} {p : Nat × List UInt8} (h : p ∈ pUnknown fs u) : p ∈ u := by
  rcases pUnknownN_mem _ h with h | h
  · exact List.mem_of_mem_take h
  · cases h

theorem pPut_length (q : Nat × List UInt8) : ∀ m : TM, (pPut q m).length ≤ m.length + 1
  | [] => by simp [pPut]
  | x :: m => by
    unfold pPut
    split
    · have := pPut_length q m; simp; omega
    · split <;> simp

theorem pUnknownN_length (least : Nat) : ∀ (u out : TM), (pUnknownN least u out).length ≤ out.length + u.length
  | [], out => by simp [pUnknownN]
  | q :: u, out => by
    rw [pUnknownN]
    refine Nat.le_trans (pUnknownN_length least u _) ?_
    rw [List.length_cons]
    split
    · omega
    · have := pPut_length q out
      omega

theorem pUnknown_length (fs : List PF) (u : TM) : (pUnknown fs u).length ≤ 32767 := by
  have h := pUnknownN_length (pKnown fs 0) (u.take 32767) []
  unfold pUnknown
  rw [List.length_take] at h
  simp at h
  omega
end
end Go.Kf
/- The reference's writing of a part, and of a message. -/
namespace Go.Kf
open Go

section
variable {P : Program} {c : Nums} {s : SN} {R : Value → World → Prop} {Γ : List (List Value → World → Prop)} {n : Nat} {ρ : Nat → Value} {w : World} {k : Tr}

theorem pTag1_length (k : Nat) (b : List UInt8) : (pTag1 k b).length = (pUv k).length + (pUv b.length).length + b.length := by
  unfold pTag1
  simp only [List.length_append]

theorem part_step (S : SpFacts P c s) (Q : Smalls P s) (hK : treeIn P s.known noOrc [.tmp 0] 1 = tKnown c s) (hT : treeIn P s.part noOrc [.tmp 0, .tmp 1, .tmp 2, .tmp 3] 4 = tPart c s) {fs : List PF} (hp : ∀ f ∈ fs, f.tag < 0) (hlen : fs.length < 2 ^ 31) (hF : ∀ f ∈ fs, FieldOf P s f) (hU : UnknownOf P s fs) : PartOf P s fs := by
  intro w fv v fl t ts hfv ht hok hl
  rw [pPart_plain hp] at hl ⊢
  have htc := ht
  have hfv0 := hfv
  obtain ⟨fcs, hr, hfc⟩ := hfv
  obtain ⟨sv, lv, uv, lcs, ucs, rfl, h1, h2, h3, h4, h5⟩ := ht.cells
  rw [List.length_append] at hl
  refine gives_in (ρ := en [_, _, _, _]) S.rd.mix hT (Nat.le_refl _) rfl (by simp [opBelow]) ?_
  refine s_box rfl fun w1 hx1 k1 z1 => ?_
  obtain ⟨a, cp, e⟩ := hr.form
  refine s_val (v_len (a := a) (l := fs.length) (c := cp) S.sl e) ?_
  refine s_countV (n := 6) (q := 5) (kk := .i64) (m := fs.length) (ri := [.const (.slice none 0 0)]) (Γ := []) (fun j vr w' => ∃ acc, vr = [acc] ∧ MadeO w1 w' acc (pPlain (fs.take j) v fl t 0)) (by omega) rfl ⟨_, rfl, by rw [List.take_zero, pPlain]; exact MadeO.nil w1⟩ ?_ ?_
  · rintro j hj w2 vr ⟨acc, rfl, hA⟩ hvr J hJ
    have hj' : j < fs.length := by omega
    have k02 := k1.trans hA.2.2
    refine s_eachF (fv := fv) (fs := fs) (j := j) S (hfv0.keep k02) rfl rfl hj' fun w3 a3 b cs hh hf k3 hb => ?_
    have hf0 := hf
    obtain ⟨sv3, rfl, _⟩ := hf.cells
    have hneg := hp _ (List.getElem_mem hj')
    have k13 := hA.2.2.trans k3
    have hle := pPlain_le fs (j + 1) v fl t
    rw [pPlain_take v fl t 0 hj', Nat.zero_add, List.length_append] at hle
    refine s_fl S.f4 S.oneInt rfl rfl hh rfl ?_
    refine s_val (v_cmp (kk := .i64) (a := (fs[j]'hj').tag) (b := 0) (r := decide ((fs[j]'hj').tag < 0)) rfl rfl rfl) ?_
    refine s_cond (b := decide ((fs[j]'hj').tag < 0)) rfl (fun hb1 => ?_) fun hb1 => (by simp at hb1; omega)
    refine s_lok (l_loadN (b := b) (o := 0) S.agg rfl hh (show 0 + 8 ≤ 8 by omega)) ?_
    refine s_callx (Q.has w3 fs[j] _ v hf0) rfl fun u w4 ⟨hu, k4⟩ => ?_
    subst hu
    have hf4 := FieldC.keep k4 _ _ hf0
    have hh4 := hh.keep k4 (by simp)
    have hA4 := (hA.more k3).more k4
    have k14 := k13.trans k4
    refine ⟨rfl, fun vs w' => ∃ acc', vs = [acc'] ∧ MadeO w1 w' acc' (pPlain (fs.take (j + 1)) v fl t 0), ?_, ?_⟩
    · refine s_cond (b := pHas fs[j] v) rfl (fun hb2 => ?_) fun hb2 => ⟨_, rfl, acc, rfl, ?_⟩
      · show Tr.sem _ _ _ _ _ _ { w4 with drawn := w4.drawn + 1 }
        have hd : Keeps [] w4 { w4 with drawn := w4.drawn + 1 } := keeps_drawn w4 _ _
        have hA5 := hA4.drawn (w4.drawn + 1)
        generalize ({ w4 with drawn := w4.drawn + 1 } : World) = w5 at hd hA5 ⊢
        have hh5 := hh4.keep hd (by simp)
        have hx5 := (hx1.keep k14 (by simp)).keep hd (by simp)
        have k15 := k14.trans hd
        refine l_lok (l_loadN (b := b) (o := 0) S.agg rfl hh5 (show 0 + 8 ≤ 8 by omega)) ?_
        refine l_lok (l_loadN (b := w.heap.size) (o := 0) S.ty.agg rfl hx5 (show 0 + 5 ≤ 5 by omega)) ?_
        refine s_call (xs := [.tmp 19, .tmp 7]) (Q.at_ w5 t _ j (TreeC.keep (k1.trans k15) _ _ htc)) fun u w6 ⟨k6, tcs, hu, htj⟩ => ⟨?_, ?_⟩
        · intro p hp
          simp only [List.mem_singleton] at hp
          subst hp
          exact l_loadN (b := b) (o := 0) S.agg rfl (hh5.keep k6 (by simp)) (show 0 + 8 ≤ 8 by omega)
        subst hu
        have hone : pOne fs[j] v fl (pAt t j) = pField fs[j] v fl (pAt t j) := by
          unfold pOne
          rw [if_pos (by rw [Bool.and_eq_true]; exact ⟨hb1, hb2⟩)]
        rw [hone] at hle
        refine s_callO (hF fs[j] (List.getElem_mem hj') w6 v fl (pAt t j) _ tcs (FieldC.keep (hd.trans k6) _ _ hf4) htj (hok.at j) (by omega)) rfl fun v3 w7 hM7 => ⟨fun p hp => (by cases hp), ?_⟩
        refine s_appendO (v := acc) (u := v3) (l2 := pField fs[j] v fl (pAt t j)) S rfl rfl ((hA5.more k6).more hM7.2.2) (hM7.1.reads.src S.rd.bytes (bcells_one _)) (by rw [List.length_append]; unfold maxW at hl; omega) fun v4 w8 hM8 _ => ⟨fun p hp => (by cases hp), ?_⟩
        refine ⟨_, rfl, v4, rfl, ?_⟩
        rw [pPlain_take v fl t 0 hj', Nat.zero_add, hone]
        exact hM8
      · have hone : pOne fs[j] v fl (pAt t j) = [] := by
          unfold pOne
          rw [if_neg (by rw [hb2, Bool.and_false]; simp)]
        rw [pPlain_take v fl t 0 hj', Nat.zero_add, hone, List.append_nil]
        exact hA4
    · rintro vs w' _ ⟨acc', rfl, hA'⟩
      refine s_val (v_arith (kk := .i64) (a := j) (b := 1) (r := ((j + 1 : Nat) : Int)) rfl rfl ?_) ?_
      · simp only [arithOf, Option.some.injEq]; rw [IntKind.wrap_i64]; omega
      exact ⟨J, rfl, hJ [_] _ rfl ⟨acc', rfl, hA'⟩⟩
  · rintro w2 vr J ⟨acc, rfl, hA⟩ hvr
    rw [Int.toNat_natCast, List.take_length] at hA
    refine s_val (v_not (b := fl) rfl) ?_
    refine s_cond (b := !fl) rfl (fun hb => ?_) fun hb => ?_
    · have : fl = false := by simpa using hb
      subst this
      refine s_ret1 ?_
      rw [if_neg (by simp), List.append_nil]
      exact hA.under k1
    · have : fl = true := by simpa using hb
      subst this
      simp only [if_true] at hl ⊢
      have k02 := k1.trans hA.2.2
      refine s_callx (known_plain S hK hp (hfv0.keep k02) hlen) rfl fun u w3 ⟨hu, k3⟩ => ?_
      subst hu
      refine s_val (v_conv (k1 := .u32) (k2 := .i64) (a := 0) S.rd.u32 S.rd.int rfl) ?_
      have k13 := hA.2.2.trans k3
      refine s_countV (n := 12) (q := 11) (kk := .i64) (m := 0) (ri := [.const (.slice none 0 0), .const (.int .i64 0)]) (Γ := [J]) (fun j vr w' => vr = [.slice none 0 0, .int .i64 0] ∧ w' = w3) (by omega) rfl ⟨rfl, rfl⟩ (fun j hj => by simp at hj) ?_
      rintro w' vr J1 ⟨rfl, rfl⟩ hvr
      have hx3 := hx1.keep k13 (by simp)
      refine s_fl S.ty.f4 S.ty.oneTagL rfl rfl hx3 rfl ?_
      have k03 := k1.trans k13
      refine s_callx (hU w' w' fv uv t.u ucs (hfv0.keep k03) (h4.keep k03) (TagsC.keep k03 _ _ h5) hok.u) rfl fun tv w4 ⟨tcs, hown, htg', _, k4⟩ => ?_
      have htg := TagsC.keep k4 _ _ htg'
      generalize hun : pUnknown fs t.u = un at hl hown htg ⊢
      have hun7 : un.length ≤ 32767 := by rw [← hun]; exact pUnknown_length fs t.u
      have hkeys : ∀ p ∈ un, p.1 < 4294967296 := fun p hp => hok.u p (pUnknown_mem (hun ▸ hp))
      have hrt := Ro.of_reads hown.reads
      obtain ⟨a4, c4, e4⟩ := hrt.form
      refine s_val (v_len (a := a4) (l := un.length) (c := c4) S.ty.slTag e4) ?_
      have k14 := k13.trans k4
      rw [List.length_append] at hl
      refine s_countV (n := 20) (q := 19) (kk := .i64) (m := un.length) (ri := [.tmp 12, .tmp 13]) (Γ := [J, J1]) (fun j vr w' => ∃ acc', vr = [acc', .int .i64 j] ∧ MadeO w4 w' acc' (pTags (un.take j))) (by omega) rfl ⟨_, rfl, MadeO.nil w4⟩ ?_ ?_
      · rintro j hj w5 vr ⟨acc', rfl, hB⟩ hvr J2 hJ2
        have hj' : j < un.length := by omega
        have hle := pTags_le un (j + 1)
        rw [pTags_take hj', List.length_append, pTag1_length] at hle
        have hkey := hkeys _ (List.getElem_mem hj')
        refine s_eachT (tv := tv) (m := un) (j := j) S (hrt.keep hB.2.2) htg rfl rfl hj' fun w6 a6 b vv hh hvv k6 hb => ?_
        refine s_fl S.ty.g1 S.rd.oneBytes rfl rfl hh rfl ?_
        refine s_callx (Q.whole w6 vv un[j].2 (hvv.keep (hB.2.2.trans k6))) rfl fun u w7 ⟨hw, hu⟩ => ?_
        subst hw
        replace hu := hu w4 hvv
        refine s_fl S.ty.g0 S.ty.oneU32 rfl rfl hh rfl ?_
        refine s_val (v_conv (k1 := .u32) (k2 := .u64) (a := ((un[j]'hj').1 : Int)) S.rd.u32 S.u64 rfl) ?_
        rw [wraps_u64 _ (by omega) (by omega)]
        have hw7 : (pWhole (un[j]'hj').2).length ≤ 32767 := by unfold pWhole; rw [List.length_take]; omega
        refine s_callO (Q.uv w7 (un[j]'hj').1 (by omega)) rfl fun v8 w8 hM8 => ⟨fun p hp => (by cases hp), ?_⟩
        refine s_appendO (v := acc') (u := v8) (l2 := pUv (un[j]'hj').1) S rfl rfl ((hB.more k6).more hM8.2.2) (hM8.1.reads.src S.rd.bytes (bcells_one _)) (by rw [List.length_append]; unfold maxW at hl; omega) fun v9 w9 hM9 kk9 => ⟨fun p hp => (by cases hp), ?_⟩
        obtain ⟨au, cu, eu⟩ := hu.form
        refine s_val (v_len (a := au) (l := (pWhole (un[j]'hj').2).length) (c := cu) S.rd.bytes eu) ?_
        refine s_val (v_conv (k1 := .i64) (k2 := .u64) (a := ((pWhole (un[j]'hj').2).length : Int)) S.rd.int S.u64 rfl) ?_
        rw [wraps_u64 _ (by omega) (by omega)]
        refine s_callO (Q.uv w9 (pWhole (un[j]'hj').2).length (by omega)) rfl fun v10 w10 hM10 => ⟨fun p hp => (by cases hp), ?_⟩
        refine s_appendO (v := v9) (u := v10) (l2 := pUv (pWhole (un[j]'hj').2).length) S rfl rfl (hM9.more hM10.2.2) (hM10.1.reads.src S.rd.bytes (bcells_one _)) (by simp only [List.length_append]; unfold maxW at hl; omega) fun v11 w11 hM11 kk11 => ⟨fun p hp => (by cases hp), ?_⟩
        refine s_appendO (v := v11) (u := u) (l2 := pWhole (un[j]'hj').2) S rfl rfl hM11 ((hu.keep hM11.2.2).src S.rd.bytes (bcells_one _)) (by simp only [List.length_append]; unfold maxW at hl; omega) fun v12 w12 hM12 kk12 => ⟨fun p hp => (by cases hp), ?_⟩
        refine s_val (v_arith (kk := .i64) (a := j) (b := 1) (r := ((j + 1 : Nat) : Int)) rfl rfl ?_) ?_
        · simp only [arithOf, Option.some.injEq]; rw [IntKind.wrap_i64]; omega
        refine s_val (v_arith (kk := .i64) (a := j) (b := 1) (r := ((j + 1 : Nat) : Int)) rfl rfl ?_) ?_
        · simp only [arithOf, Option.some.injEq]; rw [IntKind.wrap_i64]; omega
        refine ⟨J2, rfl, hJ2 [_, _] _ rfl ⟨v12, rfl, ?_⟩⟩
        rw [pTags_take hj', pTag1, ← List.append_assoc, ← List.append_assoc]
        exact hM12
      · rintro w5 vr J2 ⟨acc', rfl, hB⟩ hvr
        rw [Int.toNat_natCast, List.take_length] at hB
        refine s_val (v_conv (k1 := .i64) (k2 := .u64) (a := (un.length : Int)) S.rd.int S.u64 rfl) ?_
        rw [wraps_u64 _ (by omega) (by omega)]
        refine s_callO (Q.uv w5 un.length (by omega)) rfl fun v6 w6 hM6 => ⟨fun p hp => (by cases hp), ?_⟩
        have k36 := (k4.trans hB.2.2).trans hM6.2.2
        refine s_appendO (v := acc) (u := v6) (l2 := pUv un.length) S rfl rfl ((hA.more k3).more k36) (hM6.1.reads.src S.rd.bytes (bcells_one _)) (by rw [List.length_append]; unfold maxW at hl; omega) fun v7 w7 hM7 kk7 => ⟨fun p hp => (by cases hp), ?_⟩
        have hown7 : Own w7 acc' 1 (pTags un).length (bcells (pTags un)) := (hB.more hM6.2.2).1.keep kk7 fun b hb hb' => by
          have h5 := hB.2.1 b hb
          have h6 := hA.1.lt b hb'
          have h7 := k3.size
          have h8 := k4.size
          omega
        refine s_appendO (v := v7) (u := acc') (l2 := pTags un) S rfl rfl hM7 (hown7.reads.src S.rd.bytes (bcells_one _)) (by simp only [List.length_append]; unfold maxW at hl; omega) fun v8 w8 hM8 kk8 => ⟨fun p hp => (by cases hp), s_ret1 ?_⟩
        rw [List.append_assoc] at hM8
        exact hM8.under k1
end
end Go.Kf
/- The reference's unknown tags. -/
namespace Go.Kf
open Go

/-- Room is made at t14 for the tag that t12 points to. -/
def gIns (c : Nums) (n : Nat) : Tr :=
  .op (.build c.sTag ⟨[]⟩) none [] <|
  .op (.buildSlice c.sTagL 1 ⟨[(0, (.tmp n))]⟩) none [] <|
  .op (.call { callee := (.builtin .append), args := ⟨[(.tmp 7), (.tmp (n + 1))]⟩, argTypes := ⟨[c.sTagL, c.sTagL]⟩ }) none [] <|
  .op (.call { callee := (.builtin .len), args := ⟨[(.tmp (n + 2))]⟩, argTypes := ⟨[c.sTagL]⟩ }) none [] <|
  .op (.binOp .sub c.tInt (.tmp (n + 3)) (.const (.int .i64 1)) c.tInt) none [] <|
  .loop 2 [(.tmp (n + 4))] <|
  .op (.binOp .gtr c.tInt (.tmp (n + 5)) (.tmp 14) c.tInt) none [] <|
  .cond (.tmp (n + 6)) (
    .op (.binOp .sub c.tInt (.tmp (n + 5)) (.const (.int .i64 1)) c.tInt) none [] <|
    .op (.indexAddr c.sTagL (.tmp (n + 2)) (.tmp (n + 7))) none [] <|
    .op (.load c.sTag (.tmp (n + 8))) none [] <|
    .op (.indexAddr c.sTagL (.tmp (n + 2)) (.tmp (n + 5))) none [] <|
    .op (.store c.sTag (.tmp (n + 10)) (.tmp (n + 9))) none [] <|
    .op (.binOp .sub c.tInt (.tmp (n + 5)) (.const (.int .i64 1)) c.tInt) none [] <|
    .to 2 [(.tmp (n + 12))]
  ) (
    .op (.load c.sTag (.tmp 12)) none [] <|
    .op (.indexAddr c.sTagL (.tmp (n + 2)) (.tmp 14)) none [] <|
    .op (.store c.sTag (.tmp (n + 8)) (.tmp (n + 7))) none [] <|
    .op (.binOp .add c.tInt (.tmp 8) (.const (.int .i64 1)) c.tInt) none [] <|
    .to 0 [(.tmp (n + 2)), (.tmp (n + 10))]
  )

def gSkip (c : Nums) (n : Nat) : Tr := .op (.binOp .add c.tInt (.tmp 8) (.const (.int .i64 1)) c.tInt) none [] <| .to 0 [(.tmp 7), (.tmp n)]

/-- The tag's key held against the one at t14. -/
def gSame (c : Nums) (n : Nat) : Tr :=
  .draw <|
  .pur (.fieldAddr c.sTag (.tmp 12) 0) none <|
  .lok (.load c.tU32 (.tmp n)) none <|
  .pur (.binOp .lss c.tU32 (.tmp (n + 1)) (.tmp 2) c.tU32) none <|
  .cond (.tmp (n + 2)) (gSkip c (n + 3)) (
    .pur (.call { callee := (.builtin .len), args := ⟨[(.tmp 7)]⟩, argTypes := ⟨[c.sTagL]⟩ }) none <|
    .pur (.binOp .lss c.tInt (.tmp 14) (.tmp (n + 3)) c.tInt) none <|
    .cond (.tmp (n + 4)) (
      .pur (.indexAddr c.sTagL (.tmp 7) (.tmp 14)) none <|
      .pur (.fieldAddr c.sTag (.tmp (n + 5)) 0) none <|
      .lok (.load c.tU32 (.tmp (n + 6))) none <|
      .pur (.fieldAddr c.sTag (.tmp 12) 0) none <|
      .lok (.load c.tU32 (.tmp (n + 8))) none <|
      .pur (.binOp .eql c.tU32 (.tmp (n + 7)) (.tmp (n + 9)) c.tU32) none <|
      .cond (.tmp (n + 10)) (gSkip c (n + 11)) (gIns c (n + 11))
    ) (gIns c (n + 5))
  )

def tUnknown (c : Nums) (s : SN) : Tr :=
  .op (callOp s.known [(.tmp 0)]) none [] <|
  .op (.call { callee := (.builtin .len), args := ⟨[(.tmp 1)]⟩, argTypes := ⟨[c.sTagL]⟩ }) none [] <|
  .op (.call { callee := (.builtin .min), args := ⟨[(.tmp 3), (.const (.int .i64 32767))]⟩, argTypes := ⟨[c.tInt, c.tInt]⟩ }) none [] <|
  .op (.slice c.sTagL (.tmp 1) none (some (.tmp 4)) none) none [] <|
  .op (.call { callee := (.builtin .len), args := ⟨[(.tmp 5)]⟩, argTypes := ⟨[c.sTagL]⟩ }) none [] <|
  .loop 0 [(.const (.slice none 0 0)), (.const (.int .i64 0))] <|
  .op (.binOp .lss c.tInt (.tmp 8) (.tmp 6) c.tInt) none [] <|
  .cond (.tmp 9) (
    .op (.indexAddr c.sTagL (.tmp 5) (.tmp 8)) none [] <|
    .op (.load c.sTag (.tmp 10)) none [] <|
    .op (.alloc c.sTag) none [] <|
    .op (.store c.sTag (.tmp 12) (.tmp 11)) none [] <|
    .loop 1 [(.const (.int .i64 0))] <|
    .draw <|
    .pur (.call { callee := (.builtin .len), args := ⟨[(.tmp 7)]⟩, argTypes := ⟨[c.sTagL]⟩ }) none <|
    .pur (.binOp .lss c.tInt (.tmp 14) (.tmp 15) c.tInt) none <|
    .cond (.tmp 16) (
      .pur (.indexAddr c.sTagL (.tmp 7) (.tmp 14)) none <|
      .pur (.fieldAddr c.sTag (.tmp 17) 0) none <|
      .lok (.load c.tU32 (.tmp 18)) none <|
      .pur (.fieldAddr c.sTag (.tmp 12) 0) none <|
      .lok (.load c.tU32 (.tmp 20)) none <|
      .pur (.binOp .lss c.tU32 (.tmp 19) (.tmp 21) c.tU32) none <|
      .cond (.tmp 22) (
        .op (.binOp .add c.tInt (.tmp 14) (.const (.int .i64 1)) c.tInt) none [] <|
        .to 1 [(.tmp 23)]
      ) (gSame c 23)
    ) (gSame c 17)
  ) (.ret [((.tmp 7), none)])

theorem pPut_at {q : Nat × List UInt8} : ∀ {m : TM} {i : Nat}, (∀ p ∈ m.take i, p.1 < q.1) → (hi : i ≤ m.length) → (∀ h : i < m.length, ¬ m[i].1 < q.1) → pPut q m = if h : i < m.length then (if m[i].1 = q.1 then m else m.take i ++ q :: m.drop i) else m ++ [q]
  | [], i, _, hi, _ => by
    simp at hi
    subst hi
    simp [pPut]
  | x :: m, 0, _, _, h2 => by
    have h3 := h2 (by simp)
    simp only [List.getElem_cons_zero] at h3
    unfold pPut
    rw [if_neg h3]
    simp
  | x :: m, i + 1, h1, hi, h2 => by
    have h3 : x.1 < q.1 := h1 x (by simp)
    unfold pPut
    rw [if_pos h3, pPut_at (m := m) (i := i) (fun p hp => h1 p (by simp [hp])) (by simpa using hi) fun h => h2 (by simpa using h)]
    by_cases hlt : i < m.length
    · rw [dif_pos hlt, dif_pos (by simpa using hlt)]
      simp only [List.getElem_cons_succ]
      split
      · rfl
      · simp
    · rw [dif_neg hlt, dif_neg (by simpa using hlt)]
      rfl

theorem pUnknownN_snoc (least : Nat) (q : Nat × List UInt8) : ∀ (a out : TM), pUnknownN least (a ++ [q]) out = if q.1 < least then pUnknownN least a out else pPut q (pUnknownN least a out)
  | [], out => by simp [pUnknownN]
  | x :: a, out => by rw [List.cons_append, pUnknownN, pUnknownN_snoc least q a]; rfl

theorem TagsC.append {w : World} : ∀ {a b : TM} {x y : List Value}, TagsC w a x → TagsC w b y → TagsC w (a ++ b) (x ++ y)
  | [], b, x, y, h1, h2 => by simp only [TagsC] at h1; subst h1; exact h2
  | p :: a, b, x, y, ⟨v, r, e, h1, h3⟩, h2 => ⟨v, r ++ y, by rw [e]; rfl, h1, h3.append h2⟩

theorem TagsC.drop {w : World} : ∀ {m : TM} {cs : List Value} (k : Nat), TagsC w m cs → TagsC w (m.drop k) (cs.drop (k * 2))
  | _, _, 0, h => by simpa using h
  | [], _, k + 1, h => by simp only [TagsC] at h; subst h; simp [TagsC]
  | p :: m, _, k + 1, ⟨v, r, e, h1, h2⟩ => by
    subst e
    rw [show (k + 1) * 2 = k * 2 + 1 + 1 by omega]
    exact TagsC.drop k h2

section
variable {P : Program} {c : Nums} {s : SN} {R : Value → World → Prop} {Γ : List (List Value → World → Prop)} {n : Nat} {ρ : Nat → Value} {w : World} {k : Tr}

theorem splice_mid {a g z v : List Value} (h : g.length = v.length) : splice (a ++ g ++ z) a.length v = a ++ v ++ z := by
  have h1 : (a ++ g ++ z).take a.length = a := by rw [List.append_assoc, List.take_left' rfl]
  have h2 : (a ++ g ++ z).drop (a.length + v.length) = z := by rw [← h, ← List.length_append, List.drop_left' rfl]
  unfold splice
  rw [h1, h2]

theorem pair_eq' {a b x y : Value} (h1 : a = x) (h2 : b = y) : [a, b] = [x, y] := by rw [h1, h2]

theorem sem_ins {acc : Value} {tb i j m : Nat} {cs : List Value} {kv vv : Value} {w1 : World} {J I1 : List Value → World → Prop} (S : SpFacts P c s) (h7 : ρ 7 = acc) (h8 : ρ 8 = .int .i64 j) (h12 : ρ 12 = ptr tb) (h14 : ρ 14 = .int .i64 i) (hn : 15 ≤ n)
    (hown : Own w acc 2 m cs) (hfr : ∀ b ∈ blkOf acc, w1.heap.size ≤ b) (htag : Has w tb [kv, vv]) (hcs : ∀ u ∈ cs, u.oneCell' = true) (hkv : kv.oneCell' = true) (hvv : vv.oneCell' = true) (htb : tb ∉ blkOf acc) (hi : i ≤ m) (hm : m < 2147483648) (hj : j < 2147483648) (hk1 : Keeps [] w1 w)
    (hJ : ∀ acc' w', Own w' acc' 2 (m + 1) (cs.take (i * 2) ++ [kv, vv] ++ cs.drop (i * 2)) → (∀ b ∈ blkOf acc', w1.heap.size ≤ b) → Keeps [] w1 w' → J [acc', .int .i64 ((j + 1 : Nat) : Int)] w') : (gIns c n).sem P R [J, I1] n ρ w := by
  have hcl : cs.length = m * 2 := hown.1
  refine s_val (v_build (cells := [.int .u32 0, .slice none 0 0]) S.planTag (fun p hp => by cases hp) rfl) ?_
  refine s_oneSlice (sz := 2) (cs := [.int .u32 0, .slice none 0 0]) S.got.rowTag S.ty.slTag (by show (ext _ _ _ n).cells = _; rw [ext_at]; rfl) rfl fun w2 hsl k2 z2 => ⟨fun p hp => (by cases hp), ?_⟩
  have lt : ∀ {ρ : Nat → Value} {a q : Nat} {v : Value}, q < a → ext ρ a [v] q = ρ q := fun h => ext_lt h
  refine s_appendOne (v := acc) (u := .slice (some ⟨w.heap.size, 0, none⟩) 1 1) S.got.rowTag S.ty.slTag (by show ext _ _ _ 7 = _; rw [lt (by omega), lt (by omega)]; exact h7) ext_at (hown.keep k2 (by simp)) hsl (fun q hq => by
    simp only [List.mem_cons, List.not_mem_nil, or_false] at hq
    rcases hq with rfl | rfl <;> rfl) (by omega) fun acc' w3 hown3 k3 hb3 => ⟨fun p hp => (by cases hp), ?_⟩
  generalize hρ : ext (ext (ext ρ n [.agg ⟨[.int .u32 0, .slice none 0 0]⟩]) (n + 1) [.slice (some ⟨w.heap.size, 0, none⟩) 1 1]) (n + 2) [acc'] = ρ3
  have p8 : ρ3 8 = .int .i64 j := by subst hρ; rw [lt (by omega), lt (by omega), lt (by omega)]; exact h8
  have p12 : ρ3 12 = ptr tb := by subst hρ; rw [lt (by omega), lt (by omega), lt (by omega)]; exact h12
  have p14 : ρ3 14 = .int .i64 i := by subst hρ; rw [lt (by omega), lt (by omega), lt (by omega)]; exact h14
  have pa : ρ3 (n + 2) = acc' := by subst hρ; exact ext_at
  have hfr3 : ∀ b ∈ blkOf acc', w1.heap.size ≤ b := fun b hb => (hb3 b hb).elim (hfr b) fun h => by have := hk1.size; have := k2.size; omega
  have k13 : Keeps [] w1 w3 := ((hk1.trans k2).mono (by simp) |>.trans k3).less fun x hx => .inr (hfr x hx)
  have htag3 : Has w3 tb [kv, vv] := (htag.keep k2 (by simp)).keep k3 htb
  have htl := htag.lt
  rcases hown3.2 with ⟨_, h0⟩ | ⟨b, cap, spare, e3, hh3, hc3, hc63, hlen3⟩
  · omega
  have htb3 : tb ≠ b := fun h => by
    subst h
    have := hb3 tb (by rw [e3]; simp [blkOf])
    rcases this with h | h
    · exact htb h
    · have := k2.size; omega
  refine s_val (v_len (a := some ⟨b, 0, none⟩) (l := m + 1) (c := cap) S.ty.slTag (by show ρ3 (n + 2) = _; rw [pa, e3])) ?_
  refine s_val (v_arith (kk := .i64) (a := ((m + 1 : Nat) : Int)) (b := 1) (r := (m : Int)) ext_at rfl (by simp only [arithOf, Option.some.injEq]; rw [IntKind.wrap_i64]; omega)) ?_
  generalize hρ5 : ext (ext ρ3 (n + 3) [.int .i64 ((m + 1 : Nat) : Int)]) (n + 4) [.int .i64 (m : Int)] = ρ5
  have r8 : ρ5 8 = .int .i64 j := by subst hρ5; rw [lt (by omega), lt (by omega)]; exact p8
  have r12 : ρ5 12 = ptr tb := by subst hρ5; rw [lt (by omega), lt (by omega)]; exact p12
  have r14 : ρ5 14 = .int .i64 i := by subst hρ5; rw [lt (by omega), lt (by omega)]; exact p14
  have ra : ρ5 (n + 2) = acc' := by subst hρ5; rw [lt (by omega), lt (by omega)]; exact pa
  have rm : ρ5 (n + 4) = .int .i64 (m : Int) := by subst hρ5; exact ext_at
  refine ⟨rfl, fun vs w' => ∃ q : Nat, vs = [.int .i64 q] ∧ i ≤ q ∧ q ≤ m ∧ ∃ g : List Value, g.length = 2 ∧ Has w' b (cs.take (q * 2) ++ g ++ (cs.drop (q * 2) ++ spare)) ∧ Keeps [b] w3 w', fun vs _ => match vs with
    | [.int _ q] => q.toNat
    | _ => 0, ⟨m, by show [ρ5 (n + 4)] = _; rw [rm], hi, Nat.le_refl _, [.int .u32 0, .slice none 0 0], rfl, ?_, .refl⟩, ?_⟩
  · rw [List.take_of_length_le (by omega), List.drop_eq_nil_of_le (by omega), List.nil_append]
    exact hh3
  rintro _ w4 _ ⟨q, rfl, hiq, hqm, g, hg, hh4, k4⟩
  show Tr.sem _ _ _ _ (n + 6) (ext ρ5 (n + 5) [.int .i64 (q : Int)]) w4
  have hx5 : ext ρ5 (n + 5) [.int .i64 (q : Int)] (n + 5) = .int .i64 q := ext_at
  refine s_val (v_cmp (kk := .i64) (a := q) (b := i) (r := decide ((q : Int) > i)) hx5 (by show ext _ _ _ 14 = _; rw [lt (by omega)]; exact r14) rfl) ?_
  refine s_cond (b := decide ((q : Int) > i)) ext_at (fun hb => ?_) fun hb => ?_
  · have hgt : i < q := by
      have : (q : Int) > i := by simpa using hb
      omega
    obtain ⟨p, rfl⟩ : ∃ p, q = p + 1 := ⟨q - 1, by omega⟩
    refine s_val (v_arith (kk := .i64) (a := ((p + 1 : Nat) : Int)) (b := 1) (r := (p : Int)) (by show ext _ _ _ (n + 5) = _; rw [lt (by omega)]; exact ext_at) rfl (by simp only [arithOf, Option.some.injEq]; rw [IntKind.wrap_i64]; omega)) ?_
    refine s_val (v_indexAddr (b := b) (o := 0) (l := m + 1) (c := cap) (j := p) (kk := .i64) S.ty.slTag S.szG (by show ext _ _ _ (n + 2) = _; rw [lt (by omega), lt (by omega), lt (by omega), ra, e3]) ext_at (by omega) (by omega)) ?_
    rw [Int.toNat_natCast]
    have hold : (cs.take ((p + 1) * 2)).length = (p + 1) * 2 := by rw [List.length_take]; omega
    refine s_lok (l_loadN (b := b) (o := 0 + p * 2) S.ty.aggTag ext_at hh4 (by simp only [List.length_append, hold]; omega)) ?_
    have hcell : ((cs.take ((p + 1) * 2) ++ g ++ (cs.drop ((p + 1) * 2) ++ spare)).drop (0 + p * 2)).take 2 = (cs.drop (p * 2)).take 2 := by
      rw [Nat.zero_add, List.append_assoc, List.drop_append_of_le_length (by omega), List.take_append_of_le_length (by rw [List.length_drop, hold]; omega), List.drop_take]
      rw [List.take_take]
      congr 1
      omega
    rw [hcell]
    have hcl2 : ((cs.drop (p * 2)).take 2).length = 2 := by rw [List.length_take, List.length_drop]; omega
    refine s_val (v_indexAddr (b := b) (o := 0) (l := m + 1) (c := cap) (j := ((p + 1 : Nat) : Int)) (kk := .i64) S.ty.slTag S.szG (by show ext _ _ _ (n + 2) = _; rw [lt (by omega), lt (by omega), lt (by omega), lt (by omega), lt (by omega), ra, e3]) (by show ext _ _ _ (n + 5) = _; rw [lt (by omega), lt (by omega), lt (by omega), lt (by omega)]; exact ext_at) (by omega) (by omega)) ?_
    rw [Int.toNat_natCast]
    obtain ⟨w5, e5, h5, k5⟩ := a_storeCells (P := P) (w := w4) (t := c.sTag) (x := .tmp (n + 10)) (y := .tmp (n + 9)) (b := b) (o := 0 + (p + 1) * 2) (vs := (cs.drop (p * 2)).take 2) (ρ := ext (ext (ext (ext (ext (ext ρ5 (n + 5) [.int .i64 ((p + 1 : Nat) : Int)]) (n + 6) [.bool (decide (((p + 1 : Nat) : Int) > i))]) (n + 7) [.int .i64 (p : Int)]) (n + 8) [ptr b (0 + p * 2)]) (n + 9) [.agg ⟨(cs.drop (p * 2)).take 2⟩]) (n + 10) [ptr b (0 + (p + 1) * 2)]) (by rw [hcl2]; exact (aggTy_spec (w := w) S.ty.aggTag).2) ext_at (by show (ext _ _ _ (n + 9)).cells = _; rw [lt (by omega), ext_at]; rfl) hh4 (by simp only [List.length_append, hold]; omega) fun u hu => hcs u (List.mem_of_mem_drop (List.mem_of_mem_take hu))
    refine s_unit e5 (fun p hp => (by cases hp)) ?_
    refine s_val (v_arith (kk := .i64) (a := ((p + 1 : Nat) : Int)) (b := 1) (r := (p : Int)) (by show ext _ _ _ (n + 5) = _; rw [lt (by omega), lt (by omega), lt (by omega), lt (by omega), lt (by omega), lt (by omega)]; exact ext_at) rfl (by simp only [arithOf, Option.some.injEq]; rw [IntKind.wrap_i64]; omega)) ?_
    refine ⟨_, rfl, ?_⟩
    generalize hvs : List.map (ev _) [Operand.tmp (n + 12)] = vs
    obtain rfl : vs = [.int .i64 (p : Int)] := by rw [← hvs]; exact congrArg (fun x => [x]) ext_at
    refine ⟨⟨p, rfl, by omega, by omega, (cs.drop (p * 2)).take 2, hcl2, ?_, k4.trans k5⟩, by show (p : Int).toNat < ((p + 1 : Nat) : Int).toNat; omega⟩
    have hs : splice (cs.take ((p + 1) * 2) ++ g ++ (cs.drop ((p + 1) * 2) ++ spare)) (0 + (p + 1) * 2) ((cs.drop (p * 2)).take 2) = cs.take (p * 2) ++ (cs.drop (p * 2)).take 2 ++ (cs.drop (p * 2) ++ spare) := by
      have h1 := splice_mid (a := cs.take ((p + 1) * 2)) (g := g) (z := cs.drop ((p + 1) * 2) ++ spare) (v := (cs.drop (p * 2)).take 2) (by omega)
      rw [hold] at h1
      rw [Nat.zero_add, h1]
      have e1 : cs.take ((p + 1) * 2) = cs.take (p * 2) ++ (cs.drop (p * 2)).take 2 := by rw [show (p + 1) * 2 = p * 2 + 2 by omega, List.take_add]
      have e2 : (cs.drop (p * 2)).take 2 ++ cs.drop ((p + 1) * 2) = cs.drop (p * 2) := by rw [show (p + 1) * 2 = p * 2 + 2 by omega, ← List.drop_drop, List.take_append_drop]
      rw [e1, List.append_assoc, List.append_assoc, List.append_assoc, ← List.append_assoc ((cs.drop (p * 2)).take 2) (cs.drop _) spare, e2]
    rw [hs] at h5
    exact h5
  · obtain rfl : q = i := by
      have : ¬ (q : Int) > i := by simpa using hb
      omega
    refine s_lok (l_loadN (b := tb) (o := 0) S.ty.aggTag (by show ext _ _ _ 12 = _; rw [lt (by omega), lt (by omega)]; exact r12) (htag3.keep k4 (by simp only [List.mem_singleton]; exact htb3)) (show 0 + 2 ≤ 2 by omega)) ?_
    refine s_val (v_indexAddr (b := b) (o := 0) (l := m + 1) (c := cap) (j := (q : Int)) (kk := .i64) S.ty.slTag S.szG (by show ext _ _ _ (n + 2) = _; rw [lt (by omega), lt (by omega), lt (by omega), ra, e3]) (by show ext _ _ _ 14 = _; rw [lt (by omega), lt (by omega), lt (by omega)]; exact r14) (by omega) (by omega)) ?_
    rw [Int.toNat_natCast]
    have hold : (cs.take (q * 2)).length = q * 2 := by rw [List.length_take]; omega
    obtain ⟨w5, e5, h5, k5⟩ := a_storeCells (P := P) (w := w4) (t := c.sTag) (x := .tmp (n + 8)) (y := .tmp (n + 7)) (b := b) (o := 0 + q * 2) (vs := [kv, vv]) (ρ := ext (ext (ext (ext ρ5 (n + 5) [.int .i64 (q : Int)]) (n + 6) [.bool (decide ((q : Int) > q))]) (n + 7) [.agg ⟨[kv, vv]⟩]) (n + 8) [ptr b (0 + q * 2)]) (aggTy_spec (w := w) S.ty.aggTag).2 ext_at (by show (ext _ _ _ (n + 7)).cells = _; rw [lt (by omega), ext_at]; rfl) hh4 (by simp only [List.length_append, hold, List.length_cons, List.length_nil]; omega) (fun u hu => by
      simp only [List.mem_cons, List.not_mem_nil, or_false] at hu
      rcases hu with rfl | rfl
      · exact hkv
      · exact hvv)
    refine s_unit e5 (fun p hp => (by cases hp)) ?_
    refine s_val (v_arith (kk := .i64) (a := (j : Int)) (b := 1) (r := ((j + 1 : Nat) : Int)) (by show ext _ _ _ 8 = _; rw [lt (by omega), lt (by omega), lt (by omega), lt (by omega), lt (by omega)]; exact r8) rfl (by simp only [arithOf, Option.some.injEq]; rw [IntKind.wrap_i64]; omega)) ?_
    refine ⟨J, rfl, ?_⟩
    generalize hvs : List.map (ev _) [Operand.tmp (n + 2), Operand.tmp (n + 10)] = vs
    obtain rfl : vs = [acc', .int .i64 ((j + 1 : Nat) : Int)] := by
      rw [← hvs]
      exact pair_eq' (by show ext _ _ _ (n + 2) = _; rw [lt (by omega), lt (by omega), lt (by omega), lt (by omega), lt (by omega), lt (by omega)]; exact ra) ext_at
    have hs : splice (cs.take (q * 2) ++ g ++ (cs.drop (q * 2) ++ spare)) (0 + q * 2) [kv, vv] = cs.take (q * 2) ++ [kv, vv] ++ (cs.drop (q * 2) ++ spare) := by
      have h1 := splice_mid (a := cs.take (q * 2)) (g := g) (z := cs.drop (q * 2) ++ spare) (v := [kv, vv]) (by simpa using hg)
      rw [hold] at h1
      rw [Nat.zero_add, h1]
    rw [hs, ← List.append_assoc] at h5
    have hll : (cs.take (q * 2) ++ [kv, vv] ++ cs.drop (q * 2)).length = (m + 1) * 2 := by simp only [List.length_append, hold, List.length_drop, List.length_cons, List.length_nil]; omega
    refine hJ acc' w5 ⟨hll, .inr ⟨b, cap, spare, e3, h5, hc3, hc63, ?_⟩⟩ hfr3 ((k13.mono (by simp)).trans (k4.trans k5) |>.less fun x hx => .inr ?_)
    · rw [List.length_append, hll]
      rw [List.length_append, List.length_append, hcl] at hlen3
      simp only [List.length_cons, List.length_nil] at hlen3
      omega
    · simp only [List.mem_singleton] at hx
      subst hx
      exact hfr3 x (by rw [e3]; simp [blkOf])

theorem TagsC.ones : ∀ {m : TM} {cs : List Value}, TagsC w m cs → ∀ u ∈ cs, u.oneCell' = true
  | [], _, h, u, hu => by simp only [TagsC] at h; subst h; cases hu
  | p :: m, _, ⟨v, r, e, h1, h2⟩, u, hu => by
    subst e
    simp only [List.mem_cons] at hu
    rcases hu with rfl | rfl | hu
    · rfl
    · exact h1.one
    · exact TagsC.ones h2 u hu

/-- The key of a tag in an own row. -/
theorem own_key {w1 : World} {acc : Value} {m : TM} {cs : List Value} {i : Nat} (ho : Own w acc 2 m.length cs) (ht : TagsC w1 m cs) (hi : i < m.length) : ∃ b cap spare, acc = .slice (some ⟨b, 0, none⟩) m.length cap ∧ Has w b (cs ++ spare) ∧ (cs ++ spare)[0 + i * 2 + 0]? = some (.int .u32 m[i].1) := by
  rcases ho.2 with ⟨_, h0⟩ | ⟨b, cap, spare, e, hh, _⟩
  · omega
  · obtain ⟨v, h1, _⟩ := ht.get hi
    have hl := ho.1
    refine ⟨b, cap, spare, e, hh, ?_⟩
    rw [List.getElem?_append_left (by omega), Nat.zero_add, Nat.add_zero]
    have := congrArg (fun x => x[0]?) h1
    simpa [List.getElem?_take, List.getElem?_drop] using this

theorem own_form {acc : Value} {sz m : Nat} {cs : List Value} (ho : Own w acc sz m cs) : ∃ a cp, acc = .slice a m cp := by
  rcases ho.2 with ⟨rfl, rfl⟩ | ⟨b, cap, spare, e, _⟩
  · exact ⟨_, _, rfl⟩
  · exact ⟨_, _, e⟩

def pStep (least : Nat) (q : Nat × List UInt8) (out : TM) : TM := if q.1 < least then out else pPut q out

theorem sem_same {acc vv : Value} {tb i j least : Nat} {q : Nat × List UInt8} {out : TM} {cs : List Value} {w0 w1 : World} {J I1 : List Value → World → Prop} (S : SpFacts P c s) (h2 : ρ 2 = .int .u32 least) (h7 : ρ 7 = acc) (h8 : ρ 8 = .int .i64 j) (h12 : ρ 12 = ptr tb) (h14 : ρ 14 = .int .i64 i) (hn : 15 ≤ n)
    (hown : Own w acc 2 out.length cs) (hfr : ∀ b ∈ blkOf acc, w1.heap.size ≤ b) (ht : TagsC w0 out cs) (htag : Has w tb [.int .u32 q.1, vv]) (hvv : Ro w0 vv 1 q.2.length (bcells q.2)) (htb : tb ∉ blkOf acc) (hi : i ≤ out.length) (hbelow : ∀ p ∈ out.take i, p.1 < q.1) (hat : ∀ h : i < out.length, ¬ out[i].1 < q.1)
    (hm : out.length < 2147483647) (hj : j < 2147483647) (hk1 : Keeps [] w1 w)
    (hJ : ∀ acc' w' cs', Own w' acc' 2 (pStep least q out).length cs' → (∀ b ∈ blkOf acc', w1.heap.size ≤ b) → TagsC w0 (pStep least q out) cs' → Keeps [] w1 w' → J [acc', .int .i64 ((j + 1 : Nat) : Int)] w') : (gSame c n).sem P R [J, I1] n ρ w := by
  have lt : ∀ {ρ : Nat → Value} {a q : Nat} {v : Value}, q < a → ext ρ a [v] q = ρ q := fun h => ext_lt h
  show Tr.sem _ _ _ _ _ _ { w with drawn := w.drawn + 1 }
  have hd : Keeps [] w { w with drawn := w.drawn + 1 } := keeps_drawn w _ _
  generalize ({ w with drawn := w.drawn + 1 } : World) = w2 at hd ⊢
  have hown2 := hown.keep hd (by simp)
  have htag2 := htag.keep hd (by simp)
  have k12 := hk1.trans hd
  have hvo := hvv.one
  have ins : ∀ (n' : Nat) (ρ' : Nat → Value), 15 ≤ n' → (∀ x, x < 15 → ρ' x = ρ x) → pStep least q out = out.take i ++ q :: out.drop i → (gIns c n').sem P R [J, I1] n' ρ' w2 := by
    intro n' ρ' hn' hρ' hst
    refine sem_ins (acc := acc) (tb := tb) (i := i) (j := j) (m := out.length) (cs := cs) (kv := .int .u32 q.1) (vv := vv) (w1 := w1) S ((hρ' 7 (by omega)).trans h7) ((hρ' 8 (by omega)).trans h8) ((hρ' 12 (by omega)).trans h12) ((hρ' 14 (by omega)).trans h14) hn' hown2 hfr htag2 ht.ones rfl hvo htb hi (by omega) (by omega) k12 fun acc' w' ho' hf' kk => ?_
    have hlen : (pStep least q out).length = out.length + 1 := by rw [hst, List.length_append, List.length_take, List.length_cons, List.length_drop]; omega
    refine hJ acc' w' _ (by rw [hlen]; exact ho') hf' ?_ kk
    rw [hst, List.append_assoc]
    exact (TagsC.take i ht).append (show TagsC w0 (q :: out.drop i) ([.int .u32 q.1, vv] ++ cs.drop (i * 2)) from ⟨vv, _, rfl, hvv, TagsC.drop i ht⟩)
  have skip : ∀ (n' : Nat) (ρ' : Nat → Value), 15 ≤ n' → (∀ x, x < 15 → ρ' x = ρ x) → pStep least q out = out → (gSkip c n').sem P R [J, I1] n' ρ' w2 := by
    intro n' ρ' hn' hρ' hst
    refine s_val (v_arith (kk := .i64) (a := (j : Int)) (b := 1) (r := ((j + 1 : Nat) : Int)) ((hρ' 8 (by omega)).trans h8) rfl (by simp only [arithOf, Option.some.injEq]; rw [IntKind.wrap_i64]; omega)) ?_
    refine ⟨J, rfl, ?_⟩
    generalize hvs : List.map (ev _) [Operand.tmp 7, Operand.tmp n'] = vs
    obtain rfl : vs = [acc, .int .i64 ((j + 1 : Nat) : Int)] := by
      rw [← hvs]
      exact pair_eq' (by show ext _ _ _ 7 = _; rw [lt (by omega)]; exact (hρ' 7 (by omega)).trans h7) ext_at
    exact hJ acc w2 cs (by rw [hst]; exact hown2) hfr (by rw [hst]; exact ht) k12
  refine p_fl S.ty.g0 S.ty.oneU32 (show ev ρ (.tmp 12) = ptr tb from h12) rfl htag2 rfl ?_
  refine p_val (v_cmp (kk := .u32) (a := q.1) (b := least) (r := decide ((q.1 : Int) < least)) ext_at (by show ext _ _ _ 2 = _; rw [lt (by omega), lt (by omega)]; exact h2) rfl) ?_
  refine s_cond (b := decide ((q.1 : Int) < least)) ext_at (fun hb => ?_) fun hb => ?_
  · refine skip _ _ (by omega) (fun x hx => by rw [lt (by omega), lt (by omega), lt (by omega)]) ?_
    unfold pStep
    rw [if_pos (by
      have : (q.1 : Int) < least := by simpa using hb
      omega)]
  have hst : pStep least q out = pPut q out := by
    unfold pStep
    rw [if_neg (by
      have : ¬ (q.1 : Int) < least := by simpa using hb
      omega)]
  have hput := pPut_at hbelow hi hat
  obtain ⟨a, cp, e⟩ := own_form hown2
  refine p_val (v_len (a := a) (l := out.length) (c := cp) S.ty.slTag (by show ext _ _ _ 7 = _; rw [lt (by omega), lt (by omega), lt (by omega), h7, e])) ?_
  refine p_val (v_cmp (kk := .i64) (a := i) (b := out.length) (r := decide ((i : Int) < out.length)) (by show ext _ _ _ 14 = _; rw [lt (by omega), lt (by omega), lt (by omega), lt (by omega)]; exact h14) ext_at rfl) ?_
  refine s_cond (b := decide ((i : Int) < out.length)) ext_at (fun hb2 => ?_) fun hb2 => ?_
  · have hlt : i < out.length := by
      have : (i : Int) < out.length := by simpa using hb2
      omega
    obtain ⟨b, cap, spare, e2, hh, hkey⟩ := own_key hown2 ht hlt
    refine p_val (v_indexAddr (b := b) (o := 0) (l := out.length) (c := cap) (j := (i : Int)) (kk := .i64) S.ty.slTag S.szG (by show ext _ _ _ 7 = _; rw [lt (by omega), lt (by omega), lt (by omega), lt (by omega), lt (by omega), h7, e2]) (by show ext _ _ _ 14 = _; rw [lt (by omega), lt (by omega), lt (by omega), lt (by omega), lt (by omega)]; exact h14) (by omega) (by omega)) ?_
    rw [Int.toNat_natCast]
    refine p_fl S.ty.g0 S.ty.oneU32 ext_at rfl hh hkey ?_
    refine p_fl S.ty.g0 S.ty.oneU32 (by show ext _ _ _ 12 = _; rw [lt (by omega), lt (by omega), lt (by omega), lt (by omega), lt (by omega), lt (by omega), lt (by omega), lt (by omega)]; exact h12) rfl htag2 rfl ?_
    refine p_val (v_cmp (kk := .u32) (a := (out[i]'hlt).1) (b := q.1) (r := (((out[i]'hlt).1 : Int) == q.1)) (by show ext _ _ _ (n + 7) = _; rw [lt (by omega), lt (by omega)]; exact ext_at) ext_at rfl) ?_
    rw [dif_pos hlt] at hput
    refine s_cond (b := (((out[i]'hlt).1 : Int) == q.1)) ext_at (fun hb3 => ?_) fun hb3 => ?_
    · refine skip _ _ (by omega) (fun x hx => by rw [lt (by omega), lt (by omega), lt (by omega), lt (by omega), lt (by omega), lt (by omega), lt (by omega), lt (by omega), lt (by omega), lt (by omega), lt (by omega)]) ?_
      rw [hst, hput, if_pos (by
        have : ((out[i]'hlt).1 : Int) = q.1 := by simpa using hb3
        omega)]
    · refine ins _ _ (by omega) (fun x hx => by rw [lt (by omega), lt (by omega), lt (by omega), lt (by omega), lt (by omega), lt (by omega), lt (by omega), lt (by omega), lt (by omega), lt (by omega), lt (by omega)]) ?_
      rw [hst, hput, if_neg (by
        have : ¬ ((out[i]'hlt).1 : Int) = q.1 := by simpa using hb3
        omega)]
  · have hge : ¬ i < out.length := by
      have : ¬ (i : Int) < out.length := by simpa using hb2
      omega
    refine ins _ _ (by omega) (fun x hx => by rw [lt (by omega), lt (by omega), lt (by omega), lt (by omega), lt (by omega)]) ?_
    rw [hst, hput, dif_neg hge, List.take_of_length_le (by omega), List.drop_eq_nil_of_le (by omega)]

theorem pStep_length (least : Nat) (q : Nat × List UInt8) (out : TM) : (pStep least q out).length ≤ out.length + 1 := by
  unfold pStep
  split
  · omega
  · exact pPut_length q out

theorem unknown_gives (S : SpFacts P c s) {fs : List PF} (hK : ∀ (w : World) (fv : Value), FieldsV w fs fv → Yields P s.known [fv] w (.int .u32 (pKnown fs 0))) (hT : treeIn P s.unknown noOrc [.tmp 0, .tmp 1] 2 = tUnknown c s) : UnknownOf P s fs := by
  intro w0 w fv uv u ucs hfv hr ht hkey
  refine gives_in (ρ := en [_, _]) S.rd.mix hT (Nat.le_refl _) rfl (by simp [opBelow]) ?_
  refine s_callx (hK w fv hfv) rfl fun x w1 ⟨hx, k1⟩ => ?_
  subst hx
  obtain ⟨a, cp, rfl⟩ := hr.form
  refine s_val (v_len (a := a) (l := u.length) (c := cp) S.ty.slTag rfl) ?_
  refine s_val (v_min (kk := .i64) (a := u.length) (b := 32767) rfl rfl) ?_
  have hcap : u.length ≤ cp := by
    rcases hr.2 with ⟨h0, _⟩ | ⟨_, _, _, e, _, hc, _⟩
    · omega
    · simp only [Value.slice.injEq] at e; omega
  refine s_val (v_sliceTo (a := a) (l := u.length) (c := cp) (k := .i64) (h := if (32767 : Int) < (u.length : Int) then (32767 : Int) else (u.length : Int)) S.ty.slTag S.szG rfl rfl (by split <;> omega) (by split <;> omega)) ?_
  have e : (u.take 32767).length = (if (32767 : Int) < (u.length : Int) then (32767 : Int) else (u.length : Int)).toNat := by
    rw [take_min, List.length_take]
    split <;> omega
  have h2 := (hr.to (m := (u.take 32767).length) (by rw [e]; split <;> omega)).keep k1
  have h3 := ht.take (u.take 32767).length
  have htk : u.take (u.take 32767).length = u.take 32767 := by rw [List.length_take, List.take_eq_take_min]; simp
  rw [htk] at h3
  rw [← e]
  generalize hl : u.take 32767 = l at h2 h3 e ⊢
  have hl7 : l.length ≤ 32767 := by rw [← hl, List.length_take]; omega
  have hkl : ∀ p ∈ l, p.1 < 4294967296 := fun p hp => hkey p (List.mem_of_mem_take (by rw [hl]; exact hp))
  refine s_val (v_len (a := a) (l := l.length) (c := cp) S.ty.slTag rfl) ?_
  refine s_countV (n := 7) (q := 6) (kk := .i64) (m := l.length) (ri := [.const (.slice none 0 0)]) (Γ := []) (fun j vr w' => ∃ acc cs, vr = [acc] ∧ Own w' acc 2 (pUnknownN (pKnown fs 0) (l.take j) []).length cs ∧ (∀ b ∈ blkOf acc, w1.heap.size ≤ b) ∧ TagsC w0 (pUnknownN (pKnown fs 0) (l.take j) []) cs ∧ Keeps [] w1 w') (by omega) rfl
    ⟨_, [], rfl, Own.nil w1 2, (fun b hb => by cases hb), rfl, .refl⟩ ?_ ?_
  · rintro j hj w2 vr ⟨acc, cs, rfl, hown, hfr, htc, k2⟩ hvr J hJ
    have hj' : j < l.length := by omega
    have hsn : pUnknownN (pKnown fs 0) (l.take (j + 1)) [] = pStep (pKnown fs 0) l[j] (pUnknownN (pKnown fs 0) (l.take j) []) := by
      rw [List.take_succ_eq_append_getElem hj', pUnknownN_snoc]
      rfl
    have hol : (pUnknownN (pKnown fs 0) (l.take j) []).length ≤ j := by
      have := pUnknownN_length (pKnown fs 0) (l.take j) []
      rw [List.length_take] at this
      simp at this
      omega
    generalize hout : pUnknownN (pKnown fs 0) (l.take j) [] = out at hown htc hsn hol
    refine s_eachT (w0 := w0) (tv := .slice a l.length cp) (m := l) (j := j) S (h2.keep k2) h3 rfl rfl hj' fun w3 a3 tb vv hh hvv k3 hb => ?_
    have hown3 := hown.keep k3 (by simp)
    have k13 := k2.trans k3
    have htb : tb ∉ blkOf acc := fun h => by have := hown.lt tb h; omega
    refine ⟨rfl, fun vs w' => ∃ i : Nat, vs = [.int .i64 i] ∧ i ≤ out.length ∧ (∀ p ∈ out.take i, p.1 < (l[j]'hj').1) ∧ Keeps [] w3 w', fun vs _ => match vs with
      | [.int _ i] => (out.length : Int).toNat - i.toNat
      | _ => 0, ⟨0, rfl, by omega, (fun p hp => by simp at hp), .refl⟩, ?_⟩
    rintro _ w4 _ ⟨i, rfl, hi, hbelow, k34⟩
    have k14 := k13.trans k34
    show Tr.sem _ _ _ _ _ _ { w4 with drawn := w4.drawn + 1 }
    have hd : Keeps [] w4 { w4 with drawn := w4.drawn + 1 } := keeps_drawn w4 _ _
    generalize ({ w4 with drawn := w4.drawn + 1 } : World) = w5 at hd ⊢
    have hown5 := (hown3.keep k34 (by simp)).keep hd (by simp)
    have htag5 := (hh.keep k34 (by simp)).keep hd (by simp)
    obtain ⟨a5, c5, e5⟩ := own_form hown5
    have fin : ∀ acc' w' cs', Own w' acc' 2 (pStep (pKnown fs 0) l[j] out).length cs' → (∀ b ∈ blkOf acc', w1.heap.size ≤ b) → TagsC w0 (pStep (pKnown fs 0) l[j] out) cs' → Keeps [] w1 w' → J [acc', .int .i64 ((j + 1 : Nat) : Int)] w' := fun acc' w' cs' h4 h5 h6 h7 => hJ [acc'] w' rfl ⟨acc', cs', rfl, by rw [hsn]; exact h4, h5, by rw [hsn]; exact h6, h7⟩
    refine p_val (v_len (a := a5) (l := out.length) (c := c5) S.ty.slTag e5) ?_
    refine p_val (v_cmp (kk := .i64) (a := i) (b := out.length) (r := decide ((i : Int) < out.length)) rfl rfl rfl) ?_
    refine s_cond (b := decide ((i : Int) < out.length)) rfl (fun hb2 => ?_) fun hb2 => ?_
    · have hlt : i < out.length := by
        have : (i : Int) < out.length := by simpa using hb2
        omega
      obtain ⟨b, cap, spare, e2, hh2, hkey2⟩ := own_key hown5 htc hlt
      refine p_val (v_indexAddr (b := b) (o := 0) (l := out.length) (c := cap) (j := (i : Int)) (kk := .i64) S.ty.slTag S.szG e2 rfl (by omega) (by omega)) ?_
      rw [Int.toNat_natCast]
      refine p_fl S.ty.g0 S.ty.oneU32 rfl rfl hh2 hkey2 ?_
      refine p_fl S.ty.g0 S.ty.oneU32 rfl rfl htag5 rfl ?_
      refine p_val (v_cmp (kk := .u32) (a := (out[i]'hlt).1) (b := (l[j]'hj').1) (r := decide (((out[i]'hlt).1 : Int) < (l[j]'hj').1)) rfl rfl rfl) ?_
      refine s_cond (b := decide (((out[i]'hlt).1 : Int) < (l[j]'hj').1)) rfl (fun hb3 => ?_) fun hb3 => ?_
      · have hlt3 : (out[i]'hlt).1 < (l[j]'hj').1 := by
          have : ((out[i]'hlt).1 : Int) < (l[j]'hj').1 := by simpa using hb3
          omega
        refine s_val (v_arith (kk := .i64) (a := i) (b := 1) (r := ((i + 1 : Nat) : Int)) rfl rfl (by simp only [arithOf, Option.some.injEq]; rw [IntKind.wrap_i64]; omega)) ?_
        refine ⟨_, rfl, ⟨i + 1, rfl, by omega, ?_, k34.trans hd⟩, ?_⟩
        · intro p hp
          rw [List.take_succ_eq_append_getElem hlt, List.mem_append] at hp
          rcases hp with hp | hp
          · exact hbelow p hp
          · simp only [List.mem_singleton] at hp
            subst hp
            exact hlt3
        · show (out.length : Int).toNat - ((i + 1 : Nat) : Int).toNat < (out.length : Int).toNat - (i : Int).toNat
          omega
      · refine sem_same (acc := acc) (vv := vv) (tb := tb) (i := i) (j := j) (least := pKnown fs 0) (q := l[j]) (out := out) (cs := cs) (w0 := w0) (w1 := w1) S rfl rfl rfl rfl rfl (by omega) hown5 hfr htc htag5 hvv htb hi hbelow (fun h => ?_) (by omega) (by omega) (k14.trans hd) fin
        have : ¬ ((out[i]'hlt).1 : Int) < (l[j]'hj').1 := by simpa using hb3
        omega
    · refine sem_same (acc := acc) (vv := vv) (tb := tb) (i := i) (j := j) (least := pKnown fs 0) (q := l[j]) (out := out) (cs := cs) (w0 := w0) (w1 := w1) S rfl rfl rfl rfl rfl (by omega) hown5 hfr htc htag5 hvv htb hi hbelow (fun h => ?_) (by omega) (by omega) (k14.trans hd) fin
      have : ¬ (i : Int) < out.length := by simpa using hb2
      omega
  · rintro w2 vr J ⟨acc, cs, rfl, hown, hfr, htc, k2⟩ hvr
    rw [Int.toNat_natCast, List.take_length] at hown htc
    refine s_ret1 ⟨cs, ?_, ?_, fun b hb => Nat.le_trans k1.size (hfr b hb), k1.trans k2⟩
    · unfold pUnknown
      rw [hl]
      exact hown
    · unfold pUnknown
      rw [hl]
      exact htc
end
end Go.Kf
/- Maps from numbers: their operations. -/
namespace Go.Kf
open Go

def MapIs (w : World) (b : Nat) (es : List MapEntry) (clock : Nat) : Prop := w.heap[b]? = some (.map ⟨es⟩ clock)

theorem MapIs.lt {w : World} {b clock : Nat} {es : List MapEntry} (h : MapIs w b es clock) : b < w.heap.size := (Array.getElem?_eq_some_iff.1 h).1

theorem MapIs.keep {M : List Nat} {w w' : World} {b clock : Nat} {es : List MapEntry} (h : MapIs w b es clock) (hk : Keeps M w w') (hm : b ∉ M) : MapIs w' b es clock := by
  have hl := h.lt
  unfold MapIs at *
  rw [hk.block b hl hm]; exact h

/-- An iterator. -/
def IterIs (w : World) (b mb since : Nat) (seen : List Nat) (last : Nat) : Prop := w.heap[b]? = some (.mapIter (some mb) since ⟨seen⟩ last)

theorem IterIs.lt {w : World} {b mb s l : Nat} {seen : List Nat} (h : IterIs w b mb s seen l) : b < w.heap.size := (Array.getElem?_eq_some_iff.1 h).1

theorem IterIs.keep {M : List Nat} {w w' : World} {b mb s l : Nat} {seen : List Nat} (h : IterIs w b mb s seen l) (hk : Keeps M w w') (hm : b ∉ M) : IterIs w' b mb s seen l := by
  have hl := h.lt
  unfold IterIs at *
  rw [hk.block b hl hm]; exact h

theorem keeps_put (w : World) (b : Nat) (o : Obj) : Keeps [b] w { w with heap := w.heap.setIfInBounds b o } :=
  ⟨rfl, rfl, rfl, by simp, fun k hk hm => by
    simp only [List.mem_singleton] at hm
    rw [Array.getElem?_setIfInBounds, if_neg (fun e => hm e.symm)]⟩

theorem put_at {w : World} {b : Nat} (o : Obj) (h : b < w.heap.size) : (w.heap.setIfInBounds b o)[b]? = some o := by
  simp [h]

section
variable {P : Program} {ρ : Nat → Value} {w : World}

theorem a_makeMap {t : Nat} : ∃ w', runOp P ρ (.makeMap t none) w = .ok (.value (.map (some w.heap.size))) w' ∧ MapIs w' w.heap.size [] 0 ∧ Keeps [] w w' ∧ w'.heap.size = w.heap.size + 1 := by
  refine ⟨{ w with heap := w.heap.push (.map #[] 0) }, ?_, ?_, keeps_alloc w _ _, by simp⟩
  · unfold runOp bareOp
    simp only [execOp, Instr.makeMap, Option.map_none, Sem.run_bind, Sem.run_pure, Result.andThen_ok, run_newObj]
  · unfold MapIs
    simp

/-- A key's entry. -/
def keyIs (n : Int) (e : MapEntry) : Bool := match e.key with
  | .int _ m => n == m
  | _ => false

/-- An update, of the entries. -/
def esSet : List MapEntry → Int → Value → Nat → List MapEntry
  | [], n, v, clock => [{ key := .int .u32 n, val := v, born := clock }]
  | e :: es, n, v, clock => if keyIs n e then { e with key := .int .u32 n, val := v } :: es else e :: esSet es n v clock

def esHas (es : List MapEntry) (n : Int) : Bool := es.any (keyIs n)

def Keys32 (es : List MapEntry) : Prop := ∀ e ∈ es, ∃ m, e.key = .int .u32 m

theorem findNow_spec {k : Int} : ∀ (es : List MapEntry) (i : Nat), Keys32 es → (esHas es k = false ∧ Instr.findNow (.int .u32) (.int .u32 k) es i = some none) ∨
    ∃ j e, es[j]? = some e ∧ keyIs k e = true ∧ (∀ j' e', j' < j → es[j']? = some e' → keyIs k e' = false) ∧ Instr.findNow (.int .u32) (.int .u32 k) es i = some (some (i + j, e.val))
  | [], i, _ => .inl ⟨rfl, rfl⟩
  | e :: es, i, h => by
    obtain ⟨m, hm⟩ := h e List.mem_cons_self
    by_cases hkm : k = m
    · refine .inr ⟨0, e, rfl, by simp [keyIs, hm, hkm], fun j' e' hj => by omega, ?_⟩
      simp [Instr.findNow, Instr.sameNow, hm, hkm]
    · have hf : keyIs k e = false := by simp [keyIs, hm, hkm]
      have hstep : Instr.findNow (.int .u32) (.int .u32 k) (e :: es) i = Instr.findNow (.int .u32) (.int .u32 k) es (i + 1) := by
        have hb : (k == m) = false := by simpa using hkm
        simp [Instr.findNow, Instr.sameNow, hm, hb]
      rcases findNow_spec es (i + 1) (fun x hx => h x (List.mem_cons_of_mem _ hx)) with ⟨h1, h2⟩ | ⟨j, e', h1, h2, h3, h4⟩
      · refine .inl ⟨by simp [esHas, hf] at h1 ⊢; exact h1, by rw [hstep, h2]⟩
      · refine .inr ⟨j + 1, e', by simpa using h1, h2, fun j' e'' hj he => ?_, by rw [hstep, h4]; congr 3; omega⟩
        cases j' with
        | zero => simp only [List.getElem?_cons_zero, Option.some.injEq] at he; rw [← he]; exact hf
        | succ j' => exact h3 j' e'' (by omega) (by simpa using he)

theorem esSet_push {n : Int} {v : Value} {clock : Nat} : ∀ {es : List MapEntry}, esHas es n = false → esSet es n v clock = es ++ [{ key := .int .u32 n, val := v, born := clock }]
  | [], _ => rfl
  | e :: es, h => by
    simp only [esHas, List.any_cons, Bool.or_eq_false_iff] at h
    simp only [esSet, h.1, Bool.false_eq_true, if_false, List.cons_append]
    rw [esSet_push h.2]

theorem esSet_modify {n : Int} {v : Value} {clock : Nat} : ∀ {es : List MapEntry} {j : Nat} {e : MapEntry}, es[j]? = some e → keyIs n e = true → (∀ j' e', j' < j → es[j']? = some e' → keyIs n e' = false) →
    esSet es n v clock = es.modify j fun e => { e with key := .int .u32 n, val := v }
  | [], j, e, h, _, _ => by simp at h
  | x :: es, 0, e, h, hk, _ => by
    simp only [List.getElem?_cons_zero, Option.some.injEq] at h
    subst h
    simp [esSet, hk]
  | x :: es, j + 1, e, h, hk, hb => by
    have hx := hb 0 x (by omega) rfl
    simp only [esSet, hx, Bool.false_eq_true, if_false, List.modify_succ_cons]
    rw [esSet_modify (by simpa using h) hk fun j' e' hj he => hb (j' + 1) e' (by omega) (by simpa using he)]

theorem run_checkKey {kt : Nat} {k : Int} {b : Bool} (hk : P.underlying kt = some (.int .u32)) : (Instr.checkKey b 10000 kt (.int .u32 k)).run P w = .ok () w := by
  unfold Instr.checkKey
  simp [run_under hk]

theorem a_mapUpdate {t kt et b clock : Nat} {m k x : Operand} {es : List MapEntry} {n : Int} {v : Value} (ht : P.underlying t = some (.map kt et)) (hk : P.underlying kt = some (.int .u32)) (hm : ev ρ m = .map (some b)) (hkey : ev ρ k = .int .u32 n) (hv : ev ρ x = v)
    (hb : MapIs w b es clock) (h32 : Keys32 es) : ∃ w', runOp P ρ (.mapUpdate t m k x) w = .ok .skip w' ∧ MapIs w' b (esSet es n v clock) (if esHas es n then clock else clock + 1) ∧ Keeps [b] w w' := by
  have hbs := hb.lt
  have hg : (getObj b).run P w = .ok (.map ⟨es⟩ clock) w := MapKept.run_getObj_map hb
  rcases findNow_spec (k := n) es 0 h32 with ⟨h1, h2⟩ | ⟨j, e, h1, h2, h3, h4⟩
  · refine ⟨{ w with heap := w.heap.setIfInBounds b (.map ⟨esSet es n v clock⟩ (clock + 1)) }, ?_, ?_, keeps_put _ _ _⟩
    · unfold runOp bareOp
      simp only [execOp, Instr.mapUpdate, hm, hkey, hv, Sem.run_bind, run_under ht, Result.andThen_ok, hg, run_checkKey hk, Instr.findKey, run_under hk, h2, Sem.run_pure, MapKept.run_setObj_map _ hb]
      rw [esSet_push h1]
      simp
    · unfold MapIs
      rw [h1]
      exact put_at _ hbs
  · have hhas : esHas es n = true := List.any_eq_true.2 ⟨e, List.mem_of_getElem? h1, h2⟩
    refine ⟨{ w with heap := w.heap.setIfInBounds b (.map ⟨esSet es n v clock⟩ clock) }, ?_, ?_, keeps_put _ _ _⟩
    · obtain ⟨m', hm'⟩ := h32 e (List.mem_of_getElem? h1)
      have hmn : m' = n := by simp [keyIs, hm'] at h2; exact h2.symm
      subst hmn
      have hstay : ∀ w, (Instr.keyThatStays (.int .u32 m') (.int .u32 m')).run P w = .ok (.int .u32 m') w := fun w => by
        simp [Instr.keyThatStays, Instr.sameBits]
      have hold : ((((⟨es⟩ : Array MapEntry)[0 + j]?).map (·.key)).getD (.int .u32 m')) = .int .u32 m' := by
        rw [Nat.zero_add, List.getElem?_toArray, h1]; exact hm'
      unfold runOp bareOp
      simp only [execOp, Instr.mapUpdate, hm, hkey, hv, Sem.run_bind, run_under ht, Result.andThen_ok, hg, run_checkKey hk, Instr.findKey, run_under hk, h4, Sem.run_pure, hold, hstay, MapKept.run_setObj_map _ hb]
      rw [esSet_modify h1 h2 h3]
      simp
    · unfold MapIs
      rw [hhas]
      exact put_at _ hbs

theorem l_lookup {t kt et b clock j : Nat} {m k : Operand} {es : List MapEntry} {n : Int} {e : MapEntry} (ht : P.underlying t = some (.map kt et)) (hk : P.underlying kt = some (.int .u32)) (hm : ev ρ m = .map (some b)) (hkey : ev ρ k = .int .u32 n)
    (hb : MapIs w b es clock) (h32 : Keys32 es) (hj : es[j]? = some e) (hje : keyIs n e = true) (hjb : ∀ j' e', j' < j → es[j']? = some e' → keyIs n e' = false) : runOp P ρ (.lookup t m k false) w = .ok (.value e.val) w := by
  have hg : (getObj b).run P w = .ok (.map ⟨es⟩ clock) w := MapKept.run_getObj_map hb
  rcases findNow_spec (k := n) es 0 h32 with ⟨h1, h2⟩ | ⟨j', e', h1, h2, h3, h4⟩
  · have : esHas es n = true := List.any_eq_true.2 ⟨e, List.mem_of_getElem? hj, hje⟩
    rw [this] at h1; cases h1
  · have hjj : j' = j := by
      rcases Nat.lt_trichotomy j' j with h | h | h
      · have := hjb j' e' h h1; rw [h2] at this; cases this
      · exact h
      · have := h3 j e h hj; rw [hje] at this; cases this
    subst hjj
    obtain rfl : e' = e := by rw [hj] at h1; simpa using h1.symm
    unfold runOp bareOp
    simp only [execOp, Instr.lookup, hm, hkey, Sem.run_bind, run_under ht, Result.andThen_ok, hg, Sem.run_pure, run_checkKey hk, Instr.findKey, run_under hk, h4]
    simp

theorem l_lenMap {t kt et b clock : Nat} {x : Operand} {es : List MapEntry} (ht : P.underlying t = some (.map kt et)) (hx : ev ρ x = .map (some b)) (hb : MapIs w b es clock) : runOp P ρ (.call { callee := .builtin .len, args := ⟨[x]⟩, argTypes := ⟨[t]⟩ }) w = .ok (.value (.int .i64 es.length)) w := by
  have hg : (getObj b).run P w = .ok (.map ⟨es⟩ clock) w := MapKept.run_getObj_map hb
  unfold runOp bareOp
  simp only [execOp, resolve, pure_bind, invoke, builtin, Builtin.len_]
  simp [run_under ht, hx, goInt, hg]

theorem v_lenNilMap {t kt et : Nat} {x : Operand} (ht : P.underlying t = some (.map kt et)) (hx : ev ρ x = .map none) : Val P ρ (.call { callee := .builtin .len, args := ⟨[x]⟩, argTypes := ⟨[t]⟩ }) (.int .i64 0) := fun w => by
  unfold runOp bareOp
  simp only [execOp, resolve, pure_bind, invoke, builtin, Builtin.len_]
  simp [run_under ht, hx, goInt]

theorem a_range {t kt et b clock : Nat} {x : Operand} {es : List MapEntry} (ht : P.underlying t = some (.map kt et)) (hx : ev ρ x = .map (some b)) (hb : MapIs w b es clock) :
    ∃ w', runOp P ρ (.range t x) w = .ok (.value (ptr w.heap.size)) w' ∧ IterIs w' w.heap.size b clock [] clock ∧ Keeps [] w w' ∧ w'.heap.size = w.heap.size + 1 := by
  have hg : (getObj b).run P w = .ok (.map ⟨es⟩ clock) w := MapKept.run_getObj_map hb
  refine ⟨{ w with heap := w.heap.push (.mapIter (some b) clock #[] clock) }, ?_, ?_, keeps_alloc w _ _, by simp⟩
  · unfold runOp bareOp
    simp only [execOp, Instr.range, hx, Sem.run_bind, run_under ht, Result.andThen_ok, hg, Sem.run_pure, run_newObj]
    rfl
  · unfold IterIs
    simp

/-- A step of an iterator: none is left, or one of those that are left. -/
theorem a_next {b mb clock : Nat} {x : Operand} {es : List MapEntry} {seen : List Nat} (hx : ev ρ x = ptr b) (hi : IterIs w b mb clock seen clock) (hm : MapIs w mb es clock) (hborn : ∀ e ∈ es, e.born < clock) :
    ((∀ e ∈ es, e.born ∈ seen) ∧ ∃ w', runOp P ρ (.next x false) w = .ok (.value (.tuple #[.bool false])) w' ∧ Keeps [] w w') ∨
    ∃ e ∈ es, e.born ∉ seen ∧ ∃ w', runOp P ρ (.next x false) w = .ok (.value (.tuple #[.bool true, e.key, e.val])) w' ∧ IterIs w' b mb clock (seen ++ [e.born]) clock ∧ Keeps [b] w w' := by
  have hgi : (getObj b).run P w = .ok (.mapIter (some mb) clock ⟨seen⟩ clock) w := by
    unfold IterIs at hi
    simp [getObj, Sem.run, hi]
  have hgm : (getObj mb).run P w = .ok (.map ⟨es⟩ clock) w := MapKept.run_getObj_map hm
  have hall : (!(⟨seen⟩ : Array Nat).isEmpty && !(⟨es⟩ : Array MapEntry).isEmpty && (⟨es⟩ : Array MapEntry).all (fun e => decide (e.born ≥ clock))) = false := by
    cases es with
    | nil => simp
    | cons e es =>
      have h1 := hborn e List.mem_cons_self
      have : ¬ (clock ≤ e.born) := by omega
      simp [this]
  generalize hleft : ((⟨es⟩ : Array MapEntry).filter fun e => !(⟨seen⟩ : Array Nat).contains e.born) = left at *
  have hl1 : ∀ e, e ∈ left ↔ e ∈ es ∧ e.born ∉ seen := by
    intro e
    rw [← hleft]
    simp
  have hold : left.filter (fun e => decide (e.born < clock)) = left := by
    apply Array.ext'
    rw [Array.toList_filter, List.filter_eq_self]
    intro e he
    have := ((hl1 e).1 (by simpa using he)).1
    simpa using hborn e this
  have hnew : left.filter (fun e => decide (e.born ≥ clock)) = #[] := by
    apply Array.ext'
    rw [Array.toList_filter, List.filter_eq_nil_iff]
    intro e he
    have := ((hl1 e).1 (by simpa using he)).1
    have := hborn e this
    simp; omega
  obtain ⟨i, w1, hc, hlt, k1, hheap⟩ : ∃ i w1, (choose (.mapNext ((if left.isEmpty then #[none] else #[]) ++ (left ++ #[]).map some : Array (Option MapEntry)).size)).run P w = .ok i w1 ∧ i < ((if left.isEmpty then #[none] else #[]) ++ (left ++ #[]).map some : Array (Option MapEntry)).size ∧ Keeps [] w w1 ∧ w1.heap = w.heap := by
    have hpos : 0 < ((if left.isEmpty then #[none] else #[]) ++ (left ++ #[]).map some : Array (Option MapEntry)).size := by
      cases hle : left.isEmpty with
      | true => simp; omega
      | false =>
        have : left.size ≠ 0 := by
          intro h0
          rw [Array.isEmpty_eq_false_iff] at hle
          exact hle (Array.eq_empty_of_size_eq_zero h0)
        simp; omega
    generalize ((if left.isEmpty then #[none] else #[]) ++ (left ++ #[]).map some : Array (Option MapEntry)).size = N at *
    rw [run_choose_drew]
    by_cases hf : (Question.mapNext N).forced = true
    · rw [if_pos hf]; exact ⟨0, w, rfl, hpos, .refl, rfl⟩
    · rw [if_neg hf]; exact ⟨_, w.drew, rfl, Nat.mod_lt _ hpos, keeps_drawn _ _ _, rfl⟩
  have hi1 : w1.heap[b]? = some (.mapIter (some mb) clock ⟨seen⟩ clock) := by rw [hheap]; exact hi
  have hset : ∀ o, (setObj b o).run P w1 = .ok () { w1 with heap := w1.heap.setIfInBounds b o } := fun o => by simp [setObj, Sem.run, hi1]
  by_cases hle : left.isEmpty = true
  · left
    have hnil : left = #[] := by simpa using hle
    refine ⟨fun e he => ?_, w1, ?_, k1⟩
    · by_cases hs : e.born ∈ seen
      · exact hs
      · have := (hl1 e).2 ⟨he, hs⟩
        rw [hnil] at this
        simp at this
    · rw [hle] at hc hlt
      rw [hnil] at hc hlt
      simp only [if_true, Array.append_empty, Array.map_empty] at hc hlt
      have h0 : i = 0 := by simp at hlt; omega
      subst h0
      unfold runOp bareOp
      simp only [execOp, Instr.next, hx, ptr, Sem.run_bind, Result.andThen_ok, hgi, hgm, hall, Bool.false_eq_true, if_false, hleft, hold, hnew, hle, if_true]
      rw [hnil]
      simp only [Array.append_empty, Array.map_empty, hc, Result.andThen_ok]
      simp
  · right
    have hf : left.isEmpty = false := by simpa using hle
    rw [hf] at hc hlt
    simp only [Bool.false_eq_true, if_false, Array.append_empty, Array.empty_append, Array.size_map] at hc hlt
    have hmem : left[i] ∈ left := Array.getElem_mem _
    refine ⟨left[i], ((hl1 _).1 hmem).1, ((hl1 _).1 hmem).2, { w1 with heap := w1.heap.setIfInBounds b (.mapIter (some mb) clock ((⟨seen⟩ : Array Nat).push left[i].born) clock) }, ?_, ?_, (k1.mono (by simp)).trans (keeps_put _ _ _)⟩
    · unfold runOp bareOp
      simp only [execOp, Instr.next, hx, ptr, Sem.run_bind, Result.andThen_ok, hgi, hgm, hall, Bool.false_eq_true, if_false, hleft, hold, hnew, hf, Array.append_empty, Array.empty_append, Array.size_map, hc]
      have hget : (left.map some)[i]? = some (some left[i]) := by simp [hlt]
      rw [hget]
      simp only [Sem.run_bind, hset, Result.andThen_ok, Sem.run_pure]
    · unfold IterIs
      rw [put_at _ (Array.getElem?_eq_some_iff.1 hi1).1]
      simp

/-- The entry behind a step. -/
theorem l_entry {b mb clock : Nat} {x : Operand} {es : List MapEntry} {seen : List Nat} {e : MapEntry} (hx : ev ρ x = ptr b) (hi : IterIs w b mb clock (seen ++ [e.born]) clock) (hm : MapIs w mb es clock) (he : e ∈ es) (hp : es.Pairwise (fun a b => a.born < b.born)) :
    runOp P ρ (.entry x) w = .ok (.value (.tuple #[e.key, e.val])) w := by
  have hgi : (getObj b).run P w = .ok (.mapIter (some mb) clock ⟨seen ++ [e.born]⟩ clock) w := by
    unfold IterIs at hi
    simp [getObj, Sem.run, hi]
  have hgm : (getObj mb).run P w = .ok (.map ⟨es⟩ clock) w := MapKept.run_getObj_map hm
  have hfind : (⟨es⟩ : Array MapEntry).find? (fun x => x.born == e.born) = some e := by
    show es.toArray.find? _ = _
    rw [List.find?_toArray]
    have : ∀ (es : List MapEntry), e ∈ es → es.Pairwise (fun a b => a.born < b.born) → es.find? (fun x => x.born == e.born) = some e := by
      intro es
      induction es with
      | nil => intro h; cases h
      | cons a es ih =>
        intro h hp
        rcases List.mem_cons.1 h with h1 | h1
        · rw [← h1]; simp
        · have hlt := (List.pairwise_cons.1 hp).1 e h1
          rw [List.find?_cons_of_neg (by simp; omega)]
          exact ih h1 (List.pairwise_cons.1 hp).2
    exact this es he hp
  have hback : (⟨seen ++ [e.born]⟩ : Array Nat).back? = some e.born := by
    show (seen ++ [e.born]).toArray.back? = _
    simp
  unfold runOp bareOp
  simp only [execOp, Instr.entry, hx, ptr, Sem.run_bind, Result.andThen_ok, hgi, hgm, hback, hfind, bne_self_eq_false, Bool.false_eq_true, if_false, Sem.run_pure]
end
end Go.Kf
/- Unknown tags: how they are set and read. -/
namespace Go.Kf
open Go

/-- The types' facts that tags ask. -/
structure TagFacts (P : Program) (c : Nums) : Prop where
  f0 : fieldOff P c.tTags 0 = some 0
  map : P.underlying c.tMap = some (.map c.tU32 c.tBytes)
  oneMap : oneTy P c.tMap = true
  agg : aggTy P c.tTags = some 1
  zero : zeroTy P c.tTags = some (.agg ⟨[.map none]⟩, 1)
  keys : P.underlying c.tKeys = some (.slice c.tU32)
  oneKeys : oneTy P c.tKeys = true
  zeroKeys : zeroTy P c.tKeys = some (.slice none 0 0, 1)
  oneU32 : oneTy P c.tU32 = true
  zeroU32 : chkInfo P c.tU32 1 8 = true

theorem EntsAt.any {D : Nat} {w w' : World} {M : List Nat} {es : List MapEntry} {m : TM} (h : ∀ L, EntsAt D w L es m) (hk : Keeps M w w') (hD : D ∉ M) : ∀ L, EntsAt D w' L es m := by
  intro L
  have hb : ∃ B, ∀ b ∈ M, b < B := by
    clear hD hk
    induction M with
    | nil => exact ⟨0, fun b hb => by cases hb⟩
    | cons x M ih =>
      obtain ⟨B, hB⟩ := ih
      exact ⟨B + x + 1, fun b hb => by
        rcases List.mem_cons.1 hb with h | h
        · omega
        · have := hB b h; omega⟩
  obtain ⟨B, hB⟩ := hb
  exact EntsAt.imp (fun e p ⟨he, nl, ho⟩ => ⟨he, nl, (ho.keep hk (fun b hb => ⟨fun e => hD (by rw [← e]; exact hb), by have := hB b hb; omega⟩)).mono (Nat.le_add_right L B)⟩) (h (L + B))

/-- Tags whose octets lie in block D alone, in a map from h0 on. -/
def TagsZ (D : Nat) (w : World) (h0 : Nat) (m : TM) (v : Value) : Prop :=
  (v = .map none ∧ m = []) ∨ ∃ b es clock, h0 ≤ b ∧ v = .map (some b) ∧ MapIs w b es clock ∧ (∀ L, EntsAt D w L es m) ∧ es.Pairwise (fun a b => a.born < b.born) ∧ (∀ e ∈ es, e.born < clock) ∧
    (∀ p ∈ m, p.1 < 2 ^ 32) ∧ (m.map (·.1)).Nodup ∧ m ≠ []

theorem TagsZ.at {D h0 lo : Nat} {w : World} {m : TM} {v : Value} (h : TagsZ D w h0 m v) (hl : lo ≤ h0) : TagsAt D w lo m v := by
  rcases h with h | ⟨b, es, clock, hb, hv, hm, he, r⟩
  · exact .inl h
  · exact .inr ⟨b, ⟨es⟩, clock, by omega, hv, hm, he lo, r⟩

theorem TagsZ.keep {D h0 : Nat} {w w' : World} {m : TM} {v : Value} {M : List Nat} (h : TagsZ D w h0 m v) (hk : Keeps M w w') (hD : D ∉ M) (hm : ∀ b ∈ M, b < h0) : TagsZ D w' h0 m v := by
  rcases h with h | ⟨b, es, clock, hb, hv, hmm, he, r⟩
  · exact .inl h
  · exact .inr ⟨b, es, clock, hb, hv, hmm.keep hk (fun hb' => by have := hm b hb'; omega), EntsAt.any he hk hD, r⟩

theorem EntsAt.keys {D L : Nat} {w : World} : ∀ {es : List MapEntry} {m : TM}, EntsAt D w L es m → Keys32 es
  | [], [], _ => fun e h => by cases h
  | e :: es, p :: m, ⟨h1, h2⟩ => fun x hx => by
    rcases List.mem_cons.1 hx with h | h
    · rw [h]; exact ⟨_, h1.1⟩
    · exact EntsAt.keys h2 x h
  | [], _ :: _, h => h.elim
  | _ :: _, [], h => h.elim

theorem EntAt.is {D L : Nat} {w : World} {e : MapEntry} {p : Nat × List UInt8} (h : EntAt D w L e p) (k : Nat) : keyIs k e = decide (p.1 = k) := by
  simp only [keyIs, h.1]
  by_cases hk : p.1 = k
  · simp [hk]
  · have : ((k : Int) == (p.1 : Int)) = false := by simp; omega
    simp [hk, this]

theorem EntsAt.set {D L k clock : Nat} {w : World} {l : List UInt8} {v : Value} (hv : ∃ nl, OctAt w D L nl l v) : ∀ {es : List MapEntry} {m : TM}, EntsAt D w L es m → EntsAt D w L (esSet es k v clock) (tmSet m k l)
  | [], [], _ => ⟨⟨rfl, hv⟩, trivial⟩
  | e :: es, p :: m, ⟨h1, h2⟩ => by
    simp only [esSet, tmSet, h1.is k, decide_eq_true_eq]
    split
    · exact ⟨⟨rfl, hv⟩, h2⟩
    · exact ⟨h1, EntsAt.set hv h2⟩
  | [], _ :: _, h => h.elim
  | _ :: _, [], h => h.elim

theorem esSet_born {n : Int} {v : Value} {clock : Nat} : ∀ (es : List MapEntry), (esSet es n v clock).map (·.born) = if esHas es n then es.map (·.born) else es.map (·.born) ++ [clock]
  | [] => rfl
  | e :: es => by
    have ih := esSet_born (n := n) (v := v) (clock := clock) es
    by_cases hk : keyIs n e = true
    · have hh : esHas (e :: es) n = true := by simp [esHas, hk]
      rw [if_pos hh]
      simp [esSet, hk]
    · have hk' : keyIs n e = false := by simpa using hk
      have hh : esHas (e :: es) n = esHas es n := by simp [esHas, hk']
      rw [hh]
      simp only [esSet, hk', Bool.false_eq_true, if_false, List.map_cons, ih]
      split <;> simp

theorem born_pair {es : List MapEntry} : es.Pairwise (fun a b => a.born < b.born) ↔ (es.map (·.born)).Pairwise (· < ·) := by
  rw [List.pairwise_map]

theorem esSet_ok {n : Int} {v : Value} {clock : Nat} {es : List MapEntry} (hp : es.Pairwise (fun a b => a.born < b.born)) (hb : ∀ e ∈ es, e.born < clock) :
    (esSet es n v clock).Pairwise (fun a b => a.born < b.born) ∧ ∀ e ∈ esSet es n v clock, e.born < (if esHas es n then clock else clock + 1) := by
  have h := esSet_born (n := n) (v := v) (clock := clock) es
  refine ⟨?_, fun e he => ?_⟩
  · rw [born_pair, h]
    rw [born_pair] at hp
    split
    · exact hp
    · rw [List.pairwise_append]
      refine ⟨hp, by simp, fun a ha b hb' => ?_⟩
      obtain ⟨e, he, rfl⟩ := List.mem_map.1 ha
      simp only [List.mem_singleton] at hb'
      subst hb'
      exact hb e he
  · have hm : e.born ∈ (esSet es n v clock).map (·.born) := List.mem_map_of_mem he
    rw [h] at hm
    split
    · rename_i hh
      rw [if_pos hh] at hm
      obtain ⟨e', he', h1⟩ := List.mem_map.1 hm
      rw [← h1]; exact hb e' he'
    · rename_i hh
      rw [if_neg hh] at hm
      rcases List.mem_append.1 hm with h1 | h1
      · obtain ⟨e', he', h2⟩ := List.mem_map.1 h1
        have := hb e' he'; omega
      · simp only [List.mem_singleton] at h1; omega

theorem tmSet_keys : ∀ (m : TM) (k : Nat) (l : List UInt8), (tmSet m k l).map (·.1) = if k ∈ m.map (·.1) then m.map (·.1) else m.map (·.1) ++ [k]
  | [], k, l => rfl
  | p :: m, k, l => by
    by_cases hp : p.1 = k
    · simp [tmSet, hp]
    · have := tmSet_keys m k l
      have hpk : ¬ k = p.1 := fun e => hp e.symm
      simp only [tmSet, if_neg hp, List.map_cons, this, List.mem_cons, hpk, false_or]
      split <;> simp

theorem tmSet_nodup {m : TM} {k : Nat} {l : List UInt8} (h : (m.map (·.1)).Nodup) : ((tmSet m k l).map (·.1)).Nodup := by
  rw [tmSet_keys]
  split
  · exact h
  · rename_i hn
    rw [List.nodup_append]
    refine ⟨h, by simp, fun a ha b hb => ?_⟩
    simp only [List.mem_singleton] at hb
    subst hb
    exact fun e => hn (e ▸ ha)

theorem tmSet_lt {m : TM} {k : Nat} {l : List UInt8} (h : ∀ p ∈ m, p.1 < 2 ^ 32) (hk : k < 2 ^ 32) : ∀ p ∈ tmSet m k l, p.1 < 2 ^ 32 := fun p hp => by
  rcases tmSet_mem _ _ _ _ hp with h1 | h1
  · exact h p h1
  · rw [h1]; exact hk

theorem tmSet_ne (m : TM) (k : Nat) (l : List UInt8) : tmSet m k l ≠ [] := by
  cases m with
  | nil => simp [tmSet]
  | cons p m => simp only [tmSet]; split <;> simp

section
variable {P : Program} {c : Nums}

def tTagSet (c : Nums) : Tr :=
  gGet (.tmp 0) c.tTags 0 c.tMap 3 <| .op (.binOp .eql c.tMap (.tmp 5) (.const (.map none)) c.tMap) none [] <|
  .join 0 (.cond (.tmp 6) (.op (.makeMap c.tMap none) none [] <| gSet (.tmp 0) c.tTags 0 c.tMap (.tmp 7) 8 <| .to 0 []) (.to 0 [])) 0 <|
  gGet (.tmp 0) c.tTags 0 c.tMap 7 <| .op (.mapUpdate c.tMap (.tmp 9) (.tmp 1) (.tmp 2)) none [] <| .ret []

def TagSet (P : Program) (f : Nat) : Prop := ∀ (D h0 tb k : Nat) (w : World) (m : TM) (mv v : Value) (nl : Bool) (l : List UInt8), Has w tb [mv] → TagsZ D w h0 m mv → tb ≠ D → tb < h0 → D < h0 → h0 ≤ w.heap.size → k < 2 ^ 32 → (∀ L, OctAt w D L nl l v) →
  Gives P f [ptr tb, .int .u32 k, v] w fun _ w' => ∃ mv', Has w' tb [mv'] ∧ TagsZ D w' h0 (tmSet m k l) mv' ∧ ∃ M, Keeps M w w' ∧ ∀ b ∈ M, b = tb ∨ h0 ≤ b

theorem OctAt.any {D : Nat} {w w' : World} {M : List Nat} {nl : Bool} {l : List UInt8} {v : Value} (h : ∀ L, OctAt w D L nl l v) (hk : Keeps M w w') (hD : D ∉ M) : ∀ L, OctAt w' D L nl l v := by
  intro L
  have h1 := h L
  refine ⟨h1.1.keep hk (fun b hb hbM => ?_), h1.2.1, h1.2.2⟩
  rcases (h (b + 1)).2.2 b hb with e | e
  · exact hD (e ▸ hbM)
  · omega

theorem tagSet_gives {f : Nat} (F : RdFacts P c) (T : TagFacts P c) (hT : treeIn P f noOrc [.tmp 0, .tmp 1, .tmp 2] 3 = tTagSet c) : TagSet P f := by
  intro D h0 tb k w m mv v nl l hh hz htD htb hD hsz hk ho
  refine gives_in (ρ := en [ptr tb, .int .u32 k, v]) F.mix hT (Nat.le_refl _) rfl (by simp [opBelow]) ?_
  -- the rest, once a map lies there
  have rest : ∀ (w1 : World) (ρ : Nat → Value) (Γ : List (List Value → World → Prop)) (b : Nat) (es : List MapEntry) (clock : Nat) (M : List Nat), ρ 0 = ptr tb → ρ 1 = .int .u32 k → ρ 2 = v → Has w1 tb [.map (some b)] → h0 ≤ b → MapIs w1 b es clock → (∀ L, EntsAt D w1 L es m) → es.Pairwise (fun a b => a.born < b.born) → (∀ e ∈ es, e.born < clock) →
      (∀ p ∈ m, p.1 < 2 ^ 32) → (m.map (·.1)).Nodup → (∀ L, OctAt w1 D L nl l v) → Keeps M w w1 → (∀ b ∈ M, b = tb ∨ h0 ≤ b) →
      (gGet (.tmp 0) c.tTags 0 c.tMap 7 <| .op (.mapUpdate c.tMap (.tmp 9) (.tmp 1) (.tmp 2)) none [] <| .ret []).sem P (fun _ w' => ∃ mv', Has w' tb [mv'] ∧ TagsZ D w' h0 (tmSet m k l) mv' ∧ ∃ M, Keeps M w w' ∧ ∀ b ∈ M, b = tb ∨ h0 ≤ b) Γ 7 ρ w1 := by
    intro w1 ρ Γ b es clock M r0 r1 r2 hh1 hb hm he hp hborn h32 hnd ho1 k1 hM
    refine s_get T.f0 T.oneMap (show ev ρ (.tmp 0) = ptr tb from r0) hh1 (by rfl) ?_
    obtain ⟨w2, e2, hm2, k2⟩ := a_mapUpdate (P := P) (ρ := ext ρ 7 [ptr tb, ptr tb (0 + 0), .map (some b)]) (w := w1) (t := c.tMap) (m := .tmp 9) (k := .tmp 1) (x := .tmp 2) (n := (k : Int)) (v := v) T.map F.u32 rfl (by show ext ρ 7 _ 1 = _; rw [ext_lt (by omega)]; exact r1) (by show ext ρ 7 _ 2 = _; rw [ext_lt (by omega)]; exact r2) hm (he 0).keys
    have hDb : D ∉ [b] := by simp only [List.mem_singleton]; omega
    refine s_unit e2 (fun p hp => (by cases hp)) (s_ret0 ⟨.map (some b), hh1.keep k2 (by simp only [List.mem_singleton]; omega), .inr ⟨b, _, _, hb, rfl, hm2, ?_, (esSet_ok hp hborn).1, (esSet_ok hp hborn).2, tmSet_lt h32 hk, tmSet_nodup hnd, tmSet_ne _ _ _⟩, M ++ [b], (k1.mono fun x hx => List.mem_append_left _ hx).trans (k2.mono fun x hx => List.mem_append_right _ hx), fun x hx => ?_⟩)
    · intro L
      exact (EntsAt.any he k2 hDb L).set ⟨nl, OctAt.any ho1 k2 hDb L⟩
    · rcases List.mem_append.1 hx with h | h
      · exact hM x h
      · simp only [List.mem_singleton] at h
        subst h
        exact .inr hb
  refine s_get T.f0 T.oneMap (show ev _ (.tmp 0) = ptr tb from rfl) hh (by rfl) ?_
  rcases hz with ⟨rfl, rfl⟩ | ⟨b, es, clock, hb, rfl, hm, he, hp, hborn, h32, hnd, hne⟩
  · refine s_val (v_eqlMap (op := .eql) (a := none) (r := true) T.map rfl rfl (.inl ⟨rfl, rfl⟩)) ?_
    refine ⟨rfl, fun _ w' => ∃ b, Has w' tb [.map (some b)] ∧ h0 ≤ b ∧ MapIs w' b [] 0 ∧ Keeps [tb] w w', ?_, ?_⟩
    · refine s_cond (b := true) rfl (fun _ => ?_) (fun h => by cases h)
      obtain ⟨w1, e1, hm1, k1, z1⟩ := a_makeMap (P := P) (ρ := ext (ext (en [ptr tb, .int .u32 k, v]) 3 [ptr tb, ptr tb (0 + 0), .map none]) 6 [.bool true]) (w := w) (t := c.tMap)
      refine s_act e1 (fun p hp => (by cases hp)) ?_
      refine s_set (n := 8) (v := .map (some w.heap.size)) T.f0 T.oneMap rfl rfl (by simp [opBelow]) rfl (hh.keep k1 (by simp)) (by simp) fun w2 h2 k2 => ?_
      refine ⟨_, rfl, w.heap.size, h2, hsz, hm1.keep k2 (by simp only [List.mem_singleton]; omega), (k1.mono (by simp)).trans k2⟩
    · rintro vs w1 hvs ⟨b, h1, hb, hm1, k1⟩
      obtain rfl : vs = [] := List.eq_nil_of_length_eq_zero hvs
      exact rest w1 _ _ b [] 0 [tb] rfl rfl rfl h1 hb hm1 (fun _ => trivial) List.Pairwise.nil (fun e he => by cases he) (fun p hp => by cases hp) List.nodup_nil (OctAt.any ho k1 (by simp only [List.mem_singleton]; omega)) k1 (fun x hx => .inl (by simpa using hx))
  · refine s_val (v_eqlMap (op := .eql) (a := some b) (r := false) T.map rfl rfl (.inl ⟨rfl, rfl⟩)) ?_
    refine ⟨rfl, fun _ w' => w' = w, ?_, ?_⟩
    · exact s_cond (b := false) rfl (fun h => by cases h) (fun _ => ⟨_, rfl, rfl⟩)
    · rintro vs w1 hvs rfl
      obtain rfl : vs = [] := List.eq_nil_of_length_eq_zero hvs
      exact rest w1 _ _ b es clock [] rfl rfl rfl hh hb hm he hp hborn h32 hnd ho .refl (fun x hx => by cases hx)
end
end Go.Kf
