/- The library for this proof, part 4: trees of function bodies, and what the package's functions do. -/
import Derived.Test.YtlofojpaihnegabKf3

namespace Go.Kf

open Go

section

variable {A : Nat → Prop} {w : World}

theorem FsA.snoc {f : FV} {c : List Value} (h : FAtA A w f c) : ∀ {fs : List FV} {cs : List Value}, FsA A w fs cs → FsA A w (fs ++ [f]) (cs ++ c)
  | [], _, h2 => by simp only [FsA] at h2; subst h2; exact ⟨c, [], by simp, h, rfl⟩
  | x :: fs, _, ⟨c1, c2, e, h1, h2⟩ => ⟨c1, c2 ++ c, by rw [e]; simp, h1, FsA.snoc h h2⟩

/-- Rows, one behind another, and what is left. -/
theorem RowsA.of : ∀ {rows : List (List FV)} {xs : List Value} (rest : List Value), FsA A w (rows.map .sub) xs → RowsA A w rows (xs ++ rest)
  | [], _, _, _ => trivial
  | r :: rows, _, rest, ⟨c1, c2, e, h1, h2⟩ => ⟨c1, c2 ++ rest, by rw [e]; simp, h1, RowsA.of rest h2⟩

end

section

variable {P : Program} {c : Nums} {s : SN} {R : Value → World → Prop} {Γ : List (List Value → World → Prop)} {n : Nat} {ρ : Nat → Value} {w w0 : World}

theorem sem_listBody {ck : Bool} {Sx i off tySl Tel f d sz xb Vb j jn : Nat} {V x : Operand} {us : List Ty} {g : PT → List FV} {cs' zc xs : List Value} {lv : Value} {z : PT} {J : List Value → World → Prop} (S0 : SpFacts P c s) (hM : MakeOf P f us g) (hR : RowFacts P Tel sz) (hsz : sz = (us.map Ty.wd).sum) (hsl : P.underlying tySl = some (.slice Tel)) (hone : oneTy P tySl = true) (hfo : fieldOff P Sx i = some off)
    (hV : ev ρ V = ptr Vb) (hbV : opBelow n V) (hx : ev ρ x = ptr xb) (hbx : opBelow n x) (hj : ρ j = .int .i64 jn) (hjn : j < n) (hh : Has w Vb cs') (hcell : cs'[off]? = some lv) (hxh : Has w xb zc) (hz : TreeC w0 z zc) (htd : z.tidy) (k0 : Keeps [] w0 w) (hown : Own w lv sz jn xs) (hne : Vb ∉ blkOf lv) (hlen : jn < 4294967296) (hG : Γ[d]? = some J)
    (hJ : ∀ (lv' : Value) (w1 w2 w' : World) (ucs : List Value), FsA (FitA w0 w) w1 (g z) ucs → Keeps [] w w1 → Own w2 lv' sz (jn + 1) (xs ++ ucs) → Keeps (blkOf lv) w1 w2 → (∀ b ∈ blkOf lv', b ∈ blkOf lv ∨ w1.heap.size ≤ b) → Keeps [Vb] w2 w' → Has w' Vb (cs'.set off lv') → J [.int .i64 ((jn + 1 : Nat) : Int)] w') :
    (gListBody c Sx i tySl f V x j n d ck).sem P R Γ n ρ w := by
  have hzl := hz.len
  have hoff : off < cs'.length := (List.getElem?_eq_some_iff.1 hcell).1
  cases ck with
  | true =>
    have ldL : ∀ (w' : World) (ρ' : Nat → Value), Has w' Vb cs' → ρ' (n + 1) = ptr Vb (0 + off) → runOp P ρ' (.load tySl (.tmp (n + 1))) w' = .ok (.value lv) w' := fun w' ρ' h e => l_load1 (b := Vb) (o := 0 + off) hone e h (by rw [Nat.zero_add]; exact hcell)
    refine p_val (v_nilCheck hV) (p_val (v_field (b := Vb) (o := 0) hfo ext_at) ?_)
    refine l_lok (ldL w _ hh ext_at) ?_
    refine l_lok (l_loadN (b := xb) (o := 0) S0.ty.agg (by rw [ev_ext' hbx (by omega), ev_ext' hbx (by omega), ev_ext hbx]; exact hx) hxh (by omega)) ?_
    rw [take0 hzl]
    refine s_callF (hM w0 w z zc hz htd k0) (by simp only [List.map_cons, List.map_nil]; rw [show ev (ext _ (n + 3) [Value.agg ⟨zc⟩]) (.tmp (n + 3)) = .agg ⟨zc⟩ from ext_at]) fun u w1 ⟨⟨ucs, hu, hfs, hgw⟩, k1⟩ => ⟨?_, ?_⟩
    · intro p hp
      simp only [List.mem_singleton] at hp
      subst hp
      exact (ldL w1 _ (hh.keep k1 (by simp)) (by rw [ext_lt (by omega), ext_lt (by omega)]; exact ext_at)).trans (congrArg (fun q => Result.ok (Next.value q) w1) (show lv = ext _ _ _ (n + 2) by rw [ext_lt (by omega)]; exact ext_at.symm))
    subst hu
    have hul : ucs.length = sz := by rw [FsA.len _ _ hfs, wds_eq, hgw, hsz]
    refine s_oneSlice (n := n + 5) (x := .tmp (n + 4)) (cs := ucs) hR hsl (by rw [show ev (ext _ (n + 4) [Value.agg ⟨ucs⟩]) (.tmp (n + 4)) = .agg ⟨ucs⟩ from ext_at]; rfl) hul fun w2 hsl2 k2 z2 => ⟨?_, ?_⟩
    · intro p hp
      simp only [List.mem_singleton] at hp
      subst hp
      exact (ldL w2 _ ((hh.keep k1 (by simp)).keep k2 (by simp)) (by rw [ext_lt (by omega), ext_lt (by omega), ext_lt (by omega)]; exact ext_at)).trans (congrArg (fun q => Result.ok (Next.value q) w2) (show lv = ext _ _ _ (n + 2) by rw [ext_lt (by omega), ext_lt (by omega)]; exact ext_at.symm))
    refine s_appendOne (n := n + 6) (v := lv) (u := .slice (some ⟨w1.heap.size, 0, none⟩) 1 1) hR hsl (by
      show ext _ _ _ (n + 2) = _
      rw [ext_lt (by omega), ext_lt (by omega), ext_lt (by omega)]; exact ext_at) ext_at ((hown.keep k1 (by simp)).keep k2 (by simp)) hsl2 (FsA.ones _ _ hfs) hlen fun lv' w3 hown3 k3 hb3 => ⟨fun p hp => (by cases hp), ?_⟩
    have hh3 : Has w3 Vb cs' := ((hh.keep k1 (by simp)).keep k2 (by simp)).keep k3 hne
    refine p_val (n := n + 7) (v_nilCheck (by rw [ev_ext' hbV (by omega), ev_ext' hbV (by omega), ev_ext' hbV (by omega), ev_ext' hbV (by omega), ev_ext' hbV (by omega), ev_ext' hbV (by omega), ev_ext hbV]; exact hV)) ?_
    refine p_fs (n := n + 8) (b := Vb) (o := 0) (v := lv') hfo hone ext_at rfl (by
      show ext _ _ _ (n + 6) = _
      rw [ext_lt (by omega)]; exact ext_at) (by simp [opBelow]) hown3.one hh3 (by rw [Nat.zero_add]; exact hoff) fun w4 hh4 k4 => ?_
    rw [Nat.zero_add] at hh4
    refine s_val (v_arith (kk := .i64) (a := jn) (b := 1) (r := ((jn + 1 : Nat) : Int)) (by
      show ext _ _ _ j = _
      rw [ext_lt (by omega), ext_lt (by omega), ext_lt (by omega), ext_lt (by omega), ext_lt (by omega), ext_lt (by omega), ext_lt (by omega), ext_lt (by omega), ext_lt (by omega), ext_lt (by omega)]; exact hj) rfl ?_) ?_
    · simp only [arithOf, Option.some.injEq]; rw [IntKind.wrap_i64]; omega
    refine ⟨J, hG, ?_⟩
    simp only [List.map_cons, List.map_nil]
    rw [show ev (ext _ (n + 10) [Value.int .i64 ((jn + 1 : Nat) : Int)]) (.tmp (n + 10)) = .int .i64 ((jn + 1 : Nat) : Int) from ext_at]
    have h12 : FsA (FitA w0 w) w2 (g z) ucs := FsA.keep k2 (fun b hb => by cases hb) (fun _ h _ => h) _ _ hfs
    exact hJ lv' w2 w3 w4 ucs h12 (k1.trans k2) hown3 k3 hb3 k4 hh4
  | false =>
    have ldL : ∀ (w' : World) (ρ' : Nat → Value), Has w' Vb cs' → ρ' n = ptr Vb (0 + off) → runOp P ρ' (.load tySl (.tmp n)) w' = .ok (.value lv) w' := fun w' ρ' h e => l_load1 (b := Vb) (o := 0 + off) hone e h (by rw [Nat.zero_add]; exact hcell)
    refine p_val (v_field (b := Vb) (o := 0) hfo hV) ?_
    refine l_lok (ldL w _ hh ext_at) ?_
    refine l_lok (l_loadN (b := xb) (o := 0) S0.ty.agg (by rw [ev_ext' hbx (by omega), ev_ext hbx]; exact hx) hxh (by omega)) ?_
    rw [take0 hzl]
    refine s_callF (hM w0 w z zc hz htd k0) (by simp only [List.map_cons, List.map_nil]; rw [show ev (ext _ (n + 2) [Value.agg ⟨zc⟩]) (.tmp (n + 2)) = .agg ⟨zc⟩ from ext_at]) fun u w1 ⟨⟨ucs, hu, hfs, hgw⟩, k1⟩ => ⟨?_, ?_⟩
    · intro p hp
      simp only [List.mem_singleton] at hp
      subst hp
      exact (ldL w1 _ (hh.keep k1 (by simp)) (by rw [ext_lt (by omega), ext_lt (by omega)]; exact ext_at)).trans (congrArg (fun q => Result.ok (Next.value q) w1) (show lv = ext _ _ _ (n + 1) by rw [ext_lt (by omega)]; exact ext_at.symm))
    subst hu
    have hul : ucs.length = sz := by rw [FsA.len _ _ hfs, wds_eq, hgw, hsz]
    refine s_oneSlice (n := n + 4) (x := .tmp (n + 3)) (cs := ucs) hR hsl (by rw [show ev (ext _ (n + 3) [Value.agg ⟨ucs⟩]) (.tmp (n + 3)) = .agg ⟨ucs⟩ from ext_at]; rfl) hul fun w2 hsl2 k2 z2 => ⟨?_, ?_⟩
    · intro p hp
      simp only [List.mem_singleton] at hp
      subst hp
      exact (ldL w2 _ ((hh.keep k1 (by simp)).keep k2 (by simp)) (by rw [ext_lt (by omega), ext_lt (by omega), ext_lt (by omega)]; exact ext_at)).trans (congrArg (fun q => Result.ok (Next.value q) w2) (show lv = ext _ _ _ (n + 1) by rw [ext_lt (by omega), ext_lt (by omega)]; exact ext_at.symm))
    refine s_appendOne (n := n + 5) (v := lv) (u := .slice (some ⟨w1.heap.size, 0, none⟩) 1 1) hR hsl (by
      show ext _ _ _ (n + 1) = _
      rw [ext_lt (by omega), ext_lt (by omega), ext_lt (by omega)]; exact ext_at) ext_at ((hown.keep k1 (by simp)).keep k2 (by simp)) hsl2 (FsA.ones _ _ hfs) hlen fun lv' w3 hown3 k3 hb3 => ⟨fun p hp => (by cases hp), ?_⟩
    have hh3 : Has w3 Vb cs' := ((hh.keep k1 (by simp)).keep k2 (by simp)).keep k3 hne
    refine p_fs (n := n + 6) (b := Vb) (o := 0) (v := lv') hfo hone (by rw [ev_ext' hbV (by omega), ev_ext' hbV (by omega), ev_ext' hbV (by omega), ev_ext' hbV (by omega), ev_ext' hbV (by omega), ev_ext hbV]; exact hV) rfl ext_at (by simp [opBelow]) hown3.one hh3 (by rw [Nat.zero_add]; exact hoff) fun w4 hh4 k4 => ?_
    rw [Nat.zero_add] at hh4
    refine s_val (v_arith (kk := .i64) (a := jn) (b := 1) (r := ((jn + 1 : Nat) : Int)) (by
      show ext _ _ _ j = _
      rw [ext_lt (by omega), ext_lt (by omega), ext_lt (by omega), ext_lt (by omega), ext_lt (by omega), ext_lt (by omega), ext_lt (by omega), ext_lt (by omega)]; exact hj) rfl ?_) ?_
    · simp only [arithOf, Option.some.injEq]; rw [IntKind.wrap_i64]; omega
    refine ⟨J, hG, ?_⟩
    simp only [List.map_cons, List.map_nil]
    rw [show ev (ext _ (n + 8) [Value.int .i64 ((jn + 1 : Nat) : Int)]) (.tmp (n + 8)) = .int .i64 ((jn + 1 : Nat) : Int) from ext_at]
    have h12 : FsA (FitA w0 w) w2 (g z) ucs := FsA.keep k2 (fun b hb => by cases hb) (fun _ h _ => h) _ _ hfs
    exact hJ lv' w2 w3 w4 ucs h12 (k1.trans k2) hown3 k3 hb3 k4 hh4

end

end Go.Kf

namespace Go.Kf

open Go

section

variable {P : Program} {c : Nums} {s : SN} {S : Nat} {ts : List Ty} {w0 wS : World} {V tb : Nat} {t : PT} {tcs : List Value} {ck : Bool} {Vo T : Operand}

theorem own_slice {w : World} {v : Value} {sz n : Nat} {xs : List Value} (h : Own w v sz (n + 1) xs) : ∃ b cap, v = .slice (some ⟨b, 0, none⟩) (n + 1) cap := by
  rcases h.2 with ⟨_, h⟩ | ⟨b, cap, _, e, _⟩
  · cases h
  · exact ⟨b, cap, e⟩

theorem semF_list {i q off tySl Tel f : Nat} {zs : List FV} {ss : List FStep} (S0 : SpFacts P c s) (X : FillFacts P c) (hAt : treeIn P s.at_ noOrc [.tmp 0, .tmp 1] 2 = tAt c) (C : FCtx w0 wS V tb t tcs) (h : FStepOk P c S ts (.listS i q off tySl Tel f zs ss)) :
    SemF P w0 wS V tb ts Vo T (gFStep c s ck S Vo T (.listS i q off tySl Tel f zs ss)) (fun _ => True) (setF (.listS i q off tySl Tel f zs ss) t) 0 := by
  obtain ⟨us, hF, hone, hsl, hR, hM⟩ := h
  intro R Γ n ρ w fs cs k hw _ hfl hV hbV hT hbT hk
  have hlo := C.lo
  have hhi := C.hi
  have hsz1 : (P.info? tySl).map (·.size) = some 1 := (oneTy_spec (w := w) hone).2
  obtain ⟨f0, hf0⟩ : ∃ f0, fs[i]? = some f0 := by
    have hti : (fs.map FV.wd)[i]? = some (Ty.list us).wd := by rw [hw, List.getElem?_map, hF.2.2]; rfl
    rw [List.getElem?_map] at hti
    obtain ⟨f, hf, _⟩ := Option.map_eq_some_iff.1 hti
    exact ⟨f, hf⟩
  simp only [gFStep]
  refine s_at (t := t) S0 hAt C.tc (C.tree hfl.k) (C.base hfl.k) hT fun ρ1 w1 acs ag1 ha hac k1 => ?_
  have hfl1 := hfl.keep C k1
  have htd := C.tidy.at q
  have hset : setF (.listS i q off tySl Tel f zs ss) t fs = fs.set i (if (pAt t q).null then f0 else .list false ((pAt t q).l.map fun y => fillVals ss y zs)) := by
    simp only [setF, FStep.idx, fillVal, fvGet_eq hf0]
  rw [hset] at hk
  generalize hy : pAt t q = y at hac htd hk hset
  obtain ⟨sv, lv1, uv, lcs1, ucs1, e1, _⟩ := hac.cells
  refine s_val (v_part X.c2 ha (show acs[2]? = some (.bool y.null) by rw [e1]; rfl)) ?_
  refine s_val (v_not (b := y.null) ext_at) ?_
  have ag3 : Agree n ρ (ext (ext ρ1 (n + 2) [.bool y.null]) (n + 3) [.bool (!y.null)]) := (ag1.ex' (by omega)).ex' (by omega)
  have r3 : ext (ext ρ1 (n + 2) [.bool y.null]) (n + 3) [.bool (!y.null)] (n + 3) = .bool (!y.null) := ext_at
  generalize ext (ext ρ1 (n + 2) [.bool y.null]) (n + 3) [.bool (!y.null)] = ρ3 at ag3 r3 ⊢
  refine ⟨rfl, fun vs w' => vs = [] ∧ ∃ cs', FlC w0 wS V w' (fs.set i (if y.null then f0 else .list false (y.l.map fun y => fillVals ss y zs))) cs' ∧ (fs.set i (if y.null then f0 else .list false (y.l.map fun y => fillVals ss y zs))).map FV.wd = ts.map Ty.wd, ?_, ?_⟩
  case refine_2 =>
    rintro vs w' hvs ⟨rfl, cs', h1, h2⟩
    have := hk (n + 4) [] (ext ρ3 (n + 4) []) w' cs' (by omega) rfl (ag3.ex' (by omega)) h1 h2
    rw [List.append_nil] at this
    exact this
  generalize hJ1 : (fun (vs : List Value) (w' : World) => vs = [] ∧ ∃ cs', FlC w0 wS V w' (fs.set i (if y.null then f0 else .list false (y.l.map fun y => fillVals ss y zs))) cs' ∧ (fs.set i (if y.null then f0 else .list false (y.l.map fun y => fillVals ss y zs))).map FV.wd = ts.map Ty.wd) = J1
  refine s_cond (b := !y.null) r3 (fun hb => ?_) fun hb => ?_
  case refine_2 =>
    refine ⟨J1, by rw [List.getElem?_append_right (Nat.le_refl _), Nat.sub_self]; rfl, ?_⟩
    rw [← hJ1]
    have hnull : y.null = true := by simpa using hb
    rw [if_pos hnull, show fs.set i f0 = fs by
      rw [← (List.getElem?_eq_some_iff.1 hf0).2]; exact List.set_getElem_self _]
    exact ⟨rfl, cs, hfl1, hw⟩
  have hnull : y.null = false := by simpa using hb
  rw [hnull] at hJ1
  simp only [Bool.false_eq_true, if_false] at hJ1
  refine s_at (n := n + 4) (t := t) S0 hAt C.tc (C.tree hfl1.k) (C.base hfl1.k) ((ag3 T hbT).trans hT) fun ρ4 w2 acs2 ag4 ha4 hac4 k2 => ?_
  rw [hy] at hac4
  have hfl2 := hfl1.keep C k2
  obtain ⟨sv2, lv2, uv2, lcs2, ucs2, e2, _, g2, _⟩ := hac4.cells
  obtain ⟨a2, cp2, f2⟩ := g2.form
  refine s_val (v_part X.c3 ha4 (show acs2[3]? = some lv2 by rw [e2]; rfl)) ?_
  refine s_val (v_len (a := a2) (l := y.l.length) (c := cp2) S0.ty.sl (ext_at.trans f2)) ?_
  obtain ⟨inf, z0, hi, hz, hs, hzc, hbt⟩ := hR.info
  have hpos := hR.pos.1
  have hyl : y.l.length < 4294967296 := hac4.lens.2.1
  obtain ⟨w3, e3, h3, k3, z3⟩ := a_makeSlice (P := P) (ρ := ext (ext ρ4 (n + 6) [lv2]) (n + 7) [.int .i64 (y.l.length : Nat)]) (w := w2) (x := .const (.int .i64 0)) (y := .tmp (n + 7)) (l := 0) (c := y.l.length) hsl hi hz (by rw [hzc, hs]) (by omega) rfl ext_at (by decide) (by omega) (by
    have : inf.bytes * y.l.length ≤ 1024 * 4294967296 := Nat.mul_le_mul hbt (by omega)
    have h2 : ((inf.bytes * y.l.length : Nat) : Int) ≤ 281474976710656 := by omega
    rwa [Int.natCast_mul] at h2) (by omega)
  refine s_act e3 (fun p hp => (by cases hp)) ?_
  have hfl3 := hfl2.keep C k3
  obtain ⟨hl, hwd, _⟩ := hfl3.put (f' := .list false (y.l.map fun y => fillVals ss y zs)) (m' := [lv2]) C hw hF rfl rfl
  have hoff : off < cs.length := hl
  have ag8 : Agree n ρ (ext (ext (ext ρ4 (n + 6) [lv2]) (n + 7) [.int .i64 (y.l.length : Nat)]) (n + 8) [.slice (some ⟨w2.heap.size, 0, none⟩) (0 : Int).toNat (y.l.length : Int).toNat]) := (((ag3.trans ag4 (by omega)).ex' (by omega)).ex' (by omega)).ex' (by omega)
  refine s_fset (V := V) (m' := [.slice (some ⟨w2.heap.size, 0, none⟩) 0 y.l.length]) (n := n + 9) (Vo := Vo) (x := .tmp (n + 8)) hF.1 hsz1 ((ag8 Vo hbV).trans hV) (hbV.mono (by omega)) (congrArg Value.cells (show ext _ _ _ (n + 8) = _ from ext_at)) (by simp [opBelow]) (ones_one rfl) hfl3.has hl fun n' ρ5 w4 hle ag5 hh4 k4 => ?_
  rw [splice_one _ _ _ hoff] at hh4
  have s02 := hfl2.k.size
  have k24 : Keeps [V] w2 w4 := (k3.mono (by simp)).trans k4
  have kS4 : Keeps [V] wS w4 := hfl2.k.trans k24
  have ag9 : Agree n ρ ρ5 := ag8.trans ag5 (by omega)
  refine s_at (n := n') (t := t) S0 hAt C.tc (C.tree kS4) (C.base kS4) ((ag9 T hbT).trans hT) fun ρ6 w5 acs3 ag6 ha6 hac6 k5 => ?_
  rw [hy] at hac6
  have ag10 : Agree n ρ ρ6 := ag9.trans ag6 (by omega)
  obtain ⟨sv3, lv3, uv3, lcs3, ucs3, e6, _, g3, g4, _⟩ := hac6.cells
  obtain ⟨a3, cp3, f3⟩ := g3.form
  refine s_val (v_part X.c3 ha6 (show acs3[3]? = some lv3 by rw [e6]; rfl)) ?_
  refine s_val (v_len (a := a3) (l := y.l.length) (c := cp3) S0.ty.sl (ext_at.trans f3)) ?_
  have hh5 := hh4.keep k5 (by simp)
  have k25 : Keeps [V] w2 w5 := k24.trans (k5.mono (by simp))
  have s34 := k4.size
  have s45 := k5.size
  generalize hrw : (y.l.map fun y => fillVals ss y zs) = rows at hJ1 hwd
  have hrl : rows.length = y.l.length := by rw [← hrw, List.length_map]
  have hlabel : Γ.length + 1 = (Γ ++ [J1]).length := by simp
  rw [hlabel]
  refine s_count (n := n' + 4) (q := n' + 3) (kk := .i64) (m := y.l.length) (ri := []) (Γ := Γ ++ [J1]) (fun j w' => ∃ b cap xs, w2.heap.size ≤ b ∧ Has w' V (cs.set off (.slice (some ⟨b, 0, none⟩) j cap)) ∧ Own w' (.slice (some ⟨b, 0, none⟩) j cap) (us.map Ty.wd).sum j xs ∧ FsA (fun x => x < w0.heap.size ∨ (w2.heap.size ≤ x ∧ x ≠ b)) w' ((rows.take j).map .sub) xs ∧ Keeps [V] w2 w') (by omega) ext_at
    ⟨w2.heap.size, y.l.length, [], Nat.le_refl _, hh5, ⟨by simp, .inr ⟨w2.heap.size, y.l.length, _, rfl, by simpa using (h3.keep k4 (by simp only [List.mem_singleton]; omega)).keep k5 (by simp), Nat.zero_le _, by omega, by
      have : z0.cells.toList.length = (us.map Ty.wd).sum := by simpa using hzc
      simp [List.length_flatten, this]⟩⟩, by simp [FsA], k25⟩ ?_ ?_
  · rintro j hj w' vr ⟨b, cap, xs, hb, hh, hown, hrows, kk⟩ hvr J hJ
    obtain rfl : vr = [] := List.eq_nil_of_length_eq_zero hvr
    have hj' : j < y.l.length := by omega
    have kb : Keeps [] w0 w' := C.base (hfl2.k.trans kk)
    have s2k := kk.size
    obtain ⟨b3, o3, cap3, e3', _, hel, hcell⟩ := (g3.keep kb).elem hj' (by omega)
    have htj := TreesC.get g4 hj'
    refine s_val (v_indexAddr (b := b3) (o := o3) (l := y.l.length) (c := cap3) (j := j) (kk := .i64) S0.ty.sl S0.szT (by
      show ext _ (n' + 4) _ (n' + 2) = _
      rw [ext_lt (by omega), ext_lt (by omega)]; exact ext_at.trans e3') (by
      show ext _ (n' + 4) _ (n' + 4) = _
      exact ext_at) (by omega) (by omega)) ?_
    rw [Int.toNat_natCast]
    refine s_lok (l_cellN (b := b3) (o := o3 + j * 5) S0.ty.agg ext_at hel hcell) ?_
    generalize (lcs3.drop (j * 5)).take 5 = cc at htj
    have hcl := htj.len
    refine s_alloc S0.got.zero fun w6 h6 k6 z6 => ?_
    refine s_storeAll (b := w'.heap.size) (old := zeroTree) (cs := cc) (by rw [hcl]; exact S0.ty.agg) ext_at (by
      show (ext _ _ _ (n' + 4 + 2 + 1)).cells = _
      rw [ext_lt (by omega)]; exact congrArg Value.cells ext_at) h6 (by rw [hcl]; rfl) htj.ones fun w7 h7 k7 => ?_
    show Tr.sem _ _ _ _ _ _ { w7 with drawn := w7.drawn + 1 }
    have hd : Keeps [] w7 { w7 with drawn := w7.drawn + 1 } := keeps_drawn w7 _ _
    generalize ({ w7 with drawn := w7.drawn + 1 } : World) = w8 at hd ⊢
    have k68 : Keeps [] w' w8 := (((k6.mono (by simp)).trans k7).less fun x hx => .inr (by simp only [List.mem_singleton] at hx; omega)).trans hd
    have h8 := h7.keep hd (by simp)
    have s68 := k68.size
    generalize hρ8 : ext (ext (ext (ext (ext (ext (ext ρ6 (n' + 2) [lv3]) (n' + 3) [.int .i64 (y.l.length : Nat)]) (n' + 4) ([] ++ [.int .i64 j, .bool true])) (n' + 4 + ([] : List Operand).length + 2) [.pointer (some ⟨b3, o3 + j * 5, none⟩)]) (n' + 4 + ([] : List Operand).length + 2 + 1) [.agg ⟨cc⟩]) (n' + 4 + ([] : List Operand).length + 2 + 1 + 1) [ptr w'.heap.size]) (n' + 4 + ([] : List Operand).length + 2 + 1 + 1 + 1) [undef] = ρ8
    have ag : Agree n ρ ρ8 := by
      rw [← hρ8]
      exact (((((((ag10.ex' (by omega)).ex' (by omega)).ex' (by omega)).ex' (by simp <;> omega)).ex' (by simp <;> omega)).ex' (by simp <;> omega)).ex' (by simp <;> omega))
    have r4 : ρ8 (n' + 4) = .int .i64 j := by
      rw [← hρ8, ext_lt (by simp <;> omega), ext_lt (by simp <;> omega), ext_lt (by simp <;> omega), ext_lt (by simp <;> omega)]; exact ext_at
    have r8 : ρ8 (n' + 8) = ptr w'.heap.size := by
      rw [← hρ8, ext_lt (by simp <;> omega)]; exact ext_at
    clear hρ8
    have hbw : b < w'.heap.size := hown.lt b (by simp [blkOf])
    refine sem_listBody (n := n' + 10) (x := .tmp (n' + 8)) (j := n' + 4) (jn := j) (xb := w'.heap.size) (Vb := V) (lv := .slice (some ⟨b, 0, none⟩) j cap) (cs' := cs.set off (.slice (some ⟨b, 0, none⟩) j cap)) (g := fun y => fillVals ss y zs) (us := us) S0 hM hR rfl hsl hone hF.1 ((ag Vo hbV).trans hV) (hbV.mono (by omega)) r8 (by simp [opBelow]) r4 (by omega) (hh.keep k68 (by simp)) (List.getElem?_set_self hoff) h8 htj (htd.l _ (List.getElem_mem hj')) (kb.trans k68) (hown.keep k68 (by simp)) (by simp only [blkOf, List.mem_singleton]; omega) (by omega) (by rw [List.getElem?_append_right (Nat.le_refl _), Nat.sub_self]; rfl) fun lv' wa wb wc ucs hfs ka hownb kb' hbb kc hhc => ?_
    rw [List.set_set] at hhc
    obtain ⟨b', cap', rfl⟩ := own_slice hownb
    have sa := ka.size
    have sb := kb'.size
    have hbb' : b' = b ∨ wa.heap.size ≤ b' := by
      have := hbb b' (by simp [blkOf])
      simpa [blkOf] using this
    have hb2 : w2.heap.size ≤ b' := by omega
    refine hJ [] _ rfl ⟨b', cap', xs ++ ucs, hb2, hhc, hownb.keep kc (by simp only [blkOf, List.mem_singleton]; omega), ?_, ?_⟩
    · have hj2 : j < rows.length := by omega
      rw [List.take_succ_eq_append_getElem hj2, List.map_append, show rows[j] = fillVals ss y.l[j] zs by simp only [← hrw, List.getElem_map]]
      refine FsA.snoc ?_ ?_
      · show FsA _ wc (fillVals ss y.l[j] zs) ucs
        have f1 : FsA (fun x => FitA w0 w8 x ∧ x < wa.heap.size) wa (fillVals ss y.l[j] zs) ucs := FsA.keep (M := []) .refl (fun b hb => by cases hb) (fun x h hlt => ⟨h, hlt⟩) _ _ hfs
        have f2 : FsA (fun x => FitA w0 w8 x ∧ x < wa.heap.size) wb (fillVals ss y.l[j] zs) ucs := FsA.keep kb' (fun x hx h => by
          simp only [blkOf, List.mem_singleton] at hx
          rcases h.1 with h' | h' <;> omega) (fun _ h _ => h) _ _ f1
        refine FsA.keep kc (fun x hx h => by
          simp only [List.mem_singleton] at hx
          rcases h.1 with h' | h' <;> omega) (fun x h _ => ?_) _ _ f2
        rcases h.1 with h' | h'
        · exact .inl h'
        · refine .inr ⟨by omega, ?_⟩
          rcases hbb' with h5 | h5
          · omega
          · have := h.2; omega
      · have f1 : FsA (fun x => (x < w0.heap.size ∨ (w2.heap.size ≤ x ∧ x ≠ b)) ∧ x < w'.heap.size) wa ((rows.take j).map .sub) xs := FsA.keep (k68.trans ka) (fun b hb => by cases hb) (fun x h hlt => ⟨h, hlt⟩) _ _ hrows
        have f2 : FsA (fun x => (x < w0.heap.size ∨ (w2.heap.size ≤ x ∧ x ≠ b)) ∧ x < w'.heap.size) wb ((rows.take j).map .sub) xs := FsA.keep kb' (fun x hx h => by
          simp only [blkOf, List.mem_singleton] at hx
          rcases h.1 with h' | h'
          · omega
          · exact h'.2 hx) (fun _ h _ => h) _ _ f1
        refine FsA.keep kc (fun x hx h => by
          simp only [List.mem_singleton] at hx
          rcases h.1 with h' | h' <;> omega) (fun x h _ => ?_) _ _ f2
        rcases h.1 with h' | h'
        · exact .inl h'
        · refine .inr ⟨h'.1, ?_⟩
          rcases hbb' with h5 | h5
          · rw [h5]; exact h'.2
          · have := h.2; omega
    · have kk2 : Keeps ([V] ++ [b]) w2 wc := ((kk.mono fun x hx => List.mem_append_left _ hx).trans (((k68.trans ka).mono (by simp)).trans ((kb'.mono fun x hx => List.mem_append_right _ (by simpa [blkOf] using hx)).trans (kc.mono fun x hx => List.mem_append_left _ hx))))
      exact kk2.less fun x hx => by
        rcases List.mem_append.1 hx with h | h
        · exact .inl h
        · simp only [List.mem_singleton] at h
          exact .inr (by omega)
  · rintro w' vr J ⟨b, cap, xs, hb, hh, hown, hrows, kk⟩ hvr
    obtain rfl : vr = [] := List.eq_nil_of_length_eq_zero hvr
    rw [Int.toNat_natCast] at hh hown hrows
    rw [← hrl, List.take_length] at hrows
    refine ⟨J1, by rw [List.append_assoc, List.getElem?_append_right (Nat.le_refl _), Nat.sub_self]; rfl, ?_⟩
    obtain ⟨_, _, hput⟩ := hfl2.put (f' := .list false rows) (m' := [.slice (some ⟨b, 0, none⟩) y.l.length cap]) C hw hF rfl rfl
    rw [← hJ1]
    obtain ⟨b', cap', spare, ev', hhb, hcap, hcap2, _⟩ : ∃ b' cap' spare, Value.slice (some ⟨b, 0, none⟩) y.l.length cap = .slice (some ⟨b', 0, none⟩) y.l.length cap' ∧ Has w' b' (xs ++ spare) ∧ y.l.length ≤ cap' ∧ cap' < 2 ^ 63 ∧ True := by
      rcases hown.2 with ⟨h, _⟩ | ⟨b', cap', spare, e, h1, h2, h3, _⟩
      · cases h
      · exact ⟨b', cap', spare, e, h1, h2, h3, trivial⟩
    injection ev' with e1 _ e2
    injection e1 with e1
    injection e1 with e1
    subst e1
    subst e2
    refine ⟨rfl, _, hput w' kk (.inr ⟨rfl, b, cap, xs ++ spare, .inr (by omega), by rw [hrl], by rw [hrl]; exact hcap, hhb, RowsA.of spare (FsA.keep (M := []) .refl (fun b hb => by cases hb) (fun x h _ => h.imp id fun h => by omega) _ _ hrows)⟩) (by rw [splice_one _ _ _ hoff]; exact hh), hwd⟩

end

end Go.Kf

namespace Go.Kf

open Go

theorem tidy_tags {fs : List PF} {u : TM} (h : ∀ p ∈ u, p.1 < 4294967296) : ((wholeTags (pUnknown fs u)).map (·.1)).Nodup ∧ ∀ p ∈ wholeTags (pUnknown fs u), p.1 < 2 ^ 32 := by
  refine ⟨?_, fun p hp => ?_⟩
  · rw [wholeTags_keys]
    exact List.Pairwise.map _ (fun a b (h : a.1 < b.1) => Nat.ne_of_lt h) (pUnknownN_asc _ List.Pairwise.nil)
  · obtain ⟨q, hq, rfl⟩ := List.mem_map.1 hp
    exact h q (pUnknown_mem hq)

theorem PT.ok.keys {t : PT} (h : t.ok) : ∀ p ∈ t.u, p.1 < 4294967296 := h.u

mutual
theorem pFitted_tidy (v : Int) : ∀ (f : PF) (t : PT), t.ok → (pFitted v f t).tidy
  | .mk k fr to nul g d e sub, t, hok => by
    have hsub := fun (y : PT) (hy : y.ok) => pFits_tidy v sub y 0 hy
    rw [pFitted_eq]
    have flat : ∀ (n : Int) (s : List UInt8) (nl : Bool), IntKind.i64.wrap n = n → (PT.mk n s nl [] []).tidy := fun n s nl h => ⟨h, List.nodup_nil, (fun p hp => by cases hp), trivial⟩
    split
    · exact flat _ _ _ rfl
    split
    · exact ⟨rfl, (tidy_tags hok.keys).1, (tidy_tags hok.keys).2, hsub t hok⟩
    split
    · refine ⟨rfl, List.nodup_nil, (fun p hp => by cases hp), PT.tidys_of fun x hx => ?_⟩
      obtain ⟨y, hy, rfl⟩ := List.mem_map.1 hx
      have hyo : y.ok := hok.l y (List.mem_of_mem_take hy)
      unfold pFitOne
      split
      · exact ⟨rfl, (tidy_tags hyo.keys).1, (tidy_tags hyo.keys).2, hsub y hyo⟩
      split
      · exact flat _ _ _ rfl
      · exact flat _ _ _ hyo.n
    · exact flat _ _ _ hok.n
theorem pFits_tidy (v : Int) : ∀ (fs : List PF) (t : PT) (i : Nat), t.ok → PT.tidys (pFits v fs t i)
  | [], _, _, _ => by simp [pFits, PT.tidys]
  | f :: r, t, i, hok => by
    simp only [pFits, PT.tidys]
    exact ⟨pFitted_tidy v f (pAt t i) (hok.at i), pFits_tidy v r t (i + 1) hok⟩
end

theorem pFit_tidy (v : Int) (fs : List PF) {t : PT} (hok : t.ok) : (pFit v fs t).tidy :=
  ⟨rfl, (tidy_tags hok.keys).1, (tidy_tags hok.keys).2, pFits_tidy v fs t 0 hok⟩

theorem FV.imm0_atA {f : FV} {cs : List Value} (h : f.imm0 = some cs) (A : Nat → Prop) (w : World) : FAtA A w f cs := by
  unfold FV.imm0 at h
  split at h
  · rename_i v
    cases hv : v.oneCell' with
    | false => rw [hv] at h; cases h
    | true => rw [hv] at h; simp only [cond, Option.some.injEq] at h; exact ⟨h.symm, hv⟩
  · rename_i l
    cases hl : Nat.beq l.length 16 with
    | false => rw [hl] at h; cases h
    | true => rw [hl] at h; simp only [cond, Option.some.injEq] at h; exact ⟨h.symm, Nat.eq_of_beq_eq_true hl⟩
  · simp only [Option.some.injEq] at h; exact h.symm
  · simp only [Option.some.injEq] at h; exact ⟨_, h.symm, rfl⟩
  · simp only [Option.some.injEq] at h; exact ⟨_, h.symm, ⟨by simp [bcells], .inl ⟨rfl, rfl⟩⟩, rfl, fun b hb => by cases hb⟩
  · simp only [Option.some.injEq] at h; exact ⟨_, h.symm, .inl ⟨rfl, rfl⟩⟩
  · simp only [Option.some.injEq] at h; exact .inl ⟨rfl, h.symm, rfl⟩
  · simp only [Option.some.injEq] at h; exact h.symm
  · cases h

mutual
theorem FV.imm_atA : ∀ {f : FV} {cs : List Value}, f.imm = some cs → ∀ (A : Nat → Prop) (w : World), FAtA A w f cs
  | .sub fs, cs, h, A, w => by
    simp only [FV.imm] at h
    exact immL_atA h A w
  | .one v, _, h, A, w => FV.imm0_atA (by simpa only [FV.imm] using h) A w
  | .uuid l, _, h, A, w => FV.imm0_atA (by simpa only [FV.imm] using h) A w
  | .text l, _, h, A, w => FV.imm0_atA (by simpa only [FV.imm] using h) A w
  | .ntext o, _, h, A, w => FV.imm0_atA (by simpa only [FV.imm] using h) A w
  | .octs nl l, _, h, A, w => FV.imm0_atA (by simpa only [FV.imm] using h) A w
  | .tags m, _, h, A, w => FV.imm0_atA (by simpa only [FV.imm] using h) A w
  | .list nl rows, _, h, A, w => FV.imm0_atA (by simpa only [FV.imm] using h) A w
  | .ptr o, _, h, A, w => FV.imm0_atA (by simpa only [FV.imm] using h) A w
theorem immL_atA : ∀ {fs : List FV} {cs : List Value}, immL fs = some cs → ∀ (A : Nat → Prop) (w : World), FsA A w fs cs
  | [], cs, h, _, _ => by simp only [immL, Option.some.injEq] at h; exact h.symm
  | f :: fs, cs, h, A, w => by
    simp only [immL] at h
    split at h
    · rename_i a b ha hb
      simp only [Option.some.injEq] at h
      exact ⟨a, b, h.symm, FV.imm_atA ha A w, immL_atA hb A w⟩
    · cases h
end

def preS (st : FStep) (fs : List FV) : Prop := match st with
  | .tags i _ _ => fs[i]? = some (.tags [])
  | _ => True

def runF : List FStep → PT → List FV → List FV
  | [], _, fs => fs
  | st :: ss, t, fs => runF ss t (setF st t fs)

def fillIdx : List FStep → Nat → Bool
  | [], _ => true
  | st :: ss, p => Nat.beq st.idx p && fillIdx ss (p + 1)

def dls : List FStep → Nat
  | [] => 0
  | st :: ss => st.dl + dls ss

theorem fillIdx_le : ∀ {ss : List FStep} {p : Nat}, fillIdx ss p = true → ∀ st ∈ ss, p ≤ st.idx
  | [], _, _, st, h => by cases h
  | x :: ss, p, h, st, hst => by
    simp only [fillIdx, Bool.and_eq_true] at h
    have hx := Nat.eq_of_beq_eq_true h.1
    rcases List.mem_cons.1 hst with rfl | h'
    · omega
    · have := fillIdx_le h.2 st h'; omega

theorem runF_eq {t : PT} : ∀ {ss : List FStep} {p : Nat} {pre zs : List FV}, fillIdx ss p = true → pre.length = p → ss.length = zs.length → runF ss t (pre ++ zs) = pre ++ fillVals ss t zs
  | [], _, _, [], _, _, _ => by simp [runF, fillVals]
  | st :: ss, p, pre, z :: zs, h, hp, hl => by
    simp only [fillIdx, Bool.and_eq_true] at h
    have hx := Nat.eq_of_beq_eq_true h.1
    have hg : fvGet (pre ++ z :: zs) st.idx = z := fvGet_eq (by rw [hx, ← hp, List.getElem?_append_right (Nat.le_refl _), Nat.sub_self]; rfl)
    have hs : setF st t (pre ++ z :: zs) = (pre ++ [fillVal st t z]) ++ zs := by
      unfold setF
      rw [hg, hx, ← hp, List.set_append_right _ _ (Nat.le_refl _), Nat.sub_self]
      simp
    simp only [runF, fillVals]
    rw [hs, runF_eq (p := p + 1) h.2 (by simp [hp]) (by simpa using hl)]
    simp

section

variable {P : Program} {c : Nums} {s : SN} {S : Nat} {ts : List Ty} {w0 wS : World} {V tb : Nat} {t : PT} {tcs : List Value} {ck : Bool} {Vo T : Operand}

theorem semF_step (S0 : SpFacts P c s) (X : FillFacts P c) (hAt : treeIn P s.at_ noOrc [.tmp 0, .tmp 1] 2 = tAt c) (C : FCtx w0 wS V tb t tcs) (st : FStep) (h : FStepOk P c S ts st) : SemF P w0 wS V tb ts Vo T (gFStep c s ck S Vo T st) (preS st) (setF st t) st.dl := by
  cases st with
  | prim fk i q off ty f => exact semF_prim S0 X hAt C h
  | listS i q off tySl Tel f zs ss => exact semF_list S0 X hAt C h
  | listP => exact h.elim
  | sub i q off ty f zs ss => exact semF_sub S0 hAt C h
  | tags i off f => exact semF_tags S0 C h

theorem semF_steps (S0 : SpFacts P c s) (X : FillFacts P c) (hAt : treeIn P s.at_ noOrc [.tmp 0, .tmp 1] 2 = tAt c) (C : FCtx w0 wS V tb t tcs) : ∀ (ss : List FStep) (p : Nat), fillIdx ss p = true → (∀ st ∈ ss, FStepOk P c S ts st) →
    SemF P w0 wS V tb ts Vo T (gFSteps c s ck S Vo T ss) (fun fs => ∀ st ∈ ss, preS st fs) (runF ss t) (dls ss)
  | [], _, _, _ => by
    intro R Γ n ρ w fs cs k hw _ hfl hV hbV hT hbT hk
    have := hk n [] ρ w cs (Nat.le_refl _) rfl .refl hfl hw
    simpa [gFSteps] using this
  | st :: ss, p, hidx, hok => by
    intro R Γ n ρ w fs cs k hw hpre hfl hV hbV hT hbT hk
    simp only [fillIdx, Bool.and_eq_true] at hidx
    have hx := Nat.eq_of_beq_eq_true hidx.1
    simp only [gFSteps]
    refine semF_step S0 X hAt C st (hok st (by simp)) R Γ n ρ w fs cs (fun n' => gFSteps c s ck S Vo T ss n' (Γ.length + st.dl) k) hw (hpre st (by simp)) hfl hV hbV hT hbT fun n1 Δ1 ρ1 w1 cs1 h1 hΔ ag1 hfl1 hw1 => ?_
    have hd : Γ.length + st.dl = (Γ ++ Δ1).length := by rw [List.length_append, hΔ]
    show (gFSteps c s ck S Vo T ss n1 (Γ.length + st.dl) k).sem P R (Γ ++ Δ1) n1 ρ1 w1
    rw [hd]
    refine semF_steps S0 X hAt C ss (p + 1) hidx.2 (fun x hx => hok x (by simp [hx])) R (Γ ++ Δ1) n1 ρ1 w1 _ cs1 k hw1 (fun x hx' => ?_) hfl1 ((ag1 Vo hbV).trans hV) (hbV.mono h1) ((ag1 T hbT).trans hT) (hbT.mono h1) fun n2 Δ2 ρ2 w2 cs2 h2 hΔ2 ag2 hfl2 hw2 => ?_
    · have hne := fillIdx_le hidx.2 x hx'
      have h0 := hpre x (by simp [hx'])
      cases x with
      | tags i off f =>
        simp only [preS] at h0 ⊢
        simp only [FStep.idx] at hne
        unfold setF
        rw [List.getElem?_set_ne (by omega)]
        exact h0
      | _ => trivial
    · have := hk n2 (Δ1 ++ Δ2) ρ2 w2 cs2 (by omega) (by simp [hΔ, hΔ2, dls]) (ag1.trans ag2 h1) hfl2 hw2
      rwa [← List.append_assoc] at this

def preB (st : FStep) (fs : List FV) : Bool := match st with
  | .tags i _ _ => match fs[i]? with
    | some (.tags []) => true
    | _ => false
  | _ => true

theorem preS_of {ss : List FStep} {fs : List FV} (h : ss.all (fun st => preB st fs) = true) : ∀ st ∈ ss, preS st fs := fun st hst => by
  have h1 := List.all_eq_true.1 h st hst
  cases st with
  | tags i off f =>
    simp only [preB] at h1
    split at h1
    · assumption
    · cases h1
  | _ => trivial

def FStepsOk (P : Program) (c : Nums) (S : Nat) (ts : List Ty) : List FStep → Prop
  | [] => True
  | st :: ss => FStepOk P c S ts st ∧ FStepsOk P c S ts ss

theorem stepsOk_all : ∀ {ss : List FStep}, FStepsOk P c S ts ss → ∀ st ∈ ss, FStepOk P c S ts st
  | [], _, st, h => by cases h
  | x :: ss, ⟨h1, h2⟩, st, h => by
    rcases List.mem_cons.1 h with rfl | h
    · exact h1
    · exact stepsOk_all h2 st h

/-- A part is made. -/
theorem make_gives {f : Nat} {zs : List FV} {ss : List FStep} {cells : List Value} (S0 : SpFacts P c s) (X : FillFacts P c) (hAt : treeIn P s.at_ noOrc [.tmp 0, .tmp 1] 2 = tAt c) (hz : zeroTy P S = some (.agg ⟨cells⟩, cells.length)) (hagg : aggTy P S = some cells.length) (himm : immL zs = some cells) (hwd : zs.map FV.wd = ts.map Ty.wd)
    (hidx : fillIdx ss 0 = true) (hlen : ss.length = zs.length) (hpre : ∀ st ∈ ss, preS st zs) (hok : ∀ st ∈ ss, FStepOk P c S ts st) (hT : treeIn P f noOrc [.tmp 0] 1 = gMake c s S ss) : MakeOf P f ts fun y => fillVals ss y zs := by
  intro w0 w y ycs hyc htd k0
  refine gives_in (ρ := en [.agg ⟨ycs⟩]) S0.rd.mix hT (Nat.le_refl _) rfl (by simp [opBelow]) ?_
  unfold gMake
  refine s_box rfl fun w1 h1 k1 z1 => ?_
  refine s_alloc hz fun w2 h2 k2 z2 => ?_
  refine s_alloc hz fun w3 h3 k3 z3 => ?_
  have s0 := k0.size
  have s12 := k2.size
  have s23 := k3.size
  have C : FCtx w0 w3 w2.heap.size w.heap.size y ycs := ⟨hyc, htd, by omega, by omega, (h1.keep k2 (by simp)).keep k3 (by simp), by omega, ((k0.trans k1).trans k2).trans k3⟩
  refine semF_steps (ck := false) (Vo := .tmp 3) (T := .tmp 1) S0 X hAt C ss 0 hidx hok _ [] 4 _ w3 zs cells _ hwd hpre ⟨h3, immL_atA himm _ _, .refl⟩ rfl (by simp [opBelow]) rfl (by simp [opBelow]) fun n' Δ ρ' w4 cs' hle _ ag hfl hw' => ?_
  have hrun : runF ss y zs = fillVals ss y zs := runF_eq (pre := []) hidx rfl hlen
  rw [hrun] at hfl hw'
  have hcl : cs'.length = cells.length := by
    have e1 := FsA.len _ _ hfl.fs
    have e2 := FsA.len _ _ (immL_atA himm (fun _ => True) w)
    rw [e1, e2, wds_eq, wds_eq, hw', hwd]
  have hV : ρ' 3 = ptr w2.heap.size := ag.tmp (by omega)
  have hR : ρ' 2 = ptr w1.heap.size := ag.tmp (by omega)
  refine s_lok (l_loadN (b := w2.heap.size) (o := 0) hagg hV hfl.has (by omega)) ?_
  rw [take0 hcl]
  have h2' : Has w4 w1.heap.size cells := (h2.keep k3 (by simp)).keep hfl.k (by simp only [List.mem_singleton]; omega)
  refine s_storeAll (b := w1.heap.size) (old := cells) (cs := cs') (by rw [hcl]; exact hagg) (by
    show ext _ n' _ 2 = _
    rw [ext_lt (by omega)]; exact hR) (congrArg Value.cells (show ext _ n' _ n' = _ from ext_at)) h2' hcl.symm (FsA.ones _ _ hfl.fs) fun w5 h5 k5 => ?_
  refine s_retAgg (b := w1.heap.size) (by
    show ext _ _ _ 2 = _
    rw [ext_lt (by omega), ext_lt (by omega)]; exact hR) h5 (by rw [hcl]; exact hagg) ⟨⟨cs', rfl, ?_, hw'⟩, ?_⟩
  · exact FsA.keep k5 (fun b hb h => by
      simp only [List.mem_singleton] at hb
      rcases h with h | h <;> omega) (fun b h _ => h.imp id fun h => by omega) _ _ hfl.fs
  · exact (((k1.trans k2).trans k3).mono (by simp) |>.trans ((hfl.k.mono (fun x hx => List.mem_append_left [w1.heap.size] hx)).trans (k5.mono fun x hx => List.mem_append_right _ hx))).less fun x hx => .inr (by
      simp only [List.mem_append, List.mem_singleton] at hx
      omega)

/-- A message is filled. -/
def FillOf (P : Program) (f : Nat) (ts : List Ty) (pre : List FV → Prop) (e : PT → List FV → List FV) : Prop := ∀ (w0 w : World) (V : Nat) (t : PT) (tcs cs : List Value) (fs : List FV), TreeC w0 t tcs → t.tidy → Keeps [] w0 w → w0.heap.size ≤ V → Has w V cs → FsA (FitA w0 w) w fs cs → fs.map FV.wd = ts.map Ty.wd → pre fs →
  Gives P f [ptr V, .agg ⟨tcs⟩] w fun _ w' => (∃ cs', Has w' V cs' ∧ FsA anyB w' (e t fs) cs') ∧ Keeps [V] w w'

theorem fill_gives {f p : Nat} {ss : List FStep} (S0 : SpFacts P c s) (X : FillFacts P c) (hAt : treeIn P s.at_ noOrc [.tmp 0, .tmp 1] 2 = tAt c) (hidx : fillIdx ss p = true) (hok : ∀ st ∈ ss, FStepOk P c S ts st) (hT : treeIn P f noOrc [.tmp 0, .tmp 1] 2 = gFill c s S ss) : FillOf P f ts (fun fs => ∀ st ∈ ss, preS st fs) fun t fs => runF ss t fs := by
  intro w0 w V t tcs cs fs htc htd k0 hlo hh hfs hwd hpre
  refine gives_in (ρ := en [ptr V, .agg ⟨tcs⟩]) S0.rd.mix hT (Nat.le_refl _) rfl (by simp [opBelow]) ?_
  unfold gFill
  refine s_box rfl fun w1 h1 k1 z1 => ?_
  have s0 := k0.size
  have hVl := hh.lt
  have C : FCtx w0 w1 V w.heap.size t tcs := ⟨htc, htd, hlo, by omega, h1, by omega, k0.trans k1⟩
  have hfs1 : FsA (FitA w0 w1) w1 fs cs := FsA.keep k1 (fun b hb => by cases hb) (fun b h hlt => by
    rcases h with h | h
    · exact .inl h
    · omega) _ _ hfs
  refine semF_steps (ck := true) (Vo := .tmp 0) (T := .tmp 2) S0 X hAt C ss p hidx hok _ [] 3 _ w1 fs cs _ hwd hpre ⟨hh.keep k1 (by simp), hfs1, .refl⟩ rfl (by simp [opBelow]) rfl (by simp [opBelow]) fun n' Δ ρ' w4 cs' hle _ ag hfl hw' => ?_
  exact s_ret0 ⟨⟨cs', hfl.has, FsA.keep (M := []) .refl (fun b hb => by cases hb) (fun _ _ _ => trivial) _ _ hfl.fs⟩, (k1.mono (by simp)).trans hfl.k⟩

end

end Go.Kf

namespace Go.Kf

open Go

section

variable {P : Program} {c : Nums} {s : SN} {w : World}

/-- What the door yields: new octets. -/
def MadeBy (P : Program) (f : Nat) (args : List Value) (w : World) (out : List UInt8) : Prop := Gives P f args w fun u w' => Own w' u 1 out.length (bcells out) ∧ Keeps [] w w'

end

end Go.Kf

namespace Go.Kf

open Go

section

variable {P : Program} {c : Nums} {s : SN} {w : World} {ρ : Nat → Value}

theorem own_slice' {w : World} {v : Value} {sz n : Nat} {xs : List Value} (h : Own w v sz (n + 1) xs) : ∃ b cap, v = .slice (some ⟨b, 0, none⟩) (n + 1) cap := by
  rcases h.2 with ⟨_, h⟩ | ⟨b, cap, _, e, _⟩
  · cases h
  · exact ⟨b, cap, e⟩

/-- append, where there is room: the same block. -/
theorem append_room {t tx ty e : TypeId} {inf : TypeInfo} {n m cap b : Nat} {x : Value} {cs ys : List Value} (ht : P.underlying t = some (.slice e)) (hi : P.info? e = some inf) (hsz : inf.size = 1) (hh : Has w b cs) (hc : cs.length = cap) (hroom : n + m ≤ cap) (hs : Src P 1 tx x m ys w) :
    ∃ w', (Builtin.append_ ⟨[t, tx]⟩ ty ⟨[.slice (some ⟨b, 0, none⟩) n cap, x]⟩).run P w = .ok (.slice (some ⟨b, 0, none⟩) (n + m) cap) w' ∧ Has w' b (splice cs n ys) ∧ Keeps [b] w w' := by
  have hnl : ys.length = m := by simpa using hs.newsLen
  have hys : 0 + n + ys.length ≤ cs.length := by omega
  have hcell : ∀ j, j < ys.length → (w.cell? ⟨b, 0 + n + j, none⟩).isSome = true := fun j hj => by
    rw [hh.cell (List.getElem?_eq_getElem (by omega))]; rfl
  have hfr : ∀ j, j < ys.length → w.frozen? ⟨b, 0 + n + j, none⟩ = false := fun j hj => hh.unfrozen (by omega)
  have hs' : Src P inf.size tx x m ys w := by rw [hsz]; exact hs
  have h := run_append_room_src (P := P) w t tx ty e inf ht hi b 0 n cap x m ys hs' hroom (by rw [hsz, Nat.mul_one]; exact hcell) (by rw [hsz, Nat.mul_one]; exact hfr)
  rw [hsz, Nat.mul_one] at h
  obtain ⟨w', h1, h2, h3⟩ := setCells_ok (P := P) hh (o := 0 + n) ys hys hs.one
  have h4 : w.setCells b (0 + n) ys = w' := by
    have h5 := run_storeCells_cells (P := P) b (0 + n) ys 0 w (by simpa using hcell) (by simpa using hfr) hs.one
    rw [h1] at h5
    injection h5 with _ h6
    simpa using h6.symm
  rw [h4] at h
  rw [Nat.zero_add] at h2
  exact ⟨w', h, h2, h3⟩

theorem octetsOf_gives {f : Nat} (S : SpFacts P c s) (Z : TyFacts P c c.tTree c.tTrees c.tTagL c.tTag) (hT : treeIn P f noOrc [.tmp 0] 1 = tOctetsOf c) : OctetsOf P f := by
  intro w t cs htc
  obtain ⟨sv, lv0, uv, lcs, ucs, etc, e1, e2, e3, e4, e5⟩ := htc.cells
  have hsl := htc.lens.1
  subst etc
  refine gives_in (ρ := en [_]) S.rd.mix hT (Nat.le_refl _) rfl (by simp [opBelow]) ?_
  refine s_box rfl fun w1 hx1 k1 z1 => ?_
  refine s_fl Z.f2 S.rd.oneBool rfl rfl hx1 rfl ?_
  refine s_cond (b := t.null) rfl (fun hb => s_ret1 ⟨by rw [hb]; exact ⟨⟨by simp [bcells], .inl ⟨rfl, rfl⟩⟩, rfl, fun b hb => by cases hb⟩, k1⟩) fun hb => ?_
  obtain ⟨w2, e6, h6, k6, z6⟩ := a_sliceEmpty (P := P) (ρ := ext (ext (ext (en [Value.agg ⟨[.int .i64 t.n, sv, .bool t.null, lv0, uv]⟩]) 1 [ptr w.heap.size]) 2 [ptr w.heap.size 2]) 3 [.bool t.null]) (w := w1) S.rd.bytes S.rd.szU8
  refine s_act e6 (fun p hp => (by cases hp)) ?_
  have hx2 := hx1.keep k6 (by simp)
  have k02 := k1.trans k6
  refine s_fl Z.f1 S.rd.oneBytes rfl rfl hx2 rfl ?_
  have hsrc : Src P 1 c.tBytes sv t.s.length (bcells t.s) w2 := (e1.keep k02).src S.rd.bytes (bcells_one _)
  have s1 := k1.size
  have s2 := k6.size
  by_cases h0 : t.s = []
  · obtain ⟨inf, hi, hz, hsz, hbt⟩ := S.zero8
    rw [h0] at hsrc
    obtain ⟨w3, e7, h7, k7⟩ := append_room (ty := 0) (n := 0) (m := 0) (cap := 0) S.rd.bytes hi hsz h6 rfl (Nat.le_refl _) hsrc
    have e8 : runOp P (ext (ext (ext (ext (ext (ext (en [Value.agg ⟨[.int .i64 t.n, sv, .bool t.null, lv0, uv]⟩]) 1 [ptr w.heap.size]) 2 [ptr w.heap.size 2]) 3 [.bool t.null]) 4 [.slice (some ⟨w1.heap.size, 0, none⟩) 0 0]) 5 [ptr w.heap.size 1]) 6 [sv]) (appB c (.tmp 4) (.tmp 6) c.tBytes) w2 = .ok (.value (.slice (some ⟨w1.heap.size, 0, none⟩) 0 0)) w3 := by
      unfold appB runOp bareOp
      simp only [execOp, resolve, pure_bind, invoke, builtin, Sem.run_bind]
      have e9 : (Array.map (ev (ext (ext (ext (ext (ext (ext (en [Value.agg ⟨[.int .i64 t.n, sv, .bool t.null, lv0, uv]⟩]) 1 [ptr w.heap.size]) 2 [ptr w.heap.size 2]) 3 [.bool t.null]) 4 [.slice (some ⟨w1.heap.size, 0, none⟩) 0 0]) 5 [ptr w.heap.size 1]) 6 [sv])) ⟨[.tmp 4, .tmp 6]⟩ : Array Value) = ⟨[.slice (some ⟨w1.heap.size, 0, none⟩) 0 0, sv]⟩ := by
        simp only [List.map_toArray, List.map_cons, List.map_nil]
        rfl
      rw [e9, e7]
      rfl
    refine s_act e8 (fun p hp => (by cases hp)) (s_ret1 ⟨?_, ?_⟩)
    · rw [hb, h0]
      exact ⟨⟨by simp [bcells], .inr ⟨w1.heap.size, 0, 0, _, rfl, Nat.le_refl _, h7, by simp, by simp [bcells]⟩⟩, rfl, fun b hb => by simp only [ev, ext, blkOf, List.mem_singleton] at hb; simp at hb; omega⟩
    · exact ((k02.mono (by simp)).trans k7).less fun x hx => .inr (by simp only [List.mem_singleton] at hx; omega)
  · have hown : Own w2 (.slice (some ⟨w1.heap.size, 0, none⟩) 0 0) 1 0 [] := ⟨rfl, .inr ⟨w1.heap.size, 0, [], rfl, h6, Nat.le_refl _, by decide, rfl⟩⟩
    refine s_appW (l := []) (e := t.s) (v := .slice (some ⟨w1.heap.size, 0, none⟩) 0 0) (u := sv) S rfl rfl (by simpa [bcells] using hown) hsrc (by unfold maxW; simp; omega) fun v w3 hpb => ⟨fun p hp => (by cases hp), ?_⟩
    obtain ⟨g1, g2, g3⟩ := hpb
    rw [List.nil_append] at g1
    refine s_ret1 ⟨?_, ?_⟩
    · rw [hb, show ev (ext _ 7 [v]) (.tmp 7) = v from ext_at]
      refine ⟨g1.reads, ?_, fun b hb => ?_⟩
      · cases hl : t.s with
        | nil => exact absurd hl h0
        | cons x r =>
          rw [hl] at g1
          obtain ⟨b, cap, e⟩ := own_slice' g1
          rw [e]; rfl
      · rcases g3 b hb with h | h
        · simp only [blkOf, List.mem_singleton] at h; omega
        · omega
    · exact ((k02.mono (by simp)).trans g2).less fun x hx => .inr (by simp only [blkOf, List.mem_singleton] at hx; omega)

end

end Go.Kf


namespace Go.Kf

open Go

def tKept (c : Nums) (s : SN) : Tr :=
  .op (.box s.msg (.tmp 0)) none [] <| .op (.box c.sTree (.tmp 2)) none [] <| .draw <| .lok (.load s.msg (.tmp 3)) none <| .lok (.load c.sTree (.tmp 4)) none <|
  .op (callOp s.fixed [.tmp 1, .const (.int .i64 2)]) none [(.load c.sTree (.tmp 4), 6), (.load s.msg (.tmp 3), 5)] <| .op (callOp s.write [.tmp 5, .tmp 1, .tmp 6]) none [] <|
  .op (.call { callee := .builtin .append, args := ⟨[.tmp 7, .tmp 8]⟩, argTypes := ⟨[c.tBytes, c.tBytes]⟩ }) none [] <| .ret [(.tmp 9, none)]

def pKept (fs : List PF) (x v : Int) (t : PT) : List UInt8 := pFixed v 2 ++ pWrite fs x v t

section

variable {P : Program} {c : Nums} {s : SN} {w : World}

theorem kept_gives {f : Nat} (S : SpFacts P c s) (T : SpTrees P c s) (hT : treeIn P f noOrc [.tmp 0, .tmp 1, .tmp 2] 3 = tKept c s) {fs : List PF} (h : PF.plains fs = true) (hlen : fs.length < 65536) {fv : Value} {t : PT} {ts : List Value} (x v : Int) (hfv : FieldsV w fs fv) (ht : TreeC w t ts) (hok : t.ok) (hl : (pKept fs x v t).length ≤ maxW) :
    YieldsO P f [.agg ⟨[fv, .int .i64 x]⟩, .int .i64 v, .agg ⟨ts⟩] w (pKept fs x v t) := by
  have htl := ht.len
  have hl2 : (pFixed v 2 ++ pWrite fs x v t).length ≤ maxW := hl
  rw [List.length_append] at hl2
  refine gives_in (ρ := en [_, _, _]) S.rd.mix hT (Nat.le_refl _) rfl (by simp [opBelow]) ?_
  refine s_box rfl fun w1 hx1 k1 z1 => ?_
  refine s_box rfl fun w2 hy2 k2 z2 => ?_
  have hx2 := hx1.keep k2 (by simp)
  show Tr.sem _ _ _ _ _ _ { w2 with drawn := w2.drawn + 1 }
  have hd : Keeps [] w2 { w2 with drawn := w2.drawn + 1 } := keeps_drawn w2 _ _
  generalize ({ w2 with drawn := w2.drawn + 1 } : World) = w3 at hd ⊢
  have hx3 := hx2.keep hd (by simp)
  have hy3 := hy2.keep hd (by simp)
  have k03 := (k1.trans k2).trans hd
  refine l_lok (l_loadN (b := w.heap.size) (o := 0) S.msg rfl hx3 (Nat.le_refl _)) ?_
  rw [show (([fv, Value.int .i64 x].drop 0).take 2) = [fv, .int .i64 x] from rfl]
  refine l_lok (l_loadN (b := w1.heap.size) (o := 0) S.ty.agg rfl hy3 (by omega)) ?_
  rw [take0 htl]
  refine s_callO (fixed_gives S T.fixed v 2 (by decide)) rfl fun u w4 hM => ⟨?_, ?_⟩
  · intro p hp
    simp only [List.mem_cons, List.not_mem_nil, or_false] at hp
    rcases hp with rfl | rfl
    · have := l_loadN (P := P) (ρ := en []) (w := w4) (x := .const (ptr w1.heap.size)) (b := w1.heap.size) (o := 0) S.ty.agg rfl (hy3.keep hM.2.2 (by simp)) (by omega)
      rw [take0 htl] at this
      exact this
    · exact l_loadN (P := P) (ρ := en []) (w := w4) (x := .const (ptr w.heap.size)) (b := w.heap.size) (o := 0) S.msg rfl (hx3.keep hM.2.2 (by simp)) (Nat.le_refl _)
  have k04 := k03.trans hM.2.2
  refine s_callO (write_gives S T h hlen x v (hfv.keep k04) (TreeC.keep k04 _ _ ht) hok (by omega)) rfl fun u2 w5 hM2 => ⟨fun p hp => (by cases hp), ?_⟩
  have hm : MadeO w3 w5 u (pFixed v 2) := MadeO.more hM hM2.2.2
  refine s_appendO (v := u) (u := u2) (l1 := pFixed v 2) (l2 := pWrite fs x v t) S rfl rfl hm (hM2.1.reads.src S.rd.bytes (bcells_one _)) (by rw [List.length_append]; exact hl2) fun v' w6 hm6 _ => ⟨fun p hp => (by cases hp), ?_⟩
  exact s_ret1 ⟨hm6.1, fun b hb => Nat.le_trans k03.size (hm6.2.1 b hb), k03.trans hm6.2.2⟩

end

end Go.Kf



namespace Go.Kf

open Go

def tMakeDoorK (c : Nums) (S fFill fApp : Nat) : Tr :=
  .op (.box c.tTree (.tmp 1)) none [] <| .op (.convert c.tInt c.tI16 (.tmp 0)) none [] <| .op (.build S ⟨[(0, .tmp 3)]⟩) none [] <| .op (.box S (.tmp 4)) none [] <| .op (.load c.tTree (.tmp 2)) none [] <|
  .op (callOp fFill [.tmp 5, .tmp 6]) none [] <| .op (callOp fApp [.tmp 5, .const (.slice none 0 0)]) none [] <| .ret [(.tmp 8, none)]

def tMakeLawK (c : Nums) (s : SN) (m fMsg fFit fGiven fMake fKept : Nat) : Tr :=
  .op (.box c.sTree (.tmp 1)) none [] <| .op (.load c.sTree (.tmp 2)) none [] <| .op (callOp s.fits1 [(.tmp 3)]) none [] <| .op (.unOp .not c.tBool (.tmp 4)) none [] <|
  .cond (.tmp 5) (.ret [(.const (.bool true), none)]) (
    .op (callOp fMsg []) none [] <| .op (.convert c.tU8 c.tInt (.tmp 0)) none [] <| .op (.binOp .rem c.tInt (.tmp 7) (.const (.int .i64 (m : Int))) c.tInt) none [] <| .op (.alloc s.msg) none [] <| .op (.store s.msg (.tmp 9) (.tmp 6)) none [] <|
    .draw <| .pur (.fieldAddr s.msg (.tmp 9) 0) none <| .lok (.load s.fields (.tmp 11)) none <| .lok (.load c.sTree (.tmp 2)) none <| .lok (.load s.msg (.tmp 9)) none <| .lok (.load c.sTree (.tmp 2)) none <|
    .op (callOp fFit [(.tmp 12), (.tmp 8), (.tmp 13)]) none [((.load c.sTree (.tmp 2)), 15), ((.load s.msg (.tmp 9)), 14)] <|
    .op (callOp fGiven [(.tmp 16)]) none [((.load c.sTree (.tmp 2)), 15), ((.load s.msg (.tmp 9)), 14)] <|
    .op (callOp fMake [(.tmp 8), (.tmp 17)]) none [((.load c.sTree (.tmp 2)), 15), ((.load s.msg (.tmp 9)), 14)] <|
    .op (callOp fKept [(.tmp 14), (.tmp 8), (.tmp 15)]) none [] <| .op (callOp s.same [(.tmp 18), (.tmp 19)]) none [] <| .ret [((.tmp 20), none)])

section

variable {P : Program} {c : Nums} {s : SN} {w : World}

theorem mkDoorK_gives {f fFill fApp S : Nat} {cells tcs : List Value} {t : PT} {ver : Int} {ts : List Ty} {ss : List FStep} {zs : List FV} {ws : List WStep} {ps : List (Nat × Nat)} (F : RdFacts P c) (Z : TyFacts P c c.tTree c.tTrees c.tTagL c.tTag) (hT : treeIn P f noOrc [.tmp 0, .tmp 1] 2 = tMakeDoorK c S fFill fApp) (hver : IntKind.i16.wrap ver = ver)
    (hplan : buildPlan P S = some (.int .i16 0 :: cells, ps)) (hfo : fillOnes ps (.int .i16 0 :: cells) [(0, .int .i16 ver)] = some (.int .i16 ver :: cells)) (himm : immL zs = some cells) (hFill : FillOf P fFill ts (fun fs => ∀ st ∈ ss, preS st fs) fun t fs => runF ss t fs) (hidx : fillIdx ss 1 = true) (hlen : ss.length = zs.length) (hpre : ∀ st ∈ ss, preS st (.one (.int .i16 ver) :: zs))
    (hwd : (FV.one (.int .i16 ver) :: zs).map FV.wd = ts.map Ty.wd) (hA : AppTo P fApp ts ver ws) (hok : okFs (.one (.int .i16 ver) :: fillVals ss t zs) ts) (htc : TreeC w t tcs) (htd : t.tidy) (hl : (encSteps ws (.one (.int .i16 ver) :: fillVals ss t zs)).length ≤ maxW) :
    MadeBy P f [.int .i64 ver, .agg ⟨tcs⟩] w (encSteps ws (.one (.int .i16 ver) :: fillVals ss t zs)) := by
  have htl := htc.len
  refine gives_in (ρ := en [.int .i64 ver, .agg ⟨tcs⟩]) F.mix hT (Nat.le_refl _) rfl (by simp [opBelow]) ?_
  unfold tMakeDoorK
  refine s_box rfl fun w1 h1 k1 z1 => ?_
  refine s_val (v_conv (k1 := .i64) (k2 := .i16) (a := ver) F.int F.i16 rfl) ?_
  rw [hver]
  refine s_val (v_build (cells := .int .i16 ver :: cells) hplan (fun p hp => by
    simp only [List.mem_singleton] at hp
    subst hp
    rfl) hfo) ?_
  refine s_box rfl fun w2 h2 k2 z2 => ?_
  have s1 := k1.size
  have h12 := h1.keep k2 (by simp)
  refine s_lok (l_loadN (b := w.heap.size) (o := 0) Z.agg rfl h12 (by omega)) ?_
  rw [take0 htl]
  have k02 : Keeps [] w w2 := k1.trans k2
  have hfs : FsA (FitA w w2) w2 (.one (.int .i16 ver) :: zs) (.int .i16 ver :: cells) := ⟨[.int .i16 ver], cells, rfl, ⟨rfl, rfl⟩, immL_atA himm _ _⟩
  refine s_callx (hFill w w2 w1.heap.size t tcs _ _ htc htd k02 s1 h2 hfs hwd hpre) rfl fun u w4 ⟨⟨cs', h4, hfs4⟩, k4⟩ => ?_
  have hrun : runF ss t (.one (.int .i16 ver) :: zs) = .one (.int .i16 ver) :: fillVals ss t zs := runF_eq (pre := [.one (.int .i16 ver)]) hidx rfl hlen
  replace hfs4 : FsA anyB w4 (runF ss t (.one (.int .i16 ver) :: zs)) cs' := hfs4
  rw [hrun] at hfs4
  refine s_callx (hA w4 w4 w1.heap.size cs' _ (.slice none 0 0) [] hok rfl h4 hfs4 (MadeO.nil w4) (by rw [List.nil_append]; exact hl)) rfl fun u w5 hm => ?_
  rw [List.nil_append] at hm
  refine s_ret1 ⟨hm.1, ?_⟩
  exact ((k02.mono (by simp)).trans (k4.trans (hm.2.2.mono (by simp)))).less fun x hx => .inr (by simp only [List.mem_singleton] at hx; omega)

theorem mkLawK_gives {f m fMsg fFit fOne fGiven fMake fKept n : Nat} {fs : List PF} {x : Int} {t : PT} {ts : List Value} (S : SpFacts P c s) (T : SpTrees P c s) (M : MkTrees P c s fFit fOne) (Fi : FitTrees P c s) (hSame : treeIn P s.same noOrc [.tmp 0, .tmp 1] 2 = tSame c) (hKept : treeIn P fKept noOrc [.tmp 0, .tmp 1, .tmp 2] 3 = tKept c s)
    (hT : treeIn P f noOrc [.tmp 0, .tmp 1] 2 = tMakeLawK c s m fMsg fFit fGiven fMake fKept) (hpl : PF.plains fs = true) (hlen : fs.length < 65536) (hMsgZero : ∃ z, zeroTy P s.msg = some (z, 2) ∧ z.cells.toList.length = 2) (hm : 0 < m) (hn : n < 256) (hMsg : MsgFn P fMsg fs x) (hGiven : ∀ x, GotOf P fGiven x)
    (hMake : ∀ (w : World) (cs : List Value), TreeC w (pFit (n % m : Nat) fs t) cs → MadeBy P fMake [.int .i64 (n % m : Nat), .agg ⟨cs⟩] w (pKept fs x (n % m : Nat) t))
    (hle : (pKept fs x (n % m : Nat) t).length ≤ 1073741824) (ht : TreeC w t ts) (hok : t.ok) : Gives P f [.int .u8 n, .agg ⟨ts⟩] w fun v w' => v = .bool true ∧ Keeps [] w w' := by
  have htl := ht.len
  refine gives_in (ρ := en [.int .u8 n, .agg ⟨ts⟩]) S.rd.mix hT (Nat.le_refl _) rfl (by simp [opBelow]) ?_
  refine s_box rfl fun w1 h2 k1 z1 => ?_
  refine s_lok (l_loadN (b := w.heap.size) (o := 0) S.ty.agg rfl h2 (by omega)) ?_
  rw [take0 htl]
  refine s_callx (fits1_gives S Fi (TreeC.keep k1 _ _ ht)) rfl fun u w2 ⟨⟨q, hq⟩, k2⟩ => ?_
  subst hq
  refine s_val (v_not (b := q) rfl) ?_
  refine s_cond (b := !q) rfl (fun _ => s_ret1 ⟨rfl, k1.trans k2⟩) fun _ => ?_
  refine s_callx (hMsg w2) rfl fun v w4 ⟨⟨fv, hv, hfv⟩, k4⟩ => ?_
  subst hv
  refine s_val (v_conv (k1 := .u8) (a := n) S.rd.u8 S.rd.int rfl) ?_
  rw [i64_small (by omega) (by omega)]
  refine s_val (v_rem (a := n) (b := m) rfl rfl hm) ?_
  have hone : fv.oneCell' = true := by
    obtain ⟨_, h1, _⟩ := hfv
    exact h1.one
  obtain ⟨zm, hzm, hzs⟩ := hMsgZero
  refine s_alloc hzm fun w6 h6 k6 z6 => ?_
  refine s_storeAll (b := w4.heap.size) (old := zm.cells.toList) (cs := [fv, .int .i64 x]) S.msg rfl rfl h6 hzs (fun u hu => ?_) fun w7 h7 k7 => ?_
  · simp only [List.mem_cons, List.not_mem_nil, or_false] at hu
    rcases hu with rfl | rfl
    · exact hone
    · rfl
  show Tr.sem _ _ _ _ _ _ { w7 with drawn := w7.drawn + 1 }
  have hd : Keeps [] w7 { w7 with drawn := w7.drawn + 1 } := keeps_drawn w7 _ _
  generalize ({ w7 with drawn := w7.drawn + 1 } : World) = w8 at hd ⊢
  have k58 : Keeps [] w4 w8 := (((k6.mono (by simp)).trans k7).less fun y hy => .inr (by simp only [List.mem_singleton] at hy; omega)).trans hd
  have hfv8 : FieldsV w8 fs fv := FieldsV.keep k58 hfv
  have k08 : Keeps [] w w8 := ((k1.trans k2).trans k4).trans k58
  have h28 : Has w8 w.heap.size ts := h2.keep ((k2.trans k4).trans k58) (by simp)
  have h78 := h7.keep hd (by simp)
  refine p_fl (b := w4.heap.size) (o := 0) S.m0 S.oneFields rfl rfl h78 rfl ?_
  refine l_lok (l_loadN (b := w.heap.size) (o := 0) S.ty.agg rfl h28 (by omega)) ?_
  rw [take0 htl]
  refine l_lok (l_loadN (b := w4.heap.size) (o := 0) S.msg rfl h78 (Nat.le_refl _)) ?_
  rw [show (([fv, Value.int .i64 x].drop 0).take 2) = [fv, .int .i64 x] from rfl]
  refine l_lok (l_loadN (b := w.heap.size) (o := 0) S.ty.agg rfl h28 (by omega)) ?_
  rw [take0 htl]
  have ldT : ∀ (w' : World) (ρ : Nat → Value), Keeps [] w8 w' → ρ 2 = ptr w.heap.size → runOp P ρ (.load c.sTree (.tmp 2)) w' = .ok (.value (.agg ⟨ts⟩)) w' := fun w' ρ kk hρ => by
    have := l_loadN (P := P) (ρ := ρ) (w := w') (x := .tmp 2) (b := w.heap.size) (o := 0) S.ty.agg hρ (h28.keep kk (by simp)) (by omega)
    rwa [take0 htl] at this
  have ldM : ∀ (w' : World) (ρ : Nat → Value), Keeps [] w8 w' → ρ 9 = ptr w4.heap.size → runOp P ρ (.load s.msg (.tmp 9)) w' = .ok (.value (.agg ⟨[fv, .int .i64 x]⟩)) w' := fun w' ρ kk hρ =>
    l_loadN (P := P) (ρ := ρ) (w := w') (x := .tmp 9) (b := w4.heap.size) (o := 0) S.msg hρ (h78.keep kk (by simp)) (Nat.le_refl _)
  refine s_call (xs := [.tmp 12, .tmp 8, .tmp 13]) (fit_all S T M (n % m : Nat) hpl hlen w8 w8 t fv ts hfv8 (TreeC.keep k08 _ _ ht) hok .refl) fun u w9 ⟨⟨fcs, hu, hft⟩, k9⟩ => ⟨?_, ?_⟩
  · intro p hp
    simp only [List.mem_cons, List.not_mem_nil, or_false] at hp
    rcases hp with rfl | rfl
    · exact ldT w9 _ k9 rfl
    · exact ldM w9 _ k9 rfl
  subst hu
  refine s_call (xs := [.tmp 16]) (hGiven _ w9 _ fcs hft) fun u w10 ⟨⟨gcs, hu, hgt⟩, k10⟩ => ⟨?_, ?_⟩
  · intro p hp
    simp only [List.mem_cons, List.not_mem_nil, or_false] at hp
    rcases hp with rfl | rfl
    · exact ldT w10 _ (k9.trans k10) rfl
    · exact ldM w10 _ (k9.trans k10) rfl
  subst hu
  refine s_call (xs := [.tmp 8, .tmp 17]) (hMake w10 gcs (TreeC.of_at hgt)) fun u w11 ⟨hown, k11⟩ => ⟨?_, ?_⟩
  · intro p hp
    simp only [List.mem_cons, List.not_mem_nil, or_false] at hp
    rcases hp with rfl | rfl
    · exact ldT w11 _ ((k9.trans k10).trans k11) rfl
    · exact ldM w11 _ ((k9.trans k10).trans k11) rfl
  have k811 := (k9.trans k10).trans k11
  have k011 := k08.trans k811
  have hmx : (1073741824 : Nat) ≤ maxW := by decide
  refine s_callO (kept_gives S T hKept hpl hlen x (n % m : Nat) (hfv8.keep k811) (TreeC.keep k011 _ _ ht) hok (Nat.le_trans hle hmx)) rfl fun u2 w12 hM => ⟨fun p hp => (by cases hp), ?_⟩
  have hlen2 : (pKept fs x (n % m : Nat) t).length < 2 ^ 62 := by omega
  refine s_callx (same_ro S.rd hSame (.inl hlen2) (Ro.of_reads (hown.keep hM.2.2 (by simp)).reads) (Ro.of_reads hM.1.reads)) rfl fun v w13 ⟨hv, kd⟩ => ?_
  refine s_ret1 ⟨?_, (k011.trans hM.2.2).trans kd⟩
  rw [show ev (ext _ 20 [v]) (.tmp 20) = v from ext_at, hv]
  simp

/-- What is written of a message that holds its version. -/
theorem mk_messageK {v x : Int} {fs : List PF} {ss : List FStep} {ws : List WStep} {tys : List Ty} {zs : List FV} {f ty : Nat} (hpl : PF.plains fs = true) (hk : mkAll fs ss tys zs 1 0 = true) (hv : IntKind.i16.wrap v = v) (hw : wrPlain v (pFlex x v) fs ws (.num .i16 :: tys) 1 = true) (t : PT) :
    encSteps (.call (.num 2 .i16) f 0 ty 0 :: ws) (.one (.int .i16 v) :: fillVals ss (pFit v fs t) zs) = pKept fs x v t ∧ okFs (.one (.int .i16 v) :: fillVals ss (pFit v fs t) zs) (.num .i16 :: tys) := by
  obtain ⟨h1, h2⟩ := mk_message hpl hk hv hw t
  refine ⟨?_, h2⟩
  unfold pKept
  rw [← h1]
  rfl

end

end Go.Kf
