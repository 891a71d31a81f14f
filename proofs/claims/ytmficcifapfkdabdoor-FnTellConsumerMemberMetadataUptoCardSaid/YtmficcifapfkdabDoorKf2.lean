/- The library for this proof, part 2: trees of function bodies, and what the package's functions do. -/
import Derived.Test.YtmficcifapfkdabDoorKf1

namespace Go.Kf

open Go

section

variable {P : Program} {c : Nums} {R : Value → World → Prop} {rb D : Nat} {e : Fns} {rd : Operand} {ev0 : Value}

theorem sem_call {pk : PK} {f i ty off S : Nat} {ls : List Nat} (hf : RdAny P f pk) (hp : PlaceOk P S ls i off pk.wd) (hty : (P.info? ty).map (·.size) = some pk.wd) :
    SemOf P c R rb D rd ev0 (runStep (.call pk f i ty off)) (fun s n d res k => gStep c e rd (.call pk f i ty off) s S n d res k) ls (fun _ => true) := by
  intro s res n k Γ ρ w b lo pre post fs r hbr hrd hbs hs hbres h hls _ hk _
  simp only [gStep]
  refine s_callx (hf w rb D r h.rd) (by simp [hrd]) fun v w1 ⟨⟨cs, hcs, hfa⟩, hr1, k1⟩ => ?_
  have h1 := h.keep k1 (by simp) hr1 (pk.run_len r)
  refine s_setF (n := n + 1) (f' := (pk.run r).1) (m' := cs) hp hty (by rw [ev_ext' hbs (Nat.le_refl n)]; exact hs) (by simp [opBelow]) (by rw [show ev (ext ρ n [v]) (.tmp n) = v from ext_at]; exact hcs) (FAt.mono h.los _ _ hfa) (pk.run_wd r) hls h1 fun w2 vs h2 k2 => ?_
  exact hk _ _ (by simp only [runStep]) (n + 4) Γ _ w2 res (by omega) ⟨[], by simp⟩ (fun x hx => by rw [ext_lt (by omega), ext_lt hx]) (opBelow_mono hbres (by omega)) h2 (map_wd_set hls hp.wd (pk.run_wd r)) ((k1.mono (by simp)).trans (k2.mono (by simp)))

theorem sem_uuid {f i off S : Nat} {ls : List Nat} (hf : RdAny P f .uuid) (hp : PlaceOk P S ls i off 16) (U : UuidFacts P c) :
    SemOf P c R rb D rd ev0 (runStep (.uuid f i off)) (fun s n d res k => gStep c e rd (.uuid f i off) s S n d res k) ls (fun _ => true) := by
  intro s res n k Γ ρ w b lo pre post fs r hbr hrd hbs hs hbres h hls _ hk _
  simp only [gStep]
  refine s_callx (hf w rb D r h.rd) (by simp [hrd]) fun v w1 ⟨⟨cs, hcs, hfa⟩, hr1, k1⟩ => ?_
  have h1 := h.keep k1 (by simp) hr1 (PK.uuid.run_len r)
  have hlen : cs.length = 16 := FAt.len _ _ hfa
  have hcb : cs = bcells (rUuid r).1 := hfa.1
  obtain ⟨z, hz, hzc⟩ := U.zero
  obtain ⟨w2, e2, h2, k2, _⟩ := a_alloc (P := P) (ρ := ext ρ n [v]) (w := w1) hz
  refine s_act e2 (fun p hp => (by cases hp)) ?_
  have hz16 : z.cells.toList.length = 16 := by rw [hzc]; simp [bcells]
  have hag := aggTy_spec (w := w) U.agg
  obtain ⟨w3, e3, h3, k3⟩ := a_storeCells (P := P) (ρ := ext (ext ρ n [v]) (n + 1) [ptr w1.heap.size]) (w := w2) (t := c.tUuid) (x := .tmp (n + 1)) (y := .tmp n) (b := w1.heap.size) (o := 0) (vs := cs) (by rw [hlen]; exact hag.2) ext_at
    (by rw [show ev (ext (ext ρ n [v]) (n + 1) [ptr w1.heap.size]) (.tmp n) = v by show ext _ _ _ n = v; rw [ext_lt (by omega), ext_at]]; exact hcs) h2 (by omega) (FAt.ones _ _ hfa)
  refine s_unit e3 (fun p hp => (by cases hp)) ?_
  have hsp : splice z.cells.toList 0 cs = cs := by
    unfold splice
    simp only [List.take_zero, List.nil_append, Nat.zero_add]
    rw [List.drop_eq_nil_of_le (by omega), List.append_nil]
  rw [hsp] at h3
  refine s_lok (l_loadN (b := w1.heap.size) (o := 0) (cs := cs) U.agg (by show ext _ _ _ (n + 1) = _; rw [ext_lt (by omega)]; exact ext_at) h3 (by omega)) ?_
  have hk3 : Keeps [] w1 w3 := ((k2.mono (by simp)).trans k3).less fun x hx => .inr (by simp only [List.mem_singleton] at hx; omega)
  have h4 := h1.keep hk3 (by simp) (h1.rd.keep hk3 (by simp) (by simp)) (Nat.le_refl _)
  have hload : (cs.drop 0).take 16 = cs := by rw [List.drop_zero, List.take_of_length_le (by omega)]
  rw [hload]
  refine s_setF (n := n + 4) (f' := (PK.uuid.run r).1) (m' := cs) hp hag.2 ?_ (by simp [opBelow]) (by show (ext _ (n + 3) _ (n + 3)).cells = _; rw [ext_at]; rfl) ⟨hcb, by rw [← bcells_length, ← hcb]; exact hlen⟩ (PK.uuid.run_wd r) hls h4 fun w5 vs h5 k5 => ?_
  · rw [ev_ext' hbs, ev_ext' hbs, ev_ext' hbs, ev_ext' hbs, hs] <;> omega
  · refine hk _ _ (by simp only [runStep]) (n + 7) Γ _ w5 res (by omega) ⟨[], by simp⟩ (fun x hx => ?_) (opBelow_mono hbres (by omega)) h5 (map_wd_set hls hp.wd (PK.uuid.run_wd r)) ((k1.mono (by simp)).trans ((hk3.mono (by simp)).trans (k5.mono (by simp))))
    rw [ext_lt (by omega), ext_lt (by omega), ext_lt (by omega), ext_lt (by omega), ext_lt hx]

/-- What the loop of a list holds. -/
def RowsRead (D : Nat) (g : Rd → Option (List FV × Rd)) (w0 : World) (rb : Nat) (r0 : Rd) (v : Value) (m sz : Nat) (zc : List Value) (nl : Bool) (r1 : Rd) (j : Nat) (w : World) : Prop :=
  ∃ rows rj, rows.length = j ∧ readS g m r1 = (readS g (m - j) rj).map (fun p => (rows ++ p.1, p.2)) ∧ RdAt w rb D rj ∧ rj.l.length ≤ r0.l.length ∧ Keeps [rb] w0 w ∧ RowSt D w w0.heap.size v m sz zc nl rows

theorem FAt_rows {w w0 : World} {lo m sz : Nat} {zc : List Value} {v : Value} {nl : Bool} {rows : List (List FV)} (h : RowSt D w w0.heap.size v m sz zc nl rows) (hm : rows.length = m) (hlo : lo ≤ w0.heap.size) : FAt D w lo (.list nl rows) [v] := by
  rcases h with ⟨h0, hn, rfl, rfl⟩ | ⟨h0, hn, rfl, B, hB, rfl, hh⟩ | ⟨B, cap, done, h0, hn, hB, rfl, hcap, hh, hd, hr, _, _⟩
  · exact .inl ⟨hn, rfl, rfl⟩
  · exact .inr ⟨hn, B, 0, [], Nat.le_trans hlo hB, rfl, Nat.le_refl _, hh, trivial⟩
  · refine .inr ⟨hn, B, cap, _, Nat.le_trans hlo hB, by rw [hm], by omega, hh, RowsAt.more rows done _ hr⟩

theorem RowSt.cells {w : World} {lo m sz : Nat} {zc : List Value} {v : Value} {nl : Bool} {rows : List (List FV)} (h : RowSt D w lo v m sz zc nl rows) : v.cells = ⟨[v]⟩ := by
  rcases h with ⟨_, _, rfl, _⟩ | ⟨_, _, _, _, _, rfl, _⟩ | ⟨_, _, _, _, _, _, rfl, _⟩ <;> rfl

/-- The loop of a list of structs, and what follows. -/
theorem sem_rows {T S i off tySl sz fDef b lo : Nat} {ls : List Nat} {dflt : List FV} {run : List FV → Rd → Option (List FV × Rd)} {TI : Operand → Nat → Nat → Operand → (Nat → Nat → Operand → Tr) → Tr} {pre0 : List FV → Bool}
    (hI : SemOf P c R rb D rd ev0 run TI (dflt.map FV.wd) pre0) (hlen : ∀ r x r', run dflt r = some (x, r') → r'.l.length ≤ r.l.length) (hpre : pre0 dflt = true) (hp : PlaceOk P S ls i off 1) (hL : ListOk P c tySl T sz) (hD : DefOk P fDef T dflt) (hsz : (dflt.map FV.wd).sum = sz)
    {ri : List Operand} {resI resO : Operand} {cr : Operand → List Operand} (hcr : ∀ x, (cr x).length = ri.length) {n : Nat} (hresI : opBelow (n + 9 + ri.length) resI) (hresO : opBelow (n + 9 + ri.length) resO) {q n0 : Nat} {nl : Bool} {s : Operand} {k : Nat → Nat → Operand → Tr} {Γ : List (List Value → World → Prop)} {ρ ρ0 : Nat → Value} {w w0 : World} {pre post : List Value} {fs : List FV} {r0 r1 : Rd} {v : Value} {m : Int}
    (hm : m < 2147483648) (hbr : opBelow n rd) (hrd : ev ρ rd = ptr rb) (hbs : opBelow n s) (hs : ev ρ s = ptr b pre.length) (hqn : q < n + 9) (hq3 : ρ q = .int .i32 m) (hq8 : ρ (n + 8) = v) (hn0 : n0 ≤ n) (hag : ∀ x, x < n0 → ρ x = ρ0 x) (hls : fs.map FV.wd = ls) (hst0 : StAt w0 rb D b c.gErr lo ev0 r0 pre post fs)
    (hz : ∀ z : Value, (P.info? T).map (·.zero) = some (some z) → RowsRead D (run dflt) w0 rb r0 v m.toNat sz z.cells.toList nl r1 0 w)
    (hk : ∀ rows r2, readS (run dflt) m.toNat r1 = some (rows, r2) → ∀ n' Γ' ρ' w', n ≤ n' → (∃ Δ, Γ' = Γ ++ Δ) → (∀ x, x < n0 → ρ' x = ρ0 x) → opBelow n' resO → StAt w' rb D b c.gErr lo ev0 r2 pre post (fs.set i (.list nl rows)) → (fs.set i (.list nl rows)).map FV.wd = ls → Keeps [rb, b] w0 w' → n' = n + 9 + ri.length + 5 → (k n' Γ'.length resO).sem P R Γ' n' ρ' w')
    (hexit : readS (run dflt) m.toNat r1 = none → ∀ w', Keeps [rb, b] w0 w' → R ev0 w') :
    (Tr.loop Γ.length (ri ++ [.const (.int .i32 0)]) <| .op (.binOp .lss c.tI32 (.tmp (n + 9 + ri.length)) (.tmp q) c.tI32) none [] <| .cond (.tmp (n + 9 + ri.length + 1))
      (.op (.indexAddr tySl (.tmp (n + 8)) (.tmp (n + 9 + ri.length))) none [] <| .op (callOp fDef [.tmp (n + 9 + ri.length + 2)]) none [] <|
        TI (.tmp (n + 9 + ri.length + 2)) (n + 9 + ri.length + 4) (Γ.length + 1) resI fun n' _ res' => .op (.binOp .add c.tI32 (.tmp (n + 9 + ri.length)) (.const (.int .i32 1)) c.tI32) none [] <| .to Γ.length (cr res' ++ [.tmp n']))
      (gSet s S i tySl (.tmp (n + 8)) (n + 9 + ri.length + 2) (k (n + 9 + ri.length + 5) (Γ.length + 1) resO))).sem P R Γ (n + 9) ρ w := by
  obtain ⟨inf, z, hi, hz2, hisz, hzc, hpos, hby⟩ := hL.info
  obtain ⟨z', dc, hzd, hdc, hdef⟩ := hD
  obtain rfl : z' = z := by simpa [hi, hz2] using hzd.symm
  have hinit := hz z' hzd
  have hzcl : z'.cells.toList.length = sz := by simpa using hzc
  have hwd : wds dflt = sz := wds_zero_rows hsz
  have hD0 : D < w0.heap.size := hst0.rd.2.1
  have hg0 : c.gErr < w0.heap.size := hst0.err.2
  have hlo := hst0.los
  have hrblo := hst0.rblo
  have hblo := hst0.blo
  refine s_count (q := q) (ri := ri) (RowsRead D (run dflt) w0 rb r0 v m.toNat sz z'.cells.toList nl r1) (by omega) hq3 hinit ?_ ?_
  · rintro j hj w1 vr ⟨rows, rj, hrl, hread, hrdj, hlenj, kk, hrow⟩ hvr J hJ
    have hst := hst0.keep kk (by simp) hrdj hlenj
    have hnr : ∀ {x : Nat}, x < n + 9 → ext ρ (n + 9) (vr ++ [.int .i32 j, .bool true]) x = ρ x := fun hx => ext_lt hx
    have hjv : ext ρ (n + 9) (vr ++ [.int .i32 j, .bool true]) (n + 9 + ri.length) = .int .i32 j := by rw [ext_ge, ← hvr]; simp
    rcases hrow with ⟨h0, _, _⟩ | ⟨h0, _, _⟩ | ⟨B, cap, done, h0, hnl, hB, hv, hcap, hh, hd, hrows, hwr, hrm⟩
    · omega
    · omega
    · rw [hrl] at hd hh
      refine s_val (v_indexAddr (b := B) (o := 0) (l := m.toNat) (c := cap) (j := j) hL.sl (sz := sz) (by simp [hi, hisz]) (by show ext _ _ _ (n + 8) = _; rw [hnr (by omega), hq8, hv]) hjv (by omega) (by omega)) ?_
      have hoff : (0 : Nat) + (j : Int).toNat * sz = done.length := by rw [hd]; simp
      rw [hoff]
      rw [row_next (zc := z'.cells.toList) (by omega : j < cap), ← List.append_assoc] at hh
      have hd2 := hdef w1 B done _ hh
      refine s_callx hd2 (by simp only [List.map_cons, List.map_nil]; rw [show ev (ext (ext ρ (n + 9) (vr ++ [.int .i32 j, .bool true])) (n + 9 + ri.length + 2) [.pointer (some ⟨B, done.length, none⟩)]) (.tmp (n + 9 + ri.length + 2)) = ptr B done.length from ext_at]) fun u w2 ⟨hh2, k2⟩ => ?_
      have hst2 : StAt w2 rb D B c.gErr (B + 1) ev0 rj done ((List.replicate (cap - (j + 1)) z'.cells.toList).flatten) dflt :=
        ⟨hst.rd.keep k2 (by simp; omega) (by simp; omega), ⟨dc, hh2, hdc D w2 (B + 1)⟩, hst.err.keep k2 (by simp; omega), hst.grb, by omega, by omega, by omega, by omega, by omega, hh2.lt, hst.len⟩
      have hgoal := hI (.tmp (n + 9 + ri.length + 2)) resI (n + 9 + ri.length + 4) (fun n' _ res' => .op (.binOp .add c.tI32 (.tmp (n + 9 + ri.length)) (.const (.int .i32 1)) c.tI32) none [] <| .to Γ.length (cr res' ++ [.tmp n'])) (Γ ++ [J])
        (ext (ext (ext ρ (n + 9) (vr ++ [.int .i32 j, .bool true])) (n + 9 + ri.length + 2) [.pointer (some ⟨B, done.length, none⟩)]) (n + 9 + ri.length + 2 + 1) [u]) w2 B (B + 1) done _ dflt rj (opBelow_mono hbr (by omega))
        (by rw [ev_ext' hbr, ev_ext' hbr, ev_ext' hbr, hrd] <;> omega) (by simp [opBelow]) (by show ext _ _ _ (n + 9 + ri.length + 2) = _; rw [ext_lt (by omega)]; exact ext_at) (opBelow_mono hresI (by omega)) hst2 rfl hpre ?_ ?_
      · rw [show (Γ ++ [J]).length = Γ.length + 1 by simp] at hgoal
        exact hgoal
      · rintro fs' r' hrun n' Γ' ρ' w' res' hle ⟨Δ, rfl⟩ hagree hbres hst' hls' kk'
        have hjv' : ρ' (n + 9 + ri.length) = .int .i32 j := by rw [hagree _ (by omega), ext_lt (by omega), ext_lt (by omega)]; exact hjv
        refine s_val (v_arith (kk := .i32) (a := j) (b := 1) (r := ((j + 1 : Nat) : Int)) hjv' rfl ?_) ?_
        · simp only [arithOf, Option.some.injEq]; rw [IntKind.wrap_i32]; omega
        refine ⟨J, by simp, ?_⟩
        rw [List.map_append, List.map_cons, List.map_nil]
        rw [show ev (ext ρ' n' [.int .i32 ((j + 1 : Nat) : Int)]) (.tmp n') = .int .i32 ((j + 1 : Nat) : Int) from ext_at]
        obtain ⟨mid', hh', hf'⟩ := hst'.st
        have hml : mid'.length = sz := by rw [FsAt.len fs' mid' hf', wds_eq, hls']; exact hsz
        have kall : Keeps [rb] w0 w' := ((kk.mono (by simp)).trans ((k2.mono (by simp)).trans kk') : Keeps [rb, B] w0 w').less fun x hx => by
          simp only [List.mem_cons, List.not_mem_nil, or_false] at hx ⊢
          omega
        have hrows2 : RowsAt D w' (B + 1) rows done := RowsAt.keep kk' (B + 1) (fun x hx => by
            simp only [List.mem_cons, List.not_mem_nil, or_false] at hx
            rcases hx with rfl | rfl
            · exact ⟨hst.rd.1, by omega⟩
            · exact ⟨by omega, by omega⟩) _ _ (RowsAt.keep k2 (B + 1) (fun x hx => by simp only [List.mem_singleton] at hx; subst hx; exact ⟨by omega, by omega⟩) _ _ hrows)
        refine hJ _ w' (by simp [hcr]) ⟨rows ++ [fs'], r', by simp [hrl], readS_step hj hread hrun, hst'.rd, Nat.le_trans (hlen _ _ _ hrun) hlenj, kall, .inr (.inr ⟨B, cap, done ++ mid', h0, hnl, hB, hv, hcap, ?_, ?_, ?_, ?_, by simp; omega⟩)⟩
        · rw [List.length_append, List.length_singleton, hrl]
          exact hh'
        · rw [List.length_append, List.length_append, List.length_singleton, hrl, Nat.add_mul, Nat.one_mul]
          omega
        · have := RowsAt.snoc (rest := []) hf' rows done (fun x hx => by rw [hwr x hx, wds_eq, hls', hsz]) (by rw [hd, hrl, wds_eq, hls', hsz]) hrows2
          simpa using this
        · intro x hx
          rcases List.mem_append.1 hx with h | h
          · exact hwr x h
          · simp only [List.mem_singleton] at h
            subst h
            rw [wds_eq, hls', hsz]
      · intro hn w' kk'
        refine hexit (readS_stop hj hread hn) w' ?_
        have kall : Keeps [rb] w0 w' := ((kk.mono (by simp)).trans ((k2.mono (by simp)).trans kk') : Keeps [rb, B] w0 w').less fun x hx => by
          simp only [List.mem_cons, List.not_mem_nil, or_false] at hx ⊢
          omega
        exact kall.mono (by simp)
  · rintro w1 vr J ⟨rows, rj, hrl, hread, hrdj, hlenj, kk, hrow⟩ hvr
    have hst := hst0.keep kk (by simp) hrdj hlenj
    have hdone : readS (run dflt) m.toNat r1 = some (rows, rj) := by rw [hread, Nat.sub_self]; simp [readS]
    refine s_setF (n := n + 9 + ri.length + 2) (f' := .list nl rows) (m' := [v]) hp (oneTy_spec (w := w) hL.one).2 (by rw [ev_ext' hbs, hs]; omega) (show n + 8 < n + 9 + ri.length + 2 by omega)
      (by rw [show ev (ext ρ (n + 9) (vr ++ [.int .i32 m.toNat, .bool false])) (.tmp (n + 8)) = v by show ext _ _ _ (n + 8) = v; rw [ext_lt (by omega), hq8]]; exact hrow.cells) (FAt_rows hrow hrl hlo) rfl hls hst fun w2 vs h2 k2 => ?_
    have hgoal := hk rows rj hdone (n + 9 + ri.length + 5) (Γ ++ [J]) (ext (ext ρ (n + 9) (vr ++ [.int .i32 m.toNat, .bool false])) (n + 9 + ri.length + 2) vs) w2 (by omega) ⟨[J], rfl⟩
      (fun x hx => by rw [ext_lt (by omega), ext_lt (by omega)]; exact hag x hx) (opBelow_mono hresO (by omega)) h2 (map_wd_set hls hp.wd rfl) ((kk.mono (by simp)).trans (k2.mono (by simp))) rfl
    rw [show (Γ ++ [J]).length = Γ.length + 1 by simp] at hgoal
    exact hgoal

end

end Go.Kf

namespace Go.Kf

open Go

section

variable {P : Program} {c : Nums} {R : Value → World → Prop} {rb D : Nat} {e : Fns} {rd : Operand} {ev0 : Value}

/-- The loop of a list of plain things, and what follows. -/
theorem sem_rowsP {T S i off tySl b lo f : Nat} {pk : PK} {ls : List Nat} (hf : RdAny P f pk) (hp : PlaceOk P S ls i off 1) (hL : ListOk P c tySl T pk.wd) {n q n0 : Nat} {nl : Bool} {res s : Operand} {k : Nat → Nat → Operand → Tr} {Γ : List (List Value → World → Prop)} {ρ ρ0 : Nat → Value} {w w0 : World} {pre post : List Value} {fs : List FV} {r0 r1 : Rd} {v : Value} {m : Int}
    (hm : m < 2147483648) (hbres : opBelow n res) (hbr : opBelow n rd) (hrd : ev ρ rd = ptr rb) (hbs : opBelow n s) (hs : ev ρ s = ptr b pre.length) (hqn : q < n + 9) (hq3 : ρ q = .int .i32 m) (hq8 : ρ (n + 8) = v) (hn0 : n0 ≤ n) (hag : ∀ x, x < n0 → ρ x = ρ0 x) (hls : fs.map FV.wd = ls) (hst0 : StAt w0 rb D b c.gErr lo ev0 r0 pre post fs)
    (hz : ∀ z : Value, (P.info? T).map (·.zero) = some (some z) → RowsRead D (fun r => some ([(pk.run r).1], (pk.run r).2)) w0 rb r0 v m.toNat pk.wd z.cells.toList nl r1 0 w)
    (hk : ∀ n' Γ' ρ' w', n ≤ n' → (∃ Δ, Γ' = Γ ++ Δ) → (∀ x, x < n0 → ρ' x = ρ0 x) → opBelow n' res → StAt w' rb D b c.gErr lo ev0 (readP pk m.toNat r1).2 pre post (fs.set i (.list nl (readP pk m.toNat r1).1)) → (fs.set i (.list nl (readP pk m.toNat r1).1)).map FV.wd = ls → Keeps [rb, b] w0 w' → n' = n + 14 → (k n' Γ'.length res).sem P R Γ' n' ρ' w') :
    (Tr.loop Γ.length [.const (.int .i32 0)] <| .op (.binOp .lss c.tI32 (.tmp (n + 9)) (.tmp q) c.tI32) none [] <|
      .cond (.tmp (n + 10)) (.op (callOp f [rd]) none [] <| .op (.indexAddr tySl (.tmp (n + 8)) (.tmp (n + 9))) none [] <| .op (.store T (.tmp (n + 12)) (.tmp (n + 11))) none [] <|
        .op (.binOp .add c.tI32 (.tmp (n + 9)) (.const (.int .i32 1)) c.tI32) none [] <| .to Γ.length [.tmp (n + 14)]) <|
      gSet s S i tySl (.tmp (n + 8)) (n + 11) (k (n + 14) (Γ.length + 1) res)).sem P R Γ (n + 9) ρ w := by
  obtain ⟨inf, z, hi, hz2, hisz, hzc, hpos, hby⟩ := hL.info
  have hinit := hz z (by simp [hi, hz2])
  have hzcl : z.cells.toList.length = pk.wd := by simpa using hzc
  have hD0 : D < w0.heap.size := hst0.rd.2.1
  have hg0 : c.gErr < w0.heap.size := hst0.err.2
  have hlo := hst0.los
  have hrblo := hst0.rblo
  have hblo := hst0.blo
  refine s_count (n := n + 9) (q := q) (ri := []) (RowsRead D (fun r => some ([(pk.run r).1], (pk.run r).2)) w0 rb r0 v m.toNat pk.wd z.cells.toList nl r1) (by omega) hq3 hinit ?_ ?_
  · rintro j hj w1 vr ⟨rows, rj, hrl, hread, hrdj, hlenj, kk, hrow⟩ hvr J hJ
    obtain rfl : vr = [] := List.eq_nil_of_length_eq_zero hvr
    simp only [List.nil_append, List.length_nil, Nat.add_zero] at hJ ⊢
    have hst := hst0.keep kk (by simp) hrdj hlenj
    have hnr : ∀ {x : Nat}, x < n + 9 → ext ρ (n + 9) [.int .i32 j, .bool true] x = ρ x := fun hx => ext_lt hx
    have hjv : ext ρ (n + 9) [.int .i32 j, .bool true] (n + 9) = .int .i32 j := ext_at
    rcases hrow with ⟨h0, _, _⟩ | ⟨h0, _, _⟩ | ⟨B, cap, done, h0, hnl, hB, hv, hcap, hh, hd, hrows, hwr, hrm⟩
    · omega
    · omega
    · rw [hrl] at hd hh
      refine s_callx (hf w1 rb D rj hrdj) (by simp only [List.map_cons, List.map_nil]; rw [ev_ext' hbr (by omega), hrd]) fun u w2 ⟨⟨cs, hcs, hfa⟩, hr2, k2⟩ => ?_
      refine s_val (v_indexAddr (b := B) (o := 0) (l := m.toNat) (c := cap) (j := j) hL.sl (sz := pk.wd) (by simp [hi, hisz]) (by show ext _ _ _ (n + 8) = _; rw [ext_lt (by omega), hnr (by omega), hq8, hv]) (by show ext _ _ _ (n + 9) = _; rw [ext_lt (by omega)]; exact hjv) (by omega) (by omega)) ?_
      have hoff : (0 : Nat) + (j : Int).toNat * pk.wd = done.length := by rw [hd]; simp
      rw [hoff]
      rw [row_next (zc := z.cells.toList) (by omega : j < cap), ← List.append_assoc] at hh
      have hcl : cs.length = pk.wd := by rw [FAt.len _ _ hfa, pk.run_wd]
      have hh2 := hh.keep k2 (by simp; omega)
      obtain ⟨w3, e3, h3, k3⟩ := a_storeCells (P := P) (ρ := ext (ext (ext ρ (n + 9) [.int .i32 j, .bool true]) (n + 9 + 2) [u]) (n + 9 + 2 + 1) [ptr B done.length]) (w := w2) (t := T) (x := .tmp (n + 12)) (y := .tmp (n + 11)) (b := B) (o := done.length) (vs := cs)
        (by rw [hcl]; simp [hi, hisz]) ext_at (by rw [show ev (ext (ext (ext ρ (n + 9) [.int .i32 j, .bool true]) (n + 9 + 2) [u]) (n + 9 + 2 + 1) [ptr B done.length]) (.tmp (n + 11)) = u by show ext _ _ _ (n + 11) = u; rw [ext_lt (by omega)]; exact ext_at]; exact hcs) hh2 (by simp; omega) (FAt.ones _ _ hfa)
      refine s_unit e3 (fun p hp => (by cases hp)) ?_
      have hsp : splice (done ++ z.cells.toList ++ (List.replicate (cap - (j + 1)) z.cells.toList).flatten) done.length cs = done ++ cs ++ (List.replicate (cap - (j + 1)) z.cells.toList).flatten := by
        unfold splice
        have t1 : (done ++ z.cells.toList ++ (List.replicate (cap - (j + 1)) z.cells.toList).flatten).take done.length = done := by rw [List.append_assoc, List.take_left' rfl]
        rw [t1, List.drop_left' (by simp; omega)]
      rw [hsp] at h3
      refine s_val (v_arith (kk := .i32) (a := j) (b := 1) (r := ((j + 1 : Nat) : Int)) (by show ext _ _ _ (n + 9) = _; rw [ext_lt (by omega), ext_lt (by omega), ext_lt (by omega)]; exact hjv) rfl ?_) ?_
      · simp only [arithOf, Option.some.injEq]; rw [IntKind.wrap_i32]; omega
      refine ⟨J, by simp, ?_⟩
      simp only [List.map_cons, List.map_nil]
      rw [show ev (ext (ext (ext (ext (ext ρ (n + 9) [.int .i32 j, .bool true]) (n + 9 + 2) [u]) (n + 9 + 2 + 1) [.pointer (some ⟨B, done.length, none⟩)]) (n + 9 + 2 + 1 + 1) [undef]) (n + 9 + 2 + 1 + 1 + 1) [.int .i32 ((j + 1 : Nat) : Int)]) (.tmp (n + 14)) = .int .i32 ((j + 1 : Nat) : Int) from ext_at]
      have hBr : rb < B := by omega
      have kall : Keeps [rb] w0 w3 := ((kk.mono (by simp)).trans ((k2.mono (by simp)).trans (k3.mono (by simp))) : Keeps [rb, B] w0 w3).less fun x hx => by
        simp only [List.mem_cons, List.not_mem_nil, or_false] at hx ⊢
        omega
      have hrows2 : RowsAt D w3 (B + 1) rows done := RowsAt.keep k3 (B + 1) (fun x hx => by simp only [List.mem_singleton] at hx; subst hx; exact ⟨by omega, by omega⟩) _ _ (RowsAt.keep k2 (B + 1) (fun x hx => by
          simp only [List.mem_singleton] at hx
          subst hx
          exact ⟨hst.rd.1, by omega⟩) _ _ hrows)
      have hsz1 : B + 1 ≤ w1.heap.size := hh.lt
      have hfa3 : FAt D w3 (B + 1) (pk.run rj).1 cs := FAt.keep k3 (B + 1) (fun x hx => by simp only [List.mem_singleton] at hx; subst hx; exact ⟨by omega, by omega⟩) _ _ (FAt.mono hsz1 _ _ hfa)
      have hfs : FsAt D w3 (B + 1) [(pk.run rj).1] cs := ⟨cs, [], by simp, hfa3, rfl⟩
      have hw1 : wds [(pk.run rj).1] = pk.wd := by simp [wds, pk.run_wd]
      refine hJ [] w3 rfl ⟨rows ++ [[(pk.run rj).1]], (pk.run rj).2, by simp [hrl], readS_step hj hread rfl, hr2.keep k3 (by simp; omega) (by simp; omega), Nat.le_trans (pk.run_len rj) hlenj, kall, .inr (.inr ⟨B, cap, done ++ cs, h0, hnl, hB, hv, hcap, ?_, ?_, ?_, ?_, by simp; omega⟩)⟩
      · rw [List.length_append, List.length_singleton, hrl]
        exact h3
      · rw [List.length_append, List.length_append, List.length_singleton, hrl, Nat.add_mul, Nat.one_mul]
        omega
      · have := RowsAt.snoc (rest := []) hfs rows done (fun x hx => by rw [hwr x hx, hw1]) (by rw [hd, hrl, hw1]) hrows2
        simpa using this
      · intro x hx
        rcases List.mem_append.1 hx with h | h
        · exact hwr x h
        · simp only [List.mem_singleton] at h
          subst h
          exact hw1
  · rintro w1 vr J ⟨rows, rj, hrl, hread, hrdj, hlenj, kk, hrow⟩ hvr
    obtain rfl : vr = [] := List.eq_nil_of_length_eq_zero hvr
    simp only [List.nil_append, List.length_nil, Nat.add_zero]
    have hst := hst0.keep kk (by simp) hrdj hlenj
    have hdone : readP pk m.toNat r1 = (rows, rj) := by
      rw [Nat.sub_self, readP_eq] at hread
      simpa [readS] using hread
    rw [hdone] at hk
    refine s_setF (n := n + 11) (f' := .list nl rows) (m' := [v]) hp (oneTy_spec (w := w) hL.one).2 (by rw [ev_ext' hbs, hs]; omega) (show n + 8 < n + 11 by omega)
      (by rw [show ev (ext ρ (n + 9) [.int .i32 m.toNat, .bool false]) (.tmp (n + 8)) = v by show ext _ _ _ (n + 8) = v; rw [ext_lt (by omega), hq8]]; exact hrow.cells) (FAt_rows hrow hrl hlo) rfl hls hst fun w2 vs h2 k2 => ?_
    have hgoal := hk (n + 14) (Γ ++ [J]) (ext (ext ρ (n + 9) [.int .i32 m.toNat, .bool false]) (n + 11) vs) w2 (by omega) ⟨[J], rfl⟩
      (fun x hx => by rw [ext_lt (by omega), ext_lt (by omega)]; exact hag x hx) (opBelow_mono hbres (by omega)) h2 (map_wd_set hls hp.wd rfl) ((kk.mono (by simp)).trans (k2.mono (by simp))) rfl
    rw [show (Γ ++ [J]).length = Γ.length + 1 by simp] at hgoal
    exact hgoal

theorem sem_listP {lk : LenK} {fl i tySl off f T S : Nat} {pk : PK} {ls : List Nat} (F : RdFacts P c) (hOk : OkGives P e.ok) (hCo : CompGives P e.complete c.gErr) (hl : LenOk P fl lk) (hp : PlaceOk P S ls i off 1) (hL : ListOk P c tySl T pk.wd) (hf : RdAny P f pk) :
    SemOf P c R rb D rd ev0 (runStep (.listP lk fl i tySl off pk f T)) (fun s n d res k => gStep c e rd (.listP lk fl i tySl off pk f T) s S n d res k) ls (fun fs => isNilList fs[i]?) := by
  intro s res n k Γ ρ w b lo pre post fs r hbr hrd hbs hs hbres h hls hnil hk hexit
  simp only [gStep]
  obtain ⟨inf, z, hi, hz2, hisz, hzc, hpos, hby⟩ := hL.info
  have hrg := lk.run_range r
  refine s_listHead F hOk hCo hl hp hL ⟨z, by simp [hi, hz2], rfl⟩ hbr hrd hs hls (isNilList_eq hnil) h (fun hb w' kk => hexit (by simp only [runStep]; rw [if_pos hb]) w' (kk.mono (by simp))) fun hb ρ' w' v hag h3 h8 hst kk hrow => ?_
  have hnb : ¬ (lk.run r).2.bad = true := by rw [hb]; simp
  refine sem_rowsP (n := n + lk.sh) (q := n + 3) (n0 := n) (nl := lk.nilAt (lk.run r).1) (ρ0 := ρ) (r1 := (lk.run r).2) (r0 := r) (w0 := w) hf hp hL hrg.2 (opBelow_mono hbres (by omega)) (opBelow_mono hbr (by omega)) (by rw [ev_agree hbr hag, hrd]) (opBelow_mono hbs (by omega)) (by rw [ev_agree hbs hag, hs]) (by omega) h3 h8 (by omega) hag hls h (fun z' hz' => ?_) ?_
  · obtain rfl : z' = z := by simpa [hi, hz2] using hz'.symm
    exact ⟨[], (lk.run r).2, rfl, by simp, hst.rd, lk.run_len r, kk, hrow⟩
  · intro n' Γ' ρ'' w'' hle hΔ hag' hbr' hst' hls' kk' _
    exact hk _ _ (by simp only [runStep]; rw [if_neg hnb]) n' Γ' ρ'' w'' res (by omega) hΔ hag' hbr' hst' hls' kk'

theorem sem_listS {lk : LenK} {fl i tySl off T sz fDef S : Nat} {dflt : List FV} {ss : List Step} {ls : List Nat} (F : RdFacts P c) (hOk : OkGives P e.ok) (hCo : CompGives P e.complete c.gErr) (hl : LenOk P fl lk) (hp : PlaceOk P S ls i off 1) (hL : ListOk P c tySl T sz)
    (hD : DefOk P fDef T dflt) (hsz : (dflt.map FV.wd).sum = sz) (hpre : idxOk dflt ss = true)
    (hI : SemOf P c R rb D rd ev0 (runSteps ss) (fun s n d res k => gSteps c e rd ss s T n d res k) (dflt.map FV.wd) (fun fs => idxOk fs ss)) :
    SemOf P c R rb D rd ev0 (runStep (.listS lk fl i tySl off T sz fDef dflt ss)) (fun s n d res k => gStep c e rd (.listS lk fl i tySl off T sz fDef dflt ss) s S n d res k) ls (fun fs => isNilList fs[i]?) := by
  intro s res n k Γ ρ w b lo pre post fs r hbr hrd hbs hs hbres h hls hnil hk hexit
  simp only [gStep]
  obtain ⟨inf, z, hi, hz2, hisz, hzc, hpos, hby⟩ := hL.info
  have hrg := lk.run_range r
  refine s_listHead F hOk hCo hl hp hL ⟨z, by simp [hi, hz2], rfl⟩ hbr hrd hs hls (isNilList_eq hnil) h (fun hb w' kk => hexit (by simp only [runStep]; rw [if_pos hb]) w' (kk.mono (by simp))) fun hb ρ' w' v hag h3 h8 hst kk hrow => ?_
  have hnb : ¬ (lk.run r).2.bad = true := by rw [hb]; simp
  have hz : ∀ z' : Value, (P.info? T).map (·.zero) = some (some z') → RowsRead D (runSteps ss dflt) w rb r v (lk.run r).1.toNat sz z'.cells.toList (lk.nilAt (lk.run r).1) (lk.run r).2 0 w' := fun z' hz' => by
    obtain rfl : z' = z := by simpa [hi, hz2] using hz'.symm
    exact ⟨[], (lk.run r).2, rfl, by simp, hst.rd, lk.run_len r, kk, hrow⟩
  have hex : readS (runSteps ss dflt) (lk.run r).1.toNat (lk.run r).2 = none → ∀ w', Keeps [rb, b] w w' → R ev0 w' := fun hn => hexit (by
    simp only [runStep]
    rw [if_neg hnb]
    rw [show (fun r => runSteps ss dflt r) = runSteps ss dflt from rfl, hn])
  have hgo : ∀ rows r2, readS (runSteps ss dflt) (lk.run r).1.toNat (lk.run r).2 = some (rows, r2) → runStep (.listS lk fl i tySl off T sz fDef dflt ss) fs r = some (fs.set i (.list (lk.nilAt (lk.run r).1) rows), r2) := fun rows r2 hr => by
    simp only [runStep]
    rw [if_neg hnb]
    rw [show (fun r => runSteps ss dflt r) = runSteps ss dflt from rfl, hr]
  cases hret : hasRet ss with
  | false =>
    refine sem_rows (n := n + lk.sh) (q := n + 3) (n0 := n) (nl := lk.nilAt (lk.run r).1) (ri := []) (resI := res) (resO := res) (cr := fun _ => []) (ρ0 := ρ) (r1 := (lk.run r).2) (r0 := r) (w0 := w) hI (fun r x r' hr => runSteps_len ss dflt r x r' hr) hpre hp hL hD hsz (fun _ => rfl) (opBelow_mono hbres (by omega)) (opBelow_mono hbres (by omega)) hrg.2 (opBelow_mono hbr (by omega)) (by rw [ev_agree hbr hag, hrd]) (opBelow_mono hbs (by omega)) (by rw [ev_agree hbs hag, hs]) (by omega) h3 h8 (by omega) hag hls h hz ?_ hex
    intro rows r2 hr n' Γ' ρ'' w'' hle hΔ hag' hbr' hst' hls' kk' _
    exact hk _ _ (hgo rows r2 hr) n' Γ' ρ'' w'' res (by omega) hΔ hag' hbr' hst' hls' kk'
  | true =>
    refine sem_rows (n := n + lk.sh) (q := n + 3) (n0 := n) (nl := lk.nilAt (lk.run r).1) (ri := [res]) (resI := .tmp (n + lk.sh + 9)) (resO := .tmp (n + lk.sh + 9)) (cr := fun x => [x]) (ρ0 := ρ) (r1 := (lk.run r).2) (r0 := r) (w0 := w) hI (fun r x r' hr => runSteps_len ss dflt r x r' hr) hpre hp hL hD hsz (fun _ => rfl) (by simp [opBelow]) (by simp [opBelow]) hrg.2 (opBelow_mono hbr (by omega)) (by rw [ev_agree hbr hag, hrd]) (opBelow_mono hbs (by omega)) (by rw [ev_agree hbs hag, hs]) (by omega) h3 h8 (by omega) hag hls h hz ?_ hex
    intro rows r2 hr n' Γ' ρ'' w'' hle hΔ hag' hbr' hst' hls' kk' _
    exact hk _ _ (hgo rows r2 hr) n' Γ' ρ'' w'' (.tmp (n + lk.sh + 9)) (by omega) hΔ hag' hbr' hst' hls' kk'

theorem idxOk_step {s : Step} {fs fs' : List FV} {r r' : Rd} (h : runStep s fs r = some (fs', r')) : ∃ f, fs' = fs.set s.idx f := by
  cases s with
  | call pk f i ty off => simp only [runStep, Option.some.injEq, Prod.mk.injEq] at h; exact ⟨_, h.1.symm⟩
  | ghost =>
    simp only [runStep, Option.some.injEq, Prod.mk.injEq] at h
    by_cases hl : (1000000 : Nat) < fs.length
    · exact ⟨fs[1000000], by rw [← h.1]; exact (List.set_getElem_self hl).symm⟩
    · exact ⟨.text [], by rw [← h.1]; exact (List.set_eq_of_length_le (show fs.length ≤ 1000000 by omega)).symm⟩
  | uuid f i off => simp only [runStep, Option.some.injEq, Prod.mk.injEq] at h; exact ⟨_, h.1.symm⟩
  | listP lk fl i tySl off pk f T =>
    simp only [runStep] at h
    split at h
    · cases h
    · simp only [Option.some.injEq, Prod.mk.injEq] at h; exact ⟨_, h.1.symm⟩
  | listS lk fl i tySl off T sz fDef dflt ss =>
    simp only [runStep] at h
    split at h
    · cases h
    · split at h
      · simp only [Option.some.injEq, Prod.mk.injEq] at h; exact ⟨_, h.1.symm⟩
      · cases h
  | sub i off T fDef ds lsS ss =>
    simp only [runStep] at h
    split at h
    · split at h
      · simp only [Option.some.injEq, Prod.mk.injEq] at h; exact ⟨_, h.1.symm⟩
      · cases h
    · cases h
  | strP pk f i ty off =>
    simp only [runStep] at h
    split at h
    · simp only [Option.some.injEq, Prod.mk.injEq] at h; exact ⟨_, h.1.symm⟩
    · cases h

/-- A part, in place. -/
theorem sem_sub {i off T fDef S : Nat} {ds : List Dset} {lsS ls : List Nat} {ss : List Step} (hD : DefSets P fDef lsS ds) (hp : PlaceOk P S ls i off lsS.sum)
    (hI : SemOf P c R rb D rd ev0 (runSteps ss) (fun s n d res k => gSteps c e rd ss s T n d res k) lsS (fun fs => idxOk fs ss)) :
    SemOf P c R rb D rd ev0 (runStep (.sub i off T fDef ds lsS ss)) (fun s n d res k => gStep c e rd (.sub i off T fDef ds lsS ss) s S n d res k) ls (stepPre (.sub i off T fDef ds lsS ss)) := by
  intro s res n k Γ ρ w b lo pre post fs r hbr hrd hbs hs hbres h hls hpre hk hexit
  simp only [gStep]
  simp only [stepPre] at hpre
  split at hpre
  case h_2 => cases hpre
  rename_i gs hgs
  simp only [Bool.and_eq_true, decide_eq_true_eq] at hpre
  obtain ⟨⟨⟨hg1, hg2⟩, hgd⟩, hg3⟩ := hpre
  obtain ⟨mid, hh, hf⟩ := h.st
  obtain ⟨a, m, z, emid, ha, hfm, _⟩ := hf.split hgs
  have hao : a.length = off := by rw [ha, wds_eq, List.map_take, hls]; exact hp.off
  have hml : m.length = lsS.sum := by rw [FAt.len _ _ hfm]; simp only [FV.wd]; rw [wds_eq, hg1]
  subst emid
  have hassoc : ∀ x : List Value, pre ++ (a ++ x ++ z) ++ post = (pre ++ a) ++ x ++ (z ++ post) := fun x => by simp
  rw [hassoc] at hh
  have hpl : (pre ++ a).length = pre.length + off := by simp [hao]
  refine s_val (v_nilCheck hs) (s_val (v_field hp.field ext_at) ?_)
  have hd := hD D w b lo (pre ++ a) (z ++ post) m gs h.bD h.blo hgd hg1 hh hfm
  rw [hpl] at hd
  refine s_callx hd (by simp only [List.map_cons, List.map_nil]; congr 1; exact ext_at) fun u w1 ⟨⟨m1, hh1, hf1⟩, k1⟩ => ?_
  have hbD := h.bD
  have hst1 : StAt w1 rb D b c.gErr lo ev0 r (pre ++ a) (z ++ post) (applyD ds gs) :=
    ⟨h.rd.keep k1 (by simpa using h.rbb) (by simpa using fun e => hbD e.symm), ⟨m1, hh1, hf1⟩, h.err.keep k1 (by simpa using h.gb), h.grb, h.gb, h.rbb, hbD, h.blo, h.rblo, Nat.le_trans h.los k1.size, h.len⟩
  -- the whole struct, from its part
  have back : ∀ w' r' gs', StAt w' rb D b c.gErr lo ev0 r' (pre ++ a) (z ++ post) gs' → gs'.map FV.wd = lsS → Keeps [rb, b] w w' → StAt w' rb D b c.gErr lo ev0 r' pre post (fs.set i (.sub gs')) := by
    intro w' r' gs' hst' hw' kk
    obtain ⟨m', hh', hf'⟩ := hst'.st
    have hfk := FsAt.keep kk lo (fun x hx => by
      simp only [List.mem_cons, List.not_mem_nil, or_false] at hx
      rcases hx with rfl | rfl
      · exact ⟨h.rd.1, h.rblo⟩
      · exact ⟨hbD, h.blo⟩) _ _ hf
    obtain ⟨a2, m2, z2, e2, ha2, hfm2, hset2⟩ := hfk.split hgs
    have hal : a2.length = a.length := by rw [ha2, ha]
    have hm2 : m2.length = m.length := by rw [FAt.len _ _ hfm2, FAt.len _ _ hfm]
    have e3 : a ++ (m ++ z) = a2 ++ (m2 ++ z2) := by rw [← List.append_assoc, e2, List.append_assoc]
    obtain ⟨rfl, e4⟩ := List.append_inj e3 hal.symm
    obtain ⟨rfl, rfl⟩ := List.append_inj e4 hm2.symm
    exact ⟨hst'.rd, ⟨a ++ m' ++ z, by rw [hassoc]; exact hh', hset2 (.sub gs') m' hf'⟩, hst'.err, hst'.grb, hst'.gb, hst'.rbb, hst'.bD, hst'.blo, hst'.rblo, hst'.los, hst'.len⟩
  have hswd : ∀ gs' : List FV, gs'.map FV.wd = lsS → (fs.set i (.sub gs')).map FV.wd = ls := fun gs' hw' => map_wd_set hls hp.wd (by simp only [FV.wd]; rw [wds_eq, hw'])
  refine hI (.tmp (n + 1)) res (n + 3) k Γ _ w1 b lo (pre ++ a) (z ++ post) (applyD ds gs) r (opBelow_mono hbr (by omega)) (by rw [ev_ext' hbr (by omega), ev_ext' hbr (by omega), ev_ext' hbr (by omega), hrd]) (by simp [opBelow]) (by
    show ext _ _ _ (n + 1) = _
    rw [ext_lt (by omega), ext_at, hpl]; rfl) (opBelow_mono hbres (by omega)) hst1 hg2 hg3 ?_ ?_
  · intro gs' r' hrun n' Γ' ρ' w' res' hle hΔ hag hbr' hst' hls' kk'
    have kall : Keeps [rb, b] w w' := (k1.mono (by simp)).trans kk'
    exact hk (fs.set i (.sub gs')) r' (by simp only [runStep, hgs, hrun]) n' Γ' ρ' w' res' (by omega) hΔ (fun y hy => by rw [hag y (by omega), ext_lt (by omega), ext_lt (by omega), ext_lt hy]) hbr' (back w' r' gs' hst' hls' kall) (hswd gs' hls') kall
  · intro hn w' kk'
    exact hexit (by simp only [runStep, hgs, hn]) w' ((k1.mono (by simp)).trans kk')

/-- A text that is kept behind a pointer. -/
theorem sem_strP {pk : PK} {f i ty off S : Nat} {ls : List Nat} (hf : RdAny P f pk) (htx : pk.isText = true) (hp : PlaceOk P S ls i off 1) (hty : (P.info? ty).map (·.size) = some 1) (X : StrFacts P c) :
    SemOf P c R rb D rd ev0 (runStep (.strP pk f i ty off)) (fun s n d res k => gStep c e rd (.strP pk f i ty off) s S n d res k) ls (fun _ => true) := by
  intro s res n k Γ ρ w b lo pre post fs r hbr hrd hbs hs hbres h hls _ hk _
  simp only [gStep]
  obtain ⟨z, hz, hzc⟩ := X.zero
  obtain ⟨w1, e1, h1, k1, z1⟩ := a_alloc (P := P) (ρ := ρ) (w := w) hz
  refine s_act e1 (fun p hp => (by cases hp)) ?_
  have hst1 := h.keep k1 (by simp) (h.rd.keep k1 (by simp) (by simp)) (Nat.le_refl _)
  refine s_callx (hf w1 rb D r hst1.rd) (by simp only [List.map_cons, List.map_nil]; rw [ev_ext hbr, hrd]) fun v w2 ⟨⟨cs, hcs, hfa⟩, hr2, k2⟩ => ?_
  obtain ⟨l, hl⟩ : ∃ l, (pk.run r).1 = .text l := by cases pk <;> simp [PK.isText] at htx <;> exact ⟨_, rfl⟩
  rw [hl] at hfa
  simp only [FAt] at hfa
  subst hfa
  have hst2 := hst1.keep k2 (by simp) hr2 (pk.run_len r)
  have hrbl := hst1.rd
  have hlt1 := h1.lt
  have hb1 := h.los
  have hblo := h.blo
  have hrblo := h.rblo
  have hzl : z.cells.toList.length = 1 := by simpa using hzc
  obtain ⟨w3, e3, h3, k3⟩ := a_storeCells (P := P) (ρ := ext (ext ρ n [ptr w.heap.size]) (n + 1) [v]) (w := w2) (t := c.tStr) (x := .tmp n) (y := .tmp (n + 1)) (b := w.heap.size) (o := 0) (vs := [.string (strOf l)]) (oneTy_spec (w := w2) X.one).2 (by show ext _ _ _ n = _; rw [ext_lt (by omega)]; exact ext_at)
    (by rw [show ev (ext (ext ρ n [ptr w.heap.size]) (n + 1) [v]) (.tmp (n + 1)) = v from ext_at]; exact hcs) (h1.keep k2 (by simp only [List.mem_singleton]; omega)) (by simp [hzl]) (by simp [Value.oneCell'])
  refine s_unit e3 (fun p hp => (by cases hp)) ?_
  have hs2 := k2.size
  have hD1 := h.rd.2.1
  have hgl := h.err.2
  obtain ⟨mid2, hh2, hf2⟩ := hst2.st
  have hst3 : StAt w3 rb D b c.gErr lo ev0 (pk.run r).2 pre post fs := by
    obtain ⟨mid, hh, hf⟩ := h.st
    have k03 : Keeps [rb] w w3 := ((k1.mono (by simp)).trans ((k2.mono (by simp)).trans (k3.mono (by simp))) : Keeps [rb, w.heap.size] w w3).less fun x hx => by
      simp only [List.mem_cons, List.not_mem_nil, or_false] at hx ⊢
      omega
    exact h.keep k03 (by simp) (hr2.keep k3 (by simp only [List.mem_singleton]; omega) (by simp only [List.mem_singleton]; omega)) (pk.run_len r)
  have hcell : Has w3 w.heap.size [.string (strOf l)] := by
    match hz1 : z.cells.toList, hzl with
    | [x0], _ =>
      rw [hz1] at h3
      simpa [splice] using h3
  refine s_setF (n := n + 3) (f' := .ntext (some l)) (m' := [ptr w.heap.size]) hp hty (by rw [ev_ext' hbs (by omega), ev_ext' hbs (by omega), ev_ext' hbs (by omega)]; exact hs) (by simp [opBelow]) (by
    have hev : ∀ (a1 a2 : List Value), ev (ext (ext (ext ρ n [ptr w.heap.size]) (n + 1) a1) (n + 1 + 1) a2) (.tmp n) = ptr w.heap.size := fun a1 a2 => by show ext _ _ _ n = _; rw [ext_lt (by omega), ext_lt (by omega)]; exact ext_at
    exact congrArg Value.cells (hev _ _)) ⟨_, rfl, w.heap.size, h.los, rfl, hcell⟩ rfl hls hst3 fun w4 vs h4 k4 => ?_
  have k04 : Keeps [rb, b] w w4 := ((k1.mono (by simp)).trans ((k2.mono (by simp)).trans ((k3.mono (by simp)).trans (k4.mono (by simp)))) : Keeps [rb, b, w.heap.size] w w4).less fun x hx => by
    simp only [List.mem_cons, List.not_mem_nil, or_false] at hx ⊢
    omega
  exact hk _ _ (by simp only [runStep, hl]) (n + 6) Γ _ w4 res (by omega) ⟨[], by simp⟩ (fun x hx => by rw [ext_lt (by omega), ext_lt (by omega), ext_lt (by omega), ext_lt hx]) (opBelow_mono hbres (by omega)) h4 (map_wd_set hls hp.wd rfl) k04

mutual
theorem sem_step (F : RdFacts P c) (hCo : CompGives P e.complete c.gErr) : ∀ (x : Step) (S : Nat) (ls : List Nat), (x.isList = true → OkGives P e.ok) → StepOk P c S ls x → deepOk x = true →
    SemOf P c R rb D rd ev0 (runStep x) (fun s n d res k => gStep c e rd x s S n d res k) ls (stepPre x)
  | .call pk f i ty off, S, ls, _, ⟨h1, h2, h3⟩, _ => by
    have := sem_call (R := R) (rb := rb) (D := D) (e := e) (rd := rd) (ev0 := ev0) (c := c) h1 h2 h3
    exact fun s res n k Γ ρ w b lo pre post fs r hbr hrd hbs hs hbres h hls _ => this s res n k Γ ρ w b lo pre post fs r hbr hrd hbs hs hbres h hls rfl
  | .uuid f i off, S, ls, _, ⟨h1, h2, h3⟩, _ => by
    have := sem_uuid (R := R) (rb := rb) (D := D) (e := e) (rd := rd) (ev0 := ev0) (c := c) h1 h2 h3
    exact fun s res n k Γ ρ w b lo pre post fs r hbr hrd hbs hs hbres h hls _ => this s res n k Γ ρ w b lo pre post fs r hbr hrd hbs hs hbres h hls rfl
  | .listP lk fl i tySl off pk f T, S, ls, hOk, ⟨h1, h2, h3, h4⟩, _ => sem_listP F (hOk rfl) hCo h1 h2 h3 h4
  | .sub i off T fDef ds lsS ss, S, ls, hOk, ⟨h1, h2, h3⟩, hd => by
    simp only [deepOk] at hd
    exact sem_sub h1 h2 (sem_steps F hCo ss T lsS (fun hx => hOk hx) h3 hd)
  | .strP pk f i ty off, S, ls, _, ⟨h1, h2, h3, h4, h5⟩, _ => by
    have := sem_strP (R := R) (rb := rb) (D := D) (e := e) (rd := rd) (ev0 := ev0) (c := c) h1 h2 h3 h4 h5
    exact fun s res n k Γ ρ w b lo pre post fs r hbr hrd hbs hs hbres h hls _ => this s res n k Γ ρ w b lo pre post fs r hbr hrd hbs hs hbres h hls rfl
  | .ghost, S, ls, _, _, _ => by
    intro s res n k Γ ρ w b lo pre post fs r hbr hrd hbs hs hbres h hls _ hk _
    exact hk fs r rfl n Γ ρ w res (Nat.le_refl _) ⟨[], by simp⟩ (fun _ _ => rfl) hbres h hls .refl
  | .listS lk fl i tySl off T sz fDef dflt ss, S, ls, hOk, ⟨h1, h2, h3, h4, h5, h6⟩, hd => by
    simp only [deepOk, Bool.and_eq_true] at hd
    exact sem_listS F (hOk rfl) hCo h1 h2 h3 h4 h5 hd.1 (sem_steps F hCo ss T (dflt.map FV.wd) (fun _ => hOk rfl) h6 hd.2)
theorem sem_steps (F : RdFacts P c) (hCo : CompGives P e.complete c.gErr) : ∀ (ss : List Step) (S : Nat) (ls : List Nat), (hasRet ss = true → OkGives P e.ok) → StepsOk P c S ls ss → deepsOk ss = true →
    SemOf P c R rb D rd ev0 (runSteps ss) (fun s n d res k => gSteps c e rd ss s S n d res k) ls (fun fs => idxOk fs ss)
  | [], S, ls, _, _, _ => by
    intro s res n k Γ ρ w b lo pre post fs r hbr hrd hbs hs hbres h hls _ hk _
    exact hk fs r rfl n Γ ρ w res (Nat.le_refl _) ⟨[], by simp⟩ (fun _ _ => rfl) hbres h hls .refl
  | x :: ss, S, ls, hOk, ⟨h1, h2⟩, hd => by
    simp only [deepsOk, Bool.and_eq_true] at hd
    have ih1 := sem_step F hCo x S ls (fun hx => hOk (by simp [hasRet, hx])) h1 hd.1
    have ih2 := sem_steps F hCo ss S ls (fun hx => hOk (by simp [hasRet, hx])) h2 hd.2
    intro s res n k Γ ρ w b lo pre post fs r hbr hrd hbs hs hbres h hls hidx hk hexit
    simp only [idxOk, Bool.and_eq_true] at hidx
    simp only [gSteps]
    refine ih1 s res n _ Γ ρ w b lo pre post fs r hbr hrd hbs hs hbres h hls hidx.1.1 ?_ ?_
    · rintro fs1 r1 hrun n1 Γ1 ρ1 w1 res1 hle1 ⟨Δ1, rfl⟩ hag1 hbres1 hst1 hls1 kk1
      obtain ⟨f1, hf1⟩ := idxOk_step hrun
      refine ih2 s res1 n1 k (Γ ++ Δ1) ρ1 w1 b lo pre post fs1 r1 (opBelow_mono hbr hle1) (by rw [ev_agree hbr hag1, hrd]) (opBelow_mono hbs hle1) (by rw [ev_agree hbs hag1, hs]) hbres1 hst1 hls1 (by rw [hf1]; exact idxOk_set hidx.1.2 hidx.2) ?_ ?_
      · rintro fs2 r2 hrun2 n2 Γ2 ρ2 w2 res2 hle2 ⟨Δ2, rfl⟩ hag2 hbres2 hst2 hls2 kk2
        exact hk fs2 r2 (by simp only [runSteps, hrun]; exact hrun2) n2 _ ρ2 w2 res2 (by omega) ⟨Δ1 ++ Δ2, by simp⟩ (fun t ht => (hag2 t (by omega)).trans (hag1 t ht)) hbres2 hst2 hls2 (kk1.trans kk2)
      · intro hn w2 kk2
        exact hexit (by simp only [runSteps, hrun]; exact hn) w2 (kk1.trans kk2)
    · intro hn w1 kk1
      exact hexit (by simp only [runSteps, hn]) w1 kk1
end

end

end Go.Kf

namespace Go.Kf

open Go

/-- The cells of a field that points nowhere. -/
def FV.imm0 : FV → Option (List Value)
  | .one v => bif v.oneCell' then some [v] else none
  | .uuid l => bif Nat.beq l.length 16 then some (bcells l) else none
  | .text l => some [.string (strOf l)]
  | .ntext none => some [.pointer none]
  | .octs true [] => some [.slice none 0 0]
  | .tags [] => some [.map none]
  | .list true [] => some [.slice none 0 0]
  | .ptr none => some [.pointer none]
  | _ => none

theorem FV.imm0_at {f : FV} {cs : List Value} (h : f.imm0 = some cs) (D : Nat) (w : World) (lo : Nat) : FAt D w lo f cs := by
  unfold FV.imm0 at h
  split at h
  · rename_i v
    cases hv : v.oneCell' with
    | false => rw [hv] at h; cases h
    | true => rw [hv] at h; simp only [cond, Option.some.injEq] at h; exact ⟨h.symm, hv⟩
  · rename_i l
    cases hl : Nat.beq l.length 16 with
    | false => rw [hl] at h; cases h
    | true => rw [hl] at h; simp only [cond, Option.some.injEq] at h; exact ⟨h.symm, Nat.eq_of_beq_eq_true hl⟩
  · simp only [Option.some.injEq] at h; exact h.symm
  · simp only [Option.some.injEq] at h; exact ⟨_, h.symm, rfl⟩
  · simp only [Option.some.injEq] at h; exact ⟨_, h.symm, octAt_nil w D lo⟩
  · simp only [Option.some.injEq] at h; exact ⟨_, h.symm, .inl ⟨rfl, rfl⟩⟩
  · simp only [Option.some.injEq] at h; exact .inl ⟨rfl, h.symm, rfl⟩
  · simp only [Option.some.injEq] at h; exact h.symm
  · cases h

/-- It lies so, and in no other way. -/
theorem FV.imm0_eq {f : FV} {cs : List Value} (h : f.imm0 = some cs) {D : Nat} {w : World} {lo : Nat} {cs' : List Value} (h' : FAt D w lo f cs') : cs' = cs := by
  unfold FV.imm0 at h
  split at h
  · rename_i v
    cases hv : v.oneCell' with
    | false => rw [hv] at h; cases h
    | true => rw [hv] at h; simp only [cond, Option.some.injEq] at h; rw [h'.1, h]
  · rename_i l
    cases hl : Nat.beq l.length 16 with
    | false => rw [hl] at h; cases h
    | true => rw [hl] at h; simp only [cond, Option.some.injEq] at h; rw [h'.1, h]
  · simp only [Option.some.injEq] at h; simp only [FAt] at h'; rw [h', h]
  · simp only [Option.some.injEq] at h
    obtain ⟨v, e, hv⟩ := h'
    simp only [NStrAt] at hv
    rw [e, hv, h]
  · simp only [Option.some.injEq] at h
    obtain ⟨v, e, hr, hn, _⟩ := h'
    rcases hr.2 with ⟨rfl, _⟩ | ⟨_, _, _, _, rfl, _⟩
    · rw [e, h]
    · cases hn
  · simp only [Option.some.injEq] at h
    obtain ⟨v, e, hv⟩ := h'
    rcases hv with ⟨rfl, _⟩ | ⟨b, es, clock, _, _, _, _, _, _, _, _, hne⟩
    · rw [e, h]
    · exact absurd rfl hne
  · simp only [Option.some.injEq] at h
    rcases h' with ⟨_, e, _⟩ | ⟨e, _⟩
    · rw [e, h]
    · cases e
  · simp only [Option.some.injEq] at h; simp only [FAt] at h'; rw [h', h]
  · cases h

mutual
def FV.imm : FV → Option (List Value)
  | .sub fs => immL fs
  | .one v => FV.imm0 (.one v)
  | .uuid l => FV.imm0 (.uuid l)
  | .text l => FV.imm0 (.text l)
  | .ntext o => FV.imm0 (.ntext o)
  | .octs nl l => FV.imm0 (.octs nl l)
  | .tags m => FV.imm0 (.tags m)
  | .list nl rows => FV.imm0 (.list nl rows)
  | .ptr o => FV.imm0 (.ptr o)
def immL : List FV → Option (List Value)
  | [] => some []
  | f :: fs => match f.imm, immL fs with
    | some a, some b => some (a ++ b)
    | _, _ => none
end

mutual
theorem FV.imm_at : ∀ {f : FV} {cs : List Value}, f.imm = some cs → ∀ (D : Nat) (w : World) (lo : Nat), FAt D w lo f cs
  | .sub fs, cs, h, D, w, lo => by
    simp only [FV.imm] at h
    exact immL_at h D w lo
  | .one v, _, h, D, w, lo => FV.imm0_at (by simpa only [FV.imm] using h) D w lo
  | .uuid l, _, h, D, w, lo => FV.imm0_at (by simpa only [FV.imm] using h) D w lo
  | .text l, _, h, D, w, lo => FV.imm0_at (by simpa only [FV.imm] using h) D w lo
  | .ntext o, _, h, D, w, lo => FV.imm0_at (by simpa only [FV.imm] using h) D w lo
  | .octs nl l, _, h, D, w, lo => FV.imm0_at (by simpa only [FV.imm] using h) D w lo
  | .tags m, _, h, D, w, lo => FV.imm0_at (by simpa only [FV.imm] using h) D w lo
  | .list nl rows, _, h, D, w, lo => FV.imm0_at (by simpa only [FV.imm] using h) D w lo
  | .ptr o, _, h, D, w, lo => FV.imm0_at (by simpa only [FV.imm] using h) D w lo
theorem immL_at : ∀ {fs : List FV} {cs : List Value}, immL fs = some cs → ∀ (D : Nat) (w : World) (lo : Nat), FsAt D w lo fs cs
  | [], cs, h, _, _, _ => by simp only [immL, Option.some.injEq] at h; exact h.symm
  | f :: fs, cs, h, D, w, lo => by
    simp only [immL] at h
    split at h
    · rename_i a b ha hb
      simp only [Option.some.injEq] at h
      exact ⟨a, b, h.symm, FV.imm_at ha D w lo, immL_at hb D w lo⟩
    · cases h
end

mutual
theorem FV.imm_eq : ∀ {f : FV} {cs : List Value}, f.imm = some cs → ∀ {D : Nat} {w : World} {lo : Nat} {cs' : List Value}, FAt D w lo f cs' → cs' = cs
  | .sub fs, cs, h, _, _, _, cs', h' => by
    simp only [FV.imm] at h
    exact immL_eq h h'
  | .one v, _, h, _, _, _, _, h' => FV.imm0_eq (by simpa only [FV.imm] using h) h'
  | .uuid l, _, h, _, _, _, _, h' => FV.imm0_eq (by simpa only [FV.imm] using h) h'
  | .text l, _, h, _, _, _, _, h' => FV.imm0_eq (by simpa only [FV.imm] using h) h'
  | .ntext o, _, h, _, _, _, _, h' => FV.imm0_eq (by simpa only [FV.imm] using h) h'
  | .octs nl l, _, h, _, _, _, _, h' => FV.imm0_eq (by simpa only [FV.imm] using h) h'
  | .tags m, _, h, _, _, _, _, h' => FV.imm0_eq (by simpa only [FV.imm] using h) h'
  | .list nl rows, _, h, _, _, _, _, h' => FV.imm0_eq (by simpa only [FV.imm] using h) h'
  | .ptr o, _, h, _, _, _, _, h' => FV.imm0_eq (by simpa only [FV.imm] using h) h'
theorem immL_eq : ∀ {fs : List FV} {cs : List Value}, immL fs = some cs → ∀ {D : Nat} {w : World} {lo : Nat} {cs' : List Value}, FsAt D w lo fs cs' → cs' = cs
  | [], cs, h, _, _, _, cs', h' => by
    simp only [immL, Option.some.injEq] at h
    simp only [FsAt] at h'
    rw [h', h]
  | f :: fs, cs, h, D, w, lo, cs', ⟨c1, c2, e, h1, h2⟩ => by
    simp only [immL] at h
    split at h
    · rename_i a b ha hb
      simp only [Option.some.injEq] at h
      rw [e, FV.imm_eq ha h1, immL_eq hb h2, h]
    · cases h
end

mutual
def gDef1 (S : Nat) (s : Operand) : Dset → Nat → (Nat → Tr) → Tr
  | .set i ty _ v, n, k => gSet s S i ty (.const v) n (k (n + 3))
  | .sub i _ T _ ds, n, k => .op (.nilCheck s) none [] <| .op (.fieldAddr S (.tmp n) i) none [] <| gDefs T (.tmp (n + 1)) ds (n + 2) k
def gDefs (S : Nat) (s : Operand) : List Dset → Nat → (Nat → Tr) → Tr
  | [], n, k => k n
  | d :: ds, n, k => gDef1 S s d n fun n' => gDefs S s ds n' k
end

def gDef (S : Nat) (ds : List Dset) (n : Nat) : Tr := gDefs S (.tmp 0) ds n fun _ => .ret []

mutual
def DsetOk (P : Program) (S : Nat) (ls : List Nat) : Dset → Prop
  | .set i ty off v => PlaceOk P S ls i off 1 ∧ (P.info? ty).map (·.size) = some 1 ∧ v.oneCell' = true
  | .sub i off T lsS ds => PlaceOk P S ls i off lsS.sum ∧ DsetsOk P T lsS ds
def DsetsOk (P : Program) (S : Nat) (ls : List Nat) : List Dset → Prop
  | [] => True
  | d :: ds => DsetOk P S ls d ∧ DsetsOk P S ls ds
end

section

variable {P : Program} {c : Nums} {R : Value → World → Prop} {Γ : List (List Value → World → Prop)} {n : Nat} {ρ : Nat → Value} {w : World} {k : Tr} {rb D : Nat}

/-- A field set, where no reader is at hand. -/
theorem s_setF0 {s x : Operand} {S i ty off wd b lo : Nat} {ls : List Nat} {pre post m' mid : List Value} {fs : List FV} {f' : FV} (hp : PlaceOk P S ls i off wd) (hty : (P.info? ty).map (·.size) = some wd) (hs : ev ρ s = ptr b pre.length)
    (hbx : opBelow n x) (hx : (ev ρ x).cells = ⟨m'⟩) (hf' : FAt D w lo f' m') (hw' : f'.wd = wd) (hls : fs.map FV.wd = ls) (hh : Has w b (pre ++ mid ++ post)) (hf : FsAt D w lo fs mid) (hbD : b ≠ D) (hblo : b < lo)
    (hk : ∀ w' vs mid', Has w' b (pre ++ mid' ++ post) → FsAt D w' lo (fs.set i f') mid' → Keeps [b] w w' → k.sem P R Γ (n + 3) (ext ρ n vs) w') : (gSet s S i ty x n k).sem P R Γ n ρ w := by
  have hi : ∃ f, fs[i]? = some f ∧ f.wd = wd := by
    have := hp.wd
    rw [← hls, List.getElem?_map] at this
    cases hfi : fs[i]? with
    | none => rw [hfi] at this; cases this
    | some f => rw [hfi] at this; exact ⟨f, rfl, by simpa using this⟩
  obtain ⟨f, hfi, hfw⟩ := hi
  obtain ⟨a, m, z, emid, ha, hfm, hset⟩ := hf.split hfi
  have hao : a.length = off := by
    rw [ha, wds_eq, List.map_take, hls]; exact hp.off
  have hml : m.length = wd := by rw [FAt.len f m hfm, hfw]
  have hml' : m'.length = wd := by rw [FAt.len f' m' hf', hw']
  have e1 := ext_ext ρ n [ptr b pre.length] [ptr b (pre.length + off)]
  have e2 := ext_ext ρ n [ptr b pre.length, ptr b (pre.length + off)] [undef]
  simp only [List.length_cons, List.length_nil, List.cons_append, List.nil_append] at e1 e2
  refine s_val (v_nilCheck hs) (s_val (v_field hp.field ext_at) ?_)
  simp only [ptr] at e1 e2 hk ⊢
  rw [e1]
  subst emid
  obtain ⟨w', h2, h3, h4⟩ := a_storeCells (P := P) (ρ := ext ρ n [.pointer (some ⟨b, pre.length, none⟩), .pointer (some ⟨b, pre.length + off, none⟩)]) (w := w) (t := ty) (x := .tmp (n + 1)) (y := x) (b := b) (o := pre.length + off) (vs := m')
    (by rw [hml']; exact hty) (by rw [← e1]; exact ext_at) (by rw [ev_ext hbx]; exact hx) hh (by simp; omega) (FAt.ones f' m' hf')
  refine s_unit h2 (fun p hp => (by cases hp)) ?_
  rw [show n + 1 + 1 = n + (0 + 1 + 1) from rfl, e2]
  have hsp : splice (pre ++ (a ++ m ++ z) ++ post) (pre.length + off) m' = pre ++ (a ++ m' ++ z) ++ post := by
    unfold splice
    have t1 : (pre ++ (a ++ m ++ z) ++ post).take (pre.length + off) = pre ++ a := by
      rw [show pre ++ (a ++ m ++ z) ++ post = (pre ++ a) ++ (m ++ z ++ post) by simp, List.take_left' (by simp [hao])]
    have t2 : (pre ++ (a ++ m ++ z) ++ post).drop (pre.length + off + m'.length) = z ++ post := by
      rw [show pre ++ (a ++ m ++ z) ++ post = (pre ++ a ++ m) ++ (z ++ post) by simp, List.drop_left' (by simp [hao, hml, hml']; omega)]
    rw [t1, t2]
    simp
  rw [hsp] at h3
  exact hk w' _ _ h3 (FsAt.keep h4 lo (fun y hy => by simp only [List.mem_singleton] at hy; subst hy; exact ⟨hbD, hblo⟩) _ _ (hset f' m' hf')) h4

theorem s_defs {b lo : Nat} (hbD : b ≠ D) (hblo : b < lo) : ∀ (ds : List Dset) (S : Nat) (ls : List Nat) (s : Operand) (pre post : List Value) (n : Nat) (k : Nat → Tr) (ρ : Nat → Value) (w : World) (mid : List Value) (fs : List FV), DsetsOk P S ls ds → opBelow n s → ev ρ s = ptr b pre.length → shapesOk fs ds = true → fs.map FV.wd = ls → Has w b (pre ++ mid ++ post) → FsAt D w lo fs mid →
    (∀ n' ρ' w' mid', n ≤ n' → (∀ x, x < n → ρ' x = ρ x) → Has w' b (pre ++ mid' ++ post) → FsAt D w' lo (applyD ds fs) mid' → (applyD ds fs).map FV.wd = ls → Keeps [b] w w' → (k n').sem P R Γ n' ρ' w') → (gDefs S s ds n k).sem P R Γ n ρ w
  | [], S, ls, s, pre, post, n, k, ρ, w, mid, fs, _, _, _, _, hls, hh, hf, hk => hk n ρ w mid (Nat.le_refl _) (fun _ _ => rfl) hh (by simpa [applyD] using hf) (by simpa [applyD] using hls) .refl
  | .set i ty off v :: ds, S, ls, s, pre, post, n, k, ρ, w, mid, fs, hok, hbs, hp, hsh, hls, hh, hf, hk => by
    simp only [DsetsOk, DsetOk] at hok
    obtain ⟨⟨h1, h2, h3⟩, hok'⟩ := hok
    simp only [gDefs, gDef1]
    simp only [shapesOk, Bool.and_eq_true] at hsh
    refine s_setF0 (x := .const v) (f' := .one v) (m' := [v]) h1 h2 hp trivial (by show v.cells = _; rw [cells_one h3]) ⟨rfl, h3⟩ rfl hls hh hf hbD hblo fun w' vs mid' hh' hf' k' => ?_
    refine s_defs hbD hblo ds S ls s pre post (n + 3) k _ w' mid' _ hok' (opBelow_mono hbs (by omega)) (by rw [ev_ext' hbs (by omega)]; exact hp) (shapesOk_set hsh.1.2 hsh.2) (map_wd_set hls h1.wd rfl) hh' hf' fun n' ρ' w2 mid2 hle hag hh2 hf2 hw2 k2 => ?_
    exact hk n' ρ' w2 mid2 (by omega) (fun x hx => by rw [hag x (by omega), ext_lt hx]) hh2 (by simp only [applyD, applyD1]; exact hf2) (by simp only [applyD, applyD1]; exact hw2) (k'.trans k2)
  | .sub i off T lsS es :: ds, S, ls, s, pre, post, n, k, ρ, w, mid, fs, hok, hbs, hp, hsh, hls, hh, hf, hk => by
    simp only [DsetsOk, DsetOk] at hok
    obtain ⟨⟨h1, h2⟩, hok'⟩ := hok
    simp only [gDefs, gDef1]
    simp only [shapesOk, dPre, Bool.and_eq_true] at hsh
    obtain ⟨⟨hpre, hdis⟩, hsh'⟩ := hsh
    split at hpre
    case h_2 => cases hpre
    rename_i gs hgs
    simp only [Bool.and_eq_true, decide_eq_true_eq] at hpre
    obtain ⟨hg1, hg2⟩ := hpre
    obtain ⟨a, m, z, emid, ha, hfm, _⟩ := hf.split hgs
    have hao : a.length = off := by rw [ha, wds_eq, List.map_take, hls]; exact h1.off
    subst emid
    have hassoc : ∀ x : List Value, pre ++ (a ++ x ++ z) ++ post = (pre ++ a) ++ x ++ (z ++ post) := fun x => by simp
    have hpl : (pre ++ a).length = pre.length + off := by simp [hao]
    refine s_val (v_nilCheck hp) (s_val (v_field h1.field ext_at) ?_)
    rw [hassoc] at hh
    refine s_defs hbD hblo es T lsS (.tmp (n + 1)) (pre ++ a) (z ++ post) (n + 2) _ _ w m gs h2 (by simp [opBelow]) (by show ext _ _ _ (n + 1) = _; rw [ext_at, hpl]; rfl) hg2 hg1 hh hfm fun n1 ρ1 w1 m1 hle1 hag1 hh1 hf1 hw1 k1 => ?_
    have hfk := FsAt.keep k1 lo (fun x hx => by simp only [List.mem_singleton] at hx; subst hx; exact ⟨hbD, hblo⟩) _ _ hf
    obtain ⟨a2, m2, z2, e2, ha2, hfm2, hset2⟩ := hfk.split hgs
    have hal : a2.length = a.length := by rw [ha2, ha]
    have hm2 : m2.length = m.length := by rw [FAt.len _ _ hfm2, FAt.len _ _ hfm]
    have e3 : a ++ (m ++ z) = a2 ++ (m2 ++ z2) := by rw [← List.append_assoc, e2, List.append_assoc]
    obtain ⟨rfl, e4⟩ := List.append_inj e3 hal.symm
    obtain ⟨rfl, rfl⟩ := List.append_inj e4 hm2.symm
    have hag0 : ∀ x, x < n → ρ1 x = ρ x := fun x hx => by rw [hag1 x (by omega), ext_lt (by omega), ext_lt hx]
    have happ : applyD1 (.sub i off T lsS es) fs = fs.set i (.sub (applyD es gs)) := by simp only [applyD1, hgs]
    have hwset : (fs.set i (.sub (applyD es gs))).map FV.wd = ls := map_wd_set hls h1.wd (by simp only [FV.wd]; rw [wds_eq, hw1])
    refine s_defs hbD hblo ds S ls s pre post n1 k ρ1 w1 (a ++ m1 ++ z) _ hok' (opBelow_mono hbs (by omega)) (by rw [ev_agree hbs hag0]; exact hp) (shapesOk_set hdis hsh') hwset (by rw [hassoc]; exact hh1) (hset2 (.sub (applyD es gs)) m1 hf1) fun n' ρ' w2 mid2 hle hag hh2 hf2 hw2 k2 => ?_
    exact hk n' ρ' w2 mid2 (by omega) (fun x hx => by rw [hag x (by omega), hag0 x hx]) hh2 (by simp only [applyD, happ]; exact hf2) (by simp only [applyD, happ]; exact hw2) (k1.trans k2)

/-- A struct's Default. -/
theorem default_gives {f S : Nat} {ls : List Nat} {ds : List Dset} (hmix : P.follows .mixedOrders = true) (hT : treeIn P f noOrc [.tmp 0] 1 = gDef S ds 1) (hok : DsetsOk P S ls ds) : DefSets P f ls ds := by
  intro D w b lo pre post mid fs hbD hblo hsh hls hh hf
  refine gives_in (ρ := en [ptr b pre.length]) hmix hT (Nat.le_refl _) rfl (by simp [opBelow]) ?_
  exact s_defs hbD hblo ds S ls (.tmp 0) pre post 1 _ _ w mid fs hok (by simp [opBelow]) rfl hsh hls hh hf fun n' ρ' w' mid' _ _ hh' hf' _ k' => s_ret0 ⟨⟨mid', hh', hf'⟩, k'⟩

/-- Over noughts. -/
theorem DefSets.ok {f T : Nat} {ls : List Nat} {ds : List Dset} {zfs dflt : List FV} {z : Value} {dc : List Value} (h : DefSets P f ls ds) (hz : (P.info? T).map (·.zero) = some (some z)) (hzf : immL zfs = some z.cells.toList) (hsh : shapesOk zfs ds = true) (hls : zfs.map FV.wd = ls) (hd : applyD ds zfs = dflt) (hdc : immL dflt = some dc) : DefOk P f T dflt := by
  refine ⟨z, dc, hz, fun D w lo => immL_at hdc D w lo, fun w b pre post hh => ?_⟩
  refine Gives.mono (h (b + 1) w b (b + 1) pre post _ zfs (by omega) (by omega) hsh hls hh (immL_at hzf _ _ _)) fun _ w' ⟨⟨mid', hh', hf'⟩, k'⟩ => ?_
  rw [hd] at hf'
  rw [immL_eq hdc hf'] at hh'
  exact ⟨hh', k'⟩

structure RfFacts (P : Program) (c : Nums) (S : Nat) : Prop where
  plan : ∃ z, buildPlan P c.tRd = some ([.slice none 0 0, .bool z], [(0, 1), (1, 1)]) ∧ z = false
  zero : zeroTy P c.tRd = some (.agg #[.slice none 0 0, .bool false], 2)
  size : (P.info? c.tRd).map (·.size) = some 2
  ver : fieldOff P S 0 = some 0
  oneI16 : oneTy P c.tI16 = true

/-- How readFrom ends. -/
def RfPost (D V : Nat) (e0 : Value) (w w' : World) (u : Value) : Option (List FV × Rd) → Prop
  | some (fs, r) => if r.bad then u = e0 else u = .nilIface ∧ ∃ mid, Has w' V mid ∧ FsAt D w' w.heap.size fs mid
  | none => u = e0

end

end Go.Kf

namespace Go.Kf

open Go

variable {P : Program} {c : Nums} {f : Nat}

theorem any_num {N : Nat} {k : IntKind} (h : RdNum P f N k) : RdAny P f (.num N k) := fun w rb D r hr =>
  (h w rb D r hr).mono fun v w' ⟨hv, h1, k1⟩ => ⟨⟨[v], by rw [hv]; rfl, by rw [hv]; exact ⟨rfl, rfl⟩⟩, h1, k1⟩

theorem any_str (h : RdStr P f rStr) : RdAny P f .str := fun w rb D r hr =>
  (h w rb D r hr).mono fun v w' ⟨hv, h1, k1⟩ => ⟨⟨[v], by rw [hv]; rfl, by rw [hv]; rfl⟩, h1, k1⟩

theorem NStrAt.cells {w : World} {lo : Nat} {o : Option (List UInt8)} {v : Value} (h : NStrAt w lo o v) : v.cells = ⟨[v]⟩ := by
  cases o with
  | none => simp only [NStrAt] at h; subst h; rfl
  | some l => obtain ⟨b, _, rfl, _⟩ := h; rfl

theorem OctAt.cells {w : World} {D lo : Nat} {nl : Bool} {l : List UInt8} {v : Value} (h : OctAt w D lo nl l v) : v.cells = ⟨[v]⟩ := by
  obtain ⟨a, cp, rfl, _⟩ := h.1.form
  rfl

theorem any_nstr (h : RdNStr P f rNStr) : RdAny P f .nstr := fun w rb D r hr =>
  (h w rb D r hr).mono fun v _ ⟨hv, h1, k1⟩ => ⟨⟨[v], hv.cells, v, rfl, hv⟩, h1, k1⟩

theorem any_nbytes (h : RdOct P f rNBytes) : RdAny P f .nbytes := fun w rb D r hr =>
  (h w rb D r hr).mono fun v _ ⟨hv, h1, k1⟩ => ⟨⟨[v], hv.cells, v, rfl, hv⟩, h1, k1⟩

end Go.Kf

namespace Go.Kf

open Go

/-- The slice v shows these cells. -/
def Ro (w : World) (v : Value) (sz n : Nat) (xs : List Value) : Prop :=
  xs.length = n * sz ∧ ((n = 0 ∧ ∃ a cap, v = .slice a 0 cap) ∨ ∃ b o cap, v = .slice (some ⟨b, o, none⟩) n cap ∧ b < w.heap.size ∧ n ≤ cap ∧ ∀ i, i < n * sz → w.cell? ⟨b, o + i, none⟩ = xs[i]?)

theorem cell_keep {w w' : World} {M : List Nat} (hk : Keeps M w w') {a : Addr} (hb : a.block < w.heap.size) (hm : a.block ∉ M) : w'.cell? a = w.cell? a := by
  unfold World.cell?
  rw [hk.block _ hb hm]

theorem Ro.keep {w w' : World} {v : Value} {sz n : Nat} {xs : List Value} (h : Ro w v sz n xs) (hk : Keeps [] w w') : Ro w' v sz n xs := by
  refine ⟨h.1, ?_⟩
  rcases h.2 with h0 | ⟨b, o, cap, rfl, hb, hc, hx⟩
  · exact .inl h0
  · exact .inr ⟨b, o, cap, rfl, Nat.lt_of_lt_of_le hb hk.size, hc, fun i hi => by rw [cell_keep hk hb (by simp)]; exact hx i hi⟩

theorem Ro.nil (w : World) (sz : Nat) : Ro w (.slice none 0 0) sz 0 [] := ⟨by simp, .inl ⟨rfl, _, _, rfl⟩⟩

theorem Ro.form {w : World} {v : Value} {sz n : Nat} {xs : List Value} (h : Ro w v sz n xs) : ∃ a cp, v = .slice a n cp := by
  rcases h.2 with ⟨rfl, a, cap, rfl⟩ | ⟨b, o, cap, rfl, _⟩
  · exact ⟨_, _, rfl⟩
  · exact ⟨_, _, rfl⟩

theorem Ro.one {w : World} {v : Value} {sz n : Nat} {xs : List Value} (h : Ro w v sz n xs) : v.oneCell' = true := by
  obtain ⟨a, cp, rfl⟩ := h.form
  rfl

theorem Ro.of_reads {w : World} {v : Value} {sz n : Nat} {xs : List Value} (h : Reads w v sz n xs) : Ro w v sz n xs := by
  refine ⟨h.1, ?_⟩
  rcases h.2 with ⟨rfl, rfl⟩ | ⟨b, o, cap, cs, rfl, hc, hh, hl, hx⟩
  · exact .inl ⟨rfl, _, _, rfl⟩
  · refine .inr ⟨b, o, cap, rfl, hh.lt, hc, fun i hi => ?_⟩
    rw [← hx, List.getElem?_take, if_pos hi, List.getElem?_drop, hh.cell (List.getElem?_eq_getElem (by omega)), List.getElem?_eq_getElem (by omega)]

/-- Where the elements lie. -/
theorem Ro.at {w : World} {v : Value} {sz n : Nat} {xs : List Value} (h : Ro w v sz n xs) (hn : 0 < n) : ∃ b o cap, v = .slice (some ⟨b, o, none⟩) n cap ∧ b < w.heap.size ∧ ∀ i, i < n * sz → w.cell? ⟨b, o + i, none⟩ = xs[i]? := by
  rcases h.2 with ⟨h0, _⟩ | ⟨b, o, cap, hv, hb, _, hx⟩
  · omega
  · exact ⟨b, o, cap, hv, hb, hx⟩

section

variable {P : Program} {ρ : Nat → Value} {w : World}

theorem Ro.src {x : Value} {sz m tx e : Nat} {ys : List Value} (h : Ro w x sz m ys) (ht : P.underlying tx = some (.slice e)) (h1 : ∀ u ∈ ys, u.oneCell' = true) : Src P sz tx x m ys w := by
  rcases h.2 with ⟨rfl, a, cap, rfl⟩ | ⟨b, o, cap, rfl, _, _, hx⟩
  · have : ys = [] := List.eq_nil_of_length_eq_zero (by simpa using h.1)
    subst this
    cases a with
    | none => exact Src.ofNil w ht cap
    | some a => exact Src.ofSlice w ht a 0 cap [] (by simp) (fun j u hu => by simp at hu) (by simp)
  · refine Src.ofSlice w ht ⟨b, o, none⟩ m cap _ h.1 (fun j u hu => ?_) h1
    rw [addr_add, hx j (by have := (List.getElem?_eq_some_iff.1 hu).1; have := h.1; omega), hu]

/-- The first m. -/
theorem Ro.to {sz m n c : Nat} {xs : List Value} {a : Option Addr} (h : Ro w (.slice a n c) sz n xs) (hm : m ≤ n) : Ro w (.slice a m c) sz m (xs.take (m * sz)) := by
  have hle : m * sz ≤ n * sz := Nat.mul_le_mul_right _ hm
  refine ⟨by rw [List.length_take, h.1]; omega, ?_⟩
  rcases h.2 with ⟨rfl, a', cap, e⟩ | ⟨b, o, cap, e, hb, hc, hx⟩
  · obtain rfl : m = 0 := by omega
    exact .inl ⟨rfl, _, _, rfl⟩
  · simp only [Value.slice.injEq] at e
    obtain ⟨rfl, _, rfl⟩ := e
    refine .inr ⟨b, o, c, rfl, hb, by omega, fun i hi => ?_⟩
    rw [hx i (by omega), List.getElem?_take, if_pos hi]

theorem l_cell1 {t : Nat} {x : Operand} {b o : Nat} {v : Value} (ht : oneTy P t = true) (hx : ev ρ x = ptr b o) (hv : w.cell? ⟨b, o, none⟩ = some v) : runOp P ρ (.load t x) w = .ok (.value v) w := by
  unfold runOp bareOp
  have hx' : ev ρ x = .pointer (some ⟨b, o, none⟩) := hx
  simp only [execOp, hx', Instr.loadAt, Instr.sureAddr, loadVar, Sem.run_bind, Sem.run_pure, Result.andThen_ok, (oneTy_spec (w := w) ht).1, Bool.false_eq_true, if_false, run_load, hv]

theorem loadCellsFrom_cells {b o : Nat} {xs : List Value} (h : ∀ i, i < xs.length → w.cell? ⟨b, o + i, none⟩ = xs[i]?) : ∀ (n i : Nat) (acc : Array Value), i + n ≤ xs.length →
    (loadCellsFrom ⟨b, o, none⟩ i n acc).run P w = .ok (acc ++ (⟨(xs.drop i).take n⟩ : Array Value)) w
  | 0, i, acc, _ => by simp [loadCellsFrom]
  | n + 1, i, acc, hl => by
    have hlt : i < xs.length := by omega
    unfold loadCellsFrom
    simp only [Sem.run_bind, addr_add, run_load, h i hlt, List.getElem?_eq_getElem hlt, Result.andThen_ok]
    rw [loadCellsFrom_cells h n (i + 1) _ (by omega)]
    congr 1
    apply Array.ext'
    rw [List.drop_eq_getElem_cons hlt, List.take_succ_cons]
    simp

theorem l_cellN {t s : Nat} {x : Operand} {b o : Nat} {xs : List Value} (ht : aggTy P t = some s) (hx : ev ρ x = ptr b o) (hl : xs.length = s) (hv : ∀ i, i < s → w.cell? ⟨b, o + i, none⟩ = xs[i]?) :
    runOp P ρ (.load t x) w = .ok (.value (.agg ⟨xs⟩)) w := by
  have h1 := aggTy_spec (w := w) ht
  have h2 := loadCellsFrom_cells (P := P) (w := w) (b := b) (o := o) (xs := xs) (fun i hi => hv i (by omega)) s 0 #[] (by omega)
  have hx' : ev ρ x = .pointer (some ⟨b, o, none⟩) := hx
  unfold runOp bareOp
  have h3 : (loadCells ⟨b, o, none⟩ s).run P w = .ok (⟨xs⟩ : Array Value) w := by
    unfold loadCells
    rw [h2, List.drop_zero, List.take_of_length_le (by omega)]
    simp
  simp only [execOp, hx', Instr.loadAt, Instr.sureAddr, loadVar, Sem.run_bind, Sem.run_pure, Result.andThen_ok, h1.1, if_true, size_run h1.2, h3]

end

theorem Ro.keepM {w w' : World} {v : Value} {sz n : Nat} {xs : List Value} {M : List Nat} (h : Ro w v sz n xs) (hk : Keeps M w w') (hm : n ≠ 0 → ∀ b ∈ blkOf v, b ∉ M) : Ro w' v sz n xs := by
  refine ⟨h.1, ?_⟩
  rcases h.2 with h0 | ⟨b, o, cap, rfl, hb, hc, hx⟩
  · exact .inl h0
  · by_cases hn : n = 0
    · exact .inl ⟨hn, by subst hn; exact ⟨_, _, rfl⟩⟩
    · exact .inr ⟨b, o, cap, rfl, Nat.lt_of_lt_of_le hb hk.size, hc, fun i hi => by rw [cell_keep hk hb (hm hn b (by simp [blkOf]))]; exact hx i hi⟩

theorem Ro.blk {w : World} {v : Value} {sz n : Nat} {xs : List Value} (h : Ro w v sz n xs) (hn : n ≠ 0) : ∀ b ∈ blkOf v, b < w.heap.size := by
  rcases h.2 with ⟨h0, _⟩ | ⟨b, o, cap, rfl, hb, _⟩
  · exact absurd h0 hn
  · intro x hx
    simp only [blkOf, List.mem_singleton] at hx
    subst hx
    exact hb

end Go.Kf

namespace Go.Kf

open Go

inductive PT where
  | mk (n : Int) (s : List UInt8) (null : Bool) (l : List PT) (u : TM)

/-- Octets that lie in blocks of A. -/
def OctIn (w : World) (A : Nat → Prop) (l : List UInt8) (v : Value) : Prop := Ro w v 1 l.length (bcells l) ∧ (l.length ≠ 0 → ∀ b ∈ blkOf v, A b) ∧ l.length < 4294967296

def TagRows (w : World) (A : Nat → Prop) : TM → List Value → Prop
  | [], cs => cs = []
  | p :: m, cs => ∃ v r, cs = .int .u32 p.1 :: v :: r ∧ OctIn w A p.2 v ∧ TagRows w A m r

/-- A list of tags. -/
def TagsIn (w : World) (A : Nat → Prop) (m : TM) (v : Value) : Prop := ∃ cs, Reads w v 2 m.length cs ∧ ((∀ b ∈ blkOf v, A b) ∧ m.length < 4294967296) ∧ TagRows w A m cs

mutual
def TreeAt (w : World) (A : Nat → Prop) : PT → List Value → Prop
  | .mk n s null l u, cs => ∃ sv lv uv lcs, cs = [.int .i64 n, sv, .bool null, lv, uv] ∧ OctIn w A s sv ∧ Reads w lv 5 l.length lcs ∧ ((∀ b ∈ blkOf lv, A b) ∧ l.length < 4294967296) ∧ TreesAt w A l lcs ∧ TagsIn w A u uv
def TreesAt (w : World) (A : Nat → Prop) : List PT → List Value → Prop
  | [], cs => cs = []
  | t :: ts, cs => ∃ c1 c2, cs = c1 ++ c2 ∧ TreeAt w A t c1 ∧ TreesAt w A ts c2
end

theorem OctIn.of {w : World} {A : Nat → Prop} {l : List UInt8} {v : Value} (h : Reads w v 1 l.length (bcells l)) (hA : ∀ b ∈ blkOf v, A b) (hl : l.length < 4294967296) : OctIn w A l v := ⟨Ro.of_reads h, fun _ => hA, hl⟩

theorem OctIn.keep {w w' : World} {A A' : Nat → Prop} {l : List UInt8} {v : Value} {M : List Nat} (h : OctIn w A l v) (hk : Keeps M w w') (hm : ∀ b ∈ M, ¬ A b) (hA : ∀ b, A b → b < w.heap.size → A' b) : OctIn w' A' l v :=
  ⟨h.1.keepM hk fun hn b hb hbM => hm b hbM (h.2.1 hn b hb), fun hn b hb => hA b (h.2.1 hn b hb) (h.1.blk hn b hb), h.2.2⟩

theorem TagRows.keep {w w' : World} {A A' : Nat → Prop} {M : List Nat} (hk : Keeps M w w') (hm : ∀ b ∈ M, ¬ A b) (hA : ∀ b, A b → b < w.heap.size → A' b) : ∀ (m : TM) (cs : List Value), TagRows w A m cs → TagRows w' A' m cs
  | [], _, h => h
  | _ :: m, _, ⟨v, r, e, h1, h2⟩ => ⟨v, r, e, h1.keep hk hm hA, TagRows.keep hk hm hA m r h2⟩

theorem TagsIn.keep {w w' : World} {A A' : Nat → Prop} {m : TM} {v : Value} {M : List Nat} (h : TagsIn w A m v) (hk : Keeps M w w') (hm : ∀ b ∈ M, ¬ A b) (hA : ∀ b, A b → b < w.heap.size → A' b) : TagsIn w' A' m v := by
  obtain ⟨cs, h1, h2, h3⟩ := h
  exact ⟨cs, h1.keep hk fun b hb hbM => hm b hbM (h2.1 b hb), ⟨fun b hb => hA b (h2.1 b hb) (h1.lt b hb), h2.2⟩, TagRows.keep hk hm hA m cs h3⟩

mutual
theorem TreeAt.keep {w w' : World} {A A' : Nat → Prop} {M : List Nat} (hk : Keeps M w w') (hm : ∀ b ∈ M, ¬ A b) (hA : ∀ b, A b → b < w.heap.size → A' b) : ∀ (t : PT) (cs : List Value), TreeAt w A t cs → TreeAt w' A' t cs
  | .mk _ _ _ l _, _, ⟨sv, lv, uv, lcs, e, h1, h2, h3, h4, h5⟩ =>
    ⟨sv, lv, uv, lcs, e, h1.keep hk hm hA, h2.keep hk fun b hb hbM => hm b hbM (h3.1 b hb), ⟨fun b hb => hA b (h3.1 b hb) (h2.lt b hb), h3.2⟩, TreesAt.keep hk hm hA l lcs h4, h5.keep hk hm hA⟩
theorem TreesAt.keep {w w' : World} {A A' : Nat → Prop} {M : List Nat} (hk : Keeps M w w') (hm : ∀ b ∈ M, ¬ A b) (hA : ∀ b, A b → b < w.heap.size → A' b) : ∀ (ts : List PT) (cs : List Value), TreesAt w A ts cs → TreesAt w' A' ts cs
  | [], _, h => h
  | t :: ts, _, ⟨c1, c2, e, h1, h2⟩ => ⟨c1, c2, e, TreeAt.keep hk hm hA t c1 h1, TreesAt.keep hk hm hA ts c2 h2⟩
end

theorem TreeAt.mono {w : World} {A A' : Nat → Prop} {t : PT} {cs : List Value} (h : TreeAt w A t cs) (hA : ∀ b, A b → b < w.heap.size → A' b) : TreeAt w A' t cs := TreeAt.keep (M := []) .refl (fun b hb => by cases hb) hA t cs h

theorem TreesAt.mono {w : World} {A A' : Nat → Prop} {ts : List PT} {cs : List Value} (h : TreesAt w A ts cs) (hA : ∀ b, A b → b < w.heap.size → A' b) : TreesAt w A' ts cs := TreesAt.keep (M := []) .refl (fun b hb => by cases hb) hA ts cs h

theorem TreeAt.len {w : World} {A : Nat → Prop} {t : PT} {cs : List Value} (h : TreeAt w A t cs) : cs.length = 5 := by
  cases t with
  | mk n s null l u =>
    obtain ⟨sv, lv, uv, lcs, e, _⟩ := h
    rw [e]; rfl

theorem TreesAt.len {w : World} {A : Nat → Prop} : ∀ {ts : List PT} {cs : List Value}, TreesAt w A ts cs → cs.length = ts.length * 5
  | [], _, h => by simp only [TreesAt] at h; subst h; rfl
  | t :: ts, _, ⟨c1, c2, e, h1, h2⟩ => by
    rw [e, List.length_append, h1.len, TreesAt.len h2, List.length_cons]; omega

theorem OctIn.one {w : World} {A : Nat → Prop} {l : List UInt8} {v : Value} (h : OctIn w A l v) : v.oneCell' = true := by
  exact h.1.one

theorem Reads.one {w : World} {v : Value} {sz n : Nat} {xs : List Value} (h : Reads w v sz n xs) : v.oneCell' = true := by
  obtain ⟨a, cp, rfl, _⟩ := h.form
  rfl

theorem TreeAt.ones {w : World} {A : Nat → Prop} {t : PT} {cs : List Value} (h : TreeAt w A t cs) : ∀ u ∈ cs, u.oneCell' = true := by
  cases t with
  | mk n s null l u =>
    obtain ⟨sv, lv, uv, lcs, e, h1, h2, _, _, hu⟩ := h
    obtain ⟨ucs, hu1, _⟩ := hu
    subst e
    intro x hx
    simp only [List.mem_cons, List.not_mem_nil, or_false] at hx
    rcases hx with rfl | rfl | rfl | rfl | rfl
    · rfl
    · exact h1.one
    · rfl
    · exact h2.one
    · exact hu1.one

theorem TreesAt.ones {w : World} {A : Nat → Prop} : ∀ {ts : List PT} {cs : List Value}, TreesAt w A ts cs → ∀ u ∈ cs, u.oneCell' = true
  | [], _, h => by simp only [TreesAt] at h; subst h; intro u hu; cases hu
  | t :: ts, _, ⟨c1, c2, e, h1, h2⟩ => by
    subst e; intro u hu
    rcases List.mem_append.1 hu with h | h
    · exact h1.ones u h
    · exact TreesAt.ones h2 u h

theorem TreesAt.snoc {w : World} {A : Nat → Prop} {t : PT} {c : List Value} (h : TreeAt w A t c) : ∀ {ts : List PT} {cs : List Value}, TreesAt w A ts cs → TreesAt w A (ts ++ [t]) (cs ++ c)
  | [], _, h2 => by simp only [TreesAt] at h2; subst h2; exact ⟨c, [], by simp, h, rfl⟩
  | x :: ts, _, ⟨c1, c2, e, h1, h2⟩ => ⟨c1, c2 ++ c, by rw [e]; simp, h1, TreesAt.snoc h h2⟩

/-- The tree i of a row. -/
theorem TreesAt.split {w : World} {A : Nat → Prop} : ∀ {ts : List PT} {cs : List Value} {i : Nat} {t : PT}, TreesAt w A ts cs → ts[i]? = some t → ∃ a m z, cs = a ++ m ++ z ∧ a.length = i * 5 ∧ TreeAt w A t m ∧
    ∀ (t' : PT) (m' : List Value), TreeAt w A t' m' → TreesAt w A (ts.set i t') (a ++ m' ++ z)
  | [], _, _, _, _, hi => by simp at hi
  | x :: ts, _, 0, t, ⟨c1, c2, e, h1, h2⟩, hi => by
    simp only [List.getElem?_cons_zero, Option.some.injEq] at hi
    subst hi
    exact ⟨[], c1, c2, by simpa using e, by simp, h1, fun t' m' h' => ⟨m', c2, by simp, h', h2⟩⟩
  | x :: ts, _, i + 1, t, ⟨c1, c2, e, h1, h2⟩, hi => by
    simp only [List.getElem?_cons_succ] at hi
    obtain ⟨a, m, z, e2, hl, ht, hset⟩ := TreesAt.split h2 hi
    exact ⟨c1 ++ a, m, z, by rw [e, e2]; simp, by rw [List.length_append, h1.len, hl]; omega, ht, fun t' m' h' => ⟨c1, a ++ m' ++ z, by simp, h1, hset t' m' h'⟩⟩

/-- What a tree says of nothing. -/
def PT.zero : PT := .mk 0 [] false [] []

def zeroTree : List Value := [.int .i64 0, .slice none 0 0, .bool false, .slice none 0 0, .slice none 0 0]

theorem zeroTree_at (w : World) (A : Nat → Prop) : TreeAt w A .zero zeroTree :=
  have hn : ∀ b ∈ blkOf (.slice none 0 0), A b := fun b hb => by cases hb
  have hr : ∀ sz, Reads w (.slice none 0 0) sz 0 [] := fun sz => ⟨by simp, .inl ⟨rfl, rfl⟩⟩
  ⟨_, _, _, [], rfl, ⟨Ro.nil w 1, (fun h => absurd rfl h), by decide⟩, hr 5, ⟨hn, by decide⟩, rfl, [], hr 2, ⟨hn, by decide⟩, rfl⟩

theorem zeroTrees_at (w : World) (A : Nat → Prop) : ∀ n : Nat, TreesAt w A (List.replicate n .zero) (List.replicate n zeroTree).flatten
  | 0 => rfl
  | n + 1 => ⟨zeroTree, (List.replicate n zeroTree).flatten, by simp [List.replicate_succ], zeroTree_at w A, zeroTrees_at w A n⟩

end Go.Kf

namespace Go.Kf

open Go

/-- Where the elements lie. -/
theorem Reads.at {w : World} {v : Value} {sz n : Nat} {xs : List Value} (h : Reads w v sz n xs) (hn : 0 < n) : ∃ b o cap cs, v = .slice (some ⟨b, o, none⟩) n cap ∧ Has w b cs ∧ o + n * sz ≤ cs.length ∧ ∀ i, i < n * sz → cs[o + i]? = xs[i]? := by
  rcases h.2 with ⟨_, h0⟩ | ⟨b, o, cap, cs, hv, _, hh, hl, hx⟩
  · omega
  · refine ⟨b, o, cap, cs, hv, hh, hl, fun i hi => ?_⟩
    rw [← hx, List.getElem?_take, if_pos hi, List.getElem?_drop]

def tSame (c : Nums) : Tr :=
  .op (.call { callee := (.builtin .len), args := ⟨[(.tmp 0)]⟩, argTypes := ⟨[c.tBytes]⟩ }) none [] <|
  .op (.call { callee := (.builtin .len), args := ⟨[(.tmp 1)]⟩, argTypes := ⟨[c.tBytes]⟩ }) none [] <|
  .op (.binOp .neq c.tInt (.tmp 2) (.tmp 3) c.tInt) none [] <|
  .cond (.tmp 4) (
    .ret [((.const (.bool false)), none)]
  ) (
    .op (.call { callee := (.builtin .len), args := ⟨[(.tmp 0)]⟩, argTypes := ⟨[c.tBytes]⟩ }) none [] <|
    .loop 0 [(.const (.bool false)), (.const (.int .i64 0))] <|
    .op (.binOp .lss c.tInt (.tmp 7) (.tmp 5) c.tInt) none [] <|
    .cond (.tmp 8) (
      .draw <|
      .pur (.indexAddr c.tBytes (.tmp 0) (.tmp 7)) none <|
      .lok (.load c.tU8 (.tmp 9)) none <|
      .pur (.indexAddr c.tBytes (.tmp 1) (.tmp 7)) none <|
      .lok (.load c.tU8 (.tmp 11)) none <|
      .pur (.binOp .neq c.tU8 (.tmp 10) (.tmp 12) c.tU8) none <|
      .cond (.tmp 13) (
        .ret [((.const (.bool false)), none)]
      ) (
        .op (.binOp .add c.tInt (.tmp 7) (.const (.int .i64 1)) c.tInt) none [] <|
        .to 0 [(.tmp 6), (.tmp 14)]
      )
    ) (
      .ret [((.const (.bool true)), none)]
    )
  )

def SameGives (P : Program) (f : Nat) : Prop := ∀ (w : World) (v1 v2 : Value) (l1 l2 : List UInt8), (l1.length < 2 ^ 62 ∨ l2.length < 2 ^ 62) → Ro w v1 1 l1.length (bcells l1) → Ro w v2 1 l2.length (bcells l2) → Gives P f [v1, v2] w fun u w' => u = .bool (decide (l1 = l2)) ∧ Keeps [] w w'

section

variable {P : Program} {c : Nums}

theorem same_gives {f : Nat} (F : RdFacts P c) (hT : treeIn P f noOrc [.tmp 0, .tmp 1] 2 = tSame c) : SameGives P f := by
  intro w v1 v2 l1 l2 hbig h1 h2
  refine gives_in (ρ := en [v1, v2]) F.mix hT (Nat.le_refl _) rfl (by simp [opBelow]) ?_
  obtain ⟨a1, cp1, hv1⟩ := h1.form
  obtain ⟨a2, cp2, hv2⟩ := h2.form
  refine s_val (v_len (a := a1) (l := l1.length) (c := cp1) F.bytes hv1) ?_
  refine s_val (v_len (a := a2) (l := l2.length) (c := cp2) F.bytes hv2) ?_
  refine s_val (v_cmp (kk := .i64) (a := l1.length) (b := l2.length) (r := ((l1.length : Int) != l2.length)) rfl rfl rfl) ?_
  refine s_cond (b := ((l1.length : Int) != l2.length)) rfl (fun hb => ?_) fun hb => ?_
  · refine s_ret1 ⟨?_, .refl⟩
    have hne : l1 ≠ l2 := fun e => by subst e; simp at hb
    rw [decide_eq_false hne]
    rfl
  · have hlen : l1.length = l2.length := by
      have : (l1.length : Int) = l2.length := by simpa using hb
      omega
    refine s_val (v_len (a := a1) (l := l1.length) (c := cp1) F.bytes hv1) ?_
    refine s_count (n := 6) (q := 5) (kk := .i64) (m := l1.length) (ri := [.const (.bool false)]) (Γ := []) (fun j w' => (∀ i, i < j → l1[i]? = l2[i]?) ∧ Keeps [] w w') (by omega) rfl ⟨fun i hi => by omega, .refl⟩ ?_ ?_
    · rintro j hj w' vr ⟨heq, kk⟩ hvr J hJ
      obtain ⟨vx, rfl⟩ : ∃ vx, vr = [vx] := by
        match vr, hvr with
        | [x], _ => exact ⟨x, rfl⟩
      have hj' : j < l1.length := by omega
      have hw1 : Keeps [] w' { w' with drawn := w'.drawn + 1 } := keeps_drawn w' _ _
      obtain ⟨b1, o1, q1, e1, _, hx1⟩ := ((h1.keep kk).keep hw1).at (by omega)
      obtain ⟨b2, o2, q2, e2, _, hx2⟩ := ((h2.keep kk).keep hw1).at (by omega)
      have hj2 : j < l2.length := by omega
      have hc1 := hx1 j (by omega)
      have hc2 := hx2 j (by omega)
      rw [show (bcells l1)[j]? = some (.int .u8 (l1[j]'hj').toNat) by simp [bcells, hj']] at hc1
      rw [show (bcells l2)[j]? = some (.int .u8 (l2[j]'hj2).toNat) by simp [bcells, hj2]] at hc2
      refine p_val (v_indexAddr (b := b1) (o := o1) (l := l1.length) (c := q1) (j := j) (kk := .i64) F.bytes F.szU8 e1 rfl (by omega) (by omega)) ?_
      rw [show o1 + (j : Int).toNat * 1 = o1 + j by omega]
      refine l_lok (l_cell1 F.oneU8 rfl hc1) ?_
      refine p_val (v_indexAddr (b := b2) (o := o2) (l := l2.length) (c := q2) (j := j) (kk := .i64) F.bytes F.szU8 e2 rfl (by omega) (by omega)) ?_
      rw [show o2 + (j : Int).toNat * 1 = o2 + j by omega]
      refine l_lok (l_cell1 F.oneU8 rfl hc2) ?_
      refine p_val (v_cmp (kk := .u8) (a := (l1[j]'hj').toNat) (b := (l2[j]'hj2).toNat) (r := (((l1[j]'hj').toNat : Int) != (l2[j]'hj2).toNat)) rfl rfl rfl) ?_
      refine s_cond (b := (((l1[j]'hj').toNat : Int) != (l2[j]'hj2).toNat)) rfl (fun hb => ?_) fun hb => ?_
      · refine s_ret1 ⟨?_, kk.trans hw1⟩
        have hne : l1 ≠ l2 := fun e => by subst e; simp at hb
        rw [decide_eq_false hne]
        rfl
      · have he : l1[j]'hj' = l2[j]'hj2 := by
          have : ((l1[j]'hj').toNat : Int) = (l2[j]'hj2).toNat := by simpa using hb
          exact UInt8.toNat_inj.1 (by omega)
        refine s_val (v_arith (kk := .i64) (a := j) (b := 1) (r := ((j + 1 : Nat) : Int)) rfl rfl ?_) ?_
        · simp only [arithOf, Option.some.injEq]; rw [IntKind.wrap_i64]; omega
        refine ⟨J, rfl, hJ [vx] _ rfl ⟨fun i hi => ?_, kk.trans hw1⟩⟩
        by_cases hij : i < j
        · exact heq i hij
        · obtain rfl : i = j := by omega
          rw [List.getElem?_eq_getElem hj', List.getElem?_eq_getElem hj2, he]
    · rintro w' vr J ⟨heq, kk⟩ hvr
      refine s_ret1 ⟨?_, kk⟩
      have he : l1 = l2 := by
        apply List.ext_getElem?
        intro i
        by_cases hi : i < l1.length
        · exact heq i (by omega)
        · rw [List.getElem?_eq_none (by omega), List.getElem?_eq_none (by omega)]
      rw [decide_eq_true he]
      rfl

end

end Go.Kf

namespace Go.Kf

open Go

/-- The types of trees. -/
structure TyFacts (P : Program) (c : Nums) (tree trees tagL tag : Nat) : Prop where
  f0 : fieldOff P tree 0 = some 0
  f1 : fieldOff P tree 1 = some 1
  f2 : fieldOff P tree 2 = some 2
  f3 : fieldOff P tree 3 = some 3
  f4 : fieldOff P tree 4 = some 4
  g0 : fieldOff P tag 0 = some 0
  g1 : fieldOff P tag 1 = some 1
  agg : aggTy P tree = some 5
  aggTag : aggTy P tag = some 2
  sl : P.underlying trees = some (.slice tree)
  slTag : P.underlying tagL = some (.slice tag)
  oneTrees : oneTy P trees = true
  oneTagL : oneTy P tagL = true
  oneI64 : oneTy P c.tI64 = true
  oneU32 : oneTy P c.tU32 = true
  i64 : P.underlying c.tI64 = some (.int .i64)
  bool : P.underlying c.tBool = some .bool

section

variable {P : Program} {c : Nums} {R : Value → World → Prop} {Γ : List (List Value → World → Prop)} {n : Nat} {ρ : Nat → Value} {w : World} {k : Tr}

/-- The cell of a struct's field, in a tree that draws. -/
theorem p_fl {s i ty off b o : Nat} {p x : Operand} {cs : List Value} {v : Value} (hf : fieldOff P s i = some off) (h1 : oneTy P ty = true) (hp : ev ρ p = ptr b o) (hx : x = .tmp n) (hh : Has w b cs) (hv : cs[o + off]? = some v)
    (hk : k.sem P R Γ (n + 2) (ext (ext ρ n [ptr b (o + off)]) (n + 1) [v]) w) : (Tr.pur (.fieldAddr s p i) none <| .lok (.load ty x) none k).sem P R Γ n ρ w := by
  subst hx
  exact p_val (v_field hf hp) (l_lok (l_load1 h1 ext_at hh hv) hk)

theorem s_fl {s i ty off b o : Nat} {p x : Operand} {cs : List Value} {v : Value} (hf : fieldOff P s i = some off) (h1 : oneTy P ty = true) (hp : ev ρ p = ptr b o) (hx : x = .tmp n) (hh : Has w b cs) (hv : cs[o + off]? = some v)
    (hk : k.sem P R Γ (n + 2) (ext (ext ρ n [ptr b (o + off)]) (n + 1) [v]) w) : (Tr.op (.fieldAddr s p i) none [] <| .op (.load ty x) none [] k).sem P R Γ n ρ w := by
  subst hx
  exact s_val (v_field hf hp) (s_lok (l_load1 h1 ext_at hh hv) hk)

theorem s_box {t : Nat} {x : Operand} {cs : List Value} (hx : ev ρ x = .agg ⟨cs⟩) (hk : ∀ w', Has w' w.heap.size cs → Keeps [] w w' → w'.heap.size = w.heap.size + 1 → k.sem P R Γ (n + 1) (ext ρ n [ptr w.heap.size]) w') : (Tr.op (.box t x) none [] k).sem P R Γ n ρ w := by
  obtain ⟨w', e, h, kk, s⟩ := a_box (P := P) (w := w) (t := t) hx
  exact s_act e (fun p hp => (by cases hp)) (hk w' h kk s)

/-- The element j of a row of trees: where it is, what it says. -/
theorem trees_elem {A : Nat → Prop} {v : Value} {l : List PT} {lcs : List Value} {j : Nat} (hr : Reads w v 5 l.length lcs) (ht : TreesAt w A l lcs) (hj : j < l.length) :
    ∃ b o cap cs, v = .slice (some ⟨b, o, none⟩) l.length cap ∧ Has w b cs ∧ o + j * 5 + 5 ≤ cs.length ∧ TreeAt w A l[j] ((cs.drop (o + j * 5)).take 5) := by
  obtain ⟨b, o, cap, cs, hv, hh, hl, hx⟩ := hr.at (by omega)
  obtain ⟨a, m, z, e, ha, hm, _⟩ := ht.split (List.getElem?_eq_getElem hj)
  have hml := hm.len
  have hlen : lcs.length = l.length * 5 := hr.1
  refine ⟨b, o, cap, cs, hv, hh, by omega, ?_⟩
  have : (cs.drop (o + j * 5)).take 5 = m := by
    apply List.ext_getElem?
    intro i
    by_cases hi : i < 5
    · rw [List.getElem?_take, if_pos hi, List.getElem?_drop, Nat.add_assoc, hx (j * 5 + i) (by omega), e, List.append_assoc, List.getElem?_append_right (by omega), List.getElem?_append_left (by omega)]
      congr 1
      omega
    · rw [List.getElem?_eq_none (by simp; omega), List.getElem?_eq_none (by omega)]
  rw [this]
  exact hm

theorem TagRows.elem {A : Nat → Prop} : ∀ {m : TM} {cs : List Value} {j : Nat} {p : Nat × List UInt8}, TagRows w A m cs → m[j]? = some p → ∃ v, cs[j * 2]? = some (.int .u32 p.1) ∧ cs[j * 2 + 1]? = some v ∧ OctIn w A p.2 v
  | [], _, _, _, _, hp => by simp at hp
  | q :: m, _, 0, p, ⟨v, r, e, h1, h2⟩, hp => by
    simp only [List.getElem?_cons_zero, Option.some.injEq] at hp
    subst hp
    exact ⟨v, by rw [e]; rfl, by rw [e]; rfl, h1⟩
  | q :: m, _, j + 1, p, ⟨v, r, e, h1, h2⟩, hp => by
    simp only [List.getElem?_cons_succ] at hp
    obtain ⟨v', a, b, h⟩ := TagRows.elem h2 hp
    refine ⟨v', ?_, ?_, h⟩
    · rw [e, show (j + 1) * 2 = j * 2 + 1 + 1 by omega]; exact a
    · rw [e, show (j + 1) * 2 + 1 = (j * 2 + 1) + 1 + 1 by omega]; exact b

theorem TagRows.len {A : Nat → Prop} : ∀ {m : TM} {cs : List Value}, TagRows w A m cs → cs.length = m.length * 2
  | [], _, h => by simp only [TagRows] at h; subst h; rfl
  | _ :: m, _, ⟨v, r, e, _, h2⟩ => by rw [e, List.length_cons, List.length_cons, TagRows.len h2, List.length_cons]; omega

/-- The element j of a list of tags. -/
theorem tags_elem {A : Nat → Prop} {v : Value} {m : TM} {j : Nat} (h : TagsIn w A m v) (hj : j < m.length) :
    ∃ b o cap cs vv, v = .slice (some ⟨b, o, none⟩) m.length cap ∧ Has w b cs ∧ cs[o + j * 2]? = some (.int .u32 m[j].1) ∧ cs[o + j * 2 + 1]? = some vv ∧ OctIn w A m[j].2 vv := by
  obtain ⟨ucs, hr, _, ht⟩ := h
  obtain ⟨b, o, cap, cs, hv, hh, hl, hx⟩ := hr.at (by omega)
  obtain ⟨vv, h1, h2, h3⟩ := ht.elem (List.getElem?_eq_getElem hj)
  refine ⟨b, o, cap, cs, vv, hv, hh, ?_, ?_, h3⟩
  · rw [hx _ (by omega)]; exact h1
  · rw [Nat.add_assoc, hx _ (by omega)]; exact h2

end

end Go.Kf

namespace Go.Kf

open Go

def tGot (c : Nums) (fLawsGot : Nat) : Tr :=
  .op (.box c.tTree (.tmp 0)) none [] <|
  .op (.alloc c.sTree) none [] <|
  .op (.fieldAddr c.tTree (.tmp 1) 0) none [] <|
  .op (.load c.tI64 (.tmp 3)) none [] <|
  .op (.fieldAddr c.tTree (.tmp 1) 1) none [] <|
  .op (.load c.tBytes (.tmp 5)) none [] <|
  .op (.fieldAddr c.tTree (.tmp 1) 2) none [] <|
  .op (.load c.tBool (.tmp 7)) none [] <|
  .op (.build c.sTree ⟨[(0, (.tmp 4)), (1, (.tmp 6)), (2, (.tmp 8))]⟩) none [] <|
  .op (.alloc c.sTree) none [] <|
  .op (.store c.sTree (.tmp 10) (.tmp 9)) none [] <|
  .op (.fieldAddr c.tTree (.tmp 1) 3) none [] <|
  .op (.load c.tTrees (.tmp 12)) none [] <|
  .op (.call { callee := (.builtin .len), args := ⟨[(.tmp 13)]⟩, argTypes := ⟨[c.tTrees]⟩ }) none [] <|
  .loop 0 [(.const (.int .i64 0))] <|
  .op (.binOp .lss c.tInt (.tmp 15) (.tmp 14) c.tInt) none [] <|
  .cond (.tmp 16) (
    .op (.indexAddr c.tTrees (.tmp 13) (.tmp 15)) none [] <|
    .op (.load c.tTree (.tmp 17)) none [] <|
    .op (.alloc c.tTree) none [] <|
    .op (.store c.tTree (.tmp 19) (.tmp 18)) none [] <|
    .draw <|
    .pur (.fieldAddr c.sTree (.tmp 10) 3) none <|
    .lok (.load c.sTrees (.tmp 21)) none <|
    .lok (.load c.tTree (.tmp 19)) none <|
    .op (callOp fLawsGot [(.tmp 23)]) none [((.load c.sTrees (.tmp 21)), 22)] <|
    .op (.buildSlice c.sTrees 1 ⟨[(0, (.tmp 24))]⟩) none [((.load c.sTrees (.tmp 21)), 22)] <|
    .op (.call { callee := (.builtin .append), args := ⟨[(.tmp 22), (.tmp 25)]⟩, argTypes := ⟨[c.sTrees, c.sTrees]⟩ }) none [] <|
    .pur (.fieldAddr c.sTree (.tmp 10) 3) none <|
    .op (.store c.sTrees (.tmp 27) (.tmp 26)) none [] <|
    .op (.binOp .add c.tInt (.tmp 15) (.const (.int .i64 1)) c.tInt) none [] <|
    .to 0 [(.tmp 29)]
  ) (
    .op (.fieldAddr c.tTree (.tmp 1) 4) none [] <|
    .op (.load c.tTagL (.tmp 17)) none [] <|
    .op (.call { callee := (.builtin .len), args := ⟨[(.tmp 18)]⟩, argTypes := ⟨[c.tTagL]⟩ }) none [] <|
    .loop 1 [(.const (.int .i64 0))] <|
    .op (.binOp .lss c.tInt (.tmp 20) (.tmp 19) c.tInt) none [] <|
    .cond (.tmp 21) (
      .op (.indexAddr c.tTagL (.tmp 18) (.tmp 20)) none [] <|
      .op (.load c.tTag (.tmp 22)) none [] <|
      .op (.alloc c.tTag) none [] <|
      .op (.store c.tTag (.tmp 24) (.tmp 23)) none [] <|
      .op (.fieldAddr c.sTree (.tmp 10) 4) none [] <|
      .op (.load c.sTagL (.tmp 26)) none [] <|
      .op (.fieldAddr c.tTag (.tmp 24) 0) none [] <|
      .op (.load c.tU32 (.tmp 28)) none [] <|
      .op (.fieldAddr c.tTag (.tmp 24) 1) none [] <|
      .op (.load c.tBytes (.tmp 30)) none [] <|
      .op (.build c.sTag ⟨[(0, (.tmp 29)), (1, (.tmp 31))]⟩) none [] <|
      .op (.buildSlice c.sTagL 1 ⟨[(0, (.tmp 32))]⟩) none [] <|
      .op (.call { callee := (.builtin .append), args := ⟨[(.tmp 27), (.tmp 33)]⟩, argTypes := ⟨[c.sTagL, c.sTagL]⟩ }) none [] <|
      .op (.fieldAddr c.sTree (.tmp 10) 4) none [] <|
      .op (.store c.sTagL (.tmp 35) (.tmp 34)) none [] <|
      .op (.binOp .add c.tInt (.tmp 20) (.const (.int .i64 1)) c.tInt) none [] <|
      .to 1 [(.tmp 37)]
    ) (
      .op (.load c.sTree (.tmp 10)) none [] <|
      .op (.store c.sTree (.tmp 2) (.tmp 22)) none [] <|
      .ret [((.tmp 2), (some c.sTree))]
    )
  )

/-- A row's element type. -/
structure RowFacts (P : Program) (T sz : Nat) : Prop where
  info : ∃ inf z, P.info? T = some inf ∧ inf.zero = some z ∧ inf.size = sz ∧ z.cells.size = sz ∧ inf.bytes ≤ 1024
  agg : aggTy P T = some sz
  pos : 0 < sz ∧ sz ≤ 1024

structure GotFacts (P : Program) (c : Nums) : Prop where
  plan : buildPlan P c.sTree = some (zeroTree, [(0, 1), (1, 1), (2, 1), (3, 1), (4, 1)])
  planTag : ∃ z, buildPlan P c.sTag = some (z, [(0, 1), (1, 1)]) ∧ z.length = 2
  zero : zeroTy P c.sTree = some (.agg ⟨zeroTree⟩, 5)
  zeroT : ∃ z, zeroTy P c.tTree = some (z, 5) ∧ z.cells.size = 5
  zeroTag : ∃ z, zeroTy P c.tTag = some (z, 2) ∧ z.cells.size = 2
  row : RowFacts P c.sTree 5
  rowTag : RowFacts P c.sTag 2

section

variable {P : Program} {c : Nums} {R : Value → World → Prop} {Γ : List (List Value → World → Prop)} {n : Nat} {ρ : Nat → Value} {w : World} {k : Tr}

theorem s_alloc {t s : Nat} {z : Value} (hz : zeroTy P t = some (z, s)) (hk : ∀ w', Has w' w.heap.size z.cells.toList → Keeps [] w w' → w'.heap.size = w.heap.size + 1 → k.sem P R Γ (n + 1) (ext ρ n [ptr w.heap.size]) w') : (Tr.op (.alloc t) none [] k).sem P R Γ n ρ w := by
  obtain ⟨w', e, h, kk, s⟩ := a_alloc (P := P) (ρ := ρ) (w := w) hz
  exact s_act e (fun p hp => (by cases hp)) (hk w' h kk s)

/-- A whole struct, stored. -/
theorem s_storeAll {t b : Nat} {x y : Operand} {old cs : List Value} (ht : aggTy P t = some cs.length) (hx : ev ρ x = ptr b) (hy : (ev ρ y).cells = ⟨cs⟩) (hh : Has w b old) (hl : old.length = cs.length) (h1 : ∀ u ∈ cs, u.oneCell' = true)
    (hk : ∀ w', Has w' b cs → Keeps [b] w w' → k.sem P R Γ (n + 1) (ext ρ n [undef]) w') : (Tr.op (.store t x y) none [] k).sem P R Γ n ρ w := by
  obtain ⟨w', e, h2, kk⟩ := a_storeCells (P := P) (ρ := ρ) (w := w) (t := t) (x := x) (y := y) (b := b) (o := 0) (vs := cs) (aggTy_spec (w := w) ht).2 hx hy hh (by omega) h1
  refine s_unit e (fun p hp => (by cases hp)) (hk w' ?_ kk)
  have : splice old 0 cs = cs := by
    unfold splice
    simp only [List.take_zero, List.nil_append, Nat.zero_add]
    rw [List.drop_eq_nil_of_le (by omega), List.append_nil]
  rwa [this] at h2

/-- A struct's field, stored. -/
theorem s_fs {s i ty off b o : Nat} {p x y : Operand} {cs : List Value} {v : Value} (hf : fieldOff P s i = some off) (h1 : oneTy P ty = true) (hp : ev ρ p = ptr b o) (hx : x = .tmp n) (hy : ev ρ y = v) (hby : opBelow n y) (hv : v.oneCell' = true) (hh : Has w b cs) (hl : o + off < cs.length)
    (hk : ∀ w', Has w' b (cs.set (o + off) v) → Keeps [b] w w' → k.sem P R Γ (n + 2) (ext (ext ρ n [ptr b (o + off)]) (n + 1) [undef]) w') : (Tr.op (.fieldAddr s p i) none [] <| .op (.store ty x y) none [] k).sem P R Γ n ρ w := by
  subst hx
  refine s_val (v_field hf hp) ?_
  obtain ⟨w', e, h2, kk⟩ := a_store1 (P := P) (ρ := ext ρ n [.pointer (some ⟨b, o + off, none⟩)]) (w := w) (t := ty) (x := .tmp n) (y := y) h1 ext_at (by rw [ev_ext hby]; exact hy) hv hh hl
  exact s_unit e (fun p hp => (by cases hp)) (hk w' h2 kk)

theorem p_fs {s i ty off b o : Nat} {p x y : Operand} {cs : List Value} {v : Value} (hf : fieldOff P s i = some off) (h1 : oneTy P ty = true) (hp : ev ρ p = ptr b o) (hx : x = .tmp n) (hy : ev ρ y = v) (hby : opBelow n y) (hv : v.oneCell' = true) (hh : Has w b cs) (hl : o + off < cs.length)
    (hk : ∀ w', Has w' b (cs.set (o + off) v) → Keeps [b] w w' → k.sem P R Γ (n + 2) (ext (ext ρ n [ptr b (o + off)]) (n + 1) [undef]) w') : (Tr.pur (.fieldAddr s p i) none <| .op (.store ty x y) none [] k).sem P R Γ n ρ w := by
  subst hx
  refine p_val (v_field hf hp) ?_
  obtain ⟨w', e, h2, kk⟩ := a_store1 (P := P) (ρ := ext ρ n [.pointer (some ⟨b, o + off, none⟩)]) (w := w) (t := ty) (x := .tmp n) (y := y) h1 ext_at (by rw [ev_ext hby]; exact hy) hv hh hl
  exact s_unit e (fun p hp => (by cases hp)) (hk w' h2 kk)

/-- One element, appended to an own row. -/
theorem append_one {t e sz : Nat} {ρ : Nat → Value} {x y : Operand} {v u : Value} {m : Nat} {xs cs : List Value} (hR : RowFacts P e sz) (ht : P.underlying t = some (.slice e)) (hx : ev ρ x = v) (hy : ev ρ y = u) (ho : Own w v sz m xs) (hr : Reads w u sz 1 cs) (h1 : ∀ q ∈ cs, q.oneCell' = true) (hm : m < 4294967296) :
    ∃ v' w', runOp P ρ (.call { callee := .builtin .append, args := ⟨[x, y]⟩, argTypes := ⟨[t, t]⟩ }) w = .ok (.value v') w' ∧ Own w' v' sz (m + 1) (xs ++ cs) ∧ Keeps (blkOf v) w w' ∧ (∀ b ∈ blkOf v', b ∈ blkOf v ∨ w.heap.size ≤ b) := by
  obtain ⟨inf, z, hi, hz, hsz, hzc, hb⟩ := hR.info
  exact a_append ht hi hz hsz hzc hx hy ho (hr.src ht h1) (by
    calc (m + 1) * inf.bytes ≤ 4294967296 * 1024 := Nat.mul_le_mul (by omega) hb
      _ ≤ 140737488355328 := by decide) (by omega)

/-- []T{x}, of a struct. -/
theorem one_slice {t e sz : Nat} {ρ : Nat → Value} {x : Operand} {cs : List Value} (hR : RowFacts P e sz) (ht : P.underlying t = some (.slice e)) (hx : (ev ρ x).cells = ⟨cs⟩) (hl : cs.length = sz) :
    ∃ w', runOp P ρ (.buildSlice t 1 ⟨[(0, x)]⟩) w = .ok (.value (.slice (some ⟨w.heap.size, 0, none⟩) 1 1)) w' ∧ Reads w' (.slice (some ⟨w.heap.size, 0, none⟩) 1 1) sz 1 cs ∧ Keeps [] w w' ∧ w'.heap.size = w.heap.size + 1 := by
  subst hl
  obtain ⟨inf, z, hi, hz, hsz, hzc, hb⟩ := hR.info
  obtain ⟨w', e1, hh, kk, hs⟩ := a_sliceOne (P := P) (ρ := ρ) (w := w) (x := x) (z := z) (cs := cs) ht (by simp [zeroTy, hi, hz, hsz]) hR.pos.1 hR.pos.2 hx
  refine ⟨w', e1, ⟨by simp, .inr ⟨w.heap.size, 0, 1, cs, rfl, Nat.le_refl _, hh, by simp, by simp⟩⟩, kk, hs⟩

theorem s_oneSlice {t e sz : Nat} {x : Operand} {cs : List Value} {Fo : List (Op × Nat)} (hR : RowFacts P e sz) (ht : P.underlying t = some (.slice e)) (hx : (ev ρ x).cells = ⟨cs⟩) (hl : cs.length = sz)
    (hk : ∀ w', Reads w' (.slice (some ⟨w.heap.size, 0, none⟩) 1 1) sz 1 cs → Keeps [] w w' → w'.heap.size = w.heap.size + 1 → (∀ p ∈ Fo, runOp P ρ p.1 w' = .ok (.value (ρ p.2)) w') ∧ k.sem P R Γ (n + 1) (ext ρ n [.slice (some ⟨w.heap.size, 0, none⟩) 1 1]) w') :
    (Tr.op (.buildSlice t 1 ⟨[(0, x)]⟩) none Fo k).sem P R Γ n ρ w := by
  obtain ⟨w', e1, hr, kk, hs⟩ := one_slice (w := w) (ρ := ρ) hR ht hx hl
  exact s_act e1 (hk w' hr kk hs).1 (hk w' hr kk hs).2

theorem s_appendOne {t e sz m : Nat} {x y : Operand} {v u : Value} {xs cs : List Value} {Fo : List (Op × Nat)} (hR : RowFacts P e sz) (ht : P.underlying t = some (.slice e)) (hx : ev ρ x = v) (hy : ev ρ y = u) (ho : Own w v sz m xs) (hr : Reads w u sz 1 cs) (h1 : ∀ q ∈ cs, q.oneCell' = true) (hm : m < 4294967296)
    (hk : ∀ v' w', Own w' v' sz (m + 1) (xs ++ cs) → Keeps (blkOf v) w w' → (∀ b ∈ blkOf v', b ∈ blkOf v ∨ w.heap.size ≤ b) → (∀ p ∈ Fo, runOp P ρ p.1 w' = .ok (.value (ρ p.2)) w') ∧ k.sem P R Γ (n + 1) (ext ρ n [v']) w') :
    (Tr.op (.call { callee := .builtin .append, args := ⟨[x, y]⟩, argTypes := ⟨[t, t]⟩ }) none Fo k).sem P R Γ n ρ w := by
  obtain ⟨v', w', e1, h2, h3, h4⟩ := append_one (w := w) (ρ := ρ) hR ht hx hy ho hr h1 hm
  exact s_act e1 (hk v' w' h2 h3 h4).1 (hk v' w' h2 h3 h4).2

theorem Own.one {w : World} {v : Value} {sz n : Nat} {xs : List Value} (h : Own w v sz n xs) : v.oneCell' = true := h.reads.one

theorem TagRows.snoc {A : Nat → Prop} {q : Nat × List UInt8} {v : Value} (h : OctIn w A q.2 v) : ∀ {m : TM} {cs : List Value}, TagRows w A m cs → TagRows w A (m ++ [q]) (cs ++ [.int .u32 q.1, v])
  | [], _, h2 => by simp only [TagRows] at h2; subst h2; exact ⟨v, [], rfl, h, rfl⟩
  | p :: m, _, ⟨v', r, e, h1, h2⟩ => ⟨v', r ++ [.int .u32 q.1, v], by rw [e]; simp, h1, TagRows.snoc h h2⟩

def GotOf (P : Program) (f : Nat) (x : PT) : Prop := ∀ (w : World) (A : Nat → Prop) (c1 : List Value), TreeAt w A x c1 → Gives P f [.agg ⟨c1⟩] w fun v w' => (∃ cs, v = .agg ⟨cs⟩ ∧ TreeAt w' (fun b => A b ∨ w.heap.size ≤ b) x cs) ∧ Keeps [] w w'

theorem got_step {f : Nat} (F : RdFacts P c) (Y : TyFacts P c c.sTree c.sTrees c.sTagL c.sTag) (Z : TyFacts P c c.tTree c.tTrees c.tTagL c.tTag) (G : GotFacts P c) (hT : treeIn P f noOrc [.tmp 0] 1 = tGot c f) {nn : Int} {s : List UInt8} {null : Bool} {l : List PT} {u : TM} (ih : ∀ t ∈ l, GotOf P f t) : GotOf P f (.mk nn s null l u) := by
  intro w A c1 h1
  obtain ⟨sv1, lv1, uv1, lcs1, rfl, hs1, hl1, hb1, ht1, hu1⟩ := h1
  refine gives_in (ρ := en [_]) F.mix hT (Nat.le_refl _) rfl (by simp [opBelow]) ?_
  refine s_box rfl fun w1 hx1 k1 z1 => ?_
  refine s_alloc G.zero fun w2 hr2 k2 z2 => ?_
  have hx2 := hx1.keep k2 (by simp)
  refine s_fl Z.f0 Z.oneI64 rfl rfl hx2 rfl (s_fl Z.f1 F.oneBytes rfl rfl hx2 rfl (s_fl Z.f2 F.oneBool rfl rfl hx2 rfl ?_))
  refine s_val (v_build (cells := [.int .i64 nn, sv1, .bool null, .slice none 0 0, .slice none 0 0]) G.plan (fun p hp => by
    simp only [List.mem_cons, List.not_mem_nil, or_false] at hp
    rcases hp with rfl | rfl | rfl
    · rfl
    · exact hs1.one
    · rfl) rfl) ?_
  refine s_alloc G.zero fun w3 hr3 k3 z3 => ?_
  refine s_storeAll (b := w2.heap.size) (old := zeroTree) (cs := [.int .i64 nn, sv1, .bool null, .slice none 0 0, .slice none 0 0]) Y.agg rfl rfl hr3 rfl (fun q hq => by
    simp only [List.mem_cons, List.not_mem_nil, or_false] at hq
    rcases hq with rfl | rfl | rfl | rfl | rfl
    · rfl
    · exact hs1.one
    · rfl
    · rfl
    · rfl) fun w4 hr4 k4 => ?_
  have k34 : Keeps [] w2 w4 := ((k3.mono (by simp)).trans k4).less fun x hx => .inr (by simp only [List.mem_singleton] at hx; omega)
  have k14 : Keeps [] w w4 := (k1.trans k2).trans k34
  have hx4 : Has w4 w.heap.size _ := hx2.keep k34 (by simp)
  have hr24 := hr2.keep k34 (by simp)
  obtain ⟨a1, q1, e1, _⟩ := hl1.form
  refine s_fl Z.f3 Z.oneTrees rfl rfl hx4 rfl (s_val (v_len (a := a1) (l := l.length) (c := q1) Z.sl e1) ?_)
  have hszT : (P.info? c.tTree).map (·.size) = some 5 := (aggTy_spec (w := w) Z.agg).2
  have hszG : (P.info? c.tTag).map (·.size) = some 2 := (aggTy_spec (w := w) Z.aggTag).2
  have s4 := k4.size
  have hs2 := k2.size
  have hs1' := k1.size
  refine s_count (n := 15) (q := 14) (kk := .i64) (m := l.length) (ri := []) (Γ := []) (fun j w' => Keeps [] w w' ∧ w4.heap.size ≤ w'.heap.size ∧ Has w' w.heap.size [.int .i64 nn, sv1, .bool null, lv1, uv1] ∧ Has w' w1.heap.size zeroTree ∧
    ∃ lv xs, Has w' w2.heap.size [.int .i64 nn, sv1, .bool null, lv, .slice none 0 0] ∧ Own w' lv 5 j xs ∧ (∀ b ∈ blkOf lv, w2.heap.size < b) ∧ TreesAt w' (fun b => (A b ∧ b < w.heap.size) ∨ (w2.heap.size < b ∧ b ∉ blkOf lv)) (l.take j) xs) (by omega) rfl
    ⟨k14, Nat.le_refl _, hx4, hr24, _, [], hr4, Own.nil w4 5, (fun b hb => by cases hb), rfl⟩ ?_ ?_
  · rintro j hj w5 vr ⟨k5, hsz5, hx5, hr5, lv, xs, ho5, hown, hblk, htr⟩ hvr J hJ
    obtain rfl : vr = [] := List.eq_nil_of_length_eq_zero hvr
    have hj' : j < l.length := by omega
    obtain ⟨b1, o1, p1, cs1, g1, hh1, hle1, hta1⟩ := trees_elem (hl1.keep k5 (by simp)) (ht1.keep k5 (fun b hb => by cases hb) (fun _ h hlt => (⟨h, hlt⟩ : A _ ∧ _ < w.heap.size))) hj'
    refine s_val (v_indexAddr (b := b1) (o := o1) (l := l.length) (c := p1) (j := j) (kk := .i64) Z.sl hszT g1 rfl (by omega) (by omega)) ?_
    refine s_lok (l_loadN (b := b1) (o := o1 + (j : Int).toNat * 5) Z.agg rfl hh1 (by rw [Int.toNat_natCast]; exact hle1)) ?_
    rw [Int.toNat_natCast]
    generalize hcc : (cs1.drop (o1 + j * 5)).take 5 = cc at hta1
    obtain ⟨zT, hzT, hzTc⟩ := G.zeroT
    refine s_alloc hzT fun w6 hn6 k6 z6 => ?_
    have hcl := hta1.len
    refine s_storeAll (b := w5.heap.size) (cs := cc) (by rw [hcl]; exact Z.agg) rfl rfl hn6 (by rw [hcl]; simpa using hzTc) hta1.ones fun w7 hn7 k7 => ?_
    have hd : Keeps [] w7 { w7 with drawn := w7.drawn + 1 } := keeps_drawn w7 _ _
    show Tr.sem _ _ _ _ _ _ { w7 with drawn := w7.drawn + 1 }
    generalize ({ w7 with drawn := w7.drawn + 1 } : World) = w8 at hd ⊢
    have k58 : Keeps [w5.heap.size] w5 w8 := (k6.mono (by simp)).trans (k7.trans (hd.mono (by simp)))
    have k58' : Keeps [] w5 w8 := k58.less fun x hx => .inr (by simp only [List.mem_singleton] at hx; omega)
    have ho8 := ho5.keep k58' (by simp)
    have hn8 := hn7.keep hd (by simp)
    have s58 := k58.size
    have s05 := k5.size
    have z42 := k34.size
    refine p_fl Y.f3 Y.oneTrees rfl rfl ho8 rfl ?_
    refine l_lok (l_loadN (b := w5.heap.size) (o := 0) Z.agg rfl hn8 (by omega)) ?_
    rw [show (cc.drop 0).take 5 = cc by rw [List.drop_zero, List.take_of_length_le (by omega)]]
    have hta8 := TreeAt.keep k58' (fun b hb => by cases hb) (fun _ h _ => h) _ _ hta1
    refine s_call (xs := [.tmp 23]) (ih l[j] (List.getElem_mem hj') _ _ cc hta8) fun v w9 ⟨⟨cs, hv, htc⟩, k9⟩ => ⟨?_, ?_⟩
    · intro p hp
      simp only [List.mem_singleton] at hp
      subst hp
      exact l_load1 (b := w2.heap.size) (o := 3) Y.oneTrees rfl (ho8.keep k9 (by simp)) rfl
    subst hv
    have hcsl := htc.len
    have ho9 := ho8.keep k9 (by simp)
    have s89 := k9.size
    refine s_oneSlice G.row Y.sl (x := .tmp 24) (cs := cs) rfl hcsl fun w10 hsl k10 z10 => ⟨?_, ?_⟩
    · intro p hp
      simp only [List.mem_singleton] at hp
      subst hp
      exact l_load1 (b := w2.heap.size) (o := 3) Y.oneTrees rfl (ho9.keep k10 (by simp)) rfl
    have hlt5 := hown.lt
    have k510 : Keeps [] w5 w10 := (k58'.trans k9).trans k10
    have hown10 : Own w10 lv 5 j xs := hown.keep k510 (by simp)
    have hbl := hb1.2
    refine s_appendOne (v := lv) (u := .slice (some ⟨w9.heap.size, 0, none⟩) 1 1) G.row Y.sl rfl rfl hown10 hsl htc.ones (by omega) fun lv' w11 hown11 k11 hb11 => ⟨fun p hp => (by cases hp), ?_⟩
    have ho11 : Has w11 w2.heap.size [.int .i64 nn, sv1, .bool null, lv, .slice none 0 0] := (ho9.keep k10 (by simp)).keep k11 fun hb => by have := hblk _ hb; omega
    refine p_fs (v := lv') Y.f3 Y.oneTrees rfl rfl rfl (by simp [opBelow]) hown11.one ho11 (show 0 + 3 < 5 by omega) fun w12 ho12 k12 => ?_
    refine s_val (v_arith (kk := .i64) (a := j) (b := 1) (r := ((j + 1 : Nat) : Int)) rfl rfl ?_) ?_
    · simp only [arithOf, Option.some.injEq]; rw [IntKind.wrap_i64]; omega
    have k512 : Keeps [] w w12 := ((k5.mono (by simp)).trans ((k510.mono (by simp)).trans ((k11.mono fun x hx => List.mem_append_left _ hx).trans (k12.mono fun x hx => List.mem_append_right _ hx))) : Keeps (blkOf lv ++ [w2.heap.size]) w w12).less fun x hx => .inr (by
      rcases List.mem_append.1 hx with h | h
      · have := hblk _ h; omega
      · simp only [List.mem_singleton] at h; omega)
    have s10 := k10.size
    have s11 := k11.size
    have s12 := k12.size
    have s510 := k510.size
    have old : ∀ {cs' : List Value} {b : Nat}, Has w5 b cs' → b < w2.heap.size → Has w12 b cs' := fun h hb => ((h.keep k510 (by simp)).keep k11 fun hq => by have := hblk _ hq; omega).keep k12 (by simp; omega)
    refine ⟨J, rfl, hJ [] _ rfl ⟨k512, by omega, old hx5 (by omega), old hr5 (by omega), lv', xs ++ cs, ho12, hown11.keep k12 (fun b hb => ?_), fun b hb => ?_, ?_⟩⟩
    · simp only [List.mem_singleton]
      rcases hb11 b hb with h | h
      · have := hblk _ h; omega
      · omega
    · rcases hb11 b hb with h | h
      · exact hblk _ h
      · omega
    · have hlt10 := hown10.lt
      rw [List.take_succ_eq_append_getElem hj']
      refine TreesAt.snoc ?_ ?_
      · have t10 := TreeAt.keep (A' := fun b => ((A b ∧ b < w.heap.size) ∨ w8.heap.size ≤ b) ∧ b < w9.heap.size) k10 (fun b hb => by cases hb) (fun b h hlt => ⟨h, hlt⟩) _ _ htc
        have t11 := TreeAt.keep k11 (fun b hb h => by
          have := hblk b hb
          have := hlt5 b hb
          rcases h.1 with h' | h'
          · have := h'.2; omega
          · omega) (fun _ h _ => h) _ _ t10
        exact TreeAt.keep k12 (fun b hb h => by
          simp only [List.mem_singleton] at hb
          rcases h.1 with h' | h'
          · have := h'.2; omega
          · omega) (fun b h _ => by
          rcases h.1 with h' | h'
          · exact .inl h'
          · refine .inr ⟨by omega, fun hb => ?_⟩
            rcases hb11 b hb with h5 | h5
            · have := hlt5 b h5; omega
            · omega) _ _ t11
      · have t10 := TreesAt.keep (A' := fun b => ((A b ∧ b < w.heap.size) ∨ (w2.heap.size < b ∧ b ∉ blkOf lv)) ∧ b < w5.heap.size) k510 (fun b hb => by cases hb) (fun b h hlt => ⟨h, hlt⟩) _ _ htr
        have t11 := TreesAt.keep k11 (fun b hb h => by
          have := hblk b hb
          rcases h.1 with h' | h'
          · have := h'.2; omega
          · exact h'.2 hb) (fun _ h _ => h) _ _ t10
        exact TreesAt.keep k12 (fun b hb h => by
          simp only [List.mem_singleton] at hb
          rcases h.1 with h' | h'
          · have := h'.2; omega
          · have := h'.1; omega) (fun b h _ => by
          rcases h.1 with h' | h'
          · exact .inl h'
          · refine .inr ⟨h'.1, fun hb => ?_⟩
            rcases hb11 b hb with h5 | h5
            · exact h'.2 h5
            · omega) _ _ t11
  · rintro w5 vr J ⟨k5, hsz5, hx5, hr5, lv, xs, ho5, hown, hblk, htr⟩ hvr
    obtain rfl : vr = [] := List.eq_nil_of_length_eq_zero hvr
    rw [Int.toNat_natCast, List.take_length] at htr
    rw [Int.toNat_natCast] at hown
    have hu5 := hu1
    obtain ⟨ucs1, hur1, hub1, _⟩ := hu5
    obtain ⟨a3, q3, e3, _⟩ := hur1.form
    refine s_fl Z.f4 Z.oneTagL rfl rfl hx5 rfl (s_val (v_len (a := a3) (l := u.length) (c := q3) Z.slTag e3) ?_)
    have hltv := hown.lt
    refine s_count (n := 20) (q := 19) (kk := .i64) (m := u.length) (ri := []) (Γ := [J]) (fun j w' => Keeps [] w w' ∧ w5.heap.size ≤ w'.heap.size ∧ Has w' w1.heap.size zeroTree ∧ Own w' lv 5 l.length xs ∧ TreesAt w' (fun b => ((A b ∧ b < w.heap.size) ∨ w2.heap.size < b) ∧ b < w5.heap.size) l xs ∧
      ∃ uv ucs, Has w' w2.heap.size [.int .i64 nn, sv1, .bool null, lv, uv] ∧ Own w' uv 2 j ucs ∧ (∀ b ∈ blkOf uv, w5.heap.size ≤ b) ∧ TagRows w' (fun b => A b ∧ b < w.heap.size) (u.take j) ucs) (by omega) rfl
      ⟨k5, Nat.le_refl _, hr5, hown, htr.mono (fun b h hlt => ?_), _, [], ho5, Own.nil w5 2, (fun b hb => by cases hb), rfl⟩ ?_ ?_
    · rcases h with h | h
      · exact ⟨.inl h, hlt⟩
      · exact ⟨.inr h.1, hlt⟩
    · rintro j hj w6 vr ⟨k6, hsz6, hr6, hown6, htr6, uv, ucs, ho6, hownu, hblku, hrows⟩ hvr J2 hJ2
      obtain rfl : vr = [] := List.eq_nil_of_length_eq_zero hvr
      have hj' : j < u.length := by omega
      obtain ⟨b1, o1, p1, cs1, vv, g1, hh1, hka, hva, hoc⟩ := tags_elem (hu1.keep (A' := fun b => A b ∧ b < w.heap.size) k6 (fun b hb => by cases hb) (fun _ h hlt => ⟨h, hlt⟩)) hj'
      refine s_val (v_indexAddr (b := b1) (o := o1) (l := u.length) (c := p1) (j := j) (kk := .i64) Z.slTag hszG g1 rfl (by omega) (by omega)) ?_
      rw [Int.toNat_natCast]
      have hle : o1 + j * 2 + 2 ≤ cs1.length := by
        have := (List.getElem?_eq_some_iff.1 hva).1
        omega
      refine s_lok (l_loadN (b := b1) (o := o1 + j * 2) Z.aggTag rfl hh1 hle) ?_
      have hcell : (cs1.drop (o1 + j * 2)).take 2 = [.int .u32 u[j].1, vv] := by
        apply List.ext_getElem?
        intro i
        match i with
        | 0 => rw [List.getElem?_take, if_pos (by omega), List.getElem?_drop]; exact hka
        | 1 => rw [List.getElem?_take, if_pos (by omega), List.getElem?_drop]; exact hva
        | i + 2 => rw [List.getElem?_eq_none (by simp; omega), List.getElem?_eq_none (by simp)]
      rw [hcell]
      obtain ⟨zT, hzT, hzTc⟩ := G.zeroTag
      refine s_alloc hzT fun w7 hn7 k7 z7 => ?_
      have hv1 := hoc.one
      refine s_storeAll (b := w6.heap.size) (cs := [.int .u32 u[j].1, vv]) Z.aggTag rfl rfl hn7 (by simpa using hzTc) (fun q hq => by
        simp only [List.mem_cons, List.not_mem_nil, or_false] at hq
        rcases hq with rfl | rfl
        · rfl
        · exact hv1) fun w8 hn8 k8 => ?_
      have k68 : Keeps [] w6 w8 := ((k7.mono (by simp)).trans k8).less fun x hx => .inr (by simp only [List.mem_singleton] at hx; omega)
      have ho8 := ho6.keep k68 (by simp)
      refine s_fl Y.f4 Y.oneTagL rfl rfl ho8 rfl (s_fl Z.g0 Z.oneU32 rfl rfl hn8 rfl (s_fl Z.g1 F.oneBytes rfl rfl hn8 rfl ?_))
      obtain ⟨zt, hplan, hztl⟩ := G.planTag
      obtain ⟨z1, z2, rfl⟩ : ∃ a b, zt = [a, b] := by
        match zt, hztl with
        | [a, b], _ => exact ⟨a, b, rfl⟩
      refine s_val (v_build (cells := [.int .u32 u[j].1, vv]) hplan (fun p hp => by
        simp only [List.mem_cons, List.not_mem_nil, or_false] at hp
        rcases hp with rfl | rfl
        · rfl
        · exact hv1) rfl) ?_
      refine s_oneSlice G.rowTag Y.slTag (x := .tmp 32) (cs := [.int .u32 u[j].1, vv]) rfl rfl fun w9 hsl k9 z9 => ⟨fun p hp => (by cases hp), ?_⟩
      have k69 : Keeps [] w6 w9 := k68.trans k9
      have hown9 := hownu.keep k69 (by simp)
      have hltu := hownu.lt
      have hub := hub1.2
      refine s_appendOne (v := uv) (u := .slice (some ⟨w8.heap.size, 0, none⟩) 1 1) G.rowTag Y.slTag rfl rfl hown9 hsl (fun q hq => by
        simp only [List.mem_cons, List.not_mem_nil, or_false] at hq
        rcases hq with rfl | rfl
        · rfl
        · exact hv1) (by omega) fun uv' w10 hown10 k10 hb10 => ⟨fun p hp => (by cases hp), ?_⟩
      have s34 := k34.size
      have s05 := k5.size
      have ho10 : Has w10 w2.heap.size [.int .i64 nn, sv1, .bool null, lv, uv] := (ho6.keep k69 (by simp)).keep k10 fun hb => by have := hblku _ hb; omega
      refine s_fs (v := uv') Y.f4 Y.oneTagL rfl rfl rfl (by simp [opBelow]) hown10.one ho10 (show 0 + 4 < 5 by omega) fun w11 ho11 k11 => ?_
      refine s_val (v_arith (kk := .i64) (a := j) (b := 1) (r := ((j + 1 : Nat) : Int)) rfl rfl ?_) ?_
      · simp only [arithOf, Option.some.injEq]; rw [IntKind.wrap_i64]; omega
      have k611 : Keeps [] w w11 := ((k6.mono (by simp)).trans ((k69.mono (by simp)).trans ((k10.mono fun x hx => List.mem_append_left _ hx).trans (k11.mono fun x hx => List.mem_append_right _ hx))) : Keeps (blkOf uv ++ [w2.heap.size]) w w11).less fun x hx => .inr (by
        rcases List.mem_append.1 hx with h | h
        · have := hblku _ h; omega
        · simp only [List.mem_singleton] at h; omega)
      have s69 := k69.size
      have s10 := k10.size
      have s11 := k11.size
      refine ⟨J2, rfl, hJ2 [] _ rfl ⟨k611, by omega, ((hr6.keep k69 (by simp)).keep k10 fun hb => by have := hblku _ hb; omega).keep k11 (by simp; omega), ((hown6.keep k69 (by simp)).keep k10 fun b hb hb' => ?_).keep k11 fun b hb => ?_, ?_, uv', ucs ++ [.int .u32 u[j].1, vv], ho11, hown10.keep k11 fun b hb => ?_, fun b hb => ?_, ?_⟩⟩
      · have := hblku _ hb'; have := hltv b hb; omega
      · simp only [List.mem_singleton]; have := hblk b hb; omega
      · have t9 := TreesAt.keep k69 (fun b hb => by cases hb) (fun _ h _ => h) _ _ htr6
        have t10 := TreesAt.keep k10 (fun b hb h => by have := hblku b hb; have := h.2; omega) (fun _ h _ => h) _ _ t9
        exact TreesAt.keep k11 (fun b hb h => by
          simp only [List.mem_singleton] at hb
          rcases h.1 with h' | h'
          · have := h'.2; omega
          · omega) (fun _ h _ => h) _ _ t10
      · simp only [List.mem_singleton]
        rcases hb10 b hb with h | h
        · have := hblku b h; omega
        · omega
      · rcases hb10 b hb with h | h
        · exact hblku b h
        · omega
      · rw [List.take_succ_eq_append_getElem hj']
        have o9 := hoc.keep k69 (fun b hb => by cases hb) (fun _ h _ => h)
        have o10 := o9.keep k10 (fun b hb h => by have := hblku b hb; have := h.2; omega) (fun _ h _ => h)
        have o11 := o10.keep k11 (fun b hb h => by simp only [List.mem_singleton] at hb; have := h.2; omega) (fun _ h _ => h)
        have t9 := TagRows.keep k69 (fun b hb => by cases hb) (fun _ h _ => h) _ _ hrows
        have t10 := TagRows.keep k10 (fun b hb h => by have := hblku b hb; have := h.2; omega) (fun _ h _ => h) _ _ t9
        exact TagRows.snoc o11 (TagRows.keep k11 (fun b hb h => by simp only [List.mem_singleton] at hb; have := h.2; omega) (fun _ h _ => h) _ _ t10)
    · rintro w6 vr J2 ⟨k6, hsz6, hr6, hown6, htr6, uv, ucs, ho6, hownu, hblku, hrows⟩ hvr
      obtain rfl : vr = [] := List.eq_nil_of_length_eq_zero hvr
      rw [Int.toNat_natCast, List.take_length] at hrows
      rw [Int.toNat_natCast] at hownu
      have s34 := k34.size
      have s05 := k5.size
      refine s_lok (l_loadN (b := w2.heap.size) (o := 0) Y.agg rfl ho6 (show 0 + 5 ≤ 5 by omega)) ?_
      have hones : ∀ q ∈ [Value.int .i64 nn, sv1, .bool null, lv, uv], q.oneCell' = true := fun q hq => by
        simp only [List.mem_cons, List.not_mem_nil, or_false] at hq
        rcases hq with rfl | rfl | rfl | rfl | rfl
        · rfl
        · exact hs1.one
        · rfl
        · exact hown6.one
        · exact hownu.one
      refine s_storeAll (b := w1.heap.size) (cs := [.int .i64 nn, sv1, .bool null, lv, uv]) Y.agg rfl rfl hr6 rfl hones fun w7 hn7 k7 => ?_
      have k67 : Keeps [] w w7 := ((k6.mono (by simp)).trans k7).less fun x hx => .inr (by simp only [List.mem_singleton] at hx; omega)
      refine s_retAgg (b := w1.heap.size) rfl hn7 Y.agg ⟨⟨_, rfl, sv1, lv, uv, xs, rfl, hs1.keep k67 (fun b hb => by cases hb) (fun _ h _ => .inl h), ?_, ⟨?_, hb1.2⟩, ?_, ucs, ?_, ⟨?_, hub1.2⟩, ?_⟩, k67⟩
      · exact (hown6.keep k7 fun b hb => by simp only [List.mem_singleton]; have := hblk b hb; omega).reads
      · intro b hb
        have := hblk b hb
        exact .inr (by omega)
      · exact TreesAt.keep k7 (fun b hb h => by
          simp only [List.mem_singleton] at hb
          rcases h.1 with h' | h'
          · have := h'.2; omega
          · omega) (fun b h _ => by
          rcases h.1 with h' | h'
          · exact .inl h'.1
          · exact .inr (by omega)) _ _ htr6
      · exact (hownu.keep k7 fun b hb => by simp only [List.mem_singleton]; have := hblku b hb; omega).reads
      · intro b hb
        have := hblku b hb
        exact .inr (by omega)
      · exact TagRows.keep k7 (fun b hb h => by simp only [List.mem_singleton] at hb; have := h.2; omega) (fun _ h _ => .inl h.1) _ _ hrows

mutual
theorem got_gives {f : Nat} (F : RdFacts P c) (Y : TyFacts P c c.sTree c.sTrees c.sTagL c.sTag) (Z : TyFacts P c c.tTree c.tTrees c.tTagL c.tTag) (G : GotFacts P c) (hT : treeIn P f noOrc [.tmp 0] 1 = tGot c f) : ∀ x : PT, GotOf P f x
  | .mk _ _ _ l _ => got_step F Y Z G hT (gots_give F Y Z G hT l)
theorem gots_give {f : Nat} (F : RdFacts P c) (Y : TyFacts P c c.sTree c.sTrees c.sTagL c.sTag) (Z : TyFacts P c c.tTree c.tTrees c.tTagL c.tTag) (G : GotFacts P c) (hT : treeIn P f noOrc [.tmp 0] 1 = tGot c f) : ∀ l : List PT, ∀ t ∈ l, GotOf P f t
  | [], _, h => by cases h
  | x :: l, t, h => by
    rcases List.mem_cons.1 h with e | h
    · rw [e]
      exact got_gives F Y Z G hT x
    · exact gots_give F Y Z G hT l t h
end

end

end Go.Kf

namespace Go.Kf

open Go

/-- How an element of a list is told. -/
inductive TEl where
  | sub (f : Nat)
  | text
  | num (ty : Nat)

inductive TStep where
  | num (i ty q : Nat)
  | num64 (i q : Nat)
  | call (f i ty q : Nat)
  | text (i q : Nat)
  | uuid (i q : Nat)
  | list (i tySl q : Nat) (el : TEl)
  | tags (i g fEach fSorted : Nat)
  | part (f i q : Nat)

def nilV : Operand := .const (.slice none 0 0)

def qV (q : Nat) : Operand := .const (.int .i64 q)

def zeroV : Operand := .const (.agg ⟨zeroTree⟩)

/-- t.L, drawn. -/
def gTL (c : Nums) (n : Nat) (k : Tr) : Tr := .draw <| .pur (.fieldAddr c.tTree (.tmp 4) 3) none <| .lok (.load c.tTrees (.tmp n)) none k

/-- v.X, drawn. -/
def gVX (S i ty n : Nat) (k : Tr) : Tr := .pur (.nilCheck (.tmp 0)) none <| .pur (.fieldAddr S (.tmp n) i) none <| .lok (.load ty (.tmp (n + 1))) none k

/-- t.L[q] = x -/
def gTSet (c : Nums) (L : Nat) (q : Nat) (x : Operand) (n : Nat) (k : Tr) : Tr := .pur (.indexAddr c.tTrees (.tmp L) (qV q)) none <| .op (.store c.tTree (.tmp n) x) none [] k

/-- The making of an element, of what is to be told at id x (an address), and what is owed meanwhile; it yields an operand. -/
def gElOp (c : Nums) (el : TEl) (x : Nat) (Fo : List (Op × Nat)) (n : Nat) (k : Operand → Nat → Tr) : Tr := match el with
  | .sub f => .op (callOp f [.tmp x]) none Fo (k (.tmp n) (n + 1))
  | .text => .op (.convert c.tStr c.tBytes (.tmp x)) none Fo <| .pur (.build c.tTree ⟨[(1, .tmp n)]⟩) none (k (.tmp (n + 1)) (n + 2))
  | .num ty => .op (.convert ty c.tI64 (.tmp x)) none Fo <| .pur (.build c.tTree ⟨[(0, .tmp n)]⟩) none (k (.tmp (n + 1)) (n + 2))

/-- An element's address, or what lies there. -/
def gElAt (c : Nums) (el : TEl) (n : Nat) (k : Nat → Nat → List (Op × Nat) → Tr) : Tr := match el with
  | .sub _ => k (n - 1) n []
  | .text => .lok (.load c.tStr (.tmp (n - 1))) none (k n (n + 1) [(.load c.tStr (.tmp (n - 1)), n)])
  | .num ty => .lok (.load ty (.tmp (n - 1))) none (k n (n + 1) [(.load ty (.tmp (n - 1)), n)])

def gListA (c : Nums) (S i tySl q j d m : Nat) (el : TEl) : Tr :=
  gTL c m <| .pur (.indexAddr c.tTrees (.tmp (m + 1)) (qV q)) none <| .pur (.fieldAddr c.tTree (.tmp (m + 2)) 3) none <| .lok (.load c.tTrees (.tmp (m + 3))) none <| gVX S i tySl (m + 5) <| .pur (.indexAddr tySl (.tmp (m + 7)) (.tmp j)) none <|
  gElAt c el (m + 9) fun x n Fe =>
    let Fo := [(.load tySl (.tmp (m + 6)), m + 7), (.load c.tTrees (.tmp (m + 3)), m + 4), (.load c.tTrees (.tmp m), m + 1)]
    let last (e z : Operand) (n : Nat) : Tr := .op (.call { callee := .builtin .append, args := ⟨[.tmp (m + 4), z]⟩, argTypes := ⟨[c.tTrees, c.tTrees]⟩ }) none [] <|
      .pur (.indexAddr c.tTrees (.tmp (m + 1)) (qV q)) none <| .pur (.fieldAddr c.tTree (.tmp (n + 1)) 3) none <| .op (.store c.tTrees (.tmp (n + 2)) (.tmp n)) none [] <|
      .op (.indexAddr c.tTrees (.tmp n) (.tmp (x + 1))) none [] <| .op (.store c.tTree (.tmp (n + 4)) e) none [] <| .op (.binOp .add c.tInt (.tmp j) (.const (.int .i64 1)) c.tInt) none [] <| .to d [.tmp (n + 6)]
    .pur (.call { callee := .builtin .len, args := ⟨[.tmp (m + 4)]⟩, argTypes := ⟨[c.tTrees]⟩ }) none <|
    .both (gElOp c el x Fo (n + 1) fun e n' => .op (.buildSlice c.tTrees 1 ⟨[(0, zeroV)]⟩) none Fo <| last e (.tmp n') (n' + 1))
      (.op (.buildSlice c.tTrees 1 ⟨[(0, zeroV)]⟩) none (Fe ++ Fo) <| gElOp c el x Fo (n + 2) fun e n' => last e (.tmp (n + 1)) n')

def gListB (c : Nums) (S i tySl q j d m : Nat) (el : TEl) : Tr :=
  gTL c m <| .pur (.fieldAddr c.tTree (.tmp 4) 3) none <| .lok (.load c.tTrees (.tmp (m + 2))) none <| .pur (.indexAddr c.tTrees (.tmp (m + 3)) (qV q)) none <| .pur (.fieldAddr c.tTree (.tmp (m + 4)) 3) none <| .lok (.load c.tTrees (.tmp (m + 5))) none <|
  gVX S i tySl (m + 7) <| .pur (.indexAddr tySl (.tmp (m + 9)) (.tmp j)) none <|
  gElAt c el (m + 11) fun x n _ =>
    let Fo := [(.load tySl (.tmp (m + 8)), m + 9), (.load c.tTrees (.tmp (m + 5)), m + 6), (.load c.tTrees (.tmp (m + 2)), m + 3), (.load c.tTrees (.tmp m), m + 1)]
    let F3 := [(.load tySl (.tmp (m + 8)), m + 9), (.load c.tTrees (.tmp (m + 2)), m + 3), (.load c.tTrees (.tmp m), m + 1)]
    gElOp c el x Fo n fun e n' => .op (.buildSlice c.tTrees 1 ⟨[(0, e)]⟩) none Fo <| .op (.call { callee := .builtin .append, args := ⟨[.tmp (m + 6), .tmp n']⟩, argTypes := ⟨[c.tTrees, c.tTrees]⟩ }) none F3 <|
      .pur (.indexAddr c.tTrees (.tmp (m + 1)) (qV q)) none <| .pur (.fieldAddr c.tTree (.tmp (n' + 2)) 3) none <| .op (.store c.tTrees (.tmp (n' + 3)) (.tmp (n' + 1))) none [] <|
      .op (.binOp .add c.tInt (.tmp j) (.const (.int .i64 1)) c.tInt) none [] <| .to d [.tmp (n' + 5)]

def gTStep (c : Nums) (S : Nat) : TStep → Nat → Nat → (Nat → Nat → Tr) → Tr
  | .num i ty q, n, d, k => gTL c n <| gVX S i ty (n + 2) <| .op (.convert ty c.tI64 (.tmp (n + 4))) none [(.load c.tTrees (.tmp n), n + 1)] <| .pur (.build c.tTree ⟨[(0, .tmp (n + 5))]⟩) none <| gTSet c (n + 1) q (.tmp (n + 6)) (n + 7) (k (n + 9) d)
  | .num64 i q, n, d, k => gTL c n <| gVX S i c.tI64 (n + 2) <| .pur (.build c.tTree ⟨[(0, .tmp (n + 4))]⟩) none <| gTSet c (n + 1) q (.tmp (n + 5)) (n + 6) (k (n + 8) d)
  | .call f i ty q, n, d, k => gTL c n <| gVX S i ty (n + 2) <| .op (callOp f [.tmp (n + 4)]) none [(.load c.tTrees (.tmp n), n + 1)] <| gTSet c (n + 1) q (.tmp (n + 5)) (n + 6) (k (n + 8) d)
  | .text i q, n, d, k => gTL c n <| gVX S i c.tStr (n + 2) <| .op (.convert c.tStr c.tBytes (.tmp (n + 4))) none [(.load c.tTrees (.tmp n), n + 1)] <| .pur (.build c.tTree ⟨[(1, .tmp (n + 5))]⟩) none <| gTSet c (n + 1) q (.tmp (n + 6)) (n + 7) (k (n + 9) d)
  | .uuid i q, n, d, k => gTL c n <| .pur (.nilCheck (.tmp 0)) none <| .pur (.fieldAddr S (.tmp (n + 2)) i) none <| .pur (.slice c.tUuid (.tmp (n + 3)) none none none) none <|
    .op (.call { callee := .builtin .append, args := ⟨[nilV, .tmp (n + 4)]⟩, argTypes := ⟨[c.tBytes, c.tBytes]⟩ }) none [(.load c.tTrees (.tmp n), n + 1)] <| .pur (.build c.tTree ⟨[(1, .tmp (n + 5))]⟩) none <| gTSet c (n + 1) q (.tmp (n + 6)) (n + 7) (k (n + 9) d)
  | .list i tySl q el, n, d, k => gTL c n <| gVX S i tySl (n + 2) <| .pur (.binOp .eql tySl (.tmp (n + 4)) nilV tySl) none <| .pur (.indexAddr c.tTrees (.tmp (n + 1)) (qV q)) none <| .pur (.fieldAddr c.tTree (.tmp (n + 6)) 2) none <| .op (.store c.tBool (.tmp (n + 7)) (.tmp (n + 5))) none [] <|
    gGet (.tmp 0) S i tySl (n + 9) <| .op (.call { callee := .builtin .len, args := ⟨[.tmp (n + 11)]⟩, argTypes := ⟨[tySl]⟩ }) none [] <|
    .loop d [.const (.int .i64 0)] <| .op (.binOp .lss c.tInt (.tmp (n + 13)) (.tmp (n + 12)) c.tInt) none [] <|
    .cond (.tmp (n + 14)) (.coin c.tBool (gListA c S i tySl q (n + 13) d (n + 15) el) (gListB c S i tySl q (n + 13) d (n + 15) el)) (k (n + 15) (d + 1))
  | .tags i g fEach fSorted, n, d, k => .op (.nilCheck (.tmp 0)) none [] <| .op (.fieldAddr S (.tmp n) i) none [] <| .op (.makeFunc (.func g) ⟨[]⟩ ⟨[.tmp 4]⟩) none [] <| .op (callOp fEach [.tmp (n + 1), .tmp (n + 2)]) none [] <|
    .op (.fieldAddr c.tTree (.tmp 4) 4) none [] <| .op (.load c.tTagL (.tmp (n + 4))) none [] <| .op (callOp fSorted [.tmp (n + 5)]) none [] (k (n + 7) d)

  | .part f i q, n, d, k => gTL c n <| .pur (.nilCheck (.tmp 0)) none <| .pur (.fieldAddr S (.tmp (n + 2)) i) none <| .op (callOp f [.tmp (n + 3)]) none [(.load c.tTrees (.tmp n), n + 1)] <| gTSet c (n + 1) q (.tmp (n + 4)) (n + 5) (k (n + 7) d)

def gTSteps (c : Nums) (S : Nat) : List TStep → Nat → Nat → (Nat → Nat → Tr) → Tr
  | [], n, d, k => k n d
  | s :: ss, n, d, k => gTStep c S s n d fun n' d' => gTSteps c S ss n' d' k

/-- tell..: a struct's tree of N things. -/
def gTell (c : Nums) (S N : Nat) (ss : List TStep) : Tr :=
  .op (.alloc c.tTree) none [] <| .op (.makeSlice c.tTrees (.const (.int .i64 N)) (.const (.int .i64 N))) none [] <| .op (.build c.tTree ⟨[(3, .tmp 2)]⟩) none [] <| .op (.alloc c.tTree) none [] <| .op (.store c.tTree (.tmp 4) (.tmp 3)) none [] <|
  gTSteps c S ss 6 0 fun n _ => .op (.load c.tTree (.tmp 4)) none [] <| .op (.store c.tTree (.tmp 1) (.tmp n)) none [] <| .ret [(.tmp 1, some c.tTree)]

end Go.Kf

namespace Go.Kf

open Go

inductive Ty where
  | num (k : IntKind)
  | bool
  | uuid
  | text
  | ntext
  | octs
  | tags
  | list (ts : List Ty)
  | ptr (ts : List Ty)
  | sub (ts : List Ty)

mutual
def Ty.beq : Ty → Ty → Bool
  | .num k, .num k' => decide (k = k')
  | .bool, .bool => true
  | .uuid, .uuid => true
  | .text, .text => true
  | .ntext, .ntext => true
  | .octs, .octs => true
  | .tags, .tags => true
  | .list a, .list b => beqTys a b
  | .ptr a, .ptr b => beqTys a b
  | .sub a, .sub b => beqTys a b
  | _, _ => false
def beqTys : List Ty → List Ty → Bool
  | [], [] => true
  | a :: l, b :: r => a.beq b && beqTys l r
  | _, _ => false
end

mutual
theorem Ty.beq_eq : ∀ (a b : Ty), a.beq b = true → a = b
  | .num k, b, h => by cases b <;> simp [Ty.beq] at h; rw [h]
  | .bool, b, h => by cases b <;> simp [Ty.beq] at h; rfl
  | .uuid, b, h => by cases b <;> simp [Ty.beq] at h; rfl
  | .text, b, h => by cases b <;> simp [Ty.beq] at h; rfl
  | .ntext, b, h => by cases b <;> simp [Ty.beq] at h; rfl
  | .octs, b, h => by cases b <;> simp [Ty.beq] at h; rfl
  | .tags, b, h => by cases b <;> simp [Ty.beq] at h; rfl
  | .list a, b, h => by
    cases b <;> simp only [Ty.beq, Bool.false_eq_true] at h
    rw [beqTys_eq _ _ h]
  | .ptr a, b, h => by
    cases b <;> simp only [Ty.beq, Bool.false_eq_true] at h
    rw [beqTys_eq _ _ h]
  | .sub a, b, h => by
    cases b <;> simp only [Ty.beq, Bool.false_eq_true] at h
    rw [beqTys_eq _ _ h]
theorem beqTys_eq : ∀ (a b : List Ty), beqTys a b = true → a = b
  | [], b, h => by cases b <;> simp [beqTys] at h; rfl
  | x :: xs, b, h => by
    cases b with
    | nil => simp [beqTys] at h
    | cons y ys =>
      simp only [beqTys, Bool.and_eq_true] at h
      rw [Ty.beq_eq x y h.1, beqTys_eq xs ys h.2]
end

/-- How long texts, octets and lists may be. -/
def big : Nat := 1073741825

mutual
def okF : FV → Ty → Prop
  | .one v, t => match t with
    | .num k => ∃ x, v = .int k x ∧ k.wrap x = x
    | .bool => ∃ b, v = .bool b
    | _ => False
  | .uuid l, t => t = .uuid ∧ l.length = 16
  | .text l, t => t = .text ∧ l.length ≤ big
  | .ntext o, t => t = .ntext ∧ ∀ l, o = some l → l.length ≤ big
  | .octs _ l, t => t = .octs ∧ l.length ≤ big
  | .tags m, t => t = .tags ∧ m.length ≤ big ∧ ∀ p ∈ m, p.2.length ≤ big
  | .list _ rows, t => match t with
    | .list ts => rows.length ≤ big ∧ okRows rows ts
    | _ => False
  | .ptr none, t => match t with
    | .ptr _ => True
    | _ => False
  | .ptr (some fs), t => match t with
    | .ptr ts => okFs fs ts
    | _ => False
  | .sub fs, t => match t with
    | .sub ts => okFs fs ts
    | _ => False
def okFs : List FV → List Ty → Prop
  | [], ts => ts = []
  | f :: fs, ts => match ts with
    | t :: ts => okF f t ∧ okFs fs ts
    | [] => False
def okRows : List (List FV) → List Ty → Prop
  | [], _ => True
  | r :: rs, ts => okFs r ts ∧ okRows rs ts
end

theorem okFs_get : ∀ {fs : List FV} {ts : List Ty} {i : Nat} {t : Ty}, okFs fs ts → ts[i]? = some t → ∃ f, fs[i]? = some f ∧ okF f t
  | [], ts, i, t, h, hi => by simp only [okFs] at h; subst h; simp at hi
  | f :: fs, [], _, _, h, _ => by simp only [okFs] at h
  | f :: fs, t0 :: ts, 0, t, h, hi => by
    simp only [okFs] at h
    simp only [List.getElem?_cons_zero, Option.some.injEq] at hi
    subst hi
    exact ⟨f, rfl, h.1⟩
  | f :: fs, t0 :: ts, i + 1, t, h, hi => by
    simp only [okFs] at h
    simp only [List.getElem?_cons_succ] at hi ⊢
    exact okFs_get h.2 hi

theorem okFs_set : ∀ {fs : List FV} {ts : List Ty} {i : Nat} {t : Ty} {f' : FV}, okFs fs ts → ts[i]? = some t → okF f' t → okFs (fs.set i f') ts
  | [], ts, i, t, _, h, hi, _ => by simp only [okFs] at h; subst h; simp at hi
  | f :: fs, [], _, _, _, h, _, _ => by simp only [okFs] at h
  | f :: fs, t0 :: ts, 0, t, f', h, hi, hf => by
    simp only [okFs] at h
    simp only [List.getElem?_cons_zero, Option.some.injEq] at hi
    subst hi
    exact ⟨hf, h.2⟩
  | f :: fs, t0 :: ts, i + 1, t, f', h, hi, hf => by
    simp only [okFs] at h
    simp only [List.getElem?_cons_succ] at hi
    exact ⟨h.1, okFs_set h.2 hi hf⟩

theorem okRows_all : ∀ {rs : List (List FV)} {ts : List Ty}, (∀ r ∈ rs, okFs r ts) → okRows rs ts
  | [], _, _ => trivial
  | r :: _, _, h => ⟨h r List.mem_cons_self, okRows_all fun x hx => h x (List.mem_cons_of_mem _ hx)⟩

theorem okRows_mem : ∀ {rs : List (List FV)} {ts : List Ty}, okRows rs ts → ∀ r ∈ rs, okFs r ts
  | [], _, _, _, h => by cases h
  | _ :: _, _, h, x, hx => by
    rcases List.mem_cons.1 hx with e | hx
    · rw [e]; exact h.1
    · exact okRows_mem h.2 x hx

theorem wrap_wrap (k : IntKind) (x : Int) : k.wrap (k.wrap x) = k.wrap x := by
  cases k <;> simp only [IntKind.wrap, IntKind.bits, IntKind.signed] <;> simp <;> (try split) <;> (try split) <;> omega

def PK.ty : PK → Ty
  | .num _ k => .num k
  | .bool => .bool
  | .str => .text
  | .cstr => .text
  | .nstr => .ntext
  | .cnstr => .ntext
  | .bytes => .octs
  | .cbytes => .octs
  | .nbytes => .octs
  | .cnbytes => .octs
  | .uuid => .uuid
  | .tags => .tags

theorem rSpan_short (m : Int) (r : Rd) : (rSpan m r).1.1.length ≤ r.l.length := by
  unfold rSpan
  split
  · simp
  · simp only [List.length_take]; omega

theorem tmSet_len : ∀ (m : TM) (k : Nat) (l : List UInt8), (tmSet m k l).length ≤ m.length + 1 ∧ (k ∈ m.map (·.1) → (tmSet m k l).length = m.length) ∧ k ∈ (tmSet m k l).map (·.1) ∧ (∀ x ∈ m.map (·.1), x ∈ (tmSet m k l).map (·.1))
  | [], k, l => by simp [tmSet]
  | p :: m, k, l => by
    obtain ⟨h1, h2, h3, h4⟩ := tmSet_len m k l
    by_cases hp : p.1 = k
    · simp [tmSet, hp]
    · simp only [tmSet, if_neg hp, List.length_cons, List.map_cons, List.mem_cons]
      refine ⟨by omega, fun h => ?_, .inr h3, fun x hx => hx.imp id (h4 x)⟩
      rcases h with h | h
      · exact absurd h.symm hp
      · rw [h2 h]

theorem rUv_or (r : Rd) : ((rUv r).1 = 0 ∧ (rUv r).2.l = []) ∨ (rUv r).2.l.length + 1 ≤ r.l.length := by
  unfold rUv
  split
  · exact .inl ⟨rfl, rfl⟩
  · rename_i h
    right
    have hle := uvarAt_le r.l 0 0 (by omega)
    have : (uvar r.l).2 ≤ (0 + r.l.length : Nat) := hle
    simp only [List.length_drop]
    omega

theorem rTagsN_size : ∀ (n : Nat) (m : TM) (r : Rd), (rTagsN n m r).1.length ≤ m.length + r.l.length + 1 ∧ (0 ∈ m.map (·.1) → (rTagsN n m r).1.length ≤ m.length + r.l.length)
  | 0, m, r => ⟨by simp only [rTagsN]; omega, fun _ => by simp only [rTagsN]; omega⟩
  | n + 1, m, r => by
    have key := fun m' r' => rTagsN_size n m' r'
    have hs := tmSet_len m (rUv r).1 (rSpan (rUv (rUv r).2).1 (rUv (rUv r).2).2).1.1
    have hl : (rSpan (rUv (rUv r).2).1 (rUv (rUv r).2).2).2.l.length ≤ (rUv r).2.l.length := Nat.le_trans (rSpan_len _ _) (rUv_len _)
    obtain ⟨k1, k2⟩ := key (tmSet m (rUv r).1 (rSpan (rUv (rUv r).2).1 (rUv (rUv r).2).2).1.1) (rSpan (rUv (rUv r).2).1 (rUv (rUv r).2).2).2
    simp only [rTagsN]
    rcases rUv_or r with ⟨h0, hn⟩ | hlt
    · rw [hn, List.length_nil] at hl
      have h00 : 0 ∈ (tmSet m (rUv r).1 (rSpan (rUv (rUv r).2).1 (rUv (rUv r).2).2).1.1).map (·.1) := by have := hs.2.2.1; rw [h0] at this ⊢; exact this
      have k3 := k2 h00
      refine ⟨by omega, fun h => ?_⟩
      have := hs.2.1 (by rw [h0]; exact h)
      omega
    · refine ⟨by omega, fun h => ?_⟩
      have k3 := k2 (hs.2.2.2 0 h)
      omega

theorem tmSet_mem : ∀ (m : TM) (k : Nat) (l : List UInt8) (p : Nat × List UInt8), p ∈ tmSet m k l → p ∈ m ∨ p = (k, l)
  | [], k, l, p, h => by simp only [tmSet, List.mem_singleton] at h; exact .inr h
  | q :: m, k, l, p, h => by
    simp only [tmSet] at h
    split at h
    · rcases List.mem_cons.1 h with h | h
      · exact .inr h
      · exact .inl (List.mem_cons_of_mem _ h)
    · rcases List.mem_cons.1 h with h | h
      · exact .inl (by rw [h]; exact List.mem_cons_self)
      · exact (tmSet_mem m k l p h).imp (List.mem_cons_of_mem _) id

theorem rTagsN_vals {B : Nat} : ∀ (n : Nat) (m : TM) (r : Rd), r.l.length ≤ B → (∀ p ∈ m, p.2.length ≤ B) → ∀ p ∈ (rTagsN n m r).1, p.2.length ≤ B
  | 0, _, _, _, h => h
  | n + 1, m, r, hr, h => by
    simp only [rTagsN]
    have h1 : (rUv (rUv r).2).2.l.length ≤ B := Nat.le_trans (rUv_len _) (Nat.le_trans (rUv_len _) hr)
    refine rTagsN_vals n _ _ (Nat.le_trans (rSpan_len _ _) h1) fun p hp => ?_
    rcases tmSet_mem _ _ _ _ hp with hp | rfl
    · exact h p hp
    · exact Nat.le_trans (rSpan_short _ _) h1

theorem PK.run_ok (pk : PK) (r : Rd) (hr : r.l.length ≤ 1073741824) : okF (pk.run r).1 pk.ty := by
  have hf := fun N => Nat.le_trans (rFix_len N r) hr
  have hu := Nat.le_trans (rUv_len r) hr
  have hs := fun m (r' : Rd) (h : r'.l.length ≤ 1073741824) => Nat.le_trans (rSpan_short m r') (Nat.le_trans h (by decide : 1073741824 ≤ big))
  cases pk with
  | num N k => exact ⟨_, rfl, wrap_wrap k _⟩
  | bool => exact ⟨_, rfl⟩
  | str => exact ⟨rfl, hs _ _ (hf 2)⟩
  | cstr => exact ⟨rfl, hs _ _ hu⟩
  | nstr =>
    refine ⟨rfl, fun l hl => ?_⟩
    simp only [rNStr] at hl
    split at hl
    · cases hl
    · simp only [Option.some.injEq] at hl; subst hl; exact hs _ _ (hf 2)
  | cnstr =>
    refine ⟨rfl, fun l hl => ?_⟩
    simp only [rCNStr] at hl
    split at hl
    · cases hl
    · simp only [Option.some.injEq] at hl; subst hl; exact hs _ _ hu
  | bytes =>
    refine ⟨rfl, ?_⟩
    simp only [rBytes]
    split
    · simp [big]
    · exact hs _ _ (hf 4)
  | cbytes =>
    refine ⟨rfl, ?_⟩
    simp only [rCBytes]
    split
    · simp [big]
    · exact hs _ _ hu
  | nbytes =>
    refine ⟨rfl, ?_⟩
    simp only [rNBytes]
    split
    · simp [big]
    · exact hs _ _ (hf 4)
  | cnbytes =>
    refine ⟨rfl, ?_⟩
    simp only [rCNBytes]
    split
    · simp [big]
    · exact hs _ _ hu
  | uuid => exact ⟨rfl, padTo_length 16 _⟩
  | tags =>
    refine ⟨rfl, ?_, ?_⟩
    · have := (rTagsN_size (rUv r).1 [] (rUv r).2).1
      simp only [List.length_nil] at this
      show (rTagsN _ _ _).1.length ≤ 1073741825
      omega
    · intro p hp
      exact Nat.le_trans (rTagsN_vals (B := 1073741824) (rUv r).1 [] (rUv r).2 hu (fun p hp => by cases hp) p hp) (by decide)

/-- A default's type. -/
def okImm0 : FV → Ty → Bool
  | .one (.int k x), .num k' => decide (k = k') && decide (k.wrap x = x)
  | .one (.bool _), .bool => true
  | .uuid l, .uuid => Nat.beq l.length 16
  | .text [], .text => true
  | .ntext none, .ntext => true
  | .octs _ [], .octs => true
  | .tags [], .tags => true
  | .list _ [], .list _ => true
  | .ptr none, .ptr _ => true
  | _, _ => false

theorem okImm0_ok {f : FV} {t : Ty} (h : okImm0 f t = true) : okF f t := by
  unfold okImm0 at h
  split at h
  · simp only [Bool.and_eq_true, decide_eq_true_eq] at h
    obtain ⟨rfl, h⟩ := h
    exact ⟨_, rfl, h⟩
  · exact ⟨_, rfl⟩
  · exact ⟨rfl, Nat.eq_of_beq_eq_true h⟩
  · exact ⟨rfl, Nat.zero_le _⟩
  · exact ⟨rfl, fun l hl => by cases hl⟩
  · exact ⟨rfl, Nat.zero_le _⟩
  · exact ⟨rfl, Nat.zero_le _, fun p hp => by cases hp⟩
  · exact ⟨Nat.zero_le _, trivial⟩
  · exact trivial
  · cases h

mutual
def okImm : FV → Ty → Bool
  | .sub fs, t => match t with
    | .sub ts => okImms fs ts
    | _ => false
  | .one v, t => okImm0 (.one v) t
  | .uuid l, t => okImm0 (.uuid l) t
  | .text l, t => okImm0 (.text l) t
  | .ntext o, t => okImm0 (.ntext o) t
  | .octs nl l, t => okImm0 (.octs nl l) t
  | .tags m, t => okImm0 (.tags m) t
  | .list nl rows, t => okImm0 (.list nl rows) t
  | .ptr o, t => okImm0 (.ptr o) t
def okImms : List FV → List Ty → Bool
  | [], ts => match ts with
    | [] => true
    | _ => false
  | f :: fs, ts => match ts with
    | t :: ts => okImm f t && okImms fs ts
    | _ => false
end

mutual
theorem okImm_ok : ∀ {f : FV} {t : Ty}, okImm f t = true → okF f t
  | .sub fs, t, h => by
    simp only [okImm] at h
    cases t with
    | sub ts => exact okImms_ok h
    | _ => cases h
  | .one v, _, h => okImm0_ok (by simpa only [okImm] using h)
  | .uuid l, _, h => okImm0_ok (by simpa only [okImm] using h)
  | .text l, _, h => okImm0_ok (by simpa only [okImm] using h)
  | .ntext o, _, h => okImm0_ok (by simpa only [okImm] using h)
  | .octs nl l, _, h => okImm0_ok (by simpa only [okImm] using h)
  | .tags m, _, h => okImm0_ok (by simpa only [okImm] using h)
  | .list nl rows, _, h => okImm0_ok (by simpa only [okImm] using h)
  | .ptr o, _, h => okImm0_ok (by simpa only [okImm] using h)
theorem okImms_ok : ∀ {fs : List FV} {ts : List Ty}, okImms fs ts = true → okFs fs ts
  | [], [], _ => rfl
  | [], _ :: _, h => by simp [okImms] at h
  | _ :: _, [], h => by simp [okImms] at h
  | f :: fs, t :: ts, h => by
    simp only [okImms, Bool.and_eq_true] at h
    exact ⟨okImm_ok h.1, okImms_ok h.2⟩
end

mutual
/-- What Default sets is of the fields' types. -/
def tyDset (ts : List Ty) : Dset → Bool
  | .set i _ _ v => match ts[i]? with
    | some t => okImm (.one v) t
    | none => false
  | .sub i _ _ _ ds => match ts[i]? with
    | some (.sub us) => tyDsets us ds
    | _ => false
def tyDsets (ts : List Ty) : List Dset → Bool
  | [] => true
  | d :: ds => tyDset ts d && tyDsets ts ds
end

theorem okF_part {f : FV} {us : List Ty} (h : okF f (.sub us)) : ∃ gs, f = .sub gs ∧ okFs gs us := by
  cases f with
  | sub fs => exact ⟨fs, rfl, h⟩
  | ptr o => cases o <;> simp [okF] at h
  | _ => simp [okF] at h

mutual
theorem applyD1_ok : ∀ (d : Dset) (ts : List Ty) (fs : List FV), tyDset ts d = true → okFs fs ts → okFs (applyD1 d fs) ts
  | .set i _ _ v, ts, fs, h, hf => by
    simp only [tyDset] at h
    split at h
    · rename_i t ht
      simp only [applyD1]
      exact okFs_set hf ht (okImm_ok h)
    · cases h
  | .sub i _ _ _ ds, ts, fs, h, hf => by
    simp only [tyDset] at h
    split at h
    · rename_i us ht
      obtain ⟨f, hfi, hft⟩ := okFs_get hf ht
      obtain ⟨gs, rfl, hg⟩ := okF_part hft
      simp only [applyD1, hfi]
      exact okFs_set hf ht (applyD_ok ds us gs h hg)
    · cases h
theorem applyD_ok : ∀ (ds : List Dset) (ts : List Ty) (fs : List FV), tyDsets ts ds = true → okFs fs ts → okFs (applyD ds fs) ts
  | [], _, _, _, hf => by simpa [applyD] using hf
  | d :: ds, ts, fs, h, hf => by
    simp only [tyDsets, Bool.and_eq_true] at h
    simp only [applyD]
    exact applyD_ok ds ts _ h.2 (applyD1_ok d ts fs h.1 hf)
end

mutual
def tyStep (ts : List Ty) : Step → Bool
  | .call pk _ i _ _ => match ts[i]? with
    | some t => t.beq pk.ty
    | none => false
  | .uuid _ i _ => match ts[i]? with
    | some t => t.beq .uuid
    | none => false
  | .listP _ _ i _ _ pk _ _ => match ts[i]? with
    | some t => t.beq (.list [pk.ty])
    | none => false
  | .listS _ _ i _ _ _ _ _ dflt ss => match ts[i]? with
    | some (.list us) => okImms dflt us && tySteps us ss
    | _ => false
  | .sub i _ _ _ ds _ ss => match ts[i]? with
    | some (.sub us) => tyDsets us ds && tySteps us ss
    | _ => false
  | .strP pk _ i _ _ => match ts[i]? with
    | some t => t.beq .ntext && pk.ty.beq .text
    | none => false
  | .ghost => true
def tySteps (ts : List Ty) : List Step → Bool
  | [] => true
  | s :: ss => tyStep ts s && tySteps ts ss
end

theorem readP_ok (pk : PK) : ∀ (n : Nat) (r : Rd), r.l.length ≤ 1073741824 → (readP pk n r).1.length = n ∧ ∀ x ∈ (readP pk n r).1, okFs x [pk.ty]
  | 0, _, _ => ⟨rfl, fun x hx => by cases hx⟩
  | n + 1, r, hr => by
    have ih := readP_ok pk n (pk.run r).2 (Nat.le_trans (pk.run_len r) hr)
    refine ⟨by simp [readP, ih.1], fun x hx => ?_⟩
    simp only [readP] at hx
    rcases List.mem_cons.1 hx with e | hx
    · rw [e]; exact ⟨pk.run_ok r hr, rfl⟩
    · exact ih.2 x hx

theorem readS_ok {g : Rd → Option (List FV × Rd)} {us : List Ty} (hl : ∀ r x r', g r = some (x, r') → r'.l.length ≤ r.l.length) (hg : ∀ r x r', r.l.length ≤ 1073741824 → g r = some (x, r') → okFs x us) : ∀ (n : Nat) (r : Rd) (xs : List (List FV)) (r' : Rd), r.l.length ≤ 1073741824 → readS g n r = some (xs, r') → xs.length = n ∧ ∀ x ∈ xs, okFs x us
  | 0, r, xs, r', _, h => by
    simp only [readS, Option.some.injEq, Prod.mk.injEq] at h
    rw [← h.1]
    exact ⟨rfl, fun x hx => by cases hx⟩
  | n + 1, r, xs, r', hr, h => by
    simp only [readS] at h
    split at h
    · rename_i x r1 h1
      split at h
      · rename_i ys r2 h2
        simp only [Option.some.injEq, Prod.mk.injEq] at h
        have ih := readS_ok hl hg n r1 ys r2 (Nat.le_trans (hl _ _ _ h1) hr) h2
        rw [← h.1]
        refine ⟨by simp [ih.1], fun y hy => ?_⟩
        rcases List.mem_cons.1 hy with e | hy
        · rw [e]; exact hg _ _ _ hr h1
        · exact ih.2 y hy
      · cases h
    · cases h

theorem toNat_le_big {x : Int} {n : Nat} (h : x ≤ n) (hn : n ≤ 1073741824) : x.toNat ≤ big := by
  simp only [big]; omega

mutual
theorem runStep_ok : ∀ (s : Step) (ts : List Ty) (fs : List FV) (r : Rd) (fs' : List FV) (r' : Rd), tyStep ts s = true → okFs fs ts → r.l.length ≤ 1073741824 → runStep s fs r = some (fs', r') → okFs fs' ts
  | .call pk f i ty off, ts, fs, r, fs', r', ht, hf, hr, h => by
    simp only [runStep, Option.some.injEq, Prod.mk.injEq] at h
    simp only [tyStep] at ht
    split at ht
    · rename_i t hi
      rw [Ty.beq_eq _ _ ht] at hi
      rw [← h.1]
      exact okFs_set hf hi (pk.run_ok r hr)
    · cases ht
  | .uuid f i off, ts, fs, r, fs', r', ht, hf, hr, h => by
    simp only [runStep, Option.some.injEq, Prod.mk.injEq] at h
    simp only [tyStep] at ht
    split at ht
    · rename_i t hi
      rw [Ty.beq_eq _ _ ht] at hi
      rw [← h.1]
      exact okFs_set hf hi (PK.uuid.run_ok r hr)
    · cases ht
  | .listP lk fl i tySl off pk f T, ts, fs, r, fs', r', ht, hf, hr, h => by
    simp only [runStep] at h
    simp only [tyStep] at ht
    split at ht
    · rename_i t hi
      rw [Ty.beq_eq _ _ ht] at hi
      split at h
      · cases h
      · simp only [Option.some.injEq, Prod.mk.injEq] at h
        have hl := Nat.le_trans (lk.run_len r) hr
        have hp := readP_ok pk (lk.run r).1.toNat (lk.run r).2 hl
        rw [← h.1]
        refine okFs_set hf hi ⟨?_, okRows_all hp.2⟩
        rw [hp.1]
        exact toNat_le_big (lk.run_le r) hl
    · cases ht
  | .listS lk fl i tySl off T sz fDef dflt ss, ts, fs, r, fs', r', ht, hf, hr, h => by
    simp only [runStep] at h
    simp only [tyStep] at ht
    split at ht
    · rename_i us hi
      simp only [Bool.and_eq_true] at ht
      split at h
      · cases h
      · split at h
        · rename_i xs r2 h2
          simp only [Option.some.injEq, Prod.mk.injEq] at h
          have hl := Nat.le_trans (lk.run_len r) hr
          have hp := readS_ok (us := us) (fun r x r' h => runSteps_len ss dflt r x r' h) (fun r x r' hr h => runSteps_ok ss us dflt r x r' ht.2 (okImms_ok ht.1) hr h) _ _ _ _ hl h2
          rw [← h.1]
          refine okFs_set hf hi ⟨?_, okRows_all hp.2⟩
          rw [hp.1]
          exact toNat_le_big (lk.run_le r) hl
        · cases h
    · cases ht
  | .sub i off T fDef ds lsS ss, ts, fs, r, fs', r', ht, hf, hr, h => by
    simp only [runStep] at h
    simp only [tyStep] at ht
    split at ht
    · rename_i us hi
      simp only [Bool.and_eq_true] at ht
      obtain ⟨f, hfi, hft⟩ := okFs_get hf hi
      obtain ⟨gs, rfl, hg⟩ := okF_part hft
      rw [hfi] at h
      simp only at h
      split at h
      · rename_i gs' r2 h2
        simp only [Option.some.injEq, Prod.mk.injEq] at h
        rw [← h.1]
        exact okFs_set hf hi (show okF (.sub gs') (.sub us) from runSteps_ok ss us _ r gs' r2 ht.2 (applyD_ok ds us gs ht.1 hg) hr h2)
      · cases h
    · cases ht
  | .ghost, _, fs, r, fs', r', _, hf, _, h => by
    simp only [runStep, Option.some.injEq, Prod.mk.injEq] at h
    rw [← h.1]; exact hf
  | .strP pk f i ty off, ts, fs, r, fs', r', ht, hf, hr, h => by
    simp only [runStep] at h
    simp only [tyStep] at ht
    split at ht
    · rename_i t hi
      simp only [Bool.and_eq_true] at ht
      rw [Ty.beq_eq _ _ ht.1] at hi
      have hpk := pk.run_ok r hr
      rw [Ty.beq_eq _ _ ht.2] at hpk
      split at h
      · rename_i l hl
        simp only [Option.some.injEq, Prod.mk.injEq] at h
        rw [hl] at hpk
        rw [← h.1]
        exact okFs_set hf hi ⟨rfl, fun l' hl' => by cases hl'; exact hpk.2⟩
      · cases h
    · cases ht
theorem runSteps_ok : ∀ (ss : List Step) (ts : List Ty) (fs : List FV) (r : Rd) (fs' : List FV) (r' : Rd), tySteps ts ss = true → okFs fs ts → r.l.length ≤ 1073741824 → runSteps ss fs r = some (fs', r') → okFs fs' ts
  | [], ts, fs, r, fs', r', _, hf, _, h => by
    simp only [runSteps, Option.some.injEq, Prod.mk.injEq] at h
    rw [← h.1]; exact hf
  | s :: ss, ts, fs, r, fs', r', ht, hf, hr, h => by
    simp only [runSteps] at h
    simp only [tySteps, Bool.and_eq_true] at ht
    split at h
    · rename_i fs1 r1 h1
      exact runSteps_ok ss ts fs1 r1 fs' r' ht.2 (runStep_ok s ts fs r fs1 r1 ht.1 hf hr h1) (Nat.le_trans (runStep_len s fs r fs1 r1 h1) hr) h
    · cases h
end

end Go.Kf

namespace Go.Kf

open Go

def tellPrim : FV → PT
  | .one (.int _ x) => .mk x [] false [] []
  | .one (.bool b) => .mk (if b then 1 else 0) [] false [] []
  | .uuid l => .mk 0 l false [] []
  | .text l => .mk 0 l false [] []
  | .ntext none => .mk 0 [] true [] []
  | .ntext (some l) => .mk 0 l false [] []
  | .octs nl l => .mk 0 l nl [] []
  | _ => .zero

/-- What is known while a struct is told: w0 is the world at the beginning; N things, so far ts; the tags so far. -/
structure TS (w0 w : World) (N : Nat) (ts : List PT) (u : TM) (uv : Value) : Prop where
  k : Keeps [] w0 w
  res : Has w w0.heap.size zeroTree
  row : ∃ rcs, Has w (w0.heap.size + 1) rcs ∧ rcs.length = N * 5 ∧ TreesAt w (fun b => w0.heap.size + 2 < b) ts rcs
  len : ts.length = N
  top : Has w (w0.heap.size + 2) [.int .i64 0, .slice none 0 0, .bool false, .slice (some ⟨w0.heap.size + 1, 0, none⟩) N N, uv]
  uok : TagsIn w (fun b => w0.heap.size + 2 < b) u uv

theorem TS.keep {w0 w w' : World} {N : Nat} {ts : List PT} {u : TM} {uv : Value} (h : TS w0 w N ts u uv) (hk : Keeps [] w w') : TS w0 w' N ts u uv := by
  obtain ⟨rcs, h1, h2, h3⟩ := h.row
  exact ⟨h.k.trans hk, h.res.keep hk (by simp), ⟨rcs, h1.keep hk (by simp), h2, TreesAt.keep hk (fun b hb => by cases hb) (fun _ h _ => h) _ _ h3⟩, h.len, h.top.keep hk (by simp), h.uok.keep hk (fun b hb => by cases hb) (fun _ h _ => h)⟩

/-- The things from m on are untouched. -/
def Raw (w0 w : World) (N m : Nat) : Prop := ∀ rcs, Has w (w0.heap.size + 1) rcs → ∀ i, m ≤ i → i < N → (rcs.drop (i * 5)).take 5 = zeroTree

theorem Raw.keep {w0 w w' : World} {N m : Nat} {ts : List PT} {u : TM} {uv : Value} (h : Raw w0 w N m) (hT : TS w0 w N ts u uv) (hk : Keeps [] w w') : Raw w0 w' N m := by
  intro rcs hr
  obtain ⟨rcs0, h1, _⟩ := hT.row
  rw [hr.inj (h1.keep hk (by simp))]
  exact h rcs0 h1

/-- The struct that is told lies there from the beginning. -/
structure TIn (w0 : World) (D V lo : Nat) (pre post : List Value) (fs : List FV) : Prop where
  st : ∃ mid, Has w0 V (pre ++ mid ++ post) ∧ FsAt D w0 lo fs mid

theorem TIn.get {w0 w : World} {D V lo : Nat} {pre post : List Value} {fs : List FV} (h : TIn w0 D V lo pre post fs) (hk : Keeps [] w0 w) {i off : Nat} {f : FV} (hf : fs[i]? = some f) (hoff : ((fs.map FV.wd).take i).sum = off) :
    ∃ cs m, Has w V cs ∧ FAt D w lo f m ∧ (∀ j, j < m.length → cs[pre.length + off + j]? = m[j]?) ∧ pre.length + off + m.length ≤ cs.length := by
  obtain ⟨mid, hh, hfs⟩ := h.st
  have hh' := hh.keep hk (by simp)
  have hfs' := FsAt.keep (D := D) hk lo (fun b hb => by cases hb) _ _ hfs
  obtain ⟨a, m, z, e, ha, hm, _⟩ := hfs'.split hf
  have hao : a.length = off := by rw [ha, wds_eq, List.map_take]; exact hoff
  refine ⟨_, m, hh', hm, fun j hj => ?_, by rw [e]; simp; omega⟩
  rw [e, show pre ++ (a ++ m ++ z) ++ post = (pre ++ a) ++ (m ++ (z ++ post)) by simp, List.getElem?_append_right (by simp; omega), List.getElem?_append_left (by simp; omega)]
  congr 1
  simp; omega

section

variable {P : Program} {c : Nums} {R : Value → World → Prop} {Γ : List (List Value → World → Prop)} {n : Nat} {ρ : Nat → Value} {w w0 : World} {k : Tr} {N : Nat} {ts : List PT} {u : TM} {uv : Value}

def rowV (w0 : World) (N : Nat) : Value := .slice (some ⟨w0.heap.size + 1, 0, none⟩) N N

theorem s_TL (Z : TyFacts P c c.tTree c.tTrees c.tTagL c.tTag) (h4 : ρ 4 = ptr (w0.heap.size + 2)) (h : TS w0 w N ts u uv)
    (hk : ∀ w', TS w0 w' N ts u uv → Keeps [] w w' → k.sem P R Γ (n + 2) (ext (ext ρ n [ptr (w0.heap.size + 2) 3]) (n + 1) [rowV w0 N]) w') : (gTL c n k).sem P R Γ n ρ w := by
  have hd : Keeps [] w { w with drawn := w.drawn + 1 } := keeps_drawn w _ _
  have h' := h.keep hd
  refine p_fl Z.f3 Z.oneTrees (show ev ρ (.tmp 4) = ptr (w0.heap.size + 2) from h4) rfl h'.top rfl ?_
  exact hk _ h' hd

/-- The row, owed. -/
theorem TL_owed (Z : TyFacts P c c.tTree c.tTrees c.tTagL c.tTag) {n : Nat} (hn : ρ n = ptr (w0.heap.size + 2) 3) (h1 : ρ (n + 1) = rowV w0 N) (h : TS w0 w N ts u uv) : ∀ p ∈ [(Op.load c.tTrees (.tmp n), n + 1)], runOp P ρ p.1 w = .ok (.value (ρ p.2)) w := by
  intro p hp
  simp only [List.mem_singleton] at hp
  subst hp
  show runOp P ρ (.load c.tTrees (.tmp n)) w = .ok (.value (ρ (n + 1))) w
  rw [h1]
  exact l_load1 (b := w0.heap.size + 2) (o := 3) Z.oneTrees hn h.top rfl

theorem s_TSet {L q : Nat} {x : Operand} {t : PT} {cs : List Value} (Z : TyFacts P c c.tTree c.tTrees c.tTagL c.tTag) (hL : ρ L = rowV w0 N) (hq : q < N) (hx : ev ρ x = .agg ⟨cs⟩) (hbx : opBelow n x) (ht : TreeAt w (fun b => w0.heap.size + 2 < b) t cs) (h : TS w0 w N ts u uv)
    (hk : ∀ w', TS w0 w' N (ts.set q t) u uv → (Raw w0 w N q → Raw w0 w' N (q + 1)) → k.sem P R Γ (n + 2) (ext (ext ρ n [ptr (w0.heap.size + 1) (q * 5)]) (n + 1) [undef]) w') : (gTSet c L q x n k).sem P R Γ n ρ w := by
  obtain ⟨rcs, h1, h2, h3⟩ := h.row
  have hszT : (P.info? c.tTree).map (·.size) = some 5 := (aggTy_spec (w := w) Z.agg).2
  have e0 : (0 : Nat) + (q : Int).toNat * 5 = q * 5 := by simp
  have hv := v_indexAddr (P := P) (ρ := ρ) (t := c.tTrees) (x := .tmp L) (i := qV q) (b := w0.heap.size + 1) (o := 0) (l := N) (c := N) (j := q) (kk := .i64) Z.sl hszT hL rfl (by omega) (by omega)
  rw [e0] at hv
  refine p_val hv ?_
  have hcl := ht.len
  have hlen := h.len
  have hlt : q * 5 + 5 ≤ rcs.length := by rw [h2]; omega
  obtain ⟨w', e1, hh, kk⟩ := a_storeCells (P := P) (ρ := ext ρ n [ptr (w0.heap.size + 1) (q * 5)]) (w := w) (t := c.tTree) (x := .tmp n) (y := x) (b := w0.heap.size + 1) (o := q * 5) (vs := cs) (by rw [hcl]; exact hszT) ext_at (by rw [ev_ext hbx, hx]; rfl) h1 (by omega) ht.ones
  refine s_unit e1 (fun p hp => (by cases hp)) (hk w' ?_ ?_)
  rotate_left
  · intro hraw rcs' hr' i hi hN
    rw [hr'.inj hh]
    have hold := hraw rcs h1 i (by omega) hN
    rw [← hold]
    unfold splice
    apply List.ext_getElem?
    intro p
    simp only [List.getElem?_take]
    split
    · rw [List.getElem?_drop, List.getElem?_drop, List.getElem?_append_right (by simp; omega), List.getElem?_drop]
      congr 1
      simp; omega
    · rfl
  have hqt : q < ts.length := by omega
  obtain ⟨a, m, z, e, ha, hm, hset⟩ := h3.split (List.getElem?_eq_getElem hqt)
  have hml := hm.len
  have hsp : splice rcs (q * 5) cs = a ++ cs ++ z := by
    unfold splice
    have t1 : (a ++ m ++ z).take a.length = a := by rw [List.append_assoc, List.take_left' rfl]
    rw [e, ← ha, t1, List.drop_left' (by simp; omega)]
  rw [hsp] at hh
  have hA : ∀ b ∈ [w0.heap.size + 1], ¬ w0.heap.size + 2 < b := fun b hb => by simp only [List.mem_singleton] at hb; omega
  refine ⟨(h.k.mono (by simp) |>.trans kk).less (fun x hx => .inr (by simp only [List.mem_singleton] at hx; omega)), h.res.keep kk (by simp), ⟨_, hh, by rw [List.length_append, List.length_append, hcl]; have := congrArg List.length e; simp only [List.length_append] at this; omega, TreesAt.keep kk hA (fun _ h _ => h) _ _ (hset t cs ht)⟩, by simp [hlen], h.top.keep kk (by simp), h.uok.keep kk hA (fun _ h _ => h)⟩

theorem num_tree (w : World) (A : Nat → Prop) (x : Int) : TreeAt w A (.mk x [] false [] []) [.int .i64 x, .slice none 0 0, .bool false, .slice none 0 0, .slice none 0 0] := by
  have h := zeroTree_at w A
  obtain ⟨sv, lv, uv, lcs, e, hr⟩ := h
  simp only [zeroTree, List.cons.injEq, and_true] at e
  obtain ⟨_, rfl, _, rfl, rfl⟩ := e
  exact ⟨_, _, _, lcs, rfl, hr⟩

theorem oct_tree {w : World} {A : Nat → Prop} {l : List UInt8} {v : Value} (h : OctIn w A l v) (null : Bool) : TreeAt w A (.mk 0 l null [] []) [.int .i64 0, v, .bool null, .slice none 0 0, .slice none 0 0] := by
  have h0 := zeroTree_at w A
  obtain ⟨sv, lv, uv, lcs, e, hr⟩ := h0
  simp only [zeroTree, List.cons.injEq, and_true] at e
  obtain ⟨_, rfl, _, rfl, rfl⟩ := e
  exact ⟨_, _, _, lcs, rfl, h, hr.2⟩

end

end Go.Kf

namespace Go.Kf

open Go

/-- The field i of the told struct. -/
structure FieldOk (P : Program) (S : Nat) (ls : List Nat) (i off : Nat) : Prop where
  field : fieldOff P S i = some off
  off : (ls.take i).sum = off

section

variable {P : Program} {c : Nums} {R : Value → World → Prop} {Γ : List (List Value → World → Prop)} {n : Nat} {ρ : Nat → Value} {w w0 : World} {k : Tr} {N : Nat} {ts : List PT} {u : TM} {uv : Value} {D V lo S : Nat} {pre post : List Value} {fs : List FV}

/-- What is to be shown for a step that tells a field. -/
def SemT (P : Program) (c : Nums) (R : Value → World → Prop) (w0 : World) (N S V : Nat) (pre : List Value) (s : TStep) (q : Nat) (t : PT) : Prop :=
  ∀ (n : Nat) (k : Nat → Nat → Tr) (Γ : List (List Value → World → Prop)) (ρ : Nat → Value) (w : World) (ts : List PT) (u : TM) (uv : Value), 6 ≤ n → ρ 0 = ptr V pre.length → ρ 1 = ptr w0.heap.size → ρ 4 = ptr (w0.heap.size + 2) → TS w0 w N ts u uv → Raw w0 w N q →
    (∀ n' Γ' ρ' w', n ≤ n' → (∃ Δ, Γ' = Γ ++ Δ) → (∀ x, x < n → ρ' x = ρ x) → TS w0 w' N (ts.set q t) u uv → Raw w0 w' N (q + 1) → (k n' Γ'.length).sem P R Γ' n' ρ' w') → (gTStep c S s n Γ.length k).sem P R Γ n ρ w

theorem s_VX {i ty off : Nat} {cs : List Value} {v : Value} (hf : fieldOff P S i = some off) (h1 : oneTy P ty = true) (hp : ρ 0 = ptr V pre.length) (hh : Has w V cs) (hv : cs[pre.length + off]? = some v)
    (hk : k.sem P R Γ (n + 3) (ext (ext (ext ρ n [ptr V pre.length]) (n + 1) [ptr V (pre.length + off)]) (n + 2) [v]) w) : (gVX S i ty n k).sem P R Γ n ρ w :=
  p_val (v_nilCheck (show ev ρ (.tmp 0) = _ from hp)) (p_fl hf h1 (show ev _ (.tmp n) = ptr V pre.length from ext_at) rfl hh hv hk)

theorem TIn.one {i off : Nat} {f : FV} {v : Value} {ls : List Nat} (h : TIn w0 D V lo pre post fs) (hls : fs.map FV.wd = ls) (hF : FieldOk P S ls i off) (hk : Keeps [] w0 w) (hf : fs[i]? = some f) (h1 : ∀ m, FAt D w lo f m → m = [v]) : ∃ cs, Has w V cs ∧ cs[pre.length + off]? = some v := by
  obtain ⟨cs, m, hh, hm, hcs, _⟩ := h.get (off := off) hk hf (by rw [hls]; exact hF.off)
  have := h1 m hm
  subst this
  exact ⟨cs, hh, by have := hcs 0 (by simp); simpa using this⟩

/-- Numbers. -/
theorem tell_num {i ty q off : Nat} {ik : IntKind} {x : Int} {ls : List Nat} (Z : TyFacts P c c.tTree c.tTrees c.tTagL c.tTag) (G : buildPlan P c.tTree = some (zeroTree, [(0, 1), (1, 1), (2, 1), (3, 1), (4, 1)])) (h : TIn w0 D V lo pre post fs) (hls : fs.map FV.wd = ls) (hF : FieldOk P S ls i off) (hq : q < N)
    (hty : P.underlying ty = some (.int ik)) (hone : oneTy P ty = true) (hf : fs[i]? = some (.one (.int ik x))) (hw : IntKind.i64.wrap x = x) : SemT P c R w0 N S V pre (.num i ty q) q (tellPrim (.one (.int ik x))) := by
  intro n k Γ ρ w ts u uv hn h0 _ h4 hT hRaw hk
  simp only [gTStep]
  refine s_TL Z h4 hT fun w1 hT1 k1 => ?_
  obtain ⟨cs, hh, hv⟩ := h.one hls hF hT1.k hf (fun m hm => hm.1)
  refine s_VX hF.field hone (by rw [ext_lt (by omega), ext_lt (by omega)]; exact h0) hh hv ?_
  have hr1 : runOp P (ext (ext (ext (ext (ext ρ n [ptr (w0.heap.size + 2) 3]) (n + 1) [rowV w0 N]) (n + 2) [ptr V pre.length]) (n + 2 + 1) [ptr V (pre.length + off)]) (n + 2 + 2) [.int ik x]) (.convert ty c.tI64 (.tmp (n + 4))) w1 = .ok (.value (.int .i64 x)) w1 := by
    have := v_conv (P := P) (ρ := ext (ext (ext (ext (ext ρ n [ptr (w0.heap.size + 2) 3]) (n + 1) [rowV w0 N]) (n + 2) [ptr V pre.length]) (n + 2 + 1) [ptr V (pre.length + off)]) (n + 2 + 2) [.int ik x]) (s := ty) (d := c.tI64) (x := .tmp (n + 4)) (k1 := ik) (a := x) hty Z.i64 ext_at w1
    rwa [hw] at this
  refine s_act hr1 (TL_owed Z (by rw [ext_lt (by omega), ext_lt (by omega), ext_lt (by omega), ext_lt (by omega), ext_at]) (by rw [ext_lt (by omega), ext_lt (by omega), ext_lt (by omega), ext_at]) hT1) ?_
  refine p_val (v_build (cells := [.int .i64 x, .slice none 0 0, .bool false, .slice none 0 0, .slice none 0 0]) G (fun p hp => by
    simp only [List.mem_singleton] at hp
    subst hp
    show (ext _ (n + 2 + 3) _ (n + 5)).oneCell' = true
    rw [ext_at]; rfl) (by
    simp only [List.map_cons, List.map_nil]
    rw [show ev (ext (ext (ext (ext (ext (ext ρ n [ptr (w0.heap.size + 2) 3]) (n + 1) [rowV w0 N]) (n + 2) [ptr V pre.length]) (n + 2 + 1) [ptr V (pre.length + off)]) (n + 2 + 2) [.int ik x]) (n + 2 + 3) [.int .i64 x]) (.tmp (n + 5)) = .int .i64 x from ext_at]
    rfl)) ?_
  refine s_TSet (n := n + 7) (t := .mk x [] false [] []) (cs := [.int .i64 x, .slice none 0 0, .bool false, .slice none 0 0, .slice none 0 0]) Z ?_ hq ext_at (by simp [opBelow]) (num_tree w1 _ x) hT1 fun w2 hT2 hR2 => ?_
  · rw [ext_lt (by omega), ext_lt (by omega), ext_lt (by omega), ext_lt (by omega), ext_lt (by omega), ext_at]
  · refine hk (n + 9) Γ _ w2 (by omega) ⟨[], by simp⟩ (fun y hy => ?_) hT2 (hR2 (hRaw.keep hT k1))
    rw [ext_lt (by omega), ext_lt (by omega), ext_lt (by omega), ext_lt (by omega), ext_lt (by omega), ext_lt (by omega), ext_lt (by omega), ext_lt (by omega), ext_lt (by omega)]

/-- Texts. -/
theorem tell_text {i q off : Nat} {l : List UInt8} {ls : List Nat} (F : RdFacts P c) (hstr : oneTy P c.tStr = true) (Z : TyFacts P c c.tTree c.tTrees c.tTagL c.tTag) (G : buildPlan P c.tTree = some (zeroTree, [(0, 1), (1, 1), (2, 1), (3, 1), (4, 1)])) (h : TIn w0 D V lo pre post fs) (hls : fs.map FV.wd = ls) (hF : FieldOk P S ls i off) (hq : q < N)
    (hf : fs[i]? = some (.text l)) (hl : l.length ≤ big) : SemT P c R w0 N S V pre (.text i q) q (tellPrim (.text l)) := by
  intro n k Γ ρ w ts u uv hn h0 _ h4 hT hRaw hk
  simp only [gTStep]
  refine s_TL Z h4 hT fun w1 hT1 k1 => ?_
  obtain ⟨cs, hh, hv⟩ := h.one hls hF hT1.k hf (fun m hm => hm)
  refine s_VX hF.field hstr (by rw [ext_lt (by omega), ext_lt (by omega)]; exact h0) hh hv ?_
  have hbig : l.length < 4294967296 := by simp only [big] at hl; omega
  obtain ⟨v, w2, e2, ho, k2, hb⟩ := a_stringBytes (P := P) (ρ := ext (ext (ext (ext (ext ρ n [ptr (w0.heap.size + 2) 3]) (n + 1) [rowV w0 N]) (n + 2) [ptr V pre.length]) (n + 2 + 1) [ptr V (pre.length + off)]) (n + 2 + 2) [.string (strOf l)]) (s := c.tStr) (d := c.tBytes) (x := .tmp (n + 4)) (w := w1) (l := l) F.str F.bytes F.u8 ext_at (by omega)
  have hT2 := hT1.keep k2
  refine s_act e2 (TL_owed Z (by rw [ext_lt (by omega), ext_lt (by omega), ext_lt (by omega), ext_lt (by omega), ext_at]) (by rw [ext_lt (by omega), ext_lt (by omega), ext_lt (by omega), ext_at]) hT2) ?_
  have hoct : OctIn w2 (fun b => w0.heap.size + 2 < b) l v := .of ho.reads (fun b hb' => by
    rw [hb] at hb'
    simp only [List.mem_singleton] at hb'
    have := hT1.top.lt
    omega) hbig
  refine p_val (v_build (cells := [.int .i64 0, v, .bool false, .slice none 0 0, .slice none 0 0]) G (fun p hp => by
    simp only [List.mem_singleton] at hp
    subst hp
    show (ext _ (n + 2 + 3) _ (n + 5)).oneCell' = true
    rw [ext_at]; exact ho.one) (by
    simp only [List.map_cons, List.map_nil]
    rw [show ev (ext (ext (ext (ext (ext (ext ρ n [ptr (w0.heap.size + 2) 3]) (n + 1) [rowV w0 N]) (n + 2) [ptr V pre.length]) (n + 2 + 1) [ptr V (pre.length + off)]) (n + 2 + 2) [.string (strOf l)]) (n + 2 + 3) [v]) (.tmp (n + 5)) = v from ext_at]
    rfl)) ?_
  refine s_TSet (n := n + 7) (t := .mk 0 l false [] []) (cs := [.int .i64 0, v, .bool false, .slice none 0 0, .slice none 0 0]) Z ?_ hq ext_at (by simp [opBelow]) (oct_tree hoct false) hT2 fun w3 hT3 hR3 => ?_
  · rw [ext_lt (by omega), ext_lt (by omega), ext_lt (by omega), ext_lt (by omega), ext_lt (by omega), ext_at]
  · refine hk (n + 9) Γ _ w3 (by omega) ⟨[], by simp⟩ (fun y hy => ?_) hT3 (hR3 ((hRaw.keep hT k1).keep hT1 k2))
    rw [ext_lt (by omega), ext_lt (by omega), ext_lt (by omega), ext_lt (by omega), ext_lt (by omega), ext_lt (by omega), ext_lt (by omega), ext_lt (by omega), ext_lt (by omega)]

/-- A function that tells one cell's value. -/
def TellCell (P : Program) (f : Nat) (D lo : Nat) (fv : FV) : Prop := ∀ (w : World) (v : Value), FAt D w lo fv [v] → Gives P f [v] w fun u w' => (∃ cs, u = .agg ⟨cs⟩ ∧ TreeAt w' (fun b => w.heap.size ≤ b) (tellPrim fv) cs) ∧ Keeps [] w w'

theorem tell_call {f i ty q off : Nat} {fv : FV} {ls : List Nat} (Z : TyFacts P c c.tTree c.tTrees c.tTagL c.tTag) (h : TIn w0 D V lo pre post fs) (hls : fs.map FV.wd = ls) (hF : FieldOk P S ls i off) (hq : q < N)
    (hone : oneTy P ty = true) (hf : fs[i]? = some fv) (hwd : fv.wd = 1) (hg : TellCell P f D lo fv) : SemT P c R w0 N S V pre (.call f i ty q) q (tellPrim fv) := by
  intro n k Γ ρ w ts u uv hn h0 _ h4 hT hRaw hk
  simp only [gTStep]
  refine s_TL Z h4 hT fun w1 hT1 k1 => ?_
  obtain ⟨cs, m, hh, hm, hcs, _⟩ := h.get (off := off) hT1.k hf (by rw [hls]; exact hF.off)
  obtain ⟨v, rfl⟩ : ∃ v, m = [v] := by
    have := FAt.len fv m hm
    rw [hwd] at this
    match m, this with
    | [v], _ => exact ⟨v, rfl⟩
  have hv : cs[pre.length + off]? = some v := by have := hcs 0 (by simp); simpa using this
  refine s_VX hF.field hone (by rw [ext_lt (by omega), ext_lt (by omega)]; exact h0) hh hv ?_
  refine s_call (xs := [.tmp (n + 4)]) (Post := fun u w' => (∃ cs, u = .agg ⟨cs⟩ ∧ TreeAt w' (fun b => w1.heap.size ≤ b) (tellPrim fv) cs) ∧ Keeps [] w1 w') (by rw [List.map_cons, List.map_nil, show ev (ext (ext (ext (ext (ext ρ n [ptr (w0.heap.size + 2) 3]) (n + 1) [rowV w0 N]) (n + 2) [ptr V pre.length]) (n + 2 + 1) [ptr V (pre.length + off)]) (n + 2 + 2) [v]) (.tmp (n + 4)) = v from ext_at]; exact hg w1 v hm) fun a w2 ⟨⟨ccs, ha, htr⟩, k2⟩ => ?_
  subst ha
  have hT2 := hT1.keep k2
  refine ⟨TL_owed Z (by rw [ext_lt (by omega), ext_lt (by omega), ext_lt (by omega), ext_lt (by omega), ext_at]) (by rw [ext_lt (by omega), ext_lt (by omega), ext_lt (by omega), ext_at]) hT2, ?_⟩
  have hlt := hT1.top.lt
  refine s_TSet (n := n + 6) (t := tellPrim fv) (cs := ccs) Z ?_ hq (show ev _ (.tmp (n + 5)) = _ from ext_at) (by simp [opBelow]) (htr.mono fun b hb _ => by omega) hT2 fun w3 hT3 hR3 => ?_
  · rw [ext_lt (by omega), ext_lt (by omega), ext_lt (by omega), ext_lt (by omega), ext_at]
  · refine hk (n + 8) Γ _ w3 (by omega) ⟨[], by simp⟩ (fun y hy => ?_) hT3 (hR3 ((hRaw.keep hT k1).keep hT1 k2))
    rw [ext_lt (by omega), ext_lt (by omega), ext_lt (by omega), ext_lt (by omega), ext_lt (by omega), ext_lt (by omega), ext_lt (by omega), ext_lt (by omega)]

end

end Go.Kf

namespace Go.Kf

open Go

/-- What is known of an element, whose address or value is xv: it will be told as t. -/
def ElSpec (P : Program) (el : TEl) (xv : Value) (t : PT) (w : World) : Prop := match el with
  | .sub f => ∀ w', Keeps [] w w' → Gives P f [xv] w' fun u w2 => (∃ cs, u = .agg ⟨cs⟩ ∧ TreeAt w2 (fun b => w'.heap.size ≤ b) t cs) ∧ Keeps [] w' w2
  | .text => ∃ l, xv = .string (strOf l) ∧ l.length ≤ big ∧ t = .mk 0 l false [] []
  | .num ty => ∃ ik x, xv = .int ik x ∧ P.underlying ty = some (.int ik) ∧ IntKind.i64.wrap x = x ∧ t = .mk x [] false [] []

def elLen : TEl → Nat
  | .sub _ => 1
  | _ => 2

theorem ElSpec.keep {P : Program} {el : TEl} {xv : Value} {t : PT} {w w' : World} (h : ElSpec P el xv t w) (hk : Keeps [] w w') : ElSpec P el xv t w' := by
  cases el with
  | sub f => exact fun w2 k2 => h w2 (hk.trans k2)
  | text => exact h
  | num ty => exact h

theorem TreesAt.append {w : World} {A : Nat → Prop} : ∀ {xs ys : List PT} {a b : List Value}, TreesAt w A xs a → TreesAt w A ys b → TreesAt w A (xs ++ ys) (a ++ b)
  | [], _, _, _, h, h2 => by simp only [TreesAt] at h; subst h; exact h2
  | x :: xs, ys, _, b, ⟨c1, c2, e, h1, h3⟩, h2 => ⟨c1, c2 ++ b, by rw [e]; simp, h1, TreesAt.append h3 h2⟩

theorem TreesAt.cut {w : World} {A : Nat → Prop} : ∀ {ts : List PT} {cs : List Value} {i : Nat} {t : PT}, TreesAt w A ts cs → ts[i]? = some t → ∃ a m z, cs = a ++ m ++ z ∧ a.length = i * 5 ∧ TreesAt w A (ts.take i) a ∧ TreeAt w A t m ∧ TreesAt w A (ts.drop (i + 1)) z
  | [], _, _, _, _, hi => by simp at hi
  | x :: ts, _, 0, t, ⟨c1, c2, e, h1, h2⟩, hi => by
    simp only [List.getElem?_cons_zero, Option.some.injEq] at hi
    subst hi
    exact ⟨[], c1, c2, by simpa using e, by simp, rfl, h1, by simpa using h2⟩
  | x :: ts, _, i + 1, t, ⟨c1, c2, e, h1, h2⟩, hi => by
    simp only [List.getElem?_cons_succ] at hi
    obtain ⟨a, m, z, e2, hl, ha, ht, hz⟩ := TreesAt.cut h2 hi
    exact ⟨c1 ++ a, m, z, by rw [e, e2]; simp, by rw [List.length_append, h1.len, hl]; omega, ⟨c1, a, rfl, h1, ha⟩, ht, by simpa using hz⟩

theorem set_eq {ts : List PT} {q : Nat} {t : PT} (h : q < ts.length) : ts.set q t = ts.take q ++ t :: ts.drop (q + 1) := by
  rw [List.set_eq_take_append_cons_drop, if_pos h]

section

variable {P : Program} {c : Nums} {R : Value → World → Prop} {Γ : List (List Value → World → Prop)} {n : Nat} {ρ : Nat → Value} {w w0 : World}

/-- An element made. -/
theorem s_El {el : TEl} {x : Nat} {Fo : List (Op × Nat)} {xv : Value} {t : PT} {k : Operand → Nat → Tr} (F : RdFacts P c) (Z : TyFacts P c c.tTree c.tTrees c.tTagL c.tTag) (G : buildPlan P c.tTree = some (zeroTree, [(0, 1), (1, 1), (2, 1), (3, 1), (4, 1)])) (hx : ρ x = xv) (hel : ElSpec P el xv t w)
    (hFo : ∀ w', Keeps [] w w' → ∀ p ∈ Fo, runOp P ρ p.1 w' = .ok (.value (ρ p.2)) w')
    (hk : ∀ w' cs e ρ', Keeps [] w w' → TreeAt w' (fun b => w.heap.size ≤ b) t cs → e = .tmp (n + elLen el - 1) → ev ρ' e = .agg ⟨cs⟩ → (∀ y, y < n → ρ' y = ρ y) → (k e (n + elLen el)).sem P R Γ (n + elLen el) ρ' w') : (gElOp c el x Fo n k).sem P R Γ n ρ w := by
  cases el with
  | sub f =>
    have hcall := hel w .refl
    rw [← hx] at hcall
    refine s_call (xs := [.tmp x]) hcall fun v w' ⟨⟨cs, hv, ht⟩, kk⟩ => ⟨hFo w' kk, ?_⟩
    subst hv
    exact hk w' cs (.tmp n) _ kk ht rfl ext_at (fun y hy => ext_lt hy)
  | text =>
    obtain ⟨l, rfl, hl, rfl⟩ := hel
    have hbig : l.length < 4294967296 := by simp only [big] at hl; omega
    obtain ⟨v, w2, e2, ho, k2, hb⟩ := a_stringBytes (P := P) (ρ := ρ) (s := c.tStr) (d := c.tBytes) (x := .tmp x) (w := w) (l := l) F.str F.bytes F.u8 hx (by omega)
    refine s_act e2 (hFo w2 k2) ?_
    have hoct : OctIn w2 (fun b => w.heap.size ≤ b) l v := .of ho.reads (fun b hb' => by
      rw [hb] at hb'
      simp only [List.mem_singleton] at hb'
      omega) hbig
    refine p_val (v_build (cells := [.int .i64 0, v, .bool false, .slice none 0 0, .slice none 0 0]) G (fun p hp => by
      simp only [List.mem_singleton] at hp
      subst hp
      show (ext _ n _ n).oneCell' = true
      rw [ext_at]; exact ho.one) (by
      simp only [List.map_cons, List.map_nil]
      rw [show ev (ext ρ n [v]) (.tmp n) = v from ext_at]
      rfl)) ?_
    exact hk w2 _ (.tmp (n + 1)) _ k2 (oct_tree hoct false) rfl ext_at (fun y hy => by rw [ext_lt (by omega), ext_lt hy])
  | num ty =>
    obtain ⟨ik, xx, rfl, hty, hw, rfl⟩ := hel
    have hr1 : runOp P ρ (.convert ty c.tI64 (.tmp x)) w = .ok (.value (.int .i64 xx)) w := by
      have := v_conv (P := P) (ρ := ρ) (s := ty) (d := c.tI64) (x := .tmp x) (k1 := ik) (a := xx) hty Z.i64 hx w
      rwa [hw] at this
    refine s_act hr1 (hFo w .refl) ?_
    refine p_val (v_build (cells := [.int .i64 xx, .slice none 0 0, .bool false, .slice none 0 0, .slice none 0 0]) G (fun p hp => by
      simp only [List.mem_singleton] at hp
      subst hp
      show (ext _ n _ n).oneCell' = true
      rw [ext_at]; rfl) (by
      simp only [List.map_cons, List.map_nil]
      rw [show ev (ext ρ n [.int .i64 xx]) (.tmp n) = .int .i64 xx from ext_at]
      rfl)) ?_
    exact hk w _ (.tmp (n + 1)) _ .refl (num_tree w _ xx) rfl ext_at (fun y hy => by rw [ext_lt (by omega), ext_lt hy])

/-- Where an element lies, and what of it is read ahead. -/
def ElLaid (P : Program) (c : Nums) (el : TEl) (b o : Nat) (t : PT) (w : World) : Prop := match el with
  | .sub f => ElSpec P (.sub f) (ptr b o) t w
  | .text => ∃ cs v, Has w b cs ∧ cs[o]? = some v ∧ ElSpec P .text v t w ∧ oneTy P c.tStr = true
  | .num ty => ∃ cs v, Has w b cs ∧ cs[o]? = some v ∧ ElSpec P (.num ty) v t w ∧ oneTy P ty = true

theorem ElLaid.keep {el : TEl} {b o : Nat} {t : PT} {w w' : World} (h : ElLaid P c el b o t w) (hk : Keeps [] w w') : ElLaid P c el b o t w' := by
  cases el with
  | sub f => exact fun w2 k2 => h w2 (hk.trans k2)
  | text => obtain ⟨cs, v, h1, h2, h3, h4⟩ := h; exact ⟨cs, v, h1.keep hk (by simp), h2, ElSpec.keep h3 hk, h4⟩
  | num ty => obtain ⟨cs, v, h1, h2, h3, h4⟩ := h; exact ⟨cs, v, h1.keep hk (by simp), h2, ElSpec.keep h3 hk, h4⟩

def elAt : TEl → Nat
  | .sub _ => 0
  | _ => 1

theorem s_ElAt {el : TEl} {b o : Nat} {t : PT} {k : Nat → Nat → List (Op × Nat) → Tr} (hn : 0 < n) (hx : ρ (n - 1) = ptr b o) (h : ElLaid P c el b o t w)
    (hk : ∀ x Fe ρ' xv, x + 1 = n + elAt el → ρ' x = xv → ElSpec P el xv t w → (∀ y, y < n → ρ' y = ρ y) → (∀ ρ2 w', (∀ y, y < n + elAt el → ρ2 y = ρ' y) → Keeps [] w w' → ∀ p ∈ Fe, runOp P ρ2 p.1 w' = .ok (.value (ρ2 p.2)) w') → (k x (n + elAt el) Fe).sem P R Γ (n + elAt el) ρ' w) :
    (gElAt c el n k).sem P R Γ n ρ w := by
  cases el with
  | sub f => exact hk (n - 1) [] ρ _ (by simp only [elAt]; omega) hx h (fun _ _ => rfl) (fun _ _ _ _ p hp => by cases hp)
  | text =>
    obtain ⟨cs, v, h1, h2, h3, h4⟩ := h
    refine l_lok (l_load1 h4 (show ev ρ (.tmp (n - 1)) = _ from hx) h1 h2) ?_
    refine hk n _ _ v rfl ext_at h3 (fun y hy => ext_lt hy) fun ρ2 w' ha kk p hp => ?_
    simp only [List.mem_singleton] at hp
    subst hp
    have e1 : ρ2 (n - 1) = ptr b o := by rw [ha _ (by simp only [elAt]; omega), ext_lt (by omega)]; exact hx
    have e2 : ρ2 n = v := by rw [ha _ (by simp only [elAt]; omega)]; exact ext_at
    show runOp P ρ2 (.load c.tStr (.tmp (n - 1))) w' = .ok (.value (ρ2 n)) w'
    rw [e2]
    exact l_load1 h4 e1 (h1.keep kk (by simp)) h2
  | num ty =>
    obtain ⟨cs, v, h1, h2, h3, h4⟩ := h
    refine l_lok (l_load1 h4 (show ev ρ (.tmp (n - 1)) = _ from hx) h1 h2) ?_
    refine hk n _ _ v rfl ext_at h3 (fun y hy => ext_lt hy) fun ρ2 w' ha kk p hp => ?_
    simp only [List.mem_singleton] at hp
    subst hp
    have e1 : ρ2 (n - 1) = ptr b o := by rw [ha _ (by simp only [elAt]; omega), ext_lt (by omega)]; exact hx
    have e2 : ρ2 n = v := by rw [ha _ (by simp only [elAt]; omega)]; exact ext_at
    show runOp P ρ2 (.load ty (.tmp (n - 1))) w' = .ok (.value (ρ2 n)) w'
    rw [e2]
    exact l_load1 h4 e1 (h1.keep kk (by simp)) h2

theorem keeps_coin (ty : Nat) (b : Bool) (w : World) : Keeps [] w (coinWorld ty b w) := (keeps_alloc w (.cells #[.bool b] ty) []).trans (keeps_drawn _ _ _)

/-- An element of an own row, set anew. -/
theorem Own.setElem {v : Value} {sz m j : Nat} {xs old cs : List Value} (h : Own w v sz m (xs ++ old)) (hx : xs.length = j * sz) (ho : old.length = sz) (hc : cs.length = sz) (h1 : ∀ u ∈ cs, u.oneCell' = true) (hsz : 0 < sz) :
    ∃ b cap, v = .slice (some ⟨b, 0, none⟩) m cap ∧ ∀ (P : Program), ∃ w', (storeCells ⟨b, j * sz, none⟩ cs).run P w = .ok () w' ∧ Own w' v sz m (xs ++ cs) ∧ Keeps [b] w w' := by
  rcases h.2 with ⟨_, h0⟩ | ⟨b, cap, spare, rfl, hh, hcap, h63, hl⟩
  · have := h.1
    rw [h0, Nat.zero_mul, List.length_append] at this
    omega
  · refine ⟨b, cap, rfl, fun P => ?_⟩
    obtain ⟨w', h2, h3, h4⟩ := storeCells_run (P := P) cs w b (j * sz) 0 _ hh (by simp only [List.length_append]; omega) h1
    refine ⟨w', h2, ⟨by have := h.1; simp only [List.length_append] at this ⊢; omega, .inr ⟨b, cap, spare, rfl, ?_, hcap, h63, by simp only [List.length_append] at hl ⊢; omega⟩⟩, h4⟩
    have hsp : splice (xs ++ old ++ spare) (j * sz + 0) cs = xs ++ cs ++ spare := by
      unfold splice
      have t1 : (xs ++ old ++ spare).take (j * sz + 0) = xs := by rw [Nat.add_zero, ← hx, List.append_assoc, List.take_left' rfl]
      have t2 : (xs ++ old ++ spare).drop (j * sz + 0 + cs.length) = spare := by rw [List.drop_left' (by simp; omega)]
      rw [t1, t2]
    rw [hsp] at h3
    exact h3

end

end Go.Kf

namespace Go.Kf

open Go

/-- While a list is told into the thing q: j elements so far. -/
structure LS (w0 w : World) (s0 N q : Nat) (nl : Bool) (ts : List PT) (u : TM) (uv : Value) (tl : List PT) (j : Nat) (lv : Value) (xs a z : List Value) : Prop where
  k : Keeps [] w0 w
  s : s0 ≤ w.heap.size
  s00 : w0.heap.size + 2 < s0
  res : Has w w0.heap.size zeroTree
  top : Has w (w0.heap.size + 2) [.int .i64 0, .slice none 0 0, .bool false, rowV w0 N, uv]
  uok : TagsIn w (fun b => w0.heap.size + 2 < b ∧ b < s0) u uv
  row : Has w (w0.heap.size + 1) (a ++ [.int .i64 0, .slice none 0 0, .bool nl, lv, .slice none 0 0] ++ z)
  al : a.length = q * 5
  rl : (a ++ [.int .i64 0, .slice none 0 0, .bool nl, lv, .slice none 0 0] ++ z).length = N * 5
  ta : TreesAt w (fun b => w0.heap.size + 2 < b ∧ b < s0) (ts.take q) a
  tz : TreesAt w (fun b => w0.heap.size + 2 < b ∧ b < s0) (ts.drop (q + 1)) z
  own : Own w lv 5 j xs
  blk : ∀ b ∈ blkOf lv, s0 ≤ b
  tx : TreesAt w (fun b => s0 ≤ b ∧ b ∉ blkOf lv) (tl.take j) xs

theorem LS.keep {w0 w w' : World} {s0 N q j : Nat} {nl : Bool} {ts tl : List PT} {u : TM} {uv lv : Value} {xs a z : List Value} (h : LS w0 w s0 N q nl ts u uv tl j lv xs a z) (hk : Keeps [] w w') : LS w0 w' s0 N q nl ts u uv tl j lv xs a z :=
  ⟨h.k.trans hk, Nat.le_trans h.s hk.size, h.s00, h.res.keep hk (by simp), h.top.keep hk (by simp), h.uok.keep hk (fun b hb => by cases hb) (fun _ h _ => h), h.row.keep hk (by simp), h.al, h.rl,
    TreesAt.keep hk (fun b hb => by cases hb) (fun _ h _ => h) _ _ h.ta, TreesAt.keep hk (fun b hb => by cases hb) (fun _ h _ => h) _ _ h.tz, h.own.keep hk (by simp), h.blk, TreesAt.keep hk (fun b hb => by cases hb) (fun _ h _ => h) _ _ h.tx⟩

section

variable {P : Program} {c : Nums} {R : Value → World → Prop} {Γ : List (List Value → World → Prop)} {n : Nat} {ρ : Nat → Value} {w w0 : World} {k : Tr} {s0 N q j : Nat} {nl : Bool} {ts tl : List PT} {u : TM} {uv lv : Value} {xs a z : List Value}

theorem LS.slot (h : LS w0 w s0 N q nl ts u uv tl j lv xs a z) : (a ++ [.int .i64 0, .slice none 0 0, .bool nl, lv, .slice none 0 0] ++ z)[q * 5 + 3]? = some lv := by
  rw [List.append_assoc, List.getElem?_append_right (by rw [h.al]; omega), h.al, show q * 5 + 3 - q * 5 = 3 by omega]
  rfl

/-- The address of the thing q. -/
theorem v_slot {x : Operand} (Z : TyFacts P c c.tTree c.tTrees c.tTagL c.tTag) (hx : ev ρ x = rowV w0 N) (hq : q < N) : Val P ρ (.indexAddr c.tTrees x (qV q)) (ptr (w0.heap.size + 1) (q * 5)) := by
  have hszT : (P.info? c.tTree).map (·.size) = some 5 := (aggTy_spec (w := w0) Z.agg).2
  have hv := v_indexAddr (P := P) (ρ := ρ) (t := c.tTrees) (x := x) (i := qV q) (b := w0.heap.size + 1) (o := 0) (l := N) (c := N) (j := q) (kk := .i64) Z.sl hszT hx rfl (by omega) (by omega)
  rwa [show (0 : Nat) + (q : Int).toNat * 5 = q * 5 by simp] at hv

/-- t.L[q].L set: the row's cell. -/
theorem LS.setSlot {v' : Value} (h : LS w0 w s0 N q nl ts u uv tl j lv xs a z) {w' : World} (hh : Has w' (w0.heap.size + 1) ((a ++ [.int .i64 0, .slice none 0 0, .bool nl, lv, .slice none 0 0] ++ z).set (q * 5 + 3) v')) : Has w' (w0.heap.size + 1) (a ++ [.int .i64 0, .slice none 0 0, .bool nl, v', .slice none 0 0] ++ z) := by
  have : (a ++ [Value.int .i64 0, .slice none 0 0, .bool nl, lv, .slice none 0 0] ++ z).set (q * 5 + 3) v' = a ++ [.int .i64 0, .slice none 0 0, .bool nl, v', .slice none 0 0] ++ z := by
    rw [List.append_assoc, List.set_append_right _ _ (by rw [h.al]; omega), h.al, show q * 5 + 3 - q * 5 = 3 by omega, List.append_assoc]
    rfl
  rwa [this] at hh

/-- One element more: appended whole. -/
theorem LS.next {w1 w2 w3 : World} {t : PT} {cs : List Value} {v' : Value} (h : LS w0 w s0 N q nl ts u uv tl j lv xs a z) (hj : j < tl.length) (ht : tl[j] = t) (k1 : Keeps [] w w1) (htr : TreeAt w1 (fun b => w.heap.size ≤ b) t cs)
    (hown : Own w2 v' 5 (j + 1) (xs ++ cs)) (k2 : Keeps (blkOf lv) w1 w2) (hb : ∀ b ∈ blkOf v', b ∈ blkOf lv ∨ w1.heap.size ≤ b) (hh : Has w3 (w0.heap.size + 1) ((a ++ [.int .i64 0, .slice none 0 0, .bool nl, lv, .slice none 0 0] ++ z).set (q * 5 + 3) v')) (k3 : Keeps [w0.heap.size + 1] w2 w3) :
    LS w0 w3 s0 N q nl ts u uv tl (j + 1) v' (xs ++ cs) a z := by
  have h1 := h.keep k1
  have hs := h.s
  have hs0 := h.s00
  have hs1 := k1.size
  have hs2 := k2.size
  have hs3 := k3.size
  have hlt := h1.own.lt
  have hlt0 := h.own.lt
  have kall : Keeps [] w0 w3 := ((h1.k.mono (by simp)).trans ((k2.mono fun x hx => List.mem_append_left _ hx).trans (k3.mono fun x hx => List.mem_append_right _ hx)) : Keeps (blkOf lv ++ [w0.heap.size + 1]) w0 w3).less fun x hx => .inr (by
    rcases List.mem_append.1 hx with h' | h'
    · have := h.blk _ h'; omega
    · simp only [List.mem_singleton] at h'; omega)
  have nb : ∀ {b : Nat}, b < s0 → b ∉ blkOf lv := fun hlt' hb' => by have := h.blk _ hb'; omega
  have old : ∀ {b : Nat} {cs' : List Value}, Has w1 b cs' → b < s0 → b ≠ w0.heap.size + 1 → Has w3 b cs' := fun hc hb' hne => (hc.keep k2 (nb hb')).keep k3 (by simpa using hne)
  have A2 : ∀ b ∈ blkOf lv, ¬ (w0.heap.size + 2 < b ∧ b < s0) := fun b hb' h' => by have := h.blk b hb'; omega
  have A3 : ∀ b ∈ [w0.heap.size + 1], ¬ (w0.heap.size + 2 < b ∧ b < s0) := fun b hb' h' => by simp only [List.mem_singleton] at hb'; omega
  have hb' : ∀ b ∈ blkOf v', s0 ≤ b := fun b hb2 => by
    rcases hb b hb2 with h' | h'
    · exact h.blk b h'
    · omega
  refine ⟨kall, by omega, hs0, old h1.res (by omega) (by omega), old h1.top (by omega) (by omega), (h1.uok.keep k2 A2 (fun _ h _ => h)).keep k3 A3 (fun _ h _ => h), h.setSlot hh, h.al, ?_,
    TreesAt.keep k3 A3 (fun _ h _ => h) _ _ (TreesAt.keep k2 A2 (fun _ h _ => h) _ _ h1.ta), TreesAt.keep k3 A3 (fun _ h _ => h) _ _ (TreesAt.keep k2 A2 (fun _ h _ => h) _ _ h1.tz), hown.keep k3 (fun b hb2 => by have := hb' b hb2; simp only [List.mem_singleton]; omega), hb', ?_⟩
  · have := h.rl
    simp only [List.length_append, List.length_cons, List.length_nil] at this ⊢
    exact this
  · rw [List.take_succ_eq_append_getElem hj, ht]
    refine TreesAt.snoc ?_ ?_
    · have t1 := htr.mono (A' := fun b => w.heap.size ≤ b ∧ b < w1.heap.size) fun b h' hlt' => ⟨h', hlt'⟩
      have t2 := TreeAt.keep k2 (fun b hb2 h' => by have := hlt0 b hb2; omega) (fun _ h _ => h) _ _ t1
      exact TreeAt.keep k3 (fun b hb2 h' => by simp only [List.mem_singleton] at hb2; omega) (fun b h' _ => ⟨by omega, fun hb2 => by
        rcases hb b hb2 with h5 | h5
        · have := hlt0 b h5; omega
        · omega⟩) _ _ t2
    · have t1 := h1.tx.mono (A' := fun b => (s0 ≤ b ∧ b ∉ blkOf lv) ∧ b < w1.heap.size) fun b h' hlt' => ⟨h', hlt'⟩
      have t2 := TreesAt.keep k2 (fun b hb2 h' => h'.1.2 hb2) (fun _ h _ => h) _ _ t1
      exact TreesAt.keep k3 (fun b hb2 h' => by simp only [List.mem_singleton] at hb2; have := h'.1.1; omega) (fun b h' _ => ⟨h'.1.1, fun hb2 => by
        rcases hb b hb2 with h5 | h5
        · exact h'.1.2 h5
        · have := h'.2; omega⟩) _ _ t2

end

end Go.Kf

namespace Go.Kf

open Go

section

variable {P : Program} {c : Nums} {R : Value → World → Prop} {Γ : List (List Value → World → Prop)} {ρ : Nat → Value} {w w0 : World} {s0 N q j : Nat} {nl : Bool} {ts tl : List PT} {u : TM} {uv lv : Value} {xs a z : List Value}

theorem sem_listB {S i tySl T sz off V m jid d B o cap : Nat} {el : TEl} {t : PT} {sv : Value} {pre vcs : List Value} {J : List Value → World → Prop} (F : RdFacts P c) (Z : TyFacts P c c.tTree c.tTrees c.tTagL c.tTag) (G : buildPlan P c.tTree = some (zeroTree, [(0, 1), (1, 1), (2, 1), (3, 1), (4, 1)])) (Rw : RowFacts P c.tTree 5)
    (hfld : fieldOff P S i = some off) (hone : oneTy P tySl = true) (hsl : P.underlying tySl = some (.slice T)) (hsz : (P.info? T).map (·.size) = some sz) (hm : 6 ≤ m) (hjid : jid < m) (h0 : ρ 0 = ptr V pre.length) (h4 : ρ 4 = ptr (w0.heap.size + 2)) (hjv : ρ jid = .int .i64 j) (hq : q < N)
    (hV : Has w V vcs) (hVlt : V < w0.heap.size) (hvc : vcs[pre.length + off]? = some sv) (hsv : sv = .slice (some ⟨B, o, none⟩) tl.length cap) (hj : j < tl.length) (htl : tl.length < 4294967296) (ht : tl[j] = t) (hel : ElLaid P c el B (o + j * sz) t w) (h : LS w0 w s0 N q nl ts u uv tl j lv xs a z)
    (hΓ : Γ[d]? = some J) (hJ : ∀ w' lv' xs', LS w0 w' s0 N q nl ts u uv tl (j + 1) lv' xs' a z → J [.int .i64 (j + 1 : Nat)] w') : (gListB c S i tySl q jid d m el).sem P R Γ m ρ w := by
  have hd : Keeps [] w { w with drawn := w.drawn + 1 } := keeps_drawn w _ _
  unfold gListB gTL
  show Tr.sem _ _ _ _ _ _ { w with drawn := w.drawn + 1 }
  generalize ({ w with drawn := w.drawn + 1 } : World) = w1 at hd ⊢
  have h1 := h.keep hd
  have hV1 := hV.keep hd (by simp)
  have hel1 := hel.keep hd
  have hs := h.s
  have hs00 := h.s00
  refine p_fl Z.f3 Z.oneTrees (show ev ρ (.tmp 4) = ptr (w0.heap.size + 2) from h4) rfl h1.top rfl ?_
  refine p_fl (n := m + 2) Z.f3 Z.oneTrees (show ev _ (.tmp 4) = ptr (w0.heap.size + 2) by show ext _ _ _ 4 = _; rw [ext_lt (by omega), ext_lt (by omega)]; exact h4) rfl h1.top rfl ?_
  refine p_val (v_slot (w0 := w0) (N := N) Z (show ev _ (.tmp (m + 3)) = _ from ext_at) hq) ?_
  refine p_fl (n := m + 5) Z.f3 Z.oneTrees (show ev _ (.tmp (m + 4)) = ptr (w0.heap.size + 1) (q * 5) from ext_at) rfl h1.row h1.slot ?_
  refine s_VX (n := m + 7) (V := V) (pre := pre) hfld hone (by rw [ext_lt (by omega), ext_lt (by omega), ext_lt (by omega), ext_lt (by omega), ext_lt (by omega), ext_lt (by omega), ext_lt (by omega)]; exact h0) hV1 hvc ?_
  have hidx := v_indexAddr (P := P) (ρ := ext (ext (ext (ext (ext (ext (ext (ext (ext (ext ρ m [ptr (w0.heap.size + 2) (0 + 3)]) (m + 1) [rowV w0 N]) (m + 2) [ptr (w0.heap.size + 2) (0 + 3)]) (m + 2 + 1) [rowV w0 N]) (m + 2 + 2) [ptr (w0.heap.size + 1) (q * 5)]) (m + 5) [ptr (w0.heap.size + 1) (q * 5 + 3)]) (m + 5 + 1) [lv]) (m + 7) [ptr V pre.length]) (m + 7 + 1) [ptr V (pre.length + off)]) (m + 7 + 2) [sv])
    (t := tySl) (x := .tmp (m + 9)) (i := .tmp jid) (b := B) (o := o) (l := tl.length) (c := cap) (j := j) (kk := .i64) hsl hsz (by show ext _ (m + 7 + 2) _ (m + 9) = _; rw [ext_at]; exact hsv) (by show ext _ _ _ jid = _; rw [ext_lt (by omega), ext_lt (by omega), ext_lt (by omega), ext_lt (by omega), ext_lt (by omega), ext_lt (by omega), ext_lt (by omega), ext_lt (by omega), ext_lt (by omega), ext_lt (by omega)]; exact hjv) (by omega) (by omega)
  rw [Int.toNat_natCast] at hidx
  refine p_val hidx ?_
  generalize hρA : ext (ext (ext (ext (ext (ext (ext (ext (ext (ext (ext ρ m [ptr (w0.heap.size + 2) (0 + 3)]) (m + 1) [rowV w0 N]) (m + 2) [ptr (w0.heap.size + 2) (0 + 3)]) (m + 2 + 1) [rowV w0 N]) (m + 2 + 2) [ptr (w0.heap.size + 1) (q * 5)]) (m + 5) [ptr (w0.heap.size + 1) (q * 5 + 3)]) (m + 5 + 1) [lv]) (m + 7) [ptr V pre.length]) (m + 7 + 1) [ptr V (pre.length + off)]) (m + 7 + 2) [sv]) (m + 7 + 3) [.pointer (some ⟨B, o + j * sz, none⟩)] = ρA
  have f0 : ρA m = ptr (w0.heap.size + 2) (0 + 3) := by
    subst hρA
    repeat rw [ext_lt (by omega)]
    exact ext_at
  have f1 : ρA (m + 1) = rowV w0 N := by
    subst hρA
    repeat rw [ext_lt (by omega)]
    exact ext_at
  have f2 : ρA (m + 2) = ptr (w0.heap.size + 2) (0 + 3) := by
    subst hρA
    repeat rw [ext_lt (by omega)]
    exact ext_at
  have f3 : ρA (m + 3) = rowV w0 N := by
    subst hρA
    repeat rw [ext_lt (by omega)]
    exact ext_at
  have f5 : ρA (m + 5) = ptr (w0.heap.size + 1) (q * 5 + 3) := by
    subst hρA
    repeat rw [ext_lt (by omega)]
    exact ext_at
  have f6 : ρA (m + 6) = lv := by
    subst hρA
    repeat rw [ext_lt (by omega)]
    exact ext_at
  have f8 : ρA (m + 8) = ptr V (pre.length + off) := by
    subst hρA
    repeat rw [ext_lt (by omega)]
    exact ext_at
  have f9 : ρA (m + 9) = sv := by
    subst hρA
    repeat rw [ext_lt (by omega)]
    exact ext_at
  have f10 : ρA (m + 10) = ptr B (o + j * sz) := by
    subst hρA
    repeat rw [ext_lt (by omega)]
    exact ext_at
  have fj : ρA jid = .int .i64 j := by
    subst hρA
    repeat rw [ext_lt (by omega)]
    exact hjv
  clear hρA hidx
  refine s_ElAt (n := m + 11) (by omega) f10 hel1 fun x Fe ρ1 xv hx hxv hspec hag1 _ => ?_
  have hFo : ∀ (ρ2 : Nat → Value) (w2 : World), (∀ y, y < m + 11 → ρ2 y = ρA y) → Has w2 (w0.heap.size + 2) [.int .i64 0, .slice none 0 0, .bool false, rowV w0 N, uv] → Has w2 V vcs →
      ∀ p ∈ [(Op.load tySl (.tmp (m + 8)), m + 9), (.load c.tTrees (.tmp (m + 2)), m + 3), (.load c.tTrees (.tmp m), m + 1)], runOp P ρ2 p.1 w2 = .ok (.value (ρ2 p.2)) w2 := by
    intro ρ2 w2 hag hT hVV p hp
    simp only [List.mem_cons, List.not_mem_nil, or_false] at hp
    rcases hp with rfl | rfl | rfl
    · show runOp P ρ2 (.load tySl (.tmp (m + 8))) w2 = .ok (.value (ρ2 (m + 9))) w2
      rw [hag (m + 9) (by omega), f9]
      exact l_load1 (b := V) (o := pre.length + off) hone (by show ρ2 (m + 8) = _; rw [hag _ (by omega), f8]; rfl) hVV hvc
    · show runOp P ρ2 (.load c.tTrees (.tmp (m + 2))) w2 = .ok (.value (ρ2 (m + 3))) w2
      rw [hag (m + 3) (by omega), f3]
      exact l_load1 (b := w0.heap.size + 2) (o := 0 + 3) Z.oneTrees (by show ρ2 (m + 2) = _; rw [hag _ (by omega), f2]; rfl) hT rfl
    · show runOp P ρ2 (.load c.tTrees (.tmp m)) w2 = .ok (.value (ρ2 (m + 1))) w2
      rw [hag (m + 1) (by omega), f1]
      exact l_load1 (b := w0.heap.size + 2) (o := 0 + 3) Z.oneTrees (by show ρ2 m = _; rw [hag _ (by omega), f0]; rfl) hT rfl
  have hFo4 : ∀ (ρ2 : Nat → Value) (w2 : World), (∀ y, y < m + 11 → ρ2 y = ρA y) → Keeps [] w1 w2 →
      ∀ p ∈ [(Op.load tySl (.tmp (m + 8)), m + 9), (.load c.tTrees (.tmp (m + 5)), m + 6), (.load c.tTrees (.tmp (m + 2)), m + 3), (.load c.tTrees (.tmp m), m + 1)], runOp P ρ2 p.1 w2 = .ok (.value (ρ2 p.2)) w2 := by
    intro ρ2 w2 hag kk p hp
    have hb := hFo ρ2 w2 hag (h1.top.keep kk (by simp)) (hV1.keep kk (by simp))
    simp only [List.mem_cons, List.not_mem_nil, or_false] at hp
    rcases hp with rfl | rfl | rfl | rfl
    · exact hb _ (by simp)
    · show runOp P ρ2 (.load c.tTrees (.tmp (m + 5))) w2 = .ok (.value (ρ2 (m + 6))) w2
      rw [hag (m + 6) (by omega), f6]
      exact l_load1 (b := w0.heap.size + 1) (o := q * 5 + 3) Z.oneTrees (by show ρ2 (m + 5) = _; rw [hag _ (by omega), f5]; rfl) (h1.row.keep kk (by simp)) h1.slot
    · exact hb _ (by simp)
    · exact hb _ (by simp)
  have hle : elAt el ≤ 1 := by cases el <;> simp [elAt]
  have hlen : 1 ≤ elLen el := by cases el <;> simp [elLen]
  refine s_El (n := m + 11 + elAt el) F Z G hxv hspec (fun w2 k2 => hFo4 ρ1 w2 hag1 k2) fun w2 cs e ρ2 k2 htr he hev hag2 => ?_
  have hagA : ∀ y, y < m + 11 → ρ2 y = ρA y := fun y hy => (hag2 y (by omega)).trans (hag1 y hy)
  have hcl := htr.len
  refine s_oneSlice Rw Z.sl (x := e) (cs := cs) (by rw [hev]; rfl) hcl fun w3 hr3 k3 z3 => ⟨hFo4 ρ2 w3 hagA (k2.trans k3), ?_⟩
  have k13 : Keeps [] w1 w3 := k2.trans k3
  have hown3 := h1.own.keep k13 (by simp)
  refine s_appendOne (m := j) (v := lv) (u := .slice (some ⟨w2.heap.size, 0, none⟩) 1 1) (xs := xs) (cs := cs) Rw Z.sl (by show ext _ _ _ (m + 6) = _; rw [ext_lt (by omega), hagA _ (by omega), f6]) ext_at hown3 hr3 htr.ones (by omega) fun v' w4 hown4 k4 hb4 => ⟨?_, ?_⟩
  · refine hFo _ w4 (fun y hy => by rw [ext_lt (by omega)]; exact hagA y hy) ((h1.top.keep k13 (by simp)).keep k4 fun hb => ?_) ((hV1.keep k13 (by simp)).keep k4 fun hb => ?_)
    · have := h1.blk _ hb; omega
    · have := h1.blk _ hb; omega
  have hrow4 := (h1.row.keep k13 (by simp)).keep k4 fun hb => by have := h1.blk _ hb; omega
  refine p_val (v_slot (w0 := w0) (N := N) Z (show ev _ (.tmp (m + 1)) = _ by show ext _ _ _ (m + 1) = _; rw [ext_lt (by omega), ext_lt (by omega), hagA _ (by omega), f1]) hq) ?_
  have hl3 : q * 5 + 3 < (a ++ [Value.int .i64 0, .slice none 0 0, .bool nl, lv, .slice none 0 0] ++ z).length := (List.getElem?_eq_some_iff.1 h1.slot).1
  refine p_fs (n := m + 11 + elAt el + elLen el + 3) (v := v') Z.f3 Z.oneTrees (show ev _ (.tmp (m + 11 + elAt el + elLen el + 2)) = ptr (w0.heap.size + 1) (q * 5) from ext_at) rfl (by show ext _ _ _ (m + 11 + elAt el + elLen el + 1) = _; rw [ext_lt (by omega)]; exact ext_at) (by simp [opBelow]) hown4.one hrow4 hl3 fun w5 hrow5 k5 => ?_
  refine s_val (v_arith (kk := .i64) (a := j) (b := 1) (r := ((j + 1 : Nat) : Int)) (by show ext _ _ _ jid = _; rw [ext_lt (by omega), ext_lt (by omega), ext_lt (by omega), ext_lt (by omega), ext_lt (by omega), hagA _ (by omega), fj]) rfl ?_) ?_
  · simp only [arithOf, Option.some.injEq]; rw [IntKind.wrap_i64]; omega
  refine ⟨J, hΓ, ?_⟩
  have hlast := hJ w5 v' (xs ++ cs) (h1.next hj ht k13 (TreeAt.keep k3 (fun b hb => by cases hb) (fun _ h _ => h) _ _ htr) hown4 k4 hb4 hrow5 k5)
  show J [ext _ (m + 11 + elAt el + elLen el + 3 + 2) _ (m + 11 + elAt el + elLen el + 5)] w5
  rw [ext_at]
  exact hlast

end

end Go.Kf

namespace Go.Kf

open Go

section

variable {P : Program} {c : Nums} {R : Value → World → Prop} {Γ : List (List Value → World → Prop)} {ρ : Nat → Value} {w w0 : World} {s0 N q j : Nat} {nl : Bool} {ts tl : List PT} {u : TM} {uv lv : Value} {xs a z : List Value}

/-- One element more: appended as nought, and set. -/
theorem LS.next2 {w2 w3 w4 : World} {t : PT} {cs : List Value} {v' : Value} {b' : Nat} (h : LS w0 w s0 N q nl ts u uv tl j lv xs a z) (hj : j < tl.length) (ht : tl[j] = t) (htr : TreeAt w (fun b => s0 ≤ b ∧ b ∉ blkOf lv) t cs)
    (k2 : Keeps (blkOf lv) w w2) (hb : ∀ b ∈ blkOf v', b ∈ blkOf lv ∨ w.heap.size ≤ b) (hh : Has w3 (w0.heap.size + 1) ((a ++ [.int .i64 0, .slice none 0 0, .bool nl, lv, .slice none 0 0] ++ z).set (q * 5 + 3) v')) (k3 : Keeps [w0.heap.size + 1] w2 w3)
    (hown : Own w4 v' 5 (j + 1) (xs ++ cs)) (k4 : Keeps [b'] w3 w4) (hb' : b' ∈ blkOf v') : LS w0 w4 s0 N q nl ts u uv tl (j + 1) v' (xs ++ cs) a z := by
  have hs := h.s
  have hs0 := h.s00
  have hs2 := k2.size
  have hs3 := k3.size
  have hs4 := k4.size
  have hlt0 := h.own.lt
  have hbs : ∀ b ∈ blkOf v', s0 ≤ b := fun b hb2 => by
    rcases hb b hb2 with h' | h'
    · exact h.blk b h'
    · omega
  have hb's := hbs b' hb'
  have kall : Keeps [] w0 w4 := ((h.k.mono (by simp)).trans ((k2.mono fun x hx => List.mem_append_left _ hx).trans ((k3.mono fun x hx => List.mem_append_right _ (by simp at hx ⊢; exact .inl hx)).trans (k4.mono fun x hx => List.mem_append_right _ (by simp at hx ⊢; exact .inr hx)))) : Keeps (blkOf lv ++ [w0.heap.size + 1, b']) w0 w4).less fun x hx => .inr (by
    rcases List.mem_append.1 hx with h' | h'
    · have := h.blk _ h'; omega
    · simp only [List.mem_cons, List.not_mem_nil, or_false] at h'; omega)
  have nb : ∀ {b : Nat}, b < s0 → b ∉ blkOf lv := fun hlt' hb2 => by have := h.blk _ hb2; omega
  have old : ∀ {b : Nat} {cs' : List Value}, Has w b cs' → b < s0 → b ≠ w0.heap.size + 1 → Has w4 b cs' := fun hc hlt' hne => ((hc.keep k2 (nb hlt')).keep k3 (by simpa using hne)).keep k4 (by simp; omega)
  have A2 : ∀ b ∈ blkOf lv, ¬ (w0.heap.size + 2 < b ∧ b < s0) := fun b hb2 h' => by have := h.blk b hb2; omega
  have A3 : ∀ b ∈ [w0.heap.size + 1], ¬ (w0.heap.size + 2 < b ∧ b < s0) := fun b hb2 h' => by simp only [List.mem_singleton] at hb2; omega
  have A4 : ∀ b ∈ [b'], ¬ (w0.heap.size + 2 < b ∧ b < s0) := fun b hb2 h' => by simp only [List.mem_singleton] at hb2; omega
  have out : ∀ {b : Nat}, b ∉ blkOf lv → b < w.heap.size → b ∉ blkOf v' := fun h1 h2 hb2 => by
    rcases hb _ hb2 with h5 | h5
    · exact h1 h5
    · omega
  refine ⟨kall, by omega, hs0, old h.res (by omega) (by omega), old h.top (by omega) (by omega), ((h.uok.keep k2 A2 (fun _ h _ => h)).keep k3 A3 (fun _ h _ => h)).keep k4 A4 (fun _ h _ => h), (h.setSlot hh).keep k4 (by simp; omega), h.al, ?_,
    TreesAt.keep k4 A4 (fun _ h _ => h) _ _ (TreesAt.keep k3 A3 (fun _ h _ => h) _ _ (TreesAt.keep k2 A2 (fun _ h _ => h) _ _ h.ta)), TreesAt.keep k4 A4 (fun _ h _ => h) _ _ (TreesAt.keep k3 A3 (fun _ h _ => h) _ _ (TreesAt.keep k2 A2 (fun _ h _ => h) _ _ h.tz)), hown, hbs, ?_⟩
  · have := h.rl
    simp only [List.length_append, List.length_cons, List.length_nil] at this ⊢
    exact this
  · rw [List.take_succ_eq_append_getElem hj, ht]
    have B2 : ∀ b ∈ blkOf lv, ¬ ((s0 ≤ b ∧ b ∉ blkOf lv) ∧ b < w.heap.size) := fun b hb2 h' => h'.1.2 hb2
    have B3 : ∀ b ∈ [w0.heap.size + 1], ¬ ((s0 ≤ b ∧ b ∉ blkOf lv) ∧ b < w.heap.size) := fun b hb2 h' => by simp only [List.mem_singleton] at hb2; have := h'.1.1; omega
    have B4 : ∀ b ∈ [b'], ¬ ((s0 ≤ b ∧ b ∉ blkOf lv) ∧ b < w.heap.size) := fun b hb2 h' => by
      simp only [List.mem_singleton] at hb2
      subst hb2
      exact out h'.1.2 h'.2 hb'
    refine TreesAt.snoc ?_ ?_
    · have t1 := htr.mono (A' := fun b => (s0 ≤ b ∧ b ∉ blkOf lv) ∧ b < w.heap.size) fun b h' hlt' => ⟨h', hlt'⟩
      exact TreeAt.keep k4 B4 (fun b h' _ => ⟨h'.1.1, out h'.1.2 h'.2⟩) _ _ (TreeAt.keep k3 B3 (fun _ h _ => h) _ _ (TreeAt.keep k2 B2 (fun _ h _ => h) _ _ t1))
    · have t1 := h.tx.mono (A' := fun b => (s0 ≤ b ∧ b ∉ blkOf lv) ∧ b < w.heap.size) fun b h' hlt' => ⟨h', hlt'⟩
      exact TreesAt.keep k4 B4 (fun b h' _ => ⟨h'.1.1, out h'.1.2 h'.2⟩) _ _ (TreesAt.keep k3 B3 (fun _ h _ => h) _ _ (TreesAt.keep k2 B2 (fun _ h _ => h) _ _ t1))

/-- What follows once the element and the nought are at hand. -/
theorem sem_last {m n x jid d : Nat} {e zo : Operand} {t : PT} {cs : List Value} {zv : Value} {J : List Value → World → Prop} (Z : TyFacts P c c.tTree c.tTrees c.tTagL c.tTag) (Rw : RowFacts P c.tTree 5) (hmn : m + 4 < n) (hxn : x + 1 < n) (hjn : jid < n)
    (h4 : ρ (m + 4) = lv) (h1 : ρ (m + 1) = rowV w0 N) (hx : ρ (x + 1) = .int .i64 j) (hjv : ρ jid = .int .i64 j) (hz : ev ρ zo = zv) (he : ev ρ e = .agg ⟨cs⟩) (hbe : opBelow n e) (hq : q < N) (hj : j < tl.length) (htl : tl.length < 4294967296) (ht : tl[j] = t)
    (hr : Reads w zv 5 1 zeroTree) (htr : TreeAt w (fun b => s0 ≤ b ∧ b ∉ blkOf lv) t cs) (h : LS w0 w s0 N q nl ts u uv tl j lv xs a z) (hΓ : Γ[d]? = some J) (hJ : ∀ w' lv' xs', LS w0 w' s0 N q nl ts u uv tl (j + 1) lv' xs' a z → J [.int .i64 (j + 1 : Nat)] w') :
    (Tr.op (.call { callee := .builtin .append, args := ⟨[.tmp (m + 4), zo]⟩, argTypes := ⟨[c.tTrees, c.tTrees]⟩ }) none [] <|
      .pur (.indexAddr c.tTrees (.tmp (m + 1)) (qV q)) none <| .pur (.fieldAddr c.tTree (.tmp (n + 1)) 3) none <| .op (.store c.tTrees (.tmp (n + 2)) (.tmp n)) none [] <|
      .op (.indexAddr c.tTrees (.tmp n) (.tmp (x + 1))) none [] <| .op (.store c.tTree (.tmp (n + 4)) e) none [] <| .op (.binOp .add c.tInt (.tmp jid) (.const (.int .i64 1)) c.tInt) none [] <| .to d [.tmp (n + 6)]).sem P R Γ n ρ w := by
  have hs := h.s
  have hs00 := h.s00
  refine s_appendOne (m := j) (v := lv) (u := zv) (xs := xs) (cs := zeroTree) Rw Z.sl h4 hz h.own hr (zeroTree_at w (fun _ => True)).ones (by omega) fun v' w2 hown2 k2 hb2 => ⟨fun p hp => (by cases hp), ?_⟩
  have hrow2 := h.row.keep k2 fun hb => by have := h.blk _ hb; omega
  have hl3 := (List.getElem?_eq_some_iff.1 h.slot).1
  refine p_val (v_slot (w0 := w0) (N := N) Z (show ev _ (.tmp (m + 1)) = _ by show ext _ _ _ (m + 1) = _; rw [ext_lt (by omega), h1]) hq) ?_
  refine p_fs (n := n + 2) (v := v') Z.f3 Z.oneTrees (show ev _ (.tmp (n + 1)) = ptr (w0.heap.size + 1) (q * 5) from ext_at) rfl (by show ext _ _ _ n = _; rw [ext_lt (by omega)]; exact ext_at) (by simp [opBelow]) hown2.one hrow2 hl3 fun w3 hrow3 k3 => ?_
  have hown3 : Own w3 v' 5 (j + 1) (xs ++ zeroTree) := hown2.keep k3 fun b hb => by
    simp only [List.mem_singleton]
    rcases hb2 b hb with h' | h'
    · have := h.blk b h'; omega
    · omega
  have hxl : xs.length = j * 5 := h.own.1
  have hcl := htr.len
  obtain ⟨b', cap', rfl, hset⟩ := hown3.setElem hxl rfl hcl htr.ones (by omega)
  obtain ⟨w4, e4, hown4, k4⟩ := hset P
  have hszT : (P.info? c.tTree).map (·.size) = some 5 := (aggTy_spec (w := w0) Z.agg).2
  have hidx := v_indexAddr (P := P) (ρ := ext (ext (ext (ext ρ n [.slice (some ⟨b', 0, none⟩) (j + 1) cap']) (n + 1) [ptr (w0.heap.size + 1) (q * 5)]) (n + 2) [ptr (w0.heap.size + 1) (q * 5 + 3)]) (n + 2 + 1) [undef]) (t := c.tTrees) (x := .tmp n) (i := .tmp (x + 1)) (b := b') (o := 0) (l := j + 1) (c := cap') (j := j) (kk := .i64) Z.sl hszT
    (by show ext _ _ _ n = _; rw [ext_lt (by omega), ext_lt (by omega), ext_lt (by omega)]; exact ext_at) (by show ext _ _ _ (x + 1) = _; rw [ext_lt (by omega), ext_lt (by omega), ext_lt (by omega), ext_lt (by omega)]; exact hx) (by omega) (by omega)
  rw [show (0 : Nat) + (j : Int).toNat * 5 = j * 5 by simp] at hidx
  refine s_val hidx ?_
  have hst : runOp P (ext (ext (ext (ext (ext ρ n [.slice (some ⟨b', 0, none⟩) (j + 1) cap']) (n + 1) [ptr (w0.heap.size + 1) (q * 5)]) (n + 2) [ptr (w0.heap.size + 1) (q * 5 + 3)]) (n + 2 + 1) [undef]) (n + 2 + 2) [.pointer (some ⟨b', j * 5, none⟩)]) (.store c.tTree (.tmp (n + 4)) e) w3 = .ok .skip w4 := by
    have hy : ev (ext (ext (ext (ext (ext ρ n [.slice (some ⟨b', 0, none⟩) (j + 1) cap']) (n + 1) [ptr (w0.heap.size + 1) (q * 5)]) (n + 2) [ptr (w0.heap.size + 1) (q * 5 + 3)]) (n + 2 + 1) [undef]) (n + 2 + 2) [.pointer (some ⟨b', j * 5, none⟩)]) e = .agg ⟨cs⟩ := by
      rw [ev_ext' hbe, ev_ext' hbe, ev_ext' hbe, ev_ext' hbe, ev_ext' hbe, he] <;> omega
    have hx4 : ev (ext (ext (ext (ext (ext ρ n [.slice (some ⟨b', 0, none⟩) (j + 1) cap']) (n + 1) [ptr (w0.heap.size + 1) (q * 5)]) (n + 2) [ptr (w0.heap.size + 1) (q * 5 + 3)]) (n + 2 + 1) [undef]) (n + 2 + 2) [.pointer (some ⟨b', j * 5, none⟩)]) (.tmp (n + 4)) = .pointer (some ⟨b', j * 5, none⟩) := ext_at
    unfold runOp bareOp
    simp only [execOp, hx4, hy, Instr.storeAt, Instr.sureAddr, storeVar, Sem.run_bind, Sem.run_pure, Result.andThen_ok, size_run hszT, Value.cells]
    rw [if_neg (by simp [hcl])]
    rw [e4]
    rfl
  refine s_unit hst (fun p hp => (by cases hp)) ?_
  refine s_val (v_arith (kk := .i64) (a := j) (b := 1) (r := ((j + 1 : Nat) : Int)) (by show ext _ _ _ jid = _; rw [ext_lt (by omega), ext_lt (by omega), ext_lt (by omega), ext_lt (by omega), ext_lt (by omega), ext_lt (by omega)]; exact hjv) rfl ?_) ?_
  · simp only [arithOf, Option.some.injEq]; rw [IntKind.wrap_i64]; omega
  refine ⟨J, hΓ, ?_⟩
  have hlast := hJ w4 _ (xs ++ cs) (h.next2 hj ht htr k2 hb2 hrow3 k3 hown4 k4 (by simp [blkOf]))
  show J [ext _ (n + 2 + 2 + 1 + 1) _ (n + 6)] w4
  rw [show n + 6 = n + 2 + 2 + 1 + 1 from rfl, ext_at]
  exact hlast

end

end Go.Kf

namespace Go.Kf

open Go

section

variable {P : Program} {c : Nums} {R : Value → World → Prop} {Γ : List (List Value → World → Prop)} {ρ : Nat → Value} {w w0 : World} {s0 N q j : Nat} {nl : Bool} {ts tl : List PT} {u : TM} {uv lv : Value} {xs a z : List Value}

theorem sem_listA {S i tySl T sz off V m jid d B o cap : Nat} {el : TEl} {t : PT} {sv : Value} {pre vcs : List Value} {J : List Value → World → Prop} (F : RdFacts P c) (Z : TyFacts P c c.tTree c.tTrees c.tTagL c.tTag) (G : buildPlan P c.tTree = some (zeroTree, [(0, 1), (1, 1), (2, 1), (3, 1), (4, 1)])) (Rw : RowFacts P c.tTree 5)
    (hfld : fieldOff P S i = some off) (hone : oneTy P tySl = true) (hsl : P.underlying tySl = some (.slice T)) (hsz : (P.info? T).map (·.size) = some sz) (hm : 6 ≤ m) (hjid : jid < m) (h0 : ρ 0 = ptr V pre.length) (h4 : ρ 4 = ptr (w0.heap.size + 2)) (hjv : ρ jid = .int .i64 j) (hq : q < N)
    (hV : Has w V vcs) (hvc : vcs[pre.length + off]? = some sv) (hsv : sv = .slice (some ⟨B, o, none⟩) tl.length cap) (hj : j < tl.length) (htl : tl.length < 4294967296) (ht : tl[j] = t) (hel : ElLaid P c el B (o + j * sz) t w) (h : LS w0 w s0 N q nl ts u uv tl j lv xs a z)
    (hΓ : Γ[d]? = some J) (hJ : ∀ w' lv' xs', LS w0 w' s0 N q nl ts u uv tl (j + 1) lv' xs' a z → J [.int .i64 (j + 1 : Nat)] w') : (gListA c S i tySl q jid d m el).sem P R Γ m ρ w := by
  have hd : Keeps [] w { w with drawn := w.drawn + 1 } := keeps_drawn w _ _
  unfold gListA gTL
  show Tr.sem _ _ _ _ _ _ { w with drawn := w.drawn + 1 }
  generalize ({ w with drawn := w.drawn + 1 } : World) = w1 at hd ⊢
  have h1 := h.keep hd
  have hV1 := hV.keep hd (by simp)
  have hel1 := hel.keep hd
  have hs1 := h1.s
  have hs00 := h.s00
  have hlt1 := h1.own.lt
  refine p_fl Z.f3 Z.oneTrees (show ev ρ (.tmp 4) = ptr (w0.heap.size + 2) from h4) rfl h1.top rfl ?_
  refine p_val (v_slot (w0 := w0) (N := N) Z (show ev _ (.tmp (m + 1)) = _ from ext_at) hq) ?_
  refine p_fl (n := m + 3) Z.f3 Z.oneTrees (show ev _ (.tmp (m + 2)) = ptr (w0.heap.size + 1) (q * 5) from ext_at) rfl h1.row h1.slot ?_
  refine s_VX (n := m + 5) (V := V) (pre := pre) hfld hone (by rw [ext_lt (by omega), ext_lt (by omega), ext_lt (by omega), ext_lt (by omega), ext_lt (by omega)]; exact h0) hV1 hvc ?_
  have hidx := v_indexAddr (P := P) (ρ := ext (ext (ext (ext (ext (ext (ext (ext ρ m [ptr (w0.heap.size + 2) (0 + 3)]) (m + 1) [rowV w0 N]) (m + 2) [ptr (w0.heap.size + 1) (q * 5)]) (m + 3) [ptr (w0.heap.size + 1) (q * 5 + 3)]) (m + 3 + 1) [lv]) (m + 5) [ptr V pre.length]) (m + 5 + 1) [ptr V (pre.length + off)]) (m + 5 + 2) [sv])
    (t := tySl) (x := .tmp (m + 7)) (i := .tmp jid) (b := B) (o := o) (l := tl.length) (c := cap) (j := j) (kk := .i64) hsl hsz (by show ext _ (m + 5 + 2) _ (m + 7) = _; rw [ext_at]; exact hsv) (by show ext _ _ _ jid = _; rw [ext_lt (by omega), ext_lt (by omega), ext_lt (by omega), ext_lt (by omega), ext_lt (by omega), ext_lt (by omega), ext_lt (by omega), ext_lt (by omega)]; exact hjv) (by omega) (by omega)
  rw [Int.toNat_natCast] at hidx
  refine p_val hidx ?_
  generalize hρA : ext (ext (ext (ext (ext (ext (ext (ext (ext ρ m [ptr (w0.heap.size + 2) (0 + 3)]) (m + 1) [rowV w0 N]) (m + 2) [ptr (w0.heap.size + 1) (q * 5)]) (m + 3) [ptr (w0.heap.size + 1) (q * 5 + 3)]) (m + 3 + 1) [lv]) (m + 5) [ptr V pre.length]) (m + 5 + 1) [ptr V (pre.length + off)]) (m + 5 + 2) [sv]) (m + 5 + 3) [.pointer (some ⟨B, o + j * sz, none⟩)] = ρA
  have f0 : ρA m = ptr (w0.heap.size + 2) (0 + 3) := by
    subst hρA
    repeat rw [ext_lt (by omega)]
    exact ext_at
  have f1 : ρA (m + 1) = rowV w0 N := by
    subst hρA
    repeat rw [ext_lt (by omega)]
    exact ext_at
  have f3 : ρA (m + 3) = ptr (w0.heap.size + 1) (q * 5 + 3) := by
    subst hρA
    repeat rw [ext_lt (by omega)]
    exact ext_at
  have f4 : ρA (m + 4) = lv := by
    subst hρA
    repeat rw [ext_lt (by omega)]
    exact ext_at
  have f6 : ρA (m + 6) = ptr V (pre.length + off) := by
    subst hρA
    repeat rw [ext_lt (by omega)]
    exact ext_at
  have f7 : ρA (m + 7) = sv := by
    subst hρA
    repeat rw [ext_lt (by omega)]
    exact ext_at
  have f8 : ρA (m + 8) = ptr B (o + j * sz) := by
    subst hρA
    exact ext_at
  have fj : ρA jid = .int .i64 j := by
    subst hρA
    repeat rw [ext_lt (by omega)]
    exact hjv
  clear hρA hidx
  refine s_ElAt (n := m + 9) (by omega) f8 hel1 fun x Fe ρ1 xv hx hxv hspec hag1 hFe => ?_
  have hFo : ∀ (ρ2 : Nat → Value) (w2 : World), (∀ y, y < m + 9 → ρ2 y = ρA y) → Keeps [] w1 w2 →
      ∀ p ∈ [(Op.load tySl (.tmp (m + 6)), m + 7), (.load c.tTrees (.tmp (m + 3)), m + 4), (.load c.tTrees (.tmp m), m + 1)], runOp P ρ2 p.1 w2 = .ok (.value (ρ2 p.2)) w2 := by
    intro ρ2 w2 hag kk p hp
    simp only [List.mem_cons, List.not_mem_nil, or_false] at hp
    rcases hp with rfl | rfl | rfl
    · show runOp P ρ2 (.load tySl (.tmp (m + 6))) w2 = .ok (.value (ρ2 (m + 7))) w2
      rw [hag (m + 7) (by omega), f7]
      exact l_load1 (b := V) (o := pre.length + off) hone (by show ρ2 (m + 6) = _; rw [hag _ (by omega), f6]; rfl) (hV1.keep kk (by simp)) hvc
    · show runOp P ρ2 (.load c.tTrees (.tmp (m + 3))) w2 = .ok (.value (ρ2 (m + 4))) w2
      rw [hag (m + 4) (by omega), f4]
      exact l_load1 (b := w0.heap.size + 1) (o := q * 5 + 3) Z.oneTrees (by show ρ2 (m + 3) = _; rw [hag _ (by omega), f3]; rfl) (h1.row.keep kk (by simp)) h1.slot
    · show runOp P ρ2 (.load c.tTrees (.tmp m)) w2 = .ok (.value (ρ2 (m + 1))) w2
      rw [hag (m + 1) (by omega), f1]
      exact l_load1 (b := w0.heap.size + 2) (o := 0 + 3) Z.oneTrees (by show ρ2 m = _; rw [hag _ (by omega), f0]; rfl) (h1.top.keep kk (by simp)) rfl
  have hle : elAt el ≤ 1 := by cases el <;> simp [elAt]
  have hlen : 1 ≤ elLen el := by cases el <;> simp [elLen]
  obtain ⟨a0, cap0, hlv, _⟩ := h1.own.reads.form
  refine p_val (v_len (a := a0) (l := j) (c := cap0) Z.sl (by show ρ1 (m + 4) = _; rw [hag1 _ (by omega), f4]; exact hlv)) ?_
  generalize hρB : ext ρ1 (m + 9 + elAt el) [.int .i64 j] = ρB
  have hagB : ∀ y, y < m + 9 + elAt el → ρB y = ρ1 y := fun y hy => by subst hρB; exact ext_lt hy
  have fx : ρB (x + 1) = .int .i64 j := by subst hρB; rw [hx]; exact ext_at
  have fxv : ρB x = xv := by rw [hagB x (by omega)]; exact hxv
  clear hρB
  have hagBA : ∀ y, y < m + 9 → ρB y = ρA y := fun y hy => (hagB y (by omega)).trans (hag1 y hy)
  refine ⟨?_, ?_⟩
  · refine s_El (n := m + 9 + elAt el + 1) F Z G fxv hspec (fun w2 k2 => hFo ρB w2 hagBA k2) fun w2 cs e ρ2 k2 htr he hev hag2 => ?_
    have hag2A : ∀ y, y < m + 9 → ρ2 y = ρA y := fun y hy => (hag2 y (by omega)).trans (hagBA y hy)
    have hbe : opBelow (m + 9 + elAt el + 1 + elLen el + 1) e := by rw [he]; show m + 9 + elAt el + 1 + elLen el - 1 < _; omega
    refine s_oneSlice Rw Z.sl (x := zeroV) (cs := zeroTree) rfl rfl fun w3 hr3 k3 z3 => ⟨hFo ρ2 w3 hag2A (k2.trans k3), ?_⟩
    have k13 := k2.trans k3
    refine sem_last (m := m) (x := x) (jid := jid) (e := e) (zo := .tmp (m + 9 + elAt el + 1 + elLen el)) (t := t) (cs := cs) (lv := lv) (zv := .slice (some ⟨w2.heap.size, 0, none⟩) 1 1) Z Rw (by omega) (by omega) (by omega) (by rw [ext_lt (by omega), hag2A _ (by omega), f4]) (by rw [ext_lt (by omega), hag2A _ (by omega), f1])
      (by rw [ext_lt (by omega), hag2 _ (by omega)]; exact fx) (by rw [ext_lt (by omega), hag2A _ (by omega), fj]) ext_at (by rw [ev_ext (by rw [he]; show m + 9 + elAt el + 1 + elLen el - 1 < _; omega)]; exact hev) hbe hq hj htl ht hr3 ?_ (h1.keep k13) hΓ hJ
    exact TreeAt.keep k3 (fun b hb => by cases hb) (fun b h' _ => ⟨by omega, fun hb => by have := hlt1 b hb; omega⟩) _ _ htr
  · refine s_oneSlice Rw Z.sl (x := zeroV) (cs := zeroTree) rfl rfl fun w2 hr2 k2 z2 => ⟨fun p hp => ?_, ?_⟩
    · rcases List.mem_append.1 hp with hp | hp
      · exact hFe ρB w2 hagB k2 p hp
      · exact hFo ρB w2 hagBA k2 p hp
    have s2 := k2.size
    refine s_El (n := m + 9 + elAt el + 2) (xv := xv) (t := t) F Z G (by rw [ext_lt (by omega)]; exact fxv) (ElSpec.keep hspec k2) (fun w3 k3 => hFo _ w3 (fun y hy => by rw [ext_lt (by omega)]; exact hagBA y hy) (k2.trans k3)) fun w3 cs e ρ2 k3 htr he hev hag2 => ?_
    have hag2A : ∀ y, y < m + 9 → ρ2 y = ρA y := fun y hy => by rw [hag2 y (by omega), ext_lt (by omega)]; exact hagBA y hy
    have hbe : opBelow (m + 9 + elAt el + 2 + elLen el) e := by rw [he]; show m + 9 + elAt el + 2 + elLen el - 1 < _; omega
    have k13 := k2.trans k3
    refine sem_last (m := m) (x := x) (jid := jid) (e := e) (zo := .tmp (m + 9 + elAt el + 1)) (t := t) (cs := cs) (lv := lv) (zv := .slice (some ⟨w1.heap.size, 0, none⟩) 1 1) Z Rw (by omega) (by omega) (by omega) (by rw [hag2A _ (by omega), f4]) (by rw [hag2A _ (by omega), f1])
      (by rw [hag2 _ (by omega), ext_lt (by omega)]; exact fx) (by rw [hag2A _ (by omega), fj]) (by show ρ2 (m + 9 + elAt el + 1) = _; rw [hag2 _ (by omega)]; exact ext_at) hev hbe hq hj htl ht (hr2.keep k3 (by simp)) ?_ (h1.keep k13) hΓ hJ
    exact htr.mono fun b h' _ => ⟨by omega, fun hb => by have := hlt1 b hb; omega⟩

end

end Go.Kf

namespace Go.Kf

open Go

section

variable {P : Program} {c : Nums} {R : Value → World → Prop} {w0 : World} {N : Nat} {D V lo S : Nat} {pre post : List Value} {fs : List FV}

theorem zero_raw {rcs a m z : List Value} {q : Nat} (e : rcs = a ++ m ++ z) (ha : a.length = q * 5) (hm : m.length = 5) (h : (rcs.drop (q * 5)).take 5 = zeroTree) : m = zeroTree := by
  rw [e, List.append_assoc, ← ha, List.drop_left' rfl, List.take_left' hm] at h
  exact h

theorem tell_list {i tySl q T sz off : Nat} {nl : Bool} {rows : List (List FV)} {el : TEl} {tl : List PT} {ls : List Nat} (F : RdFacts P c) (Z : TyFacts P c c.tTree c.tTrees c.tTagL c.tTag) (G : buildPlan P c.tTree = some (zeroTree, [(0, 1), (1, 1), (2, 1), (3, 1), (4, 1)])) (Rw : RowFacts P c.tTree 5)
    (hcoin : (P.info? c.tBool).map (fun i => (i.zero, i.size)) = some (some (.bool false), 1)) (h : TIn w0 D V lo pre post fs) (hls : fs.map FV.wd = ls) (hF : FieldOk P S ls i off) (hq : q < N) (hone : oneTy P tySl = true) (hsl : P.underlying tySl = some (.slice T)) (hsz : (P.info? T).map (·.size) = some sz)
    (hf : fs[i]? = some (.list nl rows)) (htl : tl.length = rows.length) (hbig : tl.length < 4294967296) (hVlt : V < w0.heap.size)
    (hel : ∀ (w : World) (B : Nat) (rcs : List Value), Keeps [] w0 w → Has w B rcs → RowsAt D w (B + 1) rows rcs → ∀ (j : Nat) (hj : j < tl.length), ElLaid P c el B (0 + j * sz) tl[j] w) : SemT P c R w0 N S V pre (.list i tySl q el) q (.mk 0 [] nl tl []) := by
  intro n k Γ ρ w ts u uv hn h0 _ h4 hT hRaw hk
  simp only [gTStep]
  refine s_TL Z h4 hT fun w1 hT1 k1 => ?_
  obtain ⟨vcs, mm, hh0, hm, hcs, _⟩ := h.get (off := off) (w := w0) .refl hf (by rw [hls]; exact hF.off)
  obtain ⟨sv, adr, cap, rfl, hsv, hadr, hrow⟩ : ∃ sv adr cap, mm = [sv] ∧ sv = .slice adr tl.length cap ∧ adr.isNone = nl ∧ (0 < tl.length → ∃ B rcs, adr = some ⟨B, 0, none⟩ ∧ Has w0 B rcs ∧ RowsAt D w0 (B + 1) rows rcs) := by
    rcases hm with ⟨rfl, e, rfl⟩ | ⟨rfl, B, cap, rcs, _, e, _, hB, hr⟩
    · exact ⟨_, none, 0, e, by rw [htl]; rfl, rfl, fun h => by rw [htl] at h; simp at h⟩
    · exact ⟨_, some ⟨B, 0, none⟩, cap, e, by rw [htl], rfl, fun _ => ⟨B, rcs, rfl, hB, hr⟩⟩
  have hvc : vcs[pre.length + off]? = some sv := by have := hcs 0 (by simp); simpa using this
  have hV1 := hh0.keep hT1.k (by simp)
  refine s_VX hF.field hone (by rw [ext_lt (by omega), ext_lt (by omega)]; exact h0) hV1 hvc ?_
  refine p_val (v_eqlSlice (op := .eql) (a := adr) (l := tl.length) (c := cap) (r := nl) hsl (by show ext _ (n + 2 + 2) _ (n + 4) = _; rw [ext_at]; exact hsv) rfl (.inl ⟨rfl, hadr.symm⟩)) ?_
  refine p_val (v_slot (w0 := w0) (N := N) Z (by show ext _ _ _ (n + 1) = _; rw [ext_lt (by omega), ext_lt (by omega), ext_lt (by omega), ext_lt (by omega)]; exact ext_at) hq) ?_
  obtain ⟨rcs, hr1, hrl, hrt⟩ := hT1.row
  have hlen := hT1.len
  obtain ⟨a, m0, z, e, ha, hta, hm0, htz⟩ := hrt.cut (List.getElem?_eq_getElem (show q < ts.length by omega))
  have hm0z := zero_raw e ha hm0.len ((hRaw.keep hT k1) rcs hr1 q (Nat.le_refl _) hq)
  subst hm0z
  have hl3 : q * 5 + 2 < rcs.length := by rw [hrl]; omega
  refine p_fs (n := n + 7) (v := .bool nl) Z.f2 F.oneBool (show ev _ (.tmp (n + 6)) = ptr (w0.heap.size + 1) (q * 5) from ext_at) rfl (by show ext _ _ _ (n + 5) = _; rw [ext_lt (by omega)]; exact ext_at) (by simp [opBelow]) rfl hr1 hl3 fun w2 hrow2 k2 => ?_
  have hset : rcs.set (q * 5 + 2) (.bool nl) = a ++ [.int .i64 0, .slice none 0 0, .bool nl, .slice none 0 0, .slice none 0 0] ++ z := by
    rw [e, List.append_assoc, List.set_append_right _ _ (by omega), ha, show q * 5 + 2 - q * 5 = 2 by omega, List.append_assoc]
    rfl
  rw [hset] at hrow2
  have hA : ∀ b ∈ [w0.heap.size + 1], ¬ w0.heap.size + 2 < b := fun b hb => by simp only [List.mem_singleton] at hb; omega
  have htop := hT1.top.lt
  have hs2 := k2.size
  have k02 : Keeps [] w0 w2 := ((hT1.k.mono (by simp)).trans k2).less fun x hx => .inr (by simp only [List.mem_singleton] at hx; omega)
  have hLS : LS w0 w2 w2.heap.size N q nl ts u uv tl 0 (.slice none 0 0) [] a z :=
    ⟨k02, Nat.le_refl _, by omega, hT1.res.keep k2 (by simp), hT1.top.keep k2 (by simp), hT1.uok.keep k2 hA (fun b h' hlt => ⟨h', by omega⟩), hrow2, ha, by rw [← hset, List.length_set]; exact hrl,
      TreesAt.keep k2 hA (fun b h' hlt => ⟨h', by omega⟩) _ _ hta, TreesAt.keep k2 hA (fun b h' hlt => ⟨h', by omega⟩) _ _ htz, Own.nil w2 5, (fun b hb => by cases hb), rfl⟩
  have hV2 := hh0.keep k02 (by simp)
  refine s_get (p := .tmp 0) (n := n + 9) hF.field hone (by show ext _ _ _ 0 = _; rw [ext_lt (by omega), ext_lt (by omega), ext_lt (by omega), ext_lt (by omega), ext_lt (by omega), ext_lt (by omega), ext_lt (by omega), ext_lt (by omega), ext_lt (by omega)]; exact h0) hV2 hvc ?_
  refine s_val (v_len (a := adr) (l := tl.length) (c := cap) hsl (by show ext _ (n + 9) _ (n + 9 + 2) = _; rw [ext_ge]; exact hsv)) ?_
  generalize hρA : (ext (ext _ (n + 9) _) (n + 9 + 3) [Value.int .i64 tl.length]) = ρA
  have hag : ∀ y, y < n → ρA y = ρ y := fun y hy => by
    subst hρA
    rw [ext_lt (by omega), ext_lt (by omega), ext_lt (by omega), ext_lt (by omega), ext_lt (by omega), ext_lt (by omega), ext_lt (by omega), ext_lt (by omega), ext_lt (by omega), ext_lt (by omega), ext_lt (by omega)]
  have fl : ρA (n + 12) = .int .i64 tl.length := by subst hρA; exact ext_at
  clear hρA
  refine s_count (n := n + 13) (q := n + 12) (kk := .i64) (m := tl.length) (ri := []) (fun j w' => ∃ lv xs, LS w0 w' w2.heap.size N q nl ts u uv tl j lv xs a z) (by omega) fl ⟨_, _, hLS⟩ ?_ ?_
  · rintro j hj w3 vr ⟨lv, xs, hls3⟩ hvr J hJ
    obtain rfl : vr = [] := List.eq_nil_of_length_eq_zero hvr
    have hj' : j < tl.length := by omega
    obtain ⟨B, brcs, rfl, hB, hBr⟩ := hrow (by omega)
    have g0 : ext ρA (n + 13) ([] ++ [.int .i64 j, .bool true]) 0 = ptr V pre.length := by rw [ext_lt (by omega), hag 0 (by omega)]; exact h0
    have g4 : ext ρA (n + 13) ([] ++ [.int .i64 j, .bool true]) 4 = ptr (w0.heap.size + 2) := by rw [ext_lt (by omega), hag 4 (by omega)]; exact h4
    have hnext : ∀ w' lv' xs', LS w0 w' w2.heap.size N q nl ts u uv tl (j + 1) lv' xs' a z → J [.int .i64 (j + 1 : Nat)] w' := fun w' lv' xs' hl => hJ [] w' rfl ⟨lv', xs', hl⟩
    have prep : ∀ bb, LS w0 (coinWorld c.tBool bb w3) w2.heap.size N q nl ts u uv tl j lv xs a z ∧ Has (coinWorld c.tBool bb w3) V vcs ∧ ElLaid P c el B (0 + j * sz) tl[j] (coinWorld c.tBool bb w3) := fun bb => by
      have hl := hls3.keep (keeps_coin c.tBool bb w3)
      exact ⟨hl, hh0.keep hl.k (by simp), hel _ B brcs hl.k (hB.keep hl.k (by simp)) (RowsAt.keep hl.k (B + 1) (fun b hb => by cases hb) _ _ hBr) j hj'⟩
    refine ⟨Z.bool, hcoin, ?_, ?_⟩
    · obtain ⟨p1, p2, p3⟩ := prep true
      exact sem_listA (m := n + 15) (jid := n + 13) (Γ := Γ ++ [J]) F Z G Rw hF.field hone hsl hsz (by omega) (by omega) g0 g4 ext_at hq p2 hvc hsv hj' hbig rfl p3 p1 (by simp) hnext
    · obtain ⟨p1, p2, p3⟩ := prep false
      exact sem_listB (m := n + 15) (jid := n + 13) (Γ := Γ ++ [J]) F Z G Rw hF.field hone hsl hsz (by omega) (by omega) g0 g4 ext_at hq p2 hVlt hvc hsv hj' hbig rfl p3 p1 (by simp) hnext
  · rintro w3 vr J ⟨lv, xs, hl⟩ hvr
    obtain rfl : vr = [] := List.eq_nil_of_length_eq_zero hvr
    rw [Int.toNat_natCast] at hl
    have htx := hl.tx
    rw [List.take_length] at htx
    have hs00 := hl.s00
    have hnilO : ∀ (A : Nat → Prop), OctIn w3 A [] (.slice none 0 0) := fun A => ⟨Ro.nil _ 1, (fun h => absurd rfl h), by decide⟩
    have hnilT : ∀ (A : Nat → Prop), TagsIn w3 A [] (.slice none 0 0) := fun A => ⟨[], ⟨rfl, .inl ⟨rfl, rfl⟩⟩, ⟨(fun b hb => by cases hb), by decide⟩, rfl⟩
    have htree : TreeAt w3 (fun b => w0.heap.size + 2 < b) (.mk 0 [] nl tl []) [.int .i64 0, .slice none 0 0, .bool nl, lv, .slice none 0 0] :=
      ⟨_, _, _, xs, rfl, hnilO _, hl.own.reads, ⟨fun b hb => by have := hl.blk b hb; omega, hbig⟩, htx.mono fun b h' _ => by have := h'.1; omega, hnilT _⟩
    have hrows : TreesAt w3 (fun b => w0.heap.size + 2 < b) (ts.set q (.mk 0 [] nl tl [])) (a ++ [.int .i64 0, .slice none 0 0, .bool nl, lv, .slice none 0 0] ++ z) := by
      rw [set_eq (show q < ts.length by omega), List.append_assoc]
      exact TreesAt.append (hl.ta.mono fun b h' _ => h'.1) ⟨_, z, rfl, htree, hl.tz.mono fun b h' _ => h'.1⟩
    have hTS : TS w0 w3 N (ts.set q (.mk 0 [] nl tl [])) u uv := ⟨hl.k, hl.res, ⟨_, hl.row, hl.rl, hrows⟩, by simp [hlen], hl.top, hl.uok.keep (M := []) .refl (fun b hb => by cases hb) (fun b h' _ => h'.1)⟩
    have hRaw3 : Raw w0 w3 N (q + 1) := by
      intro rcs' hr' i hi hN
      rw [hr'.inj hl.row]
      have hold := (hRaw.keep hT k1) rcs hr1 i (by omega) hN
      rw [← hold, e]
      apply List.ext_getElem?
      intro p
      simp only [List.getElem?_take]
      split
      · rw [List.getElem?_drop, List.getElem?_drop, List.getElem?_append_right (by simp; omega), List.getElem?_append_right (by simp [zeroTree]; omega)]
        simp [zeroTree]
      · rfl
    have hgoal := hk (n + 15) (Γ ++ [J]) (ext ρA (n + 13) ([] ++ [.int .i64 ((tl.length : Int).toNat : Int), .bool false])) w3 (by omega) ⟨[J], rfl⟩ (fun y hy => by rw [ext_lt (by omega)]; exact hag y hy) hTS hRaw3
    rw [show (Γ ++ [J]).length = Γ.length + 1 by simp] at hgoal
    exact hgoal

end

end Go.Kf

namespace Go.Kf

open Go

section

variable {P : Program} {c : Nums} {R : Value → World → Prop} {w0 : World} {N : Nat} {D V lo S : Nat} {pre post : List Value} {fs : List FV}

/-- Each step tells its thing. -/
def StepsT (P : Program) (c : Nums) (R : Value → World → Prop) (w0 : World) (N S V : Nat) (pre : List Value) : List TStep → List PT → Nat → Prop
  | [], [], _ => True
  | s :: ss, t :: tl, q => SemT P c R w0 N S V pre s q t ∧ StepsT P c R w0 N S V pre ss tl (q + 1)
  | _, _, _ => False

theorem sem_tsteps : ∀ (ss : List TStep) (tl : List PT) (q n : Nat) (k : Nat → Nat → Tr) (Γ : List (List Value → World → Prop)) (ρ : Nat → Value) (w : World) (ts : List PT) (u : TM) (uv : Value), StepsT P c R w0 N S V pre ss tl q → q + tl.length ≤ ts.length → 6 ≤ n → ρ 0 = ptr V pre.length → ρ 1 = ptr w0.heap.size → ρ 4 = ptr (w0.heap.size + 2) → TS w0 w N ts u uv → Raw w0 w N q →
    (∀ n' Γ' ρ' w', n ≤ n' → (∀ x, x < n → ρ' x = ρ x) → TS w0 w' N (ts.take q ++ tl ++ ts.drop (q + tl.length)) u uv → (k n' Γ'.length).sem P R Γ' n' ρ' w') → (gTSteps c S ss n Γ.length k).sem P R Γ n ρ w
  | [], [], q, n, k, Γ, ρ, w, ts, u, uv, _, _, _, _, _, _, hT, _, hk => by
    refine hk n Γ ρ w (Nat.le_refl _) (fun _ _ => rfl) ?_
    have : ts.take q ++ [] ++ ts.drop (q + ([] : List PT).length) = ts := by simp
    rw [this]
    exact hT
  | [], _ :: _, _, _, _, _, _, _, _, _, _, h, _, _, _, _, _, _, _, _ => h.elim
  | _ :: _, [], _, _, _, _, _, _, _, _, _, h, _, _, _, _, _, _, _, _ => h.elim
  | s :: ss, t :: tl, q, n, k, Γ, ρ, w, ts, u, uv, ⟨h1, h2⟩, hl, hn, h0, hr, h4, hT, hRaw, hk => by
    simp only [gTSteps]
    simp only [List.length_cons] at hl
    refine h1 n _ Γ ρ w ts u uv hn h0 hr h4 hT hRaw fun n1 Γ1 ρ1 w1 hle _ hag hT1 hRaw1 => ?_
    refine sem_tsteps ss tl (q + 1) n1 k Γ1 ρ1 w1 (ts.set q t) u uv h2 (by simp; omega) (by omega) (by rw [hag 0 (by omega)]; exact h0) (by rw [hag 1 (by omega)]; exact hr) (by rw [hag 4 (by omega)]; exact h4) hT1 hRaw1 fun n2 Γ2 ρ2 w2 hle2 hag2 hT2 => ?_
    refine hk n2 Γ2 ρ2 w2 (by omega) (fun y hy => (hag2 y (by omega)).trans (hag y hy)) ?_
    have e : (ts.set q t).take (q + 1) ++ tl ++ (ts.set q t).drop (q + 1 + tl.length) = ts.take q ++ (t :: tl) ++ ts.drop (q + (t :: tl).length) := by
      have e1 : (ts.set q t).take (q + 1) = ts.take q ++ [t] := by
        rw [List.take_succ_eq_append_getElem (by simp; omega), List.take_set_of_le (Nat.le_refl q)]
        simp
      have e2 : (ts.set q t).drop (q + 1 + tl.length) = ts.drop (q + 1 + tl.length) := List.drop_set_of_lt (by omega)
      rw [e1, e2, List.length_cons, show q + (tl.length + 1) = q + 1 + tl.length by omega]
      simp
    rw [e] at hT2
    exact hT2

theorem zeroTree_flat (n : Nat) : ((List.replicate n zeroTree).flatten).length = n * 5 := by
  induction n with
  | zero => rfl
  | succ n ih => rw [List.replicate_succ, List.flatten_cons, List.length_append, ih]; simp [zeroTree]; omega

theorem zeroTree_drop (n i : Nat) (h : i < n) : ((((List.replicate n zeroTree).flatten).drop (i * 5)).take 5) = zeroTree := by
  induction i generalizing n with
  | zero =>
    obtain ⟨m, rfl⟩ : ∃ m, n = m + 1 := ⟨n - 1, by omega⟩
    rw [List.replicate_succ, List.flatten_cons, Nat.zero_mul, List.drop_zero, List.take_left' (show zeroTree.length = 5 from rfl)]
  | succ i ih =>
    obtain ⟨m, rfl⟩ : ∃ m, n = m + 1 := ⟨n - 1, by omega⟩
    rw [List.replicate_succ, List.flatten_cons, show (i + 1) * 5 = 5 + i * 5 by omega, ← List.drop_drop, List.drop_left' (show zeroTree.length = 5 from rfl)]
    exact ih m (by omega)

structure TellFacts (P : Program) (c : Nums) : Prop where
  plan : buildPlan P c.tTree = some (zeroTree, [(0, 1), (1, 1), (2, 1), (3, 1), (4, 1)])
  zero : zeroTy P c.tTree = some (.agg ⟨zeroTree⟩, 5)
  row : RowFacts P c.tTree 5
  coin : (P.info? c.tBool).map (fun i => (i.zero, i.size)) = some (some (.bool false), 1)

/-- A struct's telling. -/
theorem tell_gives {f : Nat} {ss : List TStep} {tl : List PT} (F : RdFacts P c) (Z : TyFacts P c c.tTree c.tTrees c.tTagL c.tTag) (K : TellFacts P c) (hT : treeIn P f noOrc [.tmp 0] 1 = gTell c S N ss) (hN : tl.length = N) (hsm : N ≤ 1024)
    (hs : ∀ R, StepsT P c R w0 N S V pre ss tl 0) : Gives P f [ptr V pre.length] w0 fun v w' => (∃ cs, v = .agg ⟨cs⟩ ∧ TreeAt w' (fun b => w0.heap.size ≤ b) (.mk 0 [] false tl []) cs) ∧ Keeps [] w0 w' := by
  refine gives_in (ρ := en [ptr V pre.length]) F.mix hT (Nat.le_refl _) rfl (by simp [opBelow]) ?_
  unfold gTell
  refine s_alloc K.zero fun w1 hr1 k1 z1 => ?_
  obtain ⟨inf, z, hi, hz, hsz, hzc, hby⟩ := K.row.info
  have hzz : z = .agg ⟨zeroTree⟩ := by
    have := K.zero
    simp only [zeroTy, hi, hz, Option.some.injEq, Prod.mk.injEq] at this
    exact this.1
  obtain ⟨w2, e2, hr2, k2, z2⟩ := a_makeSlice (P := P) (ρ := ext (en [ptr V pre.length]) 1 [ptr w0.heap.size]) (w := w1) (t := c.tTrees) (x := .const (.int .i64 N)) (y := .const (.int .i64 N)) (k1 := .i64) (k2 := .i64) (l := N) (c := N) Z.sl hi hz (by rw [hzc, hsz]) (by omega) rfl rfl (by omega) (Int.le_refl _) (by
    have : inf.bytes * N ≤ 1024 * 1024 := Nat.mul_le_mul hby hsm
    have h2 : ((inf.bytes * N : Nat) : Int) = (inf.bytes : Int) * N := Int.natCast_mul _ _
    omega) (by omega)
  rw [Int.toNat_natCast] at e2 hr2
  rw [hzz] at hr2
  refine s_act e2 (fun p hp => (by cases hp)) ?_
  refine s_val (v_build (cells := [.int .i64 0, .slice none 0 0, .bool false, .slice (some ⟨w1.heap.size, 0, none⟩) N N, .slice none 0 0]) K.plan (fun p hp => by simp only [List.mem_singleton] at hp; subst hp; rfl) rfl) ?_
  refine s_alloc K.zero fun w3 hr3 k3 z3 => ?_
  refine s_storeAll (b := w2.heap.size) (old := zeroTree) (cs := [.int .i64 0, .slice none 0 0, .bool false, .slice (some ⟨w1.heap.size, 0, none⟩) N N, .slice none 0 0]) Z.agg rfl rfl hr3 rfl (fun u hu => by
    simp only [List.mem_cons, List.not_mem_nil, or_false] at hu
    rcases hu with rfl | rfl | rfl | rfl | rfl <;> rfl) fun w4 hr4 k4 => ?_
  have k24 : Keeps [] w2 w4 := ((k3.mono (by simp)).trans k4).less fun x hx => .inr (by simp only [List.mem_singleton] at hx; omega)
  have k04 : Keeps [] w0 w4 := (k1.trans k2).trans k24
  rw [z1] at hr2 hr4
  rw [z2, z1] at hr4
  have hrow4 : Has w4 (w0.heap.size + 1) (List.replicate N zeroTree).flatten := hr2.keep k24 (by simp)
  have hTS : TS w0 w4 N (List.replicate N .zero) [] (.slice none 0 0) :=
    ⟨k04, (hr1.keep k2 (by simp)).keep k24 (by simp), ⟨_, hrow4, zeroTree_flat N, zeroTrees_at _ _ N⟩, by simp, hr4, [], ⟨rfl, .inl ⟨rfl, rfl⟩⟩, ⟨(fun b hb => by cases hb), by decide⟩, rfl⟩
  have hRaw : Raw w0 w4 N 0 := by
    intro rcs hr i _ hN'
    rw [hr.inj hrow4]
    exact zeroTree_drop N i hN'
  refine sem_tsteps (Γ := []) ss tl 0 6 _ _ w4 (List.replicate N .zero) [] (.slice none 0 0) (hs _) (by simp; omega) (Nat.le_refl _) rfl rfl (by show ptr w2.heap.size = _; rw [z2, z1]) hTS hRaw fun n' Γ' ρ' w5 hle hag hT5 => ?_
  have hfin : (List.replicate N PT.zero).take 0 ++ tl ++ (List.replicate N PT.zero).drop (0 + tl.length) = tl := by simp [hN]
  rw [hfin] at hT5
  refine s_lok (l_loadN (b := w0.heap.size + 2) (o := 0) Z.agg (by show ρ' 4 = _; rw [hag 4 (by omega)]; show ptr w2.heap.size = _; rw [z2, z1]; rfl) hT5.top (show 0 + 5 ≤ 5 by omega)) ?_
  obtain ⟨rcs, hrr, hrl, hrt⟩ := hT5.row
  refine s_storeAll (b := w0.heap.size) (old := zeroTree) (cs := [.int .i64 0, .slice none 0 0, .bool false, .slice (some ⟨w0.heap.size + 1, 0, none⟩) N N, .slice none 0 0]) Z.agg (by show ext _ _ _ 1 = _; rw [ext_lt (by omega), hag 1 (by omega)]; rfl) (by show (ext _ n' _ n').cells = _; rw [ext_at]; rfl) hT5.res rfl (fun u hu => by
    simp only [List.mem_cons, List.not_mem_nil, or_false] at hu
    rcases hu with rfl | rfl | rfl | rfl | rfl <;> rfl) fun w6 hr6 k6 => ?_
  have k06 : Keeps [] w0 w6 := ((hT5.k.mono (by simp)).trans k6).less fun x hx => .inr (by simp only [List.mem_singleton] at hx; omega)
  refine s_retAgg (b := w0.heap.size) (by show ext _ _ _ 1 = _; rw [ext_lt (by omega), ext_lt (by omega), hag 1 (by omega)]; rfl) hr6 Z.agg ⟨⟨_, rfl, ?_⟩, k06⟩
  have hnil : ∀ sz, Reads w6 (.slice none 0 0) sz 0 [] := fun sz => ⟨by simp, .inl ⟨rfl, rfl⟩⟩
  refine ⟨_, _, _, rcs, rfl, ⟨Ro.nil _ 1, (fun h => absurd rfl h), by decide⟩, ?_, ⟨?_, by omega⟩, TreesAt.keep k6 (fun b hb h' => by simp only [List.mem_singleton] at hb; omega) (fun b h' _ => by omega) _ _ hrt, [], hnil 2, ⟨(fun b hb => by cases hb), by decide⟩, rfl⟩
  · refine ⟨by rw [hrl, hN], .inr ⟨w0.heap.size + 1, 0, N, rcs, by rw [hN], by omega, hrr.keep k6 (by simp), by rw [hrl, hN]; omega, ?_⟩⟩
    rw [List.drop_zero, List.take_of_length_le (by rw [hrl, hN]; exact Nat.le_refl _)]
  · intro b hb
    simp only [blkOf, List.mem_singleton] at hb
    omega

end

end Go.Kf

namespace Go.Kf

open Go

section

variable {P : Program} {c : Nums} {w : World}

/-- ReadFrom, UnsafeReadFrom -/
def tWrap (f : Nat) (b : Bool) : Tr := .op (callOp f [.tmp 0, .tmp 1, .const (.bool b)]) none [] <| .ret [(.tmp 2, none)]

theorem wrap_gives {f g : Nat} {b : Bool} {v1 v2 : Value} {Post : Value → World → Prop} (hmix : P.follows .mixedOrders = true) (hT : treeIn P f noOrc [.tmp 0, .tmp 1] 2 = tWrap g b) (h : Gives P g [v1, v2, .bool b] w Post) : Gives P f [v1, v2] w Post := by
  refine gives_in (ρ := en [v1, v2]) hmix hT (Nat.le_refl _) rfl (by simp [opBelow]) ?_
  exact s_callx h rfl fun v w' hp => s_ret1 hp

theorem v_rem {ρ : Nat → Value} {t u : Nat} {x y : Operand} {a b : Nat} (hx : ev ρ x = .int .i64 a) (hy : ev ρ y = .int .i64 b) (hb : 0 < b) : Val P ρ (.binOp .rem t x y u) (.int .i64 (a % b : Nat)) := fun w => by
  unfold runOp bareOp
  simp only [execOp, hx, hy]
  have hb0 : ¬ b = 0 := by omega
  have h2 : Int.tmod (a : Int) b = ((a % b : Nat) : Int) := rfl
  simp [eqGuard, binOp, Op.intDiv, hb0, h2]

end

end Go.Kf

namespace Go.Kf

open Go

section

variable {P : Program} {c : Nums} {w : World}

/-- Octets that are given: they can be read. -/
def DataIn (w : World) (v : Value) (l : List UInt8) : Prop := (v = .slice none 0 0 ∧ l = []) ∨ ∃ a cap, v = .slice (some a) l.length cap ∧ ∀ i (hi : i < l.length), w.cell? (a.add i) = some (.int .u8 l[i].toNat)

theorem DataIn.form {v : Value} {l : List UInt8} (h : DataIn w v l) : ∃ a cp, v = .slice a l.length cp := by
  rcases h with ⟨rfl, rfl⟩ | ⟨a, cap, rfl, _⟩
  · exact ⟨_, _, rfl⟩
  · exact ⟨_, _, rfl⟩

theorem DataIn.keep {w' : World} {v : Value} {l : List UInt8} (h : DataIn w v l) (hk : Keeps [] w w') : DataIn w' v l := by
  rcases h with h | ⟨a, cap, e, hc⟩
  · exact .inl h
  · refine .inr ⟨a, cap, e, fun i hi => ?_⟩
    have h1 := hc i hi
    unfold World.cell? at h1 ⊢
    cases hb : w.heap[(a.add i).block]? with
    | none => rw [hb] at h1; cases h1
    | some o => rw [hk.block _ (Array.getElem?_eq_some_iff.1 hb).1 (by simp)]; exact h1

theorem DataIn.src {v : Value} {l : List UInt8} {tx e : Nat} (h : DataIn w v l) (ht : P.underlying tx = some (.slice e)) : Src P 1 tx v l.length (bcells l) w := by
  rcases h with ⟨rfl, rfl⟩ | ⟨a, cap, rfl, hc⟩
  · exact Src.ofNil w ht 0
  · refine Src.ofSlice w ht a l.length cap _ (by simp [bcells_length]) (fun j u hu => ?_) (bcells_one l)
    simp only [bcells, List.getElem?_map] at hu
    cases hj : l[j]? with
    | none => rw [hj] at hu; cases hu
    | some x =>
      rw [hj] at hu
      simp only [Option.map_some, Option.some.injEq] at hu
      obtain ⟨hlt, hx⟩ := List.getElem?_eq_some_iff.1 hj
      rw [hc j hlt, hx, hu]

/-- A tree and whether it was told. -/
theorem s_retTold {R : Value → World → Prop} {Γ : List (List Value → World → Prop)} {n b t : Nat} {ρ : Nat → Value} {x : Operand} {cs : List Value} {ok : Bool} (hx : ev ρ x = ptr b) (hh : Has w b cs) (ht : aggTy P t = some cs.length) (h : R (.tuple #[.agg ⟨cs⟩, .bool ok]) w) :
    (Tr.ret [(x, some t), (.const (.bool ok), none)]).sem P R Γ n ρ w := by
  refine ⟨[.agg ⟨cs⟩, .bool ok], ?_, h⟩
  have h1 := aggTy_spec (w := w) ht
  have h2 := loadCells_run (P := P) (n := cs.length) (o := 0) hh (by omega)
  simp only [List.drop_zero, List.take_length] at h2
  have h3 : ev ρ (.const (.bool ok)) = .bool ok := rfl
  simp only [evRet, List.map_cons, List.map_nil, hx, h3, ptr, retVals, asAddr, Sem.run_bind, Sem.run_pure, Result.andThen_ok, loadVar, h1.1, if_true, size_run h1.2, h2]

structure OctFacts (P : Program) (c : Nums) : Prop where
  info : ∃ inf z, P.info? c.tU8 = some inf ∧ inf.zero = some z ∧ inf.size = 1 ∧ z.cells.size = 1 ∧ inf.bytes ≤ 8

/-- A copy of octets. -/
theorem copy_octets {ρ : Nat → Value} {x : Operand} {v : Value} {l : List UInt8} (F : RdFacts P c) (O : OctFacts P c) (hx : ev ρ x = v) (hr : DataIn w v l) (hl : l.length ≤ 1073741824) :
    ∃ v' w', runOp P ρ (.call { callee := .builtin .append, args := ⟨[nilV, x]⟩, argTypes := ⟨[c.tBytes, c.tBytes]⟩ }) w = .ok (.value v') w' ∧ Own w' v' 1 l.length (bcells l) ∧ Keeps [] w w' ∧ (∀ b ∈ blkOf v', w.heap.size ≤ b) ∧ nilOf v' = l.isEmpty := by
  obtain ⟨inf, z, hi, hz, hsz, hzc, hb⟩ := O.info
  by_cases hnil : l = []
  · subst hnil
    have hs := hr.src (P := P) F.bytes
    refine ⟨.slice none 0 0, w, ?_, ⟨rfl, .inl ⟨rfl, rfl⟩⟩, .refl, (fun b hb => by cases hb), rfl⟩
    unfold runOp bareOp
    have e2 : ev ρ nilV = .slice none 0 0 := rfl
    have e1 : (Array.map (ev ρ) ⟨[nilV, x]⟩ : Array Value) = ⟨[.slice none 0 0, v]⟩ := by simp [hx, e2]
    simp only [execOp, resolve, pure_bind, invoke, builtin, Sem.run_bind, e1]
    have hcells : (Builtin.firstCells inf.size 0 v).run P w = .ok (bcells []).toArray w := by
      rw [hsz]
      exact hs.cells
    have h' : (Builtin.append_ ⟨[c.tBytes, c.tBytes]⟩ 0 ⟨[.slice none 0 0, v]⟩).run P w = .ok (.slice none 0 0) w := by
      simp [Builtin.append_, run_underlying F.bytes, sizeOf, typeInfo, hi, hs.len, hcells]
    rw [h']
    rfl
  obtain ⟨v', w', h1, h2, h3, h4⟩ := a_append (P := P) (ρ := ρ) (w := w) (t := c.tBytes) (tx := c.tBytes) (x := nilV) (y := x) F.bytes hi hz hsz hzc rfl hx (Own.nil w 1) (hr.src F.bytes) (by
    have : (0 + l.length) * inf.bytes ≤ 1073741824 * 8 := Nat.mul_le_mul (by omega) hb
    omega) (by omega)
  rw [Nat.zero_add, List.nil_append] at h2
  refine ⟨v', w', h1, h2, h3, fun b hb => ?_, ?_⟩
  · rcases h4 b hb with h | h
    · cases h
    · exact h
  · rcases h2.2 with ⟨_, h0⟩ | ⟨b, cap, spare, rfl, _⟩
    · exact absurd (List.eq_nil_of_length_eq_zero h0) hnil
    · cases l with
      | nil => exact absurd rfl hnil
      | cons _ _ => rfl

/-- What the door yields. -/
def DoorPost (w w' : World) (v : Value) : Option PT → Prop
  | some t => ∃ cs, v = .tuple #[.agg ⟨cs⟩, .bool true] ∧ TreeAt w' (fun b => w.heap.size ≤ b) t cs
  | none => v = .tuple #[.agg ⟨zeroTree⟩, .bool false]

end

end Go.Kf

namespace Go.Kf

open Go

section

variable {P : Program} {c : Nums} {w : World}

theorem DoorPost.form {w w' : World} {v : Value} {o : Option PT} (h : DoorPost w w' v o) : ∃ cs, v = .tuple #[.agg ⟨cs⟩, .bool o.isSome] ∧ cs.length = 5 ∧ (∀ q ∈ cs, q.oneCell' = true) ∧ ∀ t, o = some t → TreeAt w' (fun b => w.heap.size ≤ b) t cs := by
  cases o with
  | none => exact ⟨zeroTree, h, rfl, (zeroTree_at w (fun _ => True)).ones, fun t ht => by cases ht⟩
  | some t =>
    obtain ⟨cs, hv, ht⟩ := h
    exact ⟨cs, hv, ht.len, ht.ones, fun t' ht' => by cases ht'; exact ht⟩

end

end Go.Kf

namespace Go.Kf

open Go

/-- A tell function, over values of these types. -/
def TellOf (P : Program) (f : Nat) (ts : List Ty) (g : List FV → PT) : Prop := ∀ (w : World) (D V lo : Nat) (pre post mid : List Value) (fs : List FV), okFs fs ts → Has w V (pre ++ mid ++ post) → FsAt D w lo fs mid →
  Gives P f [ptr V pre.length] w fun v w' => (∃ cs, v = .agg ⟨cs⟩ ∧ TreeAt w' (fun b => w.heap.size ≤ b) (g fs) cs) ∧ Keeps [] w w'

end Go.Kf

namespace Go.Kf

open Go

/-- A field, apart from memory. -/
inductive PF where
  | mk (kind fr to nul tag dflt elem : Int) (sub : List PF)

mutual
def FieldC (w : World) : PF → List Value → Prop
  | .mk k f t n g d e sub, cs => ∃ sv scs, cs = [.int .i64 k, .int .i64 f, .int .i64 t, .int .i64 n, .int .i64 g, .int .i64 d, .int .i64 e, sv] ∧ Ro w sv 8 sub.length scs ∧ FieldsC w sub scs
def FieldsC (w : World) : List PF → List Value → Prop
  | [], cs => cs = []
  | t :: ts, cs => ∃ c1 c2, cs = c1 ++ c2 ∧ FieldC w t c1 ∧ FieldsC w ts c2
end

/-- A list of fields. -/
def FieldsV (w : World) (fs : List PF) (v : Value) : Prop := ∃ cs, Ro w v 8 fs.length cs ∧ FieldsC w fs cs

def TagsC (w : World) : TM → List Value → Prop
  | [], cs => cs = []
  | p :: m, cs => ∃ v r, cs = .int .u32 p.1 :: v :: r ∧ Ro w v 1 p.2.length (bcells p.2) ∧ TagsC w m r

mutual
def TreeC (w : World) : PT → List Value → Prop
  | .mk n s null l u, cs => ∃ sv lv uv lcs ucs, cs = [.int .i64 n, sv, .bool null, lv, uv] ∧ Ro w sv 1 s.length (bcells s) ∧ Ro w lv 5 l.length lcs ∧ TreesC w l lcs ∧ Ro w uv 2 u.length ucs ∧ TagsC w u ucs ∧ (s.length < 4294967296 ∧ l.length < 4294967296 ∧ u.length < 4294967296)
def TreesC (w : World) : List PT → List Value → Prop
  | [], cs => cs = []
  | t :: ts, cs => ∃ c1 c2, cs = c1 ++ c2 ∧ TreeC w t c1 ∧ TreesC w ts c2
end

section

variable {w w' : World}

mutual
theorem FieldC.keep (hk : Keeps [] w w') : ∀ (f : PF) (cs : List Value), FieldC w f cs → FieldC w' f cs
  | .mk _ _ _ _ _ _ _ sub, _, ⟨sv, scs, e, h1, h2⟩ => ⟨sv, scs, e, h1.keep hk, FieldsC.keep hk sub scs h2⟩
theorem FieldsC.keep (hk : Keeps [] w w') : ∀ (fs : List PF) (cs : List Value), FieldsC w fs cs → FieldsC w' fs cs
  | [], _, h => h
  | t :: ts, _, ⟨c1, c2, e, h1, h2⟩ => ⟨c1, c2, e, FieldC.keep hk t c1 h1, FieldsC.keep hk ts c2 h2⟩
end

theorem FieldsV.keep (hk : Keeps [] w w') {fs : List PF} {v : Value} (h : FieldsV w fs v) : FieldsV w' fs v := by
  obtain ⟨cs, h1, h2⟩ := h
  exact ⟨cs, h1.keep hk, FieldsC.keep hk fs cs h2⟩

theorem TagsC.keep (hk : Keeps [] w w') : ∀ (m : TM) (cs : List Value), TagsC w m cs → TagsC w' m cs
  | [], _, h => h
  | _ :: m, _, ⟨v, r, e, h1, h2⟩ => ⟨v, r, e, h1.keep hk, TagsC.keep hk m r h2⟩

mutual
theorem TreeC.keep (hk : Keeps [] w w') : ∀ (t : PT) (cs : List Value), TreeC w t cs → TreeC w' t cs
  | .mk _ _ _ l u, _, ⟨sv, lv, uv, lcs, ucs, e, h1, h2, h3, h4, h5, h6⟩ => ⟨sv, lv, uv, lcs, ucs, e, h1.keep hk, h2.keep hk, TreesC.keep hk l lcs h3, h4.keep hk, TagsC.keep hk u ucs h5, h6⟩
theorem TreesC.keep (hk : Keeps [] w w') : ∀ (ts : List PT) (cs : List Value), TreesC w ts cs → TreesC w' ts cs
  | [], _, h => h
  | t :: ts, _, ⟨c1, c2, e, h1, h2⟩ => ⟨c1, c2, e, TreeC.keep hk t c1 h1, TreesC.keep hk ts c2 h2⟩
end

theorem TagsC.of_rows {A : Nat → Prop} : ∀ {m : TM} {cs : List Value}, TagRows w A m cs → TagsC w m cs
  | [], _, h => h
  | _ :: _, _, ⟨v, r, e, h1, h2⟩ => ⟨v, r, e, h1.1, TagsC.of_rows h2⟩

mutual
theorem TreeC.of_at {A : Nat → Prop} : ∀ {t : PT} {cs : List Value}, TreeAt w A t cs → TreeC w t cs
  | .mk _ _ _ _ _, _, ⟨sv, lv, uv, lcs, e, h1, h2, h3, h4, ucs, h5, h7, h6⟩ => ⟨sv, lv, uv, lcs, ucs, e, h1.1, .of_reads h2, TreesC.of_at h4, .of_reads h5, TagsC.of_rows h6, h1.2.2, h3.2, h7.2⟩
theorem TreesC.of_at {A : Nat → Prop} : ∀ {ts : List PT} {cs : List Value}, TreesAt w A ts cs → TreesC w ts cs
  | [], _, h => h
  | _ :: _, _, ⟨c1, c2, e, h1, h2⟩ => ⟨c1, c2, e, TreeC.of_at h1, TreesC.of_at h2⟩
end

theorem FieldC.len {f : PF} {cs : List Value} (h : FieldC w f cs) : cs.length = 8 := by
  cases f with
  | mk => obtain ⟨sv, scs, e, _⟩ := h; rw [e]; rfl

theorem FieldC.ones {f : PF} {cs : List Value} (h : FieldC w f cs) : ∀ u ∈ cs, u.oneCell' = true := by
  cases f with
  | mk =>
    obtain ⟨sv, scs, e, h1, _⟩ := h
    have := h1.one
    subst e
    intro u hu
    simp only [List.mem_cons, List.not_mem_nil, or_false] at hu
    rcases hu with rfl | rfl | rfl | rfl | rfl | rfl | rfl | rfl <;> first | rfl | assumption

theorem TreeC.len {t : PT} {cs : List Value} (h : TreeC w t cs) : cs.length = 5 := by
  cases t with
  | mk => obtain ⟨sv, lv, uv, lcs, ucs, e, _⟩ := h; rw [e]; rfl

theorem TreeC.ones {t : PT} {cs : List Value} (h : TreeC w t cs) : ∀ u ∈ cs, u.oneCell' = true := by
  cases t with
  | mk =>
    obtain ⟨sv, lv, uv, lcs, ucs, e, h1, h2, _, h3, _⟩ := h
    have := h1.one; have := h2.one; have := h3.one
    subst e
    intro u hu
    simp only [List.mem_cons, List.not_mem_nil, or_false] at hu
    rcases hu with rfl | rfl | rfl | rfl | rfl <;> first | rfl | assumption

theorem FieldsC.get : ∀ {fs : List PF} {cs : List Value} {j : Nat}, FieldsC w fs cs → (hj : j < fs.length) → FieldC w fs[j] ((cs.drop (j * 8)).take 8)
  | t :: ts, _, 0, ⟨c1, c2, e, h1, h2⟩, _ => by
    have := h1.len
    subst e
    simp only [Nat.zero_mul, List.drop_zero, List.getElem_cons_zero]
    rw [List.take_append_of_le_length (by omega), List.take_of_length_le (by omega)]
    exact h1
  | t :: ts, _, j + 1, ⟨c1, c2, e, h1, h2⟩, hj => by
    have := h1.len
    subst e
    have := FieldsC.get h2 (by simpa using hj)
    rw [show (j + 1) * 8 = c1.length + j * 8 by omega, List.drop_append, List.drop_eq_nil_of_le (by omega), List.nil_append, show c1.length + j * 8 - c1.length = j * 8 by omega]
    exact this

theorem TreesC.get : ∀ {ts : List PT} {cs : List Value} {j : Nat}, TreesC w ts cs → (hj : j < ts.length) → TreeC w ts[j] ((cs.drop (j * 5)).take 5)
  | t :: ts, _, 0, ⟨c1, c2, e, h1, h2⟩, _ => by
    have := h1.len
    subst e
    simp only [Nat.zero_mul, List.drop_zero, List.getElem_cons_zero]
    rw [List.take_append_of_le_length (by omega), List.take_of_length_le (by omega)]
    exact h1
  | t :: ts, _, j + 1, ⟨c1, c2, e, h1, h2⟩, hj => by
    have := h1.len
    subst e
    have := TreesC.get h2 (by simpa using hj)
    rw [show (j + 1) * 5 = c1.length + j * 5 by omega, List.drop_append, List.drop_eq_nil_of_le (by omega), List.nil_append, show c1.length + j * 5 - c1.length = j * 5 by omega]
    exact this

theorem TagsC.get : ∀ {m : TM} {cs : List Value} {j : Nat}, TagsC w m cs → (hj : j < m.length) → ∃ v, (cs.drop (j * 2)).take 2 = [.int .u32 m[j].1, v] ∧ Ro w v 1 m[j].2.length (bcells m[j].2)
  | p :: m, _, 0, ⟨v, r, e, h1, h2⟩, _ => ⟨v, by subst e; rfl, h1⟩
  | p :: m, _, j + 1, ⟨v, r, e, h1, h2⟩, hj => by
    obtain ⟨v', h3, h4⟩ := TagsC.get h2 (j := j) (by simpa using hj)
    refine ⟨v', ?_, h4⟩
    subst e
    rw [show (j + 1) * 2 = j * 2 + 1 + 1 by omega]
    simpa using h3

/-- The cells of an element. -/
theorem Ro.elem {v : Value} {sz n j : Nat} {xs : List Value} (h : Ro w v sz n xs) (hj : j < n) (hsz : 0 < sz) :
    ∃ b o cap, v = .slice (some ⟨b, o, none⟩) n cap ∧ b < w.heap.size ∧ ((xs.drop (j * sz)).take sz).length = sz ∧ ∀ i, i < sz → w.cell? ⟨b, o + j * sz + i, none⟩ = ((xs.drop (j * sz)).take sz)[i]? := by
  obtain ⟨b, o, cap, e, hb, hx⟩ := h.at (by omega)
  have h1 : j * sz + sz ≤ n * sz := by rw [← Nat.succ_mul]; exact Nat.mul_le_mul_right _ hj
  refine ⟨b, o, cap, e, hb, by rw [List.length_take, List.length_drop, h.1]; omega, fun i hi => ?_⟩
  rw [Nat.add_assoc, hx _ (by omega), List.getElem?_take, if_pos hi, List.getElem?_drop]

theorem TreeC.zero (w : World) : TreeC w .zero zeroTree := TreeC.of_at (zeroTree_at w fun _ => True)

theorem TreesC.len : ∀ {ts : List PT} {cs : List Value}, TreesC w ts cs → cs.length = ts.length * 5
  | [], _, h => by simp only [TreesC] at h; subst h; rfl
  | t :: ts, _, ⟨c1, c2, e, h1, h2⟩ => by rw [e, List.length_append, h1.len, TreesC.len h2, List.length_cons]; omega

theorem TreesC.take : ∀ {ts : List PT} {cs : List Value} (m : Nat), TreesC w ts cs → TreesC w (ts.take m) (cs.take (m * 5))
  | _, _, 0, _ => by simp [TreesC]
  | [], _, m + 1, h => by simp only [TreesC] at h; subst h; simp [TreesC]
  | t :: ts, _, m + 1, ⟨c1, c2, e, h1, h2⟩ => by
    have := h1.len
    subst e
    refine ⟨c1, c2.take (m * 5), ?_, h1, TreesC.take m h2⟩
    rw [List.take_append, show (m + 1) * 5 - c1.length = m * 5 by omega, List.take_of_length_le (by omega)]

theorem TagsC.len : ∀ {m : TM} {cs : List Value}, TagsC w m cs → cs.length = m.length * 2
  | [], _, h => by simp only [TagsC] at h; subst h; rfl
  | _ :: m, _, ⟨v, r, e, _, h2⟩ => by rw [e, List.length_cons, List.length_cons, TagsC.len h2, List.length_cons]; omega

theorem TagsC.take : ∀ {m : TM} {cs : List Value} (k : Nat), TagsC w m cs → TagsC w (m.take k) (cs.take (k * 2))
  | _, _, 0, _ => by simp [TagsC]
  | [], _, k + 1, h => by simp only [TagsC] at h; subst h; simp [TagsC]
  | p :: m, _, k + 1, ⟨v, r, e, h1, h2⟩ => by
    subst e
    exact ⟨v, r.take (k * 2), by rw [show (k + 1) * 2 = k * 2 + 1 + 1 by omega]; simp, h1, TagsC.take k h2⟩

end

end Go.Kf

namespace Go.Kf

open Go

def PF.kind : PF → Int | .mk k _ _ _ _ _ _ _ => k

def PF.fr : PF → Int | .mk _ f _ _ _ _ _ _ => f

def PF.to : PF → Int | .mk _ _ t _ _ _ _ _ => t

def PF.nul : PF → Int | .mk _ _ _ n _ _ _ _ => n

def PF.tag : PF → Int | .mk _ _ _ _ g _ _ _ => g

def PF.dflt : PF → Int | .mk _ _ _ _ _ d _ _ => d

def PF.elem : PF → Int | .mk _ _ _ _ _ _ e _ => e

def PF.sub : PF → List PF | .mk _ _ _ _ _ _ _ s => s

def PT.n : PT → Int | .mk n _ _ _ _ => n

def PT.s : PT → List UInt8 | .mk _ s _ _ _ => s

def PT.null : PT → Bool | .mk _ _ b _ _ => b

def PT.l : PT → List PT | .mk _ _ _ l _ => l

def PT.u : PT → TM | .mk _ _ _ _ u => u

def pHas (f : PF) (v : Int) : Bool := decide (f.fr ≤ v) && (decide (f.to < 0) || decide (v ≤ f.to))

def pNull (f : PF) (v : Int) (t : PT) : Bool := t.null && decide (0 ≤ f.nul) && decide (f.nul ≤ v)

def pWhole (s : List UInt8) : List UInt8 := s.take 32767

def pThings (l : List PT) : List PT := l.take 32767

def pAt (t : PT) (i : Nat) : PT := t.l.getD i .zero

def pUvN : Nat → Nat → List UInt8
  | 0, n => [UInt8.ofNat n]
  | k + 1, n => if 127 < n then UInt8.ofNat (n % 128 + 128) :: pUvN k (n / 128) else [UInt8.ofNat n]

def pUv (n : Nat) : List UInt8 := pUvN 10 n

/-- The octet i of a number. -/
def octOf (n : Int) (i : Nat) : UInt8 := UInt8.ofNat ((n / 2 ^ (8 * i)) % 256).toNat

def pFixed (n : Int) : Nat → List UInt8
  | 0 => []
  | k + 1 => octOf n k :: pFixed n k

def pWidth (kind : Int) : Nat := if kind = 1 then 1 else if kind = 2 ∨ kind = 5 then 2 else if kind = 3 then 4 else 8

def pCounted (flex null : Bool) (n size : Nat) : List UInt8 :=
  if flex then (if null then [0] else pUv (n + 1)) else if null then pFixed (-1) size else pFixed n size

/-- 16 octets. -/
def pId (s : List UInt8) : List UInt8 := (s ++ List.replicate 16 0).take 16

/-- What is written of a value; pp: of a part. -/
def pValue (pp : PT → List UInt8) (kind : Int) (null flex : Bool) (t : PT) : List UInt8 :=
  if kind = 0 then [UInt8.ofNat (t.n % 2).toNat]
  else if kind = 7 then pId t.s
  else if kind = 8 then (let s := if null then [] else pWhole t.s; pCounted flex null s.length 2 ++ s)
  else if kind = 9 then (let s := if null then [] else pWhole t.s; pCounted flex null s.length 4 ++ s)
  else if kind = 10 then pp t
  else pFixed t.n (pWidth kind)

def pFieldOf (pp : PT → List UInt8) (f : PF) (v : Int) (flex : Bool) (t : PT) : List UInt8 :=
  let null := pNull f v t
  if f.kind = 11 then
    let l := if null then [] else pThings t.l
    pCounted flex null l.length 4 ++ (l.map fun x => pValue pp f.elem false flex x).flatten
  else if f.kind = 10 ∧ 0 ≤ f.nul then (if null then pFixed (-1) 1 else pFixed 1 1 ++ pp t)
  else pValue pp f.kind null flex t

/-- The tag that is one more than all. -/
def pKnown : List PF → Nat → Nat
  | [], n => n
  | f :: r, n => pKnown r (if 0 ≤ f.tag then max n (f.tag.toNat + 1) else n)

/-- A tag, put where it belongs. -/
def pPut (q : Nat × List UInt8) : TM → TM
  | [] => [q]
  | p :: m => if p.1 < q.1 then p :: pPut q m else if p.1 = q.1 then p :: m else q :: p :: m

def pUnknownN (least : Nat) : TM → TM → TM
  | [], out => out
  | q :: m, out => pUnknownN least m (if q.1 < least then out else pPut q out)

def pUnknown (fs : List PF) (u : TM) : TM := pUnknownN (pKnown fs 0) (u.take 32767) []

def pTag1 (k : Nat) (b : List UInt8) : List UInt8 := pUv k ++ pUv b.length ++ b

def pTags (m : TM) : List UInt8 := (m.map fun q => pTag1 q.1 (pWhole q.2)).flatten

def pNumber (kind n : Int) : Int :=
  if kind = 0 then n % 2 else if kind = 1 then IntKind.i8.wrap n else if kind = 2 then IntKind.i16.wrap n else if kind = 3 then IntKind.i32.wrap n else if kind = 5 then IntKind.u16.wrap n else n

/-- Is it as by default? uu: of a part. -/
def pUsualOf (uu : PT → Bool) (f : PF) (t : PT) : Bool :=
  if f.kind = 0 then decide (t.n % 2 = f.dflt)
  else if f.kind = 7 then (t.s.take 16).all (· == 0)
  else if f.kind = 8 ∨ f.kind = 9 then (if 0 ≤ f.nul then t.null else t.s.isEmpty)
  else if f.kind = 11 then t.l.isEmpty
  else if f.kind = 10 then uu t
  else decide (pFixed t.n (pWidth f.kind) = pFixed f.dflt (pWidth f.kind))

mutual
def pUsual : PF → PT → Bool
  | .mk k f t n g d e sub, x => pUsualOf (fun y => pUsuals sub y 0 && (pUnknown sub y.u).isEmpty) (.mk k f t n g d e sub) x
def pUsuals : List PF → PT → Nat → Bool
  | [], _, _ => true
  | f :: r, t, i => pUsual f (pAt t i) && pUsuals r t (i + 1)
end

mutual
def pField : PF → Int → Bool → PT → List UInt8
  | .mk k f t n g d e sub, v, flex, x =>
    pFieldOf (fun y => pPlain sub v flex y 0 ++ pEnd sub (pTagged sub v flex y 0) flex y) (.mk k f t n g d e sub) v flex x
/-- The fields without tags. -/
def pPlain : List PF → Int → Bool → PT → Nat → List UInt8
  | [], _, _, _, _ => []
  | f :: r, v, flex, t, i => (if decide (f.tag < 0) && pHas f v then pField f v flex (pAt t i) else []) ++ pPlain r v flex t (i + 1)
/-- Those with tags that aren't as by default. -/
def pTagged : List PF → Int → Bool → PT → Nat → List (Int × List UInt8)
  | [], _, _, _, _ => []
  | f :: r, v, flex, t, i => (if 0 ≤ f.tag ∧ pUsual f (pAt t i) = false then [(f.tag, pField f v flex (pAt t i))] else []) ++ pTagged r v flex t (i + 1)
/-- What stands behind the fields without tags. -/
def pEnd (fs : List PF) (tg : List (Int × List UInt8)) (flex : Bool) (t : PT) : List UInt8 :=
  if flex then
    let known := (List.range (pKnown fs 0)).flatMap fun (k : Nat) => tg.filter fun p => p.1 == (k : Int)
    pUv (known.length + (pUnknown fs t.u).length) ++ ((known.map fun p => pTag1 p.1.toNat p.2).flatten ++ pTags (pUnknown fs t.u))
  else []
end

def pPart (fs : List PF) (v : Int) (flex : Bool) (t : PT) : List UInt8 := pPlain fs v flex t 0 ++ pEnd fs (pTagged fs v flex t 0) flex t

def pFlex (flex v : Int) : Bool := decide (0 ≤ flex) && decide (flex ≤ v)

def pWrite (fs : List PF) (flex v : Int) (t : PT) : List UInt8 := pPart fs v (pFlex flex v) t

theorem pField_eq (f : PF) (v : Int) (flex : Bool) (t : PT) : pField f v flex t = pFieldOf (fun y => pPart f.sub v flex y) f v flex t := by
  cases f; rw [pField]; rfl

/-- All of it as by default. -/
def pUsualGotOf (uu : PT → Bool) (f : PF) (x : PT) : Bool :=
  if f.kind = 8 then (x.null == decide (0 ≤ f.nul)) && x.s.isEmpty
  else if f.kind = 7 then decide (x.s = List.replicate 16 0)
  else if f.kind = 9 ∨ f.kind = 11 then x.s.isEmpty && x.l.isEmpty
  else if f.kind = 10 then (if 0 ≤ f.nul then x.null else uu x)
  else decide (x.n = pNumber f.kind f.dflt)

mutual
def pUsualGot : PF → PT → Bool
  | .mk k f t n g d e sub, x => pUsualGotOf (fun y => y.u.isEmpty && pUsualGots sub y 0) (.mk k f t n g d e sub) x
def pUsualGots : List PF → PT → Nat → Bool
  | [], _, _ => true
  | f :: r, t, i => pUsualGot f (pAt t i) && pUsualGots r t (i + 1)
end

def pAll2 (f : PT → PT → Bool) : List PT → List PT → Bool
  | x :: l, y :: r => f x y && pAll2 f l r
  | _, _ => true

/-- Is it told so? of a kind; tt: of a part. -/
def pToldV (tt : PT → PT → Bool) (kind : Int) (t got : PT) : Bool :=
  if kind = 8 ∨ kind = 9 then decide (got.s = pWhole t.s)
  else if kind = 7 then decide (got.s = pId t.s)
  else if kind = 10 then tt t got
  else decide (got.n = pNumber kind t.n)

def pToldOf (tt : PT → PT → Bool) (f : PF) (v : Int) (t got : PT) : Bool :=
  let null := pNull f v t
  let may := decide (0 ≤ f.nul) && decide (f.nul ≤ v)
  if (decide (f.kind = 8) || decide (f.kind = 10) || may) && (got.null != null) then false
  else if null then true
  else if f.kind = 11 then decide (got.l.length = (pThings t.l).length) && pAll2 (fun x y => !(decide (f.elem = 8 ∨ f.elem = 10) && y.null) && pToldV tt f.elem x y) (pThings t.l) got.l
  else pToldV tt f.kind t got

def pTagsTold : TM → TM → Bool
  | p :: m, q :: r => decide (q.1 = p.1) && decide (q.2 = pWhole p.2) && pTagsTold m r
  | [], _ => true
  | _ :: _, [] => false

def pToldEnd (fs : List PF) (flex : Bool) (t got : PT) : Bool :=
  let l := if flex then pUnknown fs t.u else []
  decide (got.u.length = l.length) && pTagsTold l got.u

mutual
def pTold1 : PF → Int → Bool → PT → PT → Bool
  | .mk k f t n g d e sub, v, flex, x, got => pToldOf (fun y z => decide (z.l.length = sub.length) && pTolds sub v flex y z 0 && pToldEnd sub flex y z) (.mk k f t n g d e sub) v x got
def pTolds : List PF → Int → Bool → PT → PT → Nat → Bool
  | [], _, _, _, _, _ => true
  | f :: r, v, flex, t, got, i => (if (f.tag < 0 ∧ pHas f v = true) ∨ (0 ≤ f.tag ∧ flex = true ∧ pUsual f (pAt t i) = false) then pTold1 f v flex (pAt t i) (pAt got i) else pUsualGot f (pAt got i)) && pTolds r v flex t got (i + 1)
end

def pTold (fs : List PF) (v : Int) (flex : Bool) (t got : PT) : Bool := decide (got.l.length = fs.length) && pTolds fs v flex t got 0 && pToldEnd fs flex t got

end Go.Kf
