/- The library for this proof, part 3: trees of function bodies, and what the package's functions do. -/
import Derived.Test.YtjmkldppfkfcoaaDoorKf2
import Derived.OpenShut
import Derived.ChangeSlices
import Derived.LaidSub
import Derived.Shelf.Bin.BEUint16
import Derived.Shelf.Bin.BEUint32
import Derived.Shelf.Bin.BEUint64
/- The laws that both ways of reading tell the same. -/
namespace Go.Kf
open Go

section
variable {P : Program} {c : Nums} {w : World}

def tUnsafeLaw (c : Nums) (fMax fVer fTell fUns fGot fSame : Nat) : Tr :=
  .op (.call { callee := .builtin .len, args := ⟨[.tmp 1]⟩, argTypes := ⟨[c.tBytes]⟩ }) none [] <| .op (.binOp .gtr c.tInt (.tmp 2) (.const (.int .i64 2147483647)) c.tInt) none [] <|
  .cond (.tmp 3) (.ret [(.const (.bool true), none)]) <| .op (callOp fMax []) none [] <| .op (.binOp .lss c.tInt (.tmp 4) (.const (.int .i64 0)) c.tInt) none [] <|
  .cond (.tmp 5) (.ret [(.const (.bool false), none)]) <| .op (.call { callee := .builtin .len, args := ⟨[.tmp 1]⟩, argTypes := ⟨[c.tBytes]⟩ }) none [] <| .op (.binOp .gtr c.tInt (.tmp 6) (.const (.int .i64 1000)) c.tInt) none [] <|
  .cond (.tmp 7) (.ret [(.const (.bool true), none)]) <| .op (callOp fVer [.tmp 0, .tmp 4]) none [] <| .op (callOp fTell [.tmp 8, .tmp 1]) none [] <| .op (.extract (.tmp 9) 0) none [] <| .op (.extract (.tmp 9) 1) none [] <|
  .op (.alloc c.tTree) none [] <| .op (.store c.tTree (.tmp 12) (.tmp 10)) none [] <| .op (callOp fVer [.tmp 0, .tmp 4]) none [] <| .op (callOp fUns [.tmp 14, .tmp 1]) none [] <| .op (.extract (.tmp 15) 0) none [] <| .op (.extract (.tmp 15) 1) none [] <|
  .op (.alloc c.tTree) none [] <| .op (.store c.tTree (.tmp 18) (.tmp 16)) none [] <| .draw <| .pur (.binOp .eql c.tBool (.tmp 11) (.tmp 17) c.tBool) none <|
  .cond (.tmp 20) (.pur (.unOp .not c.tBool (.tmp 11)) none <| .cond (.tmp 21) (.ret [(.const (.bool true), none)]) <| .lok (.load c.tTree (.tmp 12)) none <| .lok (.load c.tTree (.tmp 18)) none <|
    .op (callOp fGot [.tmp 22]) none [(.load c.tTree (.tmp 18), 23)] <| .op (callOp fGot [.tmp 23]) none [] <| .op (callOp fSame [.tmp 24, .tmp 25]) none [] <| .ret [(.tmp 26, none)]) (.ret [(.const (.bool false), none)])

theorem DoorPost.form {w w' : World} {v : Value} {o : Option PT} (h : DoorPost w w' v o) : ∃ cs, v = .tuple #[.agg ⟨cs⟩, .bool o.isSome] ∧ cs.length = 5 ∧ (∀ q ∈ cs, q.oneCell' = true) ∧ ∀ t, o = some t → TreeAt w' (fun b => w.heap.size ≤ b) t cs := by
  cases o with
  | none => exact ⟨zeroTree, h, rfl, (zeroTree_at w (fun _ => True)).ones, fun t ht => by cases ht⟩
  | some t =>
    obtain ⟨cs, hv, ht⟩ := h
    exact ⟨cs, hv, ht.len, ht.ones, fun t' ht' => by cases ht'; exact ht⟩

theorem unsafeLaw_gives {f fMax fVer fTell fUns fGot fSame n m : Nat} {data : Value} {l : List UInt8} {e0 : Value} {out : Nat → Option PT} (F : RdFacts P c) (K : TellFacts P c) (Z : TyFacts P c c.tTree c.tTrees c.tTagL c.tTag) (hT : treeIn P f noOrc [.tmp 0, .tmp 1] 2 = tUnsafeLaw c fMax fVer fTell fUns fGot fSame)
    (hMax : ∀ w, Gives P fMax [] w fun v w' => v = .int .i64 m ∧ Keeps [] w w') (hVer : ∀ w, Gives P fVer [.int .u8 n, .int .i64 m] w fun v w' => v = .int .i64 (n % (m + 1) : Nat) ∧ w' = w)
    (hTell : ∀ w, l.length ≤ 1000 → DataIn w data l → ErrAt w c.gErr e0 → Gives P fTell [.int .i64 (n % (m + 1) : Nat), data] w fun v w' => DoorPost w w' v (out (n % (m + 1))) ∧ Keeps [] w w')
    (hUns : ∀ w, l.length ≤ 1000 → DataIn w data l → ErrAt w c.gErr e0 → Gives P fUns [.int .i64 (n % (m + 1) : Nat), data] w fun v w' => DoorPost w w' v (out (n % (m + 1))) ∧ Keeps [] w w')
    (hGot : ∀ x, GotOf P fGot x) (hSame : ∀ x, SameTreeOf P fSame x) (hr : DataIn w data l) (he : ErrAt w c.gErr e0) : Gives P f [.int .u8 n, data] w fun v w' => v = .bool true ∧ Keeps [] w w' := by
  refine gives_in (ρ := en [.int .u8 n, data]) F.mix hT (Nat.le_refl _) rfl (by simp [opBelow]) ?_
  obtain ⟨a, cp, hda⟩ := hr.form
  refine s_val (v_len (a := a) (l := l.length) (c := cp) F.bytes hda) ?_
  refine s_val (v_cmp (kk := .i64) (a := l.length) (b := 2147483647) (r := decide ((l.length : Int) > 2147483647)) rfl rfl rfl) ?_
  refine s_cond (b := decide ((l.length : Int) > 2147483647)) rfl (fun _ => s_ret1 ⟨rfl, .refl⟩) fun _ => ?_
  refine s_callx (hMax w) rfl fun v w1 ⟨hv, k1⟩ => ?_
  subst hv
  refine s_val (v_cmp (kk := .i64) (a := m) (b := 0) (r := false) rfl rfl (by simp [cmpOf])) ?_
  refine s_cond (b := false) rfl (fun h => by cases h) fun _ => ?_
  refine s_val (v_len (a := a) (l := l.length) (c := cp) F.bytes hda) ?_
  refine s_val (v_cmp (kk := .i64) (a := l.length) (b := 1000) (r := decide ((l.length : Int) > 1000)) rfl rfl rfl) ?_
  refine s_cond (b := decide ((l.length : Int) > 1000)) rfl (fun _ => s_ret1 ⟨rfl, k1⟩) fun hle => ?_
  have hl : l.length ≤ 1000 := by
    have : ¬ (l.length : Int) > 1000 := by simpa using hle
    omega
  refine s_callx (hVer w1) rfl fun v w2 ⟨hv, hw⟩ => ?_
  subst hw
  subst hv
  refine s_callx (hTell w2 hl (hr.keep k1) (he.keep k1 (by simp))) rfl fun v w3 ⟨hd1, k3⟩ => ?_
  obtain ⟨cs1, rfl, hl1, ho1, ht1⟩ := hd1.form
  refine s_val (v_extract (vs := #[.agg ⟨cs1⟩, .bool (out (n % (m + 1))).isSome]) rfl rfl) ?_
  refine s_val (v_extract (vs := #[.agg ⟨cs1⟩, .bool (out (n % (m + 1))).isSome]) rfl rfl) ?_
  refine s_alloc K.zero fun w4 h4 k4 z4 => ?_
  refine s_storeAll (b := w3.heap.size) (old := zeroTree) (cs := cs1) (by rw [hl1]; exact Z.agg) rfl rfl h4 (by rw [hl1]; rfl) ho1 fun w5 h5 k5 => ?_
  have k35 : Keeps [] w3 w5 := ((k4.mono (by simp)).trans k5).less fun x hx => .inr (by simp only [List.mem_singleton] at hx; omega)
  have k05 := (k1.trans k3).trans k35
  refine s_callx (hVer w5) rfl fun v w6 ⟨hv, hw⟩ => ?_
  subst hw
  subst hv
  refine s_callx (hUns w6 hl (hr.keep k05) (he.keep k05 (by simp))) rfl fun v w7 ⟨hd2, k7⟩ => ?_
  obtain ⟨cs2, rfl, hl2, ho2, ht2⟩ := hd2.form
  refine s_val (v_extract (vs := #[.agg ⟨cs2⟩, .bool (out (n % (m + 1))).isSome]) rfl rfl) ?_
  refine s_val (v_extract (vs := #[.agg ⟨cs2⟩, .bool (out (n % (m + 1))).isSome]) rfl rfl) ?_
  refine s_alloc K.zero fun w8 h8 k8 z8 => ?_
  refine s_storeAll (b := w7.heap.size) (old := zeroTree) (cs := cs2) (by rw [hl2]; exact Z.agg) rfl rfl h8 (by rw [hl2]; rfl) ho2 fun w9 h9 k9 => ?_
  have k79 : Keeps [] w7 w9 := ((k8.mono (by simp)).trans k9).less fun x hx => .inr (by simp only [List.mem_singleton] at hx; omega)
  show Tr.sem _ _ _ _ _ _ { w9 with drawn := w9.drawn + 1 }
  have hd : Keeps [] w9 { w9 with drawn := w9.drawn + 1 } := keeps_drawn w9 _ _
  generalize ({ w9 with drawn := w9.drawn + 1 } : World) = w10 at hd ⊢
  have k0a : Keeps [] w w10 := ((k05.trans k7).trans k79).trans hd
  have h5a := ((h5.keep k7 (by simp)).keep k79 (by simp)).keep hd (by simp)
  have h9a := h9.keep hd (by simp)
  refine p_val (v_eqlBool (op := .eql) (a := (out (n % (m + 1))).isSome) (b := (out (n % (m + 1))).isSome) (r := true) Z.bool rfl rfl (.inl ⟨rfl, by simp⟩)) ?_
  refine s_cond (b := true) rfl (fun _ => ?_) (fun h => by cases h)
  refine p_val (v_not (b := (out (n % (m + 1))).isSome) rfl) ?_
  refine s_cond (b := !(out (n % (m + 1))).isSome) rfl (fun _ => s_ret1 ⟨rfl, k0a⟩) fun hs => ?_
  obtain ⟨t, hto⟩ : ∃ t, out (n % (m + 1)) = some t := Option.isSome_iff_exists.1 (by simpa using hs)
  have t1 := TreeAt.keep ((((k35.trans k7).trans k79).trans hd)) (fun b hb => by cases hb) (fun _ h _ => h) _ _ (ht1 t hto)
  have t2 := TreeAt.keep (k79.trans hd) (fun b hb => by cases hb) (fun _ h _ => h) _ _ (ht2 t hto)
  refine l_lok (l_loadN (b := w3.heap.size) (o := 0) Z.agg rfl h5a (by omega)) ?_
  rw [show (cs1.drop 0).take 5 = cs1 by rw [List.drop_zero, List.take_of_length_le (by omega)]]
  refine l_lok (l_loadN (b := w7.heap.size) (o := 0) Z.agg rfl h9a (by omega)) ?_
  rw [show (cs2.drop 0).take 5 = cs2 by rw [List.drop_zero, List.take_of_length_le (by omega)]]
  refine s_call (xs := [.tmp 22]) (hGot t w10 _ cs1 t1) fun v w11 ⟨⟨g1, hv, tg1⟩, k11⟩ => ⟨?_, ?_⟩
  · intro p hp
    simp only [List.mem_singleton] at hp
    subst hp
    have := l_loadN (P := P) (ρ := en []) (w := w11) (x := .const (ptr w7.heap.size)) (b := w7.heap.size) (o := 0) Z.agg rfl (h9a.keep k11 (by simp)) (by omega)
    rw [show (cs2.drop 0).take 5 = cs2 by rw [List.drop_zero, List.take_of_length_le (by omega)]] at this
    exact this
  subst hv
  refine s_callx (hGot t w11 _ cs2 (TreeAt.keep k11 (fun b hb => by cases hb) (fun _ h _ => h) _ _ t2)) rfl fun v w12 ⟨⟨g2, hv, tg2⟩, k12⟩ => ?_
  subst hv
  refine s_callx (hSame t w12 _ _ g1 g2 (TreeAt.keep k12 (fun b hb => by cases hb) (fun _ h _ => h) _ _ tg1) tg2) rfl fun v w13 ⟨hv, k13⟩ => ?_
  exact s_ret1 ⟨hv, ((k0a.trans k11).trans k12).trans k13⟩
end
end Go.Kf
/- Reading and telling, joined. -/
namespace Go.Kf
open Go

/-- A tell function, over values of these types. -/
def TellOf (P : Program) (f : Nat) (ts : List Ty) (g : List FV → PT) : Prop := ∀ (w : World) (D V lo : Nat) (pre post mid : List Value) (fs : List FV), okFs fs ts → Has w V (pre ++ mid ++ post) → FsAt D w lo fs mid →
  Gives P f [ptr V pre.length] w fun v w' => (∃ cs, v = .agg ⟨cs⟩ ∧ TreeAt w' (fun b => w.heap.size ≤ b) (g fs) cs) ∧ Keeps [] w w'

theorem rt_gives {P : Program} {c : Nums} {e : Fns} {f g fTell S fDef : Nat} {ds : List Dset} {ls : List Nat} {ss : List Step} {v : Int} {uns : Bool} {fs0 fs1 : List FV} {mid0 mid1 : List Value} {ts : List Ty} {gp : List FV → PT} (F : RdFacts P c) (A : RfFacts P c S) (hOk : OkGives P e.ok) (hCo : CompGives P e.complete c.gErr)
    (hT : treeIn P g (orcV 9 v) [.tmp 0, .tmp 1, .const (.bool uns)] 3 = gReadFrom c e S fDef v ss) (hW : treeIn P f noOrc [.tmp 0, .tmp 1] 2 = tWrap g uns) (hDef : DefSets P fDef ls ds) (hok : StepsOk P c S ls ss) (hdeep : deepsOk ss = true) (h0 : fs0.map FV.wd = ls) (h01 : applyD ds fs0 = fs1) (hidx : idxOk fs1 ss = true)
    (himm0 : immL fs0 = some mid0) (himm : immL fs1 = some mid1) (hv : fs1[0]? = some (.one (.int .i16 v))) (hl1 : fs1.map FV.wd = ls) (hty : tySteps ts ss = true) (htd : okImms fs1 ts = true) (hTell : TellOf P fTell ts gp)
    {w : World} {V D : Nat} {src e0 : Value} {l : List UInt8} (hV : Has w V mid0) (hr : Reads w src 1 l.length (bcells l)) (hn : nilOf src = l.isEmpty) (hb : ∀ b ∈ blkOf src, b = D) (hD : D < w.heap.size) (hVD : V ≠ D) (he : ErrAt w c.gErr e0) (hgV : c.gErr ≠ V) (hl : l.length ≤ 16777216) :
    Gives P f [ptr V, src] w fun u w' => Keeps [V] w w' ∧ match toldOf ss fs1 gp l with
      | some t => u = .nilIface ∧ Gives P fTell [ptr V] w' fun v w2 => (∃ cs, v = .agg ⟨cs⟩ ∧ TreeAt w2 (fun b => w'.heap.size ≤ b) t cs) ∧ Keeps [] w' w2
      | none => u = e0 := by
  refine wrap_gives F.mix hW ((readFrom_gives F A hOk hCo hT hDef hok hdeep h0 h01 hidx himm hv hl1 hV (fun D lo => immL_at himm0 D w lo) hr hb hD hVD he hgV hl).mono fun u w' ⟨kk, hp⟩ => ⟨kk, ?_⟩)
  rw [hn] at hp
  unfold toldOf
  cases hrun : runSteps ss fs1 ⟨l, false, l.isEmpty⟩ with
  | none => rw [hrun] at hp; exact hp
  | some x =>
    obtain ⟨fs, r⟩ := x
    rw [hrun] at hp
    simp only [RfPost] at hp
    cases hbad : r.bad with
    | true =>
      rw [hbad] at hp
      simp only [hbad, if_true] at hp ⊢
      exact hp
    | false =>
      rw [hbad] at hp
      obtain ⟨hu, mid, hm, hf⟩ := hp
      simp only [hbad, Bool.false_eq_true, if_false]
      exact ⟨hu, hTell w' D V w.heap.size [] [] mid fs (runSteps_ok ss ts fs1 _ fs r hty (okImms_ok htd) hl hrun) (by simpa using hm) hf⟩
end Go.Kf
/- A tell function, by the types of its struct's fields. -/
namespace Go.Kf
open Go

mutual
def Ty.wd : Ty → Nat
  | .uuid => 16
  | .sub ts => tyWds ts
  | _ => 1
def tyWds : List Ty → Nat
  | [] => 0
  | t :: ts => t.wd + tyWds ts
end

theorem okF_num {f : FV} {k : IntKind} (h : okF f (.num k)) : ∃ x, f = .one (.int k x) ∧ k.wrap x = x := by
  cases f with
  | one v => obtain ⟨x, rfl, h⟩ := h; exact ⟨x, rfl, h⟩
  | ptr o => cases o <;> simp [okF] at h
  | _ => simp [okF] at h

theorem okF_bool {f : FV} (h : okF f .bool) : ∃ b, f = .one (.bool b) := by
  cases f with
  | one v => obtain ⟨x, rfl⟩ := h; exact ⟨x, rfl⟩
  | ptr o => cases o <;> simp [okF] at h
  | _ => simp [okF] at h

theorem okF_text {f : FV} (h : okF f .text) : ∃ l, f = .text l ∧ l.length ≤ big := by
  cases f with
  | text l => exact ⟨l, rfl, h.2⟩
  | ptr o => cases o <;> simp [okF] at h
  | _ => simp [okF] at h

theorem okF_ntext {f : FV} (h : okF f .ntext) : ∃ o, f = .ntext o ∧ ∀ l, o = some l → l.length ≤ big := by
  cases f with
  | ntext l => exact ⟨l, rfl, h.2⟩
  | ptr o => cases o <;> simp [okF] at h
  | _ => simp [okF] at h

theorem okF_octs {f : FV} (h : okF f .octs) : ∃ nl l, f = .octs nl l ∧ l.length ≤ big := by
  cases f with
  | octs nl l => exact ⟨nl, l, rfl, h.2⟩
  | ptr o => cases o <;> simp [okF] at h
  | _ => simp [okF] at h

theorem okF_uuid {f : FV} (h : okF f .uuid) : ∃ l, f = .uuid l ∧ l.length = 16 := by
  cases f with
  | uuid l => exact ⟨l, rfl, h.2⟩
  | ptr o => cases o <;> simp [okF] at h
  | _ => simp [okF] at h

theorem okF_tags {f : FV} (h : okF f .tags) : ∃ m, f = .tags m ∧ m.length ≤ big ∧ ∀ p ∈ m, p.2.length ≤ big := by
  cases f with
  | tags m => exact ⟨m, rfl, h.2⟩
  | ptr o => cases o <;> simp [okF] at h
  | _ => simp [okF] at h

theorem okF_list {f : FV} {ts : List Ty} (h : okF f (.list ts)) : ∃ nl rows, f = .list nl rows ∧ rows.length ≤ big ∧ okRows rows ts := by
  cases f with
  | list nl rows => exact ⟨nl, rows, rfl, h.1, h.2⟩
  | ptr o => cases o <;> simp [okF] at h
  | _ => simp [okF] at h

theorem okF_sub {f : FV} {ts : List Ty} (h : okF f (.sub ts)) : ∃ fs, f = .sub fs ∧ okFs fs ts := by
  cases f with
  | sub fs => exact ⟨fs, rfl, h⟩
  | ptr o => cases o <;> simp [okF] at h
  | _ => simp [okF] at h

theorem okF_ptr {f : FV} {ts : List Ty} (h : okF f (.ptr ts)) : ∃ o, f = .ptr o ∧ ∀ fs, o = some fs → okFs fs ts := by
  cases f with
  | ptr o => cases o with
    | none => exact ⟨none, rfl, fun fs h => by cases h⟩
    | some fs => exact ⟨some fs, rfl, fun fs' h' => by cases h'; exact h⟩
  | _ => simp [okF] at h

mutual
theorem okF_wd : ∀ (f : FV) (t : Ty), okF f t → f.wd = t.wd
  | f, .num k, h => by obtain ⟨x, rfl, _⟩ := okF_num h; rfl
  | f, .bool, h => by obtain ⟨x, rfl⟩ := okF_bool h; rfl
  | f, .uuid, h => by obtain ⟨x, rfl, _⟩ := okF_uuid h; rfl
  | f, .text, h => by obtain ⟨x, rfl, _⟩ := okF_text h; rfl
  | f, .ntext, h => by obtain ⟨x, rfl, _⟩ := okF_ntext h; rfl
  | f, .octs, h => by obtain ⟨_, x, rfl, _⟩ := okF_octs h; rfl
  | f, .tags, h => by obtain ⟨x, rfl, _⟩ := okF_tags h; rfl
  | f, .list ts, h => by obtain ⟨_, x, rfl, _⟩ := okF_list h; rfl
  | f, .ptr ts, h => by obtain ⟨x, rfl, _⟩ := okF_ptr h; rfl
  | f, .sub ts, h => by
    obtain ⟨fs, rfl, hf⟩ := okF_sub h
    simp only [FV.wd, Ty.wd]
    exact okFs_wds fs ts hf
theorem okFs_wds : ∀ (fs : List FV) (ts : List Ty), okFs fs ts → wds fs = tyWds ts
  | [], ts, h => by simp only [okFs] at h; subst h; rfl
  | f :: fs, [], h => by simp only [okFs] at h
  | f :: fs, t :: ts, h => by
    simp only [okFs] at h
    simp only [wds, tyWds, okF_wd f t h.1, okFs_wds fs ts h.2]
end

theorem okFs_map : ∀ (fs : List FV) (ts : List Ty), okFs fs ts → fs.map FV.wd = ts.map Ty.wd
  | [], ts, h => by simp only [okFs] at h; subst h; rfl
  | f :: fs, [], h => by simp only [okFs] at h
  | f :: fs, t :: ts, h => by
    simp only [okFs] at h
    simp only [List.map_cons, okF_wd f t h.1, okFs_map fs ts h.2]

/-- The row j of a list. -/
theorem RowsAt.at {D : Nat} {w : World} {lo sz : Nat} : ∀ {rows : List (List FV)} {cs : List Value} {j : Nat}, RowsAt D w lo rows cs → (∀ r ∈ rows, wds r = sz) → (hj : j < rows.length) → ∃ a m z, cs = a ++ m ++ z ∧ a.length = j * sz ∧ FsAt D w lo rows[j] m
  | [], _, _, _, _, hj => by simp at hj
  | r :: rows, _, 0, ⟨c1, c2, e, h1, _⟩, _, _ => ⟨[], c1, c2, by simpa using e, by simp, h1⟩
  | r :: rows, _, j + 1, ⟨c1, c2, e, h1, h2⟩, hs, hj => by
    obtain ⟨a, m, z, e2, ha, hm⟩ := RowsAt.at (j := j) h2 (fun x hx => hs x (List.mem_cons_of_mem _ hx)) (by simpa using hj)
    refine ⟨c1 ++ a, m, z, by rw [e, e2]; simp, ?_, by simpa using hm⟩
    rw [List.length_append, ha, FsAt.len r c1 h1, hs r List.mem_cons_self, Nat.add_mul]
    omega

theorem okRows_wds {rows : List (List FV)} {ts : List Ty} (h : okRows rows ts) : ∀ r ∈ rows, wds r = tyWds ts := fun r hr => okFs_wds r ts (okRows_mem h r hr)

section
variable {P : Program} {c : Nums}

/-- A step of the telling, over values of these types. -/
def StepTell (P : Program) (c : Nums) (S : Nat) (ts : List Ty) (s : TStep) (q : Nat) (tf : List FV → PT) : Prop :=
  ∀ (R : Value → World → Prop) (w0 : World) (N D V lo : Nat) (pre post : List Value) (fs : List FV), okFs fs ts → TIn w0 D V lo pre post fs → q < N → V < w0.heap.size → SemT P c R w0 N S V pre s q (tf fs)

def FieldTy (P : Program) (S : Nat) (ts : List Ty) (i off : Nat) (t : Ty) : Prop := fieldOff P S i = some off ∧ ((ts.map Ty.wd).take i).sum = off ∧ ts[i]? = some t

theorem FieldTy.ok {S i off : Nat} {ts : List Ty} {t : Ty} (h : FieldTy P S ts i off t) : FieldOk P S (ts.map Ty.wd) i off := ⟨h.1, h.2.1⟩

def fvGet (fs : List FV) (i : Nat) : FV := fs.getD i (.text [])

theorem fvGet_eq {fs : List FV} {i : Nat} {f : FV} (h : fs[i]? = some f) : fvGet fs i = f := by
  unfold fvGet
  rw [List.getD_eq_getElem?_getD, h]; rfl

/-- Kinds that 64 bits hold. -/
def IntKind.fits (k : IntKind) : Prop := ∀ x, k.wrap x = x → IntKind.i64.wrap x = x

theorem fits_i8 : IntKind.fits .i8 := fun x h => by
  simp only [IntKind.wrap, IntKind.bits, IntKind.signed] at h ⊢; simp at h ⊢; omega
theorem fits_i16 : IntKind.fits .i16 := fun x h => by
  simp only [IntKind.wrap, IntKind.bits, IntKind.signed] at h ⊢; simp at h ⊢; omega
theorem fits_i32 : IntKind.fits .i32 := fun x h => by
  simp only [IntKind.wrap, IntKind.bits, IntKind.signed] at h ⊢; simp at h ⊢; omega
theorem fits_i64 : IntKind.fits .i64 := fun _ h => h
theorem fits_u8 : IntKind.fits .u8 := fun x h => by
  simp only [IntKind.wrap, IntKind.bits, IntKind.signed] at h ⊢; simp at h ⊢; omega
theorem fits_u16 : IntKind.fits .u16 := fun x h => by
  simp only [IntKind.wrap, IntKind.bits, IntKind.signed] at h ⊢; simp at h ⊢; omega
theorem fits_u32 : IntKind.fits .u32 := fun x h => by
  simp only [IntKind.wrap, IntKind.bits, IntKind.signed] at h ⊢; simp at h ⊢; omega

theorem told_num {S i ty q off : Nat} {ik : IntKind} {ts : List Ty} (Z : TyFacts P c c.tTree c.tTrees c.tTagL c.tTag) (K : TellFacts P c) (hF : FieldTy P S ts i off (.num ik)) (hty : P.underlying ty = some (.int ik)) (hone : oneTy P ty = true) (hk : IntKind.fits ik) :
    StepTell P c S ts (.num i ty q) q fun fs => tellPrim (fvGet fs i) := by
  intro R w0 N D V lo pre post fs hok hin hq _
  obtain ⟨f, hf, hft⟩ := okFs_get hok hF.2.2
  obtain ⟨x, rfl, hx⟩ := okF_num hft
  simp only [fvGet_eq hf]
  exact tell_num Z K.plan hin (okFs_map _ _ hok) hF.ok hq hty hone hf (hk x hx)

theorem told_num64 {S i q off : Nat} {ts : List Ty} (Z : TyFacts P c c.tTree c.tTrees c.tTagL c.tTag) (K : TellFacts P c) (hF : FieldTy P S ts i off (.num .i64)) : StepTell P c S ts (.num64 i q) q fun fs => tellPrim (fvGet fs i) := by
  intro R w0 N D V lo pre post fs hok hin hq _
  obtain ⟨f, hf, hft⟩ := okFs_get hok hF.2.2
  obtain ⟨x, rfl, hx⟩ := okF_num hft
  simp only [fvGet_eq hf]
  exact tell_num64 Z K.plan hin (okFs_map _ _ hok) hF.ok hq hf

theorem told_text {S i q off : Nat} {ts : List Ty} (F : RdFacts P c) (Z : TyFacts P c c.tTree c.tTrees c.tTagL c.tTag) (K : TellFacts P c) (hstr : oneTy P c.tStr = true) (hF : FieldTy P S ts i off .text) : StepTell P c S ts (.text i q) q fun fs => tellPrim (fvGet fs i) := by
  intro R w0 N D V lo pre post fs hok hin hq _
  obtain ⟨f, hf, hft⟩ := okFs_get hok hF.2.2
  obtain ⟨l, rfl, hl⟩ := okF_text hft
  simp only [fvGet_eq hf]
  exact tell_text F hstr Z K.plan hin (okFs_map _ _ hok) hF.ok hq hf hl

/-- A function that tells one cell's value, by its type. -/
def TellCellTy (P : Program) (f : Nat) (t : Ty) : Prop := t.wd = 1 ∧ ∀ (D lo : Nat) (fv : FV), okF fv t → TellCell P f D lo fv

theorem told_call {S f i ty q off : Nat} {t : Ty} {ts : List Ty} (Z : TyFacts P c c.tTree c.tTrees c.tTagL c.tTag) (hF : FieldTy P S ts i off t) (hone : oneTy P ty = true) (hC : TellCellTy P f t) : StepTell P c S ts (.call f i ty q) q fun fs => tellPrim (fvGet fs i) := by
  intro R w0 N D V lo pre post fs hok hin hq _
  obtain ⟨fv, hf, hft⟩ := okFs_get hok hF.2.2
  simp only [fvGet_eq hf]
  exact tell_call Z hin (okFs_map _ _ hok) hF.ok hq hone hf ((okF_wd fv t hft).trans hC.1) (hC.2 D lo fv hft)

/-- An element of a list, told. -/
def ElTell (P : Program) (c : Nums) (el : TEl) (ts : List Ty) (g : List FV → PT) : Prop :=
  ∀ (w : World) (D lo B : Nat) (a m z : List Value) (r : List FV), Has w B (a ++ m ++ z) → FsAt D w lo r m → okFs r ts → ElLaid P c el B a.length (g r) w

theorem el_sub {f : Nat} {ts : List Ty} {g : List FV → PT} (h : TellOf P f ts g) : ElTell P c (.sub f) ts g := fun w D lo B a m z r hh hf hok w' k' =>
  h w' D B lo a z m r hok (hh.keep k' (by simp)) (FsAt.keep k' lo (fun b hb => by cases hb) _ _ hf)

theorem el_text (hstr : oneTy P c.tStr = true) : ElTell P c .text [.text] fun r => tellPrim (fvGet r 0) := by
  intro w D lo B a m z r hh hf hok
  obtain ⟨f, hr, hft⟩ := okFs_get (i := 0) hok rfl
  obtain ⟨l, rfl, hl⟩ := okF_text hft
  simp only [fvGet_eq hr]
  obtain ⟨a1, m1, z1, e, ha, hm, _⟩ := hf.split hr
  have : a1 = [] := List.eq_nil_of_length_eq_zero (by rw [ha]; rfl)
  subst this
  simp only [FAt] at hm
  subst hm
  exact ⟨_, _, hh, by rw [e, List.append_assoc, List.getElem?_append_right (Nat.le_refl _), Nat.sub_self]; rfl, ⟨l, rfl, hl, rfl⟩, hstr⟩

theorem el_num {ty : Nat} {ik : IntKind} (hty : P.underlying ty = some (.int ik)) (hone : oneTy P ty = true) (hk : IntKind.fits ik) : ElTell P c (.num ty) [.num ik] fun r => tellPrim (fvGet r 0) := by
  intro w D lo B a m z r hh hf hok
  obtain ⟨f, hr, hft⟩ := okFs_get (i := 0) hok rfl
  obtain ⟨x, rfl, hx⟩ := okF_num hft
  simp only [fvGet_eq hr]
  obtain ⟨a1, m1, z1, e, ha, hm, _⟩ := hf.split hr
  have : a1 = [] := List.eq_nil_of_length_eq_zero (by rw [ha]; rfl)
  subst this
  obtain ⟨rfl, _⟩ := hm
  exact ⟨_, _, hh, by rw [e, List.append_assoc, List.getElem?_append_right (Nat.le_refl _), Nat.sub_self]; rfl, ⟨ik, x, rfl, hty, hk x hx, rfl⟩, hone⟩

/-- What a list is told as. -/
def tellList (g : List FV → PT) : FV → PT
  | .list nl rows => .mk 0 [] nl (rows.map g) []
  | _ => .zero

theorem told_list {S i tySl q T sz off : Nat} {el : TEl} {ets ts : List Ty} {g : List FV → PT} (F : RdFacts P c) (Z : TyFacts P c c.tTree c.tTrees c.tTagL c.tTag) (K : TellFacts P c) (hF : FieldTy P S ts i off (.list ets)) (hone : oneTy P tySl = true) (hsl : P.underlying tySl = some (.slice T)) (hsz : (P.info? T).map (·.size) = some sz)
    (hw : tyWds ets = sz) (hE : ElTell P c el ets g) : StepTell P c S ts (.list i tySl q el) q fun fs => tellList g (fvGet fs i) := by
  intro R w0 N D V lo pre post fs hok hin hq hV
  obtain ⟨f, hf, hft⟩ := okFs_get hok hF.2.2
  obtain ⟨nl, rows, rfl, hl, hrows⟩ := okF_list hft
  simp only [fvGet_eq hf]
  refine tell_list (tl := rows.map g) F Z K.plan K.row K.coin hin (okFs_map _ _ hok) hF.ok hq hone hsl hsz hf (by simp) (by simp only [List.length_map, big] at hl ⊢; omega) hV fun w B rcs kk hB hr j hj => ?_
  have hj' : j < rows.length := by simpa using hj
  obtain ⟨a, m, z, e, ha, hm⟩ := hr.at (j := j) (fun r hr => (okRows_wds hrows r hr).trans hw) hj'
  subst e
  have := hE w D (B + 1) B a m z rows[j] hB hm (okRows_mem hrows _ (List.getElem_mem _))
  rw [ha] at this
  rw [Nat.zero_add, List.getElem_map]
  exact this

/-- Steps and what they tell. -/
def StepsTell (P : Program) (c : Nums) (S : Nat) (ts : List Ty) : List TStep → List (List FV → PT) → Nat → Prop
  | [], [], _ => True
  | s :: ss, t :: tl, q => StepTell P c S ts s q t ∧ StepsTell P c S ts ss tl (q + 1)
  | _, _, _ => False

theorem steps_told {S : Nat} {ts : List Ty} {R : Value → World → Prop} {w0 : World} {N D V lo : Nat} {pre post : List Value} {fs : List FV} (hok : okFs fs ts) (hin : TIn w0 D V lo pre post fs) (hV : V < w0.heap.size) :
    ∀ (ss : List TStep) (tfs : List (List FV → PT)) (q : Nat), StepsTell P c S ts ss tfs q → q + tfs.length ≤ N → StepsT P c R w0 N S V pre ss (tfs.map (· fs)) q
  | [], [], _, _, _ => trivial
  | [], _ :: _, _, h, _ => h.elim
  | _ :: _, [], _, h, _ => h.elim
  | s :: ss, t :: tl, q, ⟨h1, h2⟩, hq => by
    simp only [List.length_cons] at hq
    exact ⟨h1 R w0 N D V lo pre post fs hok hin (by omega) hV, steps_told hok hin hV ss tl (q + 1) h2 (by omega)⟩

/-- A struct without tags. -/
theorem told_of {f S N : Nat} {ts : List Ty} {ss : List TStep} {tfs : List (List FV → PT)} (F : RdFacts P c) (Z : TyFacts P c c.tTree c.tTrees c.tTagL c.tTag) (K : TellFacts P c) (hT : treeIn P f noOrc [.tmp 0] 1 = gTell c S N ss) (hN : tfs.length = N) (hsm : N ≤ 1024) (hs : StepsTell P c S ts ss tfs 0) :
    TellOf P f ts fun fs => .mk 0 [] false (tfs.map (· fs)) [] := by
  intro w D V lo pre post mid fs hok hh hf
  exact tell_gives F Z K hT (by simpa using hN) hsm fun R => steps_told hok ⟨mid, hh, hf⟩ hh.lt ss tfs 0 hs (by omega)
end
end Go.Kf
/- A law's row: what its arguments are, what is to be said behind it. -/
namespace Go.Kf
open Go Go.ChangeShapes Go.WideShapes Go.RowKit

theorem lit_u8 {n : Int} (h : (Lit.int .u8 n).wf = true) : ∃ m : Nat, n = m ∧ m < 256 := by
  simp only [Lit.wf, Bool.and_eq_true, decide_eq_true_eq] at h
  have e1 : IntKind.u8.min = 0 := rfl
  have e2 : IntKind.u8.max = 255 := rfl
  rw [e1, e2] at h
  exact ⟨n.toNat, by omega, by omega⟩

theorem keep_cell {w w' : World} (hk : Keeps [] w w') {a : Addr} {v : Value} (h : w.cell? a = some v) : w'.cell? a = some v := by
  unfold World.cell? at h ⊢
  cases hb : w.heap[a.block]? with
  | none => rw [hb] at h; cases h
  | some o => rw [hk.block _ (Array.getElem?_eq_some_iff.1 hb).1 (by simp)]; exact h

theorem cell_block {w : World} {a : Addr} {v : Value} (h : w.cell? a = some v) : a.block < w.heap.size := by
  unfold World.cell? at h
  cases hb : w.heap[a.block]? with
  | none => rw [hb] at h; cases h
  | some o => exact (Array.getElem?_eq_some_iff.1 hb).1

theorem keptBut_keeps {w w' : World} (hk : Keeps [] w w') (may : MemPlace → Prop) : w.keptBut w' may := by
  refine ⟨hk.os, hk.output, fun i hi => ?_⟩
  rw [hk.block i hi (by simp)]
  split <;> simp_all

/-- A law of an octet and octets. -/
theorem law_row {H : Type} {enc : TypeId × Value → H} {P : Program} {fn : Func} {s : ChangeSpec} {tU tBy tB : Nat} (hp : fn.params = #[tU, tBy]) (hr : fn.resultTypes = #[tB]) (hu : P.underlying tU = some (.int .u8)) (hby : P.underlying tBy = some (.slice tU)) (hc : P.cellsOf tU = 1) (hb : P.underlying tB = some .bool)
    (hs : ∀ (H : Type) (d1 d2 : DataW H), s.fn H [d1, d2] = { results := [.lit (.bool true)], args := [d1, d2] }) (hvs : s.vars = []) {W : World} {base : Nat} {args : Array Value} {ds gs : List (DataW H)} {before : List MemPlace}
    (hval : ∀ (j : Nat) t v, fn.params[j]? = some t → args[j]? = some v → Value.okWide P W .any base t v) (hW : DataW.Whole enc P fn.params.toList s.vars false W args.toList ds gs before) :
    ∃ (n : Nat) (data : Value) (l : List UInt8), n < 256 ∧ args = #[.int .u8 n, data] ∧ DataIn W data l ∧ ∀ W', Keeps [] W W' → s.post enc P fn false true false false W args (.bool true) W' := by
  have hW0 := hW
  obtain ⟨p, q, hA, hV, rfl, hfz, hnd⟩ := hW
  rw [hvs] at hV
  obtain ⟨rfl, rfl⟩ := trodVars_none hV
  rw [hp] at hA hval
  obtain ⟨v0, vs0, d0, ds0, p0, q0, hargs, rfl, rfl, h0, r0⟩ := trodAll_cons hA
  obtain ⟨v1, vs1, d1, ds1, p1, q1, rfl, rfl, rfl, h1, r1⟩ := trodAll_cons r0
  obtain ⟨rfl, rfl, rfl⟩ := trodAll_nil r1
  obtain rfl : args = #[v0, v1] := by cases args; simp_all
  obtain ⟨n0, rfl, rfl, rfl, hw0⟩ := open_int hu (hval 0 tU v0 rfl rfl) h0
  obtain ⟨n, rfl, hn⟩ := lit_u8 hw0
  obtain ⟨a0, len0, cap0, rfl⟩ := okWide_slice hby (hval 1 tBy v1 rfl rfl)
  have hres : ∀ (W' : World) (b : Nat) (sp : Nat → Bool) (hd : Bool), DataW.TrodAll enc P W' b sp hd fn.resultTypes.toList ((Value.bool true).resultList fn.resultTypes.size) [.lit (.bool true)] [] := by
    intro W' b sp hd
    rw [hr]
    exact trodAll_cons_mk (shut_bool hb _) trodAll_mk0
  have hintAt : ∀ (W' : World) (sp : Nat → Bool), DataW.Trod enc P W' 0 sp true tU (.int .u8 (n : Int)) (.lit (.int .u8 n)) [] := fun W' sp => ⟨1, trod_int_mk 0 hu hw0⟩
  have fin : ∀ (d1 : DataW H) (p1 : List MemPlace), (∀ W', Keeps [] W W' → DataW.Trod enc P W' 0 (fun b => decide (b < W.heap.size)) true tBy (.slice a0 len0 cap0) d1 p1) → DataW.Whole enc P fn.params.toList s.vars false W #[.int .u8 n, .slice a0 len0 cap0].toList ([.lit (.int .u8 n), d1]) [] ([] ++ (p1 ++ []) ++ []) →
      ∀ W', Keeps [] W W' → s.post enc P fn false true false false W #[.int .u8 n, .slice a0 len0 cap0] (.bool true) W' := by
    intro d1 p1 hsl hWh W' hk
    refine ⟨_, _, _, [], [] ++ (p1 ++ []), [], hWh, ?_, ?_, ?_, ?_, fun h => by cases h⟩
    · rw [List.append_nil, hs]; exact hres W' _ _ _
    · rw [List.append_nil, hs, hp]
      exact trodAll_cons_mk (hintAt W' _) (trodAll_cons_mk (hsl W' hk) trodAll_mk0)
    · rw [hvs, List.append_nil, hs]; rfl
    · exact World.keptBut_mono (fun p hp => ⟨hp, .inr (.inl (by simpa using hp))⟩) (keptBut_keeps hk _)
  obtain ⟨fuel, hf⟩ := h1
  rcases open_ints hby hu hc hf with ⟨hcs, hx⟩ | ⟨a, len, cap, zs, hcs, hba, hle, hmx, hzl, hx, hcell, hwf⟩
  · simp only [Prod.mk.injEq] at hx
    obtain ⟨rfl, rfl⟩ := hx
    have hv : a0 = none ∧ len0 = 0 ∧ cap0 = 0 := by simpa [Value.cells] using hcs
    obtain ⟨rfl, rfl, rfl⟩ := hv
    refine ⟨n, _, [], hn, rfl, .inl ⟨rfl, rfl⟩, ?_⟩
    refine fin _ _ (fun W' hk => ⟨1, ?_⟩) hW0
    simp [Value.cells, DataW.trod, hby]
  · simp only [Prod.mk.injEq] at hx
    obtain ⟨rfl, rfl⟩ := hx
    have hv : a0 = some a ∧ len0 = len ∧ cap0 = cap := by simpa [Value.cells] using hcs
    obtain ⟨rfl, rfl, rfl⟩ := hv
    simp only [if_true] at hzl
    have hz8 : ∀ z ∈ zs, ∃ m : Nat, z = m ∧ m < 256 := fun z hz => lit_u8 (hwf z hz)
    refine ⟨n, _, (zs.take len0).map fun z => UInt8.ofNat z.toNat, hn, rfl, .inr ⟨a, cap0, ?_, ?_⟩, ?_⟩
    · simp only [List.length_map, List.length_take]
      rw [Nat.min_eq_left (by omega)]
    · intro i hi
      simp only [List.length_map, List.length_take] at hi
      have hi' : i < zs.length := by omega
      rw [hcell i hi']
      obtain ⟨m, hm, hlt⟩ := hz8 zs[i] (List.getElem_mem _)
      simp only [List.getElem_map, List.getElem_take, List.getD_eq_getElem?_getD, List.getElem?_eq_getElem hi', Option.getD_some, hm, Int.toNat_natCast]
      congr 2
      have : (UInt8.ofNat m).toNat = m := by rw [UInt8.toNat_ofNat']; omega
      rw [this]
    · refine fin _ _ (fun W' hk => ⟨2, ?_⟩) hW0
      have hsz : ∀ i, i < zs.length → a.block < W.heap.size := fun i hi => by have := cell_block (hcell i hi); rwa [block_add] at this
      have hlen : zs.length = if decide (a.block < W.heap.size) then cap0 else len0 := by
        by_cases hz : 0 < zs.length
        · rw [decide_eq_true (hsz 0 hz)]; simpa using hzl
        · split <;> omega
      exact shut_ints 0 hby hu hc (Nat.zero_le _) hle hmx hlen (fun i hi => keep_cell hk (hcell i hi)) hwf

/-- The listed error's variable. -/
theorem err_at {P : Program} {W : World} {name nm : String} {d : DataW Unit} {g t : Nat} (hg : P.globalNamed name = some g) (ht : (P.globals[g]?).map (·.type) = some t) (hu : ∃ ms, P.underlying t = some (.interface ms)) (hn : (DataW.iface nm d : DataW Unit).handleName?.isNone = true) (hL : laidMetH P [(name, .iface nm d)] W) :
    ∃ u v, ErrAt W g (.iface u v) := by
  have hL' : laidMet P [(name, .iface nm d)] W := by
    unfold laidMetH at hL
    have : ([(name, DataW.iface nm d)].filter fun x => x.2.handleName?.isSome) = [] := by
      simp only [List.filter_cons, List.filter_nil]
      rw [if_neg (by simpa using hn)]
    rw [this] at hL
    exact hL
  obtain ⟨ps, ⟨g', t', cs, fuel, p, q, hg', ht', hv, htr, _⟩, _⟩ := hL'
  obtain rfl : g = g' := by rw [hg] at hg'; simpa using hg'
  obtain rfl : t = t' := by rw [ht] at ht'; simpa using ht'
  obtain ⟨ms, hu⟩ := hu
  unfold World.var? at hv
  rw [hg] at hv
  simp only [Option.bind_some] at hv
  cases hb : W.heap[g]? with
  | none => rw [hb] at hv; cases hv
  | some o =>
    rw [hb] at hv
    obtain ⟨c, ty, fr, rfl⟩ : ∃ c ty fr, o = .cells c ty fr := by cases o <;> first | exact ⟨_, _, _, rfl⟩ | cases hv
    simp only [Option.some.injEq] at hv
    subst hv
    cases fuel with
    | zero => simp [DataW.trod] at htr
    | succ fuel =>
      unfold DataW.trod at htr
      rw [hu] at htr
      obtain ⟨u, v, hcs⟩ : ∃ u v, c.toList = [.iface u v] := by
        match hc : c.toList with
        | [.iface u v] => exact ⟨u, v, rfl⟩
        | [.nilIface] => rw [hc] at htr; simp at htr
        | [] => rw [hc] at htr; simp at htr
        | _ :: _ :: _ => rw [hc] at htr; simp at htr
        | [.bool _] => rw [hc] at htr; simp at htr
        | [.int _ _] => rw [hc] at htr; simp at htr
        | [.string _] => rw [hc] at htr; simp at htr
        | [.pointer _] => rw [hc] at htr; simp at htr
        | [.slice _ _ _] => rw [hc] at htr; simp at htr
        | [.map _] => rw [hc] at htr; simp at htr
        | [.agg _] => rw [hc] at htr; simp at htr
        | [x] => rw [hc] at htr; cases x <;> simp_all
      refine ⟨u, v, ?_, (Array.getElem?_eq_some_iff.1 hb).1⟩
      unfold World.cell?
      rw [show (⟨g, 0, none⟩ : Addr).block = g from rfl, hb]
      simp only [Option.isSome_none, Bool.false_eq_true, if_false]
      rw [← Array.getElem?_toList, hcs]
      rfl
end Go.Kf
/- The package encoding/binary's reading functions, by the shelf's contracts. -/
namespace Go.Kf
open Go Go.Shelf Go.Proofs
variable {P : Program} {ρ : Ren}

theorem be_cell {w : World} {b o i : Nat} {cs : List Value} {l : List UInt8} (hh : Has w b cs) (hx : (cs.drop o).take (l.length * 1) = bcells l) (hi : i < l.length) : w.cell? ⟨b, o + i, none⟩ = some (.int .u8 l[i].toNat) := by
  refine hh.cell ?_
  have h1 : (bcells l)[i]? = some (.int .u8 l[i].toNat) := by simp [bcells, hi]
  rw [← hx, List.getElem?_take, if_pos (by omega), List.getElem?_drop] at h1
  exact h1

theorem be16 {f : Nat} (L : LaysBin.n36 P ρ) (hf : ρ.f 36 = f) (hg : goFn P f = true) : BeGives P f 2 .u16 := by
  subst hf
  intro w v l hl hr
  rcases hr.2 with ⟨_, h0⟩ | ⟨b, o, cap, cs, rfl, hc, hh, hlen, hx⟩
  · omega
  · refine ⟨hg, Calls.mono (Proofs.Any.binary_BE_Uint16 L b o l.length cap l[0] l[1] w hl (be_cell (i := 0) hh hx (by omega)) (be_cell (i := 1) hh hx (by omega))) fun e w' ⟨he, hb⟩ => ?_⟩
    subst he
    refine ⟨?_, .ofBelow hb⟩
    match l, hl with
    | b0 :: b1 :: r, _ => rfl

theorem be32 {f : Nat} (L : LaysBin.n39 P ρ) (hf : ρ.f 39 = f) (hg : goFn P f = true) : BeGives P f 4 .u32 := by
  subst hf
  intro w v l hl hr
  rcases hr.2 with ⟨_, h0⟩ | ⟨b, o, cap, cs, rfl, hc, hh, hlen, hx⟩
  · omega
  · refine ⟨hg, Calls.mono (Proofs.Any.binary_BE_Uint32 L b o l.length cap l[0] l[1] l[2] l[3] w hl (be_cell (i := 0) hh hx (by omega)) (be_cell (i := 1) hh hx (by omega)) (be_cell (i := 2) hh hx (by omega)) (be_cell (i := 3) hh hx (by omega))) fun e w' ⟨he, hb⟩ => ?_⟩
    subst he
    refine ⟨?_, .ofBelow hb⟩
    match l, hl with
    | b0 :: b1 :: b2 :: b3 :: r, _ => rfl

theorem be64 {f : Nat} (L : LaysBin.n42 P ρ) (hf : ρ.f 42 = f) (hg : goFn P f = true) : BeGives P f 8 .u64 := by
  subst hf
  intro w v l hl hr
  rcases hr.2 with ⟨_, h0⟩ | ⟨b, o, cap, cs, rfl, hc, hh, hlen, hx⟩
  · omega
  · refine ⟨hg, Calls.mono (Proofs.Any.binary_BE_Uint64 L b o l.length cap l[0] l[1] l[2] l[3] l[4] l[5] l[6] l[7] w hl (be_cell (i := 0) hh hx (by omega)) (be_cell (i := 1) hh hx (by omega)) (be_cell (i := 2) hh hx (by omega)) (be_cell (i := 3) hh hx (by omega)) (be_cell (i := 4) hh hx (by omega)) (be_cell (i := 5) hh hx (by omega)) (be_cell (i := 6) hh hx (by omega)) (be_cell (i := 7) hh hx (by omega))) fun e w' ⟨he, hb⟩ => ?_⟩
    subst he
    refine ⟨?_, .ofBelow hb⟩
    match l, hl with
    | b0 :: b1 :: b2 :: b3 :: b4 :: b5 :: b6 :: b7 :: r, _ => rfl
end Go.Kf
/- Facts of a seat's types, from checks that the kernel runs. -/
namespace Go.Kf
open Go
variable {P : Program} {c : Nums}

def chkZero (P : Program) (t s : Nat) : Bool := match zeroTy P t with
  | some (z, s') => Nat.beq s' s && Nat.beq z.cells.size s
  | none => false

theorem zero_of {t s : Nat} (h : chkZero P t s = true) : ∃ z, zeroTy P t = some (z, s) ∧ z.cells.size = s := by
  unfold chkZero at h
  split at h
  · rename_i z s' hz
    simp only [Bool.and_eq_true] at h
    obtain rfl := Nat.eq_of_beq_eq_true h.1
    exact ⟨z, hz, Nat.eq_of_beq_eq_true h.2⟩
  · cases h

def chkInfo (P : Program) (t s m : Nat) : Bool := match P.info? t with
  | some i => match i.zero with
    | some z => Nat.beq i.size s && Nat.beq z.cells.size s && Nat.ble i.bytes m
    | none => false
  | none => false

theorem info_of {t s m : Nat} (h : chkInfo P t s m = true) : ∃ inf z, P.info? t = some inf ∧ inf.zero = some z ∧ inf.size = s ∧ z.cells.size = s ∧ inf.bytes ≤ m := by
  unfold chkInfo at h
  split at h
  · rename_i i hi
    split at h
    · rename_i z hz
      simp only [Bool.and_eq_true] at h
      exact ⟨i, z, hi, hz, Nat.eq_of_beq_eq_true h.1.1, Nat.eq_of_beq_eq_true h.1.2, Nat.le_of_ble_eq_true h.2⟩
    · cases h
  · cases h

theorem StrFacts.of (h : chkZero P c.tStr 1 = true) (h1 : oneTy P c.tStr = true) : StrFacts P c := ⟨zero_of h, h1⟩

theorem RowFacts.of {T sz : Nat} (h : chkInfo P T sz 1024 = true) (ha : aggTy P T = some sz) (hp : 0 < sz ∧ sz ≤ 16) : RowFacts P T sz := ⟨info_of h, ha, hp⟩

theorem OctFacts.of (h : chkInfo P c.tU8 1 8 = true) : OctFacts P c := ⟨info_of h⟩

theorem ListOk.of {tySl T sz : Nat} (h1 : P.underlying tySl = some (.slice T)) (h2 : oneTy P tySl = true) (h3 : chkInfo P T sz 65536 = true) (h4 : 0 < sz) : ListOk P c tySl T sz := by
  obtain ⟨i, z, hi, hz, hs, hc, hb⟩ := info_of h3
  exact ⟨h1, h2, i, z, hi, hz, hs, hc, h4, hb⟩

def chkPlan (P : Program) (t n : Nat) (fs : List (Nat × Nat)) : Bool := match buildPlan P t with
  | some (z, gs) => Nat.beq z.length n && decide (gs = fs)
  | none => false

theorem plan_of {t n : Nat} {fs : List (Nat × Nat)} (h : chkPlan P t n fs = true) : ∃ z, buildPlan P t = some (z, fs) ∧ z.length = n := by
  unfold chkPlan at h
  split at h
  · rename_i z gs hz
    simp only [Bool.and_eq_true, decide_eq_true_eq] at h
    obtain rfl := h.2
    exact ⟨z, hz, Nat.eq_of_beq_eq_true h.1⟩
  · cases h

theorem GotFacts.of (h1 : buildPlan P c.sTree = some (zeroTree, [(0, 1), (1, 1), (2, 1), (3, 1), (4, 1)])) (h2 : chkPlan P c.sTag 2 [(0, 1), (1, 1)] = true) (h3 : zeroTy P c.sTree = some (.agg ⟨zeroTree⟩, 5)) (h4 : chkZero P c.tTree 5 = true) (h5 : chkZero P c.tTag 2 = true)
    (h6 : RowFacts P c.sTree 5) (h7 : RowFacts P c.sTag 2) : GotFacts P c := ⟨h1, plan_of h2, h3, zero_of h4, zero_of h5, h6, h7⟩

theorem RfFacts.of {S : Nat} (h1 : buildPlan P c.tRd = some ([.slice none 0 0, .bool false], [(0, 1), (1, 1)])) (h2 : zeroTy P c.tRd = some (.agg #[.slice none 0 0, .bool false], 2)) (h3 : (P.info? c.tRd).map (·.size) = some 2) (h4 : fieldOff P S 0 = some 0) (h5 : oneTy P c.tI16 = true) : RfFacts P c S :=
  ⟨⟨false, h1, rfl⟩, h2, h3, h4, h5⟩

def isIface : Option TypeDesc → Bool
  | some (.interface _) => true
  | _ => false

theorem iface_of {t : Nat} (h : isIface (P.underlying t) = true) : ∃ ms, P.underlying t = some (.interface ms) := by
  unfold isIface at h
  split at h
  · rename_i ms hm; exact ⟨ms, hm⟩
  · cases h
end Go.Kf
/- A door at a version, from a message's parts. -/
namespace Go.Kf
open Go

theorem door_ver {P : Program} {c : Nums} {e : Fns} {fDoor fNew fSet fRead fRf fDef fTell S : Nat} {ds : List Dset} {ls : List Nat} {ss : List Step} {v : Int} {uns : Bool} {fs0 fs1 : List FV} {mid mid1 : List Value} {ts : List Ty} {gp : List FV → PT} (F : RdFacts P c) (O : OctFacts P c) (K : TellFacts P c)
    (Z : TyFacts P c c.tTree c.tTrees c.tTagL c.tTag) (A : RfFacts P c S) (hOk : OkGives P e.ok) (hCo : CompGives P e.complete c.gErr) (herr : ∃ ms, P.underlying c.tErr = some (.interface ms)) (hN : NewOk P fNew (.int .i16 0 :: mid)) (hDef : DefSets P fDef ls ds) (hTell : TellOf P fTell ts gp)
    (hTd : treeIn P fDoor noOrc [.tmp 0, .tmp 1] 2 = tDoor c fNew fSet fRead fTell) (hTs : treeIn P fSet noOrc [.tmp 0, .tmp 1] 2 = tSetVersion c S) (hTw : treeIn P fRead noOrc [.tmp 0, .tmp 1] 2 = tWrap fRf uns)
    (hTr : treeIn P fRf (orcV 9 v) [.tmp 0, .tmp 1, .const (.bool uns)] 3 = gReadFrom c e S fDef v ss) (hok : StepsOk P c S ls ss) (hdeep : deepsOk ss = true) (h0 : fs0.map FV.wd = ls) (h01 : applyD ds fs0 = fs1) (hidx : idxOk fs1 ss = true)
    (himm0 : immL fs0 = some (.int .i16 v :: mid)) (himm : immL fs1 = some mid1) (hv : fs1[0]? = some (.one (.int .i16 v))) (hl1 : fs1.map FV.wd = ls) (hty : tySteps ts ss = true) (htd : okImms fs1 ts = true) (hver : IntKind.i16.wrap v = v)
    {w : World} {l : List UInt8} {data e0 : Value} (hl : l.length ≤ 1000) (hd : DataIn w data l) (he : ErrAt w c.gErr e0) (he0 : ∃ d y, e0 = .iface d y) : Gives P fDoor [.int .i64 v, data] w fun u w' => DoorPost w w' u (toldOf ss fs1 gp l) ∧ Keeps [] w w' := by
  refine door_gives (x0 := .int .i16 0) (mid := mid) (e0 := e0) (out := fun l => toldOf ss fs1 gp l) F O K Z hTd herr he0 hver hN (fun w V hV => setVersion_gives F A.oneI16 A.ver hTs hV v) ?_ (by omega) hd he
  intro w V D src _ hV hr hn hb hD hVD he hgV
  exact rt_gives F A hOk hCo hTr hTw hDef hok hdeep h0 h01 hidx himm0 himm hv hl1 hty htd hTell hV hr hn hb hD hVD he hgV (by omega)
end Go.Kf
