/- The library for this proof, part 4: trees of function bodies, and what the package's functions do. -/
import Derived.Test.YtpibjbgaedphbabGreatDoorKf3
import Derived.Carry

namespace Go.Kf

open Go

section

variable {P : Program} {c : Nums}

theorem gTail_eq (c : Nums) (S N : Nat) (ss : List TStep) (x : TStep) : ∃ kf, gTell c S N (ss ++ [x]) = .op (.alloc c.tTree) none [] (.op (.makeSlice c.tTrees (.const (.int .i64 N)) (.const (.int .i64 N))) none [] (.op (.build c.tTree ⟨[(3, .tmp 2)]⟩) none [] (.op (.alloc c.tTree) none [] (.op (.store c.tTree (.tmp 4) (.tmp 3)) none []
    (gTSteps c S ss 6 0 fun n d => gTStep c S x n d kf))))) ∧ kf = fun n _ => .op (.load c.tTree (.tmp 4)) none [] <| .op (.store c.tTree (.tmp 1) (.tmp n)) none [] <| .ret [(.tmp 1, some c.tTree)] := by
  refine ⟨_, ?_, rfl⟩
  unfold gTell
  rw [gTSteps_snoc]

theorem told_tags {f S N i off g fEach fSorted : Nat} {ts : List Ty} {ss : List TStep} {tfs : List (List FV → PT)} (F : RdFacts P c) (Z : TyFacts P c c.tTree c.tTrees c.tTagL c.tTag) (K : TellFacts P c) (hCl : TagCl P g) (hE : EachGives P fEach) (hSo : SortedGives P fSorted)
    (hT : treeIn P f noOrc [.tmp 0] 1 = gTell c S N (ss ++ [.tags i g fEach fSorted])) (hN : tfs.length = N) (hsm : N ≤ 1024) (hs : StepsTell P c S ts ss tfs 0) (hF : FieldTy P S ts i off .tags) : TellOf P f ts fun fs => .mk 0 [] false (tfs.map (· fs)) (tellTags (fvGet fs i)) := by
  intro w0 D V lo pre post mid fs hok hh hf
  obtain ⟨f0, hf0, hft⟩ := okFs_get hok hF.2.2
  obtain ⟨m, rfl, hm⟩ := okF_tags hft
  simp only [fvGet_eq hf0, tellTags]
  have hin : TIn w0 D V lo pre post fs := ⟨mid, hh, hf⟩
  have hlt := hh.lt
  have hs' := fun R => steps_told (R := R) (N := N) hok hin hlt ss tfs 0 hs (by omega)
  generalize htl : tfs.map (· fs) = tl at hs' ⊢
  have hN' : tl.length = N := by rw [← htl, List.length_map, hN]
  refine gives_in (ρ := en [ptr V pre.length]) F.mix hT (Nat.le_refl _) rfl (by simp [opBelow]) ?_
  obtain ⟨kf, hkf, hkd⟩ := gTail_eq c S N ss (.tags i g fEach fSorted)
  rw [hkf]
  refine s_alloc K.zero fun w1 hr1 k1 z1 => ?_
  obtain ⟨inf, z, hi, hz, hsz, hzc, hby⟩ := K.row.info
  have hzz : z = .agg ⟨zeroTree⟩ := by
    have := K.zero
    simp only [zeroTy, hi, hz, Option.some.injEq, Prod.mk.injEq] at this
    exact this.1
  obtain ⟨w2, e2, hr2, k2, z2⟩ := a_makeSlice (P := P) (ρ := ext (en [ptr V pre.length]) 1 [ptr w0.heap.size]) (w := w1) (t := c.tTrees) (x := .const (.int .i64 N)) (y := .const (.int .i64 N)) (k1 := .i64) (k2 := .i64) (l := N) (c := N) Z.sl hi hz (by rw [hzc, hsz]) (by omega) rfl rfl (by omega) (Int.le_refl _) (by
    have : inf.bytes * N ≤ 1024 * 1024 := Nat.mul_le_mul hby hsm
    have h2 : ((inf.bytes * N : Nat) : Int) = (inf.bytes : Int) * N := Int.natCast_mul _ _
    omega) (by omega)
  rw [Int.toNat_natCast] at e2 hr2
  rw [hzz] at hr2
  refine s_act e2 (fun p hp => (by cases hp)) ?_
  refine s_val (v_build (cells := [.int .i64 0, .slice none 0 0, .bool false, .slice (some ⟨w1.heap.size, 0, none⟩) N N, .slice none 0 0]) K.plan (fun p hp => by simp only [List.mem_singleton] at hp; subst hp; rfl) rfl) ?_
  refine s_alloc K.zero fun w3 hr3 k3 z3 => ?_
  refine s_storeAll (b := w2.heap.size) (old := zeroTree) (cs := [.int .i64 0, .slice none 0 0, .bool false, .slice (some ⟨w1.heap.size, 0, none⟩) N N, .slice none 0 0]) Z.agg rfl rfl hr3 rfl (fun u hu => by
    simp only [List.mem_cons, List.not_mem_nil, or_false] at hu
    rcases hu with rfl | rfl | rfl | rfl | rfl <;> rfl) fun w4 hr4 k4 => ?_
  have k24 : Keeps [] w2 w4 := ((k3.mono (by simp)).trans k4).less fun x hx => .inr (by simp only [List.mem_singleton] at hx; omega)
  have k04 : Keeps [] w0 w4 := (k1.trans k2).trans k24
  rw [z1] at hr2 hr4
  rw [z2, z1] at hr4
  have hrow4 : Has w4 (w0.heap.size + 1) (List.replicate N zeroTree).flatten := hr2.keep k24 (by simp)
  have hTS : TS w0 w4 N (List.replicate N .zero) [] (.slice none 0 0) :=
    ⟨k04, (hr1.keep k2 (by simp)).keep k24 (by simp), ⟨_, hrow4, zeroTree_flat N, zeroTrees_at _ _ N⟩, by simp, hr4, [], ⟨rfl, .inl ⟨rfl, rfl⟩⟩, ⟨(fun b hb => by cases hb), by decide⟩, rfl⟩
  have hRaw : Raw w0 w4 N 0 := by
    intro rcs hr i _ hN'
    rw [hr.inj hrow4]
    exact zeroTree_drop N i hN'
  refine sem_tsteps (Γ := []) ss tl 0 6 _ _ w4 (List.replicate N .zero) [] (.slice none 0 0) (hs' _) (by simp; omega) (Nat.le_refl _) rfl rfl (by show ptr w2.heap.size = _; rw [z2, z1]) hTS hRaw fun n' Γ' ρ' w5 hle hag hT5 => ?_
  have hfin : (List.replicate N PT.zero).take 0 ++ tl ++ (List.replicate N PT.zero).drop (0 + tl.length) = tl := by simp [hN']
  rw [hfin] at hT5
  refine sem_tags (lo := lo) (ls := ts.map Ty.wd) Z hCl hE hSo hin (okFs_map _ _ hok) hF.ok hf0 hm hle (by rw [hag 0 (by omega)]; rfl) (by rw [hag 4 (by omega)]; show ptr w2.heap.size = _; rw [z2, z1]) hT5 fun ρ2 w6 uv hag2 hT6 => ?_
  subst hkd
  have g4 : ρ2 4 = ptr (w0.heap.size + 2) := by rw [hag2 4 (by omega), hag 4 (by omega)]; show ptr w2.heap.size = _; rw [z2, z1]
  have g1 : ρ2 1 = ptr w0.heap.size := by rw [hag2 1 (by omega), hag 1 (by omega)]; rfl
  refine s_lok (l_loadN (b := w0.heap.size + 2) (o := 0) Z.agg g4 hT6.top (show 0 + 5 ≤ 5 by omega)) ?_
  obtain ⟨rcs, hrr, hrl, hrt⟩ := hT6.row
  obtain ⟨ucs, hur, hub, huw⟩ := hT6.uok
  have huv : uv.oneCell' = true := hur.one
  refine s_storeAll (b := w0.heap.size) (old := zeroTree) (cs := [.int .i64 0, .slice none 0 0, .bool false, .slice (some ⟨w0.heap.size + 1, 0, none⟩) N N, uv]) Z.agg (by show ext _ _ _ 1 = _; rw [ext_lt (by omega)]; exact g1) (by show (ext _ (n' + 7) _ (n' + 7)).cells = _; rw [ext_at]; rfl) hT6.res rfl (fun u hu => by
    simp only [List.mem_cons, List.not_mem_nil, or_false] at hu
    rcases hu with rfl | rfl | rfl | rfl | rfl
    · rfl
    · rfl
    · rfl
    · rfl
    · exact huv) fun w7 hr7 k7 => ?_
  have k07 : Keeps [] w0 w7 := ((hT6.k.mono (by simp)).trans k7).less fun x hx => .inr (by simp only [List.mem_singleton] at hx; omega)
  refine s_retAgg (b := w0.heap.size) (by show ext _ _ _ 1 = _; rw [ext_lt (by omega), ext_lt (by omega)]; exact g1) hr7 Z.agg ⟨⟨_, rfl, ?_⟩, k07⟩
  have hnil : ∀ sz, Reads w7 (.slice none 0 0) sz 0 [] := fun sz => ⟨by simp, .inl ⟨rfl, rfl⟩⟩
  refine ⟨_, _, _, rcs, rfl, ⟨Ro.nil _ 1, (fun h => absurd rfl h), by decide⟩, ?_, ⟨?_, by omega⟩, TreesAt.keep k7 (fun b hb h' => by simp only [List.mem_singleton] at hb; omega) (fun b h' _ => by omega) _ _ hrt, ?_⟩
  · refine ⟨by rw [hrl, hN'], .inr ⟨w0.heap.size + 1, 0, N, rcs, by rw [hN'], by omega, hrr.keep k7 (by simp), by rw [hrl, hN']; omega, ?_⟩⟩
    rw [List.drop_zero, List.take_of_length_le (by rw [hrl, hN']; exact Nat.le_refl _)]
  · intro b hb
    simp only [blkOf, List.mem_singleton] at hb
    omega
  · exact TagsIn.keep ⟨ucs, hur, hub, huw⟩ k7 (fun b hb h' => by simp only [List.mem_singleton] at hb; omega) (fun b h' _ => by omega)

end

end Go.Kf

namespace Go.Kf

open Go

theorem wrap_u32 (l : List UInt8) (h : l.length = 4) : IntKind.u32.wrap (Lib.beNat l) = Lib.beNat l := by
  have := beNat_lt l
  rw [h] at this
  simp only [IntKind.wrap, IntKind.bits, IntKind.signed]
  simp; omega

theorem wrap_u64 (l : List UInt8) (h : l.length = 8) : IntKind.u64.wrap (Lib.beNat l) = Lib.beNat l := by
  have := beNat_lt l
  rw [h] at this
  simp only [IntKind.wrap, IntKind.bits, IntKind.signed]
  simp; omega

theorem wrap_i64_u64 (x : Int) : IntKind.i64.wrap (IntKind.u64.wrap x) = IntKind.i64.wrap x := by
  simp only [IntKind.wrap, IntKind.bits, IntKind.signed]
  simp

def gOctet (c : Nums) (k : Tr) : Tr := gSrc c 6 <| .op (.indexAddr c.tBytes (.tmp 8) (.const (.int .i64 0))) none [] <| .op (.load c.tU8 (.tmp 9)) none [] k

def gLen1 (c : Nums) (v0 : Value) (k : Tr) : Tr := gSrc c 1 <| .op (.call { callee := .builtin .len, args := ⟨[.tmp 3]⟩, argTypes := ⟨[c.tBytes]⟩ }) none [] <| .op (.binOp .lss c.tInt (.tmp 4) (.const (.int .i64 1)) c.tInt) none [] <|
  .cond (.tmp 5) (gFail c 6 <| .ret [(.const v0, none)]) <| gOctet c k

def tBoolRd (c : Nums) : Tr := gLen1 c (.bool false) <| .op (.binOp .neq c.tU8 (.tmp 10) (.const (.int .u8 0)) c.tU8) none [] <| gAdvance c (.const (.int .i64 1)) 12 <| .ret [(.tmp 11, none)]

section

variable {P : Program} {c : Nums} {R : Value → World → Prop} {w : World} {rb D : Nat} {r : Rd}

/-- An octet, or nothing is left. -/
theorem s_octet {v0 : Value} {k : Tr} (F : RdFacts P c) (h : RdAt w rb D r) (hnone : r.l = [] → ∀ w', RdAt w' rb D .fail → Keeps [rb] w w' → R v0 w')
    (hk : ∀ (b : UInt8) (t : List UInt8) (ρ : Nat → Value), r.l = b :: t → ρ 0 = ptr rb → ρ 10 = .int .u8 b.toNat → k.sem P R [] 11 ρ w) : (gLen1 c v0 k).sem P R [] 1 (en [ptr rb]) w := by
  refine s_src F rfl h fun v hv hbv hh => ?_
  obtain ⟨a, cp, hav, hcp, hnil⟩ := hv.1.form
  refine s_val (v_len (a := a) (l := r.l.length) (c := cp) F.bytes hav) ?_
  refine s_val (v_cmp (kk := .i64) (a := r.l.length) (b := 1) (r := decide ((r.l.length : Int) < 1)) rfl rfl rfl) ?_
  refine s_cond (b := decide ((r.l.length : Int) < 1)) rfl (fun hb => ?_) fun hb => ?_
  · have hlt : (r.l.length : Int) < 1 := by simpa using hb
    refine s_fail F (by omega) rfl h fun w' vs h' k' => ?_
    exact s_ret1 (hnone (List.eq_nil_of_length_eq_zero (by omega)) w' h' k')
  · have hge : ¬ (r.l.length : Int) < 1 := by simpa using hb
    refine s_src F rfl h fun v2 hv2 hbv2 hh2 => ?_
    rcases hv2.1.2 with ⟨_, h0⟩ | ⟨b, o, cap, cs, rfl, _, hh3, hl3, hx3⟩
    · omega
    have hidx := v_indexAddr (P := P) (ρ := ext (ext (ext (ext (en [ptr rb]) 1 [ptr rb, ptr rb, v]) (1 + 3) [.int .i64 r.l.length]) (1 + 3 + 1) [.bool (decide ((r.l.length : Int) < 1))]) (1 + 3 + 1 + 1) [ptr rb, ptr rb, .slice (some ⟨b, o, none⟩) r.l.length cap]) (t := c.tBytes) (x := .tmp 8) (i := .const (.int .i64 0)) (b := b) (o := o) (l := r.l.length) (c := cap) (j := 0) (kk := .i64) F.bytes F.szU8 rfl rfl (by omega) (by omega)
    refine s_val hidx ?_
    obtain ⟨x, t, hl⟩ : ∃ x t, r.l = x :: t := by
      cases hr : r.l with
      | nil => rw [hr] at hge; simp at hge
      | cons x t => exact ⟨x, t, rfl⟩
    have hcell : cs[o + (0 : Int).toNat * 1]? = some (.int .u8 x.toNat) := by
      have h1 : (bcells r.l)[0]? = some (.int .u8 x.toNat) := by rw [hl]; rfl
      rw [← hx3, List.getElem?_take, if_pos (by omega), List.getElem?_drop] at h1
      simpa using h1
    refine s_lok (l_load1 (b := b) (o := o + (0 : Int).toNat * 1) F.oneU8 rfl hh3 hcell) ?_
    exact hk x t _ hl rfl rfl

def RdBool (P : Program) (f : Nat) : Prop := RdPure P f fun r => (.bool (rBool r).1, (rBool r).2)

theorem bool_gives {f : Nat} (F : RdFacts P c) (hT : treeIn P f noOrc [.tmp 0] 1 = tBoolRd c) : RdBool P f := by
  intro w rb D r h
  refine gives_in (ρ := en [ptr rb]) F.mix hT (Nat.le_refl _) rfl (by simp [opBelow]) ?_
  refine s_octet F h (fun hn w' h' k' => ?_) fun b t ρ hl h0 h10 => ?_
  · simp only [rBool, rFix, hn]
    exact ⟨rfl, h', k'⟩
  · refine s_val (v_cmp (kk := .u8) (a := b.toNat) (b := 0) (r := (b.toNat : Int) != 0) h10 rfl rfl) ?_
    refine s_advance (n := 12) (kk := .i64) (m := 1) F (by omega) (by show ext ρ 11 _ 0 = _; rw [ext_lt (by omega)]; exact h0) rfl trivial (by rw [hl]; simp) h fun w2 vs h2 k2 => ?_
    refine s_ret1 ⟨?_, ?_, k2⟩
    · show ext _ 12 _ 11 = _
      rw [ext_lt (by omega)]
      show ext ρ 11 _ 11 = _
      rw [ext_at]
      simp only [rBool, rFix, hl]
      simp [Lib.beNat, Lib.beFrom]
      by_cases hb : b.toNat = 0
      · simp [hb]
      · have h2 : ((b.toNat : Int) != 0) = true := by simp; exact hb
        have h3 : (b.toNat != 0) = true := by simpa using hb
        simp [h2, h3]
    · have : (rBool r).2 = { r with l := r.l.drop 1 } := by simp [rBool, rFix, hl]
      rw [this]
      exact h2

theorem any_bool {f : Nat} (h : RdBool P f) : RdAny P f .bool := fun w rb D r hr =>
  (h w rb D r hr).mono fun v w' ⟨hv, h1, k1⟩ => ⟨⟨[v], by rw [hv]; rfl, by rw [hv]; exact ⟨rfl, rfl⟩⟩, h1, k1⟩

def tBoolTree (c : Nums) : Tr := .op (.alloc c.tTree) none [] <| .cond (.tmp 0)
  (.op (.build c.tTree ⟨[(0, .const (.int .i64 1))]⟩) none [] <| .op (.store c.tTree (.tmp 1) (.tmp 2)) none [] <| .ret [(.tmp 1, some c.tTree)])
  (.op (.build c.tTree ⟨[]⟩) none [] <| .op (.store c.tTree (.tmp 1) (.tmp 2)) none [] <| .ret [(.tmp 1, some c.tTree)])

theorem boolTree_gives {f : Nat} (F : RdFacts P c) (Z : TyFacts P c c.tTree c.tTrees c.tTagL c.tTag) (K : TellFacts P c) (hT : treeIn P f noOrc [.tmp 0] 1 = tBoolTree c) : TellCellTy P f .bool := by
  refine ⟨rfl, fun D lo fv hok w v hv => ?_⟩
  obtain ⟨x, rfl⟩ := okF_bool hok
  obtain ⟨hvv, _⟩ := hv
  obtain rfl : v = .bool x := by simpa using hvv
  refine gives_in (ρ := en [.bool x]) F.mix hT (Nat.le_refl _) rfl (by simp [opBelow]) ?_
  refine s_alloc K.zero fun w1 h1 k1 z1 => ?_
  refine s_cond (b := x) rfl (fun hb => ?_) (fun hb => ?_)
  · subst hb
    have ht := num_tree w1 (fun b => w.heap.size < b) 1
    refine s_val (v_build (cells := [.int .i64 1, .slice none 0 0, .bool false, .slice none 0 0, .slice none 0 0]) K.plan (fun q hq => by simp only [List.mem_singleton] at hq; subst hq; rfl) rfl) ?_
    refine s_storeAll (b := w.heap.size) (old := zeroTree) (cs := [.int .i64 1, .slice none 0 0, .bool false, .slice none 0 0, .slice none 0 0]) Z.agg rfl rfl h1 rfl ht.ones fun w3 h3 k3 => ?_
    refine s_retAgg (b := w.heap.size) rfl h3 Z.agg ⟨⟨_, rfl, TreeAt.keep k3 (fun b hb h' => by simp only [List.mem_singleton] at hb; omega) (fun b h' _ => by omega) _ _ ht⟩, ((k1.mono (by simp)).trans k3).less fun x hx => .inr (by simp only [List.mem_singleton] at hx; omega)⟩
  · subst hb
    have ht := num_tree w1 (fun b => w.heap.size < b) 0
    refine s_val (v_build (cells := [.int .i64 0, .slice none 0 0, .bool false, .slice none 0 0, .slice none 0 0]) K.plan (fun q hq => by cases hq) rfl) ?_
    refine s_storeAll (b := w.heap.size) (old := zeroTree) (cs := [.int .i64 0, .slice none 0 0, .bool false, .slice none 0 0, .slice none 0 0]) Z.agg rfl rfl h1 rfl ht.ones fun w3 h3 k3 => ?_
    refine s_retAgg (b := w.heap.size) rfl h3 Z.agg ⟨⟨_, rfl, TreeAt.keep k3 (fun b hb h' => by simp only [List.mem_singleton] at hb; omega) (fun b h' _ => by omega) _ _ ht⟩, ((k1.mono (by simp)).trans k3).less fun x hx => .inr (by simp only [List.mem_singleton] at hx; omega)⟩

end

end Go.Kf


namespace Go.Kf

open Go

theorem fits_of {k : IntKind} (h : IntKind.fits k) (x : Int) : IntKind.i64.wrap (k.wrap x) = k.wrap x := h _ (wrap_wrap k x)

section

variable {P : Program} {c : Nums} {s : SN} {R : Value → World → Prop} {Γ : List (List Value → World → Prop)} {n : Nat} {ρ : Nat → Value} {w : World} {k : Tr}

theorem number_gives (S : SpFacts P c s) (Nt : NumTys P c) (hT : treeIn P s.number noOrc [.tmp 0, .tmp 1] 2 = tNumber c) (kind x : Int) : Yields P s.number [.int .i64 kind, .int .i64 x] w (.int .i64 (pNumber kind x)) := by
  refine gives_in (ρ := en [_, _]) S.rd.mix hT (Nat.le_refl _) rfl (by simp [opBelow]) ?_
  unfold pNumber
  refine s_val (v_cmp (kk := .i64) (a := kind) (b := 0) (r := kind == 0) rfl rfl rfl) ?_
  refine s_cond (b := kind == 0) rfl (fun hb => ?_) fun hb => ?_
  · rw [if_pos (by simpa using hb)]
    exact s_val (v_bits (op := .and) (kk := .i64) (.inl rfl) rfl rfl (and1_i64 x)) (s_ret1 ⟨rfl, .refl⟩)
  rw [if_neg (by simpa using hb)]
  refine s_val (v_cmp (kk := .i64) (a := kind) (b := 1) (r := kind == 1) rfl rfl rfl) ?_
  refine s_cond (b := kind == 1) rfl (fun hb => ?_) fun hb => ?_
  · rw [if_pos (by simpa using hb)]
    refine s_val (v_conv (k1 := .i64) (k2 := .i8) (a := x) S.ty.i64 Nt.i8 rfl) (s_val (v_conv (k1 := .i8) (k2 := .i64) (a := IntKind.i8.wrap x) Nt.i8 S.ty.i64 rfl) ?_)
    rw [fits_of fits_i8]
    exact s_ret1 ⟨rfl, .refl⟩
  rw [if_neg (by simpa using hb)]
  refine s_val (v_cmp (kk := .i64) (a := kind) (b := 2) (r := kind == 2) rfl rfl rfl) ?_
  refine s_cond (b := kind == 2) rfl (fun hb => ?_) fun hb => ?_
  · rw [if_pos (by simpa using hb)]
    refine s_val (v_conv (k1 := .i64) (k2 := .i16) (a := x) S.ty.i64 S.rd.i16 rfl) (s_val (v_conv (k1 := .i16) (k2 := .i64) (a := IntKind.i16.wrap x) S.rd.i16 S.ty.i64 rfl) ?_)
    rw [fits_of fits_i16]
    exact s_ret1 ⟨rfl, .refl⟩
  rw [if_neg (by simpa using hb)]
  refine s_val (v_cmp (kk := .i64) (a := kind) (b := 3) (r := kind == 3) rfl rfl rfl) ?_
  refine s_cond (b := kind == 3) rfl (fun hb => ?_) fun hb => ?_
  · rw [if_pos (by simpa using hb)]
    refine s_val (v_conv (k1 := .i64) (k2 := .i32) (a := x) S.ty.i64 S.rd.i32 rfl) (s_val (v_conv (k1 := .i32) (k2 := .i64) (a := IntKind.i32.wrap x) S.rd.i32 S.ty.i64 rfl) ?_)
    rw [fits_of fits_i32]
    exact s_ret1 ⟨rfl, .refl⟩
  rw [if_neg (by simpa using hb)]
  refine s_val (v_cmp (kk := .i64) (a := kind) (b := 5) (r := kind == 5) rfl rfl rfl) ?_
  refine s_cond (b := kind == 5) rfl (fun hb => ?_) fun hb => ?_
  · rw [if_pos (by simpa using hb)]
    refine s_val (v_conv (k1 := .i64) (k2 := .u16) (a := x) S.ty.i64 Nt.u16 rfl) (s_val (v_conv (k1 := .u16) (k2 := .i64) (a := IntKind.u16.wrap x) Nt.u16 S.ty.i64 rfl) ?_)
    rw [fits_of fits_u16]
    exact s_ret1 ⟨rfl, .refl⟩
  rw [if_neg (by simpa using hb)]
  exact s_ret1 ⟨rfl, .refl⟩

theorem same_ro (F : RdFacts P c) {f : Nat} (hT : treeIn P f noOrc [.tmp 0, .tmp 1] 2 = tSame c) {v1 v2 : Value} {l1 l2 : List UInt8} (hbig : l1.length < 2 ^ 62 ∨ l2.length < 2 ^ 62) (h1 : Ro w v1 1 l1.length (bcells l1)) (h2 : Ro w v2 1 l2.length (bcells l2)) : Yields P f [v1, v2] w (.bool (decide (l1 = l2))) := same_gives F hT w v1 v2 l1 l2 hbig h1 h2

end

end Go.Kf

namespace Go.Kf

open Go

def pTail (tt : PT → PT → Bool) (f : PF) (v : Int) (t got : PT) : Bool :=
  if pNull f v t then true
  else if f.kind = 11 then decide (got.l.length = (pThings t.l).length) && pAll2 (fun x y => !(decide (f.elem = 8 ∨ f.elem = 10) && y.null) && pToldV tt f.elem x y) (pThings t.l) got.l
  else pToldV tt f.kind t got

theorem pToldOf_eq (tt : PT → PT → Bool) (f : PF) (v : Int) (t got : PT) : pToldOf tt f v t got =
    if (decide (f.kind = 8) || decide (f.kind = 10) || (decide (0 ≤ f.nul) && decide (f.nul ≤ v))) && (got.null != pNull f v t) then false else pTail tt f v t got := rfl

theorem pTold1_eq (f : PF) (v : Int) (fl : Bool) (x got : PT) : pTold1 f v fl x got = pToldOf (fun y z => pTold f.sub v fl y z) f v x got := by
  cases f; rw [pTold1]; rfl

/-- The field of a list's things. -/
def PF.one (f : PF) : PF := .mk f.elem f.fr f.to (-1) (-1) f.dflt f.elem f.sub

theorem pAll2_get {f : PT → PT → Bool} : ∀ {l r : List PT}, l.length = r.length → (pAll2 f l r = true ↔ ∀ j (h1 : j < l.length) (h2 : j < r.length), f l[j] r[j] = true)
  | [], [], _ => by simp [pAll2]
  | x :: l, y :: r, h => by
    rw [pAll2, Bool.and_eq_true, pAll2_get (by simpa using h)]
    constructor
    · rintro ⟨h1, h2⟩ j hj1 hj2
      cases j with
      | zero => exact h1
      | succ j => exact h2 j (by simpa using hj1) (by simpa using hj2)
    · intro h3
      exact ⟨h3 0 (by simp) (by simp), fun j h1 h2 => h3 (j + 1) (by simpa using h1) (by simpa using h2)⟩

section

variable {P : Program} {c : Nums} {s : SN} {R : Value → World → Prop} {Γ : List (List Value → World → Prop)} {n : Nat} {ρ : Nat → Value} {w : World} {k : Tr}

end

end Go.Kf

namespace Go.Kf

open Go

theorem pTagsTold_get : ∀ {l r : TM}, l.length = r.length → (pTagsTold l r = true ↔ ∀ j (h1 : j < l.length) (h2 : j < r.length), r[j].1 = l[j].1 ∧ r[j].2 = pWhole l[j].2)
  | [], [], _ => by simp [pTagsTold]
  | x :: l, y :: r, h => by
    rw [pTagsTold, Bool.and_eq_true, Bool.and_eq_true, decide_eq_true_eq, decide_eq_true_eq, pTagsTold_get (by simpa using h)]
    constructor
    · rintro ⟨h1, h2⟩ j hj1 hj2
      cases j with
      | zero => exact h1
      | succ j => exact h2 j (by simpa using hj1) (by simpa using hj2)
    · intro h3
      exact ⟨h3 0 (by simp) (by simp), fun j h1 h2 => h3 (j + 1) (by simpa using h1) (by simpa using h2)⟩

/-- What is asked of a field of a part. -/
def pToldAt (f : PF) (v : Int) (fl : Bool) (x got : PT) : Bool :=
  if (f.tag < 0 ∧ pHas f v = true) ∨ (0 ≤ f.tag ∧ fl = true ∧ pUsual f x = false) then pTold1 f v fl x got else pUsualGot f got

theorem pTolds_get : ∀ {fs : List PF} {v : Int} {fl : Bool} {t got : PT} {i : Nat}, pTolds fs v fl t got i = true ↔ ∀ j (hj : j < fs.length), pToldAt fs[j] v fl (pAt t (i + j)) (pAt got (i + j)) = true
  | [], v, fl, t, got, i => by simp [pTolds]
  | f :: r, v, fl, t, got, i => by
    rw [pTolds, Bool.and_eq_true, pTolds_get (fs := r)]
    constructor
    · rintro ⟨h1, h2⟩ j hj
      cases j with
      | zero => exact h1
      | succ j =>
        have := h2 j (by simpa using hj)
        rw [show i + (j + 1) = i + 1 + j by omega]
        exact this
    · intro h
      refine ⟨h 0 (by simp), fun j hj => ?_⟩
      have := h (j + 1) (by simpa using hj)
      rw [show i + 1 + j = i + (j + 1) by omega]
      exact this

section

variable {P : Program} {c : Nums} {s : SN} {R : Value → World → Prop} {Γ : List (List Value → World → Prop)} {n : Nat} {ρ : Nat → Value} {w : World} {k : Tr}

theorem take0 {cs : List Value} {n : Nat} (h : cs.length = n) : (cs.drop 0).take n = cs := by rw [List.drop_zero, List.take_of_length_le (by omega)]

end

end Go.Kf

namespace Go.Kf

open Go

def tFits1 (c : Nums) (s : SN) : Tr :=
  .op (.box c.sTree (.tmp 0)) none [] <|
  .op (.fieldAddr c.sTree (.tmp 1) 1) none [] <|
  .op (.load c.tBytes (.tmp 2)) none [] <|
  .op (.call { callee := (.builtin .len), args := ⟨[(.tmp 3)]⟩, argTypes := ⟨[c.tBytes]⟩ }) none [] <|
  .op (.binOp .gtr c.tInt (.tmp 4) (.const (.int .i64 2147483647)) c.tInt) none [] <|
  .cond (.tmp 5) (
    .ret [((.const (.bool false)), none)]
  ) (
    .op (.fieldAddr c.sTree (.tmp 1) 3) none [] <|
    .op (.load c.sTrees (.tmp 6)) none [] <|
    .op (.call { callee := (.builtin .len), args := ⟨[(.tmp 7)]⟩, argTypes := ⟨[c.sTrees]⟩ }) none [] <|
    .op (.binOp .gtr c.tInt (.tmp 8) (.const (.int .i64 2147483647)) c.tInt) none [] <|
    .cond (.tmp 9) (
      .ret [((.const (.bool false)), none)]
    ) (
      .op (.fieldAddr c.sTree (.tmp 1) 4) none [] <|
      .op (.load c.sTagL (.tmp 10)) none [] <|
      .op (callOp s.fits2 [(.tmp 11)]) none [] <|
      .op (.unOp .not c.tBool (.tmp 12)) none [] <|
      .cond (.tmp 13) (
        .ret [((.const (.bool false)), none)]
      ) (
        .ret [((.const (.bool true)), none)]
      )
    )
  )

def tFits2 (c : Nums) (s : SN) : Tr :=
  .op (.call { callee := (.builtin .len), args := ⟨[(.tmp 0)]⟩, argTypes := ⟨[c.sTagL]⟩ }) none [] <|
  .op (.binOp .gtr c.tInt (.tmp 1) (.const (.int .i64 2147483647)) c.tInt) none [] <|
  .cond (.tmp 2) (
    .ret [((.const (.bool false)), none)]
  ) (
    .op (.call { callee := (.builtin .len), args := ⟨[(.tmp 0)]⟩, argTypes := ⟨[c.sTagL]⟩ }) none [] <|
    .loop 0 [(.const (.bool false)), (.const (.int .i64 0))] <|
    .op (.binOp .lss c.tInt (.tmp 5) (.tmp 3) c.tInt) none [] <|
    .cond (.tmp 6) (
      .op (.indexAddr c.sTagL (.tmp 0) (.tmp 5)) none [] <|
      .op (.load c.sTag (.tmp 7)) none [] <|
      .op (.alloc c.sTag) none [] <|
      .op (.store c.sTag (.tmp 9) (.tmp 8)) none [] <|
      .op (.load c.sTag (.tmp 9)) none [] <|
      .op (callOp s.fits3 [(.tmp 11)]) none [] <|
      .op (.unOp .not c.tBool (.tmp 12)) none [] <|
      .cond (.tmp 13) (
        .ret [((.const (.bool false)), none)]
      ) (
        .op (.binOp .add c.tInt (.tmp 5) (.const (.int .i64 1)) c.tInt) none [] <|
        .to 0 [(.tmp 4), (.tmp 14)]
      )
    ) (
      .ret [((.const (.bool true)), none)]
    )
  )

def tFits3 (c : Nums) : Tr :=
  .op (.box c.sTag (.tmp 0)) none [] <|
  .op (.fieldAddr c.sTag (.tmp 1) 1) none [] <|
  .op (.load c.tBytes (.tmp 2)) none [] <|
  .op (.call { callee := (.builtin .len), args := ⟨[(.tmp 3)]⟩, argTypes := ⟨[c.tBytes]⟩ }) none [] <|
  .op (.binOp .gtr c.tInt (.tmp 4) (.const (.int .i64 2147483647)) c.tInt) none [] <|
  .cond (.tmp 5) (
    .ret [((.const (.bool false)), none)]
  ) (
    .ret [((.const (.bool true)), none)]
  )

/-- The reference's functions' trees. -/
structure SpTrees (P : Program) (c : Nums) (s : SN) : Prop where
  has : treeIn P s.has noOrc [.tmp 0, .tmp 1] 2 = tHas c s
  null : treeIn P s.null noOrc [.tmp 0, .tmp 1, .tmp 2] 3 = tNull c s
  whole : treeIn P s.whole noOrc [.tmp 0] 1 = tWhole c
  things : treeIn P s.things noOrc [.tmp 0] 1 = tThings c
  at_ : treeIn P s.at_ noOrc [.tmp 0, .tmp 1] 2 = tAt c
  uv : treeIn P s.uv noOrc [.tmp 0] 1 = tUv c
  fixed : treeIn P s.fixed noOrc [.tmp 0, .tmp 1] 2 = tFixed c
  width : treeIn P s.width noOrc [.tmp 0] 1 = tWidth c
  counted : treeIn P s.counted noOrc [.tmp 0, .tmp 1, .tmp 2, .tmp 3] 4 = tCounted c s
  value : treeIn P s.value noOrc [.tmp 0, .tmp 1, .tmp 2, .tmp 3, .tmp 4, .tmp 5] 6 = tValue c s
  fld : treeIn P s.fld noOrc [.tmp 0, .tmp 1, .tmp 2, .tmp 3] 4 = tField c s
  part : treeIn P s.part noOrc [.tmp 0, .tmp 1, .tmp 2, .tmp 3] 4 = tPart c s
  known : treeIn P s.known noOrc [.tmp 0] 1 = tKnown c s
  unknown : treeIn P s.unknown noOrc [.tmp 0, .tmp 1] 2 = tUnknown c s
  write : treeIn P s.write noOrc [.tmp 0, .tmp 1, .tmp 2] 3 = tWrite c s

/-- Those of the bounds. -/
structure FitTrees (P : Program) (c : Nums) (s : SN) : Prop where
  fits1 : treeIn P s.fits1 noOrc [.tmp 0] 1 = tFits1 c s
  fits2 : treeIn P s.fits2 noOrc [.tmp 0] 1 = tFits2 c s
  fits3 : treeIn P s.fits3 noOrc [.tmp 0] 1 = tFits3 c

section

variable {P : Program} {c : Nums} {s : SN}

theorem smalls_of (S : SpFacts P c s) (T : SpTrees P c s) : Smalls P s where
  has := fun _ _ _ v h => has_gives S T.has h v
  null := fun _ _ _ _ _ v h ht => null_gives S T.null h ht v
  whole := fun _ _ _ h => whole_gives S T.whole h
  things := fun _ _ _ _ h ht => things_gives S T.things h ht
  at_ := fun _ _ _ i ht => at_gives S T.at_ ht i
  width := fun _ x => width_gives S T.width x
  fixed := fun _ x m hm => fixed_gives S T.fixed x m hm
  uv := fun _ x hx => uv_gives S T.uv x hx
  counted := fun _ fl nu x m hx hm => counted_gives S (fun _ x m hm => fixed_gives S T.fixed x m hm) (fun _ x hx => uv_gives S T.uv x hx) T.counted fl nu x m hx hm

/-- Whether it fits or not. -/
def Answers (P : Program) (f : Nat) (args : List Value) (w : World) : Prop := Gives P f args w fun u w' => (∃ b, u = .bool b) ∧ Keeps [] w w'

theorem fits3_gives (S : SpFacts P c s) (T : FitTrees P c s) {w : World} {kv vv : Value} {l : List UInt8} (h : Ro w vv 1 l.length (bcells l)) : Answers P s.fits3 [.agg ⟨[kv, vv]⟩] w := by
  refine gives_in (ρ := en [_]) S.rd.mix T.fits3 (Nat.le_refl _) rfl (by simp [opBelow]) ?_
  refine s_box rfl fun w1 hx1 k1 z1 => ?_
  obtain ⟨a, cp, e⟩ := h.form
  refine s_fl S.ty.g1 S.rd.oneBytes rfl rfl hx1 rfl (s_val (v_len (a := a) (l := l.length) (c := cp) S.rd.bytes e) ?_)
  refine s_val (v_cmp (kk := .i64) (a := l.length) (b := 2147483647) (r := decide ((l.length : Int) > 2147483647)) rfl rfl rfl) ?_
  exact s_cond (b := decide ((l.length : Int) > 2147483647)) rfl (fun _ => s_ret1 ⟨⟨_, rfl⟩, k1⟩) fun _ => s_ret1 ⟨⟨_, rfl⟩, k1⟩

theorem fits2_gives (S : SpFacts P c s) (T : FitTrees P c s) {w : World} {uv : Value} {u : TM} {ucs : List Value} (h : Ro w uv 2 u.length ucs) (ht : TagsC w u ucs) (hl : u.length < 2 ^ 62) : Answers P s.fits2 [uv] w := by
  refine gives_in (ρ := en [_]) S.rd.mix T.fits2 (Nat.le_refl _) rfl (by simp [opBelow]) ?_
  obtain ⟨a, cp, e⟩ := h.form
  refine s_val (v_len (a := a) (l := u.length) (c := cp) S.ty.slTag e) ?_
  refine s_val (v_cmp (kk := .i64) (a := u.length) (b := 2147483647) (r := decide ((u.length : Int) > 2147483647)) rfl rfl rfl) ?_
  refine s_cond (b := decide ((u.length : Int) > 2147483647)) rfl (fun _ => s_ret1 ⟨⟨_, rfl⟩, .refl⟩) fun _ => ?_
  refine s_val (v_len (a := a) (l := u.length) (c := cp) S.ty.slTag e) ?_
  refine s_countV (n := 4) (q := 3) (kk := .i64) (m := u.length) (ri := [.const (.bool false)]) (Γ := []) (fun j vr w' => vr = [.bool false] ∧ Keeps [] w w') (by omega) rfl ⟨rfl, .refl⟩ ?_ ?_
  · rintro j hj w1 vr ⟨rfl, k1⟩ hvr J hJ
    have hj' : j < u.length := by omega
    refine s_eachT (w0 := w) (tv := uv) (m := u) (j := j) S (h.keep k1) ht rfl rfl hj' fun w2 a2 b vv hh hvv k2 hb => ?_
    refine s_lok (l_loadN (b := b) (o := 0) S.ty.aggTag rfl hh (show 0 + 2 ≤ 2 by omega)) ?_
    refine s_callx (fits3_gives S T (kv := .int .u32 u[j].1) (hvv.keep (k1.trans k2))) rfl fun x w3 ⟨⟨q, hq⟩, k3⟩ => ?_
    subst hq
    refine s_val (v_not (b := q) rfl) ?_
    refine s_cond (b := !q) rfl (fun _ => s_ret1 ⟨⟨_, rfl⟩, (k1.trans k2).trans k3⟩) fun _ => ?_
    refine s_val (v_arith (kk := .i64) (a := j) (b := 1) (r := ((j + 1 : Nat) : Int)) rfl rfl ?_) ?_
    · simp only [arithOf, Option.some.injEq]; rw [IntKind.wrap_i64]; omega
    exact ⟨J, rfl, hJ [_] _ rfl ⟨rfl, (k1.trans k2).trans k3⟩⟩
  · rintro w1 vr J ⟨rfl, k1⟩ hvr
    exact s_ret1 ⟨⟨_, rfl⟩, k1⟩

theorem fits1_gives (S : SpFacts P c s) (T : FitTrees P c s) {w : World} {t : PT} {ts : List Value} (ht : TreeC w t ts) : Answers P s.fits1 [.agg ⟨ts⟩] w := by
  have hl := ht.lens
  obtain ⟨sv, lv, uv, lcs, ucs, rfl, t1, t2, t3, t4, t5⟩ := ht.cells
  refine gives_in (ρ := en [_]) S.rd.mix T.fits1 (Nat.le_refl _) rfl (by simp [opBelow]) ?_
  refine s_box rfl fun w1 hx1 k1 z1 => ?_
  obtain ⟨a, cp, e⟩ := t1.form
  refine s_fl S.ty.f1 S.rd.oneBytes rfl rfl hx1 rfl (s_val (v_len (a := a) (l := t.s.length) (c := cp) S.rd.bytes e) ?_)
  refine s_val (v_cmp (kk := .i64) (a := t.s.length) (b := 2147483647) (r := decide ((t.s.length : Int) > 2147483647)) rfl rfl rfl) ?_
  refine s_cond (b := decide ((t.s.length : Int) > 2147483647)) rfl (fun _ => s_ret1 ⟨⟨_, rfl⟩, k1⟩) fun _ => ?_
  obtain ⟨a2, cp2, e2⟩ := t2.form
  refine s_fl S.ty.f3 S.ty.oneTrees rfl rfl hx1 rfl (s_val (v_len (a := a2) (l := t.l.length) (c := cp2) S.ty.sl e2) ?_)
  refine s_val (v_cmp (kk := .i64) (a := t.l.length) (b := 2147483647) (r := decide ((t.l.length : Int) > 2147483647)) rfl rfl rfl) ?_
  refine s_cond (b := decide ((t.l.length : Int) > 2147483647)) rfl (fun _ => s_ret1 ⟨⟨_, rfl⟩, k1⟩) fun _ => ?_
  refine s_fl S.ty.f4 S.ty.oneTagL rfl rfl hx1 rfl ?_
  refine s_callx (fits2_gives S T (t4.keep k1) (TagsC.keep k1 _ _ t5) (by omega)) rfl fun x w3 ⟨⟨q, hq⟩, k3⟩ => ?_
  subst hq
  refine s_val (v_not (b := q) rfl) ?_
  exact s_cond (b := !q) rfl (fun _ => s_ret1 ⟨⟨_, rfl⟩, k1.trans k3⟩) fun _ => s_ret1 ⟨⟨_, rfl⟩, k1.trans k3⟩

end

end Go.Kf


namespace Go.Kf

open Go

variable {P : Program} {c : Nums} {s : SN}

def chkSp (P : Program) (c : Nums) (s : SN) : Bool :=
  decide (aggTy P s.field = some 8) && decide (fieldOff P s.field 0 = some 0) && decide (fieldOff P s.field 1 = some 1) && decide (fieldOff P s.field 2 = some 2) && decide (fieldOff P s.field 3 = some 3) && decide (fieldOff P s.field 4 = some 4) &&
  decide (fieldOff P s.field 5 = some 5) && decide (fieldOff P s.field 6 = some 6) && decide (fieldOff P s.field 7 = some 7) && oneTy P s.fields && decide (aggTy P s.msg = some 2) && decide (fieldOff P s.msg 0 = some 0) && decide (fieldOff P s.msg 1 = some 1) && oneTy P c.tInt

theorem SpFacts.of (h1 : RdFacts P c) (h2 : TyFacts P c c.sTree c.sTrees c.sTagL c.sTag) (h3 : GotFacts P c) (h4 : RowFacts P s.field 8) (h5 : chkSp P c s = true) (h6 : P.underlying s.fields = some (.slice s.field))
    (h7 : P.underlying c.tU64 = some (.int .u64)) (h8 : zeroTy P c.tU8 = some (.int .u8 0, 1)) (h9 : chkInfo P c.tU8 1 8 = true) (h10 : chkZero P s.field 8 = true) (h11 : chkZero P c.sTag 2 = true) (h12 : buildPlan P c.sTag = some ([.int .u32 0, .slice none 0 0], [(0, 1), (1, 1)])) : SpFacts P c s := by
  unfold chkSp at h5
  simp only [Bool.and_eq_true, decide_eq_true_eq] at h5
  obtain ⟨⟨⟨⟨⟨⟨⟨⟨⟨⟨⟨⟨⟨a1, a2⟩, a3⟩, a4⟩, a5⟩, a6⟩, a7⟩, a8⟩, a9⟩, a10⟩, a11⟩, a12⟩, a13⟩, a14⟩ := h5
  refine ⟨h1, h2, h3, a1, a2, a3, a4, a5, a6, a7, a8, a9, h6, a10, a11, a12, a13, a14, h7, ?_, zero_of h10, zero_of h11, h4, h12⟩
  obtain ⟨inf, z, hi, hz, hs, hc, hb⟩ := info_of h9
  refine ⟨inf, hi, ?_, hs, hb⟩
  unfold zeroTy at h8
  rw [hi] at h8
  simp only [hz, Option.some.injEq, Prod.mk.injEq] at h8
  rw [hz, h8.1]

end Go.Kf


namespace Go.Kf

open Go Go.ChangeShapes Go.WideShapes Go.RowKit

/-- How much a tree says. -/
def tagsWt : TM → Nat
  | [] => 0
  | p :: m => 3 + p.2.length + tagsWt m

mutual
def PT.wt : PT → Nat
  | .mk _ s _ l u => 6 + s.length + PT.wts l + tagsWt u
def PT.wts : List PT → Nat
  | [] => 0
  | t :: r => t.wt + PT.wts r
end

theorem PT.wts_append : ∀ (a b : List PT), PT.wts (a ++ b) = PT.wts a + PT.wts b
  | [], b => by simp [PT.wts]
  | t :: a, b => by rw [List.cons_append, PT.wts, PT.wts_append a b, PT.wts]; omega

theorem tagsWt_append : ∀ (a b : TM), tagsWt (a ++ b) = tagsWt a + tagsWt b
  | [], b => by simp [tagsWt]
  | t :: a, b => by rw [List.cons_append, tagsWt, tagsWt_append a b, tagsWt]; omega

/-- How a reading's bulk is counted. -/
structure BulkLaws {H : Type} (B : DataW H → Nat) (BA : List (DataW H) → Nat) : Prop where
  agg : ∀ l, B (.agg l) = BA l + 1
  slice : ∀ e r, B (.slice e r) = BA e + BA r + 1
  pos : ∀ d, 1 ≤ B d
  nil : BA [] = 0
  cons : ∀ d r, BA (d :: r) = B d + BA r

/-- A struct's fields: their types, where they lie. -/
def chkStruct (P : Program) (t : Nat) (l : List (Nat × Nat)) : Bool := match P.underlying t with
  | some (.struct fs) => decide (fs.toList.map (fun f => (f.type, f.offset)) = l)
  | _ => false

theorem struct_of {P : Program} {t : Nat} {l : List (Nat × Nat)} (h : chkStruct P t l = true) : ∃ fs, P.underlying t = some (.struct fs) ∧ fs.toList.map (fun f => (f.type, f.offset)) = l := by
  unfold chkStruct at h
  split at h
  · rename_i fs hf
    exact ⟨fs, hf, by simpa using h⟩
  · cases h

/-- The tree's types, as a row's reading asks them. -/
structure RowTypes (P : Program) (c : Nums) : Prop where
  tree : chkStruct P c.sTree [(c.tI64, 0), (c.tBytes, 1), (c.tBool, 2), (c.sTrees, 3), (c.sTagL, 4)] = true
  tag : chkStruct P c.sTag [(c.tU32, 0), (c.tBytes, 1)] = true
  cells : [P.cellsOf c.tI64, P.cellsOf c.tBytes, P.cellsOf c.tBool, P.cellsOf c.sTrees, P.cellsOf c.sTagL, P.cellsOf c.tU32, P.cellsOf c.tU8, P.cellsOf c.sTree, P.cellsOf c.sTag] = [1, 1, 1, 1, 1, 1, 1, 5, 2]
  laid : laidOutB P = true
  rr : P.readableRec c.sTree = true
  row : c.sTree < P.types.size

theorem struct_parts {H : Type} {enc : TypeId × Value → H} {P : Program} {w : World} {base : Nat} {sp : Nat → Bool} {hd : Bool} {fuel t : Nat} {cs : List Value} {x : DataW H × List MemPlace} {l : List (Nat × Nat)} (h : chkStruct P t l = true) (hx : DataW.trod enc P w base sp hd fuel t cs = some x) :
    ∃ (xs : List (DataW H × List MemPlace)) (n : Nat), fuel = n + 1 ∧ x.1 = .agg (xs.map (·.1)) ∧ cs.length = P.cellsOf t ∧ xs.length = l.length ∧ ∀ (i : Nat) (p : Nat × Nat), l[i]? = some p → DataW.trod enc P w base sp hd n p.1 ((cs.drop p.2).take (P.cellsOf p.1)) = xs[i]? := by
  obtain ⟨fs, hf, hm⟩ := struct_of h
  obtain ⟨xs, n, h1, h2, h3, h4, h5⟩ := DataW.trod_struct hf hx
  refine ⟨xs, n, h1, by rw [h2], h3, by rw [h4, ← hm]; simp, fun i p hp => ?_⟩
  subst hm
  rw [List.getElem?_map] at hp
  cases hfi : fs.toList[i]? with
  | none => rw [hfi] at hp; cases hp
  | some f =>
    rw [hfi] at hp
    simp only [Option.map_some, Option.some.injEq] at hp
    subst hp
    exact h5 i f (by rwa [Array.getElem?_toList] at hfi)

theorem addr_spot {w : World} {a : Addr} {v : Value} (h : w.cell? a = some v) : a = ⟨a.block, a.off, none⟩ := by
  unfold World.cell? at h
  split at h
  · split at h
    · cases h
    · rename_i hs
      cases a with
      | mk b o s =>
        cases s with
        | none => rfl
        | some _ => simp at hs
  · cases h

section

variable {H : Type} {enc : TypeId × Value → H} {P : Program} {c : Nums} {s : SN} {w : World} {B : DataW H → Nat} {BA : List (DataW H) → Nat}

theorem bulk_len (L : BulkLaws B BA) : ∀ l : List (DataW H), l.length ≤ BA l
  | [] => by simp
  | d :: r => by
    have := L.pos d
    have := bulk_len L r
    rw [L.cons, List.length_cons]
    omega

/-- Octets of an argument. -/
theorem open_octets (S : SpFacts P c s) (T : RowTypes P c) (L : BulkLaws B BA) {fuel : Nat} {cs : List Value} {x : DataW H × List MemPlace} (h : DataW.trod enc P w 0 (fun _ => true) true fuel c.tBytes cs = some x) :
    ∃ v l, cs = [v] ∧ Ro w v 1 l.length (bcells l) ∧ l.length + 1 ≤ B x.1 := by
  have hc := T.cells
  simp only [List.cons.injEq] at hc
  rcases open_ints S.rd.bytes S.rd.u8 hc.2.2.2.2.2.2.1 h with ⟨rfl, rfl⟩ | ⟨a, len, cap, zs, rfl, _, hle, hmx, hzl, rfl, hcell, hwf⟩
  · exact ⟨_, [], rfl, Ro.nil w 1, L.pos _⟩
  · simp only [if_true] at hzl
    have hz8 : ∀ z ∈ zs, ∃ m : Nat, z = m ∧ m < 256 := fun z hz => lit_u8 (hwf z hz)
    refine ⟨_, (zs.take len).map fun z => UInt8.ofNat z.toNat, rfl, ?_, ?_⟩
    · have hlen : ((zs.take len).map fun z => UInt8.ofNat z.toNat).length = len := by rw [List.length_map, List.length_take]; omega
      refine ⟨by rw [bcells_length]; omega, ?_⟩
      rw [hlen]
      by_cases h0 : len = 0
      · exact .inl ⟨h0, _, _, by rw [h0]⟩
      · have hz0 : 0 < zs.length := by omega
        have e0 := hcell 0 hz0
        have ha0 : a.add 0 = a := by simp [Addr.add]
        rw [ha0] at e0
        have hsp := addr_spot e0
        refine .inr ⟨a.block, a.off, cap, by rw [← hsp], cell_block e0, hle, fun i hi => ?_⟩
        have hi' : i < zs.length := by omega
        have e1 := hcell i hi'
        rw [hsp, addr_add] at e1
        rw [e1]
        obtain ⟨m, hm, hlt⟩ := hz8 zs[i] (List.getElem_mem _)
        simp only [bcells, List.getElem?_map, List.getElem?_take, show i < len by omega, if_true, List.getElem?_eq_getElem hi', Option.map_some, List.getD_eq_getElem?_getD, Option.getD_some, hm, Int.toNat_natCast]
        congr 2
        have : (UInt8.ofNat m).toNat = m := by rw [UInt8.toNat_ofNat']; omega
        rw [this]
    · rw [L.slice]
      have := bulk_len L (lits .u8 (zs.take len))
      have e : (lits (H := H) .u8 (zs.take len)).length = (zs.take len).length := by simp [lits]
      rw [List.length_map]
      omega

/-- Elements of an argument's slice, one after another. -/
theorem open_elems {e sz fuel : Nat} {a : Addr} {len : Nat} {elems : List (DataW H × List MemPlace)} (hsz : P.cellsOf e = sz) (hlen : elems.length = len)
    (hel : ∀ i, i < len → (w.cells? 0 (a.add (i * P.cellsOf e)) (P.cellsOf e)).bind (DataW.trod enc P w 0 (fun _ => true) true fuel e) = elems[i]?) :
    ∀ i (hi : i < elems.length), ∃ cs, cs.length = sz ∧ (∀ q, q < sz → w.cell? ((a.add (i * sz)).add q) = cs[q]?) ∧ DataW.trod enc P w 0 (fun _ => true) true fuel e cs = some elems[i] := by
  intro i hi
  have h := hel i (by omega)
  rw [List.getElem?_eq_getElem hi, Option.bind_eq_some_iff] at h
  obtain ⟨cs, h1, h2⟩ := h
  obtain ⟨_, h3, h4⟩ := World.cells?_some h1
  rw [hsz] at h3 h4
  exact ⟨cs, h3, h4, h2⟩

theorem bulk_take (L : BulkLaws B BA) (l : List (DataW H)) {j : Nat} (hj : j < l.length) : BA (l.take (j + 1)) = BA (l.take j) + B l[j] := by
  induction l generalizing j with
  | nil => simp at hj
  | cons d r ih =>
    cases j with
    | zero => simp [L.cons, L.nil]
    | succ j =>
      rw [List.take_succ_cons, L.cons, ih (by simpa using hj), List.take_succ_cons, L.cons, List.getElem_cons_succ]
      omega

/-- Rows of elements, joined. -/
theorem open_row' {sz : Nat} {X : Type} {C : List X → List Value → Prop} {W : List X → Nat} (L : BulkLaws B BA) (hsz : 0 < sz) {a : Addr} {elems : List (DataW H × List MemPlace)} (hC0 : C [] []) (hW0 : W [] = 0)
    (hC : ∀ xs cs i (hi : i < elems.length), xs.length = i → C xs cs → (∀ q, q < i * sz → w.cell? (a.add q) = cs[q]?) → cs.length = i * sz → W xs ≤ BA ((elems.map (·.1)).take i) → ∃ y ys, C (xs ++ [y]) (cs ++ ys) ∧ ys.length = sz ∧ (∀ q, q < sz → w.cell? ((a.add (i * sz)).add q) = ys[q]?) ∧ W (xs ++ [y]) ≤ W xs + B elems[i].1) :
    ∀ k, k ≤ elems.length → ∃ xs cs, xs.length = k ∧ C xs cs ∧ cs.length = k * sz ∧ (∀ q, q < k * sz → w.cell? (a.add q) = cs[q]?) ∧ W xs ≤ BA ((elems.map (·.1)).take k)
  | 0, _ => ⟨[], [], rfl, hC0, by simp, fun q hq => by simp at hq, by rw [hW0]; omega⟩
  | k + 1, hk => by
    obtain ⟨xs, cs, h1, h2, h3, h4, h5⟩ := open_row' L hsz hC0 hW0 hC k (by omega)
    obtain ⟨y, ys, g1, g2, g3, g4⟩ := hC xs cs k (by omega) h1 h2 h4 h3 h5
    refine ⟨xs ++ [y], cs ++ ys, by rw [List.length_append, h1]; rfl, g1, by rw [List.length_append, h3, g2, Nat.add_mul]; omega, fun q hq => ?_, ?_⟩
    · by_cases hq2 : q < k * sz
      · rw [List.getElem?_append_left (by omega)]
        exact h4 q hq2
      · rw [List.getElem?_append_right (by omega), h3]
        have h6 : q - k * sz < sz := by rw [Nat.add_mul] at hq; omega
        have h7 := g3 (q - k * sz) h6
        rw [← h7]
        congr 1
        have hsp : ∃ b o, a.add (k * sz) = ⟨b, o, none⟩ ∧ ∀ r, a.add (k * sz + r) = ⟨b, o + r, none⟩ := by
          have h8 := g3 0 hsz
          have h9 : ys[0]? ≠ none := by rw [List.getElem?_eq_getElem (by omega)]; simp
          cases hv : w.cell? ((a.add (k * sz)).add 0) with
          | none => rw [hv] at h8; exact absurd h8.symm h9
          | some v =>
            have e0 : (a.add (k * sz)).add 0 = a.add (k * sz) := by simp [Addr.add]
            rw [e0] at hv
            have hs := addr_spot hv
            refine ⟨(a.add (k * sz)).block, (a.add (k * sz)).off, hs, fun r => ?_⟩
            by_cases hk0 : k * sz = 0
            · rw [hk0, Nat.zero_add]
              have e1 : a.add 0 = a := by simp [Addr.add]
              rw [hk0, e1] at hs
              rw [e1]
              rw [hs, addr_add]
            · have e2 : a.add (k * sz + r) = { a with off := a.off + (k * sz + r), spot := none } := by simp [Addr.add]; omega
              have e3 : a.add (k * sz) = { a with off := a.off + k * sz, spot := none } := by simp [Addr.add, hk0]
              rw [e2, e3]
              simp only [Nat.add_assoc]
        obtain ⟨b, o, e1, e2⟩ := hsp
        rw [e1, addr_add, show q = k * sz + (q - k * sz) by omega, e2]
        congr 1
        omega
    · rw [bulk_take L _ (by simpa using by omega)]
      simp only [List.getElem_map]
      omega

theorem bulk_mem (L : BulkLaws B BA) {d : DataW H} : ∀ {l : List (DataW H)}, d ∈ l → B d ≤ BA l
  | [], h => by cases h
  | y :: l, h => by
    rw [L.cons]
    rcases List.mem_cons.1 h with rfl | h
    · omega
    · have := bulk_mem L h
      omega

theorem TreesC.append : ∀ {a b : List PT} {x y : List Value}, TreesC w a x → TreesC w b y → TreesC w (a ++ b) (x ++ y)
  | [], b, x, y, h1, h2 => by simp only [TreesC] at h1; subst h1; exact h2
  | t :: a, b, x, y, ⟨c1, c2, e, h1, h3⟩, h2 => ⟨c1, c2 ++ y, by rw [e, List.append_assoc], h1, TreesC.append h3 h2⟩

/-- Cells that a slice shows. -/
theorem ro_of_cells {a : Addr} {len cap sz : Nat} {cs : List Value} (hsz : 0 < sz) (hl : cs.length = len * sz) (hc : len ≤ cap) (h : ∀ q, q < len * sz → w.cell? (a.add q) = cs[q]?) : Ro w (.slice (some a) len cap) sz len cs := by
  refine ⟨hl, ?_⟩
  by_cases h0 : len = 0
  · exact .inl ⟨h0, _, _, by rw [h0]⟩
  · have hpos : 0 < len * sz := Nat.mul_pos (by omega) hsz
    have e0 := h 0 hpos
    have ha0 : a.add 0 = a := by simp [Addr.add]
    rw [ha0, List.getElem?_eq_getElem (by omega)] at e0
    have hsp := addr_spot e0
    refine .inr ⟨a.block, a.off, cap, by rw [← hsp], cell_block e0, hc, fun i hi => ?_⟩
    have e1 := h i hi
    rwa [hsp, addr_add] at e1

theorem wf_u32 {n : Int} (h : (Lit.int .u32 n).wf = true) : ∃ m : Nat, n = m ∧ m < 4294967296 := by
  simp only [Lit.wf, Bool.and_eq_true, decide_eq_true_eq] at h
  have e1 : IntKind.u32.min = 0 := rfl
  have e2 : IntKind.u32.max = 4294967295 := rfl
  rw [e1, e2] at h
  exact ⟨n.toNat, by omega, by omega⟩

theorem wf_i64 {n : Int} (h : (Lit.int .i64 n).wf = true) : IntKind.i64.wrap n = n := by
  simp only [Lit.wf, Bool.and_eq_true, decide_eq_true_eq] at h
  have e1 : IntKind.i64.min = -9223372036854775808 := rfl
  have e2 : IntKind.i64.max = 9223372036854775807 := rfl
  rw [e1, e2] at h
  exact i64_small (by omega) (by omega)

/-- A tag of an argument. -/
theorem open_tag (S : SpFacts P c s) (T : RowTypes P c) (L : BulkLaws B BA) {fuel : Nat} {cs : List Value} {x : DataW H × List MemPlace} (h : DataW.trod enc P w 0 (fun _ => true) true fuel c.sTag cs = some x) :
    ∃ q : Nat × List UInt8, TagsC w [q] cs ∧ q.1 < 4294967296 ∧ 3 + q.2.length ≤ B x.1 := by
  have hc := T.cells
  simp only [List.cons.injEq] at hc
  obtain ⟨c1, c2, c3, c4, c5, c6, c7, c8, c9, _⟩ := hc
  obtain ⟨xs, n, rfl, hx1, hlen, hxl, hget⟩ := struct_parts T.tag h
  rw [c9] at hlen
  match xs, hxl with
  | [y0, y1], _ =>
  match cs, hlen with
  | [v0, v1], _ =>
  have h0 := hget 0 (c.tU32, 0) rfl
  have h1 := hget 1 (c.tBytes, 1) rfl
  rw [c6] at h0
  rw [c2] at h1
  obtain ⟨n0, e0, hy0, w0⟩ := DataW.trod_int S.rd.u32 (show _ = some y0 from h0)
  obtain ⟨v, l, e1, hro, hb⟩ := open_octets S T L (show _ = some y1 from h1)
  obtain ⟨m, rfl, hm⟩ := wf_u32 w0
  simp at e0 e1
  subst e0
  subst e1
  refine ⟨(m, l), ⟨v1, [], rfl, hro, rfl⟩, hm, ?_⟩
  rw [hx1, L.agg]
  simp only [List.map_cons, List.map_nil, L.cons, L.nil]
  have := L.pos y0.1
  omega

/-- A tree of an argument. -/
theorem open_tree (S : SpFacts P c s) (T : RowTypes P c) (L : BulkLaws B BA) : ∀ (fuel : Nat) {cs : List Value} {x : DataW H × List MemPlace}, DataW.trod enc P w 0 (fun _ => true) true fuel c.sTree cs = some x → B x.1 < 4294967296 →
    ∃ t : PT, TreeC w t cs ∧ t.ok ∧ t.wt ≤ B x.1 := by
  intro fuel
  induction fuel using Nat.strongRecOn with
  | ind fuel ih =>
  intro cs x h hB
  have hc := T.cells
  simp only [List.cons.injEq] at hc
  obtain ⟨c1, c2, c3, c4, c5, c6, c7, c8, c9, _⟩ := hc
  obtain ⟨xs, n, rfl, hx1, hlen, hxl, hget⟩ := struct_parts T.tree h
  rw [c8] at hlen
  match xs, hxl with
  | [y0, y1, y2, y3, y4], _ =>
  match cs, hlen with
  | [v0, v1, v2, v3, v4], _ =>
  have h0 := hget 0 (c.tI64, 0) rfl
  have h1 := hget 1 (c.tBytes, 1) rfl
  have h2 := hget 2 (c.tBool, 2) rfl
  have h3 := hget 3 (c.sTrees, 3) rfl
  have h4 := hget 4 (c.sTagL, 4) rfl
  rw [c1] at h0
  rw [c2] at h1
  rw [c3] at h2
  rw [c4] at h3
  rw [c5] at h4
  rw [hx1, L.agg] at hB ⊢
  simp only [List.map_cons, List.map_nil, L.cons, L.nil] at hB ⊢
  obtain ⟨n0, e0, hy0, w0⟩ := DataW.trod_int S.ty.i64 (show _ = some y0 from h0)
  obtain ⟨sv, l, e1, hro, hb1⟩ := open_octets S T L (show _ = some y1 from h1)
  obtain ⟨b, e2, hy2⟩ := DataW.trod_bool S.ty.bool (show _ = some y2 from h2)
  simp at e0 e1 e2
  subst e0
  subst e1
  subst e2
  have p0 := L.pos y0.1
  have p2 := L.pos y2.1
  -- the things
  obtain ⟨tl, lcs, hl1, hl2, hl3, hl4⟩ : ∃ (tl : List PT) (lcs : List Value), Ro w v3 5 tl.length lcs ∧ TreesC w tl lcs ∧ (∀ t ∈ tl, t.ok) ∧ PT.wts tl + 1 ≤ B y3.1 := by
    rcases DataW.trod_slice S.ty.sl (show _ = some y3 from h3) with ⟨e3, rfl⟩ | ⟨a, len, cap, elems, rest, m, hm, e3, rfl, _, hle, _, hel0, hel, _⟩
    · simp at e3
      subst e3
      exact ⟨[], [], Ro.nil w 5, rfl, (fun t ht => by cases ht), L.pos _⟩
    · simp at e3
      subst e3
      have hE := open_elems (e := c.sTree) (sz := 5) (len := len) c8 hel0 hel
      simp only at hB ⊢
      rw [L.slice] at hB ⊢
      obtain ⟨tl, lcs, k1, k2, k3, k4, k5⟩ := open_row' (w := w) (sz := 5) (X := PT) (C := fun ts cs => TreesC w ts cs ∧ ∀ t ∈ ts, t.ok) (W := PT.wts) L (by omega) (a := a) (elems := elems) ⟨rfl, fun t ht => by cases ht⟩ rfl (by
        intro ts cs i hi _ hC _ _ _
        obtain ⟨ys, g1, g2, g3⟩ := hE i hi
        have hbm : B elems[i].1 ≤ BA (elems.map (·.1)) := bulk_mem L (List.mem_map.2 ⟨_, List.getElem_mem hi, rfl⟩)
        obtain ⟨t, t1, t2, t3⟩ := ih m (by omega) g3 (by omega)
        refine ⟨t, ys, ⟨TreesC.append hC.1 ⟨ys, [], by simp, t1, rfl⟩, fun u hu => ?_⟩, g1, g2, ?_⟩
        · rcases List.mem_append.1 hu with hu | hu
          · exact hC.2 u hu
          · simp only [List.mem_singleton] at hu; subst hu; exact t2
        · rw [PT.wts_append]
          simp only [PT.wts]
          omega) elems.length (Nat.le_refl _)
      rw [List.take_of_length_le (by simp)] at k5
      refine ⟨tl, lcs, ?_, k2.1, k2.2, by omega⟩
      rw [k1, hel0]
      rw [hel0] at k3 k4
      exact ro_of_cells (by omega) k3 hle k4
  obtain ⟨ul, ucs, hu1, hu2, hu3, hu4, hu5⟩ : ∃ (ul : TM) (ucs : List Value), Ro w v4 2 ul.length ucs ∧ TagsC w ul ucs ∧ (∀ p ∈ ul, p.1 < 4294967296) ∧ tagsWt ul + 1 ≤ B y4.1 ∧ ul.length ≤ tagsWt ul := by
    rcases DataW.trod_slice S.ty.slTag (show _ = some y4 from h4) with ⟨e3, rfl⟩ | ⟨a, len, cap, elems, rest, m, hm, e3, rfl, _, hle, _, hel0, hel, _⟩
    · simp at e3
      subst e3
      exact ⟨[], [], Ro.nil w 2, rfl, (fun t ht => by cases ht), L.pos _, Nat.le_refl _⟩
    · simp at e3
      subst e3
      have hE := open_elems (e := c.sTag) (sz := 2) (len := len) c9 hel0 hel
      simp only at hB ⊢
      rw [L.slice] at hB ⊢
      obtain ⟨tl, lcs, k1, k2, k3, k4, k5⟩ := open_row' (w := w) (sz := 2) (X := Nat × List UInt8) (C := fun ts cs => TagsC w ts cs ∧ (∀ p ∈ ts, p.1 < 4294967296) ∧ ts.length ≤ tagsWt ts) (W := tagsWt) L (by omega) (a := a) (elems := elems) ⟨rfl, (fun t ht => by cases ht), Nat.le_refl _⟩ rfl (by
        intro ts cs i hi _ hC _ _ _
        obtain ⟨ys, g1, g2, g3⟩ := hE i hi
        obtain ⟨q, t1, t2, t3⟩ := open_tag S T L g3
        refine ⟨q, ys, ⟨TagsC.append hC.1 t1, fun u hu => ?_, ?_⟩, g1, g2, ?_⟩
        · rcases List.mem_append.1 hu with hu | hu
          · exact hC.2.1 u hu
          · simp only [List.mem_singleton] at hu; subst hu; exact t2
        · have := hC.2.2
          rw [tagsWt_append, List.length_append]
          simp only [tagsWt, List.length_singleton]
          omega
        · rw [tagsWt_append]
          simp only [tagsWt]
          omega) elems.length (Nat.le_refl _)
      rw [List.take_of_length_le (by simp)] at k5
      refine ⟨tl, lcs, ?_, k2.1, k2.2.1, by omega, k2.2.2⟩
      rw [k1, hel0]
      rw [hel0] at k3 k4
      exact ro_of_cells (by omega) k3 hle k4
  have hwl : tl.length ≤ PT.wts tl := by
    clear hl1 hl2 hl3 hl4
    induction tl with
    | nil => simp [PT.wts]
    | cons t r ihr =>
      have : 1 ≤ t.wt := by cases t; simp only [PT.wt]; omega
      simp only [PT.wts, List.length_cons]
      omega
  refine ⟨.mk n0 l b tl ul, ⟨v1, v3, v4, lcs, ucs, rfl, hro, hl1, hl2, hu1, hu2, by omega, by omega, by omega⟩, ⟨wf_i64 w0, hu3, PT.oks_of hl3⟩, ?_⟩
  simp only [PT.wt]
  omega

end

end Go.Kf

namespace Go.Kf

open Go Go.ChangeShapes Go.WideShapes Go.RowKit

theorem below_keeps {w w' : World} (h : Keeps [] w w') : Below w.heap.size w w' := ⟨h.os, h.tape, h.output, h.size, fun k hk => h.block k hk (by simp)⟩

theorem law_rowT {H : Type} {enc : TypeId × Value → H} {P : Program} {c : Nums} {sn : SN} {fn : Func} {s : ChangeSpec} {tU tB : Nat} {B : DataW H → Nat} {BA : List (DataW H) → Nat} (S : SpFacts P c sn) (T : RowTypes P c) (L : BulkLaws B BA)
    (hp : fn.params = #[tU, c.sTree]) (hr : fn.resultTypes = #[tB]) (hu : P.underlying tU = some (.int .u8)) (hb : P.underlying tB = some .bool)
    (hs : ∀ (H : Type) (d1 d2 : DataW H), s.fn H [d1, d2] = { results := [.lit (.bool true)], args := [d1, d2] }) (hvs : s.vars = []) {W : World} {base : Nat} {args : Array Value} {ds gs : List (DataW H)} {before : List MemPlace}
    (hval : ∀ (j : Nat) t v, fn.params[j]? = some t → args[j]? = some v → Value.okWide P W .any base t v) (hW : DataW.Whole enc P fn.params.toList s.vars false W args.toList ds gs before) (hB : BA (ds ++ gs) ≤ 1048576) :
    ∃ (n : Nat) (t : PT) (ts : List Value), n < 256 ∧ args = #[.int .u8 n, .agg ⟨ts⟩] ∧ TreeC W t ts ∧ t.ok ∧ t.wt ≤ 1048576 ∧ ∀ W', Keeps [] W W' → s.post enc P fn false true false false W args (.bool true) W' := by
  have hlt := hW.lt
  have hW0 := hW
  obtain ⟨p, q, hA, hV, rfl, hfz, hnd⟩ := hW
  rw [hvs] at hV
  obtain ⟨rfl, rfl⟩ := trodVars_none hV
  rw [hp] at hA hval
  obtain ⟨v0, vs0, d0, ds0, p0, q0, hargs, rfl, rfl, h0, r0⟩ := trodAll_cons hA
  obtain ⟨v1, vs1, d1, ds1, p1, q1, rfl, rfl, rfl, h1, r1⟩ := trodAll_cons r0
  obtain ⟨rfl, rfl, rfl⟩ := trodAll_nil r1
  obtain rfl : args = #[v0, v1] := by cases args; simp_all
  obtain ⟨n0, rfl, rfl, rfl, hw0⟩ := open_int hu (hval 0 tU v0 rfl rfl) h0
  obtain ⟨n, rfl, hn⟩ := lit_u8 hw0
  obtain ⟨fs, hfs, _⟩ := struct_of T.tree
  obtain ⟨cs, rfl, _⟩ := okWide_struct hfs (hval 1 c.sTree v1 rfl rfl)
  simp only [List.append_nil, L.cons, L.nil] at hB
  obtain ⟨fuel, hf⟩ := id h1
  obtain ⟨ts⟩ := cs
  obtain ⟨t, ht, hok, hwt⟩ := open_tree S T L fuel (x := (d1, p1)) hf (by show B d1 < _; omega)
  have hwt : t.wt ≤ B d1 := hwt
  refine ⟨n, t, ts, hn, rfl, ht, hok, by omega, fun W' hk => ?_⟩
  refine ⟨_, _, _, [], [] ++ (p1 ++ []), [], hW0, ?_, ?_, ?_, ?_, fun h => by cases h⟩
  · rw [List.append_nil, hs, hr]
    exact trodAll_cons_mk (shut_bool hb _) trodAll_mk0
  · rw [List.append_nil, hs, hp]
    refine trodAll_cons_mk ⟨1, trod_int_mk 0 hu hw0⟩ (trodAll_cons_mk (Below.trod T.laid T.rr T.row h1 (below_keeps hk) fun x hx => hlt x (by simpa using hx)) trodAll_mk0)
  · rw [hvs, List.append_nil, hs]; rfl
  · exact World.keptBut_mono (fun p hp => ⟨hp, .inr (.inl (by simpa using hp))⟩) (keptBut_keeps hk _)

end Go.Kf

namespace Go.Kf

open Go

theorem beFrom_eq : ∀ (l : List UInt8) (a : Nat), Lib.beFrom a l = a * 256 ^ l.length + Lib.beNat l
  | [], a => by simp [Lib.beNat, Lib.beFrom]
  | b :: l, a => by
    have e1 : Lib.beFrom a (b :: l) = Lib.beFrom (a * 256 + b.toNat) l := rfl
    have e2 : Lib.beNat (b :: l) = Lib.beFrom (0 * 256 + b.toNat) l := rfl
    rw [e1, e2, beFrom_eq l, beFrom_eq l (0 * 256 + b.toNat), List.length_cons, Nat.pow_succ]
    simp only [Nat.zero_mul, Nat.zero_add, Nat.add_mul, Nat.add_assoc]
    congr 1
    rw [Nat.mul_assoc, Nat.mul_comm 256]

theorem emod_split (n d : Int) (hd : 0 < d) : n % (d * 256) = (n / d % 256) * d + n % d := by
  have h1 := Int.emod_add_mul_ediv n d
  have h2 := Int.emod_add_mul_ediv (n / d) 256
  have h3 := Int.emod_nonneg n (show d ≠ 0 by omega)
  have h4 := Int.emod_lt_of_pos n hd
  have h5 := Int.emod_nonneg (n / d) (show (256 : Int) ≠ 0 by omega)
  have h6 := Int.emod_lt_of_pos (n / d) (show (0 : Int) < 256 by omega)
  have h7 : n = (n / d % 256) * d + n % d + d * 256 * (n / d / 256) := by
    calc n = n % d + d * (n / d) := h1.symm
      _ = n % d + d * (n / d % 256 + 256 * (n / d / 256)) := by rw [h2]
      _ = (n / d % 256) * d + n % d + d * 256 * (n / d / 256) := by rw [Int.mul_add, Int.mul_comm d (n / d % 256), ← Int.mul_assoc]; omega
  have h8 : (n / d % 256) * d ≤ 255 * d := Int.mul_le_mul_of_nonneg_right (by omega) (by omega)
  have h9 : 0 ≤ (n / d % 256) * d := Int.mul_nonneg h5 (by omega)
  conv => lhs; rw [h7]
  rw [Int.add_mul_emod_self_left, Int.emod_eq_of_lt (by omega) (by omega)]

theorem octOf_toNat (n : Int) (k : Nat) : ((octOf n k).toNat : Int) = n / 2 ^ (8 * k) % 256 := by
  unfold octOf
  have h5 := Int.emod_nonneg (n / 2 ^ (8 * k)) (show (256 : Int) ≠ 0 by omega)
  have h6 := Int.emod_lt_of_pos (n / 2 ^ (8 * k)) (show (0 : Int) < 256 by omega)
  rw [UInt8.toNat_ofNat']
  omega

theorem beNat_fixed (n : Int) : ∀ k : Nat, ((Lib.beNat (pFixed n k) : Nat) : Int) = n % 2 ^ (8 * k)
  | 0 => by simp [pFixed, Lib.beNat, Lib.beFrom, Int.emod_one]
  | k + 1 => by
    have hp : (0 : Int) < 2 ^ (8 * k) := Int.pow_pos (by omega)
    have e1 : (2 : Int) ^ (8 * (k + 1)) = 2 ^ (8 * k) * 256 := by rw [Nat.mul_add, Int.pow_add]; rfl
    have e2 : ((256 ^ k : Nat) : Int) = 2 ^ (8 * k) := by
      rw [Int.pow_mul]
      simp
    rw [pFixed, Lib.beNat, Lib.beFrom, beFrom_eq, pFixed_length, e1, emod_split n _ hp, ← octOf_toNat, ← beNat_fixed n k, ← e2]
    simp

theorem rFix_fixed (n : Int) (N : Nat) (rest : List UInt8) (nl : Bool) : rFix N ⟨pFixed n N ++ rest, false, nl⟩ = ((n % 2 ^ (8 * N)).toNat, ⟨rest, false, nl⟩) := by
  have hl := pFixed_length n N
  unfold rFix
  rw [if_neg (by simp only [List.length_append]; omega)]
  simp only [List.take_left' hl, List.drop_left' hl, ← beNat_fixed n N, Int.toNat_natCast]

theorem pUvN_pos (k n : Nat) : 1 ≤ (pUvN k n).length := by
  cases k with
  | zero => simp [pUvN]
  | succ k => rw [pUvN]; split <;> simp

theorem uvarAt_pUvN : ∀ (k i x n : Nat) (rest : List UInt8), i ≤ 4 → 4 ≤ k + i → n < 2 ^ (32 - 7 * i) → uvarAt i x (pUvN k n ++ rest) = (x + n * 2 ^ (7 * i), ((i + (pUvN k n).length : Nat) : Int)) := by
  intro k
  induction k with
  | zero =>
    intro i x n rest hi hk hn
    obtain rfl : i = 4 := by omega
    have hn : n < 16 := hn
    have e : (UInt8.ofNat n).toNat = n := by rw [UInt8.toNat_ofNat']; omega
    simp only [pUvN, List.singleton_append, uvarAt, if_true, e, if_pos (show n ≤ 15 by omega), List.length_singleton]
    rfl
  | succ k ih =>
    intro i x n rest hi hk hn
    by_cases h4 : i = 4
    · subst h4
      have hn : n < 16 := hn
      have e : (UInt8.ofNat n).toNat = n := by rw [UInt8.toNat_ofNat']; omega
      simp only [pUvN, if_neg (show ¬ 127 < n by omega), List.singleton_append, uvarAt, if_true, e, if_pos (show n ≤ 15 by omega), List.length_singleton]
      rfl
    · by_cases h : 127 < n
      · have e : (UInt8.ofNat (n % 128 + 128)).toNat = n % 128 + 128 := by rw [UInt8.toNat_ofNat']; omega
        have hp : (2 : Nat) ^ (32 - 7 * i) = 2 ^ (32 - 7 * (i + 1)) * 128 := by
          rw [show 32 - 7 * i = 32 - 7 * (i + 1) + 7 by omega, Nat.pow_add]
        have hp2 : (2 : Nat) ^ (7 * (i + 1)) = 128 * 2 ^ (7 * i) := by
          rw [show 7 * (i + 1) = 7 + 7 * i by omega, Nat.pow_add]
        have hdiv : n / 128 < 2 ^ (32 - 7 * (i + 1)) := by
          rw [hp] at hn
          exact Nat.div_lt_of_lt_mul (by rw [Nat.mul_comm]; exact hn)
        simp only [pUvN, if_pos h, List.cons_append, uvarAt, if_neg h4, e, if_neg (show ¬ n % 128 + 128 < 128 by omega)]
        have hm : (n % 128 + 128) % 128 = n % 128 := by omega
        rw [hm, ih (i + 1) _ _ rest (by omega) (by omega) hdiv, hp2, List.length_cons]
        have hs : n % 128 * 2 ^ (7 * i) + n / 128 * (128 * 2 ^ (7 * i)) = n * 2 ^ (7 * i) := by
          rw [← Nat.mul_assoc, ← Nat.add_mul]
          congr 1
          omega
        rw [Nat.add_assoc, hs]
        congr 2
        omega
      · have e : (UInt8.ofNat n).toNat = n := by rw [UInt8.toNat_ofNat']; omega
        simp only [pUvN, if_neg h, List.singleton_append, uvarAt, if_neg h4, e, if_pos (show n < 128 by omega), List.length_singleton]

theorem rUv_pUv (n : Nat) (h : n < 4294967296) (rest : List UInt8) (nl : Bool) : rUv ⟨pUv n ++ rest, false, nl⟩ = (n, ⟨rest, false, nl⟩) := by
  have h1 : uvar (pUv n ++ rest) = (n, (((pUv n).length : Nat) : Int)) := by
    unfold uvar pUv
    rw [uvarAt_pUvN 10 0 0 n rest (by omega) (by omega) h]
    simp
  have h2 : 1 ≤ (pUv n).length := pUvN_pos 10 n
  unfold rUv
  simp only [h1]
  rw [if_neg (by omega), Int.toNat_natCast, List.drop_left' rfl]

theorem rSpan_left (s rest : List UInt8) (nl : Bool) (m : Int) (hm : m = s.length) : rSpan m ⟨s ++ rest, false, nl⟩ = ((s, nl), ⟨rest, false, nl⟩) := by
  unfold rSpan
  subst hm
  rw [if_neg (by simp only [List.length_append]; omega), Int.toNat_natCast, List.take_left' rfl, List.drop_left' rfl]

theorem pWhole_length (l : List UInt8) : (pWhole l).length ≤ 32767 := by unfold pWhole; rw [List.length_take]; omega

theorem wrap_i8_mod (n : Int) : IntKind.i8.wrap ((n % 2 ^ (8 * 1)).toNat : Int) = IntKind.i8.wrap n := by
  simp only [IntKind.wrap, IntKind.bits, IntKind.signed]; simp; omega

theorem wrap_i16_mod (n : Int) : IntKind.i16.wrap ((n % 2 ^ (8 * 2)).toNat : Int) = IntKind.i16.wrap n := by
  simp only [IntKind.wrap, IntKind.bits, IntKind.signed]; simp; omega

theorem wrap_i32_mod (n : Int) : IntKind.i32.wrap ((n % 2 ^ (8 * 4)).toNat : Int) = IntKind.i32.wrap n := by
  simp only [IntKind.wrap, IntKind.bits, IntKind.signed]; simp; omega

theorem wrap_i64_mod (n : Int) : IntKind.i64.wrap ((n % 2 ^ (8 * 8)).toNat : Int) = IntKind.i64.wrap n := by
  simp only [IntKind.wrap, IntKind.bits, IntKind.signed]; simp; omega

theorem wrap_u16_mod (n : Int) : IntKind.u16.wrap ((n % 2 ^ (8 * 2)).toNat : Int) = IntKind.u16.wrap n := by
  simp only [IntKind.wrap, IntKind.bits, IntKind.signed]; simp; omega

theorem wrap_i16_small (n : Nat) (h : n ≤ 32767) : IntKind.i16.wrap (n : Int) = n := by
  simp only [IntKind.wrap, IntKind.bits, IntKind.signed]; simp; omega

theorem wrap_i32_small (n : Nat) (h : n ≤ 32767) : IntKind.i32.wrap (n : Int) = n := by
  simp only [IntKind.wrap, IntKind.bits, IntKind.signed]; simp; omega

/-- Does a function of the reader read what is written of such a kind? -/
def pkFor (kind : Int) (may fl : Bool) : PK → Bool
  | .num N k => !may && ((decide (kind = 1) && decide (N = 1) && decide (k = .i8)) || (decide (kind = 2) && decide (N = 2) && decide (k = .i16)) || (decide (kind = 3) && decide (N = 4) && decide (k = .i32)) || (decide (kind = 4) && decide (N = 8) && decide (k = .i64)) || (decide (kind = 5) && decide (N = 2) && decide (k = .u16)))
  | .bool => !may && decide (kind = 0)
  | .str => decide (kind = 8) && !may && !fl
  | .cstr => decide (kind = 8) && !may && fl
  | .nstr => decide (kind = 8) && may && !fl
  | .cnstr => decide (kind = 8) && may && fl
  | .bytes => decide (kind = 9) && !may && !fl
  | .cbytes => decide (kind = 9) && !may && fl
  | .nbytes => decide (kind = 9) && !fl
  | .cnbytes => decide (kind = 9) && fl
  | .uuid => !may && decide (kind = 7)
  | .tags => false

/-- What is read then. -/
def valOf (null : Bool) (t : PT) : PK → FV
  | .num _ k => .one (.int k (k.wrap t.n))
  | .bool => .one (.bool (t.n % 2 != 0))
  | .str => .text (pWhole t.s)
  | .cstr => .text (pWhole t.s)
  | .nstr => .ntext (if null then none else some (pWhole t.s))
  | .cnstr => .ntext (if null then none else some (pWhole t.s))
  | .bytes => .octs false (pWhole t.s)
  | .cbytes => .octs false (pWhole t.s)
  | .nbytes => .octs null (if null then [] else pWhole t.s)
  | .cnbytes => .octs null (if null then [] else pWhole t.s)
  | .uuid => .uuid (pId t.s)
  | .tags => .tags []

theorem pId_length (s : List UInt8) : (pId s).length = 16 := by unfold pId; rw [List.length_take, List.length_append, List.length_replicate]; omega

theorem PK.reads {kind : Int} {may fl : Bool} {pk : PK} (h : pkFor kind may fl pk = true) (t : PT) {null : Bool} (hn : null = true → may = true) (pp : PT → List UInt8) (rest : List UInt8) :
    pk.run ⟨pValue pp kind null fl t ++ rest, false, false⟩ = (valOf null t pk, ⟨rest, false, false⟩) := by
  have hwl := pWhole_length t.s
  cases pk with
  | num N k =>
    simp only [pkFor, Bool.and_eq_true, Bool.or_eq_true, decide_eq_true_eq] at h
    rcases h.2 with (((⟨⟨rfl, rfl⟩, rfl⟩ | ⟨⟨rfl, rfl⟩, rfl⟩) | ⟨⟨rfl, rfl⟩, rfl⟩) | ⟨⟨rfl, rfl⟩, rfl⟩) | ⟨⟨rfl, rfl⟩, rfl⟩
    · have e : pValue pp 1 null fl t = pFixed t.n 1 := rfl
      simp only [PK.run, e, rFix_fixed, wrap_i8_mod, valOf]
    · have e : pValue pp 2 null fl t = pFixed t.n 2 := rfl
      simp only [PK.run, e, rFix_fixed, wrap_i16_mod, valOf]
    · have e : pValue pp 3 null fl t = pFixed t.n 4 := rfl
      simp only [PK.run, e, rFix_fixed, wrap_i32_mod, valOf]
    · have e : pValue pp 4 null fl t = pFixed t.n 8 := rfl
      simp only [PK.run, e, rFix_fixed, wrap_i64_mod, valOf]
    · have e : pValue pp 5 null fl t = pFixed t.n 2 := rfl
      simp only [PK.run, e, rFix_fixed, wrap_u16_mod, valOf]
  | bool =>
    simp only [pkFor, Bool.and_eq_true, decide_eq_true_eq] at h
    obtain ⟨_, rfl⟩ := h
    have e : pValue pp 0 null fl t = [UInt8.ofNat (t.n % 2).toNat] := rfl
    have e2 : (UInt8.ofNat (t.n % 2).toNat).toNat = (t.n % 2).toNat := by rw [UInt8.toNat_ofNat']; omega
    simp only [PK.run, rBool, e, rFix, List.singleton_append, List.length_cons, if_neg (show ¬ rest.length + 1 < 1 by omega), List.take_succ_cons, List.take_zero, Lib.beNat, Lib.beFrom, e2, List.drop_succ_cons, List.drop_zero, valOf]
    congr 3
    have : t.n % 2 = 0 ∨ t.n % 2 = 1 := by omega
    rcases this with h | h <;> simp [h]
  | str =>
    simp only [pkFor, Bool.and_eq_true, decide_eq_true_eq, Bool.not_eq_true'] at h
    obtain ⟨⟨rfl, rfl⟩, rfl⟩ := h
    have hnf : null = false := by cases null <;> simp_all
    subst hnf
    have e : pValue pp 8 false false t = pFixed (pWhole t.s).length 2 ++ pWhole t.s := rfl
    have e2 : rStr ⟨pFixed (pWhole t.s).length 2 ++ pWhole t.s ++ rest, false, false⟩ = (pWhole t.s, ⟨rest, false, false⟩) := by
      unfold rStr
      rw [List.append_assoc, rFix_fixed]
      simp only [wrap_i16_mod, wrap_i16_small _ hwl, rSpan_left _ _ _ _ rfl]
    simp only [PK.run, e, e2, valOf]
  | cstr =>
    simp only [pkFor, Bool.and_eq_true, decide_eq_true_eq, Bool.not_eq_true'] at h
    obtain ⟨⟨rfl, rfl⟩, rfl⟩ := h
    have hnf : null = false := by cases null <;> simp_all
    subst hnf
    have e : pValue pp 8 false true t = pUv ((pWhole t.s).length + 1) ++ pWhole t.s := rfl
    have e2 : rCStr ⟨pUv ((pWhole t.s).length + 1) ++ pWhole t.s ++ rest, false, false⟩ = (pWhole t.s, ⟨rest, false, false⟩) := by
      unfold rCStr
      rw [List.append_assoc, rUv_pUv _ (by omega)]
      simp only [rSpan_left (pWhole t.s) rest false _ (show (((pWhole t.s).length + 1 : Nat) : Int) - 1 = (pWhole t.s).length by omega)]
    simp only [PK.run, e, e2, valOf]
  | nstr =>
    simp only [pkFor, Bool.and_eq_true, decide_eq_true_eq, Bool.not_eq_true'] at h
    obtain ⟨⟨rfl, rfl⟩, rfl⟩ := h
    cases null with
    | false =>
      have e : pValue pp 8 false false t = pFixed (pWhole t.s).length 2 ++ pWhole t.s := rfl
      have e2 : rNStr ⟨pFixed (pWhole t.s).length 2 ++ pWhole t.s ++ rest, false, false⟩ = (some (pWhole t.s), ⟨rest, false, false⟩) := by
        unfold rNStr
        rw [List.append_assoc, rFix_fixed]
        simp only [wrap_i16_mod, wrap_i16_small _ hwl, rSpan_left _ _ _ _ rfl]
        rw [if_neg (by omega)]
      simp only [PK.run, e, e2, valOf, Bool.false_eq_true, if_false]
    | true =>
      have e : pValue pp 8 true false t = pFixed (-1) 2 := rfl
      have e2 : rNStr ⟨pFixed (-1) 2 ++ rest, false, false⟩ = (none, ⟨rest, false, false⟩) := by
        unfold rNStr
        rw [rFix_fixed]
        simp only [wrap_i16_mod]
        rw [if_pos (by decide)]
      simp only [PK.run, e, e2, valOf, if_true]
  | cnstr =>
    simp only [pkFor, Bool.and_eq_true, decide_eq_true_eq] at h
    obtain ⟨⟨rfl, rfl⟩, rfl⟩ := h
    cases null with
    | false =>
      have e : pValue pp 8 false true t = pUv ((pWhole t.s).length + 1) ++ pWhole t.s := rfl
      have e2 : rCNStr ⟨pUv ((pWhole t.s).length + 1) ++ pWhole t.s ++ rest, false, false⟩ = (some (pWhole t.s), ⟨rest, false, false⟩) := by
        unfold rCNStr
        rw [List.append_assoc, rUv_pUv _ (by omega)]
        simp only [rSpan_left (pWhole t.s) rest false _ (show (((pWhole t.s).length + 1 : Nat) : Int) - 1 = (pWhole t.s).length by omega)]
        rw [if_neg (by omega)]
      simp only [PK.run, e, e2, valOf, Bool.false_eq_true, if_false]
    | true =>
      have e : pValue pp 8 true true t = pUv 0 := rfl
      have e2 : rCNStr ⟨pUv 0 ++ rest, false, false⟩ = (none, ⟨rest, false, false⟩) := by
        unfold rCNStr
        rw [rUv_pUv _ (by omega)]
        simp only
        rw [if_pos (by decide)]
      simp only [PK.run, e, e2, valOf, if_true]
  | bytes =>
    simp only [pkFor, Bool.and_eq_true, decide_eq_true_eq, Bool.not_eq_true'] at h
    obtain ⟨⟨rfl, rfl⟩, rfl⟩ := h
    have hnf : null = false := by cases null <;> simp_all
    subst hnf
    have e : pValue pp 9 false false t = pFixed (pWhole t.s).length 4 ++ pWhole t.s := rfl
    have e2 : rBytes ⟨pFixed (pWhole t.s).length 4 ++ pWhole t.s ++ rest, false, false⟩ = ((pWhole t.s, false), ⟨rest, false, false⟩) := by
      unfold rBytes
      rw [List.append_assoc, rFix_fixed]
      simp only [wrap_i32_mod, wrap_i32_small _ hwl, rSpan_left _ _ _ _ rfl]
      rw [if_neg (by omega)]
    simp only [PK.run, e, e2, valOf]
  | cbytes =>
    simp only [pkFor, Bool.and_eq_true, decide_eq_true_eq, Bool.not_eq_true'] at h
    obtain ⟨⟨rfl, rfl⟩, rfl⟩ := h
    have hnf : null = false := by cases null <;> simp_all
    subst hnf
    have e : pValue pp 9 false true t = pUv ((pWhole t.s).length + 1) ++ pWhole t.s := rfl
    have e2 : rCBytes ⟨pUv ((pWhole t.s).length + 1) ++ pWhole t.s ++ rest, false, false⟩ = ((pWhole t.s, false), ⟨rest, false, false⟩) := by
      unfold rCBytes
      rw [List.append_assoc, rUv_pUv _ (by omega)]
      simp only [rSpan_left (pWhole t.s) rest false _ (show (((pWhole t.s).length + 1 : Nat) : Int) - 1 = (pWhole t.s).length by omega)]
      rw [if_neg (by omega)]
    simp only [PK.run, e, e2, valOf]
  | nbytes =>
    simp only [pkFor, Bool.and_eq_true, decide_eq_true_eq, Bool.not_eq_true'] at h
    obtain ⟨rfl, rfl⟩ := h
    cases null with
    | false =>
      have e : pValue pp 9 false false t = pFixed (pWhole t.s).length 4 ++ pWhole t.s := rfl
      have e2 : rNBytes ⟨pFixed (pWhole t.s).length 4 ++ pWhole t.s ++ rest, false, false⟩ = ((pWhole t.s, false), ⟨rest, false, false⟩) := by
        unfold rNBytes
        rw [List.append_assoc, rFix_fixed]
        simp only [wrap_i32_mod, wrap_i32_small _ hwl, rSpan_left _ _ _ _ rfl]
        rw [if_neg (by omega)]
      simp only [PK.run, e, e2, valOf, Bool.false_eq_true, if_false]
    | true =>
      have e : pValue pp 9 true false t = pFixed (-1) 4 := rfl
      have e2 : rNBytes ⟨pFixed (-1) 4 ++ rest, false, false⟩ = (([], true), ⟨rest, false, false⟩) := by
        unfold rNBytes
        rw [rFix_fixed]
        simp only [wrap_i32_mod]
        rw [if_pos (by decide)]
      simp only [PK.run, e, e2, valOf, if_true]
  | cnbytes =>
    simp only [pkFor, Bool.and_eq_true, decide_eq_true_eq] at h
    obtain ⟨rfl, rfl⟩ := h
    cases null with
    | false =>
      have e : pValue pp 9 false true t = pUv ((pWhole t.s).length + 1) ++ pWhole t.s := rfl
      have e2 : rCNBytes ⟨pUv ((pWhole t.s).length + 1) ++ pWhole t.s ++ rest, false, false⟩ = ((pWhole t.s, false), ⟨rest, false, false⟩) := by
        unfold rCNBytes
        rw [List.append_assoc, rUv_pUv _ (by omega)]
        simp only [rSpan_left (pWhole t.s) rest false _ (show (((pWhole t.s).length + 1 : Nat) : Int) - 1 = (pWhole t.s).length by omega)]
        rw [if_neg (by omega)]
      simp only [PK.run, e, e2, valOf, Bool.false_eq_true, if_false]
    | true =>
      have e : pValue pp 9 true true t = pUv 0 := rfl
      have e2 : rCNBytes ⟨pUv 0 ++ rest, false, false⟩ = (([], true), ⟨rest, false, false⟩) := by
        unfold rCNBytes
        rw [rUv_pUv _ (by omega)]
        simp only
        rw [if_pos (by decide)]
      simp only [PK.run, e, e2, valOf, if_true]
  | uuid =>
    simp only [pkFor, Bool.and_eq_true, decide_eq_true_eq] at h
    obtain ⟨_, rfl⟩ := h
    have hl := pId_length t.s
    have e : pValue pp 7 null fl t = pId t.s := rfl
    simp only [PK.run, e, rUuid, rSpan_left (pId t.s) rest false 16 (by rw [hl]; rfl), valOf, padTo, hl]
    simp [List.take_of_length_le (Nat.le_of_eq hl)]
  | tags => cases h

/-- It is told so. -/
theorem PK.tells {kind : Int} {may fl : Bool} {pk : PK} (h : pkFor kind may fl pk = true) {t : PT} (hok : IntKind.i64.wrap t.n = t.n) {null : Bool} (hn : null = true → may = true) (tt : PT → PT → Bool) :
    (tellPrim (valOf null t pk)).null = null ∧ (null = false → pToldV tt kind t (tellPrim (valOf null t pk)) = true) := by
  cases pk with
  | num N k =>
    simp only [pkFor, Bool.and_eq_true, Bool.or_eq_true, decide_eq_true_eq, Bool.not_eq_true'] at h
    have hnf : null = false := by cases null <;> simp_all
    subst hnf
    rcases h.2 with (((⟨⟨rfl, rfl⟩, rfl⟩ | ⟨⟨rfl, rfl⟩, rfl⟩) | ⟨⟨rfl, rfl⟩, rfl⟩) | ⟨⟨rfl, rfl⟩, rfl⟩) | ⟨⟨rfl, rfl⟩, rfl⟩ <;> refine ⟨rfl, fun _ => ?_⟩ <;> simp [valOf, tellPrim, pToldV, PT.n, pNumber]
    exact hok
  | bool =>
    simp only [pkFor, Bool.and_eq_true, decide_eq_true_eq, Bool.not_eq_true'] at h
    obtain ⟨rfl, rfl⟩ := h
    have hnf : null = false := by cases null <;> simp_all
    subst hnf
    refine ⟨rfl, fun _ => ?_⟩
    have : t.n % 2 = 0 ∨ t.n % 2 = 1 := by omega
    have e : pToldV tt 0 t (tellPrim (valOf false t .bool)) = decide ((if (t.n % 2 != 0) = true then (1 : Int) else 0) = t.n % 2) := rfl
    rw [e]
    rcases this with h | h <;> simp [h]
  | str =>
    simp only [pkFor, Bool.and_eq_true, decide_eq_true_eq, Bool.not_eq_true'] at h
    obtain ⟨⟨rfl, rfl⟩, rfl⟩ := h
    have hnf : null = false := by cases null <;> simp_all
    subst hnf
    exact ⟨rfl, fun _ => by simp [valOf, tellPrim, pToldV, PT.s]⟩
  | cstr =>
    simp only [pkFor, Bool.and_eq_true, decide_eq_true_eq, Bool.not_eq_true'] at h
    obtain ⟨⟨rfl, rfl⟩, rfl⟩ := h
    have hnf : null = false := by cases null <;> simp_all
    subst hnf
    exact ⟨rfl, fun _ => by simp [valOf, tellPrim, pToldV, PT.s]⟩
  | nstr =>
    simp only [pkFor, Bool.and_eq_true, decide_eq_true_eq, Bool.not_eq_true'] at h
    obtain ⟨⟨rfl, rfl⟩, rfl⟩ := h
    cases null
    · exact ⟨rfl, fun _ => by simp [valOf, tellPrim, pToldV, PT.s]⟩
    · exact ⟨rfl, fun h => by cases h⟩
  | cnstr =>
    simp only [pkFor, Bool.and_eq_true, decide_eq_true_eq] at h
    obtain ⟨⟨rfl, rfl⟩, rfl⟩ := h
    cases null
    · exact ⟨rfl, fun _ => by simp [valOf, tellPrim, pToldV, PT.s]⟩
    · exact ⟨rfl, fun h => by cases h⟩
  | bytes =>
    simp only [pkFor, Bool.and_eq_true, decide_eq_true_eq, Bool.not_eq_true'] at h
    obtain ⟨⟨rfl, rfl⟩, rfl⟩ := h
    have hnf : null = false := by cases null <;> simp_all
    subst hnf
    exact ⟨rfl, fun _ => by simp [valOf, tellPrim, pToldV, PT.s]⟩
  | cbytes =>
    simp only [pkFor, Bool.and_eq_true, decide_eq_true_eq, Bool.not_eq_true'] at h
    obtain ⟨⟨rfl, rfl⟩, rfl⟩ := h
    have hnf : null = false := by cases null <;> simp_all
    subst hnf
    exact ⟨rfl, fun _ => by simp [valOf, tellPrim, pToldV, PT.s]⟩
  | nbytes =>
    simp only [pkFor, Bool.and_eq_true, decide_eq_true_eq, Bool.not_eq_true'] at h
    obtain ⟨rfl, rfl⟩ := h
    refine ⟨rfl, fun h => ?_⟩
    subst h
    simp [valOf, tellPrim, pToldV, PT.s]
  | cnbytes =>
    simp only [pkFor, Bool.and_eq_true, decide_eq_true_eq] at h
    obtain ⟨rfl, rfl⟩ := h
    refine ⟨rfl, fun h => ?_⟩
    subst h
    simp [valOf, tellPrim, pToldV, PT.s]
  | uuid =>
    simp only [pkFor, Bool.and_eq_true, decide_eq_true_eq, Bool.not_eq_true'] at h
    obtain ⟨rfl, rfl⟩ := h
    have hnf : null = false := by cases null <;> simp_all
    subst hnf
    exact ⟨rfl, fun _ => by simp [valOf, tellPrim, pToldV, PT.s]⟩
  | tags => cases h

/-- Does a list's length so read be that which is written? -/
def lkFor (may fl : Bool) : LenK → Bool
  | .len => !may && !fl
  | .clen => !may && fl
  | .nlen => may && !fl
  | .nclen => may && fl

theorem LenK.reads {may fl : Bool} {lk : LenK} (h : lkFor may fl lk = true) {null : Bool} (hn : null = true → may = true) {n : Nat} (hnl : n ≤ 32767) (h0 : null = true → n = 0) {rest : List UInt8} (hr : n ≤ rest.length) :
    ∃ m : Int, lk.run ⟨pCounted fl null n 4 ++ rest, false, false⟩ = (m, ⟨rest, false, false⟩) ∧ m.toNat = n ∧ (may = true → lk.nilAt m = null) := by
  have k1 : ∀ m : Int, IntKind.i32.wrap ((m % 2 ^ (8 * 4)).toNat : Int) = IntKind.i32.wrap m := wrap_i32_mod
  have pos : null = false → fl = false → rLen ⟨pCounted fl null n 4 ++ rest, false, false⟩ = ((n : Int), ⟨rest, false, false⟩) := by
    rintro rfl rfl
    have e : pCounted false false n 4 = pFixed n 4 := rfl
    unfold rLen
    rw [e, rFix_fixed]
    simp only [k1, wrap_i32_small n hnl]
    rw [if_neg (by omega)]
  have neg : null = true → fl = false → rLen ⟨pCounted fl null n 4 ++ rest, false, false⟩ = (-1, ⟨rest, false, false⟩) := by
    rintro rfl rfl
    have e : pCounted false true n 4 = pFixed (-1) 4 := rfl
    have e2 : IntKind.i32.wrap (-1) = -1 := by decide
    unfold rLen
    rw [e, rFix_fixed]
    simp only [k1, e2]
    rw [if_neg (by omega)]
  have w2 : IntKind.i32.wrap (IntKind.i32.wrap ((n + 1 : Nat) : Int) - 1) = n := by
    simp only [IntKind.wrap, IntKind.bits, IntKind.signed]; simp; omega
  have cpos : null = false → fl = true → rCLen ⟨pCounted fl null n 4 ++ rest, false, false⟩ = ((n : Int), ⟨rest, false, false⟩) := by
    rintro rfl rfl
    have e : pCounted true false n 4 = pUv (n + 1) := rfl
    unfold rCLen
    rw [e, rUv_pUv _ (by omega)]
    simp only [w2]
    rw [if_neg (by omega)]
  have cneg : null = true → fl = true → rCLen ⟨pCounted fl null n 4 ++ rest, false, false⟩ = (-1, ⟨rest, false, false⟩) := by
    rintro rfl rfl
    have e : pCounted true true n 4 = pUv 0 := rfl
    have e2 : IntKind.i32.wrap (IntKind.i32.wrap ((0 : Nat) : Int) - 1) = -1 := by decide
    unfold rCLen
    rw [e, rUv_pUv _ (by omega)]
    simp only [e2]
    rw [if_neg (by omega)]
  cases lk with
  | len =>
    simp only [lkFor, Bool.and_eq_true, Bool.not_eq_true'] at h
    have hnf : null = false := by cases null <;> simp_all
    exact ⟨n, pos hnf h.2, by simp, fun hm => by rw [h.1] at hm; cases hm⟩
  | clen =>
    simp only [lkFor, Bool.and_eq_true, Bool.not_eq_true'] at h
    have hnf : null = false := by cases null <;> simp_all
    exact ⟨n, cpos hnf h.2, by simp, fun hm => by rw [h.1] at hm; cases hm⟩
  | nlen =>
    simp only [lkFor, Bool.and_eq_true, Bool.not_eq_true'] at h
    cases null with
    | false => exact ⟨n, pos rfl h.2, by simp, fun _ => by simp [LenK.nilAt, LenK.nul]⟩
    | true => exact ⟨-1, neg rfl h.2, by rw [h0 rfl]; rfl, fun _ => by simp [LenK.nilAt, LenK.nul]⟩
  | nclen =>
    simp only [lkFor, Bool.and_eq_true] at h
    cases null with
    | false => exact ⟨n, cpos rfl h.2, by simp, fun _ => by simp [LenK.nilAt, LenK.nul]⟩
    | true => exact ⟨-1, cneg rfl h.2, by rw [h0 rfl]; rfl, fun _ => by simp [LenK.nilAt, LenK.nul]⟩

end Go.Kf

namespace Go.Kf

open Go

def wholeTags (u : TM) : TM := u.map fun q => (q.1, pWhole q.2)

/-- This is what a value of a kind is. -/
def RepV (kind : Int) (may null : Bool) (t : PT) : FV → Prop
  | .one (.int k x) => x = k.wrap t.n ∧ ((kind = 1 ∧ k = .i8) ∨ (kind = 2 ∧ k = .i16) ∨ (kind = 3 ∧ k = .i32) ∨ (kind = 4 ∧ k = .i64) ∨ (kind = 5 ∧ k = .u16))
  | .one (.bool b) => kind = 0 ∧ b = (t.n % 2 != 0)
  | .text l => kind = 8 ∧ null = false ∧ l = pWhole t.s
  | .ntext o => kind = 8 ∧ o = if null then none else some (pWhole t.s)
  | .octs nl l => kind = 9 ∧ (may = true → nl = null) ∧ l = if null then [] else pWhole t.s
  | .uuid l => kind = 7 ∧ l = pId t.s
  | _ => False

mutual
def RepF (v : Int) (fl : Bool) : PF → PT → FV → Prop
  | .mk k fr to nul g d e sub, t, x => match x with
    | .list nl rows => k = 11 ∧ ((decide (0 ≤ nul) && decide (nul ≤ v)) = true → nl = pNull (.mk k fr to nul g d e sub) v t) ∧ rows.length = (if pNull (.mk k fr to nul g d e sub) v t then [] else pThings t.l).length ∧
      ∀ (j : Nat) (y : PT) (r : List FV), (if pNull (.mk k fr to nul g d e sub) v t then [] else pThings t.l)[j]? = some y → rows[j]? = some r → (e = 10 → RepFs v fl sub y r 0 0 ∧ (fl = true → r[sub.length]? = some (.tags (wholeTags (pUnknown sub y.u))))) ∧ (e ≠ 10 → ∃ z, r = [z] ∧ RepV e false false y z)
    | .sub gs => k = 10 ∧ nul < 0 ∧ RepFs v fl sub t gs 0 0 ∧ (fl = true → gs[sub.length]? = some (.tags (wholeTags (pUnknown sub t.u))))
    | x => RepV k (decide (0 ≤ nul) && decide (nul ≤ v)) (pNull (.mk k fr to nul g d e sub) v t) t x
def RepFs (v : Int) (fl : Bool) : List PF → PT → List FV → Nat → Nat → Prop
  | [], _, _, _, _ => True
  | f :: r, t, gs, i, p => (pHas f v = true → ∃ x, gs[p]? = some x ∧ RepF v fl f (pAt t i) x) ∧ RepFs v fl r t gs (i + 1) (p + 1)
end

/-- A whole part's values. -/
def RepPart (v : Int) (fl : Bool) (fs : List PF) (t : PT) (gs : List FV) (p : Nat) : Prop := RepFs v fl fs t gs 0 p ∧ (fl = true → gs[p + fs.length]? = some (.tags (wholeTags (pUnknown fs t.u))))

theorem RepFs.congr {v : Int} {fl : Bool} {gs gs' : List FV} : ∀ {fs : List PF} {t : PT} {i p : Nat}, (∀ q, p ≤ q → q < p + fs.length → gs'[q]? = gs[q]?) → RepFs v fl fs t gs i p → RepFs v fl fs t gs' i p
  | [], _, _, _, _, _ => trivial
  | f :: r, t, i, p, h, h2 => by
    simp only [RepFs] at h2 ⊢
    refine ⟨fun hh => ?_, RepFs.congr (fun q h3 h4 => h q (by omega) (by simp only [List.length_cons]; omega)) h2.2⟩
    rw [h p (Nat.le_refl _) (by simp only [List.length_cons]; omega)]
    exact h2.1 hh

theorem PK.rep {kind : Int} {may fl : Bool} {pk : PK} (h : pkFor kind may fl pk = true) (t : PT) {null : Bool} (hn : null = true → may = true) : RepV kind may null t (valOf null t pk) := by
  cases pk with
  | num N k =>
    simp only [pkFor, Bool.and_eq_true, Bool.or_eq_true, decide_eq_true_eq] at h
    refine ⟨rfl, ?_⟩
    rcases h.2 with (((⟨⟨rfl, rfl⟩, rfl⟩ | ⟨⟨rfl, rfl⟩, rfl⟩) | ⟨⟨rfl, rfl⟩, rfl⟩) | ⟨⟨rfl, rfl⟩, rfl⟩) | ⟨⟨rfl, rfl⟩, rfl⟩ <;> simp
  | bool =>
    simp only [pkFor, Bool.and_eq_true, decide_eq_true_eq] at h
    exact ⟨h.2, rfl⟩
  | str =>
    simp only [pkFor, Bool.and_eq_true, decide_eq_true_eq, Bool.not_eq_true'] at h
    exact ⟨h.1.1, by cases null <;> simp_all, rfl⟩
  | cstr =>
    simp only [pkFor, Bool.and_eq_true, decide_eq_true_eq, Bool.not_eq_true'] at h
    exact ⟨h.1.1, by cases null <;> simp_all, rfl⟩
  | nstr =>
    simp only [pkFor, Bool.and_eq_true, decide_eq_true_eq, Bool.not_eq_true'] at h
    exact ⟨h.1.1, rfl⟩
  | cnstr =>
    simp only [pkFor, Bool.and_eq_true, decide_eq_true_eq] at h
    exact ⟨h.1.1, rfl⟩
  | bytes =>
    simp only [pkFor, Bool.and_eq_true, decide_eq_true_eq, Bool.not_eq_true'] at h
    have hnf : null = false := by cases null <;> simp_all
    subst hnf
    exact ⟨h.1.1, fun _ => rfl, rfl⟩
  | cbytes =>
    simp only [pkFor, Bool.and_eq_true, decide_eq_true_eq, Bool.not_eq_true'] at h
    have hnf : null = false := by cases null <;> simp_all
    subst hnf
    exact ⟨h.1.1, fun _ => rfl, rfl⟩
  | nbytes =>
    simp only [pkFor, Bool.and_eq_true, decide_eq_true_eq, Bool.not_eq_true'] at h
    exact ⟨h.1, fun _ => rfl, rfl⟩
  | cnbytes =>
    simp only [pkFor, Bool.and_eq_true, decide_eq_true_eq] at h
    exact ⟨h.1, fun _ => rfl, rfl⟩
  | uuid =>
    simp only [pkFor, Bool.and_eq_true, decide_eq_true_eq] at h
    exact ⟨h.2, rfl⟩
  | tags => cases h

theorem RepF.one {v : Int} {fl : Bool} {f : PF} {t : PT} {pk : PK} (h : RepV f.kind (decide (0 ≤ f.nul) && decide (f.nul ≤ v)) (pNull f v t) t (valOf (pNull f v t) t pk)) : RepF v fl f t (valOf (pNull f v t) t pk) := by
  cases f
  cases pk <;> exact h

end Go.Kf

namespace Go.Kf

open Go

/-- How a field is told. -/
inductive TD where
  | prim (i : Nat)
  | lprim (i : Nat)
  | lsub (i : Nat) (ds : List TD) (tg : Option Nat)
  | part (i : Nat) (ds : List TD) (tg : Option Nat)

def TD.idx : TD → Nat
  | .prim i => i
  | .lprim i => i
  | .lsub i _ _ => i
  | .part i _ _ => i

def tagsIn (tg : Option Nat) (fs : List FV) : TM := match tg with
  | some k => tellTags (fvGet fs k)
  | none => []

mutual
def TD.run : TD → List FV → PT
  | .prim i, fs => tellPrim (fvGet fs i)
  | .lprim i, fs => tellList (fun r => tellPrim (fvGet r 0)) (fvGet fs i)
  | .lsub i ds tg, fs => tellList (fun r => .mk 0 [] false (TD.runs ds r) (tagsIn tg r)) (fvGet fs i)
  | .part i ds tg, fs => tellPart (fun r => .mk 0 [] false (TD.runs ds r) (tagsIn tg r)) (fvGet fs i)
def TD.runs : List TD → List FV → List PT
  | [], _ => []
  | d :: ds, fs => d.run fs :: TD.runs ds fs
end

def tdGp (ds : List TD) (tg : Option Nat) (fs : List FV) : PT := .mk 0 [] false (TD.runs ds fs) (tagsIn tg fs)

theorem TD.runs_length (fs : List FV) : ∀ ds : List TD, (TD.runs ds fs).length = ds.length
  | [] => rfl
  | d :: ds => by rw [TD.runs, List.length_cons, TD.runs_length fs ds, List.length_cons]

theorem TD.runs_get (fs : List FV) : ∀ (ds : List TD) (j : Nat) (h : j < ds.length) (h2 : j < (TD.runs ds fs).length), (TD.runs ds fs)[j] = ds[j].run fs
  | d :: ds, 0, _, _ => rfl
  | d :: ds, j + 1, h, h2 => TD.runs_get fs ds j (by simpa using h) _

theorem fvGet_congr {fs fs' : List FV} {i : Nat} (h : fs[i]? = fs'[i]?) : fvGet fs i = fvGet fs' i := by
  unfold fvGet
  rw [List.getD_eq_getElem?_getD, List.getD_eq_getElem?_getD, h]

theorem TD.run_congr {d : TD} {fs fs' : List FV} (h : fs[d.idx]? = fs'[d.idx]?) : d.run fs = d.run fs' := by
  cases d <;> simp only [TD.idx] at h <;> simp only [TD.run, fvGet_congr h]

/-- Something is written of each such part. -/
def pPos (sub : List PF) (v : Int) (fl : Bool) : Bool := fl || sub.any fun f => decide (f.tag < 0) && pHas f v && !(decide (f.kind = 10) && decide (f.nul < 0))

def PK.plainText : PK → Bool
  | .str => true
  | .cstr => true
  | _ => false

def rtEnd (fl : Bool) (ss : List Step) (tg : Option Nat) (p : Nat) (dflt : List FV) : Bool := match fl with
  | true => match ss, tg with
    | [.call .tags _ k _ _], some k' => Nat.beq k k' && Nat.beq p k && Nat.blt k dflt.length
    | _, _ => false
  | false => ss.isEmpty && match tg with
    | none => true
    | some k => Nat.ble p k && match dflt[k]? with
      | some (.tags []) => true
      | _ => false

/-- A ghost ahead is left out. -/
def dropG : List Step → List Step
  | .ghost :: ss => ss
  | ss => ss

theorem runSteps_dropG (ss : List Step) (fs : List FV) (r : Rd) : runSteps (dropG ss) fs r = runSteps ss fs r := by
  unfold dropG
  split
  · simp only [runSteps, runStep]
  · rfl

mutual
/-- Is this step that which reads what is written of a field, and is it told by this? d0: what is there ahead. -/
def rtField (v : Int) (fl : Bool) : PF → Step → TD → FV → Bool
  | .mk k _ _ nul _ _ e sub, s, td, d0 => match s, td with
    | .call pk _ _ _ _, .prim _ => pkFor k (decide (0 ≤ nul) && decide (nul ≤ v)) fl pk
    | .uuid _ _ _, .prim _ => pkFor k (decide (0 ≤ nul) && decide (nul ≤ v)) fl .uuid
    | .strP pk _ _ _ _, .prim _ => pkFor k (decide (0 ≤ nul) && decide (nul ≤ v)) fl pk && pk.plainText
    | .listP lk _ _ _ _ pk _ _, .lprim _ => decide (k = 11) && lkFor (decide (0 ≤ nul) && decide (nul ≤ v)) fl lk && pkFor e false fl pk
    | .listS lk _ _ _ _ _ _ _ dflt ss, .lsub _ ds tg => decide (k = 11) && decide (e = 10) && lkFor (decide (0 ≤ nul) && decide (nul ≤ v)) fl lk && pPos sub v fl && rtPlain v fl sub (dropG ss) ds dflt 0 tg
    | .sub _ _ _ _ dss _ ss, .part _ ds tg => decide (k = 10) && decide (nul < 0) && match d0 with
      | .sub gs => rtPlain v fl sub ss ds (applyD dss gs) 0 tg
      | _ => false
    | _, _ => false
def rtPlain (v : Int) (fl : Bool) : List PF → List Step → List TD → List FV → Nat → Option Nat → Bool
  | [], ss, ds, dflt, p, tg => ds.isEmpty && rtEnd fl ss tg p dflt
  | f :: r, ss, ds, dflt, p, tg => match ds with
    | [] => false
    | d :: ds' => Nat.beq d.idx p && match dflt[p]? with
      | none => false
      | some d0 => decide (f.tag < 0) && bif pHas f v then (match ss with
          | [] => false
          | s :: ss' => Nat.beq s.idx p && rtField v fl f s d d0 && rtPlain v fl r ss' ds' dflt (p + 1) tg)
        else pUsualGot f (d.run dflt) && rtPlain v fl r ss ds' dflt (p + 1) tg
end

/-- Unknown tags as they are written: rising, few. -/
structure TagsFine (u : TM) : Prop where
  len : u.length ≤ 32767
  key : ∀ p ∈ u, p.1 < 4294967296
  asc : u.Pairwise fun a b => a.1 < b.1

def pEndB (fl : Bool) (u : TM) : List UInt8 := if fl then pUv u.length ++ pTags u else []

def FieldRT (v : Int) (fl : Bool) (f : PF) (s : Step) (td : TD) (d0 : FV) : Prop :=
  ∀ (t : PT) (fs0 : List FV) (rest : List UInt8) (nl : Bool), t.ok → (nl = true → pField f v fl t ++ rest = []) → fs0[s.idx]? = some d0 →
    ∃ x, runStep s fs0 ⟨pField f v fl t ++ rest, false, nl⟩ = some (fs0.set s.idx x, ⟨rest, false, nl⟩) ∧ (∀ fs, fs[td.idx]? = some x → pTold1 f v fl t (td.run fs) = true) ∧ RepF v fl f t x

def PlainRT (v : Int) (fl : Bool) (fs : List PF) (ss : List Step) (ds : List TD) (dflt : List FV) (p : Nat) (tg : Option Nat) : Prop :=
  ∀ (t : PT) (i : Nat) (u : TM) (fs0 : List FV) (rest : List UInt8) (nl : Bool), t.ok → TagsFine u → (nl = true → (pPlain fs v fl t i ++ pEndB fl u) ++ rest = []) → (∀ q, p ≤ q → fs0[q]? = dflt[q]?) →
    ∃ fs1, runSteps ss fs0 ⟨(pPlain fs v fl t i ++ pEndB fl u) ++ rest, false, nl⟩ = some (fs1, ⟨rest, false, nl⟩) ∧ (∀ q, q < p → fs1[q]? = fs0[q]?) ∧ ds.length = fs.length ∧
      (∀ j (hj : j < fs.length) (hd : j < ds.length), pToldAt fs[j] v fl (pAt t (i + j)) (ds[j].run fs1) = true) ∧ tagsIn tg fs1 = (if fl then wholeTags u else []) ∧ RepFs v fl fs t fs1 i p ∧ (fl = true → fs1[p + fs.length]? = some (.tags (wholeTags u)))

theorem tmSet_new : ∀ {m : TM} {k : Nat} {l : List UInt8}, (∀ p ∈ m, p.1 ≠ k) → tmSet m k l = m ++ [(k, l)]
  | [], _, _, _ => rfl
  | p :: m, k, l, h => by
    rw [tmSet, if_neg (h p (by simp)), tmSet_new fun q hq => h q (by simp [hq])]
    rfl

theorem rTagsN_read : ∀ (u m : TM) (rest : List UInt8), (∀ p ∈ u, p.1 < 4294967296) → u.Pairwise (fun a b => a.1 < b.1) → (∀ p ∈ m, ∀ q ∈ u, p.1 ≠ q.1) →
    rTagsN u.length m ⟨pTags u ++ rest, false, false⟩ = (m ++ wholeTags u, ⟨rest, false, false⟩)
  | [], m, rest, _, _, _ => by simp [rTagsN, pTags, wholeTags]
  | q :: u, m, rest, h1, h2, h3 => by
    have hw := pWhole_length q.2
    have e : pTags (q :: u) ++ rest = pUv q.1 ++ (pUv (pWhole q.2).length ++ (pWhole q.2 ++ (pTags u ++ rest))) := by
      simp only [pTags, List.map_cons, List.flatten_cons, pTag1, List.append_assoc]
    rw [List.length_cons, rTagsN, e]
    simp only [rUv_pUv q.1 (h1 q (by simp)), rUv_pUv (pWhole q.2).length (by omega), rSpan_left (pWhole q.2) (pTags u ++ rest) false _ rfl]
    rw [tmSet_new fun p hp => h3 p hp q (by simp)]
    have h2' := List.pairwise_cons.1 h2
    rw [rTagsN_read u _ rest (fun p hp => h1 p (by simp [hp])) h2'.2 fun p hp x hx => ?_]
    · simp [wholeTags]
    · rcases List.mem_append.1 hp with hp | hp
      · exact h3 p hp x (by simp [hx])
      · simp only [List.mem_singleton] at hp
        subst hp
        exact Nat.ne_of_lt (h2'.1 x hx)

theorem rTags_read {u : TM} (h : TagsFine u) (rest : List UInt8) : rTags ⟨pUv u.length ++ pTags u ++ rest, false, false⟩ = (wholeTags u, ⟨rest, false, false⟩) := by
  have := h.len
  unfold rTags
  rw [List.append_assoc, rUv_pUv _ (by omega)]
  simp only [rTagsN_read u [] rest h.key h.asc (fun p hp => by cases hp), List.nil_append]

theorem sortTM_id {m : TM} (h : m.Pairwise fun a b => a.1 < b.1) : sortTM m = m := by
  have hn : (m.map (·.1)).Nodup := List.Pairwise.map _ (fun a b (h : a.1 < b.1) => Nat.ne_of_lt h) h
  have hs : (m.map fun p => (p.1 : Int)).Pairwise (· ≤ ·) := List.Pairwise.map _ (fun a b (h : a.1 < b.1) => by omega) h
  unfold sortTM
  rw [← sorted_eq (List.Perm.refl _) hs, List.map_map]
  apply List.ext_getElem (by simp)
  intro i h1 h2
  rw [List.getElem_map]
  simp only [Function.comp_def, Int.toNat_natCast]
  rw [tmGet_eq hn (List.getElem?_eq_getElem h2)]

theorem pPut_asc {q : Nat × List UInt8} : ∀ {m : TM}, m.Pairwise (fun a b => a.1 < b.1) → (pPut q m).Pairwise (fun a b => a.1 < b.1) ∧ ∀ p ∈ pPut q m, p = q ∨ p ∈ m
  | [], _ => by simp [pPut]
  | x :: m, h => by
    have h' := List.pairwise_cons.1 h
    obtain ⟨i1, i2⟩ := pPut_asc (q := q) h'.2
    rw [pPut]
    by_cases h1 : x.1 < q.1
    · rw [if_pos h1]
      refine ⟨List.pairwise_cons.2 ⟨fun p hp => ?_, i1⟩, fun p hp => ?_⟩
      · rcases i2 p hp with rfl | hp
        · exact h1
        · exact h'.1 p hp
      · rcases List.mem_cons.1 hp with rfl | hp
        · simp
        · exact (i2 p hp).imp id fun h => by simp [h]
    · rw [if_neg h1]
      by_cases h2 : x.1 = q.1
      · rw [if_pos h2]
        exact ⟨h, fun p hp => .inr hp⟩
      · rw [if_neg h2]
        refine ⟨List.pairwise_cons.2 ⟨fun p hp => ?_, h⟩, fun p hp => ?_⟩
        · rcases List.mem_cons.1 hp with rfl | hp
          · omega
          · have := h'.1 p hp
            omega
        · rcases List.mem_cons.1 hp with rfl | hp
          · simp
          · exact .inr hp

theorem pUnknownN_asc (least : Nat) : ∀ {u out : TM}, out.Pairwise (fun a b => a.1 < b.1) → (pUnknownN least u out).Pairwise fun a b => a.1 < b.1
  | [], _, h => h
  | q :: u, out, h => by
    rw [pUnknownN]
    refine pUnknownN_asc least ?_
    split
    · exact h
    · exact (pPut_asc h).1

theorem unknown_fine (fs : List PF) {t : PT} (h : t.ok) : TagsFine (pUnknown fs t.u) :=
  ⟨pUnknown_length fs t.u, fun p hp => h.u p (pUnknown_mem hp), pUnknownN_asc _ List.Pairwise.nil⟩

theorem pCounted_pos (fl nu : Bool) (n m : Nat) (hm : 1 ≤ m) : 1 ≤ (pCounted fl nu n m).length := by
  unfold pCounted
  split
  · split
    · simp
    · exact pUvN_pos 10 _
  · split <;> rw [pFixed_length] <;> exact hm

theorem pWidth_pos (k : Int) : 1 ≤ pWidth k := by
  unfold pWidth
  repeat' split
  all_goals omega

theorem pValue_pos {pp : PT → List UInt8} {kind : Int} {null fl : Bool} {t : PT} (h : kind ≠ 10) : 1 ≤ (pValue pp kind null fl t).length := by
  unfold pValue
  split
  · simp
  split
  · rw [pId_length]; omega
  split
  · have := pCounted_pos fl null (if null then [] else pWhole t.s).length 2 (by omega)
    simp only [List.length_append]
    omega
  split
  · have := pCounted_pos fl null (if null then [] else pWhole t.s).length 4 (by omega)
    simp only [List.length_append]
    omega
  rw [pFixed_length]
  exact pWidth_pos kind

theorem pField_pos {f : PF} {v : Int} {fl : Bool} {t : PT} (h : ¬ (f.kind = 10 ∧ f.nul < 0)) : 1 ≤ (pField f v fl t).length := by
  rw [pField_eq]
  unfold pFieldOf
  simp only
  split
  · have := pCounted_pos fl (pNull f v t) (if pNull f v t then [] else pThings t.l).length 4 (by omega)
    simp only [List.length_append]
    omega
  split
  · split
    · rw [pFixed_length]; omega
    · rw [List.length_append, pFixed_length]; omega
  · rename_i h1 h2
    exact pValue_pos fun hk => by
      by_cases hn : 0 ≤ f.nul
      · exact h2 ⟨hk, hn⟩
      · exact h ⟨hk, by omega⟩

theorem pPlain_pos {v : Int} {fl : Bool} {t : PT} : ∀ {fs : List PF} {i : Nat}, (fs.any fun f => decide (f.tag < 0) && pHas f v && !(decide (f.kind = 10) && decide (f.nul < 0))) = true → 1 ≤ (pPlain fs v fl t i).length
  | [], _, h => by cases h
  | f :: r, i, h => by
    rw [pPlain_cons, List.length_append]
    rw [List.any_cons, Bool.or_eq_true] at h
    rcases h with h | h
    · simp only [Bool.and_eq_true, Bool.not_eq_true', Bool.and_eq_false_iff, decide_eq_true_eq, decide_eq_false_iff_not] at h
      have hp := pField_pos (f := f) (v := v) (fl := fl) (t := pAt t i) (fun hh => h.2.elim (fun h => h hh.1) fun h => h hh.2)
      unfold pOne
      rw [if_pos (by simp [h.1.1, h.1.2])]
      omega
    · have := pPlain_pos (v := v) (fl := fl) (t := t) (i := i + 1) h
      omega

theorem pPart_pos {sub : List PF} {v : Int} {fl : Bool} {t : PT} (h : pPos sub v fl = true) : 1 ≤ (pPart sub v fl t).length := by
  unfold pPart
  rw [List.length_append]
  unfold pPos at h
  rw [Bool.or_eq_true] at h
  rcases h with rfl | h
  · unfold pEnd
    simp only [if_true, List.length_append]
    have := pUvN_pos 10 (((List.range (pKnown sub 0)).flatMap fun (k : Nat) => (pTagged sub v true t 0).filter fun p => p.1 == (k : Int)).length + (pUnknown sub t.u).length)
    unfold pUv
    omega
  · have := pPlain_pos (fl := fl) (t := t) (i := 0) h
    omega

theorem pNull_may {f : PF} {v : Int} {t : PT} (h : pNull f v t = true) : (decide (0 ≤ f.nul) && decide (f.nul ≤ v)) = true := by
  unfold pNull at h
  simp only [Bool.and_eq_true] at h ⊢
  exact ⟨h.1.2, h.2⟩

theorem pkFor_kind {kind : Int} {may fl : Bool} {pk : PK} (h : pkFor kind may fl pk = true) : kind ≠ 10 ∧ kind ≠ 11 := by
  cases pk <;> simp only [pkFor, Bool.and_eq_true, Bool.or_eq_true, decide_eq_true_eq] at h <;> first | omega | cases h

/-- A field of one value. -/
theorem rt_one {v : Int} {fl : Bool} {f : PF} {pk : PK} (hpk : pkFor f.kind (decide (0 ≤ f.nul) && decide (f.nul ≤ v)) fl pk = true) (t : PT) (rest : List UInt8) (nl : Bool) (hok : t.ok) (hnl : nl = true → pField f v fl t ++ rest = []) :
    nl = false ∧ pk.run ⟨pField f v fl t ++ rest, false, false⟩ = (valOf (pNull f v t) t pk, ⟨rest, false, false⟩) ∧ pTold1 f v fl t (tellPrim (valOf (pNull f v t) t pk)) = true := by
  obtain ⟨k10, k11⟩ := pkFor_kind hpk
  have e : pField f v fl t = pValue (fun y => pPart f.sub v fl y) f.kind (pNull f v t) fl t := by
    rw [pField_eq]
    unfold pFieldOf
    simp only
    rw [if_neg k11, if_neg (fun h => k10 h.1)]
  have hnlf : nl = false := by
    cases nl with
    | false => rfl
    | true =>
      have h1 := hnl rfl
      have h2 := pField_pos (f := f) (v := v) (fl := fl) (t := t) fun h => k10 h.1
      have h3 : (pField f v fl t ++ rest).length = 0 := by rw [h1]; rfl
      rw [List.length_append] at h3
      omega
  obtain ⟨t1, t2⟩ := PK.tells hpk hok.n (null := pNull f v t) pNull_may (fun y z => pTold f.sub v fl y z)
  refine ⟨hnlf, ?_, ?_⟩
  · rw [e]
    exact PK.reads hpk t pNull_may _ rest
  · rw [pTold1_eq, pToldOf_eq, t1]
    simp only [bne_self_eq_false, Bool.and_false, Bool.false_eq_true, if_false]
    unfold pTail
    split
    · rfl
    · rename_i hn
      exact t2 (by simpa using hn)

theorem readP_read {fl : Bool} {e : Int} {pk : PK} (hpk : pkFor e false fl pk = true) (pp : PT → List UInt8) (rest : List UInt8) : ∀ l : List PT,
    readP pk l.length ⟨(l.map fun x => pValue pp e false fl x).flatten ++ rest, false, false⟩ = (l.map fun x => [valOf false x pk], ⟨rest, false, false⟩)
  | [] => by simp [readP]
  | x :: l => by
    have h1 := PK.reads hpk x (null := false) (fun h => h) pp ((l.map fun x => pValue pp e false fl x).flatten ++ rest)
    rw [List.length_cons, readP, List.map_cons, List.flatten_cons, List.append_assoc]
    simp only [h1, readP_read hpk pp rest l, List.map_cons]

theorem flatten_len {pp : PT → List UInt8} : ∀ {l : List PT}, (∀ x ∈ l, 1 ≤ (pp x).length) → l.length ≤ (l.map pp).flatten.length
  | [], _ => by simp
  | x :: l, h => by
    have := flatten_len (pp := pp) (l := l) fun y hy => h y (by simp [hy])
    have := h x (by simp)
    rw [List.map_cons, List.flatten_cons, List.length_append, List.length_cons]
    omega

theorem pThings_length (l : List PT) : (pThings l).length ≤ 32767 := by unfold pThings; rw [List.length_take]; omega

theorem pThings_ok {t : PT} (h : t.ok) : ∀ x ∈ pThings t.l, x.ok := fun x hx => h.l x (List.mem_of_mem_take hx)

/-- What is asked of a list that is told. -/
theorem told_list_of {f : PF} {v : Int} {fl : Bool} {t : PT} {nl : Bool} {tl : List PT} (h11 : f.kind = 11) (hnl : (decide (0 ≤ f.nul) && decide (f.nul ≤ v)) = true → nl = pNull f v t)
    (hl : pNull f v t = false → tl.length = (pThings t.l).length ∧ ∀ j (h1 : j < (pThings t.l).length) (h2 : j < tl.length), (decide (f.elem = 8 ∨ f.elem = 10) && tl[j].null) = false ∧ pToldV (fun y z => pTold f.sub v fl y z) f.elem (pThings t.l)[j] tl[j] = true) : pTold1 f v fl t (.mk 0 [] nl tl []) = true := by
  rw [pTold1_eq, pToldOf_eq]
  have e : ((decide (f.kind = 8) || decide (f.kind = 10) || (decide (0 ≤ f.nul) && decide (f.nul ≤ v))) && ((PT.mk 0 [] nl tl []).null != pNull f v t)) = false := by
    rw [h11]
    cases hm : (decide (0 ≤ f.nul) && decide (f.nul ≤ v)) with
    | false => rfl
    | true => rw [show (PT.mk 0 [] nl tl []).null = nl from rfl, hnl hm]; simp
  rw [e]
  simp only [Bool.false_eq_true, if_false]
  unfold pTail
  split
  · rfl
  · rename_i hn
    obtain ⟨h1, h2⟩ := hl (by simpa using hn)
    rw [show (PT.mk 0 [] nl tl []).l = tl from rfl, Bool.and_eq_true]
    refine ⟨by simpa using h1, (pAll2_get h1.symm).2 fun j hj1 hj2 => ?_⟩
    obtain ⟨h3, h4⟩ := h2 j hj1 hj2
    rw [h3, h4]
    rfl

theorem rt_part {v : Int} {fl : Bool} {sub : List PF} {ss : List Step} {ds : List TD} {dflt : List FV} {tg : Option Nat} (hg : ∀ f ∈ sub, f.tag < 0) (h : PlainRT v fl sub ss ds dflt 0 tg) (t : PT) (rest : List UInt8) (nl : Bool) (hok : t.ok) (hnl : nl = true → pPart sub v fl t ++ rest = []) :
    ∃ fs1, runSteps ss dflt ⟨pPart sub v fl t ++ rest, false, nl⟩ = some (fs1, ⟨rest, false, nl⟩) ∧ pTold sub v fl t (tdGp ds tg fs1) = true ∧ RepPart v fl sub t fs1 0 := by
  have e : pPart sub v fl t = pPlain sub v fl t 0 ++ pEndB fl (pUnknown sub t.u) := pPart_plain hg v fl t
  rw [e] at hnl ⊢
  obtain ⟨fs1, h1, _, h3, h4, h5, h6, h7⟩ := h t 0 (pUnknown sub t.u) dflt rest nl hok (unknown_fine sub hok) hnl fun q _ => rfl
  refine ⟨fs1, h1, ?_, h6, h7⟩
  have el : (tdGp ds tg fs1).l = TD.runs ds fs1 := rfl
  have eu : (tdGp ds tg fs1).u = tagsIn tg fs1 := rfl
  unfold pTold
  rw [Bool.and_eq_true, Bool.and_eq_true, decide_eq_true_eq, el, TD.runs_length]
  refine ⟨⟨h3, pTolds_get.2 fun j hj => ?_⟩, ?_⟩
  · have hd : j < ds.length := by omega
    have e2 : pAt (tdGp ds tg fs1) (0 + j) = ds[j].run fs1 := by
      unfold pAt
      rw [el, Nat.zero_add, List.getD_eq_getElem?_getD, List.getElem?_eq_getElem (by rw [TD.runs_length]; exact hd), TD.runs_get fs1 ds j hd]
      rfl
    rw [e2]
    exact h4 j hj hd
  · unfold pToldEnd
    simp only [eu, h5]
    cases fl with
    | false => rfl
    | true =>
      simp only [if_true, Bool.and_eq_true, decide_eq_true_eq]
      have hlen : (wholeTags (pUnknown sub t.u)).length = (pUnknown sub t.u).length := by simp [wholeTags]
      refine ⟨hlen, (pTagsTold_get hlen.symm).2 fun j h1 h2 => ?_⟩
      simp [wholeTags]

theorem readS_read {v : Int} {fl : Bool} {sub : List PF} {ss : List Step} {ds : List TD} {dflt : List FV} {tg : Option Nat} (hg : ∀ f ∈ sub, f.tag < 0) (h : PlainRT v fl sub ss ds dflt 0 tg) (rest : List UInt8) : ∀ l : List PT, (∀ x ∈ l, x.ok) →
    ∃ rows, readS (fun r => runSteps ss dflt r) l.length ⟨(l.map fun x => pPart sub v fl x).flatten ++ rest, false, false⟩ = some (rows, ⟨rest, false, false⟩) ∧ rows.length = l.length ∧ ∀ j (h1 : j < l.length) (h2 : j < rows.length), (pTold sub v fl l[j] (tdGp ds tg rows[j]) = true ∧ RepPart v fl sub l[j] rows[j] 0)
  | [], _ => ⟨[], by simp [readS], rfl, fun j hj => by simp at hj⟩
  | x :: l, hl => by
    obtain ⟨rows, h1, h2, h3⟩ := readS_read hg h rest l fun y hy => hl y (by simp [hy])
    obtain ⟨fs1, g1, g2⟩ := rt_part hg h x ((l.map fun x => pPart sub v fl x).flatten ++ rest) false (hl x (by simp)) (fun h => by cases h)
    refine ⟨fs1 :: rows, ?_, by simp [h2], fun j hj1 hj2 => ?_⟩
    · rw [List.length_cons, readS, List.map_cons, List.flatten_cons, List.append_assoc]
      simp only [g1, h1]
    · cases j with
      | zero => exact g2
      | succ j => exact h3 j (by simpa using hj1) (by simpa using hj2)

theorem list_written {f : PF} {v : Int} {fl : Bool} {t : PT} (h11 : f.kind = 11) : pField f v fl t = pCounted fl (pNull f v t) (if pNull f v t then [] else pThings t.l).length 4 ++ ((if pNull f v t then [] else pThings t.l).map fun x => pValue (fun y => pPart f.sub v fl y) f.elem false fl x).flatten := by
  rw [pField_eq]
  unfold pFieldOf
  simp only
  rw [if_pos h11]

theorem nl_false {f : PF} {v : Int} {fl nl : Bool} {t : PT} {rest : List UInt8} (h : ¬ (f.kind = 10 ∧ f.nul < 0)) (hnl : nl = true → pField f v fl t ++ rest = []) : nl = false := by
  cases nl with
  | false => rfl
  | true =>
    have h1 := hnl rfl
    have h2 := pField_pos (f := f) (v := v) (fl := fl) (t := t) h
    have h3 : (pField f v fl t ++ rest).length = 0 := by rw [h1]; rfl
    rw [List.length_append] at h3
    omega

mutual
theorem rtField_ok (v : Int) (fl : Bool) : ∀ (f : PF) (s : Step) (td : TD) (d0 : FV), f.plain = true → s.idx = td.idx → rtField v fl f s td d0 = true → FieldRT v fl f s td d0
  | .mk k fr to nul g d e sub, s, td, d0, hpl, hix, h => by
    intro t fs0 rest nl hok hnl hd0
    have hsub : PF.plains sub = true := PF.plain_sub hpl
    have hg : ∀ f ∈ sub, f.tag < 0 := fun f hf => PF.plain_tag (PF.plains_mem hsub f hf)
    match s, td, h with
    | .call pk _ i _ _, .prim i', h =>
      simp only [rtField] at h
      obtain ⟨rfl, h1, h2⟩ := rt_one (f := .mk k fr to nul g d e sub) h t rest nl hok hnl
      refine ⟨_, by simp only [runStep, h1]; rfl, fun fs hf => ?_, RepF.one (f := .mk k fr to nul g d e sub) (PK.rep h t pNull_may)⟩
      simp only [TD.idx] at hf
      simp only [TD.run, fvGet_eq hf]
      exact h2
    | .uuid _ i _, .prim i', h =>
      simp only [rtField] at h
      obtain ⟨rfl, h1, h2⟩ := rt_one (f := .mk k fr to nul g d e sub) h t rest nl hok hnl
      refine ⟨_, by simp only [runStep, h1]; rfl, fun fs hf => ?_, RepF.one (f := .mk k fr to nul g d e sub) (PK.rep h t pNull_may)⟩
      simp only [TD.idx] at hf
      simp only [TD.run, fvGet_eq hf]
      exact h2
    | .strP pk _ i _ _, .prim i', h =>
      simp only [rtField, Bool.and_eq_true] at h
      obtain ⟨rfl, h1, h2⟩ := rt_one (f := .mk k fr to nul g d e sub) h.1 t rest nl hok hnl
      have hv : ∃ l, valOf (pNull (.mk k fr to nul g d e sub) v t) t pk = .text l := by
        cases pk <;> first | exact ⟨_, rfl⟩ | (have := h.2; simp [PK.plainText] at this)
      obtain ⟨l, hl⟩ := hv
      have hrep := PK.rep h.1 t (null := pNull (.mk k fr to nul g d e sub) v t) pNull_may
      rw [hl] at h1 h2 hrep
      have hrep2 : RepF v fl (.mk k fr to nul g d e sub) t (.ntext (some l)) := ⟨hrep.1, by rw [hrep.2.1, hrep.2.2]; rfl⟩
      refine ⟨.ntext (some l), by simp only [runStep, h1]; rfl, fun fs hf => ?_, hrep2⟩
      simp only [TD.idx] at hf
      simp only [TD.run, fvGet_eq hf]
      exact h2
    | .listP lk _ i _ _ pk _ _, .lprim i', h =>
      simp only [rtField, Bool.and_eq_true, decide_eq_true_eq] at h
      obtain ⟨⟨rfl, hlk⟩, hpk⟩ := h
      have k10 := (pkFor_kind hpk).1
      have hlf := nl_false (f := .mk 11 fr to nul g d e sub) (by simp [PF.kind]) hnl
      subst hlf
      have hwr := list_written (f := .mk 11 fr to nul g d e sub) (v := v) (fl := fl) (t := t) rfl
      generalize hnu : pNull (.mk 11 fr to nul g d e sub) v t = null at hwr
      have hL : (if null then [] else pThings t.l).length ≤ 32767 := by
        split
        · simp
        · exact pThings_length _
      have hfl := flatten_len (pp := fun x => pValue (fun y => pPart sub v fl y) e false fl x) (l := if null then [] else pThings t.l) (fun x _ => pValue_pos k10)
      obtain ⟨m, r1, r2, r3⟩ := LenK.reads hlk (null := null) (fun hn => pNull_may (hnu.trans hn)) hL (fun hn => by subst hn; rfl) (rest := ((if null then [] else pThings t.l).map fun x => pValue (fun y => pPart sub v fl y) e false fl x).flatten ++ rest) (by rw [List.length_append]; omega)
      have r4 := readP_read hpk (fun y => pPart sub v fl y) rest (if null then [] else pThings t.l)
      simp only [PF.elem, PF.sub] at hwr
      refine ⟨.list (lk.nilAt m) ((if null then [] else pThings t.l).map fun x => [valOf false x pk]), ?_, fun fs hf => ?_, rfl, fun hm => (r3 hm).trans hnu.symm, by rw [hnu]; simp, fun j y r hy hr => ⟨fun h10 => absurd h10 k10, fun _ => ?_⟩⟩
      · rw [hwr, List.append_assoc]
        simp only [runStep, r1, Bool.false_eq_true, if_false, r2, r4]
        rfl
      · simp only [TD.idx] at hf
        simp only [TD.run, fvGet_eq hf, tellList]
        refine told_list_of (f := .mk 11 fr to nul g d e sub) rfl (fun hm => (r3 hm).trans hnu.symm) fun hn => ?_
        obtain rfl : null = false := hnu.symm.trans hn
        refine ⟨by simp, fun j h1 h2 => ?_⟩
        have hx := pThings_ok hok (pThings t.l)[j] (List.getElem_mem h1)
        obtain ⟨t1, t2⟩ := PK.tells hpk hx.n (null := false) (fun h => h) (fun y z => pTold sub v fl y z)
        simp only [Bool.false_eq_true, if_false, List.getElem_map]
        have e0 : fvGet [valOf false (pThings t.l)[j] pk] 0 = valOf false (pThings t.l)[j] pk := rfl
        rw [e0, t1]
        exact ⟨by simp, t2 rfl⟩
      · rw [hnu] at hy
        rw [List.getElem?_map, hy] at hr
        simp only [Option.map_some, Option.some.injEq] at hr
        exact ⟨_, hr.symm, PK.rep hpk y (fun h => h)⟩
    | .listS lk _ i _ _ _ _ _ dflt ss, .lsub i' ds tg, h =>
      simp only [rtField, Bool.and_eq_true, decide_eq_true_eq] at h
      obtain ⟨⟨⟨⟨rfl, rfl⟩, hlk⟩, hpos⟩, hrt⟩ := h
      have hS : PlainRT v fl sub ss ds dflt 0 tg := by
        have h0 := rtPlain_ok v fl sub (dropG ss) ds dflt 0 tg hsub hrt
        unfold PlainRT at h0 ⊢
        simpa only [runSteps_dropG] using h0
      have hlf := nl_false (f := .mk 11 fr to nul g d 10 sub) (by simp [PF.kind]) hnl
      subst hlf
      have hwr := list_written (f := .mk 11 fr to nul g d 10 sub) (v := v) (fl := fl) (t := t) rfl
      generalize hnu : pNull (.mk 11 fr to nul g d 10 sub) v t = null at hwr
      have hL : (if null then [] else pThings t.l).length ≤ 32767 := by
        split
        · simp
        · exact pThings_length _
      have e10 : (fun x => pValue (fun y => pPart sub v fl y) 10 false fl x) = fun x => pPart sub v fl x := rfl
      simp only [PF.elem, PF.sub, e10] at hwr
      have hfl := flatten_len (pp := fun x => pPart sub v fl x) (l := if null then [] else pThings t.l) (fun x _ => pPart_pos hpos)
      obtain ⟨m, r1, r2, r3⟩ := LenK.reads hlk (null := null) (fun hn => pNull_may (hnu.trans hn)) hL (fun hn => by subst hn; rfl) (rest := ((if null then [] else pThings t.l).map fun x => pPart sub v fl x).flatten ++ rest) (by rw [List.length_append]; omega)
      obtain ⟨rows, r4, r5, r6⟩ := readS_read hg hS rest (if null then [] else pThings t.l) (fun x hx => by
        split at hx
        · cases hx
        · exact pThings_ok hok x hx)
      refine ⟨.list (lk.nilAt m) rows, ?_, fun fs hf => ?_, rfl, fun hm => (r3 hm).trans hnu.symm, by rw [hnu]; exact r5, fun j y r hy hr => ⟨fun _ => ?_, fun h => absurd rfl h⟩⟩
      · rw [hwr, List.append_assoc]
        simp only [runStep, r1, Bool.false_eq_true, if_false, r2, r4]
        rfl
      · simp only [TD.idx] at hf
        simp only [TD.run, fvGet_eq hf, tellList]
        refine told_list_of (f := .mk 11 fr to nul g d 10 sub) rfl (fun hm => (r3 hm).trans hnu.symm) fun hn => ?_
        obtain rfl : null = false := hnu.symm.trans hn
        simp only [Bool.false_eq_true, if_false] at r5 r6
        refine ⟨by simp [r5], fun j h1 h2 => ?_⟩
        simp only [List.getElem_map]
        refine ⟨by simp [PT.null], ?_⟩
        exact (r6 j h1 (by rw [r5]; exact h1)).1
      · rw [hnu] at hy
        obtain ⟨hj1, rfl⟩ := List.getElem?_eq_some_iff.1 hy
        obtain ⟨hj2, rfl⟩ := List.getElem?_eq_some_iff.1 hr
        have := (r6 j hj1 hj2).2
        exact ⟨this.1, by simpa using this.2⟩
    | .sub i _ _ _ dss _ ss, .part i' ds tg, h =>
      simp only [rtField, Bool.and_eq_true, decide_eq_true_eq] at h
      obtain ⟨⟨rfl, hnul⟩, hq⟩ := h
      match d0, hq, hd0 with
      | .sub gs, hq, hd0 =>
        have hS := rtPlain_ok v fl sub ss ds (applyD dss gs) 0 tg hsub hq
        have hnu : pNull (.mk 10 fr to nul g d e sub) v t = false := by
          have hz : decide (0 ≤ nul) = false := decide_eq_false (by omega)
          show (t.null && decide (0 ≤ nul) && decide (nul ≤ v)) = false
          rw [hz]
          simp
        have hwr : pField (.mk 10 fr to nul g d e sub) v fl t = pPart sub v fl t := by
          rw [pField_eq]
          unfold pFieldOf
          simp only [PF.kind, PF.nul]
          rw [if_neg (by omega), if_neg (by omega)]
          rfl
        rw [hwr] at hnl ⊢
        obtain ⟨fs1, r1, r2, r3⟩ := rt_part hg hS t rest nl hok hnl
        refine ⟨.sub fs1, ?_, fun fs hf => ?_, rfl, hnul, r3.1, by simpa using r3.2⟩
        · simp only [Step.idx] at hd0
          simp only [runStep, hd0, r1]
          rfl
        · simp only [TD.idx] at hf
          simp only [TD.run, fvGet_eq hf, tellPart]
          rw [pTold1_eq, pToldOf_eq, hnu]
          have e1 : (PT.mk 0 [] false (TD.runs ds fs1) (tagsIn tg fs1)).null = false := rfl
          rw [e1]
          simp only [bne_self_eq_false, Bool.and_false, Bool.false_eq_true, if_false]
          unfold pTail
          rw [hnu]
          exact r2
theorem rtPlain_ok (v : Int) (fl : Bool) : ∀ (fs : List PF) (ss : List Step) (ds : List TD) (dflt : List FV) (p : Nat) (tg : Option Nat), PF.plains fs = true → rtPlain v fl fs ss ds dflt p tg = true → PlainRT v fl fs ss ds dflt p tg
  | [], ss, ds, dflt, p, tg, _, h => by
    intro t i u fs0 rest nl hok hu hnl hsame
    simp only [rtPlain, Bool.and_eq_true, List.isEmpty_iff] at h
    obtain ⟨rfl, h⟩ := h
    simp only [pPlain, List.nil_append] at hnl ⊢
    cases fl with
    | true =>
      unfold rtEnd at h
      simp only at h
      split at h
      · rename_i f k ty off k'
        simp only [Bool.and_eq_true] at h
        have hk : k = k' := Nat.eq_of_beq_eq_true h.1.1
        have hpk : p = k := Nat.eq_of_beq_eq_true h.1.2
        have hp : p ≤ k := Nat.le_of_eq hpk
        have hlt : k < dflt.length := by
          have := h.2
          unfold Nat.blt at this
          exact Nat.le_of_ble_eq_true this
        subst hk
        have e : pEndB true u = pUv u.length ++ pTags u := rfl
        have hlf : nl = false := by
          cases nl with
          | false => rfl
          | true =>
            have h1 := hnl rfl
            have h2 := pUvN_pos 10 u.length
            have h3 : (pEndB true u ++ rest).length = 0 := by rw [h1]; rfl
            rw [e] at h3
            simp only [List.length_append, pUv] at h3
            omega
        subst hlf
        have hk0 : k < fs0.length := by
          have h1 := hsame k hp
          rw [List.getElem?_eq_getElem hlt] at h1
          exact (List.getElem?_eq_some_iff.1 h1).1
        refine ⟨fs0.set k (.tags (wholeTags u)), ?_, fun q hq => by rw [List.getElem?_set_ne (by omega)], rfl, fun j hj => by simp at hj, ?_, trivial, fun _ => ?_⟩
        · rw [e]
          simp only [runSteps, runStep, PK.run, rTags_read hu rest]
        · have hf : (fs0.set k (.tags (wholeTags u)))[k]? = some (.tags (wholeTags u)) := by rw [List.getElem?_set_self hk0]
          simp only [tagsIn, fvGet_eq hf, tellTags, if_true]
          refine sortTM_id ?_
          unfold wholeTags
          exact List.Pairwise.map _ (fun a b h => h) hu.asc
        · rw [List.length_nil, Nat.add_zero, hpk, List.getElem?_set_self hk0]
      · cases h
    | false =>
      unfold rtEnd at h
      simp only [Bool.and_eq_true, List.isEmpty_iff] at h
      obtain ⟨rfl, h⟩ := h
      have e : pEndB false u = [] := rfl
      refine ⟨fs0, by rw [e]; simp only [runSteps, List.nil_append], fun q _ => rfl, rfl, fun j hj => by simp at hj, ?_, trivial, fun h => by cases h⟩
      simp only [Bool.false_eq_true, if_false]
      unfold tagsIn
      split
      · rename_i k
        simp only [Bool.and_eq_true] at h
        have h1 := hsame k (Nat.le_of_ble_eq_true h.1)
        have h2 := h.2
        split at h2
        · rename_i hd
          rw [hd] at h1
          rw [fvGet_eq h1]
          exact sortTM_nil
        · cases h2
      · rfl
  | f :: r, ss, ds, dflt, p, tg, hpl, h => by
    intro t i u fs0 rest nl hok hu hnl hsame
    simp only [PF.plains, Bool.and_eq_true] at hpl
    have hg := PF.plain_tag hpl.1
    simp only [rtPlain] at h
    match ds, h with
    | d :: ds', h =>
    rw [Bool.and_eq_true] at h
    have hdi : d.idx = p := Nat.eq_of_beq_eq_true h.1
    have h := h.2
    cases hd0 : dflt[p]? with
    | none => rw [hd0] at h; cases h
    | some d0 =>
    rw [hd0] at h
    simp only [decide_eq_true hg, Bool.true_and] at h
    rw [pPlain_cons] at hnl ⊢
    cases hh : pHas f v with
    | true =>
      rw [hh] at h
      simp only [cond_true] at h
      match ss, h with
      | s :: ss', h =>
      simp only [Bool.and_eq_true] at h
      have hsi : s.idx = p := Nat.eq_of_beq_eq_true h.1.1
      have e1 : pOne f v fl (pAt t i) = pField f v fl (pAt t i) := by unfold pOne; rw [hh, decide_eq_true hg]; rfl
      rw [e1] at hnl ⊢
      have hF := rtField_ok v fl f s d d0 hpl.1 (hsi.trans hdi.symm) h.1.2
      have hR := rtPlain_ok v fl r ss' ds' dflt (p + 1) tg hpl.2 h.2
      obtain ⟨x, r1, r2, rr⟩ := hF (pAt t i) fs0 ((pPlain r v fl t (i + 1) ++ pEndB fl u) ++ rest) nl (hok.at i) (fun hn => by have := hnl hn; simpa [List.append_assoc] using this) (by rw [hsi, hsame p (Nat.le_refl _), hd0])
      have hx0 : fs0[p]? = some d0 := by rw [hsame p (Nat.le_refl _), hd0]
      have hlt : p < fs0.length := (List.getElem?_eq_some_iff.1 hx0).1
      obtain ⟨fs1, q1, q2, q3, q4, q5, q6, q7⟩ := hR t (i + 1) u (fs0.set s.idx x) rest nl hok hu (fun hn => by
        have h1 := hnl hn
        simp only [List.append_assoc, List.append_eq_nil_iff] at h1 ⊢
        exact h1.2) (fun q hq => by rw [hsi, List.getElem?_set_ne (by omega)]; exact hsame q (by omega))
      have hat : fs1[p]? = some x := by rw [q2 p (by omega), hsi, List.getElem?_set_self hlt]
      refine ⟨fs1, ?_, fun q hq => ?_, by simp [q3], fun j hj hd => ?_, q5, ⟨fun _ => ⟨x, hat, rr⟩, q6⟩, fun h => by
        have := q7 h
        rwa [List.length_cons, show p + (r.length + 1) = p + 1 + r.length by omega]⟩
      · have e2 : pField f v fl (pAt t i) ++ pPlain r v fl t (i + 1) ++ pEndB fl u ++ rest = pField f v fl (pAt t i) ++ ((pPlain r v fl t (i + 1) ++ pEndB fl u) ++ rest) := by simp only [List.append_assoc]
        rw [e2, runSteps, r1]
        exact q1
      · rw [q2 q (by omega), hsi, List.getElem?_set_ne (by omega)]
      · cases j with
        | zero =>
          simp only [List.getElem_cons_zero, Nat.add_zero]
          unfold pToldAt
          rw [if_pos (.inl ⟨hg, hh⟩)]
          refine r2 fs1 ?_
          rw [hdi, hat]
        | succ j =>
          have := q4 j (by simpa using hj) (by simpa using hd)
          rw [show i + (j + 1) = i + 1 + j by omega]
          exact this
    | false =>
      rw [hh] at h
      simp only [cond_false, Bool.and_eq_true] at h
      have e1 : pOne f v fl (pAt t i) = [] := by unfold pOne; rw [hh]; simp
      rw [e1, List.nil_append] at hnl ⊢
      have hR := rtPlain_ok v fl r ss ds' dflt (p + 1) tg hpl.2 h.2
      obtain ⟨fs1, q1, q2, q3, q4, q5, q6, q7⟩ := hR t (i + 1) u fs0 rest nl hok hu hnl (fun q hq => hsame q (by omega))
      refine ⟨fs1, q1, fun q hq => q2 q (by omega), by simp [q3], fun j hj hd => ?_, q5, ⟨fun h => (by rw [hh] at h; cases h), q6⟩, fun h => by
        have := q7 h
        rwa [List.length_cons, show p + (r.length + 1) = p + 1 + r.length by omega]⟩
      cases j with
      | zero =>
        simp only [List.getElem_cons_zero, Nat.add_zero]
        unfold pToldAt
        rw [if_neg (by rintro (⟨_, h2⟩ | ⟨h2, _⟩); · rw [hh] at h2; cases h2
                       · omega)]
        rw [TD.run_congr (fs' := dflt) (by rw [hdi, q2 p (by omega), hsame p (Nat.le_refl _)])]
        exact h.1
      | succ j =>
        have := q4 j (by simpa using hj) (by simpa using hd)
        rw [show i + (j + 1) = i + 1 + j by omega]
        exact this
end

end Go.Kf


namespace Go.Kf

open Go

theorem PT.wt_eq (t : PT) : t.wt = 6 + t.s.length + PT.wts t.l + tagsWt t.u := by cases t; rfl

theorem wts_mem {x : PT} : ∀ {l : List PT}, x ∈ l → x.wt ≤ PT.wts l
  | [], h => by cases h
  | y :: l, h => by
    rw [PT.wts]
    rcases List.mem_cons.1 h with rfl | h
    · omega
    · have := wts_mem h
      omega

theorem wt_at (t : PT) (i : Nat) : (pAt t i).wt ≤ t.wt := by
  rw [PT.wt_eq t]
  unfold pAt
  rw [List.getD_eq_getElem?_getD]
  by_cases h : i < t.l.length
  · rw [List.getElem?_eq_getElem h]
    have := wts_mem (List.getElem_mem h)
    simp only [Option.getD_some]
    omega
  · rw [List.getElem?_eq_none (by omega)]
    have : PT.zero.wt = 6 := rfl
    simp only [Option.getD_none]
    omega

theorem wts_take (n : Nat) : ∀ l : List PT, PT.wts (l.take n) ≤ PT.wts l := by
  induction n with
  | zero => intro l; simp [PT.wts]
  | succ n ih =>
    intro l
    cases l with
    | nil => simp [PT.wts]
    | cons x l => rw [List.take_succ_cons, PT.wts, PT.wts]; have := ih l; omega

theorem tagsWt_take (n : Nat) : ∀ l : TM, tagsWt (l.take n) ≤ tagsWt l := by
  induction n with
  | zero => intro l; simp [tagsWt]
  | succ n ih =>
    intro l
    cases l with
    | nil => simp [tagsWt]
    | cons x l => rw [List.take_succ_cons, tagsWt, tagsWt]; have := ih l; omega

theorem tagsWt_put (q : Nat × List UInt8) : ∀ m : TM, tagsWt (pPut q m) ≤ tagsWt m + 3 + q.2.length
  | [] => by simp [pPut, tagsWt]
  | p :: m => by
    have := tagsWt_put q m
    rw [pPut]
    split
    · simp only [tagsWt]; omega
    · split
      · simp only [tagsWt]; omega
      · simp only [tagsWt]; omega

theorem tagsWt_unknownN (least : Nat) : ∀ u out : TM, tagsWt (pUnknownN least u out) ≤ tagsWt u + tagsWt out
  | [], out => by simp [pUnknownN, tagsWt]
  | q :: u, out => by
    rw [pUnknownN]
    have h1 := tagsWt_unknownN least u (if q.1 < least then out else pPut q out)
    have h2 := tagsWt_put q out
    rw [tagsWt]
    split at h1 <;> rename_i hq
    · rw [if_pos hq]; omega
    · rw [if_neg hq]; omega

theorem tagsWt_unknown (fs : List PF) (u : TM) : tagsWt (pUnknown fs u) ≤ tagsWt u := by
  have h1 := tagsWt_unknownN (pKnown fs 0) (u.take 32767) []
  have h2 := tagsWt_take 32767 u
  have h3 : tagsWt ([] : TM) = 0 := rfl
  unfold pUnknown
  omega

theorem pTags_len : ∀ m : TM, (pTags m).length ≤ 8 * tagsWt m
  | [] => by simp [pTags]
  | q :: m => by
    have h1 := pTags_len m
    have h2 : (pTags (q :: m)).length = (pUv q.1).length + (pUv (pWhole q.2).length).length + (pWhole q.2).length + (pTags m).length := by
      simp only [pTags, List.map_cons, List.flatten_cons, pTag1, List.length_append]
    have h3 := pUv_length q.1
    have h4 := pUv_length (pWhole q.2).length
    have h5 : (pWhole q.2).length ≤ q.2.length := by unfold pWhole; rw [List.length_take]; omega
    rw [h2, tagsWt]
    omega

theorem pValue_len {pp : PT → List UInt8} {kind : Int} {null fl : Bool} {t : PT} (h : kind ≠ 10) : (pValue pp kind null fl t).length ≤ 3 * t.wt := by
  have hw : 6 + t.s.length ≤ t.wt := by rw [PT.wt_eq]; omega
  have hs : (if null then [] else pWhole t.s).length ≤ t.s.length := by
    split
    · simp
    · unfold pWhole; rw [List.length_take]; omega
  unfold pValue
  split
  · simp only [List.length_singleton]; omega
  split
  · rw [pId_length]; omega
  split
  · have := pCounted_length fl null (if null then [] else pWhole t.s).length 2
    simp only [List.length_append]
    omega
  split
  · have := pCounted_length fl null (if null then [] else pWhole t.s).length 4
    simp only [List.length_append]
    omega
  rw [pFixed_length]
  have := pWidth_le kind
  omega

theorem flatten_wt {pp : PT → List UInt8} {k : Nat} : ∀ {l : List PT}, (∀ x ∈ l, (pp x).length ≤ k * x.wt) → (l.map pp).flatten.length ≤ k * PT.wts l
  | [], _ => by simp
  | x :: l, h => by
    have := flatten_wt (pp := pp) (k := k) (l := l) fun y hy => h y (by simp [hy])
    have := h x (by simp)
    rw [List.map_cons, List.flatten_cons, List.length_append, PT.wts, Nat.mul_add]
    omega

end Go.Kf

namespace Go.Kf

open Go

/-- A field as it is typed: what is set, in order; the function that yields its parts. -/
structure FB where
  parts : List (Nat × Int)
  sub : Option Nat

def setParts : List Int → List (Nat × Int) → List Int
  | z, [] => z
  | z, p :: r => setParts (z.set p.1 p.2) r

def FB.pf (b : FB) (sub : List PF) : PF := match setParts [0, 0, 0, 0, 0, 0, 0] b.parts with
  | [k, f, t, n, g, d, e] => .mk k f t n g d e sub
  | _ => .mk 0 0 0 0 0 0 0 sub

def idxd : Nat → List Operand → List (Nat × Operand)
  | _, [] => []
  | k, x :: r => (k, x) :: idxd (k + 1) r

def gFB (s : SN) : List FB → Nat → List Operand → (Nat → List Operand → Tr) → Tr
  | [], n, acc, k => k n acc
  | ⟨ps, none⟩ :: r, n, acc, k => .op (.build s.field ⟨ps.map fun p => (p.1, .const (.int .i64 p.2))⟩) none [] (gFB s r (n + 1) (acc ++ [.tmp n]) k)
  | ⟨ps, some f⟩ :: r, n, acc, k => .op (callOp f []) none [] <| .op (.build s.field ⟨(ps.map fun p => (p.1, .const (.int .i64 p.2))) ++ [(7, .tmp n)]⟩) none [] (gFB s r (n + 2) (acc ++ [.tmp (n + 1)]) k)

def gFieldsFn (s : SN) (fbs : List FB) : Tr := gFB s fbs 0 [] fun n acc => .op (.buildSlice s.fields acc.length ⟨idxd 0 acc⟩) none [] <| .ret [(.tmp n, none)]

def gMsgFn (s : SN) (fbs : List FB) (x : Int) : Tr := .op (.alloc s.msg) none [] <| gFB s fbs 1 [] fun n acc => .op (.buildSlice s.fields acc.length ⟨idxd 0 acc⟩) none [] <|
  .op (.build s.msg ⟨[(1, .const (.int .i64 x)), (0, .tmp n)]⟩) none [] <| .op (.store s.msg (.tmp 0) (.tmp (n + 1))) none [] <| .ret [(.tmp 0, some s.msg)]

/-- The types' plans. -/
structure FbFacts (P : Program) (s : SN) : Prop where
  field : buildPlan P s.field = some ([.int .i64 0, .int .i64 0, .int .i64 0, .int .i64 0, .int .i64 0, .int .i64 0, .int .i64 0, .slice none 0 0], [(0, 1), (1, 1), (2, 1), (3, 1), (4, 1), (5, 1), (6, 1), (7, 1)])
  msg : buildPlan P s.msg = some ([.slice none 0 0, .int .i64 0], [(0, 1), (1, 1)])
  zero : zeroTy P s.msg = some (.agg ⟨[.slice none 0 0, .int .i64 0]⟩, 2)

/-- A function that yields a list of fields. -/
def FieldsFn (P : Program) (f : Nat) (fs : List PF) : Prop := ∀ w, Gives P f [] w fun v w' => FieldsV w' fs v ∧ Keeps [] w w'

/-- A function that yields a message. -/
def MsgFn (P : Program) (f : Nat) (fs : List PF) (x : Int) : Prop := ∀ w, Gives P f [] w fun v w' => (∃ fv, v = .agg ⟨[fv, .int .i64 x]⟩ ∧ FieldsV w' fs fv) ∧ Keeps [] w w'

def FbsOk (P : Program) : List FB → List PF → Prop
  | [], fs => fs = []
  | b :: r, fs => ∃ f fr, fs = f :: fr ∧ b.parts.all (fun p => Nat.blt p.1 7) = true ∧ (match b.sub with
    | none => f = b.pf []
    | some g => ∃ sub, FieldsFn P g sub ∧ f = b.pf sub) ∧ FbsOk P r fr

section

variable {P : Program} {c : Nums} {s : SN} {R : Value → World → Prop} {Γ : List (List Value → World → Prop)} {n : Nat} {ρ : Nat → Value} {w : World} {k : Tr}

theorem setParts_length : ∀ (ps : List (Nat × Int)) (z : List Int), (setParts z ps).length = z.length
  | [], _ => rfl
  | p :: r, z => by rw [setParts, setParts_length r]; simp

def plan8 : List (Nat × Nat) := [(0, 1), (1, 1), (2, 1), (3, 1), (4, 1), (5, 1), (6, 1), (7, 1)]

theorem plan8_at {i : Nat} (h : i < 8) : plan8[i]? = some (i, 1) := by
  have : i = 0 ∨ i = 1 ∨ i = 2 ∨ i = 3 ∨ i = 4 ∨ i = 5 ∨ i = 6 ∨ i = 7 := by omega
  rcases this with rfl | rfl | rfl | rfl | rfl | rfl | rfl | rfl <;> rfl

theorem fill_parts (tail : List (Nat × Value)) : ∀ (ps : List (Nat × Int)) (z : List Int), z.length = 7 → ps.all (fun p => Nat.blt p.1 7) = true →
    fillOnes plan8 (z.map (Value.int .i64) ++ [.slice none 0 0]) ((ps.map fun p => (p.1, Value.int .i64 p.2)) ++ tail) = fillOnes plan8 ((setParts z ps).map (Value.int .i64) ++ [.slice none 0 0]) tail
  | [], z, _, _ => rfl
  | p :: r, z, hz, h => by
    rw [List.all_cons, Bool.and_eq_true] at h
    have hp : p.1 < 7 := Nat.le_of_ble_eq_true h.1
    rw [List.map_cons, List.cons_append, fillOnes, plan8_at (by omega)]
    simp only
    rw [if_pos ⟨trivial, by simp; omega⟩, List.set_append_left _ _ (by simp; omega), ← List.map_set, setParts]
    exact fill_parts tail r _ (by simpa using hz) h.2

/-- A field, built. -/
theorem field_built {w' : World} (b : FB) (h : b.parts.all (fun p => Nat.blt p.1 7) = true) :
    (∃ cells, fillOnes plan8 [.int .i64 0, .int .i64 0, .int .i64 0, .int .i64 0, .int .i64 0, .int .i64 0, .int .i64 0, .slice none 0 0] (b.parts.map fun p => (p.1, Value.int .i64 p.2)) = some cells ∧ FieldC w' (b.pf []) cells) ∧
    ∀ (v : Value) (sub : List PF), FieldsV w' sub v → ∃ cells, fillOnes plan8 [.int .i64 0, .int .i64 0, .int .i64 0, .int .i64 0, .int .i64 0, .int .i64 0, .int .i64 0, .slice none 0 0] ((b.parts.map fun p => (p.1, Value.int .i64 p.2)) ++ [(7, v)]) = some cells ∧ FieldC w' (b.pf sub) cells := by
  have hl := setParts_length b.parts [0, 0, 0, 0, 0, 0, 0]
  have h0 := fill_parts [] b.parts [0, 0, 0, 0, 0, 0, 0] rfl h
  have h1 := fun v => fill_parts [(7, v)] b.parts [0, 0, 0, 0, 0, 0, 0] rfl h
  have ez : List.map (Value.int .i64) [0, 0, 0, 0, 0, 0, 0] ++ [Value.slice none 0 0] = [.int .i64 0, .int .i64 0, .int .i64 0, .int .i64 0, .int .i64 0, .int .i64 0, .int .i64 0, .slice none 0 0] := rfl
  rw [ez, List.append_nil] at h0
  simp only [ez] at h1
  unfold FB.pf
  generalize setParts [0, 0, 0, 0, 0, 0, 0] b.parts = z at hl h0 h1
  match z, hl with
  | [k, f, t, n, g, d, e], _ =>
    refine ⟨⟨_, h0, _, [], rfl, Ro.nil w' 8, rfl⟩, fun v sub hv => ?_⟩
    obtain ⟨scs, s1, s2⟩ := hv
    refine ⟨[.int .i64 k, .int .i64 f, .int .i64 t, .int .i64 n, .int .i64 g, .int .i64 d, .int .i64 e, v], ?_, v, scs, rfl, s1, s2⟩
    rw [h1 v]
    rfl

theorem Has.cells? {w : World} {b : Nat} {cs : List Value} (h : Has w b cs) (i : Nat) : w.cell? ⟨b, i, none⟩ = cs[i]? := by
  obtain ⟨t, fr, hb, _⟩ := h
  unfold World.cell?
  rw [show (⟨b, i, none⟩ : Addr).block = b from rfl, hb]
  simp

/-- Rows of eight cells don't lie in a small block. -/
theorem Ro.keepSmall {w w' : World} {b : Nat} {cs : List Value} (hb : Has w b cs) (hs : cs.length < 8) (hk : Keeps [b] w w') {v : Value} {n : Nat} {xs : List Value} (h : Ro w v 8 n xs) : Ro w' v 8 n xs := by
  refine ⟨h.1, ?_⟩
  rcases h.2 with h0 | ⟨d, o, cap, rfl, hd, hc, hx⟩
  · exact .inl h0
  · by_cases hn : n = 0
    · exact .inl ⟨hn, _, _, by rw [hn]⟩
    have hne : d ≠ b := by
      intro e
      subst e
      have h7 := hx 7 (by omega)
      rw [hb.cells?, List.getElem?_eq_none (by omega), List.getElem?_eq_getElem (by rw [h.1]; omega)] at h7
      cases h7
    exact .inr ⟨d, o, cap, rfl, Nat.lt_of_lt_of_le hd hk.size, hc, fun i hi => by rw [cell_keep hk hd (by simpa using hne)]; exact hx i hi⟩

mutual
theorem FieldC.keepSmall {w w' : World} {b : Nat} {ds : List Value} (hb : Has w b ds) (hs : ds.length < 8) (hk : Keeps [b] w w') : ∀ (f : PF) (cs : List Value), FieldC w f cs → FieldC w' f cs
  | .mk _ _ _ _ _ _ _ sub, _, ⟨sv, scs, e, h1, h2⟩ => ⟨sv, scs, e, Ro.keepSmall hb hs hk h1, FieldsC.keepSmall hb hs hk sub scs h2⟩
theorem FieldsC.keepSmall {w w' : World} {b : Nat} {ds : List Value} (hb : Has w b ds) (hs : ds.length < 8) (hk : Keeps [b] w w') : ∀ (fs : List PF) (cs : List Value), FieldsC w fs cs → FieldsC w' fs cs
  | [], _, h => h
  | f :: fs, _, ⟨c1, c2, e, h1, h2⟩ => ⟨c1, c2, e, FieldC.keepSmall hb hs hk f c1 h1, FieldsC.keepSmall hb hs hk fs c2 h2⟩
end

/-- What has been built so far. -/
def AccOk (ρ : Nat → Value) (w : World) (n : Nat) : List Operand → List PF → Prop
  | [], fs => fs = []
  | x :: r, fs => ∃ f fr cs, fs = f :: fr ∧ opBelow n x ∧ ev ρ x = .agg ⟨cs⟩ ∧ FieldC w f cs ∧ AccOk ρ w n r fr

theorem AccOk.more {ρ ρ' : Nat → Value} {w w' : World} {n n' : Nat} (hn : n ≤ n') (hρ : ∀ x, opBelow n x → ev ρ' x = ev ρ x) (hk : Keeps [] w w') : ∀ {xs : List Operand} {fs : List PF}, AccOk ρ w n xs fs → AccOk ρ' w' n' xs fs
  | [], _, h => h
  | x :: _, _, ⟨f, fr, cs, e, h1, h2, h3, h4⟩ => ⟨f, fr, cs, e, h1.mono hn, (hρ x h1).trans h2, FieldC.keep hk f cs h3, AccOk.more hn hρ hk h4⟩

theorem AccOk.snoc {f : PF} {x : Operand} {cs : List Value} (h1 : opBelow n x) (h2 : ev ρ x = .agg ⟨cs⟩) (h3 : FieldC w f cs) : ∀ {xs : List Operand} {fs : List PF}, AccOk ρ w n xs fs → AccOk ρ w n (xs ++ [x]) (fs ++ [f])
  | [], _, h => by simp only [AccOk] at h; subst h; exact ⟨f, [], cs, rfl, h1, h2, h3, rfl⟩
  | y :: r, _, ⟨g, fr, ds, e, q1, q2, q3, q4⟩ => ⟨g, fr ++ [f], ds, by rw [e]; rfl, q1, q2, q3, AccOk.snoc h1 h2 h3 q4⟩

theorem gFB_sem (S : SpFacts P c s) (B : FbFacts P s) {K : Nat → List Operand → Tr} : ∀ (fbs : List FB) (fs : List PF) (n : Nat) (acc : List Operand) (accs : List PF) (ρ : Nat → Value) (w : World), FbsOk P fbs fs → AccOk ρ w n acc accs →
    (∀ n' acc' ρ' w', n ≤ n' → Keeps [] w w' → (∀ x, opBelow n x → ev ρ' x = ev ρ x) → AccOk ρ' w' n' acc' (accs ++ fs) → acc'.length = (accs ++ fs).length → (K n' acc').sem P R Γ n' ρ' w') → acc.length = accs.length → (gFB s fbs n acc K).sem P R Γ n ρ w
  | [], fs, n, acc, accs, ρ, w, hf, ha, hk, hl => by
    simp only [FbsOk] at hf
    subst hf
    have := hk n acc ρ w (Nat.le_refl _) .refl (fun _ _ => rfl)
    simp only [List.append_nil] at this
    exact this ha hl
  | ⟨ps, none⟩ :: r, fs, n, acc, accs, ρ, w, hf, ha, hk, hl => by
    obtain ⟨f, fr, rfl, hp, he, hr⟩ := hf
    simp only at he
    obtain ⟨cells, hc1, hc2⟩ := (field_built (w' := w) ⟨ps, none⟩ hp).1
    simp only [gFB]
    refine s_val (v_build (cells := cells) B.field (fun p hp => ?_) ?_) ?_
    · obtain ⟨q, _, rfl⟩ := List.mem_map.1 hp
      rfl
    · rw [List.map_map]
      exact hc1
    refine gFB_sem S B r fr (n + 1) (acc ++ [.tmp n]) (accs ++ [f]) _ w hr ?_ (fun n' acc' ρ' w' hn kk hρ hacc hlen => ?_) (by simp [hl])
    · rw [he]
      have e0 : ev (ext ρ n [.agg ⟨cells⟩]) (.tmp n) = .agg ⟨cells⟩ := ext_at
      exact AccOk.snoc (by simp [opBelow]) e0 hc2 (AccOk.more (Nat.le_succ n) (fun x hx => ev_ext hx) .refl ha)
    · rw [List.append_assoc] at hacc hlen
      exact hk n' acc' ρ' w' (by omega) kk (fun x hx => (hρ x (hx.mono (Nat.le_succ n))).trans (ev_ext hx)) hacc hlen
  | ⟨ps, some g⟩ :: r, fs, n, acc, accs, ρ, w, hf, ha, hk, hl => by
    obtain ⟨f, fr, rfl, hp, he, hr⟩ := hf
    simp only at he
    obtain ⟨sub, hg, he⟩ := he
    simp only [gFB]
    refine s_callx (hg w) rfl fun v w1 ⟨hv, k1⟩ => ?_
    obtain ⟨cells, hc1, hc2⟩ := (field_built (w' := w1) ⟨ps, some g⟩ hp).2 v sub hv
    have hone : v.oneCell' = true := by
      obtain ⟨_, h1, _⟩ := hv
      exact h1.one
    refine s_val (v_build (cells := cells) B.field (fun p hp => ?_) ?_) ?_
    · rcases List.mem_append.1 hp with hp | hp
      · obtain ⟨q, _, rfl⟩ := List.mem_map.1 hp
        rfl
      · simp only [List.mem_singleton] at hp
        subst hp
        show (ev _ (.tmp n)).oneCell' = true
        rw [show ev (ext ρ n [v]) (.tmp n) = v from ext_at]
        exact hone
    · rw [List.map_append, List.map_map]
      have e1 : [(7, Operand.tmp n)].map (fun p : Nat × Operand => (p.1, ev (ext ρ n [v]) p.2)) = [(7, v)] := by
        simp only [List.map_cons, List.map_nil]
        rw [show ev (ext ρ n [v]) (.tmp n) = v from ext_at]
      rw [e1]
      exact hc1
    refine gFB_sem S B r fr (n + 2) (acc ++ [.tmp (n + 1)]) (accs ++ [f]) _ w1 hr ?_ (fun n' acc' ρ' w' hn kk hρ hacc hlen => ?_) (by simp [hl])
    · rw [he]
      have e0 : ev (ext (ext ρ n [v]) (n + 1) [.agg ⟨cells⟩]) (.tmp (n + 1)) = .agg ⟨cells⟩ := ext_at
      exact AccOk.snoc (by simp [opBelow]) e0 hc2 (AccOk.more (by omega) (fun x hx => (ev_ext (hx.mono (Nat.le_succ n))).trans (ev_ext hx)) k1 ha)
    · rw [List.append_assoc] at hacc hlen
      exact hk n' acc' ρ' w' (by omega) (k1.trans kk) (fun x hx => (hρ x (hx.mono (by omega))).trans ((ev_ext (hx.mono (Nat.le_succ n))).trans (ev_ext hx))) hacc hlen

theorem setRow (l : List Value) : ∀ (i : Nat) (acc : Array Value), i + l.length ≤ acc.size → (l.zipIdx i).foldl (fun (a : Array Value) (p : Value × Nat) => a.setIfInBounds p.2 p.1) acc = ⟨acc.toList.take i ++ l ++ acc.toList.drop (i + l.length)⟩ := by
  induction l with
  | nil =>
    intro i acc h
    apply Array.ext'
    simp
  | cons v l ih =>
    intro i acc h
    simp only [List.length_cons] at h
    simp only [List.zipIdx_cons, List.foldl_cons]
    rw [ih (i + 1) _ (by simp; omega)]
    apply Array.ext'
    simp only [Array.toList_setIfInBounds]
    rw [List.take_set, List.take_succ_eq_append_getElem (by simp; omega), List.set_append_right _ _ (by simp; omega)]
    have h3 : i - (acc.toList.take i).length = 0 := by simp; omega
    rw [h3, List.drop_set_of_lt (by omega)]
    simp only [List.set_cons_zero, List.append_assoc, List.singleton_append, List.length_cons]
    rw [show i + 1 + l.length = i + (l.length + 1) by omega]

theorem fill_rows {sz : Nat} : ∀ (xs : List (Value)) (css : List (List Value)) (k : Nat) (acc : Array Value), xs.map Value.cells = css.map (fun l => (⟨l⟩ : Array Value)) → (∀ l ∈ css, l.length = sz) → acc.size = (k + xs.length) * sz →
    Instr.fill (fun i => some (i * sz, sz)) acc ((xs.zipIdx k).map fun p => (p.2, p.1)) = some ⟨acc.toList.take (k * sz) ++ css.flatten⟩
  | [], css, k, acc, h1, h2, h3 => by
    have : css = [] := by simpa using h1.symm
    subst this
    simp only [List.zipIdx_nil, List.map_nil, Instr.fill, List.flatten_nil, List.append_nil, Option.some.injEq]
    apply Array.ext'
    simp only [List.length_nil, Nat.add_zero] at h3
    rw [List.take_of_length_le (by simp; omega)]
  | x :: xs, [], k, acc, h1, h2, h3 => by simp at h1
  | x :: xs, l :: css, k, acc, h1, h2, h3 => by
    simp only [List.map_cons, List.cons.injEq] at h1
    have hl := h2 l (by simp)
    simp only [List.length_cons] at h3
    have h4 : (k + 1 + xs.length) * sz = (k + (xs.length + 1)) * sz := by congr 1; omega
    have h5 : (k + (xs.length + 1)) * sz = k * sz + sz + xs.length * sz := by rw [Nat.add_mul, Nat.add_mul]; omega
    simp only [List.zipIdx_cons, List.map_cons]
    unfold Instr.fill
    simp only [h1.1]
    rw [if_neg (by simp [hl]; omega)]
    have e := setRow l (k * sz) acc (by rw [h3, h5, hl]; omega)
    have this : ∀ (l : List Value) (j m : Nat) (acc : Array Value), List.foldl (fun (cells : Array Value) (x : Value × Nat) => cells.setIfInBounds (m + x.2) x.1) acc (l.zipIdx j) = List.foldl (fun (a : Array Value) (p : Value × Nat) => a.setIfInBounds p.2 p.1) acc (l.zipIdx (m + j)) := by
      intro l
      induction l with
      | nil => intros; rfl
      | cons y l ih => intro j m acc; simp only [List.zipIdx_cons, List.foldl_cons]; rw [ih]; rfl
    have e2 : (Array.foldl (fun (cells : Array Value) (x : Value × Nat) => cells.setIfInBounds (k * sz + x.2) x.1) acc (Array.zipIdx (⟨l⟩ : Array Value))) = ⟨acc.toList.take (k * sz) ++ l ++ acc.toList.drop (k * sz + l.length)⟩ := by
      rw [← e, ← Array.foldl_toList, Array.toList_zipIdx]
      exact this l 0 (k * sz) acc
    have e3 : Instr.fill (fun i => some (i * sz, sz)) ⟨acc.toList.take (k * sz) ++ l ++ acc.toList.drop (k * sz + l.length)⟩ ((xs.zipIdx (k + 1)).map fun p => (p.2, p.1)) = some ⟨acc.toList.take (k * sz) ++ (l :: css).flatten⟩ := by
      have hk1 : k * sz ≤ acc.toList.length := by simp only [Array.length_toList]; omega
      have hk2 : (acc.toList.take (k * sz) ++ l).length = (k + 1) * sz := by rw [List.length_append, List.length_take, hl, Nat.min_eq_left hk1, Nat.add_mul]; omega
      rw [fill_rows xs css (k + 1) _ h1.2 (fun l' hl' => h2 l' (by simp [hl'])) (by
        simp only [List.size_toArray, List.length_append, List.length_take, List.length_drop, Array.length_toList]
        omega)]
      simp only [Option.some.injEq]
      rw [List.take_left' hk2, List.flatten_cons, List.append_assoc]
    exact (congrArg (fun a => Instr.fill (fun i => some (i * sz, sz)) a ((xs.zipIdx (k + 1)).map fun p => (p.2, p.1))) e2).trans e3

theorem idxd_map (ρ : Nat → Value) : ∀ (ops : List Operand) (k : Nat), (idxd k ops).map (fun p => (p.1, ev ρ p.2)) = ((ops.map (ev ρ)).zipIdx k).map fun p => (p.2, p.1)
  | [], _ => rfl
  | x :: r, k => by simp only [idxd, List.map_cons, List.zipIdx_cons, idxd_map ρ r (k + 1)]

/-- []T{x, y, ..} -/
theorem a_sliceMany {t e sz : Nat} {z : Value} {ops : List Operand} {css : List (List Value)} (ht : P.underlying t = some (.slice e)) (hz : zeroTy P e = some (z, sz)) (hpos : 0 < ops.length * sz) (hn : ops.length * sz ≤ 2 ^ 24)
    (hx : ops.map (fun x => (ev ρ x).cells) = css.map (fun l => (⟨l⟩ : Array Value))) (hl : ∀ l ∈ css, l.length = sz) :
    ∃ w', runOp P ρ (.buildSlice t ops.length ⟨idxd 0 ops⟩) w = .ok (.value (.slice (some ⟨w.heap.size, 0, none⟩) ops.length ops.length)) w' ∧ Has w' w.heap.size css.flatten ∧ Keeps [] w w' ∧ w'.heap.size = w.heap.size + 1 := by
  have hs := zeroTy_spec (w := w) hz
  refine ⟨{ w with heap := w.heap.push (.cells ⟨css.flatten⟩ e) }, ?_, has_alloc w _ e, keeps_alloc w _ _, by simp⟩
  have hfill := fill_rows (ops.map (ev ρ)) css 0 ((Array.range (ops.length * sz)).map (z.cells[· % z.cells.size]!)) (by rw [List.map_map]; exact hx) hl (by simp)
  rw [Nat.zero_mul, List.take_zero, List.nil_append] at hfill
  unfold runOp bareOp
  simp only [execOp, Instr.buildSlice, Sem.run_bind, run_under ht, Result.andThen_ok, size_run hs.2]
  rw [if_neg (by omega)]
  simp only [Sem.run_pure, Result.andThen_ok, if_neg (show ¬ ops.length * sz = 0 by omega), Sem.run_bind, hs.1]
  have e1 : (Array.map (fun x : Nat × Operand => (x.1, ev ρ x.2)) ⟨idxd 0 ops⟩).toList = ((ops.map (ev ρ)).zipIdx 0).map fun p => (p.2, p.1) := by
    rw [Array.toList_map]
    exact idxd_map ρ ops 0
  simp only [e1, hfill]
  simp [newRow]

theorem AccOk.list {n : Nat} : ∀ {xs : List Operand} {fs : List PF}, AccOk ρ w n xs fs → ∃ css : List (List Value), xs.map (fun x => (ev ρ x).cells) = css.map (fun l => (⟨l⟩ : Array Value)) ∧ (∀ l ∈ css, l.length = 8) ∧ FieldsC w fs css.flatten ∧ fs.length = xs.length ∧ css.length = xs.length
  | [], _, h => by simp only [AccOk] at h; subst h; exact ⟨[], rfl, (fun l hl => by cases hl), rfl, rfl, rfl⟩
  | x :: r, _, ⟨f, fr, cs, e, h1, h2, h3, h4⟩ => by
    obtain ⟨css, g1, g2, g3, g4, g5⟩ := AccOk.list h4
    subst e
    refine ⟨cs :: css, ?_, fun l hl => ?_, ⟨cs, css.flatten, rfl, h3, g3⟩, by simp [g4], by simp [g5]⟩
    · simp only [List.map_cons, h2, g1]
      rfl
    · rcases List.mem_cons.1 hl with rfl | hl
      · exact h3.len
      · exact g2 l hl

/-- The list of fields, behind their building. -/
theorem s_fieldList {acc : List Operand} {fs : List PF} (S : SpFacts P c s) (ha : AccOk ρ w n acc fs) (h0 : 0 < acc.length) (h1 : acc.length ≤ 1000) (hk : ∀ v w', FieldsV w' fs v → Keeps [] w w' → k.sem P R Γ (n + 1) (ext ρ n [v]) w') :
    (Tr.op (.buildSlice s.fields acc.length ⟨idxd 0 acc⟩) none [] k).sem P R Γ n ρ w := by
  obtain ⟨css, g1, g2, g3, g4, g5⟩ := ha.list
  obtain ⟨z, hz, _⟩ := S.zField
  obtain ⟨w', e1, hh, kk, _⟩ := a_sliceMany (P := P) (ρ := ρ) (w := w) (sz := 8) S.sl hz (by omega) (by omega) g1 g2
  refine s_act e1 (fun p hp => by cases hp) (hk _ w' ⟨css.flatten, ?_, FieldsC.keep kk fs _ g3⟩ kk)
  have hfl : ∀ l : List (List Value), (∀ x ∈ l, x.length = 8) → l.flatten.length = l.length * 8 := by
    intro l
    induction l with
    | nil => intro _; rfl
    | cons x l ih => intro h; rw [List.flatten_cons, List.length_append, ih fun y hy => h y (by simp [hy]), h x (by simp), List.length_cons]; omega
  refine ⟨by rw [hfl css g2, g5, g4], .inr ⟨w.heap.size, 0, acc.length, by rw [g4], hh.lt, by omega, fun i hi => ?_⟩⟩
  rw [Nat.zero_add]
  have hi' : i < css.flatten.length := by rw [hfl css g2, g5, ← g4]; exact hi
  rw [List.getElem?_eq_getElem hi']
  exact hh.cell (List.getElem?_eq_getElem hi')

theorem FbsOk.len : ∀ {fbs : List FB} {fs : List PF}, FbsOk P fbs fs → fs.length = fbs.length
  | [], _, h => by simp only [FbsOk] at h; subst h; rfl
  | _ :: r, _, ⟨f, fr, e, _, _, h⟩ => by subst e; simp [FbsOk.len h]

theorem fieldsFn_gives (S : SpFacts P c s) (B : FbFacts P s) {f : Nat} {fbs : List FB} {fs : List PF} (hT : treeIn P f noOrc [] 0 = gFieldsFn s fbs) (hf : FbsOk P fbs fs) (h0 : Nat.blt 0 fbs.length = true) (h1 : Nat.ble fbs.length 1000 = true) : FieldsFn P f fs := by
  intro w
  have hl := hf.len
  have q0 : 0 < fbs.length := Nat.le_of_ble_eq_true h0
  have q1 : fbs.length ≤ 1000 := Nat.le_of_ble_eq_true h1
  refine gives_in (ρ := en []) S.rd.mix hT (Nat.le_refl _) rfl (by simp) ?_
  refine gFB_sem S B fbs fs 0 [] [] (en []) w hf rfl (fun n' acc' ρ' w' _ kk _ ha hlen => ?_) rfl
  rw [List.nil_append] at ha hlen
  exact s_fieldList S ha (by omega) (by omega) fun v w2 hv k2 => s_ret1 ⟨by rw [show ev (ext ρ' n' [v]) (.tmp n') = v from ext_at]; exact hv, kk.trans k2⟩

theorem msgFn_gives (S : SpFacts P c s) (B : FbFacts P s) {f : Nat} {fbs : List FB} {fs : List PF} {x : Int} (hT : treeIn P f noOrc [] 0 = gMsgFn s fbs x) (hf : FbsOk P fbs fs) (h0 : Nat.blt 0 fbs.length = true) (h1 : Nat.ble fbs.length 1000 = true) : MsgFn P f fs x := by
  intro w
  have hl := hf.len
  have q0 : 0 < fbs.length := Nat.le_of_ble_eq_true h0
  have q1 : fbs.length ≤ 1000 := Nat.le_of_ble_eq_true h1
  refine gives_in (ρ := en []) S.rd.mix hT (Nat.le_refl _) rfl (by simp) ?_
  refine s_alloc B.zero fun w1 hz1 k1 z1 => ?_
  refine gFB_sem S B fbs fs 1 [] [] _ w1 hf rfl (fun n' acc' ρ' w' hn kk hρ ha hlen => ?_) rfl
  rw [List.nil_append] at ha hlen
  have hr0 : ρ' 0 = ptr w.heap.size := hρ (.tmp 0) (by simp [opBelow])
  refine s_fieldList S ha (by omega) (by omega) fun v w2 hv k2 => ?_
  have hone : v.oneCell' = true := by
    obtain ⟨_, h1, _⟩ := hv
    exact h1.one
  have ev1 : ev (ext ρ' n' [v]) (.tmp n') = v := ext_at
  refine s_val (v_build (cells := [v, .int .i64 x]) B.msg (fun p hp => ?_) ?_) ?_
  · simp only [List.mem_cons, List.not_mem_nil, or_false] at hp
    rcases hp with rfl | rfl
    · rfl
    · rw [ev1]; exact hone
  · simp only [List.map_cons, List.map_nil, ev1]
    rfl
  have hz2 := (hz1.keep kk (by simp)).keep k2 (by simp)
  refine s_storeAll (b := w.heap.size) (old := [.slice none 0 0, .int .i64 0]) (cs := [v, .int .i64 x]) S.msg ?_ ?_ hz2 rfl (fun u hu => ?_) fun w3 h3 k3 => ?_
  · show ext _ _ _ 0 = _
    rw [ext_lt (by omega), ext_lt (by omega)]
    exact hr0
  · rw [show ev (ext (ext ρ' n' [v]) (n' + 1) [.agg ⟨[v, .int .i64 x]⟩]) (.tmp (n' + 1)) = .agg ⟨[v, .int .i64 x]⟩ from ext_at]
    rfl
  · simp only [List.mem_cons, List.not_mem_nil, or_false] at hu
    rcases hu with rfl | rfl
    · exact hone
    · rfl
  have k03 : Keeps [] w w3 := ((((k1.trans kk).trans k2).mono (by simp)).trans k3).less fun x hx => .inr (by simp only [List.mem_singleton] at hx; omega)
  refine s_retAgg (b := w.heap.size) (cs := [v, .int .i64 x]) ?_ h3 S.msg ⟨⟨v, rfl, ?_⟩, k03⟩
  · show ext _ _ _ 0 = _
    rw [ext_lt (by omega), ext_lt (by omega), ext_lt (by omega)]
    exact hr0
  · obtain ⟨cs, f1, f2⟩ := hv
    exact ⟨cs, Ro.keepSmall hz2 (by decide) k3 f1, FieldsC.keepSmall hz2 (by decide) k3 fs cs f2⟩

end

end Go.Kf


namespace Go.Kf

open Go

/-- Octets appended to octets. -/
def WrPost (w : World) (v : Value) (l enc : List UInt8) (u : Value) (w' : World) : Prop := Own w' u 1 (l ++ enc).length (bcells (l ++ enc)) ∧ Keeps (blkOf v) w w' ∧ ∀ b ∈ blkOf u, b ∈ blkOf v ∨ w.heap.size ≤ b

theorem WrPost.trans {w w1 w2 : World} {v u x : Value} {l e1 e2 : List UInt8} (h1 : WrPost w v l e1 u w1) (h2 : WrPost w1 u (l ++ e1) e2 x w2) : WrPost w v l (e1 ++ e2) x w2 := by
  have hs := h1.2.1.size
  refine ⟨by rw [← List.append_assoc]; exact h2.1, ?_, fun b hb => ?_⟩
  · refine (Keeps.trans (h1.2.1.mono (List.subset_append_left _ (blkOf u))) (h2.2.1.mono (List.subset_append_right (blkOf v) _))).less fun b hb => ?_
    rcases List.mem_append.1 hb with hb | hb
    · exact .inl hb
    · exact h1.2.2 b hb
  · rcases h2.2.2 b hb with h | h
    · exact h1.2.2 b h
    · exact .inr (by omega)

theorem WrPost.under {w w1 w2 : World} {v u : Value} {l e : List UInt8} (hk : Keeps [] w w1) (h : WrPost w1 v l e u w2) : WrPost w v l e u w2 := by
  have hs := hk.size
  exact ⟨h.1, (hk.mono (by simp)).trans h.2.1, fun b hb => (h.2.2 b hb).imp id fun h => by omega⟩

theorem WrPost.same {w : World} {v : Value} {l : List UInt8} (h : Own w v 1 l.length (bcells l)) : WrPost w v l [] v w := ⟨by rw [List.append_nil]; exact h, .refl, fun _ hb => .inl hb⟩

theorem WrPost.more {w w1 w2 : World} {v u : Value} {l e : List UInt8} (h : WrPost w v l e u w1) (hk : Keeps [] w1 w2) : WrPost w v l e u w2 :=
  ⟨h.1.keep hk (by simp), h.2.1.trans (hk.mono (by simp)), h.2.2⟩

def appB (c : Nums) (x y : Operand) (t : Nat) : Op := .call { callee := .builtin .append, args := ⟨[x, y]⟩, argTypes := ⟨[c.tBytes, t]⟩ }

section

variable {P : Program} {c : Nums} {s : SN} {R : Value → World → Prop} {Γ : List (List Value → World → Prop)} {n : Nat} {ρ : Nat → Value} {w : World} {k : Tr}

theorem a_appW {x y : Operand} {v u : Value} {l e : List UInt8} {tx : Nat} (S : SpFacts P c s) (hx : ev ρ x = v) (hy : ev ρ y = u) (ho : Own w v 1 l.length (bcells l)) (hs : Src P 1 tx u e.length (bcells e) w) (hl : (l ++ e).length ≤ maxW) :
    ∃ v' w', runOp P ρ (appB c x y tx) w = .ok (.value v') w' ∧ WrPost w v l e v' w' := by
  obtain ⟨inf, hi, hz, hsz, hb⟩ := S.zero8
  rw [List.length_append] at hl
  obtain ⟨v', w', h1, h2, h3, h4⟩ := a_append (P := P) (ρ := ρ) (w := w) (tx := tx) S.rd.bytes hi hz hsz rfl hx hy ho hs (by
    calc (l.length + e.length) * inf.bytes ≤ maxW * 8 := Nat.mul_le_mul hl hb
      _ ≤ 140737488355328 := by decide) (by unfold maxW at hl; omega)
  exact ⟨v', w', h1, by rw [List.length_append, bcells_append]; exact h2, h3, h4⟩

theorem s_appW {x y : Operand} {v u : Value} {l e : List UInt8} {tx : Nat} {Fo : List (Op × Nat)} (S : SpFacts P c s) (hx : ev ρ x = v) (hy : ev ρ y = u) (ho : Own w v 1 l.length (bcells l)) (hs : Src P 1 tx u e.length (bcells e) w) (hl : (l ++ e).length ≤ maxW)
    (hk : ∀ v' w', WrPost w v l e v' w' → (∀ p ∈ Fo, runOp P ρ p.1 w' = .ok (.value (ρ p.2)) w') ∧ k.sem P R Γ (n + 1) (ext ρ n [v']) w') : (Tr.op (appB c x y tx) none Fo k).sem P R Γ n ρ w := by
  obtain ⟨v', w', h1, h2⟩ := a_appW S hx hy ho hs hl
  exact s_act h1 (hk v' w' h2).1 (hk v' w' h2).2

end

end Go.Kf


namespace Go.Kf

open Go

def OctA (A : Nat → Prop) (w : World) (nl : Bool) (l : List UInt8) (v : Value) : Prop := Reads w v 1 l.length (bcells l) ∧ nilOf v = nl ∧ ∀ b ∈ blkOf v, A b

def NStrA (A : Nat → Prop) (w : World) : Option (List UInt8) → Value → Prop
  | none, v => v = .pointer none
  | some l, v => ∃ b, A b ∧ v = ptr b ∧ Has w b [.string (strOf l)]

def EntA (A : Nat → Prop) (w : World) (e : MapEntry) (p : Nat × List UInt8) : Prop := e.key = .int .u32 p.1 ∧ Ro w e.val 1 p.2.length (bcells p.2) ∧ (p.2.length ≠ 0 → ∀ b ∈ blkOf e.val, A b)

def EntsA (A : Nat → Prop) (w : World) : List MapEntry → TM → Prop
  | [], [] => True
  | e :: es, p :: m => EntA A w e p ∧ EntsA A w es m
  | _, _ => False

def TagsA (A : Nat → Prop) (w : World) (m : TM) (v : Value) : Prop :=
  (v = .map none ∧ m = []) ∨ ∃ b es clock, A b ∧ v = .map (some b) ∧ w.heap[b]? = some (.map es clock) ∧ EntsA A w es.toList m ∧ es.toList.Pairwise (fun a b => a.born < b.born) ∧ (∀ e ∈ es.toList, e.born < clock) ∧
    (∀ p ∈ m, p.1 < 2 ^ 32) ∧ (m.map (·.1)).Nodup ∧ m ≠ []

mutual
def FAtA (A : Nat → Prop) (w : World) : FV → List Value → Prop
  | .one v, cs => cs = [v] ∧ v.oneCell' = true
  | .uuid l, cs => cs = bcells l ∧ l.length = 16
  | .text l, cs => cs = [.string (strOf l)]
  | .ntext o, cs => ∃ v, cs = [v] ∧ NStrA A w o v
  | .octs nl l, cs => ∃ v, cs = [v] ∧ OctA A w nl l v
  | .tags m, cs => ∃ v, cs = [v] ∧ TagsA A w m v
  | .list nl rows, cs => (nl = true ∧ cs = [.slice none 0 0] ∧ rows = []) ∨ (nl = false ∧ ∃ b cap rcs, A b ∧ cs = [.slice (some ⟨b, 0, none⟩) rows.length cap] ∧ rows.length ≤ cap ∧ Has w b rcs ∧ RowsA A w rows rcs)
  | .ptr none, cs => cs = [.pointer none]
  | .ptr (some fs), cs => ∃ b ccs, A b ∧ cs = [Kf.ptr b] ∧ Has w b ccs ∧ FsA A w fs ccs
  | .sub fs, cs => FsA A w fs cs
def FsA (A : Nat → Prop) (w : World) : List FV → List Value → Prop
  | [], cs => cs = []
  | f :: fs, cs => ∃ c1 c2, cs = c1 ++ c2 ∧ FAtA A w f c1 ∧ FsA A w fs c2
def RowsA (A : Nat → Prop) (w : World) : List (List FV) → List Value → Prop
  | [], _ => True
  | r :: rs, cs => ∃ c1 c2, cs = c1 ++ c2 ∧ FsA A w r c1 ∧ RowsA A w rs c2
end

section

variable {A A' : Nat → Prop} {w w' : World} {M : List Nat}

theorem OctA.keep {nl : Bool} {l : List UInt8} {v : Value} (h : OctA A w nl l v) (hk : Keeps M w w') (hm : ∀ b ∈ M, ¬ A b) (hA : ∀ b, A b → b < w.heap.size → A' b) : OctA A' w' nl l v :=
  ⟨h.1.keep hk fun b hb hbM => hm b hbM (h.2.2 b hb), h.2.1, fun b hb => hA b (h.2.2 b hb) (h.1.lt b hb)⟩

theorem NStrA.keep {o : Option (List UInt8)} {v : Value} (h : NStrA A w o v) (hk : Keeps M w w') (hm : ∀ b ∈ M, ¬ A b) (hA : ∀ b, A b → b < w.heap.size → A' b) : NStrA A' w' o v := by
  cases o with
  | none => exact h
  | some l => obtain ⟨b, h1, e, hh⟩ := h; exact ⟨b, hA b h1 hh.lt, e, hh.keep hk fun hb => hm b hb h1⟩

theorem EntsA.imp (h : ∀ e p, EntA A w e p → EntA A' w' e p) : ∀ {es : List MapEntry} {m : TM}, EntsA A w es m → EntsA A' w' es m
  | [], [], _ => trivial
  | _ :: _, _ :: _, hh => ⟨h _ _ hh.1, EntsA.imp h hh.2⟩
  | [], _ :: _, hh => hh.elim
  | _ :: _, [], hh => hh.elim

theorem EntA.keep {e : MapEntry} {p : Nat × List UInt8} (h : EntA A w e p) (hk : Keeps M w w') (hm : ∀ b ∈ M, ¬ A b) (hA : ∀ b, A b → b < w.heap.size → A' b) : EntA A' w' e p := by
  obtain ⟨h1, h2, h3⟩ := h
  exact ⟨h1, h2.keepM hk fun hn b hb hbM => hm b hbM (h3 hn b hb), fun hn b hb => hA b (h3 hn b hb) (h2.blk hn b hb)⟩

theorem TagsA.keep {m : TM} {v : Value} (h : TagsA A w m v) (hk : Keeps M w w') (hm : ∀ b ∈ M, ¬ A b) (hA : ∀ b, A b → b < w.heap.size → A' b) : TagsA A' w' m v := by
  rcases h with h | ⟨b, es, clock, hb, hv, hh, he, hr⟩
  · exact .inl h
  · have hlt : b < w.heap.size := (Array.getElem?_eq_some_iff.1 hh).1
    refine .inr ⟨b, es, clock, hA b hb hlt, hv, ?_, he.imp fun e p h => h.keep hk hm hA, hr⟩
    rw [hk.block b hlt fun hbM => hm b hbM hb]
    exact hh

mutual
theorem FAtA.keep (hk : Keeps M w w') (hm : ∀ b ∈ M, ¬ A b) (hA : ∀ b, A b → b < w.heap.size → A' b) : ∀ (f : FV) (cs : List Value), FAtA A w f cs → FAtA A' w' f cs
  | .one _, _, h => h
  | .uuid _, _, h => h
  | .text _, _, h => h
  | .ntext _, _, ⟨v, e, h⟩ => ⟨v, e, h.keep hk hm hA⟩
  | .octs _ _, _, ⟨v, e, h⟩ => ⟨v, e, h.keep hk hm hA⟩
  | .tags _, _, ⟨v, e, h⟩ => ⟨v, e, h.keep hk hm hA⟩
  | .list _ _, _, .inl h => .inl h
  | .list _ rows, _, .inr ⟨e, b, cap, rcs, hb, hc, hl, hh, hr⟩ => .inr ⟨e, b, cap, rcs, hA b hb hh.lt, hc, hl, hh.keep hk (fun hbM => hm b hbM hb), RowsA.keep hk hm hA rows rcs hr⟩
  | .ptr none, _, h => h
  | .ptr (some fs), _, ⟨b, ccs, hb, hc, hh, hf⟩ => ⟨b, ccs, hA b hb hh.lt, hc, hh.keep hk (fun hbM => hm b hbM hb), FsA.keep hk hm hA fs ccs hf⟩
  | .sub fs, cs, h => FsA.keep hk hm hA fs cs h
theorem FsA.keep (hk : Keeps M w w') (hm : ∀ b ∈ M, ¬ A b) (hA : ∀ b, A b → b < w.heap.size → A' b) : ∀ (fs : List FV) (cs : List Value), FsA A w fs cs → FsA A' w' fs cs
  | [], _, h => h
  | f :: fs, _, ⟨c1, c2, e, h1, h2⟩ => ⟨c1, c2, e, FAtA.keep hk hm hA f c1 h1, FsA.keep hk hm hA fs c2 h2⟩
theorem RowsA.keep (hk : Keeps M w w') (hm : ∀ b ∈ M, ¬ A b) (hA : ∀ b, A b → b < w.heap.size → A' b) : ∀ (rs : List (List FV)) (cs : List Value), RowsA A w rs cs → RowsA A' w' rs cs
  | [], _, h => h
  | r :: rs, _, ⟨c1, c2, e, h1, h2⟩ => ⟨c1, c2, e, FsA.keep hk hm hA r c1 h1, RowsA.keep hk hm hA rs c2 h2⟩
end

mutual
theorem FAtA.len : ∀ (f : FV) (cs : List Value), FAtA A w f cs → cs.length = f.wd
  | .one _, _, ⟨e, _⟩ => by subst e; rfl
  | .uuid _, _, ⟨e, h⟩ => by subst e; simp [FV.wd, bcells_length, h]
  | .text _, _, e => by simp only [FAtA] at e; subst e; rfl
  | .ntext _, _, ⟨v, e, _⟩ => by subst e; rfl
  | .octs _ _, _, ⟨v, e, _⟩ => by subst e; rfl
  | .tags _, _, ⟨v, e, _⟩ => by subst e; rfl
  | .list _ _, _, .inl ⟨_, e, _⟩ => by subst e; rfl
  | .list _ _, _, .inr ⟨_, _, _, _, _, e, _⟩ => by subst e; rfl
  | .ptr none, _, e => by simp only [FAtA] at e; subst e; rfl
  | .ptr (some _), _, ⟨_, _, _, e, _⟩ => by subst e; rfl
  | .sub fs, cs, h => FsA.len fs cs h
theorem FsA.len : ∀ (fs : List FV) (cs : List Value), FsA A w fs cs → cs.length = wds fs
  | [], _, h => by simp only [FsA] at h; subst h; rfl
  | f :: fs, _, ⟨c1, c2, e, h1, h2⟩ => by subst e; simp [wds, FAtA.len f c1 h1, FsA.len fs c2 h2]
end

/-- The field i, its cells, and what is about it. -/
theorem FsA.split : ∀ {fs : List FV} {cs : List Value} {i : Nat} {f : FV}, FsA A w fs cs → fs[i]? = some f → ∃ a m z, cs = a ++ m ++ z ∧ a.length = wds (fs.take i) ∧ FAtA A w f m ∧
    ∀ (f' : FV) (m' : List Value), FAtA A w f' m' → FsA A w (fs.set i f') (a ++ m' ++ z)
  | [], _, _, _, _, hi => by simp at hi
  | g :: fs, _, 0, f, ⟨c1, c2, e, h1, h2⟩, hi => by
    simp only [List.getElem?_cons_zero, Option.some.injEq] at hi
    subst hi
    exact ⟨[], c1, c2, by simpa using e, rfl, h1, fun f' m' h' => ⟨m', c2, by simp, h', h2⟩⟩
  | g :: fs, _, i + 1, f, ⟨c1, c2, e, h1, h2⟩, hi => by
    simp only [List.getElem?_cons_succ] at hi
    obtain ⟨a, m, z, e2, hl, hf, hset⟩ := FsA.split h2 hi
    refine ⟨c1 ++ a, m, z, by rw [e, e2]; simp, ?_, hf, fun f' m' h' => ⟨c1, a ++ m' ++ z, by simp, h1, hset f' m' h'⟩⟩
    simp [wds, List.take_succ_cons, FAtA.len g c1 h1, hl]

theorem RowsA.at {sz : Nat} : ∀ {rows : List (List FV)} {cs : List Value} {j : Nat}, RowsA A w rows cs → (∀ r ∈ rows, wds r = sz) → (hj : j < rows.length) → ∃ a m z, cs = a ++ m ++ z ∧ a.length = j * sz ∧ FsA A w rows[j] m
  | [], _, _, _, _, hj => by simp at hj
  | r :: rows, _, 0, ⟨c1, c2, e, h1, _⟩, _, _ => ⟨[], c1, c2, by simpa using e, by simp, h1⟩
  | r :: rows, _, j + 1, ⟨c1, c2, e, h1, h2⟩, hs, hj => by
    obtain ⟨a, m, z, e2, ha, hm⟩ := RowsA.at (j := j) h2 (fun x hx => hs x (List.mem_cons_of_mem _ hx)) (by simpa using hj)
    refine ⟨c1 ++ a, m, z, by rw [e, e2]; simp, ?_, by simpa using hm⟩
    rw [List.length_append, ha, FsA.len r c1 h1, hs r List.mem_cons_self, Nat.add_mul]
    omega

theorem NStrA.at {o : Option (List UInt8)} {v : Value} (h : NStrA A w o v) : NStrAt w 0 o v := by
  cases o with
  | none => exact h
  | some l => obtain ⟨b, _, e, hh⟩ := h; exact ⟨b, Nat.zero_le _, e, hh⟩

theorem EntsA.r : ∀ {es : List MapEntry} {m : TM}, EntsA A w es m → EntsR w es m
  | [], [], _ => trivial
  | _ :: _, _ :: _, hh => ⟨⟨hh.1.1, hh.1.2.1⟩, EntsA.r hh.2⟩
  | [], _ :: _, hh => hh.elim
  | _ :: _, [], hh => hh.elim

theorem TagsA.r {m : TM} {v : Value} (h : TagsA A w m v) : TagsR w m v := by
  rcases h with h | ⟨b, es, clock, hb, hv, hh, he, hr⟩
  · exact .inl h
  · exact .inr ⟨b, es, clock, hv, hh, he.r, hr⟩

end

/-- Any blocks at all. -/
def anyB : Nat → Prop := fun _ => True

section

variable {D lo : Nat} {w : World}

theorem EntsAt.toA : ∀ {es : List MapEntry} {m : TM}, EntsAt D w lo es m → EntsA anyB w es m
  | [], [], _ => trivial
  | _ :: _, _ :: _, hh => ⟨⟨hh.1.1, by obtain ⟨nl, h⟩ := hh.1.2; exact ⟨Ro.of_reads h.1, fun _ _ _ => trivial⟩⟩, EntsAt.toA hh.2⟩
  | [], _ :: _, hh => hh.elim
  | _ :: _, [], hh => hh.elim

theorem TagsAt.toA {m : TM} {v : Value} (h : TagsAt D w lo m v) : TagsA anyB w m v := by
  rcases h with h | ⟨b, es, clock, hb, hv, hh, he, hr⟩
  · exact .inl h
  · exact .inr ⟨b, es, clock, trivial, hv, hh, he.toA, hr⟩

mutual
theorem FAt.any {D lo : Nat} : ∀ (f : FV) (cs : List Value), FAt D w lo f cs → FAtA anyB w f cs
  | .one _, _, h => h
  | .uuid _, _, h => h
  | .text _, _, h => h
  | .ntext none, _, h => h
  | .ntext (some _), _, ⟨v, e, b, _, h⟩ => ⟨v, e, b, trivial, h⟩
  | .octs _ _, _, ⟨v, e, h⟩ => ⟨v, e, h.1, h.2.1, fun _ _ => trivial⟩
  | .tags _, _, ⟨v, e, h⟩ => ⟨v, e, h.toA⟩
  | .list _ _, _, .inl h => .inl h
  | .list _ rows, _, .inr ⟨e, b, cap, rcs, _, hc, hl, hh, hr⟩ => .inr ⟨e, b, cap, rcs, trivial, hc, hl, hh, RowsAt.any rows rcs hr⟩
  | .ptr none, _, h => h
  | .ptr (some fs), _, ⟨b, ccs, _, hc, hh, hf⟩ => ⟨b, ccs, trivial, hc, hh, FsAt.any fs ccs hf⟩
  | .sub fs, cs, h => FsAt.any fs cs h
theorem FsAt.any {D lo : Nat} : ∀ (fs : List FV) (cs : List Value), FsAt D w lo fs cs → FsA anyB w fs cs
  | [], _, h => h
  | f :: fs, _, ⟨c1, c2, e, h1, h2⟩ => ⟨c1, c2, e, FAt.any f c1 h1, FsAt.any fs c2 h2⟩
theorem RowsAt.any {D lo : Nat} : ∀ (rs : List (List FV)) (cs : List Value), RowsAt D w lo rs cs → RowsA anyB w rs cs
  | [], _, h => h
  | r :: rs, _, ⟨c1, c2, e, h1, h2⟩ => ⟨c1, c2, e, FsAt.any r c1 h1, RowsAt.any rs c2 h2⟩
end

end

end Go.Kf

namespace Go.Kf

open Go

/-- Octets that are made, by one function more. -/
theorem MadeO.post {w0 w w' : World} {v u : Value} {l e : List UInt8} (h : MadeO w0 w v l) (hp : WrPost w v l e u w') : MadeO w0 w' u (l ++ e) :=
  ⟨hp.1, fun b hb => (hp.2.2 b hb).elim (h.2.1 b) fun h' => Nat.le_trans h.2.2.size h', ((h.2.2.mono (by simp)).trans hp.2.1).less fun b hb => .inr (h.2.1 b hb)⟩

section

variable {P : Program} {c : Nums} {s : SN} {R : Value → World → Prop} {Γ : List (List Value → World → Prop)} {n : Nat} {ρ : Nat → Value} {w : World} {k : Tr}

theorem NStrAt.kept {w w' : World} {o : Option (List UInt8)} {v : Value} (h : NStrAt w 0 o v) (hk : Keeps [] w w') : NStrAt w' 0 o v := by
  cases o with
  | none => exact h
  | some l => obtain ⟨b, hb, e, hh⟩ := h; exact ⟨b, hb, e, hh.keep hk (by simp)⟩

end

end Go.Kf




namespace Go.Kf

open Go

/-- A reading function reads these octets to these values. -/
def ReadsTo (P : Program) (c : Nums) (fRead : Nat) (ver : Int) (mid0 : List Value) (e0 : Value) (l : List UInt8) (fs : List FV) : Prop := ∀ (w : World) (V D : Nat) (src : Value), Has w V (.int .i16 ver :: mid0) → Reads w src 1 l.length (bcells l) → nilOf src = l.isEmpty → (∀ b ∈ blkOf src, b = D) → D < w.heap.size → V ≠ D → ErrAt w c.gErr e0 → c.gErr ≠ V →
  Gives P fRead [ptr V, src] w fun u w' => Keeps [V] w w' ∧ u = .nilIface ∧ ∃ mid, Has w' V mid ∧ FsAt D w' w.heap.size fs mid

theorem readsTo_of {P : Program} {c : Nums} {e : Fns} {f g S fDef : Nat} {ds : List Dset} {ls : List Nat} {ss : List Step} {v : Int} {uns : Bool} {fs0 fs1 : List FV} {mid0 mid1 : List Value} (F : RdFacts P c) (A : RfFacts P c S) (hOk : hasRet ss = true → OkGives P e.ok) (hCo : CompGives P e.complete c.gErr)
    (hT : treeIn P g (orcV 9 v) [.tmp 0, .tmp 1, .const (.bool uns)] 3 = gReadFrom c e S fDef v ss) (hW : treeIn P f noOrc [.tmp 0, .tmp 1] 2 = tWrap g uns) (hDef : DefSets P fDef ls ds) (hok : StepsOk P c S ls ss) (hdeep : deepsOk ss = true) (hsh : shapesOk fs0 ds = true) (h0 : fs0.map FV.wd = ls) (h01 : applyD ds fs0 = fs1) (hidx : idxOk fs1 ss = true)
    (himm0 : immL fs0 = some (.int .i16 v :: mid0)) (himm : immL fs1 = some mid1) (hv : fs1[0]? = some (.one (.int .i16 v))) (hl1 : fs1.map FV.wd = ls) {e0 : Value} {l : List UInt8} {fs : List FV} {r : Rd} (hl : l.length ≤ 1073741824) (hrun : runSteps ss fs1 ⟨l, false, l.isEmpty⟩ = some (fs, r)) (hbad : r.bad = false) : ReadsTo P c f v mid0 e0 l fs := by
  intro w V D src hV hr hn hb hD hVD he hgV
  refine wrap_gives F.mix hW ((readFrom_gives F A hOk hCo hT hDef hok hdeep hsh h0 h01 hidx himm hv hl1 hV (fun D lo => immL_at himm0 D w lo) hr hb hD hVD he hgV hl).mono fun u w' ⟨kk, hp⟩ => ⟨kk, ?_⟩)
  rw [hn, hrun] at hp
  simp only [RfPost, hbad, Bool.false_eq_true, if_false] at hp
  exact hp

/-- New, the version, a copy of the octets, the reading; what follows. -/
def gDoor (c : Nums) (n fNew fSet fRead : Nat) (src : Operand) (bad good : Tr) : Tr :=
  .op (callOp fNew []) none [] <| .op (.convert c.tInt c.tI16 (.tmp 0)) none [] <| .op (callOp fSet [.tmp n, .tmp (n + 1)]) none [] <| .op (.call { callee := .builtin .append, args := ⟨[nilV, src]⟩, argTypes := ⟨[c.tBytes, c.tBytes]⟩ }) none [] <|
  .op (callOp fRead [.tmp n, .tmp (n + 3)]) none [] <| .op (.binOp .neq c.tErr (.tmp (n + 4)) (.const .nilIface) c.tErr) none [] <| .cond (.tmp (n + 5)) bad good

section

variable {P : Program} {c : Nums} {s : SN} {R : Value → World → Prop} {Γ : List (List Value → World → Prop)} {n : Nat} {ρ : Nat → Value} {w : World}

theorem s_door {fNew fSet fRead S : Nat} {mid : List Value} {e0 data : Value} {ver : Int} {l : List UInt8} {fs : List FV} {src : Operand} {bad good : Tr} (F : RdFacts P c) (O : OctFacts P c) (hn0 : 0 < n) (hv0 : ρ 0 = .int .i64 ver) (hsrc : ev ρ src = data) (hbs : opBelow n src) (herr : ∃ ms, P.underlying c.tErr = some (.interface ms)) (hver : IntKind.i16.wrap ver = ver) (hN : NewOk P fNew (.int .i16 0 :: mid))
    (hone : oneTy P c.tI16 = true) (hS0 : fieldOff P S 0 = some 0) (hSet : treeIn P fSet noOrc [.tmp 0, .tmp 1] 2 = tSetVersion c S) (hRT : ReadsTo P c fRead ver mid e0 l fs) (hl : l.length ≤ 1073741824) (hr : DataIn w data l) (he : ErrAt w c.gErr e0)
    (hk : ∀ (w' : World) (V D lo : Nat) (mid' : List Value) (ρ' : Nat → Value), Keeps [] w w' → w.heap.size ≤ V ∧ V ≠ D ∧ V < lo → Has w' V mid' → FsAt D w' lo fs mid' → ρ' n = ptr V → (∀ y, opBelow n y → ev ρ' y = ev ρ y) → good.sem P R Γ (n + 6) ρ' w') :
    (gDoor c n fNew fSet fRead src bad good).sem P R Γ n ρ w := by
  unfold gDoor
  refine s_callx (hN w) rfl fun v w2 ⟨hv, h2, k2⟩ => ?_
  subst hv
  refine s_val (v_conv (k1 := .i64) (a := ver) F.int F.i16 (by show ext _ _ _ 0 = _; rw [ext_lt hn0]; exact hv0)) ?_
  rw [hver]
  refine s_callx (setVersion_gives F hone hS0 hSet h2 ver) (by
    simp only [List.map_cons, List.map_nil]
    congr 1
    · show ext _ _ _ n = _
      rw [ext_lt (by omega)]
      exact ext_at
    · congr 1
      exact ext_at) fun u3 w3 ⟨h3, k3⟩ => ?_
  have s2 := k2.size
  have s3 := k3.size
  have k03 : Keeps [] w w3 := ((k2.mono (by simp)).trans k3).less fun x hx => .inr (by simp only [List.mem_singleton] at hx; omega)
  have hr3 := hr.keep k03
  have hsrc3 : ev (ext (ext (ext ρ n [ptr w.heap.size]) (n + 1) [.int .i16 ver]) (n + 2) [u3]) src = data := by
    rw [ev_ext' hbs (by omega), ev_ext' hbs (by omega), ev_ext hbs]; exact hsrc
  obtain ⟨sv, w4, e4, ho4, k4, hb4, hnil⟩ := copy_octets (ρ := ext (ext (ext ρ n [ptr w.heap.size]) (n + 1) [.int .i16 ver]) (n + 2) [u3]) (x := src) (v := data) F O hsrc3 hr3 hl
  refine s_act e4 (fun p hp => (by cases hp)) ?_
  have h4 := h3.keep k4 (by simp)
  have k04 := k03.trans k4
  have he4 := he.keep k04 (by simp)
  have s4 := k4.size
  have hgl := he.2
  have hV4 := h4.lt
  obtain ⟨D, hD1, hD2, hD3⟩ : ∃ D, (∀ b ∈ blkOf sv, b = D) ∧ D < w4.heap.size ∧ w.heap.size ≠ D := by
    rcases ho4.2 with ⟨rfl, _⟩ | ⟨b, cap, spare, rfl, hh, _⟩
    · exact ⟨c.gErr, (fun b hb => by cases hb), by omega, by omega⟩
    · exact ⟨b, (fun x hx => by simpa [blkOf] using hx), hh.lt, by have := hb4 b (by simp [blkOf]); have := h3.lt; omega⟩
  refine s_callx (hRT w4 w.heap.size D sv h4 ho4.reads hnil hD1 hD2 hD3 he4 (by omega)) (by
    simp only [List.map_cons, List.map_nil]
    congr 1
    · show ext _ _ _ n = _
      rw [ext_lt (by omega), ext_lt (by omega), ext_lt (by omega)]
      exact ext_at
    · congr 1
      exact ext_at) fun u w5 ⟨k5, hu, mid', hm, hf⟩ => ?_
  subst hu
  have k05 : Keeps [] w w5 := ((k04.mono (by simp)).trans k5).less fun x hx => .inr (by simp only [List.mem_singleton] at hx; omega)
  obtain ⟨ms, hms⟩ := herr
  refine s_val (v_neqNil (v := .nilIface) (r := false) hms ext_at (.inl ⟨rfl, rfl⟩)) ?_
  refine s_cond (b := false) ext_at (fun h => by cases h) fun _ => ?_
  refine hk w5 w.heap.size D w4.heap.size mid' _ k05 ⟨Nat.le_refl _, hD3, hV4⟩ hm hf ?_ fun y hy => ?_
  · rw [ext_lt (by omega), ext_lt (by omega), ext_lt (by omega), ext_lt (by omega), ext_lt (by omega)]
    exact ext_at
  · rw [ev_ext' hy (by omega), ev_ext' hy (by omega), ev_ext' hy (by omega), ev_ext' hy (by omega), ev_ext' hy (by omega), ev_ext hy]

end

end Go.Kf


namespace Go.Kf

open Go

section

variable {P : Program} {c : Nums} {s : SN} {w : World}

theorem DataIn.of_own {v : Value} {l : List UInt8} (h : Own w v 1 l.length (bcells l)) : DataIn w v l := by
  rcases h.2 with ⟨rfl, h0⟩ | ⟨b, cap, spare, rfl, hh, hc, _, _⟩
  · exact .inl ⟨rfl, List.eq_nil_of_length_eq_zero h0⟩
  · refine .inr ⟨_, cap, rfl, fun i hi => ?_⟩
    rw [addr_add, Nat.zero_add]
    refine hh.cell ?_
    rw [List.getElem?_append_left (by rw [bcells_length]; exact hi)]
    simp [bcells, hi]

theorem FieldsV.keepSmall {w' : World} {b : Nat} {ds : List Value} (hb : Has w b ds) (hs : ds.length < 8) (hk : Keeps [b] w w') {fs : List PF} {v : Value} (h : FieldsV w fs v) : FieldsV w' fs v := by
  obtain ⟨cs, h1, h2⟩ := h
  exact ⟨cs, h1.keepSmall hb hs hk, FieldsC.keepSmall hb hs hk fs cs h2⟩

end

end Go.Kf


namespace Go.Kf

open Go

/-- The fields that have a default other than nought have it. -/
def pDefs : List PF → PT → Nat → Bool
  | [], _, _ => true
  | f :: r, t, i => (decide (f.dflt = 0) || decide ((pAt t i).n = pNumber f.kind f.dflt)) && pDefs r t (i + 1)

def Dset.flat : Dset → Bool
  | .set .. => true
  | .sub .. => false

def Dset.sets (p : Nat) (f : PF) : Dset → Bool
  | .set i _ _ v => Nat.beq i p && decide ((tellPrim (.one v)).n = pNumber f.kind f.dflt)
  | .sub .. => false

/-- Is a field with a default set to it, and told so? -/
def dfPlain : List PF → List TD → List Dset → Nat → Bool
  | [], _, _, _ => true
  | f :: r, d :: ds, dss, p => (decide (f.dflt = 0) || (match d with
    | .prim i => Nat.beq i p && dss.any (Dset.sets p f)
    | _ => false)) && dfPlain r ds dss (p + 1)
  | _ :: _, [], _, _ => false

def dsFlat : List Dset → Bool
  | [] => true
  | d :: ds => d.flat && ds.all (fun t => !Nat.beq t.idx d.idx) && dsFlat ds

theorem shapes_flat {fs : List FV} : ∀ {ds : List Dset}, dsFlat ds = true → shapesOk fs ds = true
  | [], _ => rfl
  | d :: ds, h => by
    simp only [dsFlat, Bool.and_eq_true] at h
    simp only [shapesOk, Bool.and_eq_true]
    refine ⟨⟨?_, h.1.2⟩, shapes_flat h.2⟩
    cases d with
    | set => rfl
    | sub => have := h.1.1; simp [Dset.flat] at this

theorem applyD1_at {d : Dset} {fs : List FV} {q : Nat} (hf : d.flat = true) (h : q ≠ d.idx) : (applyD1 d fs)[q]? = fs[q]? := by
  cases d with
  | set i ty off v => simp only [Dset.idx] at h; simp only [applyD1]; rw [List.getElem?_set_ne (by omega)]
  | sub => simp [Dset.flat] at hf

theorem applyD_at : ∀ {ds : List Dset} {fs : List FV} {q : Nat}, dsFlat ds = true → (∀ d ∈ ds, q ≠ d.idx) → (applyD ds fs)[q]? = fs[q]?
  | [], _, _, _, _ => rfl
  | d :: ds, fs, q, hf, h => by
    simp only [dsFlat, Bool.and_eq_true] at hf
    simp only [applyD]
    rw [applyD_at hf.2 fun x hx => h x (by simp [hx]), applyD1_at hf.1.1 (h d (by simp))]

theorem applyD1_length {d : Dset} {fs : List FV} : (applyD1 d fs).length = fs.length := by
  cases d with
  | set => simp [applyD1]
  | sub i off T ls ds =>
    simp only [applyD1]
    split <;> simp

theorem applyD_set : ∀ {ds : List Dset} {fs : List FV} {i ty off : Nat} {v : Value}, dsFlat ds = true → .set i ty off v ∈ ds → i < fs.length → (applyD ds fs)[i]? = some (.one v)
  | [], _, _, _, _, _, _, h, _ => by cases h
  | d :: ds, fs, i, ty, off, v, hf, h, hl => by
    simp only [dsFlat, Bool.and_eq_true] at hf
    simp only [applyD]
    rcases List.mem_cons.1 h with rfl | h
    · rw [applyD_at hf.2 fun x hx e => ?_]
      · simp only [applyD1]
        rw [List.getElem?_set_self hl]
      · have := List.all_eq_true.1 hf.1.2 x hx
        rw [show (Dset.set i ty off v).idx = i from rfl, ← e] at this
        simp at this
    · exact applyD_set hf.2 h (by rw [applyD1_length]; exact hl)

theorem dfPlain_ok {gs : List FV} {dss : List Dset} (hfl : dsFlat dss = true) : ∀ {fs : List PF} {ds : List TD} {p i : Nat} {got : PT}, dfPlain fs ds dss p = true → p + fs.length ≤ gs.length → (∀ j (h : j < ds.length), pAt got (i + j) = ds[j].run (applyD dss gs)) → pDefs fs got i = true
  | [], _, _, _, _, _, _, _ => rfl
  | f :: r, [], _, _, _, h, _, _ => by simp [dfPlain] at h
  | f :: r, d :: ds, p, i, got, h, hl, hg => by
    simp only [dfPlain, Bool.and_eq_true, Bool.or_eq_true] at h
    simp only [List.length_cons] at hl
    simp only [pDefs, Bool.and_eq_true, Bool.or_eq_true]
    refine ⟨h.1.imp id fun h1 => ?_, dfPlain_ok hfl h.2 (show p + 1 + r.length ≤ gs.length by omega) fun j hj => ?_⟩
    · have h0 := hg 0 (by simp)
      rw [Nat.add_zero] at h0
      rw [h0]
      match d, h1 with
      | .prim i', h1 =>
        simp only [Bool.and_eq_true] at h1
        obtain rfl : i' = p := Nat.eq_of_beq_eq_true h1.1
        obtain ⟨x, hx, hs⟩ := List.any_eq_true.1 h1.2
        match x, hs, hx with
        | .set k ty off v, hs, hx =>
          simp only [Dset.sets, Bool.and_eq_true, decide_eq_true_eq] at hs
          obtain rfl : k = i' := Nat.eq_of_beq_eq_true hs.1
          have := applyD_set (fs := gs) hfl hx (by omega)
          simp only [List.getElem_cons_zero, TD.run, fvGet_eq this, decide_eq_true_eq]
          exact hs.2
    · have := hg (j + 1) (by simpa using hj)
      rw [show i + 1 + j = i + (j + 1) by omega]
      exact this

/-- Told behind Default, the fields have their defaults. -/
theorem df_message {fs : List PF} {ds : List TD} {tg : Option Nat} {dss : List Dset} {p : Nat} {gs : List FV} (hfl : dsFlat dss = true) (h : dfPlain fs ds dss p = true) (hl : p + fs.length ≤ gs.length) : pDefs fs (tdGp ds tg (applyD dss gs)) 0 = true := by
  refine dfPlain_ok hfl h hl fun j hj => ?_
  have el : (tdGp ds tg (applyD dss gs)).l = TD.runs ds (applyD dss gs) := rfl
  unfold pAt
  rw [el, Nat.zero_add, List.getD_eq_getElem?_getD, List.getElem?_eq_getElem (by rw [TD.runs_length]; exact hj), TD.runs_get _ ds j hj]
  rfl

end Go.Kf


namespace Go.Kf

open Go

/-- A field that is a cell. -/
def cellOf (P : Program) (t : TypeId) (i : Nat) : Option Nat := match P.underlying t with
  | some (.struct fs) => match fs[i]? with
    | some f => bif oneTy P f.type then some f.offset else none
    | none => none
  | _ => none

section

variable {P : Program} {ρ : Nat → Value}

theorem v_part {t : TypeId} {i off : Nat} {x : Operand} {cs : List Value} {v : Value} (ht : cellOf P t i = some off) (h : ev ρ x = .agg ⟨cs⟩) (hv : cs[off]? = some v) : Val P ρ (.field t x i) v := fun w => by
  unfold cellOf at ht
  split at ht
  · rename_i fs hu
    cases hf : fs[i]? with
    | none => simp only [hf] at ht; cases ht
    | some f =>
      simp only [hf] at ht
      cases h1 : oneTy P f.type with
      | false => simp only [h1] at ht; cases ht
      | true =>
        simp only [h1, cond, Option.some.injEq] at ht
        have hv' : (⟨cs⟩ : Array Value)[off]? = some v := by simpa using hv
        unfold runOp bareOp
        simp only [execOp, h, Instr.field, Sem.run_bind, run_under hu, Result.andThen_ok, hf, asAgg, Sem.run_pure, part, (oneTy_spec (w := w) h1).1, Bool.false_eq_true, if_false, ht, hv']
  · cases ht

end

def tDefaults (c : Nums) (s : SN) : Tr :=
  .op (.box c.sTree (.tmp 1)) none [] <| .op (.call { callee := .builtin .len, args := ⟨[.tmp 0]⟩, argTypes := ⟨[s.fields]⟩ }) none [] <|
  .loop 0 [.const (.bool false), .const (.int .i64 0)] <| .op (.binOp .lss c.tInt (.tmp 5) (.tmp 3) c.tInt) none [] <|
  .cond (.tmp 6) (
    .op (.indexAddr s.fields (.tmp 0) (.tmp 5)) none [] <| .op (.load s.field (.tmp 7)) none [] <| .op (.alloc s.field) none [] <| .op (.store s.field (.tmp 9) (.tmp 8)) none [] <|
    .draw <| .pur (.fieldAddr s.field (.tmp 9) 5) none <| .lok (.load c.tI64 (.tmp 11)) none <| .pur (.binOp .neq c.tI64 (.tmp 12) (.const (.int .i64 0)) c.tI64) none <|
    .cond (.tmp 13) (
      .lok (.load c.sTree (.tmp 2)) none <| .pur (.fieldAddr s.field (.tmp 9) 0) none <| .lok (.load c.tInt (.tmp 15)) none <| .pur (.fieldAddr s.field (.tmp 9) 5) none <| .lok (.load c.tI64 (.tmp 17)) none <|
      .op (callOp s.at_ [.tmp 14, .tmp 5]) none [(.load c.tI64 (.tmp 17), 18), (.load c.tInt (.tmp 15), 16), (.load c.tI64 (.tmp 11), 12)] <| .pur (.field c.sTree (.tmp 19) 0) none <|
      .op (callOp s.number [.tmp 16, .tmp 18]) none [(.load c.tI64 (.tmp 11), 12)] <| .pur (.binOp .neq c.tI64 (.tmp 20) (.tmp 21) c.tI64) none <|
      .cond (.tmp 22) (.ret [(.const (.bool false), none)]) (.op (.binOp .add c.tInt (.tmp 5) (.const (.int .i64 1)) c.tInt) none [] <| .to 0 [.tmp 4, .tmp 23])
    ) (.op (.binOp .add c.tInt (.tmp 5) (.const (.int .i64 1)) c.tInt) none [] <| .to 0 [.tmp 4, .tmp 14])
  ) (.ret [(.const (.bool true), none)])

def tDftDoor (c : Nums) (fNew fSet fRead fDef fTell : Nat) : Tr :=
  .op (.alloc c.tTree) none [] <| gDoor c 3 fNew fSet fRead (.tmp 1) (.op (.build c.tTree ⟨[]⟩) none [] <| .op (.store c.tTree (.tmp 2) (.tmp 9)) none [] <| .ret [(.tmp 2, some c.tTree), (.const (.bool false), none)]) <|
  .op (callOp fDef [.tmp 3]) none [] <| .op (callOp fTell [.tmp 3]) none [] <| .op (.store c.tTree (.tmp 2) (.tmp 10)) none [] <| .ret [(.tmp 2, some c.tTree), (.const (.bool true), none)]

def tDftLaw (c : Nums) (s : SN) (fMax fMsg fVer fDft fGot fDfts : Nat) : Tr :=
  .op (.box c.sTree (.tmp 1)) none [] <| .op (.load c.sTree (.tmp 2)) none [] <| .op (callOp s.fits1 [.tmp 3]) none [] <| .op (.unOp .not c.tBool (.tmp 4)) none [] <|
  .cond (.tmp 5) (.ret [(.const (.bool true), none)]) <| .op (callOp fMax []) none [] <| .op (.binOp .lss c.tInt (.tmp 6) (.const (.int .i64 0)) c.tInt) none [] <|
  .cond (.tmp 7) (.ret [(.const (.bool false), none)]) <| .op (callOp fMsg []) none [] <| .op (callOp fVer [.tmp 0, .tmp 6]) none [] <| .op (.alloc s.msg) none [] <| .op (.store s.msg (.tmp 10) (.tmp 8)) none [] <|
  .op (.load s.msg (.tmp 10)) none [] <| .op (.load c.sTree (.tmp 2)) none [] <| .op (callOp s.write [.tmp 12, .tmp 9, .tmp 13]) none [] <| .op (callOp fDft [.tmp 9, .tmp 14]) none [] <|
  .op (.extract (.tmp 15) 0) none [] <| .op (.extract (.tmp 15) 1) none [] <| .op (.alloc c.tTree) none [] <| .op (.store c.tTree (.tmp 18) (.tmp 16)) none [] <| .draw <|
  .cond (.tmp 17) (.pur (.fieldAddr s.msg (.tmp 10) 0) none <| .lok (.load s.fields (.tmp 20)) none <| .lok (.load c.tTree (.tmp 18)) none <|
    .op (callOp fGot [.tmp 22]) none [(.load s.fields (.tmp 20), 21)] <| .op (callOp fDfts [.tmp 21, .tmp 23]) none [] <| .ret [(.tmp 24, none)]) (.ret [(.const (.bool false), none)])

theorem pDefs_get {t : PT} : ∀ {fs : List PF} {i : Nat}, pDefs fs t i = true → ∀ j (h : j < fs.length), fs[j].dflt = 0 ∨ (pAt t (i + j)).n = pNumber fs[j].kind fs[j].dflt
  | [], _, _, j, h => by simp at h
  | f :: r, i, hp, j, h => by
    simp only [pDefs, Bool.and_eq_true, Bool.or_eq_true, decide_eq_true_eq] at hp
    cases j with
    | zero => simpa using hp.1
    | succ j =>
      have := pDefs_get hp.2 j (by simpa using h)
      rw [show i + 1 + j = i + (j + 1) by omega] at this
      simpa using this

section

variable {P : Program} {c : Nums} {s : SN} {w : World}

theorem defaults_gives {f : Nat} (S : SpFacts P c s) (Q : Smalls P s) (hN : ∀ (w : World) (kind x : Int), Yields P s.number [.int .i64 kind, .int .i64 x] w (.int .i64 (pNumber kind x))) (hcell : cellOf P c.sTree 0 = some 0) (hT : treeIn P f noOrc [.tmp 0, .tmp 1] 2 = tDefaults c s) {fs : List PF} {fv : Value} {t : PT} {ts : List Value}
    (hlen : fs.length < 65536) (hfv : FieldsV w fs fv) (ht : TreeC w t ts) (hp : pDefs fs t 0 = true) : Gives P f [fv, .agg ⟨ts⟩] w fun v w' => v = .bool true ∧ Keeps [] w w' := by
  have htl := ht.len
  refine gives_in (ρ := en [fv, .agg ⟨ts⟩]) S.rd.mix hT (Nat.le_refl _) rfl (by simp [opBelow]) ?_
  have hfv0 := hfv
  obtain ⟨fcs, hr, hfc⟩ := hfv
  obtain ⟨a, cp, e⟩ := hr.form
  refine s_box rfl fun w1 hx1 k1 z1 => ?_
  refine s_val (v_len (a := a) (l := fs.length) (c := cp) S.sl e) ?_
  refine s_countV (n := 4) (q := 3) (kk := .i64) (m := fs.length) (ri := [.const (.bool false)]) (Γ := []) (fun j vr w' => vr = [.bool false] ∧ Keeps [] w1 w') (by omega) rfl ⟨rfl, .refl⟩ ?_ ?_
  · rintro j hj w2 vr ⟨rfl, k12⟩ hvr J hJ
    have hj' : j < fs.length := by omega
    have k02 := k1.trans k12
    have hpj := pDefs_get hp j hj'
    rw [Nat.zero_add] at hpj
    refine s_eachF (fv := fv) (fs := fs) (j := j) S (hfv0.keep k02) rfl rfl hj' fun w3 a3 b cs hh hf k3 hb => ?_
    obtain ⟨sv3, rfl, hsub⟩ := hf.cells
    show Tr.sem _ _ _ _ _ _ { w3 with drawn := w3.drawn + 1 }
    have hd : Keeps [] w3 { w3 with drawn := w3.drawn + 1 } := keeps_drawn w3 _ _
    generalize ({ w3 with drawn := w3.drawn + 1 } : World) = w4 at hd ⊢
    have hh4 := hh.keep hd (by simp)
    have k14 := (k12.trans k3).trans hd
    have hx4 := hx1.keep k14 (by simp)
    generalize hff : fs[j]'hj' = f at hpj hh4
    refine p_fl S.f5 S.ty.oneI64 rfl rfl hh4 rfl ?_
    refine p_val (v_cmp (kk := .i64) (a := f.dflt) (b := 0) (r := f.dflt != 0) rfl rfl rfl) ?_
    refine s_cond (b := f.dflt != 0) rfl (fun hb1 => ?_) fun hb1 => ?_
    · have hne : f.dflt ≠ 0 := by simpa using hb1
      refine l_lok (l_loadN (b := w.heap.size) (o := 0) S.ty.agg rfl hx4 (by omega)) ?_
      rw [show (ts.drop 0).take 5 = ts by rw [List.drop_zero, List.take_of_length_le (by omega)]]
      refine p_fl S.f0 S.oneInt rfl rfl hh4 rfl (p_fl S.f5 S.ty.oneI64 rfl rfl hh4 rfl ?_)
      have ldD : ∀ (w' : World) (ρ : Nat → Value) (x : Operand), Keeps [] w4 w' → ev ρ x = ptr b 5 → runOp P ρ (.load c.tI64 x) w' = .ok (.value (.int .i64 f.dflt)) w' := fun w' ρ x kk hx => l_load1 (b := b) (o := 5) S.ty.oneI64 hx (hh4.keep kk (by simp)) rfl
      have ldK : ∀ (w' : World) (ρ : Nat → Value) (x : Operand), Keeps [] w4 w' → ev ρ x = ptr b 0 → runOp P ρ (.load c.tInt x) w' = .ok (.value (.int .i64 f.kind)) w' := fun w' ρ x kk hx => l_load1 (b := b) (o := 0) S.oneInt hx (hh4.keep kk (by simp)) rfl
      refine s_call (xs := [.tmp 14, .tmp 5]) (Q.at_ w4 t _ j (TreeC.keep (k1.trans k14) _ _ ht)) fun u w5 ⟨k5, tcs, hu, htj⟩ => ⟨?_, ?_⟩
      · intro p hp
        simp only [List.mem_cons, List.not_mem_nil, or_false] at hp
        rcases hp with rfl | rfl | rfl
        · exact ldD w5 _ _ k5 rfl
        · exact ldK w5 _ _ k5 rfl
        · exact ldD w5 _ _ k5 rfl
      subst hu
      obtain ⟨xs, xl, xu, xlc, xuc, rfl, _⟩ := htj.cells
      refine p_val (v_part (v := .int .i64 (pAt t j).n) hcell rfl rfl) ?_
      refine s_call (xs := [.tmp 16, .tmp 18]) (hN w5 f.kind f.dflt) fun u w6 ⟨hu, k6⟩ => ⟨?_, ?_⟩
      · intro p hp
        simp only [List.mem_singleton] at hp
        subst hp
        exact ldD w6 _ _ (k5.trans k6) rfl
      subst hu
      refine p_val (v_cmp (kk := .i64) (a := (pAt t j).n) (b := pNumber f.kind f.dflt) (r := (pAt t j).n != pNumber f.kind f.dflt) rfl rfl rfl) ?_
      refine s_cond (b := (pAt t j).n != pNumber f.kind f.dflt) rfl (fun hb2 => ?_) fun _ => ?_
      · rcases hpj with h | h
        · exact absurd h hne
        · simp [h] at hb2
      · refine s_val (v_arith (kk := .i64) (a := j) (b := 1) (r := ((j + 1 : Nat) : Int)) rfl rfl ?_) ?_
        · simp only [arithOf, Option.some.injEq]; rw [IntKind.wrap_i64]; omega
        exact ⟨J, rfl, hJ [_] _ rfl ⟨rfl, (k14.trans k5).trans k6⟩⟩
    · refine s_val (v_arith (kk := .i64) (a := j) (b := 1) (r := ((j + 1 : Nat) : Int)) rfl rfl ?_) ?_
      · simp only [arithOf, Option.some.injEq]; rw [IntKind.wrap_i64]; omega
      exact ⟨J, rfl, hJ [_] _ rfl ⟨rfl, k14⟩⟩
  · rintro w2 vr J ⟨rfl, k12⟩ hvr
    exact s_ret1 ⟨rfl, k1.trans k12⟩

theorem dftDoor_gives {f fNew fSet fRead fDef fTell S : Nat} {mid : List Value} {e0 data : Value} {ver : Int} {l : List UInt8} {fs : List FV} {ts : List Ty} {ds : List Dset} {gp : List FV → PT} (F : RdFacts P c) (O : OctFacts P c) (K : TellFacts P c) (Z : TyFacts P c c.tTree c.tTrees c.tTagL c.tTag) (hT : treeIn P f noOrc [.tmp 0, .tmp 1] 2 = tDftDoor c fNew fSet fRead fDef fTell) (herr : ∃ ms, P.underlying c.tErr = some (.interface ms))
    (hver : IntKind.i16.wrap ver = ver) (hN : NewOk P fNew (.int .i16 0 :: mid)) (hone : oneTy P c.tI16 = true) (hS0 : fieldOff P S 0 = some 0) (hSet : treeIn P fSet noOrc [.tmp 0, .tmp 1] 2 = tSetVersion c S) (hRT : ReadsTo P c fRead ver mid e0 l fs) (hDef : DefSets P fDef (ts.map Ty.wd) ds) (hfl : dsFlat ds = true) (hty : tyDsets ts ds = true) (hok : okFs fs ts) (hTell : TellOf P fTell ts gp) (hl : l.length ≤ 1073741824)
    (hr : DataIn w data l) (he : ErrAt w c.gErr e0) : Gives P f [.int .i64 ver, data] w fun u w' => DoorPost w w' u (some (gp (applyD ds fs))) ∧ Keeps [] w w' := by
  refine gives_in (ρ := en [.int .i64 ver, data]) F.mix hT (Nat.le_refl _) rfl (by simp [opBelow]) ?_
  refine s_alloc K.zero fun w0 h0 k0 z0 => ?_
  refine s_door (n := 3) (S := S) F O (by omega) rfl (src := .tmp 1) rfl (by simp [opBelow]) herr hver hN hone hS0 hSet hRT hl (hr.keep k0) (he.keep k0 (by simp)) fun w1 V D lo mid' ρ1 k1 hV hh hf r3 hag => ?_
  have r2 : ev ρ1 (.tmp 2) = ptr w.heap.size := hag (.tmp 2) (by simp [opBelow])
  refine s_callx (hDef D w1 V lo [] [] mid' fs hV.2.1 hV.2.2 (shapes_flat hfl) (okFs_map _ _ hok) (by simpa using hh) hf) (by
    simp only [List.map_cons, List.map_nil]
    congr 1) fun u w2 ⟨⟨mid2, hh2, hf2⟩, k2⟩ => ?_
  refine s_callx (hTell w2 D V lo [] [] mid2 _ (applyD_ok ds ts fs hty hok) hh2 hf2) (by
    simp only [List.map_cons, List.map_nil]
    rw [show ev (ext ρ1 9 [u]) (.tmp 3) = ptr V from (ext_lt (by omega)).trans r3]; rfl) fun v w3 ⟨⟨cs, hv, htr⟩, k3⟩ => ?_
  subst hv
  have hcl := htr.len
  have s0 : w.heap.size < w0.heap.size := by omega
  have k02 : Keeps [] w0 w2 := ((k1.mono (by simp)).trans k2).less fun x hx => .inr (by simp only [List.mem_singleton] at hx; have := hV.1; omega)
  have h03 := (h0.keep k02 (by simp)).keep k3 (by simp)
  refine s_storeAll (b := w.heap.size) (old := zeroTree) (cs := cs) (by rw [hcl]; exact Z.agg) (by
    show ext (ext ρ1 9 [u]) 10 _ 2 = _
    rw [ext_lt (by omega), ext_lt (by omega)]; exact r2) rfl h03 (by rw [hcl]; rfl) htr.ones fun w4 h4 k4 => ?_
  have k03 := k0.trans (k02.trans k3)
  have s2 := k02.size
  refine s_retTold (b := w.heap.size) (by
    show ext (ext (ext ρ1 9 [u]) 10 _) 11 _ 2 = _
    rw [ext_lt (by omega), ext_lt (by omega), ext_lt (by omega)]; exact r2) h4 (by rw [hcl]; exact Z.agg) ⟨⟨cs, rfl, ?_⟩, ?_⟩
  · exact TreeAt.keep k4 (fun b hb h' => by simp only [List.mem_singleton] at hb; omega) (fun b h' _ => by omega) _ _ htr
  · exact ((k03.mono (by simp)).trans k4).less fun x hx => .inr (by simp only [List.mem_singleton] at hx; omega)

end

end Go.Kf


namespace Go.Kf

open Go

theorem pWhole_le (s : List UInt8) : (pWhole s).length ≤ big := by
  unfold pWhole big
  rw [List.length_take]
  omega

theorem small_tags (fs : List PF) (u : TM) : (wholeTags (pUnknown fs u)).length ≤ big ∧ ∀ p ∈ wholeTags (pUnknown fs u), p.2.length ≤ big := by
  refine ⟨?_, fun p hp => ?_⟩
  · unfold wholeTags pUnknown
    rw [List.length_map]
    have := pUnknownN_length (pKnown fs 0) (u.take 32767) []
    rw [List.length_take] at this
    simp only [List.length_nil, Nat.add_zero] at this
    unfold big
    omega
  · obtain ⟨q, _, rfl⟩ := List.mem_map.1 hp
    exact pWhole_le _

end Go.Kf


namespace Go.Kf

open Go

theorem EntsA.keys {A : Nat → Prop} {w : World} : ∀ {es : List MapEntry} {m : TM}, EntsA A w es m → Keys32 es
  | [], [], _ => fun e h => by cases h
  | e :: es, p :: m, ⟨h1, h2⟩ => fun x hx => by
    rcases List.mem_cons.1 hx with h | h
    · rw [h]; exact ⟨_, h1.1⟩
    · exact EntsA.keys h2 x h
  | [], _ :: _, h => h.elim
  | _ :: _, [], h => h.elim

theorem EntA.is {A : Nat → Prop} {w : World} {e : MapEntry} {p : Nat × List UInt8} (h : EntA A w e p) (k : Nat) : keyIs k e = decide (p.1 = k) := by
  simp only [keyIs, h.1]
  by_cases hk : p.1 = k
  · simp [hk]
  · have : ((k : Int) == (p.1 : Int)) = false := by simp; omega
    simp [hk, this]

theorem EntsA.set {A : Nat → Prop} {k clock : Nat} {w : World} {l : List UInt8} {v : Value} (hv : Ro w v 1 l.length (bcells l)) (ha : l.length ≠ 0 → ∀ b ∈ blkOf v, A b) : ∀ {es : List MapEntry} {m : TM}, EntsA A w es m → EntsA A w (esSet es k v clock) (tmSet m k l)
  | [], [], _ => ⟨⟨rfl, hv, ha⟩, trivial⟩
  | e :: es, p :: m, ⟨h1, h2⟩ => by
    simp only [esSet, tmSet, h1.is k, decide_eq_true_eq]
    split
    · exact ⟨⟨rfl, hv, ha⟩, h2⟩
    · exact ⟨h1, EntsA.set hv ha h2⟩
  | [], _ :: _, h => h.elim
  | _ :: _, [], h => h.elim

section

variable {P : Program} {c : Nums}

variable {ρ : Nat → Value} {w : World}

end

end Go.Kf


namespace Go.Kf

open Go

def TagSetX (P : Program) (f : Nat) : Prop := ∀ (D h0 V o k : Nat) (w : World) (cs : List Value) (m : TM) (mv v : Value) (nl : Bool) (l : List UInt8), Has w V cs → cs[o]? = some mv → TagsZ D w h0 m mv → V ≠ D → V < h0 → D < h0 → h0 ≤ w.heap.size → k < 2 ^ 32 → (∀ L, OctAt w D L nl l v) →
  Gives P f [ptr V o, .int .u32 k, v] w fun _ w' => ∃ mv', Has w' V (cs.set o mv') ∧ TagsZ D w' h0 (tmSet m k l) mv' ∧ ∃ M, Keeps M w w' ∧ ∀ b ∈ M, b = V ∨ h0 ≤ b

section

variable {P : Program} {c : Nums}

theorem tagSetX_gives {f : Nat} (F : RdFacts P c) (T : TagFacts P c) (hT : treeIn P f noOrc [.tmp 0, .tmp 1, .tmp 2] 3 = tTagSet c) : TagSetX P f := by
  intro D h0 V o k w cs m mv v nl l hh hcm hz hVD hVh hDh hsz hk ho
  refine gives_in (ρ := en [ptr V o, .int .u32 k, v]) F.mix hT (Nat.le_refl _) rfl (by simp [opBelow]) ?_
  have hol : o < cs.length := (List.getElem?_eq_some_iff.1 hcm).1
  -- the rest, once a map lies there
  have rest : ∀ (w1 : World) (ρ : Nat → Value) (Γ : List (List Value → World → Prop)) (b : Nat) (es : List MapEntry) (clock : Nat) (M : List Nat), ρ 0 = ptr V o → ρ 1 = .int .u32 k → ρ 2 = v → Has w1 V (cs.set o (.map (some b))) → h0 ≤ b → MapIs w1 b es clock → (∀ L, EntsAt D w1 L es m) → es.Pairwise (fun a b => a.born < b.born) → (∀ e ∈ es, e.born < clock) →
      (∀ p ∈ m, p.1 < 2 ^ 32) → (m.map (·.1)).Nodup → (∀ L, OctAt w1 D L nl l v) → Keeps M w w1 → (∀ b ∈ M, b = V ∨ h0 ≤ b) →
      (gGet (.tmp 0) c.tTags 0 c.tMap 7 <| .op (.mapUpdate c.tMap (.tmp 9) (.tmp 1) (.tmp 2)) none [] <| .ret []).sem P (fun _ w' => ∃ mv', Has w' V (cs.set o mv') ∧ TagsZ D w' h0 (tmSet m k l) mv' ∧ ∃ M, Keeps M w w' ∧ ∀ b ∈ M, b = V ∨ h0 ≤ b) Γ 7 ρ w1 := by
    intro w1 ρ Γ b es clock M r0 r1 r2 hh1 hb hm he hp hborn h32 hnd ho1 k1 hM
    refine s_get T.f0 T.oneMap (show ev ρ (.tmp 0) = ptr V o from r0) hh1 (by rw [Nat.add_zero, List.getElem?_set_self hol]) ?_
    obtain ⟨w2, e2, hm2, k2⟩ := a_mapUpdate (P := P) (ρ := ext ρ 7 [ptr V o, ptr V (o + 0), .map (some b)]) (w := w1) (t := c.tMap) (m := .tmp 9) (k := .tmp 1) (x := .tmp 2) (n := (k : Int)) (v := v) T.map F.u32 rfl (by show ext ρ 7 _ 1 = _; rw [ext_lt (by omega)]; exact r1) (by show ext ρ 7 _ 2 = _; rw [ext_lt (by omega)]; exact r2) hm (he 0).keys
    have hDb : D ∉ [b] := by simp only [List.mem_singleton]; omega
    refine s_unit e2 (fun p hp => (by cases hp)) (s_ret0 ⟨.map (some b), hh1.keep k2 (by simp only [List.mem_singleton]; omega), .inr ⟨b, _, _, hb, rfl, hm2, fun L => (EntsAt.any he k2 hDb L).set ⟨nl, OctAt.any ho1 k2 hDb L⟩, (esSet_ok hp hborn).1, (esSet_ok hp hborn).2, tmSet_lt h32 hk, tmSet_nodup hnd, tmSet_ne _ _ _⟩, M ++ [b], (k1.mono fun x hx => List.mem_append_left _ hx).trans (k2.mono fun x hx => List.mem_append_right _ hx), fun x hx => ?_⟩)
    rcases List.mem_append.1 hx with h | h
    · exact hM x h
    · simp only [List.mem_singleton] at h
      subst h
      exact .inr hb
  refine s_get T.f0 T.oneMap (show ev _ (.tmp 0) = ptr V o from rfl) hh (by rw [Nat.add_zero]; exact hcm) ?_
  rcases hz with ⟨rfl, rfl⟩ | ⟨b, es, clock, hb, rfl, hm, he, hp, hborn, h32, hnd, hne⟩
  · refine s_val (v_eqlMap (op := .eql) (a := none) (r := true) T.map rfl rfl (.inl ⟨rfl, rfl⟩)) ?_
    refine ⟨rfl, fun _ w' => ∃ b, Has w' V (cs.set o (.map (some b))) ∧ h0 ≤ b ∧ MapIs w' b [] 0 ∧ Keeps [V] w w', ?_, ?_⟩
    · refine s_cond (b := true) rfl (fun _ => ?_) (fun h => by cases h)
      obtain ⟨w1, e1, hm1, k1, z1⟩ := a_makeMap (P := P) (ρ := ext (ext (en [ptr V o, .int .u32 k, v]) 3 [ptr V o, ptr V (o + 0), .map none]) 6 [.bool true]) (w := w) (t := c.tMap)
      refine s_act e1 (fun p hp => (by cases hp)) ?_
      refine s_set (n := 8) (v := .map (some w.heap.size)) T.f0 T.oneMap rfl rfl (by simp [opBelow]) rfl (hh.keep k1 (by simp)) (by rw [Nat.add_zero]; exact hol) fun w2 h2 k2 => ?_
      refine ⟨_, rfl, w.heap.size, h2, hsz, hm1.keep k2 (by simp only [List.mem_singleton]; omega), (k1.mono (by simp)).trans k2⟩
    · rintro vs w1 hvs ⟨b, h1, hb, hm1, k1⟩
      obtain rfl : vs = [] := List.eq_nil_of_length_eq_zero hvs
      exact rest w1 _ _ b [] 0 [V] rfl rfl rfl h1 hb hm1 (fun _ => trivial) List.Pairwise.nil (fun e he => by cases he) (fun p hp => by cases hp) List.nodup_nil (OctAt.any ho k1 (by simp only [List.mem_singleton]; omega)) k1 (fun x hx => .inl (by simpa using hx))
  · refine s_val (v_eqlMap (op := .eql) (a := some b) (r := false) T.map rfl rfl (.inl ⟨rfl, rfl⟩)) ?_
    refine ⟨rfl, fun _ w' => w' = w, ?_, ?_⟩
    · exact s_cond (b := false) rfl (fun h => by cases h) (fun _ => ⟨_, rfl, rfl⟩)
    · rintro vs w1 hvs rfl
      obtain rfl : vs = [] := List.eq_nil_of_length_eq_zero hvs
      refine rest w1 _ _ b es clock [] rfl rfl rfl ?_ hb hm he hp hborn h32 hnd ho .refl (fun x hx => by cases hx)
      rw [show cs.set o (.map (some b)) = cs from by
        rw [← (List.getElem?_eq_some_iff.1 hcm).2]; exact List.set_getElem_self hol]
      exact hh

end

/-- Cells, whatever they say. -/
def blind (cs : List Value) : FV := match cs with
  | [v] => .one v
  | _ => .sub (cs.map FV.one)

theorem ones_at {D : Nat} {w : World} {lo : Nat} : ∀ {cs : List Value}, (∀ u ∈ cs, u.oneCell' = true) → FsAt D w lo (cs.map FV.one) cs
  | [], _ => rfl
  | v :: cs, h => ⟨[v], cs, rfl, ⟨rfl, h v List.mem_cons_self⟩, ones_at fun u hu => h u (List.mem_cons_of_mem _ hu)⟩

theorem ones_eq {D : Nat} {w : World} {lo : Nat} : ∀ {cs cs' : List Value}, FsAt D w lo (cs.map FV.one) cs' → cs' = cs
  | [], _, h => h
  | v :: cs, _, ⟨c1, c2, e, h1, h2⟩ => by
    obtain ⟨rfl, _⟩ := h1
    rw [e, ones_eq h2]
    rfl

theorem blind_at {D : Nat} {w : World} {lo : Nat} {cs : List Value} (h : ∀ u ∈ cs, u.oneCell' = true) : FAt D w lo (blind cs) cs := by
  unfold blind
  split
  · exact ⟨rfl, h _ (by simp)⟩
  · exact ones_at h

theorem blind_eq {D : Nat} {w : World} {lo : Nat} {cs cs' : List Value} (h : FAt D w lo (blind cs) cs') : cs' = cs := by
  unfold blind at h
  split at h
  · exact h.1
  · exact ones_eq h

theorem wds_ones : ∀ cs : List Value, wds (cs.map FV.one) = cs.length
  | [] => rfl
  | v :: cs => by
    have := wds_ones cs
    simp only [List.map_cons, wds, FV.wd, List.length_cons, this]
    omega

theorem blind_wd (cs : List Value) : (blind cs).wd = cs.length := by
  unfold blind
  split
  · rfl
  · simp only [FV.wd]; exact wds_ones cs

theorem FsAt.blinds {D : Nat} {w : World} {lo : Nat} : ∀ {fs : List FV} {cs : List Value}, FsAt D w lo fs cs → ∃ bs : List FV, bs.map FV.wd = fs.map FV.wd ∧ (∀ D w lo, FsAt D w lo bs cs) ∧ ∀ D w lo cs', FsAt D w lo bs cs' → cs' = cs
  | [], _, h => ⟨[], rfl, fun _ _ _ => h, fun _ _ _ _ h' => by
    have h1 : _ = [] := h
    have h2 : _ = [] := h'
    rw [h1, h2]⟩
  | f :: fs, _, ⟨c1, c2, e, h1, h2⟩ => by
    obtain ⟨bs, hw, hb, he⟩ := FsAt.blinds h2
    refine ⟨blind c1 :: bs, by simp only [List.map_cons, hw, blind_wd, FAt.len f c1 h1], fun D w lo => ⟨c1, c2, e, blind_at (FAt.ones f c1 h1), hb D w lo⟩, fun D w lo cs' ⟨d1, d2, e', g1, g2⟩ => ?_⟩
    rw [e', e, blind_eq g1, he _ _ _ _ g2]

/-- All but the field j unseen. -/
theorem FsAt.only {D : Nat} {w : World} {lo : Nat} : ∀ {fs : List FV} {cs : List Value} {j : Nat} {f : FV} {m0 : List Value}, FsAt D w lo fs cs → fs[j]? = some f → f.imm = some m0 →
    ∃ (bs : List FV) (a z : List Value), bs.map FV.wd = fs.map FV.wd ∧ bs[j]? = some f ∧ cs = a ++ m0 ++ z ∧ a.length = wds (fs.take j) ∧ (∀ D w lo, FsAt D w lo bs cs) ∧ ∀ D w lo f' cs', FsAt D w lo (bs.set j f') cs' → ∃ m', cs' = a ++ m' ++ z ∧ FAt D w lo f' m'
  | [], _, _, _, _, _, hj, _ => by simp at hj
  | g :: fs, _, 0, f, m0, ⟨c1, c2, e, h1, h2⟩, hj, hi => by
    simp only [List.getElem?_cons_zero, Option.some.injEq] at hj
    subst hj
    obtain rfl := FV.imm_eq hi h1
    obtain ⟨bs, hw, hb, he⟩ := FsAt.blinds h2
    exact ⟨g :: bs, [], c2, by simp [hw], rfl, by simpa using e, rfl, fun D w lo => ⟨c1, c2, e, FV.imm_at hi D w lo, hb D w lo⟩, fun D w lo f' cs' ⟨d1, d2, e', g1, g2⟩ => ⟨d1, by rw [e', he _ _ _ _ g2]; simp, g1⟩⟩
  | g :: fs, _, j + 1, f, m0, ⟨c1, c2, e, h1, h2⟩, hj, hi => by
    simp only [List.getElem?_cons_succ] at hj
    obtain ⟨bs, a, z, hw, hbj, ec, ha, hb, he⟩ := FsAt.only h2 hj hi
    refine ⟨blind c1 :: bs, c1 ++ a, z, by simp only [List.map_cons, hw, blind_wd, FAt.len g c1 h1], by simpa using hbj, by rw [e, ec]; simp, ?_, fun D w lo => ⟨c1, c2, e, blind_at (FAt.ones g c1 h1), hb D w lo⟩, fun D w lo f' cs' ⟨d1, d2, e', g1, g2⟩ => ?_⟩
    · rw [List.length_append, ha, List.take_succ_cons, wds, FAt.len g c1 h1]
    · obtain ⟨m', e2, hm'⟩ := he D w lo f' d2 g2
      exact ⟨m', by rw [e', blind_eq g1, e2]; simp, hm'⟩

/-- A field of a struct, set, where its cells are known. -/
theorem FsAt.setAt {D : Nat} {w : World} {lo : Nat} {fs : List FV} {i : Nat} {f f' : FV} {a m z m' : List Value} (h : FsAt D w lo fs (a ++ m ++ z)) (hi : fs[i]? = some f) (ha : a.length = wds (fs.take i)) (hm : m.length = f.wd) (h' : FAt D w lo f' m') : FsAt D w lo (fs.set i f') (a ++ m' ++ z) := by
  obtain ⟨a2, m2, z2, e2, ha2, hfm2, hset2⟩ := h.split hi
  have hm2 : m2.length = f.wd := FAt.len _ _ hfm2
  have e3 : a ++ (m ++ z) = a2 ++ (m2 ++ z2) := by rw [← List.append_assoc, e2, List.append_assoc]
  obtain ⟨rfl, e4⟩ := List.append_inj e3 (ha.trans ha2.symm)
  obtain ⟨rfl, rfl⟩ := List.append_inj e4 (hm.trans hm2.symm)
  exact hset2 f' m' h'

theorem runStep_at {s : Step} {fs bs fs1 : List FV} {r r1 : Rd} {f0 : FV} (h0 : fs[s.idx]? = some f0) (hb : bs[s.idx]? = some f0) (h : runStep s fs r = some (fs1, r1)) : ∃ f', fs1 = fs.set s.idx f' ∧ runStep s bs r = some (bs.set s.idx f', r1) := by
  cases s with
  | call pk f i ty off => simp only [runStep, Option.some.injEq, Prod.mk.injEq] at h ⊢; exact ⟨_, h.1.symm, rfl, h.2⟩
  | ghost =>
    simp only [runStep, Option.some.injEq, Prod.mk.injEq] at h ⊢
    have e1 : ∀ {l : List FV} {j : Nat}, l[j]? = some f0 → l.set j f0 = l := fun {l} {j} hl => by
      obtain ⟨hlt, he⟩ := List.getElem?_eq_some_iff.1 hl
      rw [← he]; exact List.set_getElem_self hlt
    exact ⟨f0, by rw [← h.1, e1 h0], by rw [e1 hb], h.2⟩
  | uuid f i off => simp only [runStep, Option.some.injEq, Prod.mk.injEq] at h ⊢; exact ⟨_, h.1.symm, rfl, h.2⟩
  | listP lk fl i tySl off pk f T =>
    simp only [runStep] at h ⊢
    split at h
    · cases h
    · rename_i hn
      rw [if_neg hn]
      simp only [Option.some.injEq, Prod.mk.injEq] at h ⊢
      exact ⟨_, h.1.symm, rfl, h.2⟩
  | listS lk fl i tySl off T sz fDef dflt ss =>
    simp only [runStep] at h ⊢
    split at h
    · cases h
    · rename_i hn
      rw [if_neg hn]
      split at h
      · simp only [Option.some.injEq, Prod.mk.injEq] at h ⊢
        exact ⟨_, h.1.symm, rfl, h.2⟩
      · cases h
  | sub i off T fDef ds lsS ss =>
    simp only [runStep, Step.idx] at h h0 hb ⊢
    rw [h0] at h
    rw [hb]
    split at h
    · rename_i gs hg
      obtain rfl : f0 = .sub gs := by simpa using hg
      split at h
      · simp only [Option.some.injEq, Prod.mk.injEq] at h ⊢
        exact ⟨_, h.1.symm, rfl, h.2⟩
      · cases h
    · cases h
  | strP pk f i ty off =>
    simp only [runStep] at h ⊢
    split at h
    · rename_i l hl
      simp only [Option.some.injEq, Prod.mk.injEq] at h ⊢
      exact ⟨_, h.1.symm, rfl, h.2⟩
    · cases h

theorem stepPre_at {s : Step} {fs bs : List FV} (h : fs[s.idx]? = bs[s.idx]?) : stepPre s fs = stepPre s bs := by
  cases s <;> simp only [stepPre, Step.idx] at h ⊢ <;> rw [h]

end Go.Kf

namespace Go.Kf

open Go

def gTgDef (c : Nums) (fUv fSpan fSet S i : Nat) (rd s key : Operand) (n : Nat) (k : Nat → Tr) : Tr :=
  .draw <| .pur (.nilCheck s) none <| .pur (.fieldAddr S (.tmp n) i) none <| .op (callOp fUv [rd]) none [] <| .op (.convert c.tU32 c.tInt (.tmp (n + 2))) none [] <| .op (callOp fSpan [rd, .tmp (n + 3)]) none [] <| .op (callOp fSet [.tmp (n + 1), key, .tmp (n + 4)]) none [] <| k (n + 6)

def gTgCase (c : Nums) (e : Fns) (fUv fSpan S : Nat) (rd s res : Operand) (st : Step) (n d : Nat) (out : Nat → Operand → Tr) : Tr :=
  .op (callOp fUv [rd]) none [] <| .op (.convert c.tU32 c.tInt (.tmp n)) none [] <| .op (callOp fSpan [rd, .tmp (n + 1)]) none [] <| .op (.build c.tRd ⟨[(0, .tmp (n + 2))]⟩) none [] <| .op (.alloc c.tRd) none [] <| .op (.store c.tRd (.tmp (n + 4)) (.tmp (n + 3))) none [] <|
  gStep c e (.tmp (n + 4)) st s S (n + 6) d res fun n' _ res' => .op (callOp e.complete [.tmp (n + 4)]) none [] <| .op (.binOp .neq c.tErr (.tmp n') (.const .nilIface) c.tErr) none [] <| .cond (.tmp (n' + 1)) (.ret [(.tmp n', none)]) (out (n' + 2) res')

def gTgCases (c : Nums) (e : Fns) (fUv fSpan fSet S i : Nat) (rd s key res : Operand) : List Nat → List Step → Nat → Nat → (Nat → Operand → Tr) → Tr
  | k :: ks, st :: ss, n, d, out => .op (.binOp .eql c.tU32 key (.const (.int .u32 k)) c.tU32) none [] <|
    .join d (.cond (.tmp n) (gTgCase c e fUv fSpan S rd s res st (n + 1) (d + 1) fun _ x => .to d [x]) (gTgCases c e fUv fSpan fSet S i rd s key res ks ss (n + 1) (d + 1) fun _ x => .to d [x])) 1 <| out (n + 2) (.tmp (n + 1))
  | _, _, n, _, out => gTgDef c fUv fSpan fSet S i rd s key n fun n' => out n' res

def gTgAll (c : Nums) (e : Fns) (fUv fSpan fSet S i : Nat) (rd s res : Operand) (ks : List Nat) (ss : List Step) (n d : Nat) (k : Nat → Nat → Operand → Tr) : Tr :=
  .op (callOp fUv [rd]) none [] <| .loop d [res, .tmp n] <| .op (.binOp .gtr c.tU32 (.tmp (n + 2)) (.const (.int .u32 0)) c.tU32) none [] <|
  .cond (.tmp (n + 3)) (.op (callOp fUv [rd]) none [] <| gTgCases c e fUv fSpan fSet S i rd s (.tmp (n + 4)) (.tmp (n + 1)) ks ss (n + 5) (d + 1) fun n' x => .op (.binOp .sub c.tU32 (.tmp (n + 2)) (.const (.int .u32 1)) c.tU32) none [] <| .to d [x, .tmp n']) (k (n + 4) (d + 1) (.tmp (n + 1)))

def tgCase : List Nat → List Step → Nat → Option Step
  | k :: ks, s :: ss, key => if key = k then some s else tgCase ks ss key
  | _, _, _ => none

def immAt (fs : List FV) (j : Nat) : Bool := match fs[j]? with
  | some f => f.imm.isSome
  | none => false

/-- One tag; none: an error, or a known tag that is read behind unknown ones, or twice. -/
def runTg1 (ks : List Nat) (ss : List Step) (fs : List FV) (m : TM) (r : Rd) : Option (List FV × TM × Rd) := match tgCase ks ss (rUv r).1 with
  | some s => if m.isEmpty && stepPre s fs && immAt fs s.idx then match runStep s fs ⟨(rSpan (rUv (rUv r).2).1 (rUv (rUv r).2).2).1.1, false, (rSpan (rUv (rUv r).2).1 (rUv (rUv r).2).2).1.2⟩ with
      | some (fs', r') => if r'.bad then none else some (fs', m, (rSpan (rUv (rUv r).2).1 (rUv (rUv r).2).2).2)
      | none => none
    else none
  | none => some (fs, tmSet m (rUv r).1 (rSpan (rUv (rUv r).2).1 (rUv (rUv r).2).2).1.1, (rSpan (rUv (rUv r).2).1 (rUv (rUv r).2).2).2)

def runTg (ks : List Nat) (ss : List Step) : Nat → List FV → TM → Rd → Option (List FV × TM × Rd)
  | 0, fs, m, r => some (fs, m, r)
  | n + 1, fs, m, r => match runTg1 ks ss fs m r with
    | some (fs', m', r') => runTg ks ss n fs' m' r'
    | none => none

/-- The numbers of the tags are different from what tells nothing, and no step sets the tags. -/
def tgOk (i : Nat) (ks : List Nat) (ss : List Step) : Bool := Nat.beq ks.length ss.length && ks.all (fun k => decide (k < 4294967296)) && ss.all fun s => !Nat.beq s.idx i

theorem tgCase_mem : ∀ {ks : List Nat} {ss : List Step} {key : Nat} {s : Step}, tgCase ks ss key = some s → s ∈ ss
  | k :: ks, s0 :: ss, key, s, h => by
    simp only [tgCase] at h
    split at h
    · obtain rfl := Option.some.inj h; exact List.mem_cons_self
    · exact List.mem_cons_of_mem _ (tgCase_mem h)
  | [], _, _, _, h => by simp [tgCase] at h
  | _ :: _, [], _, _, h => by simp [tgCase] at h

theorem rSpan_len1 (m : Int) (r : Rd) : (rSpan m r).1.1.length ≤ r.l.length := by
  unfold rSpan
  split
  · exact Nat.zero_le _
  · simp only [List.length_take]; omega

/-- w1: when the last known tag had been read; since then but unknown ones. -/
structure TgAt (w1 w : World) (rb D b g lo : Nat) (e : Value) (pre post : List Value) (fs : List FV) (i off : Nat) (m : TM) (r : Rd) : Prop where
  base : ∃ (a z : List Value) (mv : Value) (r0 : Rd), StAt w1 rb D b g lo e r0 pre post fs ∧ FsAt D w1 lo fs (a ++ [.map none] ++ z) ∧ Has w1 b (pre ++ (a ++ [.map none] ++ z) ++ post) ∧ a.length = wds (fs.take i) ∧ a.length = off ∧ Has w b (pre ++ (a ++ [mv] ++ z) ++ post) ∧ TagsZ D w w1.heap.size m mv
  tags : fs[i]? = some (.tags [])
  keeps : Keeps [rb, b] w1 w
  rd : RdAt w rb D r
  len : r.l.length ≤ 1073741824

theorem TgAt.of {w : World} {rb D b g lo : Nat} {e : Value} {pre post : List Value} {fs : List FV} {i off : Nat} {r : Rd} {ls : List Nat} (h : StAt w rb D b g lo e r pre post fs) (hi : fs[i]? = some (.tags [])) (hls : fs.map FV.wd = ls) (hoff : (ls.take i).sum = off) : TgAt w w rb D b g lo e pre post fs i off [] r := by
  obtain ⟨mid, hh, hf⟩ := h.st
  obtain ⟨a, mm, z, e1, ha, hm, _⟩ := hf.split hi
  obtain ⟨v, e2, hv⟩ := hm
  have hvn : v = .map none := by
    rcases hv with ⟨rfl, _⟩ | ⟨_, _, _, _, _, _, _, _, _, _, _, hne⟩
    · rfl
    · exact absurd rfl hne
  subst hvn
  subst e2
  subst e1
  exact ⟨⟨a, z, .map none, r, h, hf, hh, ha, by rw [ha, wds_eq, List.map_take, hls, hoff], hh, .inl ⟨rfl, rfl⟩⟩, hi, .refl, h.rd, h.len⟩

theorem TgAt.st {w1 w : World} {rb D b g lo : Nat} {e : Value} {pre post : List Value} {fs : List FV} {i off : Nat} {m : TM} {r : Rd} (h : TgAt w1 w rb D b g lo e pre post fs i off m r) : StAt w rb D b g lo e r pre post (fs.set i (.tags m)) := by
  obtain ⟨⟨a, z, mv, r0, hst, hf, _, ha, _, hh, hz⟩, hi, kk, hr, hl⟩ := h
  have hlo := hst.los
  have hm : ∀ x ∈ [rb, b], x ≠ D ∧ x < lo := fun x hx => by
    simp only [List.mem_cons, List.not_mem_nil, or_false] at hx
    rcases hx with rfl | rfl
    · exact ⟨hst.rd.1, hst.rblo⟩
    · exact ⟨hst.bD, hst.blo⟩
  have hg : g ∉ [rb, b] := by
    simp only [List.mem_cons, List.not_mem_nil, or_false, not_or]
    exact ⟨hst.grb, hst.gb⟩
  exact ⟨hr, ⟨a ++ [mv] ++ z, hh, (FsAt.keep kk lo hm _ _ hf).setAt hi ha rfl ⟨mv, rfl, hz.at hlo⟩⟩, hst.err.keep kk hg, hst.grb, hst.gb, hst.rbb, hst.bD, hst.blo, hst.rblo, Nat.le_trans hlo kk.size, hl⟩

theorem TgAt.st0 {w1 w : World} {rb D b g lo : Nat} {e : Value} {pre post : List Value} {fs : List FV} {i off : Nat} {r : Rd} (h : TgAt w1 w rb D b g lo e pre post fs i off [] r) : StAt w rb D b g lo e r pre post fs := by
  have h1 := h.st
  have h2 : fs.set i (.tags []) = fs := by
    obtain ⟨hlt, he⟩ := List.getElem?_eq_some_iff.1 h.tags
    rw [← he]; exact List.set_getElem_self hlt
  rwa [h2] at h1

section

variable {P : Program} {c : Nums} {R : Value → World → Prop} {rb D : Nat} {e : Fns} {ev0 : Value}

/-- An unknown tag, set. -/
theorem sem_tgDef {fUv fSpan fSet S i off n b lo kv : Nat} {rd s key : Operand} {k : Nat → Tr} {Γ : List (List Value → World → Prop)} {ρ : Nat → Value} {w1 w : World} {pre post : List Value} {fs : List FV} {m : TM} {r : Rd} (F : RdFacts P c) (hUv : RdUv P fUv) (hSpan : RdSpanA P fSpan) (hSet : TagSetX P fSet) (hfo : fieldOff P S i = some off)
    (hbr : opBelow n rd) (hrd : ev ρ rd = ptr rb) (hbs : opBelow n s) (hs : ev ρ s = ptr b pre.length) (hbk : opBelow n key) (hkey : ev ρ key = .int .u32 (kv : Int)) (hkv : kv < 2 ^ 32) (h : TgAt w1 w rb D b c.gErr lo ev0 pre post fs i off m r)
    (hk : ∀ ρ' w', (∀ x, x < n → ρ' x = ρ x) → TgAt w1 w' rb D b c.gErr lo ev0 pre post fs i off (tmSet m kv (rSpan (rUv r).1 (rUv r).2).1.1) (rSpan (rUv r).1 (rUv r).2).2 → (k (n + 6)).sem P R Γ (n + 6) ρ' w') : (gTgDef c fUv fSpan fSet S i rd s key n k).sem P R Γ n ρ w := by
  obtain ⟨⟨a, z, mv, r0, hst, hf, hh1, ha, hao, hh, hz⟩, hi, kk, hr, hl⟩ := h
  unfold gTgDef
  show Tr.sem _ _ _ _ _ _ { w with drawn := w.drawn + 1 }
  have hd : Keeps [] w { w with drawn := w.drawn + 1 } := keeps_drawn w _ _
  generalize ({ w with drawn := w.drawn + 1 } : World) = w2 at hd ⊢
  have hr2 := hr.keep hd (by simp) (by simp)
  refine p_val (v_nilCheck hs) (p_val (v_field hfo ext_at) ?_)
  refine s_callx (hUv w2 rb D r hr2) (by simp only [List.map_cons, List.map_nil]; rw [ev_ext' hbr (by omega), ev_ext hbr, hrd]) fun u w3 ⟨hu, hr3, k3⟩ => ?_
  simp only at hu hr3
  subst hu
  refine s_val (v_conv (k1 := .u32) (a := ((rUv r).1 : Nat)) F.u32 F.int ext_at) ?_
  have hw32 : IntKind.i64.wrap ((rUv r).1 : Nat) = ((rUv r).1 : Nat) := by
    have := rUv_lt r
    exact i64_small (by omega) (by omega)
  rw [hw32]
  refine s_callx (hSpan w3 rb D _ ((rUv r).1 : Nat) hr3) (by
    simp only [List.map_cons, List.map_nil]
    congr 1
    · rw [ev_ext' hbr (by omega), ev_ext' hbr (by omega), ev_ext' hbr (by omega), ev_ext hbr, hrd]
    · congr 1
      exact ext_at) fun v w4 ⟨ho, hr4, k4⟩ => ?_
  have hrbl := hst.rblo
  have hlos := hst.los
  have hbD := hst.bD
  have hrbD := hst.rd.1
  have hDl := hst.rd.2.1
  have hblo := hst.blo
  have hrbb := hst.rbb
  have k24 : Keeps [rb] w w4 := ((hd.mono (by simp)).trans k3).trans k4
  have hh4 := hh.keep k24 (by simp only [List.mem_singleton]; exact fun e => hrbb e.symm)
  have hz4 := hz.keep k24 (by simp only [List.mem_singleton]; exact fun e => hrbD e.symm) (fun x hx => by simp only [List.mem_singleton] at hx; omega)
  have hs1 := kk.size
  have hs4 := k24.size
  have hmv : (pre ++ (a ++ [mv] ++ z) ++ post)[pre.length + off]? = some mv := by
    rw [← hao, show pre ++ (a ++ [mv] ++ z) ++ post = (pre ++ a) ++ (mv :: (z ++ post)) by simp, show pre.length + a.length = (pre ++ a).length by simp, List.getElem?_append_right (Nat.le_refl _), Nat.sub_self]
    rfl
  refine s_callx (hSet D w1.heap.size b (pre.length + off) kv w4 _ m mv v _ _ hh4 hmv hz4 hbD (by omega) hDl (by omega) hkv ho) (by
    simp only [List.map_cons, List.map_nil]
    congr 1
    · show ext _ _ _ (n + 1) = _
      rw [ext_lt (by omega), ext_lt (by omega), ext_lt (by omega)]
      exact ext_at
    · congr 1
      · rw [ev_ext' hbk (by omega), ev_ext' hbk (by omega), ev_ext' hbk (by omega), ev_ext' hbk (by omega), ev_ext hbk, hkey]
      · congr 1
        exact ext_at) fun u w5 ⟨mv', hh5, hz5, M, k5, hM⟩ => ?_
  have hsetc : (pre ++ (a ++ [mv] ++ z) ++ post).set (pre.length + off) mv' = pre ++ (a ++ [mv'] ++ z) ++ post := by
    rw [← hao, show pre ++ (a ++ [mv] ++ z) ++ post = (pre ++ a) ++ (mv :: (z ++ post)) by simp, show pre.length + a.length = (pre ++ a).length by simp, List.set_append_right _ _ (Nat.le_refl _), Nat.sub_self]
    simp
  rw [hsetc] at hh5
  refine hk _ w5 (fun x hx => by repeat rw [ext_lt (by omega)]) ⟨⟨a, z, mv', r0, hst, hf, hh1, ha, hao, hh5, hz5⟩, hi, ?_, ?_, ?_⟩
  · refine (((kk.mono (fun x hx => ?_)).trans (k24.mono (fun x hx => ?_))).trans (k5.mono (fun x hx => ?_)) : Keeps (rb :: b :: M) w1 w5).less fun x hx => ?_
    · simp only [List.mem_cons, List.not_mem_nil, or_false] at hx ⊢; omega
    · simp only [List.mem_cons, List.not_mem_nil, or_false] at hx ⊢; omega
    · simp only [List.mem_cons]; exact .inr (.inr hx)
    · simp only [List.mem_cons, List.not_mem_nil, or_false] at hx ⊢
      rcases hx with h | h | h
      · exact .inl (.inl h)
      · exact .inl (.inr h)
      · rcases hM x h with h | h
        · exact .inl (.inr h)
        · exact .inr h
  · refine hr4.keep k5 (fun hb => ?_) (fun hb => ?_)
    · rcases hM _ hb with h | h <;> omega
    · rcases hM _ hb with h | h <;> omega
  · exact Nat.le_trans (rSpan_len _ _) (Nat.le_trans (rUv_len _) hl)

/-- A known tag, read. -/
theorem sem_tgCase {fUv fSpan S i off n b lo : Nat} {rd s res : Operand} {st : Step} {out : Nat → Operand → Tr} {Γ : List (List Value → World → Prop)} {ρ : Nat → Value} {w1 w : World} {pre post : List Value} {fs fs' : List FV} {r r' : Rd} {ls : List Nat} (F : RdFacts P c) (A : RfFacts P c S) (hCo : CompGives P e.complete c.gErr) (hUv : RdUv P fUv) (hSpan : RdSpanA P fSpan) (herr : ∃ ms, P.underlying c.tErr = some (.interface ms))
    (hSem : ∀ (rb : Nat) (rd : Operand), SemOf P c R rb D rd ev0 (runStep st) (fun s n d res k => gStep c e rd st s S n d res k) ls (stepPre st)) (hne : st.idx ≠ i) (hoff : (ls.take i).sum = off)
    (hbr : opBelow n rd) (hrd : ev ρ rd = ptr rb) (hbs : opBelow n s) (hs : ev ρ s = ptr b pre.length) (hbres : opBelow n res) (h : TgAt w1 w rb D b c.gErr lo ev0 pre post fs i off [] r) (hls : fs.map FV.wd = ls) (hpre : stepPre st fs = true) (himm : immAt fs st.idx = true)
    (hrun : runStep st fs ⟨(rSpan (rUv r).1 (rUv r).2).1.1, false, (rSpan (rUv r).1 (rUv r).2).1.2⟩ = some (fs', r')) (hbad : r'.bad = false)
    (hk : ∀ Δ n' ρ' w' x, n ≤ n' → (∀ y, y < n → ρ' y = ρ y) → opBelow n' x → TgAt w' w' rb D b c.gErr lo ev0 pre post fs' i off [] (rSpan (rUv r).1 (rUv r).2).2 → fs'.map FV.wd = ls → Keeps [rb, b] w w' → (out n' x).sem P R (Γ ++ Δ) n' ρ' w') : (gTgCase c e fUv fSpan S rd s res st n Γ.length out).sem P R Γ n ρ w := by
  have hst := h.st0
  have hi := h.tags
  unfold gTgCase
  refine s_callx (hUv w rb D r hst.rd) (by simp only [List.map_cons, List.map_nil, hrd]) fun u w2 ⟨hu, hr2, k2⟩ => ?_
  simp only at hu hr2
  subst hu
  refine s_val (v_conv (k1 := .u32) (a := ((rUv r).1 : Nat)) F.u32 F.int ext_at) ?_
  have hw32 : IntKind.i64.wrap ((rUv r).1 : Nat) = ((rUv r).1 : Nat) := by
    have := rUv_lt r
    exact i64_small (by omega) (by omega)
  rw [hw32]
  refine s_callx (hSpan w2 rb D _ ((rUv r).1 : Nat) hr2) (by
    simp only [List.map_cons, List.map_nil]
    congr 1
    · rw [ev_ext' hbr (by omega), ev_ext hbr, hrd]
    · congr 1
      exact ext_at) fun v w3 ⟨ho, hr3, k3⟩ => ?_
  have hv1 : v.oneCell' = true := by
    obtain ⟨a, cp, rfl, _⟩ := (ho 0).1.form
    rfl
  have hvD : ∀ x ∈ blkOf v, x = D := fun x hx => (ho (x + 1)).2.2 x hx |>.elim id fun h => by omega
  obtain ⟨zb, hplan, rfl⟩ := A.plan
  refine s_val (v_build (cells := [v, .bool false]) hplan (fun p hp => by simp only [List.mem_singleton] at hp; subst hp; rw [show ev (ext (ext (ext ρ n [Value.int .u32 ((rUv r).1 : Nat)]) (n + 1) [Value.int .i64 ((rUv r).1 : Nat)]) (n + 1 + 1) [v]) (.tmp (n + 2)) = v from ext_at]; exact hv1) (by
    show fillOnes _ _ [(0, ev (ext (ext (ext ρ n [Value.int .u32 ((rUv r).1 : Nat)]) (n + 1) [Value.int .i64 ((rUv r).1 : Nat)]) (n + 1 + 1) [v]) (.tmp (n + 2)))] = _
    rw [show ev (ext (ext (ext ρ n [Value.int .u32 ((rUv r).1 : Nat)]) (n + 1) [Value.int .i64 ((rUv r).1 : Nat)]) (n + 1 + 1) [v]) (.tmp (n + 2)) = v from ext_at]
    rfl)) ?_
  refine s_alloc A.zero fun w4 h4 k4 z4 => ?_
  generalize hρ5 : ext (ext (ext (ext (ext ρ n _) _ _) _ _) _ _) _ _ = ρ5
  have a4 : ρ5 (n + 4) = ptr w3.heap.size := by rw [← hρ5]; exact ext_at
  have a3 : ρ5 (n + 3) = .agg ⟨[v, .bool false]⟩ := by rw [← hρ5, ext_lt (by omega)]; exact ext_at
  have ag : ∀ y, y < n → ρ5 y = ρ y := by
    intro y hy
    rw [← hρ5, ext_lt (by omega), ext_lt (by omega), ext_lt (by omega), ext_lt (by omega), ext_lt hy]
  clear hρ5
  obtain ⟨w5, e5, h5, k5⟩ := a_storeCells (P := P) (ρ := ρ5) (w := w4) (t := c.tRd) (x := .tmp (n + 4)) (y := .tmp (n + 3)) (b := w3.heap.size) (o := 0) (vs := [v, .bool false]) A.size a4 (by show (ρ5 (n + 3)).cells = _; rw [a3]; rfl) h4 (show (2 : Nat) ≤ 2 from Nat.le_refl _) (by
    intro q hq
    simp only [List.mem_cons, List.not_mem_nil, or_false] at hq
    rcases hq with rfl | rfl
    · exact hv1
    · rfl)
  refine s_unit e5 (fun p hp => (by cases hp)) ?_
  have h5' : Has w5 w3.heap.size [v, .bool false] := h5
  have k35 : Keeps [] w3 w5 := ((k4.mono (by simp)).trans k5).less fun x hx => .inr (by simp only [List.mem_singleton] at hx; omega)
  have k03 : Keeps [rb] w w3 := k2.trans k3
  have k05 : Keeps [rb] w w5 := k03.trans (k35.mono (by simp))
  have s03 := k03.size
  have s35 := k35.size
  have hrbl := hst.rblo
  have hlos := hst.los
  have hbD := hst.bD
  have hrbD := hst.rd.1
  have hDl := hst.rd.2.1
  have hblo := hst.blo
  have hrbb := hst.rbb
  have hgl := hst.err.2
  have hgr := hst.grb
  have hg5 := h5'.lt
  have hr5 := hr3.keep k35 (by simp) (by simp)
  obtain ⟨mid, hh, hf⟩ := hst.st
  obtain ⟨f0, m0, hj, him⟩ : ∃ f0 m0, fs[st.idx]? = some f0 ∧ f0.imm = some m0 := by
    unfold immAt at himm
    cases hq : fs[st.idx]? with
    | none => rw [hq] at himm; cases himm
    | some f0 =>
      rw [hq] at himm
      cases hm : f0.imm with
      | none => simp only [hm] at himm; cases himm
      | some m0 => exact ⟨f0, m0, rfl, hm⟩
  obtain ⟨bs, a, z, hw, hbj, rfl, ha, hb, heq⟩ := hf.only hj him
  obtain ⟨f', rfl, hrun2⟩ := runStep_at hj hbj hrun
  have hlen : (rSpan (rUv r).1 (rUv r).2).1.1.length ≤ 1073741824 := Nat.le_trans (rSpan_len1 _ _) (Nat.le_trans (rUv_len _) hst.len)
  have hst5 : StAt w5 w3.heap.size D b c.gErr w5.heap.size ev0 ⟨(rSpan (rUv r).1 (rUv r).2).1.1, false, (rSpan (rUv r).1 (rUv r).2).1.2⟩ pre post bs :=
    ⟨⟨by omega, by omega, v, h5', (ho 0).1.keep k35 (by simp), (ho 0).2.1, hvD⟩, ⟨_, hh.keep k05 (by simp only [List.mem_singleton]; exact fun e => hrbb e.symm), hb _ _ _⟩, hst.err.keep k05 (by simpa using hgr), by omega, hst.gb, by omega, hbD, by omega, by omega, Nat.le_refl _, hlen⟩
  refine hSem w3.heap.size (.tmp (n + 4)) s res (n + 6) _ Γ _ w5 b w5.heap.size pre post bs _ (show n + 4 < n + 6 by omega) (by show ext _ _ _ (n + 4) = _; rw [ext_lt (by omega)]; exact a4) (opBelow_mono hbs (by omega)) (by
    have hag5 : ∀ y, y < n → ext ρ5 (n + 5) [undef] y = ρ y := fun y hy => by rw [ext_lt (by omega)]; exact ag y hy
    exact (ev_agree hbs hag5).trans hs) (opBelow_mono hbres (by omega)) hst5 (hw.trans hls) (by rw [← stepPre_at (hj.trans hbj.symm)]; exact hpre) ?_ ?_
  · rintro gs' q hq n' Γ' ρ' w' res' hle ⟨Δ, rfl⟩ hag hbr' hst' hls' kk'
    rw [hrun2] at hq
    simp only [Option.some.injEq, Prod.mk.injEq] at hq
    obtain ⟨rfl, rfl⟩ := hq
    refine s_callx (hCo w' w3.heap.size D r' ev0 hst'.rd hst'.err) (by
      simp only [List.map_cons, List.map_nil]
      congr 1
      show ρ' (n + 4) = _
      rw [hag (n + 4) (by omega), ext_lt (by omega)]
      exact a4) fun u w6 ⟨hu, hw6⟩ => ?_
    subst hw6
    rw [hbad] at hu
    simp only [Bool.false_eq_true, if_false] at hu
    subst hu
    obtain ⟨ms, hms⟩ := herr
    refine s_val (v_neqNil (v := .nilIface) (r := false) hms ext_at (.inl ⟨rfl, rfl⟩)) ?_
    refine s_cond (b := false) ext_at (fun h => by cases h) fun _ => ?_
    have kall : Keeps [rb, b] w w6 := ((k05.mono (by simp)).trans (kk'.mono (by simp)) : Keeps [rb, w3.heap.size, b] w w6).less fun x hx => by
      simp only [List.mem_cons, List.not_mem_nil, or_false] at hx ⊢
      omega
    have hkm : ∀ x ∈ [rb, b], x ≠ D ∧ x < lo := fun x hx => by
      simp only [List.mem_cons, List.not_mem_nil, or_false] at hx
      rcases hx with rfl | rfl
      · exact ⟨hrbD, hrbl⟩
      · exact ⟨hbD, hblo⟩
    obtain ⟨mid', hh', hf'⟩ := hst'.st
    obtain ⟨m', rfl, hm'⟩ := heq _ _ _ f' mid' hf'
    have hml : m0.length = f0.wd := FAt.len _ _ (FV.imm_at him D w lo)
    have hf6 := (FsAt.keep kall lo hkm _ _ hf).setAt hj ha hml (FAt.mono (show lo ≤ w5.heap.size by omega) _ _ hm')
    have hls6 : (fs.set st.idx f').map FV.wd = ls := by
      rw [List.map_set, hw] at hls'
      rw [List.map_set]
      exact hls'
    have hst6 : StAt w6 rb D b c.gErr lo ev0 (rSpan (rUv r).1 (rUv r).2).2 pre post (fs.set st.idx f') :=
      ⟨hr5.keep kk' (by simp only [List.mem_cons, List.not_mem_nil, or_false, not_or]; exact ⟨by omega, hrbb⟩) (by simp only [List.mem_cons, List.not_mem_nil, or_false, not_or]; exact ⟨by omega, fun e => hbD e.symm⟩), ⟨_, hh', hf6⟩, hst'.err, hst.grb, hst.gb, hrbb, hbD, hblo, hrbl, by have := kk'.size; omega, Nat.le_trans (rSpan_len _ _) (Nat.le_trans (rUv_len _) hst.len)⟩
    exact hk Δ (n' + 2) _ w6 res' (by omega) (fun y hy => by rw [ext_lt (by omega), ext_lt (by omega), hag y (by omega), ext_lt (by omega)]; exact ag y hy) (opBelow_mono hbr' (by omega)) (TgAt.of hst6 (by rw [List.getElem?_set_ne hne]; exact hi) hls6 hoff) hls6 kall
  · intro hn
    rw [hrun2] at hn
    cases hn

end

end Go.Kf

namespace Go.Kf

open Go

theorem TgAt.read {w1 w w' : World} {rb D b g lo : Nat} {e : Value} {pre post : List Value} {fs : List FV} {i off : Nat} {m : TM} {r r' : Rd} (h : TgAt w1 w rb D b g lo e pre post fs i off m r) (k : Keeps [rb] w w') (hr : RdAt w' rb D r') (hl : r'.l.length ≤ r.l.length) : TgAt w1 w' rb D b g lo e pre post fs i off m r' := by
  obtain ⟨⟨a, z, mv, r0, hst, hf, hh1, ha, hao, hh, hz⟩, hi, kk, _, hl0⟩ := h
  have hrbl := hst.rblo
  have hlos := hst.los
  have hrbb := hst.rbb
  have hrbD := hst.rd.1
  exact ⟨⟨a, z, mv, r0, hst, hf, hh1, ha, hao, hh.keep k (by simp only [List.mem_singleton]; exact fun e => hrbb e.symm), hz.keep k (by simp only [List.mem_singleton]; exact fun e => hrbD e.symm) fun x hx => by simp only [List.mem_singleton] at hx; omega⟩, hi, kk.trans (k.mono (by simp)), hr, Nat.le_trans hl hl0⟩

section

variable {P : Program} {c : Nums} {R : Value → World → Prop} {rb D : Nat} {e : Fns} {ev0 : Value}

theorem sem_tgCases {fUv fSpan fSet S i off n0 b lo kv : Nat} {rd s key res : Operand} {ρ0 : Nat → Value} {w0 w1 w : World} {pre post : List Value} {fs fs2 : List FV} {m m2 : TM} {r r2 : Rd} {ls : List Nat} (F : RdFacts P c) (A : RfFacts P c S) (hCo : CompGives P e.complete c.gErr) (hUv : RdUv P fUv) (hSpan : RdSpanA P fSpan) (hSet : TagSetX P fSet) (herr : ∃ ms, P.underlying c.tErr = some (.interface ms)) (hfo : fieldOff P S i = some off) (hoff : (ls.take i).sum = off)
    (hbr : opBelow n0 rd) (hrd : ev ρ0 rd = ptr rb) (hbs : opBelow n0 s) (hs : ev ρ0 s = ptr b pre.length) (hbk : opBelow n0 key) (hkey : ev ρ0 key = .int .u32 (kv : Int)) (hkv : kv < 2 ^ 32) (hbres : opBelow n0 res) (h : TgAt w1 w rb D b c.gErr lo ev0 pre post fs i off m r) (hls : fs.map FV.wd = ls) (k01 : Keeps [rb, b] w0 w1) :
    ∀ (ks : List Nat) (ss : List Step) (n : Nat) (Γ : List (List Value → World → Prop)) (ρ : Nat → Value) (out : Nat → Operand → Tr), ks.length = ss.length → n0 ≤ n → (∀ y, y < n0 → ρ y = ρ0 y) →
    (∀ st ∈ ss, (∀ (rb : Nat) (rd : Operand), SemOf P c R rb D rd ev0 (runStep st) (fun s n d res k => gStep c e rd st s S n d res k) ls (stepPre st)) ∧ st.idx ≠ i) →
    (∀ st, tgCase ks ss kv = some st → m = [] ∧ stepPre st fs = true ∧ immAt fs st.idx = true ∧ m2 = m ∧ r2 = (rSpan (rUv r).1 (rUv r).2).2 ∧ ∃ r', runStep st fs ⟨(rSpan (rUv r).1 (rUv r).2).1.1, false, (rSpan (rUv r).1 (rUv r).2).1.2⟩ = some (fs2, r') ∧ r'.bad = false) →
    (tgCase ks ss kv = none → fs2 = fs ∧ m2 = tmSet m kv (rSpan (rUv r).1 (rUv r).2).1.1 ∧ r2 = (rSpan (rUv r).1 (rUv r).2).2) →
    (∀ Δ n' ρ' w' w1' x, n ≤ n' → (∀ y, y < n → ρ' y = ρ y) → opBelow n' x → TgAt w1' w' rb D b c.gErr lo ev0 pre post fs2 i off m2 r2 → fs2.map FV.wd = ls → Keeps [rb, b] w0 w1' → (out n' x).sem P R (Γ ++ Δ) n' ρ' w') →
    (gTgCases c e fUv fSpan fSet S i rd s key res ks ss n Γ.length out).sem P R Γ n ρ w
  | [], [], n, Γ, ρ, out, _, hn, hag, _, _, hdef, hout => by
    obtain ⟨rfl, rfl, rfl⟩ := hdef rfl
    simp only [gTgCases]
    refine sem_tgDef F hUv hSpan hSet hfo (opBelow_mono hbr hn) ((ev_agree hbr hag).trans hrd) (opBelow_mono hbs hn) ((ev_agree hbs hag).trans hs) (opBelow_mono hbk hn) ((ev_agree hbk hag).trans hkey) hkv h fun ρ' w' hag' h' => ?_
    have := hout [] (n + 6) ρ' w' w1 res (by omega) hag' (opBelow_mono hbres (by omega)) h' hls k01
    rwa [List.append_nil] at this
  | k :: ks, st :: ss, n, Γ, ρ, out, hlen, hn, hag, hSem, hcase, hdef, hout => by
    simp only [gTgCases]
    refine s_val (v_cmp (kk := .u32) (a := (kv : Int)) (b := (k : Int)) (r := ((kv : Int) == (k : Int))) ((ev_agree hbk hag).trans hkey) rfl rfl) ?_
    have hagn : ∀ y, y < n0 → ext ρ n [Value.bool ((kv : Int) == (k : Int))] y = ρ0 y := fun y hy => by rw [ext_lt (by omega)]; exact hag y hy
    refine ⟨rfl, fun vs w' => vs.length = 1 ∧ ∃ w1', TgAt w1' w' rb D b c.gErr lo ev0 pre post fs2 i off m2 r2 ∧ fs2.map FV.wd = ls ∧ Keeps [rb, b] w0 w1', ?_, ?_⟩
    · refine s_cond (b := ((kv : Int) == (k : Int))) ext_at (fun hb => ?_) fun hb => ?_
      · have hkk : kv = k := by have : (kv : Int) = k := by simpa using hb
                                omega
        obtain ⟨rfl, hpre, himm, rfl, rfl, r', hrun, hbad⟩ := hcase st (by simp [tgCase, hkk])
        obtain ⟨h1, h2⟩ := hSem st List.mem_cons_self
        have hd1 : Γ.length + 1 = (Γ ++ [fun (vs : List Value) w' => vs.length = 1 ∧ ∃ w1', TgAt w1' w' rb D b c.gErr lo ev0 pre post fs2 i off [] (rSpan (rUv r).1 (rUv r).2).2 ∧ fs2.map FV.wd = ls ∧ Keeps [rb, b] w0 w1']).length := by simp
        rw [hd1]
        refine sem_tgCase (out := fun _ x => .to Γ.length [x]) F A hCo hUv hSpan herr h1 h2 hoff (opBelow_mono hbr (by omega)) ((ev_agree hbr hagn).trans hrd) (opBelow_mono hbs (by omega)) ((ev_agree hbs hagn).trans hs) (opBelow_mono hbres (by omega)) h hls hpre himm hrun hbad ?_
        intro Δ n' ρ' w' x hle hag' hbx h' hls' kk
        show Tr.sem P R (.to Γ.length [x]) _ _ _ _
        refine ⟨_, by rw [List.append_assoc, List.getElem?_append_right (Nat.le_refl _), Nat.sub_self]; rfl, ?_⟩
        exact ⟨rfl, w', h', hls', (k01.trans h.keeps).trans kk⟩
      · have hne : ¬ kv = k := fun e => by rw [e] at hb; simp at hb
        have hd1 : Γ.length + 1 = (Γ ++ [fun (vs : List Value) w' => vs.length = 1 ∧ ∃ w1', TgAt w1' w' rb D b c.gErr lo ev0 pre post fs2 i off m2 r2 ∧ fs2.map FV.wd = ls ∧ Keeps [rb, b] w0 w1']).length := by simp
        rw [hd1]
        refine sem_tgCases F A hCo hUv hSpan hSet herr hfo hoff hbr hrd hbs hs hbk hkey hkv hbres h hls k01 ks ss (n + 1) _ _ (fun _ x => .to Γ.length [x]) (by simpa using hlen) (by omega) hagn (fun st' hst' => hSem st' (List.mem_cons_of_mem _ hst')) (fun st' hst' => hcase st' (by simpa [tgCase, hne] using hst')) (fun hnone => hdef (by simpa [tgCase, hne] using hnone)) ?_
        intro Δ n' ρ' w' w1' x hle hag' hbx h' hls' kk
        show Tr.sem P R (.to Γ.length [x]) _ _ _ _
        refine ⟨_, by rw [List.append_assoc, List.getElem?_append_right (Nat.le_refl _), Nat.sub_self]; rfl, ?_⟩
        exact ⟨rfl, w1', h', hls', kk⟩
    · rintro vs w' hvs ⟨_, w1', h', hls', kk⟩
      have := hout [] (n + 2) (ext (ext ρ n [Value.bool ((kv : Int) == (k : Int))]) (n + 1) vs) w' w1' (.tmp (n + 1)) (by omega) (fun y hy => by rw [ext_lt (by omega), ext_lt (by omega)]) (show n + 1 < n + 2 by omega) h' hls' kk
      rwa [List.append_nil] at this
  | [], _ :: _, _, _, _, _, hlen, _, _, _, _, _, _ => by simp at hlen
  | _ :: _, [], _, _, _, _, hlen, _, _, _, _, _, _ => by simp at hlen

theorem sem_tgAll {fUv fSpan fSet S i off n b lo : Nat} {rd s res : Operand} {ks : List Nat} {ss : List Step} {k : Nat → Nat → Operand → Tr} {Γ : List (List Value → World → Prop)} {ρ : Nat → Value} {w : World} {pre post : List Value} {fs fs2 : List FV} {m2 : TM} {r r2 : Rd} {ls : List Nat} (F : RdFacts P c) (A : RfFacts P c S) (hCo : CompGives P e.complete c.gErr) (hUv : RdUv P fUv) (hSpan : RdSpanA P fSpan) (hSet : TagSetX P fSet) (herr : ∃ ms, P.underlying c.tErr = some (.interface ms)) (hfo : fieldOff P S i = some off) (hwd : ls[i]? = some 1) (hoff : (ls.take i).sum = off)
    (hSem : ∀ st ∈ ss, ∀ (rb : Nat) (rd : Operand), SemOf P c R rb D rd ev0 (runStep st) (fun s n d res k => gStep c e rd st s S n d res k) ls (stepPre st)) (htg : tgOk i ks ss = true)
    (hbr : opBelow n rd) (hrd : ev ρ rd = ptr rb) (hbs : opBelow n s) (hs : ev ρ s = ptr b pre.length) (hbres : opBelow n res) (h : StAt w rb D b c.gErr lo ev0 r pre post fs) (hi : fs[i]? = some (.tags [])) (hls : fs.map FV.wd = ls) (hrun : runTg ks ss (rUv r).1 fs [] (rUv r).2 = some (fs2, m2, r2))
    (hk : ∀ n' Γ' ρ' w' res', n ≤ n' → (∃ Δ, Γ' = Γ ++ Δ) → (∀ x, x < n → ρ' x = ρ x) → opBelow n' res' → StAt w' rb D b c.gErr lo ev0 r2 pre post (fs2.set i (.tags m2)) → (fs2.set i (.tags m2)).map FV.wd = ls → Keeps [rb, b] w w' → (k n' Γ'.length res').sem P R Γ' n' ρ' w') : (gTgAll c e fUv fSpan fSet S i rd s res ks ss n Γ.length k).sem P R Γ n ρ w := by
  simp only [tgOk, Bool.and_eq_true, List.all_eq_true, Bool.not_eq_true'] at htg
  obtain ⟨⟨hlen, _⟩, hne⟩ := htg
  have hlen := Nat.eq_of_beq_eq_true hlen
  unfold gTgAll
  refine s_callx (hUv w rb D r h.rd) (by simp only [List.map_cons, List.map_nil, hrd]) fun u w2 ⟨hu, hr2, k2⟩ => ?_
  simp only at hu hr2
  subst hu
  have h0 := (TgAt.of h hi hls hoff).read k2 hr2 (rUv_len r)
  refine ⟨rfl, fun vs w' => ∃ v q fsq mq rq w1, vs = [v, .int .u32 ((q : Nat) : Int)] ∧ q < 2 ^ 32 ∧ TgAt w1 w' rb D b c.gErr lo ev0 pre post fsq i off mq rq ∧ fsq.map FV.wd = ls ∧ Keeps [rb, b] w w1 ∧ runTg ks ss q fsq mq rq = some (fs2, m2, r2), fun vs _ => match vs with
    | [_, .int _ q] => q.toNat
    | _ => 0, ?_, ?_⟩
  · refine ⟨ev (ext ρ n [Value.int .u32 ((rUv r).1 : Nat)]) res, (rUv r).1, fs, [], (rUv r).2, w, ?_, rUv_lt r, h0, hls, .refl, hrun⟩
    simp only [List.map_cons, List.map_nil]
    congr 1
    congr 1
    exact ext_at
  · rintro vs w3 hvs ⟨v, q, fsq, mq, rq, w1, rfl, hq, h3, hls3, k01, hrun3⟩
    simp only [List.length_cons, List.length_nil, Nat.zero_add, Nat.reduceAdd]
    generalize hρ1 : ext (ext ρ n [Value.int .u32 ((rUv r).1 : Nat)]) (n + 1) [v, Value.int .u32 ((q : Nat) : Int)] = ρ1
    have g2 : ρ1 (n + 2) = .int .u32 ((q : Nat) : Int) := by
      rw [← hρ1, show n + 2 = n + 1 + 1 by omega, ext_ge]
      rfl
    have hag : ∀ y, y < n → ρ1 y = ρ y := fun y hy => by rw [← hρ1, ext_lt (by omega), ext_lt hy]
    clear hρ1
    have hn3 : n + 1 + 2 = n + 3 := rfl
    rw [hn3]
    refine s_val (v_cmp (kk := .u32) (a := (q : Nat)) (b := 0) (r := decide (((q : Nat) : Int) > 0)) g2 rfl rfl) ?_
    refine s_cond (b := decide (((q : Nat) : Int) > 0)) ext_at (fun hpos => ?_) fun hpos => ?_
    · have hp : 0 < q := by have : ((q : Nat) : Int) > 0 := by simpa using hpos
                            omega
      obtain ⟨p, rfl⟩ : ∃ p, q = p + 1 := ⟨q - 1, by omega⟩
      simp only [runTg] at hrun3
      split at hrun3
      case h_2 => cases hrun3
      rename_i fs' m' r' hone
      refine s_callx (hUv w3 rb D rq h3.rd) (by simp only [List.map_cons, List.map_nil]; rw [ev_ext' hbr (by omega), ev_agree hbr hag, hrd]) fun u w4 ⟨hu, hr4, k4⟩ => ?_
      simp only at hu hr4
      subst hu
      have h4 := h3.read k4 hr4 (rUv_len rq)
      generalize hρ2 : ext (ext ρ1 (n + 3) [Value.bool (decide ((((p + 1 : Nat) : Nat) : Int) > 0))]) (n + 3 + 1) [Value.int .u32 ((rUv rq).1 : Nat)] = ρ2
      have f4 : ρ2 (n + 4) = .int .u32 ((rUv rq).1 : Nat) := by rw [← hρ2]; exact ext_at
      have f2 : ρ2 (n + 2) = .int .u32 (((p + 1 : Nat) : Nat) : Int) := by rw [← hρ2, ext_lt (by omega), ext_lt (by omega)]; exact g2
      have hag2 : ∀ y, y < n → ρ2 y = ρ y := fun y hy => by rw [← hρ2, ext_lt (by omega), ext_lt (by omega)]; exact hag y hy
      clear hρ2
      have hd1 : ∀ J : List Value → World → Prop, Γ.length + 1 = (Γ ++ [J]).length := fun J => by simp
      rw [hd1 _]
      refine sem_tgCases (n0 := n + 5) (key := .tmp (n + 4)) (res := .tmp (n + 1)) (ρ0 := ρ2) (w0 := w) (w1 := w1) (fs2 := fs') (m2 := m') (r2 := r') (kv := (rUv rq).1) F A hCo hUv hSpan hSet herr hfo hoff (opBelow_mono hbr (by omega)) ((ev_agree hbr hag2).trans hrd) (opBelow_mono hbs (by omega)) ((ev_agree hbs hag2).trans hs) (show n + 4 < n + 5 by omega) f4 (rUv_lt rq) (show n + 1 < n + 5 by omega) h4 hls3 k01 ks ss (n + 5) _ ρ2 (fun n' x => .op (.binOp .sub c.tU32 (.tmp (n + 2)) (.const (.int .u32 1)) c.tU32) none [] <| .to Γ.length [x, .tmp n']) hlen (Nat.le_refl _) (fun _ _ => rfl) (fun st hst => ⟨hSem st hst, fun e => by have := hne st hst; rw [e] at this; simp at this⟩) ?_ ?_ ?_
      · intro st hst
        unfold runTg1 at hone
        rw [hst] at hone
        simp only at hone
        split at hone
        case isFalse => cases hone
        rename_i hc
        simp only [Bool.and_eq_true] at hc
        split at hone
        case h_2 => cases hone
        rename_i fsx rx hrunx
        split at hone
        · cases hone
        rename_i hbad
        simp only [Option.some.injEq, Prod.mk.injEq] at hone
        obtain ⟨rfl, rfl, rfl⟩ := hone
        exact ⟨by simpa using hc.1.1, hc.1.2, hc.2, rfl, rfl, rx, hrunx, by simpa using hbad⟩
      · intro hnone
        unfold runTg1 at hone
        rw [hnone] at hone
        simp only [Option.some.injEq, Prod.mk.injEq] at hone
        exact ⟨hone.1.symm, hone.2.1.symm, hone.2.2.symm⟩
      · intro Δ n' ρ' w' w1' x hle hag' hbx h' hls' kk
        refine s_val (v_arith (kk := .u32) (a := (((p + 1 : Nat) : Nat) : Int)) (b := 1) (r := ((p : Nat) : Int)) (by show ρ' (n + 2) = _; rw [hag' (n + 2) (by omega)]; exact f2) rfl ?_) ?_
        · simp only [arithOf, Option.some.injEq, IntKind.wrap, IntKind.bits, IntKind.signed]
          simp; omega
        refine ⟨_, by rw [List.append_assoc, List.getElem?_append_right (Nat.le_refl _), Nat.sub_self]; rfl, ?_⟩
        refine ⟨⟨ev (ext ρ' n' [Value.int .u32 ((p : Nat) : Int)]) x, p, fs', m', r', w1', ?_, by omega, h', hls', kk, hrun3⟩, ?_⟩
        · simp only [List.map_cons, List.map_nil]
          congr 1
          congr 1
          exact ext_at
        · simp only [List.map_cons, List.map_nil]
          rw [show ev (ext ρ' n' [Value.int .u32 ((p : Nat) : Int)]) (.tmp n') = .int .u32 ((p : Nat) : Int) from ext_at]
          show ((p : Nat) : Int).toNat < (((p + 1 : Nat) : Nat) : Int).toNat
          omega
    · have hq0 : q = 0 := by have : ¬ ((q : Nat) : Int) > 0 := by simpa using hpos
                             omega
      subst hq0
      simp only [runTg, Option.some.injEq, Prod.mk.injEq] at hrun3
      obtain ⟨rfl, rfl, rfl⟩ := hrun3
      have hd1 : ∀ J : List Value → World → Prop, Γ.length + 1 = (Γ ++ [J]).length := fun J => by simp
      rw [hd1 _]
      refine hk (n + 4) _ _ w3 (.tmp (n + 1)) (by omega) ⟨_, rfl⟩ (fun y hy => by rw [ext_lt (by omega)]; exact hag y hy) (show n + 1 < n + 4 by omega) h3.st ?_ (k01.trans h3.keeps)
      exact map_wd_set hls3 hwd rfl

end

end Go.Kf

namespace Go.Kf

open Go

def gReadFromT (c : Nums) (e : Fns) (S fDef fUv fSpan fSet i : Nat) (v : Int) (ss : List Step) (ks : List Nat) (sts : List Step) : Tr :=
  .op (callOp fDef [.tmp 0]) none [] <| .op (.build c.tRd ⟨[(0, .tmp 1)]⟩) none [] <| .op (.alloc c.tRd) none [] <| .op (.store c.tRd (.tmp 5) (.tmp 4)) none [] <| .op (.nilCheck (.tmp 0)) none [] <| .op (.fieldAddr S (.tmp 7) 0) none [] <|
  .op (.load c.tI16 (.tmp 8)) (some (.int .i16 v)) [] <| gSteps c e (.tmp 5) ss (.tmp 0) S 10 0 (.const .nilIface) fun n d res => gTgAll c e fUv fSpan fSet S i (.tmp 5) (.tmp 0) res ks sts n d fun n _ _ => .op (callOp e.complete [.tmp 5]) none [] <| .ret [(.tmp n, none)]

theorem stepsOk_mem {P : Program} {c : Nums} {S : Nat} {ls : List Nat} : ∀ {ss : List Step}, StepsOk P c S ls ss → ∀ {s : Step}, s ∈ ss → StepOk P c S ls s
  | s0 :: ss, h, s, hs => by
    simp only [StepsOk] at h
    rcases List.mem_cons.1 hs with e | hs
    · rw [e]; exact h.1
    · exact stepsOk_mem h.2 hs

theorem deepsOk_mem : ∀ {ss : List Step}, deepsOk ss = true → ∀ {s : Step}, s ∈ ss → deepOk s = true
  | s0 :: ss, h, s, hs => by
    simp only [deepsOk, Bool.and_eq_true] at h
    rcases List.mem_cons.1 hs with e | hs
    · rw [e]; exact h.1
    · exact deepsOk_mem h.2 hs

section

variable {P : Program} {c : Nums} {w : World}

theorem readFromT_gives {e : Fns} {f S fDef fUv fSpan fSet i off : Nat} {ks : List Nat} {sts : List Step} {fsA fs2 : List FV} {m2 : TM} {rA r2 : Rd} {ds : List Dset} {ls : List Nat} {ss : List Step} {v : Int} {uns : Bool} {fs0 fs1 : List FV} {mid1 : List Value} (F : RdFacts P c) (A : RfFacts P c S) (hOk : OkGives P e.ok) (hCo : CompGives P e.complete c.gErr)
    (hT : treeIn P f (orcV 9 v) [.tmp 0, .tmp 1, .const (.bool uns)] 3 = gReadFromT c e S fDef fUv fSpan fSet i v ss ks sts) (hUv : RdUv P fUv) (hSpan : RdSpanA P fSpan) (hSet : TagSetX P fSet) (herr : ∃ ms, P.underlying c.tErr = some (.interface ms)) (hp : PlaceOk P S ls i off 1) (hokT : StepsOk P c S ls sts) (hdeepT : deepsOk sts = true) (htg : tgOk i ks sts = true) (hDef : DefSets P fDef ls ds) (hok : StepsOk P c S ls ss) (hdeep : deepsOk ss = true) (hsh : shapesOk fs0 ds = true) (h0 : fs0.map FV.wd = ls) (h01 : applyD ds fs0 = fs1) (hidx : idxOk fs1 ss = true) (himm : immL fs1 = some mid1) (hv : fs1[0]? = some (.one (.int .i16 v)))
    (hl1 : fs1.map FV.wd = ls) {V D : Nat} {mid0 : List Value} {l : List UInt8} {src e0 : Value} (hV : Has w V mid0) (hf0 : ∀ D lo, FsAt D w lo fs0 mid0) (hsrc : Reads w src 1 l.length (bcells l)) (hblk : ∀ b ∈ blkOf src, b = D) (hD : D < w.heap.size) (hVD : V ≠ D) (he : ErrAt w c.gErr e0) (hgV : c.gErr ≠ V) (hlen : l.length ≤ 1073741824) (hrunA : runSteps ss fs1 ⟨l, false, nilOf src⟩ = some (fsA, rA)) (hiA : fsA[i]? = some (.tags [])) (hrunT : runTg ks sts (rUv rA).1 fsA [] (rUv rA).2 = some (fs2, m2, r2)) (hbad : r2.bad = false) :
    Gives P f [ptr V, src, .bool uns] w fun u w' => Keeps [V] w w' ∧ u = .nilIface ∧ ∃ mid, Has w' V mid ∧ FsAt D w' w.heap.size (fs2.set i (.tags m2)) mid := by
  have hVl := hV.lt
  refine gives_in (ρ := en [ptr V, src]) F.mix hT (Nat.le_refl _) rfl (by simp [opBelow]) ?_
  unfold gReadFromT
  have hd := hDef D w V w.heap.size [] [] mid0 fs0 hVD hVl hsh h0 (by simpa using hV) (hf0 D w.heap.size)
  refine s_callx hd rfl fun u1 w1 ⟨⟨mid', hh1, hf1⟩, k1⟩ => ?_
  simp only [List.nil_append, List.append_nil] at hh1
  rw [h01] at hf1
  obtain rfl := immL_eq himm hf1
  obtain ⟨a, cp, hav, _⟩ := hsrc.form
  obtain ⟨z, hplan, rfl⟩ := A.plan
  refine s_val (v_build (cells := [src, .bool false]) hplan (fun p hp => by simp only [List.mem_singleton] at hp; subst hp; show src.oneCell' = true; rw [hav]; rfl) (by rfl)) ?_
  obtain ⟨w2, e2, h2, k2, s2⟩ := a_alloc (P := P) (ρ := ext (ext (en [ptr V, src]) 3 [u1]) 4 [.agg ⟨[src, .bool false]⟩]) (w := w1) A.zero
  refine s_act e2 (fun p hp => (by cases hp)) ?_
  obtain ⟨w3, e3, h3, k3⟩ := a_storeCells (P := P) (ρ := ext (ext (ext (en [ptr V, src]) 3 [u1]) 4 [.agg ⟨[src, .bool false]⟩]) 5 [ptr w1.heap.size]) (w := w2) (t := c.tRd) (x := .tmp 5) (y := .tmp 4) (b := w1.heap.size) (o := 0) (vs := [src, .bool false]) A.size rfl rfl h2 (show (2 : Nat) ≤ 2 from Nat.le_refl _) (by
    intro q hq
    simp only [List.mem_cons, List.not_mem_nil, or_false] at hq
    rcases hq with rfl | rfl
    · rw [hav]; rfl
    · rfl)
  refine s_unit e3 (fun p hp => (by cases hp)) ?_
  have h3' : Has w3 w1.heap.size [src, .bool false] := h3
  have k13 : Keeps [] w1 w3 := ((k2.mono (by simp)).trans k3).less fun x hx => .inr (by simp only [List.mem_singleton] at hx; omega)
  have hs1 := k1.size
  have hh3 := hh1.keep k13 (by simp)
  refine s_val (v_nilCheck (a := ⟨V, 0, none⟩) rfl) ?_
  refine s_val (v_field (b := V) (o := 0) A.ver rfl) ?_
  have hcell : mid'[0]? = some (.int .i16 v) := by
    obtain ⟨a1, m1, z1, em, ha1, hm1, _⟩ := (immL_at himm D w 0).split hv
    have : a1 = [] := List.eq_nil_of_length_eq_zero (by rw [ha1]; rfl)
    subst this
    rw [em, hm1.1]
    rfl
  refine s_known (l_load1 (b := V) (o := 0) A.oneI16 rfl hh3 hcell) ?_
  have kw3 : Keeps [V] w w3 := k1.trans (k13.mono (by simp))
  have hst : StAt w3 w1.heap.size D V c.gErr (w1.heap.size + 1) e0 ⟨l, false, nilOf src⟩ [] [] fs1 :=
    ⟨⟨by omega, Nat.lt_of_lt_of_le hD kw3.size, src, h3', hsrc.keep kw3 (fun b hb => by simp only [List.mem_singleton]; rw [hblk b hb]; exact fun e => hVD e.symm), rfl, hblk⟩, ⟨mid', by simpa using hh3, immL_at himm D w3 _⟩, he.keep kw3 (by simpa using hgV), (by have := he.2; omega), hgV, by omega, hVD, by omega, by omega, h3'.lt, hlen⟩
  have hsem := sem_steps (R := fun u w' => Keeps [V] w w' ∧ u = .nilIface ∧ ∃ mid, Has w' V mid ∧ FsAt D w' w.heap.size (fs2.set i (.tags m2)) mid) (rb := w1.heap.size) (D := D) (rd := .tmp 5) (ev0 := e0) F hCo ss S ls (fun _ => hOk) hok hdeep
  refine hsem (.tmp 0) (.const .nilIface) 10 (fun n d res => gTgAll c e fUv fSpan fSet S i (.tmp 5) (.tmp 0) res ks sts n d fun n _ _ => .op (callOp e.complete [.tmp 5]) none [] <| .ret [(.tmp n, none)]) [] _ w3 V (w1.heap.size + 1) [] [] fs1 ⟨l, false, nilOf src⟩ (by simp [opBelow]) rfl (by simp [opBelow]) rfl trivial hst hl1 hidx ?_ ?_
  · rintro fs' r' hrun n' Γ' ρ' w' res' hle hΔ hag hbres' hst' hls' kk'
    rw [hrunA] at hrun
    simp only [Option.some.injEq, Prod.mk.injEq] at hrun
    obtain ⟨rfl, rfl⟩ := hrun
    have hag0 : ∀ y : Operand, opBelow 10 y → ev ρ' y = _ := fun y hy => ev_agree hy hag
    refine sem_tgAll F A hCo hUv hSpan hSet herr hp.field hp.wd hp.off (fun st hst0 rb rd => sem_step F hCo st S ls (fun _ => hOk) (stepsOk_mem hokT hst0) (deepsOk_mem hdeepT hst0)) htg (opBelow_mono (x := .tmp 5) (n := 10) (by simp [opBelow]) hle) (by rw [hag0 (.tmp 5) (by simp [opBelow])]; rfl) (opBelow_mono (x := .tmp 0) (n := 10) (by simp [opBelow]) hle) (by rw [hag0 (.tmp 0) (by simp [opBelow])]; rfl) hbres' hst' hiA hls' hrunT ?_
    intro n2 Γ2 ρ2 w5 res2 hle2 _ hag2 _ hst5 hls5 kk5
    have hc := hCo w5 w1.heap.size D r2 e0 hst5.rd hst5.err
    refine s_callx hc (by
      simp only [List.map_cons, List.map_nil]
      rw [ev_agree (x := .tmp 5) (n := n') (opBelow_mono (n := 10) (by simp [opBelow]) hle) hag2, hag0 (.tmp 5) (by simp [opBelow])]
      rfl) fun u w4 hu => ?_
    obtain ⟨rfl, rfl⟩ := hu
    refine s_ret1 ?_
    rw [show ev (ext ρ2 n2 [if r2.bad = true then e0 else Value.nilIface]) (.tmp n2) = if r2.bad = true then e0 else Value.nilIface from ext_at, hbad]
    have kall : Keeps [V] w w4 := (((kw3.mono (by simp)).trans kk').trans kk5 : Keeps [w1.heap.size, V] w w4).less fun x hx => by
      simp only [List.mem_cons, List.not_mem_nil, or_false] at hx ⊢
      omega
    obtain ⟨mid, hm, hf⟩ := hst5.st
    exact ⟨kall, rfl, mid, by simpa using hm, FsAt.mono (by omega) _ _ hf⟩
  · intro hn w' kk'
    rw [hrunA] at hn
    cases hn

theorem readsToT_of {e : Fns} {f g S fDef fUv fSpan fSet i off : Nat} {ds : List Dset} {ls : List Nat} {ss sts : List Step} {ks : List Nat} {v : Int} {uns : Bool} {fs0 fs1 fsA fs2 : List FV} {mid0 mid1 : List Value} {m2 : TM} {rA r2 : Rd} (F : RdFacts P c) (A : RfFacts P c S) (hOk : OkGives P e.ok) (hCo : CompGives P e.complete c.gErr)
    (hT : treeIn P g (orcV 9 v) [.tmp 0, .tmp 1, .const (.bool uns)] 3 = gReadFromT c e S fDef fUv fSpan fSet i v ss ks sts) (hW : treeIn P f noOrc [.tmp 0, .tmp 1] 2 = tWrap g uns) (hUv : RdUv P fUv) (hSpan : RdSpanA P fSpan) (hSet : TagSetX P fSet) (herr : ∃ ms, P.underlying c.tErr = some (.interface ms)) (hp : PlaceOk P S ls i off 1) (hokT : StepsOk P c S ls sts) (hdeepT : deepsOk sts = true) (htg : tgOk i ks sts = true)
    (hDef : DefSets P fDef ls ds) (hok : StepsOk P c S ls ss) (hdeep : deepsOk ss = true) (hsh : shapesOk fs0 ds = true) (h0 : fs0.map FV.wd = ls) (h01 : applyD ds fs0 = fs1) (hidx : idxOk fs1 ss = true)
    (himm0 : immL fs0 = some (.int .i16 v :: mid0)) (himm : immL fs1 = some mid1) (hv : fs1[0]? = some (.one (.int .i16 v))) (hl1 : fs1.map FV.wd = ls) {e0 : Value} {l : List UInt8} (hl : l.length ≤ 1073741824) (hrunA : runSteps ss fs1 ⟨l, false, l.isEmpty⟩ = some (fsA, rA)) (hiA : fsA[i]? = some (.tags [])) (hrunT : runTg ks sts (rUv rA).1 fsA [] (rUv rA).2 = some (fs2, m2, r2)) (hbad : r2.bad = false) : ReadsTo P c f v mid0 e0 l (fs2.set i (.tags m2)) := by
  intro w V D src hV hr hn hb hD hVD he hgV
  rw [← hn] at hrunA
  exact wrap_gives F.mix hW (readFromT_gives F A hOk hCo hT hUv hSpan hSet herr hp hokT hdeepT htg hDef hok hdeep hsh h0 h01 hidx himm hv hl1 hV (fun D lo => immL_at himm0 D w lo) hr hb hD hVD he hgV hl hrunA hiA hrunT hbad)

end

end Go.Kf

namespace Go.Kf

open Go

theorem pKnown_snoc (f : PF) : ∀ (l : List PF) (n : Nat), pKnown (l ++ [f]) n = if 0 ≤ f.tag then max (pKnown l n) (f.tag.toNat + 1) else pKnown l n
  | [], n => by simp [pKnown]
  | x :: l, n => by simp only [List.cons_append, pKnown]; exact pKnown_snoc f l _

theorem pKnown_lt : ∀ (l : List PF) (n : Nat), (∀ f ∈ l, f.tag < 2147483647) → n < 2147483648 → pKnown l n < 2147483648
  | [], _, _, h => h
  | f :: l, n, hp, h => by
    simp only [pKnown]
    refine pKnown_lt l _ (fun x hx => hp x (by simp [hx])) ?_
    have := hp f (by simp)
    split <;> omega

section

variable {P : Program} {c : Nums} {s : SN} {w : World}

theorem known_gives (S : SpFacts P c s) (hT : treeIn P s.known noOrc [.tmp 0] 1 = tKnown c s) {fs : List PF} {fv : Value} (hp : ∀ f ∈ fs, f.tag < 2147483647) (hfv : FieldsV w fs fv) (hlen : fs.length < 2 ^ 31) : Yields P s.known [fv] w (.int .u32 (pKnown fs 0 : Nat)) := by
  refine gives_in (ρ := en [fv]) S.rd.mix hT (Nat.le_refl _) rfl (by simp [opBelow]) ?_
  have hfv0 := hfv
  obtain ⟨fcs, hr, hfc⟩ := hfv
  obtain ⟨a, cp, e⟩ := hr.form
  refine s_val (v_len (a := a) (l := fs.length) (c := cp) S.sl e) ?_
  refine s_countV (n := 2) (q := 1) (kk := .i64) (m := fs.length) (ri := [.const (.int .u32 0)]) (Γ := []) (fun j vr w' => vr = [.int .u32 (pKnown (fs.take j) 0 : Nat)] ∧ Keeps [] w w') (by omega) rfl ⟨rfl, .refl⟩ ?_ ?_
  · rintro j hj w1 vr ⟨rfl, k1⟩ hvr J hJ
    have hj' : j < fs.length := by omega
    refine s_eachF (fv := fv) (fs := fs) (j := j) S (hfv0.keep k1) rfl rfl hj' fun w2 a b cs hh hf k2 hb => ?_
    obtain ⟨sv, rfl, _⟩ := hf.cells
    have htg := hp _ (List.getElem_mem hj')
    have hacc := pKnown_lt (fs.take j) 0 (fun f hf => hp f (List.mem_of_mem_take hf)) (by decide)
    have hsn : pKnown (fs.take (j + 1)) 0 = if 0 ≤ (fs[j]'hj').tag then max (pKnown (fs.take j) 0) ((fs[j]'hj').tag.toNat + 1) else pKnown (fs.take j) 0 := by
      rw [List.take_succ_eq_append_getElem hj', pKnown_snoc]
    refine s_fl S.f4 S.oneInt rfl rfl hh rfl ?_
    refine s_val (v_cmp (kk := .i64) (a := (fs[j]'hj').tag) (b := 0) (r := decide ((fs[j]'hj').tag ≥ 0)) rfl rfl rfl) ?_
    refine ⟨rfl, fun vs w' => vs = [.int .u32 (pKnown (fs.take (j + 1)) 0 : Nat)] ∧ w2 = w', ?_, ?_⟩
    · refine s_cond (b := decide ((fs[j]'hj').tag ≥ 0)) rfl (fun hb => ?_) fun hb => ⟨_, rfl, ?_, rfl⟩
      · have hge : 0 ≤ (fs[j]'hj').tag := by simpa using hb
        refine s_fl S.f4 S.oneInt rfl rfl hh rfl ?_
        refine s_val (v_conv (k1 := .i64) (k2 := .u32) (a := (fs[j]'hj').tag) S.rd.int S.rd.u32 rfl) ?_
        have hw : IntKind.u32.wrap (fs[j]'hj').tag = (fs[j]'hj').tag := by
          simp only [IntKind.wrap, IntKind.bits, IntKind.signed]
          simp
          omega
        rw [hw]
        refine s_val (v_arith (kk := .u32) (a := (fs[j]'hj').tag) (b := 1) (r := (((fs[j]'hj').tag.toNat + 1 : Nat) : Int)) rfl rfl ?_) ?_
        · simp only [arithOf, Option.some.injEq, IntKind.wrap, IntKind.bits, IntKind.signed]
          simp
          omega
        refine s_val (v_max (kk := .u32) (k2 := .u32) (a := (pKnown (fs.take j) 0 : Nat)) (b := (((fs[j]'hj').tag.toNat + 1 : Nat) : Int)) rfl rfl) ?_
        refine ⟨_, rfl, ?_, rfl⟩
        simp only [List.map_cons, List.map_nil]
        rw [show ev (ext _ 16 [Value.int .u32 (if ((pKnown (fs.take j) 0 : Nat) : Int) < (((fs[j]'hj').tag.toNat + 1 : Nat) : Int) then (((fs[j]'hj').tag.toNat + 1 : Nat) : Int) else ((pKnown (fs.take j) 0 : Nat) : Int))]) (.tmp 16) = _ from ext_at, hsn, if_pos hge]
        congr 2
        split <;> omega
      · have hlt : ¬ 0 ≤ (fs[j]'hj').tag := by simpa using hb
        rw [hsn, if_neg hlt]
        rfl
    · rintro vs w' _ ⟨rfl, rfl⟩
      refine s_val (v_arith (kk := .i64) (a := j) (b := 1) (r := ((j + 1 : Nat) : Int)) rfl rfl ?_) ?_
      · simp only [arithOf, Option.some.injEq]; rw [IntKind.wrap_i64]; omega
      exact ⟨J, rfl, hJ [_] _ rfl ⟨rfl, k1.trans k2⟩⟩
  · rintro w1 vr J ⟨rfl, k1⟩ hvr
    rw [Int.toNat_natCast, List.take_length] at *
    exact s_ret1 ⟨rfl, k1⟩

end

def encTg (l : List (Int × List UInt8)) : List UInt8 := (l.map fun p => pTag1 p.1.toNat p.2).flatten

theorem encK_append (a b : List (Int × List UInt8)) : encTg (a ++ b) = encTg a ++ encTg b := by simp [encTg]

def pTag1Of (f : PF) (v : Int) (fl : Bool) (t : PT) : List (Int × List UInt8) := if 0 ≤ f.tag ∧ pUsual f t = false then [(f.tag, pField f v fl t)] else []

theorem pTagged_take (v : Int) (fl : Bool) (t : PT) : ∀ {fs : List PF} (i : Nat) {j : Nat} (hj : j < fs.length), pTagged (fs.take (j + 1)) v fl t i = pTagged (fs.take j) v fl t i ++ pTag1Of fs[j] v fl (pAt t (i + j))
  | f :: fs, i, 0, _ => by simp [pTagged, pTag1Of]
  | f :: fs, i, j + 1, hj => by
    have h := pTagged_take v fl t (fs := fs) (i + 1) (j := j) (by simpa using hj)
    simp only [List.take_succ_cons, pTagged, h, List.getElem_cons_succ, List.append_assoc]
    rw [show i + 1 + j = i + (j + 1) by omega]

def knownTo (tg : List (Int × List UInt8)) (k : Nat) : List (Int × List UInt8) := (List.range k).flatMap fun (k : Nat) => tg.filter fun p => p.1 == (k : Int)

theorem knownTo_succ (tg : List (Int × List UInt8)) (k : Nat) : knownTo tg (k + 1) = knownTo tg k ++ tg.filter fun p => p.1 == (k : Int) := by
  unfold knownTo
  rw [List.range_succ, List.flatMap_append]
  simp

theorem knownTo_le (tg : List (Int × List UInt8)) : ∀ {k K : Nat}, k ≤ K → (encTg (knownTo tg k)).length ≤ (encTg (knownTo tg K)).length := fun {k K} h => by
  induction h with
  | refl => exact Nat.le_refl _
  | step _ ih =>
    rw [knownTo_succ, encK_append, List.length_append]
    omega

theorem pTagged_prefix (v : Int) (fl : Bool) (t : PT) (fs : List PF) (j : Nat) : ∃ r, pTagged fs v fl t 0 = pTagged (fs.take j) v fl t 0 ++ r := by
  have h : ∀ (a b : List PF) (i : Nat), ∃ r, pTagged (a ++ b) v fl t i = pTagged a v fl t i ++ r := fun a => by
    induction a with
    | nil => exact fun b i => ⟨pTagged b v fl t i, by simp [pTagged]⟩
    | cons x a ih =>
      intro b i
      obtain ⟨r, hr⟩ := ih b (i + 1)
      exact ⟨r, by simp only [List.cons_append, pTagged, hr, List.append_assoc]⟩
  have := h (fs.take j) (fs.drop j) 0
  rwa [List.take_append_drop] at this

end Go.Kf
