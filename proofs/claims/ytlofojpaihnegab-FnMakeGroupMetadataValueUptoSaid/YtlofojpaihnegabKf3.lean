/- The library for this proof, part 3: trees of function bodies, and what the package's functions do. -/
import Derived.Test.YtlofojpaihnegabKf2


namespace Go.Kf

open Go

mutual
def kF : PF → Nat
  | .mk k _ _ _ _ _ e sub => if k = 11 then (if e = 10 then 3 + kPart sub else 6) else if k = 10 then 3 + kPart sub else 3
def kPart : List PF → Nat
  | [] => 8
  | f :: r => kF f + kPart r
end

def kPlain : List PF → Nat
  | [] => 0
  | f :: r => kF f + kPlain r

theorem kPart_eq : ∀ fs : List PF, kPart fs = kPlain fs + 8
  | [] => rfl
  | f :: r => by rw [kPart, kPlain, kPart_eq r]; omega

theorem PT.wt_eq (t : PT) : t.wt = 6 + t.s.length + PT.wts t.l + tagsWt t.u := by cases t; rfl

theorem wts_mem {x : PT} : ∀ {l : List PT}, x ∈ l → x.wt ≤ PT.wts l
  | [], h => by cases h
  | y :: l, h => by
    rw [PT.wts]
    rcases List.mem_cons.1 h with rfl | h
    · omega
    · have := wts_mem h
      omega

theorem wt_at (t : PT) (i : Nat) : (pAt t i).wt ≤ t.wt := by
  rw [PT.wt_eq t]
  unfold pAt
  rw [List.getD_eq_getElem?_getD]
  by_cases h : i < t.l.length
  · rw [List.getElem?_eq_getElem h]
    have := wts_mem (List.getElem_mem h)
    simp only [Option.getD_some]
    omega
  · rw [List.getElem?_eq_none (by omega)]
    have : PT.zero.wt = 6 := rfl
    simp only [Option.getD_none]
    omega

theorem wts_take (n : Nat) : ∀ l : List PT, PT.wts (l.take n) ≤ PT.wts l := by
  induction n with
  | zero => intro l; simp [PT.wts]
  | succ n ih =>
    intro l
    cases l with
    | nil => simp [PT.wts]
    | cons x l => rw [List.take_succ_cons, PT.wts, PT.wts]; have := ih l; omega

theorem tagsWt_take (n : Nat) : ∀ l : TM, tagsWt (l.take n) ≤ tagsWt l := by
  induction n with
  | zero => intro l; simp [tagsWt]
  | succ n ih =>
    intro l
    cases l with
    | nil => simp [tagsWt]
    | cons x l => rw [List.take_succ_cons, tagsWt, tagsWt]; have := ih l; omega

theorem tagsWt_put (q : Nat × List UInt8) : ∀ m : TM, tagsWt (pPut q m) ≤ tagsWt m + 3 + q.2.length
  | [] => by simp [pPut, tagsWt]
  | p :: m => by
    have := tagsWt_put q m
    rw [pPut]
    split
    · simp only [tagsWt]; omega
    · split
      · simp only [tagsWt]; omega
      · simp only [tagsWt]; omega

theorem tagsWt_unknownN (least : Nat) : ∀ u out : TM, tagsWt (pUnknownN least u out) ≤ tagsWt u + tagsWt out
  | [], out => by simp [pUnknownN, tagsWt]
  | q :: u, out => by
    rw [pUnknownN]
    have h1 := tagsWt_unknownN least u (if q.1 < least then out else pPut q out)
    have h2 := tagsWt_put q out
    rw [tagsWt]
    split at h1 <;> rename_i hq
    · rw [if_pos hq]; omega
    · rw [if_neg hq]; omega

theorem tagsWt_unknown (fs : List PF) (u : TM) : tagsWt (pUnknown fs u) ≤ tagsWt u := by
  have h1 := tagsWt_unknownN (pKnown fs 0) (u.take 32767) []
  have h2 := tagsWt_take 32767 u
  have h3 : tagsWt ([] : TM) = 0 := rfl
  unfold pUnknown
  omega

theorem pTags_len : ∀ m : TM, (pTags m).length ≤ 8 * tagsWt m
  | [] => by simp [pTags]
  | q :: m => by
    have h1 := pTags_len m
    have h2 : (pTags (q :: m)).length = (pUv q.1).length + (pUv (pWhole q.2).length).length + (pWhole q.2).length + (pTags m).length := by
      simp only [pTags, List.map_cons, List.flatten_cons, pTag1, List.length_append]
    have h3 := pUv_length q.1
    have h4 := pUv_length (pWhole q.2).length
    have h5 : (pWhole q.2).length ≤ q.2.length := by unfold pWhole; rw [List.length_take]; omega
    rw [h2, tagsWt]
    omega

theorem pValue_len {pp : PT → List UInt8} {kind : Int} {null fl : Bool} {t : PT} (h : kind ≠ 10) : (pValue pp kind null fl t).length ≤ 3 * t.wt := by
  have hw : 6 + t.s.length ≤ t.wt := by rw [PT.wt_eq]; omega
  have hs : (if null then [] else pWhole t.s).length ≤ t.s.length := by
    split
    · simp
    · unfold pWhole; rw [List.length_take]; omega
  unfold pValue
  split
  · simp only [List.length_singleton]; omega
  split
  · rw [pId_length]; omega
  split
  · have := pCounted_length fl null (if null then [] else pWhole t.s).length 2
    simp only [List.length_append]
    omega
  split
  · have := pCounted_length fl null (if null then [] else pWhole t.s).length 4
    simp only [List.length_append]
    omega
  rw [pFixed_length]
  have := pWidth_le kind
  omega

theorem flatten_wt {pp : PT → List UInt8} {k : Nat} : ∀ {l : List PT}, (∀ x ∈ l, (pp x).length ≤ k * x.wt) → (l.map pp).flatten.length ≤ k * PT.wts l
  | [], _ => by simp
  | x :: l, h => by
    have := flatten_wt (pp := pp) (k := k) (l := l) fun y hy => h y (by simp [hy])
    have := h x (by simp)
    rw [List.map_cons, List.flatten_cons, List.length_append, PT.wts, Nat.mul_add]
    omega

theorem kF_eq (f : PF) : kF f = if f.kind = 11 then (if f.elem = 10 then 3 + kPart f.sub else 6) else if f.kind = 10 then 3 + kPart f.sub else 3 := by cases f; rw [kF]; rfl

theorem pField_len_step {v : Int} {fl : Bool} {f : PF} (hpart : ∀ t : PT, (pPart f.sub v fl t).length ≤ kPart f.sub * t.wt) (t : PT) : (pField f v fl t).length ≤ kF f * t.wt := by
  have hw6 : 6 ≤ t.wt := by rw [PT.wt_eq]; omega
  rw [kF_eq]
  by_cases h11 : f.kind = 11
  · rw [if_pos h11, list_written h11]
    generalize hnu : pNull f v t = null
    have hw : PT.wts (if null then [] else pThings t.l) ≤ PT.wts t.l := by
      split
      · simp [PT.wts]
      · exact wts_take _ _
    have hc := pCounted_length fl null (if null then [] else pThings t.l).length 4
    have hwt : 6 + PT.wts t.l ≤ t.wt := by rw [PT.wt_eq]; omega
    rw [List.length_append]
    by_cases h10 : f.elem = 10
    · rw [if_pos h10, h10]
      have h6 := flatten_wt (pp := fun x => pValue (fun y => pPart f.sub v fl y) 10 false fl x) (k := kPart f.sub) (l := if null then [] else pThings t.l) (fun x _ => hpart x)
      have h7 := Nat.mul_le_mul_left (kPart f.sub) (Nat.le_trans hw (show PT.wts t.l ≤ t.wt by omega))
      rw [Nat.add_mul]
      omega
    · rw [if_neg h10]
      have h6 := flatten_wt (pp := fun x => pValue (fun y => pPart f.sub v fl y) f.elem false fl x) (k := 3) (l := if null then [] else pThings t.l) (fun x _ => pValue_len h10)
      omega
  · rw [if_neg h11, pField_eq]
    unfold pFieldOf
    simp only
    rw [if_neg h11]
    by_cases h10 : f.kind = 10
    · rw [if_pos h10, Nat.add_mul]
      have := hpart t
      by_cases hn : 0 ≤ f.nul
      · rw [if_pos ⟨h10, hn⟩]
        split
        · rw [pFixed_length]; omega
        · rw [List.length_append, pFixed_length]; omega
      · rw [if_neg (fun h => hn h.2), h10]
        have e1 : pValue (fun y => pPart f.sub v fl y) 10 (pNull f v t) fl t = pPart f.sub v fl t := rfl
        rw [e1]
        omega
    · rw [if_neg h10, if_neg (fun h => h10 h.1)]
      exact pValue_len h10

mutual
theorem pField_len (v : Int) (fl : Bool) : ∀ (f : PF), f.plain = true → ∀ t : PT, (pField f v fl t).length ≤ kF f * t.wt
  | .mk k fr to nul g d e sub, hpl, t => by
    have hsub : PF.plains sub = true := PF.plain_sub hpl
    have hg : ∀ f ∈ sub, f.tag < 0 := fun f hf => PF.plain_tag (PF.plains_mem hsub f hf)
    refine pField_len_step (f := .mk k fr to nul g d e sub) (fun t => ?_) t
    show (pPart sub v fl t).length ≤ kPart sub * t.wt
    have h1 := pPlain_len v fl sub hsub t 0
    have h2 := tagsWt_unknown sub t.u
    have h3 := pTags_len (pUnknown sub t.u)
    have h4 := pUv_length (pUnknown sub t.u).length
    have h5 : 6 + tagsWt t.u ≤ t.wt := by rw [PT.wt_eq]; omega
    rw [pPart_plain hg, kPart_eq, Nat.add_mul, List.length_append]
    split
    · rw [List.length_append]; omega
    · simp only [List.length_nil]; omega
theorem pPlain_len (v : Int) (fl : Bool) : ∀ (fs : List PF), PF.plains fs = true → ∀ (t : PT) (i : Nat), (pPlain fs v fl t i).length ≤ kPlain fs * t.wt
  | [], _, t, i => by simp [pPlain]
  | f :: r, hpl, t, i => by
    simp only [PF.plains, Bool.and_eq_true] at hpl
    have h1 := pField_len v fl f hpl.1 (pAt t i)
    have h2 := pPlain_len v fl r hpl.2 t (i + 1)
    have h3 := Nat.mul_le_mul_left (kF f) (wt_at t i)
    rw [pPlain_cons, List.length_append, kPlain, Nat.add_mul]
    unfold pOne
    split
    · omega
    · simp only [List.length_nil]; omega
end

theorem pWrite_len {fs : List PF} (hpl : PF.plains fs = true) (x v : Int) (t : PT) : (pWrite fs x v t).length ≤ kPart fs * t.wt := by
  have hg : ∀ f ∈ fs, f.tag < 0 := fun f hf => PF.plain_tag (PF.plains_mem hpl f hf)
  have h1 := pPlain_len v (pFlex x v) fs hpl t 0
  have h2 := tagsWt_unknown fs t.u
  have h3 := pTags_len (pUnknown fs t.u)
  have h4 := pUv_length (pUnknown fs t.u).length
  have h5 : 6 + tagsWt t.u ≤ t.wt := by rw [PT.wt_eq]; omega
  unfold pWrite
  rw [pPart_plain hg, kPart_eq, Nat.add_mul, List.length_append]
  split
  · rw [List.length_append]; omega
  · simp only [List.length_nil]; omega

end Go.Kf

namespace Go.Kf

open Go

/-- What is written of a value. -/
def encPK : PK → FV → List UInt8
  | .num N _, .one (.int _ x) => pFixed x N
  | .bool, .one (.bool b) => [if b then 1 else 0]
  | .str, .text l => pFixed l.length 2 ++ l
  | .cstr, .text l => pUv (l.length + 1) ++ l
  | .nstr, .ntext none => pFixed (-1) 2
  | .nstr, .ntext (some l) => pFixed l.length 2 ++ l
  | .cnstr, .ntext none => pUv 0
  | .cnstr, .ntext (some l) => pUv (l.length + 1) ++ l
  | .bytes, .octs _ l => pFixed l.length 4 ++ l
  | .cbytes, .octs _ l => pUv (l.length + 1) ++ l
  | .nbytes, .octs nl l => if nl then pFixed (-1) 4 else pFixed l.length 4 ++ l
  | .cnbytes, .octs nl l => if nl then pUv 0 else pUv (l.length + 1) ++ l
  | .uuid, .uuid l => l
  | .tags, .tags m => pUv m.length ++ ((sortTM m).map fun q => pTag1 q.1 q.2).flatten
  | _, _ => []

/-- A text behind a pointer, written as one that isn't null. -/
def encDeref (pk : PK) : FV → List UInt8
  | .ntext (some l) => encPK pk (.text l)
  | .ntext none => encPK pk (.text [])
  | _ => []

/-- What is written of a list's length. -/
def encLen (lk : LenK) (nl : Bool) (n : Nat) : List UInt8 := match lk with
  | .len => pFixed n 4
  | .clen => pUv (n + 1)
  | .nlen => if nl then pFixed (-1) 4 else pFixed n 4
  | .nclen => if nl then pUv 0 else pUv (n + 1)

/-- How a struct is written. -/
inductive WStep where
  | call (pk : PK) (f i ty off : Nat)
  | deref (pk : PK) (f i ty off : Nat)
  | listP (lk : LenK) (fl i tySl off : Nat) (pk : PK) (f T : Nat)
  | listS (lk : LenK) (fl i tySl off T sz : Nat) (ts : List Ty) (ss : List WStep)
  | sub (i off T : Nat) (ts : List Ty) (ss : List WStep)
  | tags (fUv fLen fEach i off : Nat)

def WStep.idx : WStep → Nat
  | .call _ _ i _ _ => i
  | .deref _ _ i _ _ => i
  | .listP _ _ i _ _ _ _ _ => i
  | .listS _ _ i _ _ _ _ _ _ => i
  | .sub i _ _ _ _ => i
  | .tags _ _ _ i _ => i

mutual
def encStep : WStep → List FV → List UInt8
  | .call pk _ i _ _, fs => encPK pk (fvGet fs i)
  | .deref pk _ i _ _, fs => encDeref pk (fvGet fs i)
  | .listP lk _ i _ _ pk _ _, fs => match fvGet fs i with
    | .list nl rows => encLen lk nl rows.length ++ (rows.map fun r => encPK pk (fvGet r 0)).flatten
    | _ => []
  | .listS lk _ i _ _ _ _ _ ss, fs => match fvGet fs i with
    | .list nl rows => encLen lk nl rows.length ++ (rows.map fun r => encSteps ss r).flatten
    | _ => []
  | .sub i _ _ _ ss, fs => match fvGet fs i with
    | .sub gs => encSteps ss gs
    | _ => []
  | .tags _ _ _ i _, fs => encPK .tags (fvGet fs i)
def encSteps : List WStep → List FV → List UInt8
  | [], _ => []
  | s :: ss, fs => encStep s fs ++ encSteps ss fs
end

theorem octOf_congr {a b : Int} {N : Nat} (h : a % 2 ^ (8 * N) = b % 2 ^ (8 * N)) {i : Nat} (hi : i < N) : octOf a i = octOf b i := by
  have key : ∀ x : Int, x / 2 ^ (8 * i) % 256 = (x % 2 ^ (8 * N)) / 2 ^ (8 * i) % 256 := by
    intro x
    have hp : (0 : Int) < 2 ^ (8 * i) := Int.pow_pos (by omega)
    obtain ⟨d, hd⟩ : ∃ d, N = i + 1 + d := ⟨N - (i + 1), by omega⟩
    have e1 : (2 : Int) ^ (8 * N) = 2 ^ (8 * i) * (256 * 2 ^ (8 * d)) := by
      rw [hd, show 8 * (i + 1 + d) = 8 * i + (8 + 8 * d) by omega, Int.pow_add, Int.pow_add]
      rfl
    have e2 := Int.emod_add_mul_ediv x (2 ^ (8 * N))
    have e3 : x / 2 ^ (8 * i) = (x % 2 ^ (8 * N)) / 2 ^ (8 * i) + 256 * (2 ^ (8 * d) * (x / 2 ^ (8 * N))) := by
      conv => lhs; rw [← e2]
      rw [e1, Int.mul_assoc, Int.add_mul_ediv_left _ _ (by omega), Int.mul_assoc]
    rw [e3, Int.add_mul_emod_self_left]
  unfold octOf
  rw [key a, key b, h]

theorem pFixed_congr {a b : Int} {N : Nat} (h : a % 2 ^ (8 * N) = b % 2 ^ (8 * N)) : ∀ k, k ≤ N → pFixed a k = pFixed b k
  | 0, _ => rfl
  | k + 1, hk => by rw [pFixed, pFixed, octOf_congr h (show k < N by omega), pFixed_congr h k (by omega)]

theorem pFixed_wrap8 (n : Int) : pFixed (IntKind.i8.wrap n) 1 = pFixed n 1 := pFixed_congr (N := 1) (by simp only [IntKind.wrap, IntKind.bits, IntKind.signed]; simp; omega) 1 (Nat.le_refl _)

theorem pFixed_wrap16 (n : Int) : pFixed (IntKind.i16.wrap n) 2 = pFixed n 2 := pFixed_congr (N := 2) (by simp only [IntKind.wrap, IntKind.bits, IntKind.signed]; simp; omega) 2 (Nat.le_refl _)

theorem pFixed_wrapu16 (n : Int) : pFixed (IntKind.u16.wrap n) 2 = pFixed n 2 := pFixed_congr (N := 2) (by simp only [IntKind.wrap, IntKind.bits, IntKind.signed]; simp) 2 (Nat.le_refl _)

theorem pFixed_wrap32 (n : Int) : pFixed (IntKind.i32.wrap n) 4 = pFixed n 4 := pFixed_congr (N := 4) (by simp only [IntKind.wrap, IntKind.bits, IntKind.signed]; simp; omega) 4 (Nat.le_refl _)

theorem pFixed_wrap64 (n : Int) : pFixed (IntKind.i64.wrap n) 8 = pFixed n 8 := pFixed_congr (N := 8) (by simp only [IntKind.wrap, IntKind.bits, IntKind.signed]; simp; omega) 8 (Nat.le_refl _)

/-- A writing function that fits a kind. -/
def pkForW (kind : Int) (may fl : Bool) : PK → Bool
  | .nbytes => decide (kind = 9) && may && !fl
  | .cnbytes => decide (kind = 9) && may && fl
  | pk => pkFor kind may fl pk

theorem pkForW_read {kind : Int} {may fl : Bool} {pk : PK} (h : pkForW kind may fl pk = true) : pkFor kind may fl pk = true := by
  cases pk <;> simp_all [pkForW, pkFor]

/-- The type of what a function of the writer writes. -/
theorem enc_rep {kind : Int} {may fl : Bool} {pk : PK} (h : pkForW kind may fl pk = true) {t : PT} {null : Bool} (hn : null = true → may = true) (pp : PT → List UInt8) {x : FV} (hx : RepV kind may null t x) (hty : okF x pk.ty) :
    encPK pk x = pValue pp kind null fl t := by
  cases pk with
  | num N k =>
    obtain ⟨y, rfl, _⟩ := okF_num hty
    simp only [pkForW, pkFor, Bool.and_eq_true, Bool.or_eq_true, decide_eq_true_eq] at h
    simp only [RepV] at hx
    obtain ⟨rfl, hx⟩ := hx
    rcases h.2 with (((⟨⟨rfl, rfl⟩, rfl⟩ | ⟨⟨rfl, rfl⟩, rfl⟩) | ⟨⟨rfl, rfl⟩, rfl⟩) | ⟨⟨rfl, rfl⟩, rfl⟩) | ⟨⟨rfl, rfl⟩, rfl⟩
    · exact pFixed_wrap8 _
    · exact pFixed_wrap16 _
    · exact pFixed_wrap32 _
    · exact pFixed_wrap64 _
    · exact pFixed_wrapu16 _
  | bool =>
    obtain ⟨b, rfl⟩ := okF_bool hty
    simp only [pkForW, pkFor, Bool.and_eq_true, decide_eq_true_eq] at h
    obtain ⟨_, rfl⟩ := h
    simp only [RepV] at hx
    obtain ⟨_, rfl⟩ := hx
    have e : pValue pp 0 null fl t = [UInt8.ofNat (t.n % 2).toNat] := rfl
    rw [e]
    have : t.n % 2 = 0 ∨ t.n % 2 = 1 := by omega
    rcases this with h | h <;> simp [encPK, h]
  | str =>
    obtain ⟨l, rfl, _⟩ := okF_text hty
    simp only [pkForW, pkFor, Bool.and_eq_true, decide_eq_true_eq, Bool.not_eq_true'] at h
    obtain ⟨⟨rfl, rfl⟩, rfl⟩ := h
    simp only [RepV] at hx
    obtain ⟨_, rfl, rfl⟩ := hx
    rfl
  | cstr =>
    obtain ⟨l, rfl, _⟩ := okF_text hty
    simp only [pkForW, pkFor, Bool.and_eq_true, decide_eq_true_eq, Bool.not_eq_true'] at h
    obtain ⟨⟨rfl, rfl⟩, rfl⟩ := h
    simp only [RepV] at hx
    obtain ⟨_, rfl, rfl⟩ := hx
    rfl
  | nstr =>
    obtain ⟨o, rfl, _⟩ := okF_ntext hty
    simp only [pkForW, pkFor, Bool.and_eq_true, decide_eq_true_eq, Bool.not_eq_true'] at h
    obtain ⟨⟨rfl, rfl⟩, rfl⟩ := h
    simp only [RepV] at hx
    obtain ⟨_, rfl⟩ := hx
    cases null <;> rfl
  | cnstr =>
    obtain ⟨o, rfl, _⟩ := okF_ntext hty
    simp only [pkForW, pkFor, Bool.and_eq_true, decide_eq_true_eq] at h
    obtain ⟨⟨rfl, rfl⟩, rfl⟩ := h
    simp only [RepV] at hx
    obtain ⟨_, rfl⟩ := hx
    cases null <;> rfl
  | bytes =>
    obtain ⟨nl, l, rfl, _⟩ := okF_octs hty
    simp only [pkForW, pkFor, Bool.and_eq_true, decide_eq_true_eq, Bool.not_eq_true'] at h
    obtain ⟨⟨rfl, rfl⟩, rfl⟩ := h
    have hnf : null = false := by cases null <;> simp_all
    subst hnf
    simp only [RepV] at hx
    obtain ⟨_, _, rfl⟩ := hx
    rfl
  | cbytes =>
    obtain ⟨nl, l, rfl, _⟩ := okF_octs hty
    simp only [pkForW, pkFor, Bool.and_eq_true, decide_eq_true_eq, Bool.not_eq_true'] at h
    obtain ⟨⟨rfl, rfl⟩, rfl⟩ := h
    have hnf : null = false := by cases null <;> simp_all
    subst hnf
    simp only [RepV] at hx
    obtain ⟨_, _, rfl⟩ := hx
    rfl
  | nbytes =>
    obtain ⟨nl, l, rfl, _⟩ := okF_octs hty
    simp only [pkForW, pkFor, Bool.and_eq_true, decide_eq_true_eq, Bool.not_eq_true'] at h
    obtain ⟨⟨rfl, rfl⟩, rfl⟩ := h
    simp only [RepV] at hx
    obtain ⟨_, h1, rfl⟩ := hx
    rw [h1 trivial]
    cases null <;> rfl
  | cnbytes =>
    obtain ⟨nl, l, rfl, _⟩ := okF_octs hty
    simp only [pkForW, pkFor, Bool.and_eq_true, decide_eq_true_eq] at h
    obtain ⟨⟨rfl, rfl⟩, rfl⟩ := h
    simp only [RepV] at hx
    obtain ⟨_, h1, rfl⟩ := hx
    rw [h1 trivial]
    cases null <;> rfl
  | uuid =>
    obtain ⟨l, rfl, _⟩ := okF_uuid hty
    simp only [pkForW, pkFor, Bool.and_eq_true, decide_eq_true_eq] at h
    obtain ⟨_, rfl⟩ := h
    simp only [RepV] at hx
    obtain ⟨_, rfl⟩ := hx
    rfl
  | tags => cases h

theorem encLen_rep {may fl : Bool} {lk : LenK} (h : lkFor may fl lk = true) {null nl : Bool} (hn : null = true → may = true) (hnl : may = true → nl = null) (n : Nat) (h0 : null = true → n = 0) : encLen lk nl n = pCounted fl null n 4 := by
  cases lk with
  | len =>
    simp only [lkFor, Bool.and_eq_true, Bool.not_eq_true'] at h
    have hnf : null = false := by cases null <;> simp_all
    rw [hnf, h.2]; rfl
  | clen =>
    simp only [lkFor, Bool.and_eq_true, Bool.not_eq_true'] at h
    have hnf : null = false := by cases null <;> simp_all
    rw [hnf, h.2]; rfl
  | nlen =>
    simp only [lkFor, Bool.and_eq_true, Bool.not_eq_true'] at h
    rw [hnl h.1, h.2]; cases null <;> rfl
  | nclen =>
    simp only [lkFor, Bool.and_eq_true] at h
    rw [hnl h.1, h.2]; cases null <;> rfl

mutual
/-- Is this step that which writes what the reference writes of a field? ty: the values' type. -/
def wrField (v : Int) (fl : Bool) : PF → WStep → Ty → Bool
  | .mk k _ _ nul _ _ e sub, s, ty => match s with
    | .call pk _ _ _ _ => pkForW k (decide (0 ≤ nul) && decide (nul ≤ v)) fl pk && ty.beq pk.ty
    | .deref pk _ _ _ _ => pkForW k (decide (0 ≤ nul) && decide (nul ≤ v)) fl pk && pk.plainText && ty.beq .ntext
    | .listP lk _ _ _ _ pk _ _ => decide (k = 11) && lkFor (decide (0 ≤ nul) && decide (nul ≤ v)) fl lk && pkForW e false fl pk && ty.beq (.list [pk.ty])
    | .listS lk _ _ _ _ _ _ ts ss => decide (k = 11) && decide (e = 10) && lkFor (decide (0 ≤ nul) && decide (nul ≤ v)) fl lk && ty.beq (.list ts) && wrPlain v fl sub ss ts 0
    | .sub _ _ _ ts ss => decide (k = 10) && decide (nul < 0) && ty.beq (.sub ts) && wrPlain v fl sub ss ts 0
    | .tags .. => false
def wrPlain (v : Int) (fl : Bool) : List PF → List WStep → List Ty → Nat → Bool
  | [], ss, _, p => match fl, ss with
    | true, [.tags _ _ _ k _] => Nat.beq k p
    | false, [] => true
    | _, _ => false
  | f :: r, ss, ts, p => decide (f.tag < 0) && bif pHas f v then (match ss, ts[p]? with
      | s :: ss', some ty => Nat.beq s.idx p && wrField v fl f s ty && wrPlain v fl r ss' ts (p + 1)
      | _, _ => false)
    else wrPlain v fl r ss ts (p + 1)
end

theorem tags_written {m : TM} (h : m.Pairwise fun a b => a.1 < b.1) : encPK .tags (.tags (wholeTags m)) = pUv m.length ++ pTags m := by
  have : (wholeTags m).Pairwise fun a b => a.1 < b.1 := by
    unfold wholeTags
    exact List.Pairwise.map _ (fun a b h => h) h
  simp only [encPK, sortTM_id this]
  have e : (wholeTags m).length = m.length := by simp [wholeTags]
  rw [e]
  congr 1
  simp only [pTags, wholeTags, List.map_map]
  rfl

theorem flatten_congr {α β : Type} {f : α → List UInt8} {g : β → List UInt8} : ∀ {l : List α} {r : List β}, l.length = r.length → (∀ (j : Nat) (x : α) (y : β), l[j]? = some x → r[j]? = some y → f x = g y) → (l.map f).flatten = (r.map g).flatten
  | [], [], _, _ => rfl
  | x :: l, y :: r, h, h2 => by
    simp only [List.map_cons, List.flatten_cons]
    rw [h2 0 x y rfl rfl, flatten_congr (by simpa using h) fun j a b ha hb => h2 (j + 1) a b (by simpa using ha) (by simpa using hb)]

theorem okRows_get {rows : List (List FV)} {ts : List Ty} (h : okRows rows ts) {j : Nat} {r : List FV} (hr : rows[j]? = some r) : okFs r ts := okRows_mem h r (List.mem_of_getElem? hr)

theorem one_written {f : PF} {v : Int} {fl : Bool} {pk : PK} (hpk : pkForW f.kind (decide (0 ≤ f.nul) && decide (f.nul ≤ v)) fl pk = true) (t : PT) : pField f v fl t = pValue (fun y => pPart f.sub v fl y) f.kind (pNull f v t) fl t := by
  obtain ⟨k10, k11⟩ := pkFor_kind (pkForW_read hpk)
  rw [pField_eq]
  unfold pFieldOf
  simp only
  rw [if_neg k11, if_neg (fun h => k10 h.1)]

theorem part_written {f : PF} {v : Int} {fl : Bool} (h10 : f.kind = 10) (hn : f.nul < 0) (t : PT) : pField f v fl t = pPart f.sub v fl t := by
  rw [pField_eq]
  unfold pFieldOf
  simp only
  rw [if_neg (by omega), if_neg (by omega), h10]
  rfl

theorem plainText_may {kind : Int} {may fl : Bool} {pk : PK} (h : pkForW kind may fl pk = true) (h2 : pk.plainText = true) : may = false ∧ pk.ty = .text := by
  cases pk <;> first
    | (simp [PK.plainText] at h2; done)
    | (simp only [pkForW, pkFor, Bool.and_eq_true, Bool.not_eq_true'] at h; exact ⟨h.1.2, rfl⟩)

theorem wrPart_ok {v : Int} {fl : Bool} {sub : List PF} {ss : List WStep} {ts : List Ty} (hg : ∀ f ∈ sub, f.tag < 0) (h : ∀ (t : PT) (i : Nat) (u : TM) (gs : List FV), u.Pairwise (fun a b => a.1 < b.1) → RepFs v fl sub t gs i 0 → (fl = true → gs[0 + sub.length]? = some (.tags (wholeTags u))) → okFs gs ts → encSteps ss gs = pPlain sub v fl t i ++ pEndB fl u)
    (t : PT) (gs : List FV) (hr : RepPart v fl sub t gs 0) (hok : okFs gs ts) : encSteps ss gs = pPart sub v fl t := by
  rw [h t 0 (pUnknown sub t.u) gs (pUnknownN_asc _ List.Pairwise.nil) hr.1 hr.2 hok]
  exact (pPart_plain hg v fl t).symm

mutual
theorem wrField_ok (v : Int) (fl : Bool) : ∀ (f : PF) (s : WStep) (ty : Ty), f.plain = true → wrField v fl f s ty = true → ∀ (t : PT) (fs : List FV) (x : FV), fs[s.idx]? = some x → RepF v fl f t x → okF x ty → encStep s fs = pField f v fl t
  | .mk k fr to nul g d e sub, s, ty, hpl, h => by
    intro t fs x hx hr hok
    have hsub : PF.plains sub = true := PF.plain_sub hpl
    have hg : ∀ f ∈ sub, f.tag < 0 := fun f hf => PF.plain_tag (PF.plains_mem hsub f hf)
    match s, h with
    | .call pk _ i _ _, h =>
      simp only [wrField, Bool.and_eq_true] at h
      have hty := Ty.beq_eq _ _ h.2
      subst hty
      rw [one_written (f := .mk k fr to nul g d e sub) h.1]
      simp only [WStep.idx] at hx
      simp only [encStep, fvGet_eq hx]
      refine enc_rep h.1 pNull_may _ ?_ hok
      obtain ⟨k10, k11⟩ := pkFor_kind (pkForW_read h.1)
      cases x <;> first | exact hr | exact absurd hr.1 k11 | exact absurd hr.1 k10
    | .deref pk _ i _ _, h =>
      simp only [wrField, Bool.and_eq_true] at h
      have hty := Ty.beq_eq _ _ h.2
      subst hty
      rw [one_written (f := .mk k fr to nul g d e sub) h.1.1]
      obtain ⟨o, rfl, ho⟩ := okF_ntext hok
      simp only [WStep.idx] at hx
      simp only [encStep, fvGet_eq hx, encDeref]
      have hr : RepV k (decide (0 ≤ nul) && decide (nul ≤ v)) (pNull (.mk k fr to nul g d e sub) v t) t (.ntext o) := hr
      obtain ⟨hmay, hty⟩ := plainText_may h.1.1 h.1.2
      have hnf : pNull (.mk k fr to nul g d e sub) v t = false := by
        cases hq : pNull (.mk k fr to nul g d e sub) v t with
        | false => rfl
        | true => exact (hmay.symm.trans (pNull_may hq) : false = true).symm
      rw [hnf] at hr ⊢
      obtain ⟨hk, rfl⟩ := hr
      simp only [Bool.false_eq_true, if_false] at ho ⊢
      exact enc_rep h.1.1 (fun h => by cases h) _ (x := .text (pWhole t.s)) ⟨hk, rfl, rfl⟩ (by rw [hty]; exact ⟨rfl, ho _ rfl⟩)
    | .listP lk _ i _ _ pk _ _, h =>
      simp only [wrField, Bool.and_eq_true, decide_eq_true_eq] at h
      obtain ⟨⟨⟨rfl, hlk⟩, hpk⟩, hty⟩ := h
      have hty := Ty.beq_eq _ _ hty
      subst hty
      obtain ⟨nl, rows, rfl, hl, hrows⟩ := okF_list hok
      obtain ⟨_, r1, r2, r3⟩ := hr
      simp only [WStep.idx] at hx
      simp only [encStep, fvGet_eq hx]
      rw [list_written (f := .mk 11 fr to nul g d e sub) rfl]
      simp only [PF.elem, PF.sub]
      generalize hnu : pNull (.mk 11 fr to nul g d e sub) v t = null at r1 r2 r3
      rw [encLen_rep hlk (null := null) (fun hn => pNull_may (hnu.trans hn)) r1 rows.length (fun hn => by rw [r2, hn]; rfl), r2]
      congr 1
      refine flatten_congr r2 fun j r y hr hy => ?_
      obtain ⟨z, rfl, hz⟩ := (r3 j y r hy hr).2 (pkFor_kind (pkForW_read hpk)).1
      have hzo := okRows_get hrows hr
      exact enc_rep hpk (fun h => h) _ hz hzo.1
    | .listS lk _ i _ _ _ _ ts ss, h =>
      simp only [wrField, Bool.and_eq_true, decide_eq_true_eq] at h
      obtain ⟨⟨⟨⟨rfl, rfl⟩, hlk⟩, hty⟩, hw⟩ := h
      have hty := Ty.beq_eq _ _ hty
      subst hty
      obtain ⟨nl, rows, rfl, hl, hrows⟩ := okF_list hok
      obtain ⟨_, r1, r2, r3⟩ := hr
      simp only [WStep.idx] at hx
      simp only [encStep, fvGet_eq hx]
      rw [list_written (f := .mk 11 fr to nul g d 10 sub) rfl]
      simp only [PF.elem, PF.sub]
      generalize hnu : pNull (.mk 11 fr to nul g d 10 sub) v t = null at r1 r2 r3
      rw [encLen_rep hlk (null := null) (fun hn => pNull_may (hnu.trans hn)) r1 rows.length (fun hn => by rw [r2, hn]; rfl), r2]
      congr 1
      refine flatten_congr r2 fun j r y hr hy => ?_
      obtain ⟨q1, q2⟩ := (r3 j y r hy hr).1 rfl
      have e1 : pValue (fun y => pPart sub v fl y) 10 false fl y = pPart sub v fl y := rfl
      rw [e1]
      exact wrPart_ok hg (wrPlain_ok v fl sub ss ts 0 hsub hw) y r ⟨q1, by simpa using q2⟩ (okRows_get hrows hr)
    | .sub i _ _ ts ss, h =>
      simp only [wrField, Bool.and_eq_true, decide_eq_true_eq] at h
      obtain ⟨⟨⟨rfl, hnul⟩, hty⟩, hw⟩ := h
      have hty := Ty.beq_eq _ _ hty
      subst hty
      obtain ⟨gs, rfl, hgs⟩ := okF_sub hok
      obtain ⟨_, _, q1, q2⟩ := hr
      simp only [WStep.idx] at hx
      simp only [encStep, fvGet_eq hx]
      have hwr : pField (.mk 10 fr to nul g d e sub) v fl t = pPart sub v fl t := part_written (f := .mk 10 fr to nul g d e sub) rfl hnul t
      rw [hwr]
      exact wrPart_ok hg (wrPlain_ok v fl sub ss ts 0 hsub hw) t gs ⟨q1, by simpa using q2⟩ hgs
    | .tags .., h => simp [wrField] at h
theorem wrPlain_ok (v : Int) (fl : Bool) : ∀ (fs : List PF) (ss : List WStep) (ts : List Ty) (p : Nat), PF.plains fs = true → wrPlain v fl fs ss ts p = true →
    ∀ (t : PT) (i : Nat) (u : TM) (gs : List FV), u.Pairwise (fun a b => a.1 < b.1) → RepFs v fl fs t gs i p → (fl = true → gs[p + fs.length]? = some (.tags (wholeTags u))) → okFs gs ts → encSteps ss gs = pPlain fs v fl t i ++ pEndB fl u
  | [], ss, ts, p, _, h => by
    intro t i u gs hu _ htg _
    simp only [wrPlain] at h
    split at h
    · rename_i k _ _
      have hk : k = p := Nat.eq_of_beq_eq_true h
      subst hk
      have := htg rfl
      simp only [List.length_nil, Nat.add_zero] at this
      simp only [encSteps, encStep, fvGet_eq this, List.append_nil, pPlain, List.nil_append, tags_written hu]
      rfl
    · rfl
    · cases h
  | f :: r, ss, ts, p, hpl, h => by
    intro t i u gs hu hrep htg hok
    simp only [PF.plains, Bool.and_eq_true] at hpl
    simp only [wrPlain, Bool.and_eq_true, decide_eq_true_eq] at h
    simp only [RepFs] at hrep
    rw [pPlain_cons, List.append_assoc]
    have htg' : fl = true → gs[p + 1 + r.length]? = some (.tags (wholeTags u)) := fun h => by
      have := htg h
      rwa [List.length_cons, show p + (r.length + 1) = p + 1 + r.length by omega] at this
    cases hh : pHas f v with
    | true =>
      rw [hh] at h
      simp only [cond_true] at h
      have h2 := h.2
      match ss, hts : ts[p]?, h2 with
      | s :: ss', some ty, h2 =>
        simp only [Bool.and_eq_true] at h2
        have hsi : s.idx = p := Nat.eq_of_beq_eq_true h2.1.1
        obtain ⟨x, hx, hr⟩ := hrep.1 hh
        obtain ⟨x', hx', hxo⟩ := okFs_get hok hts
        rw [hx] at hx'
        obtain rfl := Option.some.inj hx'
        have e1 : pOne f v fl (pAt t i) = pField f v fl (pAt t i) := by unfold pOne; rw [hh, decide_eq_true h.1]; rfl
        rw [e1, encSteps, wrField_ok v fl f s ty hpl.1 h2.1.2 (pAt t i) gs x (by rw [hsi]; exact hx) hr hxo, wrPlain_ok v fl r ss' ts (p + 1) hpl.2 h2.2 t (i + 1) u gs hu hrep.2 htg' hok]
    | false =>
      rw [hh] at h
      simp only [cond_false] at h
      have e1 : pOne f v fl (pAt t i) = [] := by unfold pOne; rw [hh]; simp
      rw [e1, List.nil_append]
      exact wrPlain_ok v fl r ss ts (p + 1) hpl.2 h.2 t (i + 1) u gs hu hrep.2 htg' hok
end

end Go.Kf

namespace Go.Kf

open Go

/-- A field as it is typed: what is set, in order; the function that yields its parts. -/
structure FB where
  parts : List (Nat × Int)
  sub : Option Nat

def setParts : List Int → List (Nat × Int) → List Int
  | z, [] => z
  | z, p :: r => setParts (z.set p.1 p.2) r

def FB.pf (b : FB) (sub : List PF) : PF := match setParts [0, 0, 0, 0, 0, 0, 0] b.parts with
  | [k, f, t, n, g, d, e] => .mk k f t n g d e sub
  | _ => .mk 0 0 0 0 0 0 0 sub

def idxd : Nat → List Operand → List (Nat × Operand)
  | _, [] => []
  | k, x :: r => (k, x) :: idxd (k + 1) r

def gFB (s : SN) : List FB → Nat → List Operand → (Nat → List Operand → Tr) → Tr
  | [], n, acc, k => k n acc
  | ⟨ps, none⟩ :: r, n, acc, k => .op (.build s.field ⟨ps.map fun p => (p.1, .const (.int .i64 p.2))⟩) none [] (gFB s r (n + 1) (acc ++ [.tmp n]) k)
  | ⟨ps, some f⟩ :: r, n, acc, k => .op (callOp f []) none [] <| .op (.build s.field ⟨(ps.map fun p => (p.1, .const (.int .i64 p.2))) ++ [(7, .tmp n)]⟩) none [] (gFB s r (n + 2) (acc ++ [.tmp (n + 1)]) k)

def gFieldsFn (s : SN) (fbs : List FB) : Tr := gFB s fbs 0 [] fun n acc => .op (.buildSlice s.fields acc.length ⟨idxd 0 acc⟩) none [] <| .ret [(.tmp n, none)]

def gMsgFn (s : SN) (fbs : List FB) (x : Int) : Tr := .op (.alloc s.msg) none [] <| gFB s fbs 1 [] fun n acc => .op (.buildSlice s.fields acc.length ⟨idxd 0 acc⟩) none [] <|
  .op (.build s.msg ⟨[(1, .const (.int .i64 x)), (0, .tmp n)]⟩) none [] <| .op (.store s.msg (.tmp 0) (.tmp (n + 1))) none [] <| .ret [(.tmp 0, some s.msg)]

/-- The types' plans. -/
structure FbFacts (P : Program) (s : SN) : Prop where
  field : buildPlan P s.field = some ([.int .i64 0, .int .i64 0, .int .i64 0, .int .i64 0, .int .i64 0, .int .i64 0, .int .i64 0, .slice none 0 0], [(0, 1), (1, 1), (2, 1), (3, 1), (4, 1), (5, 1), (6, 1), (7, 1)])
  msg : buildPlan P s.msg = some ([.slice none 0 0, .int .i64 0], [(0, 1), (1, 1)])
  zero : zeroTy P s.msg = some (.agg ⟨[.slice none 0 0, .int .i64 0]⟩, 2)

/-- A function that yields a list of fields. -/
def FieldsFn (P : Program) (f : Nat) (fs : List PF) : Prop := ∀ w, Gives P f [] w fun v w' => FieldsV w' fs v ∧ Keeps [] w w'

/-- A function that yields a message. -/
def MsgFn (P : Program) (f : Nat) (fs : List PF) (x : Int) : Prop := ∀ w, Gives P f [] w fun v w' => (∃ fv, v = .agg ⟨[fv, .int .i64 x]⟩ ∧ FieldsV w' fs fv) ∧ Keeps [] w w'

def FbsOk (P : Program) : List FB → List PF → Prop
  | [], fs => fs = []
  | b :: r, fs => ∃ f fr, fs = f :: fr ∧ b.parts.all (fun p => Nat.blt p.1 7) = true ∧ (match b.sub with
    | none => f = b.pf []
    | some g => ∃ sub, FieldsFn P g sub ∧ f = b.pf sub) ∧ FbsOk P r fr

section

variable {P : Program} {c : Nums} {s : SN} {R : Value → World → Prop} {Γ : List (List Value → World → Prop)} {n : Nat} {ρ : Nat → Value} {w : World} {k : Tr}

theorem setParts_length : ∀ (ps : List (Nat × Int)) (z : List Int), (setParts z ps).length = z.length
  | [], _ => rfl
  | p :: r, z => by rw [setParts, setParts_length r]; simp

def plan8 : List (Nat × Nat) := [(0, 1), (1, 1), (2, 1), (3, 1), (4, 1), (5, 1), (6, 1), (7, 1)]

theorem plan8_at {i : Nat} (h : i < 8) : plan8[i]? = some (i, 1) := by
  have : i = 0 ∨ i = 1 ∨ i = 2 ∨ i = 3 ∨ i = 4 ∨ i = 5 ∨ i = 6 ∨ i = 7 := by omega
  rcases this with rfl | rfl | rfl | rfl | rfl | rfl | rfl | rfl <;> rfl

theorem fill_parts (tail : List (Nat × Value)) : ∀ (ps : List (Nat × Int)) (z : List Int), z.length = 7 → ps.all (fun p => Nat.blt p.1 7) = true →
    fillOnes plan8 (z.map (Value.int .i64) ++ [.slice none 0 0]) ((ps.map fun p => (p.1, Value.int .i64 p.2)) ++ tail) = fillOnes plan8 ((setParts z ps).map (Value.int .i64) ++ [.slice none 0 0]) tail
  | [], z, _, _ => rfl
  | p :: r, z, hz, h => by
    rw [List.all_cons, Bool.and_eq_true] at h
    have hp : p.1 < 7 := Nat.le_of_ble_eq_true h.1
    rw [List.map_cons, List.cons_append, fillOnes, plan8_at (by omega)]
    simp only
    rw [if_pos ⟨trivial, by simp; omega⟩, List.set_append_left _ _ (by simp; omega), ← List.map_set, setParts]
    exact fill_parts tail r _ (by simpa using hz) h.2

/-- A field, built. -/
theorem field_built {w' : World} (b : FB) (h : b.parts.all (fun p => Nat.blt p.1 7) = true) :
    (∃ cells, fillOnes plan8 [.int .i64 0, .int .i64 0, .int .i64 0, .int .i64 0, .int .i64 0, .int .i64 0, .int .i64 0, .slice none 0 0] (b.parts.map fun p => (p.1, Value.int .i64 p.2)) = some cells ∧ FieldC w' (b.pf []) cells) ∧
    ∀ (v : Value) (sub : List PF), FieldsV w' sub v → ∃ cells, fillOnes plan8 [.int .i64 0, .int .i64 0, .int .i64 0, .int .i64 0, .int .i64 0, .int .i64 0, .int .i64 0, .slice none 0 0] ((b.parts.map fun p => (p.1, Value.int .i64 p.2)) ++ [(7, v)]) = some cells ∧ FieldC w' (b.pf sub) cells := by
  have hl := setParts_length b.parts [0, 0, 0, 0, 0, 0, 0]
  have h0 := fill_parts [] b.parts [0, 0, 0, 0, 0, 0, 0] rfl h
  have h1 := fun v => fill_parts [(7, v)] b.parts [0, 0, 0, 0, 0, 0, 0] rfl h
  have ez : List.map (Value.int .i64) [0, 0, 0, 0, 0, 0, 0] ++ [Value.slice none 0 0] = [.int .i64 0, .int .i64 0, .int .i64 0, .int .i64 0, .int .i64 0, .int .i64 0, .int .i64 0, .slice none 0 0] := rfl
  rw [ez, List.append_nil] at h0
  simp only [ez] at h1
  unfold FB.pf
  generalize setParts [0, 0, 0, 0, 0, 0, 0] b.parts = z at hl h0 h1
  match z, hl with
  | [k, f, t, n, g, d, e], _ =>
    refine ⟨⟨_, h0, _, [], rfl, Ro.nil w' 8, rfl⟩, fun v sub hv => ?_⟩
    obtain ⟨scs, s1, s2⟩ := hv
    refine ⟨[.int .i64 k, .int .i64 f, .int .i64 t, .int .i64 n, .int .i64 g, .int .i64 d, .int .i64 e, v], ?_, v, scs, rfl, s1, s2⟩
    rw [h1 v]
    rfl

theorem Has.cells? {w : World} {b : Nat} {cs : List Value} (h : Has w b cs) (i : Nat) : w.cell? ⟨b, i, none⟩ = cs[i]? := by
  obtain ⟨t, fr, hb, _⟩ := h
  unfold World.cell?
  rw [show (⟨b, i, none⟩ : Addr).block = b from rfl, hb]
  simp

/-- Rows of eight cells don't lie in a small block. -/
theorem Ro.keepSmall {w w' : World} {b : Nat} {cs : List Value} (hb : Has w b cs) (hs : cs.length < 8) (hk : Keeps [b] w w') {v : Value} {n : Nat} {xs : List Value} (h : Ro w v 8 n xs) : Ro w' v 8 n xs := by
  refine ⟨h.1, ?_⟩
  rcases h.2 with h0 | ⟨d, o, cap, rfl, hd, hc, hx⟩
  · exact .inl h0
  · by_cases hn : n = 0
    · exact .inl ⟨hn, _, _, by rw [hn]⟩
    have hne : d ≠ b := by
      intro e
      subst e
      have h7 := hx 7 (by omega)
      rw [hb.cells?, List.getElem?_eq_none (by omega), List.getElem?_eq_getElem (by rw [h.1]; omega)] at h7
      cases h7
    exact .inr ⟨d, o, cap, rfl, Nat.lt_of_lt_of_le hd hk.size, hc, fun i hi => by rw [cell_keep hk hd (by simpa using hne)]; exact hx i hi⟩

mutual
theorem FieldC.keepSmall {w w' : World} {b : Nat} {ds : List Value} (hb : Has w b ds) (hs : ds.length < 8) (hk : Keeps [b] w w') : ∀ (f : PF) (cs : List Value), FieldC w f cs → FieldC w' f cs
  | .mk _ _ _ _ _ _ _ sub, _, ⟨sv, scs, e, h1, h2⟩ => ⟨sv, scs, e, Ro.keepSmall hb hs hk h1, FieldsC.keepSmall hb hs hk sub scs h2⟩
theorem FieldsC.keepSmall {w w' : World} {b : Nat} {ds : List Value} (hb : Has w b ds) (hs : ds.length < 8) (hk : Keeps [b] w w') : ∀ (fs : List PF) (cs : List Value), FieldsC w fs cs → FieldsC w' fs cs
  | [], _, h => h
  | f :: fs, _, ⟨c1, c2, e, h1, h2⟩ => ⟨c1, c2, e, FieldC.keepSmall hb hs hk f c1 h1, FieldsC.keepSmall hb hs hk fs c2 h2⟩
end

/-- What has been built so far. -/
def AccOk (ρ : Nat → Value) (w : World) (n : Nat) : List Operand → List PF → Prop
  | [], fs => fs = []
  | x :: r, fs => ∃ f fr cs, fs = f :: fr ∧ opBelow n x ∧ ev ρ x = .agg ⟨cs⟩ ∧ FieldC w f cs ∧ AccOk ρ w n r fr

theorem AccOk.more {ρ ρ' : Nat → Value} {w w' : World} {n n' : Nat} (hn : n ≤ n') (hρ : ∀ x, opBelow n x → ev ρ' x = ev ρ x) (hk : Keeps [] w w') : ∀ {xs : List Operand} {fs : List PF}, AccOk ρ w n xs fs → AccOk ρ' w' n' xs fs
  | [], _, h => h
  | x :: _, _, ⟨f, fr, cs, e, h1, h2, h3, h4⟩ => ⟨f, fr, cs, e, h1.mono hn, (hρ x h1).trans h2, FieldC.keep hk f cs h3, AccOk.more hn hρ hk h4⟩

theorem AccOk.snoc {f : PF} {x : Operand} {cs : List Value} (h1 : opBelow n x) (h2 : ev ρ x = .agg ⟨cs⟩) (h3 : FieldC w f cs) : ∀ {xs : List Operand} {fs : List PF}, AccOk ρ w n xs fs → AccOk ρ w n (xs ++ [x]) (fs ++ [f])
  | [], _, h => by simp only [AccOk] at h; subst h; exact ⟨f, [], cs, rfl, h1, h2, h3, rfl⟩
  | y :: r, _, ⟨g, fr, ds, e, q1, q2, q3, q4⟩ => ⟨g, fr ++ [f], ds, by rw [e]; rfl, q1, q2, q3, AccOk.snoc h1 h2 h3 q4⟩

theorem gFB_sem (S : SpFacts P c s) (B : FbFacts P s) {K : Nat → List Operand → Tr} : ∀ (fbs : List FB) (fs : List PF) (n : Nat) (acc : List Operand) (accs : List PF) (ρ : Nat → Value) (w : World), FbsOk P fbs fs → AccOk ρ w n acc accs →
    (∀ n' acc' ρ' w', n ≤ n' → Keeps [] w w' → (∀ x, opBelow n x → ev ρ' x = ev ρ x) → AccOk ρ' w' n' acc' (accs ++ fs) → acc'.length = (accs ++ fs).length → (K n' acc').sem P R Γ n' ρ' w') → acc.length = accs.length → (gFB s fbs n acc K).sem P R Γ n ρ w
  | [], fs, n, acc, accs, ρ, w, hf, ha, hk, hl => by
    simp only [FbsOk] at hf
    subst hf
    have := hk n acc ρ w (Nat.le_refl _) .refl (fun _ _ => rfl)
    simp only [List.append_nil] at this
    exact this ha hl
  | ⟨ps, none⟩ :: r, fs, n, acc, accs, ρ, w, hf, ha, hk, hl => by
    obtain ⟨f, fr, rfl, hp, he, hr⟩ := hf
    simp only at he
    obtain ⟨cells, hc1, hc2⟩ := (field_built (w' := w) ⟨ps, none⟩ hp).1
    simp only [gFB]
    refine s_val (v_build (cells := cells) B.field (fun p hp => ?_) ?_) ?_
    · obtain ⟨q, _, rfl⟩ := List.mem_map.1 hp
      rfl
    · rw [List.map_map]
      exact hc1
    refine gFB_sem S B r fr (n + 1) (acc ++ [.tmp n]) (accs ++ [f]) _ w hr ?_ (fun n' acc' ρ' w' hn kk hρ hacc hlen => ?_) (by simp [hl])
    · rw [he]
      have e0 : ev (ext ρ n [.agg ⟨cells⟩]) (.tmp n) = .agg ⟨cells⟩ := ext_at
      exact AccOk.snoc (by simp [opBelow]) e0 hc2 (AccOk.more (Nat.le_succ n) (fun x hx => ev_ext hx) .refl ha)
    · rw [List.append_assoc] at hacc hlen
      exact hk n' acc' ρ' w' (by omega) kk (fun x hx => (hρ x (hx.mono (Nat.le_succ n))).trans (ev_ext hx)) hacc hlen
  | ⟨ps, some g⟩ :: r, fs, n, acc, accs, ρ, w, hf, ha, hk, hl => by
    obtain ⟨f, fr, rfl, hp, he, hr⟩ := hf
    simp only at he
    obtain ⟨sub, hg, he⟩ := he
    simp only [gFB]
    refine s_callx (hg w) rfl fun v w1 ⟨hv, k1⟩ => ?_
    obtain ⟨cells, hc1, hc2⟩ := (field_built (w' := w1) ⟨ps, some g⟩ hp).2 v sub hv
    have hone : v.oneCell' = true := by
      obtain ⟨_, h1, _⟩ := hv
      exact h1.one
    refine s_val (v_build (cells := cells) B.field (fun p hp => ?_) ?_) ?_
    · rcases List.mem_append.1 hp with hp | hp
      · obtain ⟨q, _, rfl⟩ := List.mem_map.1 hp
        rfl
      · simp only [List.mem_singleton] at hp
        subst hp
        show (ev _ (.tmp n)).oneCell' = true
        rw [show ev (ext ρ n [v]) (.tmp n) = v from ext_at]
        exact hone
    · rw [List.map_append, List.map_map]
      have e1 : [(7, Operand.tmp n)].map (fun p : Nat × Operand => (p.1, ev (ext ρ n [v]) p.2)) = [(7, v)] := by
        simp only [List.map_cons, List.map_nil]
        rw [show ev (ext ρ n [v]) (.tmp n) = v from ext_at]
      rw [e1]
      exact hc1
    refine gFB_sem S B r fr (n + 2) (acc ++ [.tmp (n + 1)]) (accs ++ [f]) _ w1 hr ?_ (fun n' acc' ρ' w' hn kk hρ hacc hlen => ?_) (by simp [hl])
    · rw [he]
      have e0 : ev (ext (ext ρ n [v]) (n + 1) [.agg ⟨cells⟩]) (.tmp (n + 1)) = .agg ⟨cells⟩ := ext_at
      exact AccOk.snoc (by simp [opBelow]) e0 hc2 (AccOk.more (by omega) (fun x hx => (ev_ext (hx.mono (Nat.le_succ n))).trans (ev_ext hx)) k1 ha)
    · rw [List.append_assoc] at hacc hlen
      exact hk n' acc' ρ' w' (by omega) (k1.trans kk) (fun x hx => (hρ x (hx.mono (by omega))).trans ((ev_ext (hx.mono (Nat.le_succ n))).trans (ev_ext hx))) hacc hlen

theorem setRow (l : List Value) : ∀ (i : Nat) (acc : Array Value), i + l.length ≤ acc.size → (l.zipIdx i).foldl (fun (a : Array Value) (p : Value × Nat) => a.setIfInBounds p.2 p.1) acc = ⟨acc.toList.take i ++ l ++ acc.toList.drop (i + l.length)⟩ := by
  induction l with
  | nil =>
    intro i acc h
    apply Array.ext'
    simp
  | cons v l ih =>
    intro i acc h
    simp only [List.length_cons] at h
    simp only [List.zipIdx_cons, List.foldl_cons]
    rw [ih (i + 1) _ (by simp; omega)]
    apply Array.ext'
    simp only [Array.toList_setIfInBounds]
    rw [List.take_set, List.take_succ_eq_append_getElem (by simp; omega), List.set_append_right _ _ (by simp; omega)]
    have h3 : i - (acc.toList.take i).length = 0 := by simp; omega
    rw [h3, List.drop_set_of_lt (by omega)]
    simp only [List.set_cons_zero, List.append_assoc, List.singleton_append, List.length_cons]
    rw [show i + 1 + l.length = i + (l.length + 1) by omega]

theorem fill_rows {sz : Nat} : ∀ (xs : List (Value)) (css : List (List Value)) (k : Nat) (acc : Array Value), xs.map Value.cells = css.map (fun l => (⟨l⟩ : Array Value)) → (∀ l ∈ css, l.length = sz) → acc.size = (k + xs.length) * sz →
    Instr.fill (fun i => some (i * sz, sz)) acc ((xs.zipIdx k).map fun p => (p.2, p.1)) = some ⟨acc.toList.take (k * sz) ++ css.flatten⟩
  | [], css, k, acc, h1, h2, h3 => by
    have : css = [] := by simpa using h1.symm
    subst this
    simp only [List.zipIdx_nil, List.map_nil, Instr.fill, List.flatten_nil, List.append_nil, Option.some.injEq]
    apply Array.ext'
    simp only [List.length_nil, Nat.add_zero] at h3
    rw [List.take_of_length_le (by simp; omega)]
  | x :: xs, [], k, acc, h1, h2, h3 => by simp at h1
  | x :: xs, l :: css, k, acc, h1, h2, h3 => by
    simp only [List.map_cons, List.cons.injEq] at h1
    have hl := h2 l (by simp)
    simp only [List.length_cons] at h3
    have h4 : (k + 1 + xs.length) * sz = (k + (xs.length + 1)) * sz := by congr 1; omega
    have h5 : (k + (xs.length + 1)) * sz = k * sz + sz + xs.length * sz := by rw [Nat.add_mul, Nat.add_mul]; omega
    simp only [List.zipIdx_cons, List.map_cons]
    unfold Instr.fill
    simp only [h1.1]
    rw [if_neg (by simp [hl]; omega)]
    have e := setRow l (k * sz) acc (by rw [h3, h5, hl]; omega)
    have this : ∀ (l : List Value) (j m : Nat) (acc : Array Value), List.foldl (fun (cells : Array Value) (x : Value × Nat) => cells.setIfInBounds (m + x.2) x.1) acc (l.zipIdx j) = List.foldl (fun (a : Array Value) (p : Value × Nat) => a.setIfInBounds p.2 p.1) acc (l.zipIdx (m + j)) := by
      intro l
      induction l with
      | nil => intros; rfl
      | cons y l ih => intro j m acc; simp only [List.zipIdx_cons, List.foldl_cons]; rw [ih]; rfl
    have e2 : (Array.foldl (fun (cells : Array Value) (x : Value × Nat) => cells.setIfInBounds (k * sz + x.2) x.1) acc (Array.zipIdx (⟨l⟩ : Array Value))) = ⟨acc.toList.take (k * sz) ++ l ++ acc.toList.drop (k * sz + l.length)⟩ := by
      rw [← e, ← Array.foldl_toList, Array.toList_zipIdx]
      exact this l 0 (k * sz) acc
    have e3 : Instr.fill (fun i => some (i * sz, sz)) ⟨acc.toList.take (k * sz) ++ l ++ acc.toList.drop (k * sz + l.length)⟩ ((xs.zipIdx (k + 1)).map fun p => (p.2, p.1)) = some ⟨acc.toList.take (k * sz) ++ (l :: css).flatten⟩ := by
      have hk1 : k * sz ≤ acc.toList.length := by simp only [Array.length_toList]; omega
      have hk2 : (acc.toList.take (k * sz) ++ l).length = (k + 1) * sz := by rw [List.length_append, List.length_take, hl, Nat.min_eq_left hk1, Nat.add_mul]; omega
      rw [fill_rows xs css (k + 1) _ h1.2 (fun l' hl' => h2 l' (by simp [hl'])) (by
        simp only [List.size_toArray, List.length_append, List.length_take, List.length_drop, Array.length_toList]
        omega)]
      simp only [Option.some.injEq]
      rw [List.take_left' hk2, List.flatten_cons, List.append_assoc]
    exact (congrArg (fun a => Instr.fill (fun i => some (i * sz, sz)) a ((xs.zipIdx (k + 1)).map fun p => (p.2, p.1))) e2).trans e3

theorem idxd_map (ρ : Nat → Value) : ∀ (ops : List Operand) (k : Nat), (idxd k ops).map (fun p => (p.1, ev ρ p.2)) = ((ops.map (ev ρ)).zipIdx k).map fun p => (p.2, p.1)
  | [], _ => rfl
  | x :: r, k => by simp only [idxd, List.map_cons, List.zipIdx_cons, idxd_map ρ r (k + 1)]

/-- []T{x, y, ..} -/
theorem a_sliceMany {t e sz : Nat} {z : Value} {ops : List Operand} {css : List (List Value)} (ht : P.underlying t = some (.slice e)) (hz : zeroTy P e = some (z, sz)) (hpos : 0 < ops.length * sz) (hn : ops.length * sz ≤ 2 ^ 24)
    (hx : ops.map (fun x => (ev ρ x).cells) = css.map (fun l => (⟨l⟩ : Array Value))) (hl : ∀ l ∈ css, l.length = sz) :
    ∃ w', runOp P ρ (.buildSlice t ops.length ⟨idxd 0 ops⟩) w = .ok (.value (.slice (some ⟨w.heap.size, 0, none⟩) ops.length ops.length)) w' ∧ Has w' w.heap.size css.flatten ∧ Keeps [] w w' ∧ w'.heap.size = w.heap.size + 1 := by
  have hs := zeroTy_spec (w := w) hz
  refine ⟨{ w with heap := w.heap.push (.cells ⟨css.flatten⟩ e) }, ?_, has_alloc w _ e, keeps_alloc w _ _, by simp⟩
  have hfill := fill_rows (ops.map (ev ρ)) css 0 ((Array.range (ops.length * sz)).map (z.cells[· % z.cells.size]!)) (by rw [List.map_map]; exact hx) hl (by simp)
  rw [Nat.zero_mul, List.take_zero, List.nil_append] at hfill
  unfold runOp bareOp
  simp only [execOp, Instr.buildSlice, Sem.run_bind, run_under ht, Result.andThen_ok, size_run hs.2]
  rw [if_neg (by omega)]
  simp only [Sem.run_pure, Result.andThen_ok, if_neg (show ¬ ops.length * sz = 0 by omega), Sem.run_bind, hs.1]
  have e1 : (Array.map (fun x : Nat × Operand => (x.1, ev ρ x.2)) ⟨idxd 0 ops⟩).toList = ((ops.map (ev ρ)).zipIdx 0).map fun p => (p.2, p.1) := by
    rw [Array.toList_map]
    exact idxd_map ρ ops 0
  simp only [e1, hfill]
  simp [newRow]

theorem AccOk.list {n : Nat} : ∀ {xs : List Operand} {fs : List PF}, AccOk ρ w n xs fs → ∃ css : List (List Value), xs.map (fun x => (ev ρ x).cells) = css.map (fun l => (⟨l⟩ : Array Value)) ∧ (∀ l ∈ css, l.length = 8) ∧ FieldsC w fs css.flatten ∧ fs.length = xs.length ∧ css.length = xs.length
  | [], _, h => by simp only [AccOk] at h; subst h; exact ⟨[], rfl, (fun l hl => by cases hl), rfl, rfl, rfl⟩
  | x :: r, _, ⟨f, fr, cs, e, h1, h2, h3, h4⟩ => by
    obtain ⟨css, g1, g2, g3, g4, g5⟩ := AccOk.list h4
    subst e
    refine ⟨cs :: css, ?_, fun l hl => ?_, ⟨cs, css.flatten, rfl, h3, g3⟩, by simp [g4], by simp [g5]⟩
    · simp only [List.map_cons, h2, g1]
      rfl
    · rcases List.mem_cons.1 hl with rfl | hl
      · exact h3.len
      · exact g2 l hl

/-- The list of fields, behind their building. -/
theorem s_fieldList {acc : List Operand} {fs : List PF} (S : SpFacts P c s) (ha : AccOk ρ w n acc fs) (h0 : 0 < acc.length) (h1 : acc.length ≤ 1000) (hk : ∀ v w', FieldsV w' fs v → Keeps [] w w' → k.sem P R Γ (n + 1) (ext ρ n [v]) w') :
    (Tr.op (.buildSlice s.fields acc.length ⟨idxd 0 acc⟩) none [] k).sem P R Γ n ρ w := by
  obtain ⟨css, g1, g2, g3, g4, g5⟩ := ha.list
  obtain ⟨z, hz, _⟩ := S.zField
  obtain ⟨w', e1, hh, kk, _⟩ := a_sliceMany (P := P) (ρ := ρ) (w := w) (sz := 8) S.sl hz (by omega) (by omega) g1 g2
  refine s_act e1 (fun p hp => by cases hp) (hk _ w' ⟨css.flatten, ?_, FieldsC.keep kk fs _ g3⟩ kk)
  have hfl : ∀ l : List (List Value), (∀ x ∈ l, x.length = 8) → l.flatten.length = l.length * 8 := by
    intro l
    induction l with
    | nil => intro _; rfl
    | cons x l ih => intro h; rw [List.flatten_cons, List.length_append, ih fun y hy => h y (by simp [hy]), h x (by simp), List.length_cons]; omega
  refine ⟨by rw [hfl css g2, g5, g4], .inr ⟨w.heap.size, 0, acc.length, by rw [g4], hh.lt, by omega, fun i hi => ?_⟩⟩
  rw [Nat.zero_add]
  have hi' : i < css.flatten.length := by rw [hfl css g2, g5, ← g4]; exact hi
  rw [List.getElem?_eq_getElem hi']
  exact hh.cell (List.getElem?_eq_getElem hi')

theorem FbsOk.len : ∀ {fbs : List FB} {fs : List PF}, FbsOk P fbs fs → fs.length = fbs.length
  | [], _, h => by simp only [FbsOk] at h; subst h; rfl
  | _ :: r, _, ⟨f, fr, e, _, _, h⟩ => by subst e; simp [FbsOk.len h]

theorem fieldsFn_gives (S : SpFacts P c s) (B : FbFacts P s) {f : Nat} {fbs : List FB} {fs : List PF} (hT : treeIn P f noOrc [] 0 = gFieldsFn s fbs) (hf : FbsOk P fbs fs) (h0 : Nat.blt 0 fbs.length = true) (h1 : Nat.ble fbs.length 1000 = true) : FieldsFn P f fs := by
  intro w
  have hl := hf.len
  have q0 : 0 < fbs.length := Nat.le_of_ble_eq_true h0
  have q1 : fbs.length ≤ 1000 := Nat.le_of_ble_eq_true h1
  refine gives_in (ρ := en []) S.rd.mix hT (Nat.le_refl _) rfl (by simp) ?_
  refine gFB_sem S B fbs fs 0 [] [] (en []) w hf rfl (fun n' acc' ρ' w' _ kk _ ha hlen => ?_) rfl
  rw [List.nil_append] at ha hlen
  exact s_fieldList S ha (by omega) (by omega) fun v w2 hv k2 => s_ret1 ⟨by rw [show ev (ext ρ' n' [v]) (.tmp n') = v from ext_at]; exact hv, kk.trans k2⟩

theorem msgFn_gives (S : SpFacts P c s) (B : FbFacts P s) {f : Nat} {fbs : List FB} {fs : List PF} {x : Int} (hT : treeIn P f noOrc [] 0 = gMsgFn s fbs x) (hf : FbsOk P fbs fs) (h0 : Nat.blt 0 fbs.length = true) (h1 : Nat.ble fbs.length 1000 = true) : MsgFn P f fs x := by
  intro w
  have hl := hf.len
  have q0 : 0 < fbs.length := Nat.le_of_ble_eq_true h0
  have q1 : fbs.length ≤ 1000 := Nat.le_of_ble_eq_true h1
  refine gives_in (ρ := en []) S.rd.mix hT (Nat.le_refl _) rfl (by simp) ?_
  refine s_alloc B.zero fun w1 hz1 k1 z1 => ?_
  refine gFB_sem S B fbs fs 1 [] [] _ w1 hf rfl (fun n' acc' ρ' w' hn kk hρ ha hlen => ?_) rfl
  rw [List.nil_append] at ha hlen
  have hr0 : ρ' 0 = ptr w.heap.size := hρ (.tmp 0) (by simp [opBelow])
  refine s_fieldList S ha (by omega) (by omega) fun v w2 hv k2 => ?_
  have hone : v.oneCell' = true := by
    obtain ⟨_, h1, _⟩ := hv
    exact h1.one
  have ev1 : ev (ext ρ' n' [v]) (.tmp n') = v := ext_at
  refine s_val (v_build (cells := [v, .int .i64 x]) B.msg (fun p hp => ?_) ?_) ?_
  · simp only [List.mem_cons, List.not_mem_nil, or_false] at hp
    rcases hp with rfl | rfl
    · rfl
    · rw [ev1]; exact hone
  · simp only [List.map_cons, List.map_nil, ev1]
    rfl
  have hz2 := (hz1.keep kk (by simp)).keep k2 (by simp)
  refine s_storeAll (b := w.heap.size) (old := [.slice none 0 0, .int .i64 0]) (cs := [v, .int .i64 x]) S.msg ?_ ?_ hz2 rfl (fun u hu => ?_) fun w3 h3 k3 => ?_
  · show ext _ _ _ 0 = _
    rw [ext_lt (by omega), ext_lt (by omega)]
    exact hr0
  · rw [show ev (ext (ext ρ' n' [v]) (n' + 1) [.agg ⟨[v, .int .i64 x]⟩]) (.tmp (n' + 1)) = .agg ⟨[v, .int .i64 x]⟩ from ext_at]
    rfl
  · simp only [List.mem_cons, List.not_mem_nil, or_false] at hu
    rcases hu with rfl | rfl
    · exact hone
    · rfl
  have k03 : Keeps [] w w3 := ((((k1.trans kk).trans k2).mono (by simp)).trans k3).less fun x hx => .inr (by simp only [List.mem_singleton] at hx; omega)
  refine s_retAgg (b := w.heap.size) (cs := [v, .int .i64 x]) ?_ h3 S.msg ⟨⟨v, rfl, ?_⟩, k03⟩
  · show ext _ _ _ 0 = _
    rw [ext_lt (by omega), ext_lt (by omega), ext_lt (by omega)]
    exact hr0
  · obtain ⟨cs, f1, f2⟩ := hv
    exact ⟨cs, Ro.keepSmall hz2 (by decide) k3 f1, FieldsC.keepSmall hz2 (by decide) k3 fs cs f2⟩

end

end Go.Kf


namespace Go.Kf

open Go

/-- Octets appended to octets. -/
def WrPost (w : World) (v : Value) (l enc : List UInt8) (u : Value) (w' : World) : Prop := Own w' u 1 (l ++ enc).length (bcells (l ++ enc)) ∧ Keeps (blkOf v) w w' ∧ ∀ b ∈ blkOf u, b ∈ blkOf v ∨ w.heap.size ≤ b

/-- A function appends this, whatever there is. -/
def WrV (P : Program) (f : Nat) (xs : List Value) (enc : List UInt8) : Prop := ∀ (w : World) (v : Value) (l : List UInt8), Own w v 1 l.length (bcells l) → (l ++ enc).length ≤ maxW → Gives P f (v :: xs) w (WrPost w v l enc)

/-- The same of octets. -/
def WrOct (P : Program) (f : Nat) (enc : Bool → List UInt8 → List UInt8) : Prop := ∀ (w : World) (v x : Value) (l s : List UInt8), Own w v 1 l.length (bcells l) → Reads w x 1 s.length (bcells s) → (∀ b ∈ blkOf x, b ∉ blkOf v ∧ b < w.heap.size) → s.length ≤ big → (l ++ enc (nilOf x) s).length ≤ maxW → Gives P f [v, x] w (WrPost w v l (enc (nilOf x) s))

/-- The same of texts behind pointers. -/
def WrNStr (P : Program) (f : Nat) (enc : Option (List UInt8) → List UInt8) : Prop := ∀ (w : World) (v x : Value) (l : List UInt8) (o : Option (List UInt8)), Own w v 1 l.length (bcells l) → NStrAt w 0 o x → (∀ s, o = some s → s.length ≤ big) → (l ++ enc o).length ≤ maxW → Gives P f [v, x] w (WrPost w v l (enc o))

theorem WrPost.trans {w w1 w2 : World} {v u x : Value} {l e1 e2 : List UInt8} (h1 : WrPost w v l e1 u w1) (h2 : WrPost w1 u (l ++ e1) e2 x w2) : WrPost w v l (e1 ++ e2) x w2 := by
  have hs := h1.2.1.size
  refine ⟨by rw [← List.append_assoc]; exact h2.1, ?_, fun b hb => ?_⟩
  · refine (Keeps.trans (h1.2.1.mono (List.subset_append_left _ (blkOf u))) (h2.2.1.mono (List.subset_append_right (blkOf v) _))).less fun b hb => ?_
    rcases List.mem_append.1 hb with hb | hb
    · exact .inl hb
    · exact h1.2.2 b hb
  · rcases h2.2.2 b hb with h | h
    · exact h1.2.2 b h
    · exact .inr (by omega)

theorem WrPost.under {w w1 w2 : World} {v u : Value} {l e : List UInt8} (hk : Keeps [] w w1) (h : WrPost w1 v l e u w2) : WrPost w v l e u w2 := by
  have hs := hk.size
  exact ⟨h.1, (hk.mono (by simp)).trans h.2.1, fun b hb => (h.2.2 b hb).imp id fun h => by omega⟩

theorem WrPost.same {w : World} {v : Value} {l : List UInt8} (h : Own w v 1 l.length (bcells l)) : WrPost w v l [] v w := ⟨by rw [List.append_nil]; exact h, .refl, fun _ hb => .inl hb⟩

theorem WrPost.more {w w1 w2 : World} {v u : Value} {l e : List UInt8} (h : WrPost w v l e u w1) (hk : Keeps [] w1 w2) : WrPost w v l e u w2 :=
  ⟨h.1.keep hk (by simp), h.2.1.trans (hk.mono (by simp)), h.2.2⟩

def appB (c : Nums) (x y : Operand) (t : Nat) : Op := .call { callee := .builtin .append, args := ⟨[x, y]⟩, argTypes := ⟨[c.tBytes, t]⟩ }

def tAppU16 (c : Nums) : Tr :=
  .op (.binOp .shr c.tU16 (.tmp 1) (.const (.int .u64 8)) c.tUint) none [] <| .op (.convert c.tU16 c.tU8 (.tmp 2)) none [] <| .op (.convert c.tU16 c.tU8 (.tmp 1)) none [] <|
  .op (.buildSlice c.tBytes 2 ⟨idxd 0 [.tmp 3, .tmp 4]⟩) none [] <| .op (appB c (.tmp 0) (.tmp 5) c.tBytes) none [] <| .ret [(.tmp 6, none)]

def tAppU32 (c : Nums) : Tr :=
  .op (.binOp .shr c.tU32 (.tmp 1) (.const (.int .u64 24)) c.tUint) none [] <| .op (.convert c.tU32 c.tU8 (.tmp 2)) none [] <| .op (.binOp .shr c.tU32 (.tmp 1) (.const (.int .u64 16)) c.tUint) none [] <| .op (.convert c.tU32 c.tU8 (.tmp 4)) none [] <|
  .op (.binOp .shr c.tU32 (.tmp 1) (.const (.int .u64 8)) c.tUint) none [] <| .op (.convert c.tU32 c.tU8 (.tmp 6)) none [] <| .op (.convert c.tU32 c.tU8 (.tmp 1)) none [] <|
  .op (.buildSlice c.tBytes 4 ⟨idxd 0 [.tmp 3, .tmp 5, .tmp 7, .tmp 8]⟩) none [] <| .op (appB c (.tmp 0) (.tmp 9) c.tBytes) none [] <| .ret [(.tmp 10, none)]

def gShr (c : Nums) (j n : Nat) (k : Tr) : Tr := .op (.binOp .shr c.tU64 (.tmp 1) (.const (.int .u64 j)) c.tUint) none [] <| .op (.convert c.tU64 c.tU8 (.tmp n)) none [] k

def tAppU64 (c : Nums) : Tr := gShr c 56 2 <| gShr c 48 4 <| gShr c 40 6 <| gShr c 32 8 <| gShr c 24 10 <| gShr c 16 12 <| gShr c 8 14 <| .op (.convert c.tU64 c.tU8 (.tmp 1)) none [] <|
  .op (.buildSlice c.tBytes 8 ⟨idxd 0 [.tmp 3, .tmp 5, .tmp 7, .tmp 9, .tmp 11, .tmp 13, .tmp 15, .tmp 16]⟩) none [] <| .op (appB c (.tmp 0) (.tmp 17) c.tBytes) none [] <| .ret [(.tmp 18, none)]

def tAppInt (t1 t2 f : Nat) : Tr := .op (.convert t1 t2 (.tmp 1)) none [] <| .op (callOp f [.tmp 0, .tmp 2]) none [] <| .ret [(.tmp 3, none)]

def tAppCLen (c : Nums) (f : Nat) : Tr := .op (.convert c.tInt c.tU32 (.tmp 1)) none [] <| .op (.binOp .add c.tU32 (.const (.int .u32 1)) (.tmp 2) c.tU32) none [] <| .op (callOp f [.tmp 0, .tmp 3]) none [] <| .ret [(.tmp 4, none)]

/-- A text or octets, counted in so many octets; tx: its type. -/
def tAppStr (c : Nums) (tx tI f : Nat) : Tr :=
  .op (.call { callee := .builtin .len, args := ⟨[.tmp 1]⟩, argTypes := ⟨[tx]⟩ }) none [] <| .op (.convert c.tInt tI (.tmp 2)) none [] <| .op (callOp f [.tmp 0, .tmp 3]) none [] <| .op (appB c (.tmp 4) (.tmp 1) tx) none [] <| .ret [(.tmp 5, none)]

def tAppCStr (c : Nums) (tx f : Nat) : Tr :=
  .op (.call { callee := .builtin .len, args := ⟨[.tmp 1]⟩, argTypes := ⟨[tx]⟩ }) none [] <| .op (.convert c.tInt c.tU32 (.tmp 2)) none [] <| .op (.binOp .add c.tU32 (.const (.int .u32 1)) (.tmp 3) c.tU32) none [] <|
  .op (callOp f [.tmp 0, .tmp 4]) none [] <| .op (appB c (.tmp 5) (.tmp 1) tx) none [] <| .ret [(.tmp 6, none)]

def tAppNStr (c : Nums) (fN : Nat) (x : Value) (fS : Nat) : Tr :=
  .op (.binOp .eql c.tPStr (.tmp 1) (.const (.pointer none)) c.tPStr) none [] <|
  .cond (.tmp 2) (.op (callOp fN [.tmp 0, .const x]) none [] <| .ret [(.tmp 3, none)]) <| .op (.nilCheck (.tmp 1)) none [] <| .op (.load c.tStr (.tmp 3)) none [] <| .op (callOp fS [.tmp 0, .tmp 4]) none [] <| .ret [(.tmp 5, none)]

def lenTab : ByteArray := ⟨⟨[0, 1] ++ List.replicate 2 2 ++ List.replicate 4 3 ++ List.replicate 8 4 ++ List.replicate 16 5 ++ List.replicate 32 6 ++ List.replicate 64 7 ++ List.replicate 128 8⟩⟩

def uvTab : ByteArray := ⟨⟨List.replicate 8 1 ++ List.replicate 7 2 ++ List.replicate 7 3 ++ List.replicate 7 4 ++ List.replicate 7 5 ++ List.replicate 7 6 ++ List.replicate 7 7 ++ List.replicate 7 8 ++ List.replicate 7 9 ++ [10] ++ List.replicate 191 0⟩⟩

def tLen32 (c : Nums) : Tr :=
  .op (.binOp .geq c.tU32 (.tmp 0) (.const (.int .u32 65536)) c.tU32) none [] <|
  .join 0 (.cond (.tmp 1) (.op (.binOp .shr c.tU32 (.tmp 0) (.const (.int .u64 16)) c.tUint) none [] <| .to 0 [.tmp 2, .const (.int .i64 16)]) (.to 0 [.tmp 0, .const (.int .i64 0)])) 2 <|
  .op (.binOp .geq c.tU32 (.tmp 2) (.const (.int .u32 256)) c.tU32) none [] <|
  .join 0 (.cond (.tmp 4) (.op (.binOp .shr c.tU32 (.tmp 2) (.const (.int .u64 8)) c.tUint) none [] <| .op (.binOp .add c.tInt (.tmp 3) (.const (.int .i64 8)) c.tInt) none [] <| .to 0 [.tmp 5, .tmp 6]) (.to 0 [.tmp 2, .tmp 3])) 2 <|
  .op (.convert c.tU32 c.tU8 (.tmp 5)) none [] <| .op (.index c.tStr (.const (.string lenTab)) (.tmp 7)) none [] <| .op (.convert c.tU8 c.tInt (.tmp 8)) none [] <| .op (.binOp .add c.tInt (.tmp 6) (.tmp 9) c.tInt) none [] <| .ret [(.tmp 10, none)]

def tUvLen (c : Nums) (f : Nat) : Tr := .op (callOp f [.tmp 0]) none [] <| .op (.convert c.tInt c.tU8 (.tmp 1)) none [] <| .op (.index c.tStr (.const (.string uvTab)) (.tmp 2)) none [] <| .op (.convert c.tU8 c.tInt (.tmp 3)) none [] <| .ret [(.tmp 4, none)]

/-- A group of seven bits that isn't the last: of what is at x, named from n. -/
def gGrp (c : Nums) (x : Operand) (n : Nat) (k : Tr) : Tr := .op (.binOp .and c.tU32 x (.const (.int .u32 127)) c.tU32) none [] <| .op (.binOp .or c.tU32 (.tmp n) (.const (.int .u32 128)) c.tU32) none [] <| .op (.convert c.tU32 c.tU8 (.tmp (n + 1))) none [] k

def gSft (c : Nums) (j _n : Nat) (k : Tr) : Tr := .op (.binOp .shr c.tU32 (.tmp 1) (.const (.int .u64 j)) c.tUint) none [] k

def tAppUv (c : Nums) (f : Nat) : Tr :=
  .op (callOp f [.tmp 1]) none [] <| .op (.binOp .eql c.tInt (.tmp 2) (.const (.int .i64 5)) c.tInt) none [] <|
  .cond (.tmp 3) (gGrp c (.tmp 1) 4 <| gSft c 7 7 <| gGrp c (.tmp 7) 8 <| gSft c 14 11 <| gGrp c (.tmp 11) 12 <| gSft c 21 15 <| gGrp c (.tmp 15) 16 <| gSft c 28 19 <| .op (.convert c.tU32 c.tU8 (.tmp 19)) none [] <|
    .op (.buildSlice c.tBytes 5 ⟨idxd 0 [.tmp 6, .tmp 10, .tmp 14, .tmp 18, .tmp 20]⟩) none [] <| .op (appB c (.tmp 0) (.tmp 21) c.tBytes) none [] <| .ret [(.tmp 22, none)]) <|
  .op (.binOp .eql c.tInt (.tmp 2) (.const (.int .i64 4)) c.tInt) none [] <|
  .cond (.tmp 4) (gGrp c (.tmp 1) 5 <| gSft c 7 8 <| gGrp c (.tmp 8) 9 <| gSft c 14 12 <| gGrp c (.tmp 12) 13 <| gSft c 21 16 <| .op (.convert c.tU32 c.tU8 (.tmp 16)) none [] <|
    .op (.buildSlice c.tBytes 4 ⟨idxd 0 [.tmp 7, .tmp 11, .tmp 15, .tmp 17]⟩) none [] <| .op (appB c (.tmp 0) (.tmp 18) c.tBytes) none [] <| .ret [(.tmp 19, none)]) <|
  .op (.binOp .eql c.tInt (.tmp 2) (.const (.int .i64 3)) c.tInt) none [] <|
  .cond (.tmp 5) (gGrp c (.tmp 1) 6 <| gSft c 7 9 <| gGrp c (.tmp 9) 10 <| gSft c 14 13 <| .op (.convert c.tU32 c.tU8 (.tmp 13)) none [] <|
    .op (.buildSlice c.tBytes 3 ⟨idxd 0 [.tmp 8, .tmp 12, .tmp 14]⟩) none [] <| .op (appB c (.tmp 0) (.tmp 15) c.tBytes) none [] <| .ret [(.tmp 16, none)]) <|
  .op (.binOp .eql c.tInt (.tmp 2) (.const (.int .i64 2)) c.tInt) none [] <|
  .cond (.tmp 6) (gGrp c (.tmp 1) 7 <| gSft c 7 10 <| .op (.convert c.tU32 c.tU8 (.tmp 10)) none [] <|
    .op (.buildSlice c.tBytes 2 ⟨idxd 0 [.tmp 9, .tmp 11]⟩) none [] <| .op (appB c (.tmp 0) (.tmp 12) c.tBytes) none [] <| .ret [(.tmp 13, none)]) <|
  .op (.binOp .eql c.tInt (.tmp 2) (.const (.int .i64 1)) c.tInt) none [] <|
  .cond (.tmp 7) (.op (.convert c.tU32 c.tU8 (.tmp 1)) none [] <| .op (.buildSlice c.tBytes 1 ⟨idxd 0 [.tmp 8]⟩) none [] <| .op (appB c (.tmp 0) (.tmp 9) c.tBytes) none [] <| .ret [(.tmp 10, none)]) (.ret [(.tmp 0, none)])

section

variable {P : Program} {c : Nums} {s : SN} {R : Value → World → Prop} {Γ : List (List Value → World → Prop)} {n : Nat} {ρ : Nat → Value} {w : World} {k : Tr}

theorem a_appW {x y : Operand} {v u : Value} {l e : List UInt8} {tx : Nat} (S : SpFacts P c s) (hx : ev ρ x = v) (hy : ev ρ y = u) (ho : Own w v 1 l.length (bcells l)) (hs : Src P 1 tx u e.length (bcells e) w) (hl : (l ++ e).length ≤ maxW) :
    ∃ v' w', runOp P ρ (appB c x y tx) w = .ok (.value v') w' ∧ WrPost w v l e v' w' := by
  obtain ⟨inf, hi, hz, hsz, hb⟩ := S.zero8
  rw [List.length_append] at hl
  obtain ⟨v', w', h1, h2, h3, h4⟩ := a_append (P := P) (ρ := ρ) (w := w) (tx := tx) S.rd.bytes hi hz hsz rfl hx hy ho hs (by
    calc (l.length + e.length) * inf.bytes ≤ maxW * 8 := Nat.mul_le_mul hl hb
      _ ≤ 140737488355328 := by decide) (by unfold maxW at hl; omega)
  exact ⟨v', w', h1, by rw [List.length_append, bcells_append]; exact h2, h3, h4⟩

theorem s_appW {x y : Operand} {v u : Value} {l e : List UInt8} {tx : Nat} {Fo : List (Op × Nat)} (S : SpFacts P c s) (hx : ev ρ x = v) (hy : ev ρ y = u) (ho : Own w v 1 l.length (bcells l)) (hs : Src P 1 tx u e.length (bcells e) w) (hl : (l ++ e).length ≤ maxW)
    (hk : ∀ v' w', WrPost w v l e v' w' → (∀ p ∈ Fo, runOp P ρ p.1 w' = .ok (.value (ρ p.2)) w') ∧ k.sem P R Γ (n + 1) (ext ρ n [v']) w') : (Tr.op (appB c x y tx) none Fo k).sem P R Γ n ρ w := by
  obtain ⟨v', w', h1, h2⟩ := a_appW S hx hy ho hs hl
  exact s_act h1 (hk v' w' h2).1 (hk v' w' h2).2

/-- append(dst, x, y, ..) -/
theorem s_pushMany {x : Operand} {ops : List Operand} {v : Value} {l bs : List UInt8} (S : SpFacts P c s) (hx : ev ρ x = v) (hbx : opBelow n x) (hops : ops.map (ev ρ) = bcells bs) (h0 : 0 < bs.length) (hn : bs.length ≤ 16) (ho : Own w v 1 l.length (bcells l)) (hl : (l ++ bs).length ≤ maxW)
    (hk : ∀ u v' w', WrPost w v l bs v' w' → k.sem P R Γ (n + 2) (ext (ext ρ n [u]) (n + 1) [v']) w') :
    (Tr.op (.buildSlice c.tBytes ops.length ⟨idxd 0 ops⟩) none [] <| Tr.op (appB c x (.tmp n) c.tBytes) none [] k).sem P R Γ n ρ w := by
  obtain ⟨inf, hi, hz, hsz, hb⟩ := S.zero8
  have hlen : ops.length = bs.length := by
    have := congrArg List.length hops
    simpa [bcells_length] using this
  have hfl : ((bcells bs).map fun v => [v]).flatten = bcells bs := by
    generalize bcells bs = z
    induction z with
    | nil => rfl
    | cons a z ih => simp only [List.map_cons, List.flatten_cons, ih]; rfl
  obtain ⟨w1, e1, hh, kk, _⟩ := a_sliceMany (P := P) (ρ := ρ) (w := w) (ops := ops) (sz := 1) (z := .int .u8 0) (css := (bcells bs).map fun v => [v]) S.rd.bytes (by simp [zeroTy, hi, hz, hsz]) (by omega) (by omega) (by
    rw [List.map_map, ← hops, List.map_map]
    refine List.map_congr_left fun y hy => ?_
    have hy' : ev ρ y ∈ bcells bs := by rw [← hops]; exact List.mem_map_of_mem hy
    exact cells_one (bcells_one bs _ hy')) (fun l hl => by
    obtain ⟨y, _, rfl⟩ := List.mem_map.1 hl
    rfl)
  rw [hfl] at hh
  refine s_act e1 (fun p hp => by cases hp) ?_
  have hr : Reads w1 (.slice (some ⟨w.heap.size, 0, none⟩) ops.length ops.length) 1 bs.length (bcells bs) := ⟨by simp [bcells_length], .inr ⟨w.heap.size, 0, ops.length, bcells bs, by rw [hlen], by omega, hh, by simp [bcells_length], by rw [List.drop_zero, Nat.mul_one, List.take_of_length_le (by simp [bcells_length])]⟩⟩
  exact s_appW S (by rw [ev_ext hbx]; exact hx) ext_at (ho.keep kk (by simp)) (hr.src S.rd.bytes (bcells_one bs)) hl fun v' w' hp => ⟨fun p hp => (by cases hp), hk _ v' w' (hp.under kk)⟩

theorem octAt (n : Int) (i : Nat) : (Value.int .u8 (IntKind.u8.wrap (n / 2 ^ (8 * i)))) = .int .u8 ((octOf n i).toNat : Int) := octCell _

theorem octAt0 (n : Int) : (Value.int .u8 (IntKind.u8.wrap n)) = .int .u8 ((octOf n 0).toNat : Int) := by
  have := octAt n 0
  rwa [show (2 : Int) ^ (8 * 0) = 1 from rfl, Int.ediv_one] at this

theorem appU16_gives {f : Nat} (S : SpFacts P c s) (hu : P.underlying c.tU16 = some (.int .u16)) (hT : treeIn P f noOrc [.tmp 0, .tmp 1] 2 = tAppU16 c) (x : Int) : WrV P f [.int .u16 x] (pFixed x 2) := by
  intro w v l ho hl
  refine gives_in (ρ := en [v, .int .u16 x]) S.rd.mix hT (Nat.le_refl _) rfl (by simp [opBelow]) ?_
  refine s_val (v_shr (kk := .u16) (k2 := .u64) (a := x) (j := 8) rfl rfl (by decide)) ?_
  refine s_val (v_conv (k1 := .u16) (a := x / 2 ^ 8) hu S.rd.u8 rfl) ?_
  refine s_val (v_conv (k1 := .u16) (a := x) hu S.rd.u8 rfl) ?_
  refine s_pushMany (bs := pFixed x 2) (ops := [.tmp 3, .tmp 4]) S rfl (by simp [opBelow]) ?_ (by simp [pFixed]) (by simp [pFixed]) ho hl fun u v' w' hp => s_ret1 hp
  show [Value.int .u8 (IntKind.u8.wrap (x / 2 ^ (8 * 1))), .int .u8 (IntKind.u8.wrap x)] = _
  rw [octAt, octAt0]
  rfl

theorem appU32_gives {f : Nat} (S : SpFacts P c s) (hT : treeIn P f noOrc [.tmp 0, .tmp 1] 2 = tAppU32 c) (x : Int) : WrV P f [.int .u32 x] (pFixed x 4) := by
  intro w v l ho hl
  refine gives_in (ρ := en [v, .int .u32 x]) S.rd.mix hT (Nat.le_refl _) rfl (by simp [opBelow]) ?_
  refine s_val (v_shr (kk := .u32) (k2 := .u64) (a := x) (j := 24) rfl rfl (by decide)) ?_
  refine s_val (v_conv (k1 := .u32) (a := x / 2 ^ 24) S.rd.u32 S.rd.u8 rfl) ?_
  refine s_val (v_shr (kk := .u32) (k2 := .u64) (a := x) (j := 16) rfl rfl (by decide)) ?_
  refine s_val (v_conv (k1 := .u32) (a := x / 2 ^ 16) S.rd.u32 S.rd.u8 rfl) ?_
  refine s_val (v_shr (kk := .u32) (k2 := .u64) (a := x) (j := 8) rfl rfl (by decide)) ?_
  refine s_val (v_conv (k1 := .u32) (a := x / 2 ^ 8) S.rd.u32 S.rd.u8 rfl) ?_
  refine s_val (v_conv (k1 := .u32) (a := x) S.rd.u32 S.rd.u8 rfl) ?_
  refine s_pushMany (bs := pFixed x 4) (ops := [.tmp 3, .tmp 5, .tmp 7, .tmp 8]) S rfl (by simp [opBelow]) ?_ (by simp [pFixed]) (by simp [pFixed]) ho hl fun u v' w' hp => s_ret1 hp
  show [Value.int .u8 (IntKind.u8.wrap (x / 2 ^ (8 * 3))), .int .u8 (IntKind.u8.wrap (x / 2 ^ (8 * 2))), .int .u8 (IntKind.u8.wrap (x / 2 ^ (8 * 1))), .int .u8 (IntKind.u8.wrap x)] = _
  rw [octAt, octAt, octAt, octAt0]
  rfl

theorem appU64_gives {f : Nat} (S : SpFacts P c s) (hT : treeIn P f noOrc [.tmp 0, .tmp 1] 2 = tAppU64 c) (x : Int) : WrV P f [.int .u64 x] (pFixed x 8) := by
  intro w v l ho hl
  refine gives_in (ρ := en [v, .int .u64 x]) S.rd.mix hT (Nat.le_refl _) rfl (by simp [opBelow]) ?_
  refine s_val (v_shr (kk := .u64) (k2 := .u64) (a := x) (j := 56) rfl rfl (by decide)) (s_val (v_conv (k1 := .u64) (a := x / 2 ^ 56) S.u64 S.rd.u8 rfl) ?_)
  refine s_val (v_shr (kk := .u64) (k2 := .u64) (a := x) (j := 48) rfl rfl (by decide)) (s_val (v_conv (k1 := .u64) (a := x / 2 ^ 48) S.u64 S.rd.u8 rfl) ?_)
  refine s_val (v_shr (kk := .u64) (k2 := .u64) (a := x) (j := 40) rfl rfl (by decide)) (s_val (v_conv (k1 := .u64) (a := x / 2 ^ 40) S.u64 S.rd.u8 rfl) ?_)
  refine s_val (v_shr (kk := .u64) (k2 := .u64) (a := x) (j := 32) rfl rfl (by decide)) (s_val (v_conv (k1 := .u64) (a := x / 2 ^ 32) S.u64 S.rd.u8 rfl) ?_)
  refine s_val (v_shr (kk := .u64) (k2 := .u64) (a := x) (j := 24) rfl rfl (by decide)) (s_val (v_conv (k1 := .u64) (a := x / 2 ^ 24) S.u64 S.rd.u8 rfl) ?_)
  refine s_val (v_shr (kk := .u64) (k2 := .u64) (a := x) (j := 16) rfl rfl (by decide)) (s_val (v_conv (k1 := .u64) (a := x / 2 ^ 16) S.u64 S.rd.u8 rfl) ?_)
  refine s_val (v_shr (kk := .u64) (k2 := .u64) (a := x) (j := 8) rfl rfl (by decide)) (s_val (v_conv (k1 := .u64) (a := x / 2 ^ 8) S.u64 S.rd.u8 rfl) ?_)
  refine s_val (v_conv (k1 := .u64) (a := x) S.u64 S.rd.u8 rfl) ?_
  refine s_pushMany (bs := pFixed x 8) (ops := [.tmp 3, .tmp 5, .tmp 7, .tmp 9, .tmp 11, .tmp 13, .tmp 15, .tmp 16]) S rfl (by simp [opBelow]) ?_ (by simp [pFixed]) (by simp [pFixed]) ho hl fun u v' w' hp => s_ret1 hp
  show [Value.int .u8 (IntKind.u8.wrap (x / 2 ^ (8 * 7))), .int .u8 (IntKind.u8.wrap (x / 2 ^ (8 * 6))), .int .u8 (IntKind.u8.wrap (x / 2 ^ (8 * 5))), .int .u8 (IntKind.u8.wrap (x / 2 ^ (8 * 4))), .int .u8 (IntKind.u8.wrap (x / 2 ^ (8 * 3))), .int .u8 (IntKind.u8.wrap (x / 2 ^ (8 * 2))), .int .u8 (IntKind.u8.wrap (x / 2 ^ (8 * 1))), .int .u8 (IntKind.u8.wrap x)] = _
  rw [octAt, octAt, octAt, octAt, octAt, octAt, octAt, octAt0]
  rfl

/-- A number of another kind, converted first. -/
theorem appInt_gives {f g t1 t2 N : Nat} {k1 k2 : IntKind} {d1 : TypeDesc} (S : SpFacts P c s) (ht1 : P.underlying t1 = some d1) (ht2 : P.underlying t2 = some (.int k2)) (hT : treeIn P f noOrc [.tmp 0, .tmp 1] 2 = tAppInt t1 t2 g) (hg : ∀ x, WrV P g [.int k2 x] (pFixed x N)) (hw : ∀ x, pFixed (k2.wrap x) N = pFixed x N) (x : Int) : WrV P f [.int k1 x] (pFixed x N) := by
  intro w v l ho hl
  refine gives_in (ρ := en [v, .int k1 x]) S.rd.mix hT (Nat.le_refl _) rfl (by simp [opBelow]) ?_
  refine s_val (v_conv (k1 := k1) (a := x) ht1 ht2 rfl) ?_
  have := hg (k2.wrap x) w v l ho (by rw [hw]; exact hl)
  rw [hw] at this
  exact s_callx this rfl fun u w' hp => s_ret1 hp

theorem pFixed_wrapu32 (n : Int) : pFixed (IntKind.u32.wrap n) 4 = pFixed n 4 := pFixed_congr (N := 4) (by simp only [IntKind.wrap, IntKind.bits, IntKind.signed]; simp) 4 (Nat.le_refl _)

theorem pFixed_wrapu64 (n : Int) : pFixed (IntKind.u64.wrap n) 8 = pFixed n 8 := pFixed_congr (N := 8) (by simp only [IntKind.wrap, IntKind.bits, IntKind.signed]; simp) 8 (Nat.le_refl _)

theorem v_indexStr {t : Nat} {x y : Operand} {st : ByteArray} {kk : IntKind} {j : Nat} {b : UInt8} (ht : P.underlying t = some .string) (hx : ev ρ x = .string st) (hy : ev ρ y = .int kk j) (hb : st[j]? = some b) : Val P ρ (.index t x y) (.int .u8 (b.toNat : Int)) := fun w => by
  unfold runOp bareOp
  simp only [execOp, hx, hy, Instr.index, asIntOf, Sem.run_bind, Sem.run_pure, run_under ht, Result.andThen_ok]
  rw [if_pos (by omega), Int.toNat_natCast, hb]
  rfl

theorem lenTab_at (y : Nat) (h : y < 256) : ∃ b : UInt8, lenTab[y]? = some b ∧ b.toNat ≤ 8 ∧ (b.toNat ≤ 0 ↔ y < 1) ∧ (b.toNat ≤ 1 ↔ y < 2) ∧ (b.toNat ≤ 2 ↔ y < 4) ∧ (b.toNat ≤ 3 ↔ y < 8) ∧ (b.toNat ≤ 4 ↔ y < 16) ∧ (b.toNat ≤ 5 ↔ y < 32) ∧ (b.toNat ≤ 6 ↔ y < 64) ∧ (b.toNat ≤ 7 ↔ y < 128) := by
  have key : ∀ y : Fin 256, (match lenTab[y.val]? with
    | some b => decide (b.toNat ≤ 8) && decide (b.toNat ≤ 0 ↔ y.val < 1) && decide (b.toNat ≤ 1 ↔ y.val < 2) && decide (b.toNat ≤ 2 ↔ y.val < 4) && decide (b.toNat ≤ 3 ↔ y.val < 8) && decide (b.toNat ≤ 4 ↔ y.val < 16) && decide (b.toNat ≤ 5 ↔ y.val < 32) && decide (b.toNat ≤ 6 ↔ y.val < 64) && decide (b.toNat ≤ 7 ↔ y.val < 128)
    | none => false) = true := by decide +kernel
  have := key ⟨y, h⟩
  simp only at this
  split at this
  · rename_i b hb
    simp only [Bool.and_eq_true, decide_eq_true_eq] at this
    obtain ⟨⟨⟨⟨⟨⟨⟨⟨a1, a2⟩, a3⟩, a4⟩, a5⟩, a6⟩, a7⟩, a8⟩, a9⟩ := this
    exact ⟨b, hb, a1, a2, a3, a4, a5, a6, a7, a8, a9⟩
  · cases this

theorem uvTab_at (j : Nat) (h : j ≤ 32) : ∃ b : UInt8, uvTab[j]? = some b ∧ b.toNat = if j ≤ 7 then 1 else if j ≤ 14 then 2 else if j ≤ 21 then 3 else if j ≤ 28 then 4 else 5 := by
  have key : ∀ y : Fin 33, (match uvTab[y.val]? with
    | some b => decide (b.toNat = if y.val ≤ 7 then 1 else if y.val ≤ 14 then 2 else if y.val ≤ 21 then 3 else if y.val ≤ 28 then 4 else 5)
    | none => false) = true := by decide +kernel
  have := key ⟨j, by omega⟩
  simp only at this
  split at this
  · rename_i b hb
    exact ⟨b, hb, by simpa using this⟩
  · cases this

/-- How many bits a number has: as far as groups of seven are concerned. -/
def BitsOk (x m : Nat) : Prop := m ≤ 32 ∧ (m ≤ 7 ↔ x < 128) ∧ (m ≤ 14 ↔ x < 16384) ∧ (m ≤ 21 ↔ x < 2097152) ∧ (m ≤ 28 ↔ x < 268435456)

theorem len32_gives {f : Nat} (S : SpFacts P c s) (hT : treeIn P f noOrc [.tmp 0] 1 = tLen32 c) (x : Nat) (hx : x < 4294967296) : Gives P f [.int .u32 x] w fun u w' => w' = w ∧ ∃ m : Nat, u = .int .i64 m ∧ BitsOk x m := by
  refine gives_in (ρ := en [.int .u32 x]) S.rd.mix hT (Nat.le_refl _) rfl (by simp [opBelow]) ?_
  refine s_val (v_cmp (kk := .u32) (a := x) (b := 65536) (r := decide ((x : Int) ≥ 65536)) rfl rfl rfl) ?_
  refine ⟨rfl, fun vs w' => w' = w ∧ ∃ y m : Nat, vs = [.int .u32 y, .int .i64 m] ∧ ((65536 ≤ x ∧ y = x / 65536 ∧ m = 16) ∨ (x < 65536 ∧ y = x ∧ m = 0)), ?_, ?_⟩
  · refine s_cond (b := decide ((x : Int) ≥ 65536)) rfl (fun hb => ?_) fun hb => ?_
    · refine s_val (v_shr (kk := .u32) (k2 := .u64) (a := x) (j := 16) rfl rfl (by decide)) ?_
      refine ⟨_, rfl, rfl, x / 65536, 16, ?_, .inl ⟨by simp at hb; omega, rfl, rfl⟩⟩
      show [Value.int .u32 ((x : Int) / 2 ^ 16), .int .i64 16] = _
      rw [show (x : Int) / 2 ^ 16 = ((x / 65536 : Nat) : Int) by omega]
      rfl
    · exact ⟨_, rfl, rfl, x, 0, rfl, .inr ⟨by simp at hb; omega, rfl, rfl⟩⟩
  rintro vs w' _ ⟨rfl, y, m, rfl, hy⟩
  refine s_val (v_cmp (kk := .u32) (a := y) (b := 256) (r := decide ((y : Int) ≥ 256)) rfl rfl rfl) ?_
  refine ⟨rfl, fun vs w2 => w2 = w' ∧ ∃ z q : Nat, vs = [.int .u32 z, .int .i64 q] ∧ z < 256 ∧ ((256 ≤ y ∧ z = y / 256 ∧ q = m + 8) ∨ (y < 256 ∧ z = y ∧ q = m)), ?_, ?_⟩
  · refine s_cond (b := decide ((y : Int) ≥ 256)) rfl (fun hb => ?_) fun hb => ?_
    · refine s_val (v_shr (kk := .u32) (k2 := .u64) (a := y) (j := 8) rfl rfl (by decide)) ?_
      refine s_val (v_arith (kk := .i64) (a := m) (b := 8) rfl rfl rfl) ?_
      refine ⟨_, rfl, rfl, y / 256, m + 8, ?_, by omega, .inl ⟨by simp at hb; omega, rfl, rfl⟩⟩
      show [Value.int .u32 ((y : Int) / 2 ^ 8), .int .i64 (IntKind.i64.wrap ((m : Int) + 8))] = _
      rw [show (y : Int) / 2 ^ 8 = ((y / 256 : Nat) : Int) by omega, show IntKind.i64.wrap ((m : Int) + 8) = ((m + 8 : Nat) : Int) by rw [IntKind.wrap_i64]; omega]
    · exact ⟨_, rfl, rfl, y, m, rfl, by simp at hb; omega, .inr ⟨by simp at hb; omega, rfl, rfl⟩⟩
  rintro vs w2 _ ⟨rfl, z, q, rfl, hz, hq⟩
  obtain ⟨b, hb, t0, t1, t2, t3, t4, t5, t6, t7, t8⟩ := lenTab_at z hz
  refine s_val (v_conv (k1 := .u32) (a := z) S.rd.u32 S.rd.u8 rfl) ?_
  rw [show IntKind.u8.wrap (z : Int) = z by rw [wrap_u8']; omega]
  refine s_val (v_indexStr (kk := .u8) (j := z) S.rd.str rfl rfl hb) ?_
  refine s_val (v_conv (k1 := .u8) (a := b.toNat) S.rd.u8 S.rd.int rfl) ?_
  rw [i64_small (by omega) (by omega)]
  refine s_val (v_arith (kk := .i64) (a := q) (b := b.toNat) rfl rfl rfl) ?_
  rw [i64_small (by omega) (by omega)]
  refine s_ret1 ⟨rfl, q + b.toNat, ?_, by omega, by omega, by omega, by omega, by omega⟩
  show Value.int .i64 ((q : Int) + (b.toNat : Int)) = _
  rw [Int.natCast_add]

theorem pUv_length_eq (x : Nat) (hx : x < 4294967296) : pUv x = if x < 128 then [UInt8.ofNat x] else if x < 16384 then [UInt8.ofNat (x % 128 + 128), UInt8.ofNat (x / 128)] else if x < 2097152 then [UInt8.ofNat (x % 128 + 128), UInt8.ofNat (x / 128 % 128 + 128), UInt8.ofNat (x / 16384)]
    else if x < 268435456 then [UInt8.ofNat (x % 128 + 128), UInt8.ofNat (x / 128 % 128 + 128), UInt8.ofNat (x / 16384 % 128 + 128), UInt8.ofNat (x / 2097152)] else [UInt8.ofNat (x % 128 + 128), UInt8.ofNat (x / 128 % 128 + 128), UInt8.ofNat (x / 16384 % 128 + 128), UInt8.ofNat (x / 2097152 % 128 + 128), UInt8.ofNat (x / 268435456)] := by
  have e1 : x / 128 / 128 = x / 16384 := by omega
  have e2 : x / 16384 / 128 = x / 2097152 := by omega
  have e3 : x / 2097152 / 128 = x / 268435456 := by omega
  unfold pUv
  rw [pUvN]
  by_cases h1 : x < 128
  · rw [if_neg (by omega), if_pos h1]
  rw [if_pos (by omega), if_neg h1, pUvN]
  by_cases h2 : x < 16384
  · rw [if_neg (by omega), if_pos h2]
  rw [if_pos (by omega), if_neg h2, pUvN, e1]
  by_cases h3 : x < 2097152
  · rw [if_neg (by omega), if_pos h3]
  rw [if_pos (by omega), if_neg h3, pUvN, e2]
  by_cases h4 : x < 268435456
  · rw [if_neg (by omega), if_pos h4]
  rw [if_pos (by omega), if_neg h4, pUvN, e3, if_neg (by omega)]

theorem uvLen_gives {f g : Nat} (S : SpFacts P c s) (hg : ∀ (w : World) (x : Nat), x < 4294967296 → Gives P g [.int .u32 x] w fun u w' => w' = w ∧ ∃ m : Nat, u = .int .i64 m ∧ BitsOk x m) (hT : treeIn P f noOrc [.tmp 0] 1 = tUvLen c g) (x : Nat) (hx : x < 4294967296) :
    Gives P f [.int .u32 x] w fun u w' => w' = w ∧ u = .int .i64 ((pUv x).length : Int) := by
  refine gives_in (ρ := en [.int .u32 x]) S.rd.mix hT (Nat.le_refl _) rfl (by simp [opBelow]) ?_
  refine s_callx (hg w x hx) rfl fun u w1 ⟨hw, m, hu, h0, h1, h2, h3, h4⟩ => ?_
  subst hw
  subst hu
  obtain ⟨b, hb, hbv⟩ := uvTab_at m h0
  refine s_val (v_conv (k1 := .i64) (a := m) S.rd.int S.rd.u8 rfl) ?_
  rw [show IntKind.u8.wrap (m : Int) = m by rw [wrap_u8']; omega]
  refine s_val (v_indexStr (kk := .u8) (j := m) S.rd.str rfl rfl hb) ?_
  refine s_val (v_conv (k1 := .u8) (a := b.toNat) S.rd.u8 S.rd.int rfl) ?_
  have hb5 : b.toNat ≤ 5 := by rw [hbv]; repeat' split
                               all_goals omega
  rw [i64_small (by omega) (by omega)]
  refine s_ret1 ⟨rfl, ?_⟩
  show Value.int .i64 (b.toNat : Int) = _
  rw [pUv_length_eq x hx, hbv]
  by_cases a1 : x < 128
  · rw [if_pos (h1.2 a1), if_pos a1]; rfl
  rw [if_neg (fun h => a1 (h1.1 h)), if_neg a1]
  by_cases a2 : x < 16384
  · rw [if_pos (h2.2 a2), if_pos a2]; rfl
  rw [if_neg (fun h => a2 (h2.1 h)), if_neg a2]
  by_cases a3 : x < 2097152
  · rw [if_pos (h3.2 a3), if_pos a3]; rfl
  rw [if_neg (fun h => a3 (h3.1 h)), if_neg a3]
  by_cases a4 : x < 268435456
  · rw [if_pos (h4.2 a4), if_pos a4]; rfl
  rw [if_neg (fun h => a4 (h4.1 h)), if_neg a4]
  rfl

theorem and127_u32 (m : Nat) (_h : m < 2 ^ 32) : bits .and .u32 m 127 = ((m % 128 : Nat) : Int) := by
  have h2 : ((BitVec.ofInt 32 (m : Int)) &&& (BitVec.ofInt 32 127)).toNat = m % 128 := by
    rw [BitVec.toNat_and, BitVec.toNat_ofInt, show (BitVec.ofInt 32 127).toNat = 2 ^ 7 - 1 from rfl, Nat.and_two_pow_sub_one_eq_mod]
    omega
  show IntKind.u32.wrap (((BitVec.ofInt 32 (m : Int)) &&& (BitVec.ofInt 32 127)).toNat : Int) = _
  rw [h2, wraps_u32 _ (by omega) (by omega)]

theorem or128_u32 (m : Nat) (h : m < 128) : bits .or .u32 m 128 = ((m + 128 : Nat) : Int) := by
  have h2 : ∀ x : Fin 128, bits .or .u32 (x.val : Int) 128 = ((x.val + 128 : Nat) : Int) := by decide +kernel
  exact h2 ⟨m, h⟩

theorem byteCell (z : Nat) : (Value.int .u8 (IntKind.u8.wrap (z : Int))) = .int .u8 ((UInt8.ofNat z).toNat : Int) := by
  rw [wrap_u8', UInt8.toNat_ofNat']
  congr 1

theorem s_grp {x : Operand} {y : Nat} (S : SpFacts P c s) (hx : ev ρ x = .int .u32 (y : Int)) (hy : y < 4294967296)
    (hk : k.sem P R Γ (n + 3) (ext (ext (ext ρ n [.int .u32 ((y % 128 : Nat) : Int)]) (n + 1) [.int .u32 ((y % 128 + 128 : Nat) : Int)]) (n + 2) [.int .u8 ((UInt8.ofNat (y % 128 + 128)).toNat : Int)]) w) : (gGrp c x n k).sem P R Γ n ρ w := by
  unfold gGrp
  refine s_val (v_bits (kk := .u32) (a := y) (b := 127) (.inl rfl) hx rfl (and127_u32 y hy)) ?_
  refine s_val (v_bits (kk := .u32) (a := ((y % 128 : Nat) : Int)) (b := 128) (.inr rfl) ext_at rfl (or128_u32 _ (by omega))) ?_
  refine s_val (v_conv (k1 := .u32) (a := ((y % 128 + 128 : Nat) : Int)) S.rd.u32 S.rd.u8 ext_at) ?_
  rw [byteCell]
  exact hk

theorem s_sft {j x d : Nat} (hx : ρ 1 = .int .u32 (x : Int)) (hj : j ≤ 32) (hd : (x : Int) / 2 ^ j = (d : Int)) (hk : k.sem P R Γ (n + 1) (ext ρ n [.int .u32 (d : Int)]) w) : (gSft c j n k).sem P R Γ n ρ w := by
  unfold gSft
  refine s_val (v_shr (kk := .u32) (k2 := .u64) (a := x) (j := j) hx rfl hj) ?_
  rw [hd]
  exact hk

theorem s_last {x : Operand} {d : Nat} (S : SpFacts P c s) (hx : ev ρ x = .int .u32 (d : Int)) (hk : k.sem P R Γ (n + 1) (ext ρ n [.int .u8 ((UInt8.ofNat d).toNat : Int)]) w) : (Tr.op (.convert c.tU32 c.tU8 x) none [] k).sem P R Γ n ρ w := by
  refine s_val (v_conv (k1 := .u32) (a := (d : Int)) S.rd.u32 S.rd.u8 hx) ?_
  rw [byteCell]
  exact hk

theorem appUv_gives {f g : Nat} (S : SpFacts P c s) (hg : ∀ (w : World) (x : Nat), x < 4294967296 → Gives P g [.int .u32 x] w fun u w' => w' = w ∧ u = .int .i64 ((pUv x).length : Int)) (hT : treeIn P f noOrc [.tmp 0, .tmp 1] 2 = tAppUv c g) (x : Nat) (hx : x < 4294967296) : WrV P f [.int .u32 x] (pUv x) := by
  intro w v l ho hl
  have e2 : (x : Int) / 2 ^ 7 = ((x / 128 : Nat) : Int) := by omega
  have e3 : (x : Int) / 2 ^ 14 = ((x / 16384 : Nat) : Int) := by omega
  have e4 : (x : Int) / 2 ^ 21 = ((x / 2097152 : Nat) : Int) := by omega
  have e5 : (x : Int) / 2 ^ 28 = ((x / 268435456 : Nat) : Int) := by omega
  refine gives_in (ρ := en [v, .int .u32 x]) S.rd.mix hT (Nat.le_refl _) rfl (by simp [opBelow]) ?_
  refine s_callx (hg w x hx) rfl fun u w1 ⟨hw, hu⟩ => ?_
  subst hw
  subst hu
  have hu := pUv_length_eq x hx
  by_cases a1 : x < 128
  · rw [if_pos a1] at hu
    rw [hu] at hl ⊢
    refine s_val (v_cmp (kk := .i64) (a := 1) (b := 5) (r := false) rfl rfl rfl) (s_cond (b := false) rfl (fun h => by cases h) fun _ => ?_)
    refine s_val (v_cmp (kk := .i64) (a := 1) (b := 4) (r := false) rfl rfl rfl) (s_cond (b := false) rfl (fun h => by cases h) fun _ => ?_)
    refine s_val (v_cmp (kk := .i64) (a := 1) (b := 3) (r := false) rfl rfl rfl) (s_cond (b := false) rfl (fun h => by cases h) fun _ => ?_)
    refine s_val (v_cmp (kk := .i64) (a := 1) (b := 2) (r := false) rfl rfl rfl) (s_cond (b := false) rfl (fun h => by cases h) fun _ => ?_)
    refine s_val (v_cmp (kk := .i64) (a := 1) (b := 1) (r := true) rfl rfl rfl) (s_cond (b := true) rfl (fun _ => ?_) fun h => by cases h)
    refine s_last S (d := x) rfl ?_
    exact s_pushMany (ops := [.tmp 8]) S rfl (by simp [opBelow]) rfl (by simp) (by simp) ho hl fun u v' w' hp => s_ret1 hp
  rw [if_neg a1] at hu
  by_cases a2 : x < 16384
  · rw [if_pos a2] at hu
    rw [hu] at hl ⊢
    refine s_val (v_cmp (kk := .i64) (a := 2) (b := 5) (r := false) rfl rfl rfl) (s_cond (b := false) rfl (fun h => by cases h) fun _ => ?_)
    refine s_val (v_cmp (kk := .i64) (a := 2) (b := 4) (r := false) rfl rfl rfl) (s_cond (b := false) rfl (fun h => by cases h) fun _ => ?_)
    refine s_val (v_cmp (kk := .i64) (a := 2) (b := 3) (r := false) rfl rfl rfl) (s_cond (b := false) rfl (fun h => by cases h) fun _ => ?_)
    refine s_val (v_cmp (kk := .i64) (a := 2) (b := 2) (r := true) rfl rfl rfl) (s_cond (b := true) rfl (fun _ => ?_) fun h => by cases h)
    refine s_grp S (y := x) rfl hx (s_sft rfl (by decide) e2 ?_)
    refine s_last S (d := x / 128) rfl ?_
    exact s_pushMany (ops := [.tmp 9, .tmp 11]) S rfl (by simp [opBelow]) rfl (by simp) (by simp) ho hl fun u v' w' hp => s_ret1 hp
  rw [if_neg a2] at hu
  by_cases a3 : x < 2097152
  · rw [if_pos a3] at hu
    rw [hu] at hl ⊢
    refine s_val (v_cmp (kk := .i64) (a := 3) (b := 5) (r := false) rfl rfl rfl) (s_cond (b := false) rfl (fun h => by cases h) fun _ => ?_)
    refine s_val (v_cmp (kk := .i64) (a := 3) (b := 4) (r := false) rfl rfl rfl) (s_cond (b := false) rfl (fun h => by cases h) fun _ => ?_)
    refine s_val (v_cmp (kk := .i64) (a := 3) (b := 3) (r := true) rfl rfl rfl) (s_cond (b := true) rfl (fun _ => ?_) fun h => by cases h)
    refine s_grp S (y := x) rfl hx (s_sft rfl (by decide) e2 ?_)
    refine s_grp S (y := x / 128) rfl (by omega) (s_sft rfl (by decide) e3 ?_)
    refine s_last S (d := x / 16384) rfl ?_
    exact s_pushMany (ops := [.tmp 8, .tmp 12, .tmp 14]) S rfl (by simp [opBelow]) rfl (by simp) (by simp) ho hl fun u v' w' hp => s_ret1 hp
  rw [if_neg a3] at hu
  by_cases a4 : x < 268435456
  · rw [if_pos a4] at hu
    rw [hu] at hl ⊢
    refine s_val (v_cmp (kk := .i64) (a := 4) (b := 5) (r := false) rfl rfl rfl) (s_cond (b := false) rfl (fun h => by cases h) fun _ => ?_)
    refine s_val (v_cmp (kk := .i64) (a := 4) (b := 4) (r := true) rfl rfl rfl) (s_cond (b := true) rfl (fun _ => ?_) fun h => by cases h)
    refine s_grp S (y := x) rfl hx (s_sft rfl (by decide) e2 ?_)
    refine s_grp S (y := x / 128) rfl (by omega) (s_sft rfl (by decide) e3 ?_)
    refine s_grp S (y := x / 16384) rfl (by omega) (s_sft rfl (by decide) e4 ?_)
    refine s_last S (d := x / 2097152) rfl ?_
    exact s_pushMany (ops := [.tmp 7, .tmp 11, .tmp 15, .tmp 17]) S rfl (by simp [opBelow]) rfl (by simp) (by simp) ho hl fun u v' w' hp => s_ret1 hp
  rw [if_neg a4] at hu
  rw [hu] at hl ⊢
  refine s_val (v_cmp (kk := .i64) (a := 5) (b := 5) (r := true) rfl rfl rfl) (s_cond (b := true) rfl (fun _ => ?_) fun h => by cases h)
  refine s_grp S (y := x) rfl hx (s_sft rfl (by decide) e2 ?_)
  refine s_grp S (y := x / 128) rfl (by omega) (s_sft rfl (by decide) e3 ?_)
  refine s_grp S (y := x / 16384) rfl (by omega) (s_sft rfl (by decide) e4 ?_)
  refine s_grp S (y := x / 2097152) rfl (by omega) (s_sft rfl (by decide) e5 ?_)
  refine s_last S (d := x / 268435456) rfl ?_
  exact s_pushMany (ops := [.tmp 6, .tmp 10, .tmp 14, .tmp 18, .tmp 20]) S rfl (by simp [opBelow]) rfl (by simp) (by simp) ho hl fun u v' w' hp => s_ret1 hp

theorem one_plus {y : Nat} (h : y ≤ big) : IntKind.u32.wrap (1 + IntKind.u32.wrap (y : Int)) = ((y + 1 : Nat) : Int) := by
  have : y ≤ 1073741825 := h
  rw [wraps_u32 y (by omega) (by omega), wraps_u32 _ (by omega) (by omega)]
  omega

theorem appCLen_gives {f g : Nat} (S : SpFacts P c s) (hg : ∀ x : Nat, x < 4294967296 → WrV P g [.int .u32 x] (pUv x)) (hT : treeIn P f noOrc [.tmp 0, .tmp 1] 2 = tAppCLen c g) (x : Nat) (hx : x ≤ big) : WrV P f [.int .i64 x] (pUv (x + 1)) := by
  intro w v l ho hl
  have hx2 : x ≤ 1073741825 := hx
  refine gives_in (ρ := en [v, .int .i64 x]) S.rd.mix hT (Nat.le_refl _) rfl (by simp [opBelow]) ?_
  refine s_val (v_conv (k1 := .i64) (a := x) S.rd.int S.rd.u32 rfl) ?_
  refine s_val (v_arith (kk := .u32) (a := 1) (b := IntKind.u32.wrap x) rfl rfl rfl) ?_
  rw [one_plus hx]
  exact s_callx (hg (x + 1) (by omega) w v l ho hl) rfl fun u w' hp => s_ret1 hp

theorem appStr_gives {f g : Nat} (S : SpFacts P c s) (hg : ∀ x : Int, WrV P g [.int .i16 x] (pFixed x 2)) (hT : treeIn P f noOrc [.tmp 0, .tmp 1] 2 = tAppStr c c.tStr c.tI16 g) (y : List UInt8) : WrV P f [.string (strOf y)] (pFixed y.length 2 ++ y) := by
  intro w v l ho hl
  have hll : l.length + (2 + y.length) ≤ maxW := by simpa [pFixed_length] using hl
  refine gives_in (ρ := en [v, .string (strOf y)]) S.rd.mix hT (Nat.le_refl _) rfl (by simp [opBelow]) ?_
  refine s_val (v_lenString S.rd.str rfl) ?_
  refine s_val (v_conv (k1 := .i64) (a := (y.length : Int)) S.rd.int S.rd.i16 rfl) ?_
  have h1 := hg (IntKind.i16.wrap y.length) w v l ho (by rw [pFixed_wrap16, List.length_append, pFixed_length]; omega)
  rw [pFixed_wrap16] at h1
  refine s_callx h1 rfl fun u w1 hp => ?_
  exact s_appW (e := y) S rfl rfl hp.1 (Src.ofString _ S.rd.str (strOf y)) (by rw [List.append_assoc]; exact hl) fun v' w' hp2 => ⟨fun p hp => (by cases hp), s_ret1 (hp.trans hp2)⟩

theorem appCStr_gives {f g : Nat} (S : SpFacts P c s) (hg : ∀ x : Nat, x < 4294967296 → WrV P g [.int .u32 x] (pUv x)) (hT : treeIn P f noOrc [.tmp 0, .tmp 1] 2 = tAppCStr c c.tStr g) (y : List UInt8) (hy : y.length ≤ big) : WrV P f [.string (strOf y)] (pUv (y.length + 1) ++ y) := by
  intro w v l ho hl
  have hx2 : y.length ≤ 1073741825 := hy
  refine gives_in (ρ := en [v, .string (strOf y)]) S.rd.mix hT (Nat.le_refl _) rfl (by simp [opBelow]) ?_
  refine s_val (v_lenString S.rd.str rfl) ?_
  refine s_val (v_conv (k1 := .i64) (a := (y.length : Int)) S.rd.int S.rd.u32 rfl) ?_
  refine s_val (v_arith (kk := .u32) (a := 1) (b := IntKind.u32.wrap (y.length : Int)) rfl rfl rfl) ?_
  rw [one_plus hy]
  refine s_callx (hg (y.length + 1) (by omega) w v l ho (by simp only [List.length_append] at hl ⊢; omega)) rfl fun u w1 hp => ?_
  exact s_appW (e := y) S rfl rfl hp.1 (Src.ofString _ S.rd.str (strOf y)) (by rw [List.append_assoc]; exact hl) fun v' w' hp2 => ⟨fun p hp => (by cases hp), s_ret1 (hp.trans hp2)⟩

theorem appBytes_gives {f g : Nat} (S : SpFacts P c s) (hg : ∀ x : Int, WrV P g [.int .i32 x] (pFixed x 4)) (hT : treeIn P f noOrc [.tmp 0, .tmp 1] 2 = tAppStr c c.tBytes c.tI32 g) : WrOct P f fun _ y => pFixed y.length 4 ++ y := by
  intro w v x l y ho hr hb hy hl
  have hll : l.length + (4 + y.length) ≤ maxW := by simpa [pFixed_length] using hl
  obtain ⟨a, cp, hxa, _⟩ := hr.form
  refine gives_in (ρ := en [v, x]) S.rd.mix hT (Nat.le_refl _) rfl (by simp [opBelow]) ?_
  refine s_val (v_len (a := a) (l := y.length) (c := cp) S.rd.bytes hxa) ?_
  refine s_val (v_conv (k1 := .i64) (a := (y.length : Int)) S.rd.int S.rd.i32 rfl) ?_
  have h1 := hg (IntKind.i32.wrap y.length) w v l ho (by rw [pFixed_wrap32, List.length_append, pFixed_length]; omega)
  rw [pFixed_wrap32] at h1
  refine s_callx h1 rfl fun u w1 hp => ?_
  exact s_appW (e := y) S rfl rfl hp.1 ((hr.keep hp.2.1 fun b hbx => (hb b hbx).1).src S.rd.bytes (bcells_one y)) (by rw [List.append_assoc]; exact hl) fun v' w' hp2 => ⟨fun p hp => (by cases hp), s_ret1 (hp.trans hp2)⟩

theorem appCBytes_gives {f g : Nat} (S : SpFacts P c s) (hg : ∀ x : Nat, x < 4294967296 → WrV P g [.int .u32 x] (pUv x)) (hT : treeIn P f noOrc [.tmp 0, .tmp 1] 2 = tAppCStr c c.tBytes g) : WrOct P f fun _ y => pUv (y.length + 1) ++ y := by
  intro w v x l y ho hr hb hy hl
  have hx2 : y.length ≤ 1073741825 := hy
  obtain ⟨a, cp, hxa, _⟩ := hr.form
  refine gives_in (ρ := en [v, x]) S.rd.mix hT (Nat.le_refl _) rfl (by simp [opBelow]) ?_
  refine s_val (v_len (a := a) (l := y.length) (c := cp) S.rd.bytes hxa) ?_
  refine s_val (v_conv (k1 := .i64) (a := (y.length : Int)) S.rd.int S.rd.u32 rfl) ?_
  refine s_val (v_arith (kk := .u32) (a := 1) (b := IntKind.u32.wrap (y.length : Int)) rfl rfl rfl) ?_
  rw [one_plus hy]
  refine s_callx (hg (y.length + 1) (by omega) w v l ho (by simp only [List.length_append] at hl ⊢; omega)) rfl fun u w1 hp => ?_
  exact s_appW (e := y) S rfl rfl hp.1 ((hr.keep hp.2.1 fun b hbx => (hb b hbx).1).src S.rd.bytes (bcells_one y)) (by rw [List.append_assoc]; exact hl) fun v' w' hp2 => ⟨fun p hp => (by cases hp), s_ret1 (hp.trans hp2)⟩

theorem appNStr_gives {f gN gS tS : Nat} {x0 : Value} {eN : List UInt8} {eS : List UInt8 → List UInt8} (S : SpFacts P c s) (hone : oneTy P c.tStr = true) (hp : P.underlying c.tPStr = some (.pointer tS)) (hN : WrV P gN [x0] eN) (hS : ∀ y : List UInt8, y.length ≤ big → WrV P gS [.string (strOf y)] (eS y)) (hT : treeIn P f noOrc [.tmp 0, .tmp 1] 2 = tAppNStr c gN x0 gS) :
    WrNStr P f fun o => match o with
      | none => eN
      | some y => eS y := by
  intro w v x l o ho hx hy hl
  refine gives_in (ρ := en [v, x]) S.rd.mix hT (Nat.le_refl _) rfl (by simp [opBelow]) ?_
  cases o with
  | none =>
    simp only [NStrAt] at hx
    subst hx
    refine s_val (v_eqlPtr (a := none) (r := true) hp rfl rfl (.inl ⟨rfl, rfl⟩)) ?_
    refine s_cond (b := true) rfl (fun _ => ?_) (fun h => by cases h)
    exact s_callx (hN w v l ho hl) rfl fun u w' hp => s_ret1 hp
  | some y =>
    obtain ⟨b, _, rfl, hb⟩ := hx
    refine s_val (v_eqlPtr (a := some ⟨b, 0, none⟩) (r := false) hp rfl rfl (.inl ⟨rfl, rfl⟩)) ?_
    refine s_cond (b := false) rfl (fun h => by cases h) fun _ => ?_
    refine s_val (v_nilCheck rfl) ?_
    refine s_lok (l_load1 (b := b) (o := 0) hone rfl hb rfl) ?_
    exact s_callx (hS y (hy y rfl) w v l ho hl) rfl fun u w' hp => s_ret1 hp

end

end Go.Kf


namespace Go.Kf

open Go

def encT (m : TM) : List UInt8 := (m.map fun q => pTag1 q.1 q.2).flatten

theorem encT_snoc (m : TM) (q : Nat × List UInt8) : encT (m ++ [q]) = encT m ++ (pUv q.1 ++ (pUv q.2.length ++ q.2)) := by
  simp [encT, pTag1]

def tTagsLen (c : Nums) : Tr := .op (.nilCheck (.tmp 0)) none [] <| .op (.fieldAddr c.tTags (.tmp 1) 0) none [] <| .op (.load c.tMap (.tmp 2)) none [] <| .op (.call { callee := .builtin .len, args := ⟨[.tmp 3]⟩, argTypes := ⟨[c.tMap]⟩ }) none [] <| .ret [(.tmp 4, none)]

def tAppEach (c : Nums) (g fEach : Nat) : Tr := .op (.box c.tBytes (.tmp 1)) none [] <| .op (.makeFunc (.func g) ⟨[]⟩ ⟨[.tmp 2]⟩) none [] <| .op (callOp fEach [.tmp 0, .tmp 3]) none [] <| .op (.load c.tBytes (.tmp 2)) none [] <| .ret [(.tmp 5, none)]

def tAppCl (c : Nums) (f : Nat) : Tr :=
  .op (.load c.tBytes (.tmp 2)) none [] <| .op (callOp f [.tmp 3, .tmp 0]) none [] <| .op (.store c.tBytes (.tmp 2) (.tmp 4)) none [] <| .op (.load c.tBytes (.tmp 2)) none [] <|
  .op (.call { callee := .builtin .len, args := ⟨[.tmp 1]⟩, argTypes := ⟨[c.tBytes]⟩ }) none [] <| .op (.convert c.tInt c.tU32 (.tmp 7)) none [] <| .op (callOp f [.tmp 6, .tmp 8]) none [] <| .op (.store c.tBytes (.tmp 2) (.tmp 9)) none [] <|
  .op (.load c.tBytes (.tmp 2)) none [] <| .op (appB c (.tmp 11) (.tmp 1) c.tBytes) none [] <| .op (.store c.tBytes (.tmp 2) (.tmp 12)) none [] <| .ret []

def TagsLen (P : Program) (f : Nat) : Prop := ∀ (w : World) (V o : Nat) (cs : List Value) (mv : Value) (m : TM), Has w V cs → cs[o]? = some mv → TagsR w m mv → Gives P f [ptr V o] w fun u w' => u = .int .i64 (m.length : Int) ∧ w' = w

def WrTags (P : Program) (f : Nat) : Prop := ∀ (w0 w : World) (V o : Nat) (cs : List Value) (mv v : Value) (m : TM) (l : List UInt8), Has w0 V cs → cs[o]? = some mv → TagsR w0 m mv → m.length ≤ big → (∀ p ∈ m, p.2.length ≤ big) → MadeO w0 w v l → (l ++ encT (sortTM m)).length ≤ maxW →
  Gives P f [ptr V o, v] w (WrPost w v l (encT (sortTM m)))

section

variable {P : Program} {c : Nums} {s : SN} {R : Value → World → Prop} {Γ : List (List Value → World → Prop)} {n : Nat} {ρ : Nat → Value} {w : World} {k : Tr}

theorem tagsLen_gives {f : Nat} (F : RdFacts P c) (T : TagFacts P c) (hT : treeIn P f noOrc [.tmp 0] 1 = tTagsLen c) : TagsLen P f := by
  intro w V o cs mv m hV hmv htags
  refine gives_in (ρ := en [ptr V o]) F.mix hT (Nat.le_refl _) rfl (by simp [opBelow]) ?_
  have hmv' : cs[o + 0]? = some mv := hmv
  refine s_val (v_nilCheck rfl) (s_val (v_field (b := V) (o := o) T.f0 rfl) ?_)
  refine s_lok (l_load1 (b := V) (o := o + 0) T.oneMap rfl hV hmv') ?_
  rcases htags with ⟨rfl, rfl⟩ | ⟨mb, esA, clock, rfl, hmA, he, _⟩
  · exact s_val (v_lenNilMap T.map rfl) (s_ret1 ⟨rfl, rfl⟩)
  · obtain ⟨es, rfl⟩ : ∃ es, esA = ⟨es⟩ := ⟨esA.toList, rfl⟩
    have hm0 : MapIs w mb es clock := hmA
    have hlen := he.len
    simp only at hlen
    refine s_lok (l_lenMap T.map rfl hm0) (s_ret1 ⟨?_, rfl⟩)
    rw [← hlen]
    rfl

/-- While tags are written: dst lies in block db; v0 is what was there. -/
def AJ (db : Nat) (v0 : Value) (l : List UInt8) (h : Nat) (pre : TM) (w : World) : Prop := ∃ dv, Has w db [dv] ∧ Own w dv 1 (l ++ encT pre).length (bcells (l ++ encT pre)) ∧ (∀ b ∈ blkOf dv, b ∈ blkOf v0 ∨ h ≤ b)

/-- The variable dst, read. -/
theorem s_rd1 {b : Nat} {x : Operand} {v : Value} (F : RdFacts P c) (hx : ev ρ x = ptr b) (hh : Has w b [v]) (hk : k.sem P R Γ (n + 1) (ext ρ n [v]) w) : (Tr.op (.load c.tBytes x) none [] k).sem P R Γ n ρ w :=
  s_lok (l_load1 (b := b) (o := 0) F.oneBytes hx hh rfl) hk

/-- The variable dst, set. -/
theorem s_st1 {b : Nat} {x y : Operand} {v u : Value} (F : RdFacts P c) (hx : ev ρ x = ptr b) (hy : ev ρ y = u) (hu : u.oneCell' = true) (hh : Has w b [v]) (hk : ∀ w', Has w' b [u] → Keeps [b] w w' → k.sem P R Γ (n + 1) (ext ρ n [undef]) w') : (Tr.op (.store c.tBytes x y) none [] k).sem P R Γ n ρ w := by
  obtain ⟨w', e, h2, kk⟩ := a_store1 (P := P) (ρ := ρ) (w := w) (t := c.tBytes) (x := x) (y := y) (b := b) (o := 0) F.oneBytes hx hy hu hh (by simp)
  exact s_unit e (fun p hp => (by cases hp)) (hk w' h2 kk)

theorem appCl_gives {g f : Nat} (S : SpFacts P c s) (hU : ∀ x : Nat, x < 4294967296 → WrV P f [.int .u32 x] (pUv x)) (hT : treeIn P g noOrc [.tmp 0, .tmp 1, .tmp 2] 3 = tAppCl c f) {db h : Nat} {v0 : Value} {l : List UInt8} {pre : TM} {p : Nat × List UInt8} {w1 : World} {v : Value} {hs : Nat}
    (hj : AJ db v0 l h pre w1) (hh : h ≤ w1.heap.size) (hdb : db ∉ blkOf v0 ∧ db < h) (ho : Ro w1 v 1 p.2.length (bcells p.2)) (hlt : p.2.length ≠ 0 → ∀ b ∈ blkOf v, b < hs) (hs1 : hs ≤ h ∧ hs ≤ db ∧ ∀ b ∈ blkOf v0, hs ≤ b) (hp : p.1 < 4294967296 ∧ p.2.length ≤ big) (hl : (l ++ encT (pre ++ [p])).length ≤ maxW) :
    Gives P g [.int .u32 p.1, v, ptr db] w1 fun _ w2 => AJ db v0 l h (pre ++ [p]) w2 ∧ ∃ M, Keeps M w1 w2 ∧ ∀ b ∈ M, b ∈ db :: blkOf v0 ∨ h ≤ b := by
  obtain ⟨dv, hd, hown, hblk⟩ := hj
  have hbg : p.2.length ≤ 1073741825 := hp.2
  rw [encT_snoc, ← List.append_assoc] at hl
  simp only [List.length_append] at hl
  have nd : ∀ {x : Value} {w' : World}, (∀ b ∈ blkOf x, b ∈ blkOf v0 ∨ h ≤ b) → db ∉ blkOf x := fun {x} {w'} hx hb => by
    rcases hx db hb with h' | h'
    · exact hdb.1 h'
    · omega
  refine gives_in (ρ := en [.int .u32 p.1, v, ptr db]) S.rd.mix hT (Nat.le_refl _) rfl (by simp [opBelow]) ?_
  refine s_rd1 S.rd rfl hd ?_
  refine s_callx (hU p.1 hp.1 w1 dv _ hown (by simp only [List.length_append]; omega)) rfl fun u w2 hp2 => ?_
  have hd2 := hd.keep hp2.2.1 (nd (w' := w1) hblk)
  have hb2 : ∀ b ∈ blkOf u, b ∈ blkOf v0 ∨ h ≤ b := fun b hb => (hp2.2.2 b hb).elim (hblk b) fun h' => .inr (by omega)
  refine s_st1 S.rd rfl rfl hp2.1.one hd2 fun w3 hd3 k3 => ?_
  have hown3 := hp2.1.keep k3 (fun b hb => by simp only [List.mem_singleton]; intro e; subst e; exact nd (w' := w1) hb2 hb)
  refine s_rd1 S.rd rfl hd3 ?_
  obtain ⟨a, cp, hva⟩ := ho.form
  refine s_val (v_len (a := a) (l := p.2.length) (c := cp) S.rd.bytes hva) ?_
  refine s_val (v_conv (k1 := .i64) (a := (p.2.length : Int)) S.rd.int S.rd.u32 rfl) ?_
  rw [wraps_u32 _ (by omega) (by omega)]
  refine s_callx (hU p.2.length (by omega) w3 u _ hown3 (by simp only [List.length_append]; omega)) rfl fun u4 w4 hp4 => ?_
  have hd4 := hd3.keep hp4.2.1 (nd (w' := w1) hb2)
  have s12 := hp2.2.1.size
  have s23 := k3.size
  have s34 := hp4.2.1.size
  have hb4 : ∀ b ∈ blkOf u4, b ∈ blkOf v0 ∨ h ≤ b := fun b hb => (hp4.2.2 b hb).elim (hb2 b) fun h' => .inr (by omega)
  refine s_st1 S.rd rfl rfl hp4.1.one hd4 fun w5 hd5 k5 => ?_
  have hown5 := hp4.1.keep k5 (fun b hb => by simp only [List.mem_singleton]; intro e; subst e; exact nd (w' := w1) hb4 hb)
  refine s_rd1 S.rd rfl hd5 ?_
  -- what has been kept of the value's octets
  have kM : Keeps (blkOf dv ++ ([db] ++ (blkOf u ++ [db]))) w1 w5 := (hp2.2.1.mono (List.subset_append_left _ _)).trans ((k3.mono (fun x hx => by simp only [List.mem_append]; exact .inr (.inl hx))).trans ((hp4.2.1.mono (fun x hx => by simp only [List.mem_append]; exact .inr (.inr (.inl hx)))).trans (k5.mono (fun x hx => by simp only [List.mem_append]; exact .inr (.inr (.inr hx))))))
  have hfar : p.2.length ≠ 0 → ∀ b ∈ blkOf v, b ∉ blkOf dv ++ ([db] ++ (blkOf u ++ [db])) := fun hne b hb hm => by
    have hb1 := hlt hne b hb
    have far : ∀ x, (x ∈ blkOf v0 ∨ h ≤ x) → b ≠ x := fun x hx e => by
      subst e
      rcases hx with h' | h'
      · have := hs1.2.2 b h'; omega
      · omega
    simp only [List.mem_append, List.mem_singleton] at hm
    rcases hm with hm | hm | hm | hm
    · exact far b (hblk b hm) rfl
    · omega
    · exact far b (hb2 b hm) rfl
    · omega
  have ho5 : Ro w5 v 1 p.2.length (bcells p.2) := ho.keepM kM hfar
  refine s_appW (e := p.2) S rfl rfl hown5 (ho5.src S.rd.bytes (bcells_one _)) (by simp only [List.length_append]; omega) fun u6 w6 hp6 => ⟨fun q hq => (by cases hq), ?_⟩
  have hd6 := hd5.keep hp6.2.1 (nd (w' := w1) hb4)
  have s45 := k5.size
  have hb6 : ∀ b ∈ blkOf u6, b ∈ blkOf v0 ∨ h ≤ b := fun b hb => (hp6.2.2 b hb).elim (hb4 b) fun h' => .inr (by omega)
  refine s_st1 S.rd rfl rfl hp6.1.one hd6 fun w7 hd7 k7 => ?_
  have hown7 := hp6.1.keep k7 (fun b hb => by simp only [List.mem_singleton]; intro e; subst e; exact nd (w' := w1) hb6 hb)
  refine s_ret0 ⟨⟨u6, hd7, ?_, hb6⟩, (blkOf dv ++ ([db] ++ (blkOf u ++ [db]))) ++ (blkOf u4 ++ [db]), ?_, fun b hb => ?_⟩
  · have e : l ++ encT (pre ++ [p]) = l ++ encT pre ++ pUv p.1 ++ pUv p.2.length ++ p.2 := by rw [encT_snoc]; simp only [List.append_assoc]
    rw [e]
    exact hown7
  · exact (kM.mono (List.subset_append_left _ _)).trans ((hp6.2.1.mono (fun x hx => by simp only [List.mem_append]; exact .inr (.inl hx))).trans (k7.mono (fun x hx => by simp only [List.mem_append]; exact .inr (.inr hx))))
  · simp only [List.mem_append, List.mem_singleton] at hb
    simp only [List.mem_cons]
    rcases hb with (hb | hb | hb | hb) | hb | hb
    · exact (hblk b hb).imp .inr id
    · exact .inl (.inl hb)
    · exact (hb2 b hb).imp .inr id
    · exact .inl (.inl hb)
    · exact (hb4 b hb).imp .inr id
    · exact .inl (.inl hb)

theorem encT_len {m : TM} (j : Nat) : (encT (m.take j)).length ≤ (encT m).length := by
  have : encT m = encT (m.take j) ++ encT (m.drop j) := by
    unfold encT
    rw [← List.flatten_append, ← List.map_append, List.take_append_drop]
  rw [this, List.length_append]
  omega

theorem appEach_gives {f g fUv fEach : Nat} (S : SpFacts P c s) (hU : ∀ x : Nat, x < 4294967296 → WrV P fUv [.int .u32 x] (pUv x)) (hE : EachGives P fEach) (hg : treeIn P g noOrc [.tmp 0, .tmp 1, .tmp 2] 3 = tAppCl c fUv) (hT : treeIn P f noOrc [.tmp 0, .tmp 1] 2 = tAppEach c g fEach) : WrTags P f := by
  intro w0 w V o cs mv v m l hV hmv htags hml hmp hmade hl
  have hkeys : ∀ p ∈ m, p.1 < 4294967296 := by
    rcases htags with ⟨_, rfl⟩ | ⟨_, _, _, _, _, _, _, _, h32, _⟩
    · intro p hp; cases hp
    · exact h32
  refine gives_in (ρ := en [ptr V o, v]) S.rd.mix hT (Nat.le_refl _) rfl (by simp [opBelow]) ?_
  obtain ⟨w1, e1, h1, k1, z1⟩ := a_box (P := P) (ρ := en [ptr V o, v]) (w := w) (t := c.tBytes) (x := .tmp 1) (v := v) rfl
  refine s_act e1 (fun p hp => (by cases hp)) ?_
  rw [cells_one hmade.one] at h1
  refine s_val (v_makeFunc1 (v := ptr w.heap.size) rfl) ?_
  have hsz0 := hmade.2.2.size
  have hvlt := hmade.1.lt
  have hown1 := hmade.1.keep k1 (by simp)
  have hbm : big = 1073741825 := rfl
  have hE1 := hE w0 w1 V o g cs mv (ptr w.heap.size) m (fun h pre w' => AJ w.heap.size v l h pre w' ∧ w1.heap.size ≤ h) (w.heap.size :: blkOf v) hV hmv htags (by omega) (hmade.2.2.trans k1) (fun b hb => by
      simp only [List.mem_cons] at hb
      rcases hb with rfl | hb
      · omega
      · have := hmade.2.1 b hb; have := hvlt b hb; omega)
    (fun w' kk => ⟨⟨v, h1.keep kk (by simp), by simp only [encT, List.map_nil, List.flatten_nil, List.append_nil]; exact hown1.keep kk (by simp), fun b hb => .inl hb⟩, kk.size⟩)
    (fun h pre p x w2 ⟨hj, hwh⟩ hsz _ hpre ho ho0 hp => by
      refine (appCl_gives S hU hg (hs := w0.heap.size) hj hsz ⟨fun hb => by have := hvlt _ hb; omega, by omega⟩ ho ho0.blk ⟨by omega, by omega, hmade.2.1⟩ ⟨hkeys p hp, hmp p hp⟩ ?_).mono fun _ w3 ⟨h1, h2⟩ => ⟨⟨h1, hwh⟩, h2⟩
      obtain ⟨_, j, he⟩ := hpre
      rw [he]
      have := encT_len (m := sortTM m) j
      simp only [List.length_append] at hl ⊢
      omega)
  refine s_callx hE1 rfl fun u w2 ⟨⟨h, hwh, ⟨dv, hd, hown, hblk⟩, _⟩, k2⟩ => ?_
  refine s_rd1 S.rd rfl hd ?_
  refine s_ret1 ⟨hown, ?_, fun b hb => (hblk b hb).imp id fun h' => by omega⟩
  refine ((k1.mono (by simp)).trans k2).less fun b hb => ?_
  simp only [List.mem_cons] at hb
  rcases hb with rfl | hb
  · exact .inr (Nat.le_refl _)
  · exact .inl hb

end

end Go.Kf


namespace Go.Kf

open Go

def OctA (A : Nat → Prop) (w : World) (nl : Bool) (l : List UInt8) (v : Value) : Prop := Reads w v 1 l.length (bcells l) ∧ nilOf v = nl ∧ ∀ b ∈ blkOf v, A b

def NStrA (A : Nat → Prop) (w : World) : Option (List UInt8) → Value → Prop
  | none, v => v = .pointer none
  | some l, v => ∃ b, A b ∧ v = ptr b ∧ Has w b [.string (strOf l)]

def EntA (A : Nat → Prop) (w : World) (e : MapEntry) (p : Nat × List UInt8) : Prop := e.key = .int .u32 p.1 ∧ Ro w e.val 1 p.2.length (bcells p.2) ∧ (p.2.length ≠ 0 → ∀ b ∈ blkOf e.val, A b)

def EntsA (A : Nat → Prop) (w : World) : List MapEntry → TM → Prop
  | [], [] => True
  | e :: es, p :: m => EntA A w e p ∧ EntsA A w es m
  | _, _ => False

def TagsA (A : Nat → Prop) (w : World) (m : TM) (v : Value) : Prop :=
  (v = .map none ∧ m = []) ∨ ∃ b es clock, A b ∧ v = .map (some b) ∧ w.heap[b]? = some (.map es clock) ∧ EntsA A w es.toList m ∧ es.toList.Pairwise (fun a b => a.born < b.born) ∧ (∀ e ∈ es.toList, e.born < clock) ∧
    (∀ p ∈ m, p.1 < 2 ^ 32) ∧ (m.map (·.1)).Nodup ∧ m ≠ []

mutual
def FAtA (A : Nat → Prop) (w : World) : FV → List Value → Prop
  | .one v, cs => cs = [v] ∧ v.oneCell' = true
  | .uuid l, cs => cs = bcells l ∧ l.length = 16
  | .text l, cs => cs = [.string (strOf l)]
  | .ntext o, cs => ∃ v, cs = [v] ∧ NStrA A w o v
  | .octs nl l, cs => ∃ v, cs = [v] ∧ OctA A w nl l v
  | .tags m, cs => ∃ v, cs = [v] ∧ TagsA A w m v
  | .list nl rows, cs => (nl = true ∧ cs = [.slice none 0 0] ∧ rows = []) ∨ (nl = false ∧ ∃ b cap rcs, A b ∧ cs = [.slice (some ⟨b, 0, none⟩) rows.length cap] ∧ rows.length ≤ cap ∧ Has w b rcs ∧ RowsA A w rows rcs)
  | .ptr none, cs => cs = [.pointer none]
  | .ptr (some fs), cs => ∃ b ccs, A b ∧ cs = [Kf.ptr b] ∧ Has w b ccs ∧ FsA A w fs ccs
  | .sub fs, cs => FsA A w fs cs
def FsA (A : Nat → Prop) (w : World) : List FV → List Value → Prop
  | [], cs => cs = []
  | f :: fs, cs => ∃ c1 c2, cs = c1 ++ c2 ∧ FAtA A w f c1 ∧ FsA A w fs c2
def RowsA (A : Nat → Prop) (w : World) : List (List FV) → List Value → Prop
  | [], _ => True
  | r :: rs, cs => ∃ c1 c2, cs = c1 ++ c2 ∧ FsA A w r c1 ∧ RowsA A w rs c2
end

section

variable {A A' : Nat → Prop} {w w' : World} {M : List Nat}

theorem OctA.keep {nl : Bool} {l : List UInt8} {v : Value} (h : OctA A w nl l v) (hk : Keeps M w w') (hm : ∀ b ∈ M, ¬ A b) (hA : ∀ b, A b → b < w.heap.size → A' b) : OctA A' w' nl l v :=
  ⟨h.1.keep hk fun b hb hbM => hm b hbM (h.2.2 b hb), h.2.1, fun b hb => hA b (h.2.2 b hb) (h.1.lt b hb)⟩

theorem NStrA.keep {o : Option (List UInt8)} {v : Value} (h : NStrA A w o v) (hk : Keeps M w w') (hm : ∀ b ∈ M, ¬ A b) (hA : ∀ b, A b → b < w.heap.size → A' b) : NStrA A' w' o v := by
  cases o with
  | none => exact h
  | some l => obtain ⟨b, h1, e, hh⟩ := h; exact ⟨b, hA b h1 hh.lt, e, hh.keep hk fun hb => hm b hb h1⟩

theorem EntsA.imp (h : ∀ e p, EntA A w e p → EntA A' w' e p) : ∀ {es : List MapEntry} {m : TM}, EntsA A w es m → EntsA A' w' es m
  | [], [], _ => trivial
  | _ :: _, _ :: _, hh => ⟨h _ _ hh.1, EntsA.imp h hh.2⟩
  | [], _ :: _, hh => hh.elim
  | _ :: _, [], hh => hh.elim

theorem EntA.keep {e : MapEntry} {p : Nat × List UInt8} (h : EntA A w e p) (hk : Keeps M w w') (hm : ∀ b ∈ M, ¬ A b) (hA : ∀ b, A b → b < w.heap.size → A' b) : EntA A' w' e p := by
  obtain ⟨h1, h2, h3⟩ := h
  exact ⟨h1, h2.keepM hk fun hn b hb hbM => hm b hbM (h3 hn b hb), fun hn b hb => hA b (h3 hn b hb) (h2.blk hn b hb)⟩

theorem TagsA.keep {m : TM} {v : Value} (h : TagsA A w m v) (hk : Keeps M w w') (hm : ∀ b ∈ M, ¬ A b) (hA : ∀ b, A b → b < w.heap.size → A' b) : TagsA A' w' m v := by
  rcases h with h | ⟨b, es, clock, hb, hv, hh, he, hr⟩
  · exact .inl h
  · have hlt : b < w.heap.size := (Array.getElem?_eq_some_iff.1 hh).1
    refine .inr ⟨b, es, clock, hA b hb hlt, hv, ?_, he.imp fun e p h => h.keep hk hm hA, hr⟩
    rw [hk.block b hlt fun hbM => hm b hbM hb]
    exact hh

mutual
theorem FAtA.keep (hk : Keeps M w w') (hm : ∀ b ∈ M, ¬ A b) (hA : ∀ b, A b → b < w.heap.size → A' b) : ∀ (f : FV) (cs : List Value), FAtA A w f cs → FAtA A' w' f cs
  | .one _, _, h => h
  | .uuid _, _, h => h
  | .text _, _, h => h
  | .ntext _, _, ⟨v, e, h⟩ => ⟨v, e, h.keep hk hm hA⟩
  | .octs _ _, _, ⟨v, e, h⟩ => ⟨v, e, h.keep hk hm hA⟩
  | .tags _, _, ⟨v, e, h⟩ => ⟨v, e, h.keep hk hm hA⟩
  | .list _ _, _, .inl h => .inl h
  | .list _ rows, _, .inr ⟨e, b, cap, rcs, hb, hc, hl, hh, hr⟩ => .inr ⟨e, b, cap, rcs, hA b hb hh.lt, hc, hl, hh.keep hk (fun hbM => hm b hbM hb), RowsA.keep hk hm hA rows rcs hr⟩
  | .ptr none, _, h => h
  | .ptr (some fs), _, ⟨b, ccs, hb, hc, hh, hf⟩ => ⟨b, ccs, hA b hb hh.lt, hc, hh.keep hk (fun hbM => hm b hbM hb), FsA.keep hk hm hA fs ccs hf⟩
  | .sub fs, cs, h => FsA.keep hk hm hA fs cs h
theorem FsA.keep (hk : Keeps M w w') (hm : ∀ b ∈ M, ¬ A b) (hA : ∀ b, A b → b < w.heap.size → A' b) : ∀ (fs : List FV) (cs : List Value), FsA A w fs cs → FsA A' w' fs cs
  | [], _, h => h
  | f :: fs, _, ⟨c1, c2, e, h1, h2⟩ => ⟨c1, c2, e, FAtA.keep hk hm hA f c1 h1, FsA.keep hk hm hA fs c2 h2⟩
theorem RowsA.keep (hk : Keeps M w w') (hm : ∀ b ∈ M, ¬ A b) (hA : ∀ b, A b → b < w.heap.size → A' b) : ∀ (rs : List (List FV)) (cs : List Value), RowsA A w rs cs → RowsA A' w' rs cs
  | [], _, h => h
  | r :: rs, _, ⟨c1, c2, e, h1, h2⟩ => ⟨c1, c2, e, FsA.keep hk hm hA r c1 h1, RowsA.keep hk hm hA rs c2 h2⟩
end

mutual
theorem FAtA.len : ∀ (f : FV) (cs : List Value), FAtA A w f cs → cs.length = f.wd
  | .one _, _, ⟨e, _⟩ => by subst e; rfl
  | .uuid _, _, ⟨e, h⟩ => by subst e; simp [FV.wd, bcells_length, h]
  | .text _, _, e => by simp only [FAtA] at e; subst e; rfl
  | .ntext _, _, ⟨v, e, _⟩ => by subst e; rfl
  | .octs _ _, _, ⟨v, e, _⟩ => by subst e; rfl
  | .tags _, _, ⟨v, e, _⟩ => by subst e; rfl
  | .list _ _, _, .inl ⟨_, e, _⟩ => by subst e; rfl
  | .list _ _, _, .inr ⟨_, _, _, _, _, e, _⟩ => by subst e; rfl
  | .ptr none, _, e => by simp only [FAtA] at e; subst e; rfl
  | .ptr (some _), _, ⟨_, _, _, e, _⟩ => by subst e; rfl
  | .sub fs, cs, h => FsA.len fs cs h
theorem FsA.len : ∀ (fs : List FV) (cs : List Value), FsA A w fs cs → cs.length = wds fs
  | [], _, h => by simp only [FsA] at h; subst h; rfl
  | f :: fs, _, ⟨c1, c2, e, h1, h2⟩ => by subst e; simp [wds, FAtA.len f c1 h1, FsA.len fs c2 h2]
end

/-- The field i, its cells, and what is about it. -/
theorem FsA.split : ∀ {fs : List FV} {cs : List Value} {i : Nat} {f : FV}, FsA A w fs cs → fs[i]? = some f → ∃ a m z, cs = a ++ m ++ z ∧ a.length = wds (fs.take i) ∧ FAtA A w f m ∧
    ∀ (f' : FV) (m' : List Value), FAtA A w f' m' → FsA A w (fs.set i f') (a ++ m' ++ z)
  | [], _, _, _, _, hi => by simp at hi
  | g :: fs, _, 0, f, ⟨c1, c2, e, h1, h2⟩, hi => by
    simp only [List.getElem?_cons_zero, Option.some.injEq] at hi
    subst hi
    exact ⟨[], c1, c2, by simpa using e, rfl, h1, fun f' m' h' => ⟨m', c2, by simp, h', h2⟩⟩
  | g :: fs, _, i + 1, f, ⟨c1, c2, e, h1, h2⟩, hi => by
    simp only [List.getElem?_cons_succ] at hi
    obtain ⟨a, m, z, e2, hl, hf, hset⟩ := FsA.split h2 hi
    refine ⟨c1 ++ a, m, z, by rw [e, e2]; simp, ?_, hf, fun f' m' h' => ⟨c1, a ++ m' ++ z, by simp, h1, hset f' m' h'⟩⟩
    simp [wds, List.take_succ_cons, FAtA.len g c1 h1, hl]

theorem RowsA.at {sz : Nat} : ∀ {rows : List (List FV)} {cs : List Value} {j : Nat}, RowsA A w rows cs → (∀ r ∈ rows, wds r = sz) → (hj : j < rows.length) → ∃ a m z, cs = a ++ m ++ z ∧ a.length = j * sz ∧ FsA A w rows[j] m
  | [], _, _, _, _, hj => by simp at hj
  | r :: rows, _, 0, ⟨c1, c2, e, h1, _⟩, _, _ => ⟨[], c1, c2, by simpa using e, by simp, h1⟩
  | r :: rows, _, j + 1, ⟨c1, c2, e, h1, h2⟩, hs, hj => by
    obtain ⟨a, m, z, e2, ha, hm⟩ := RowsA.at (j := j) h2 (fun x hx => hs x (List.mem_cons_of_mem _ hx)) (by simpa using hj)
    refine ⟨c1 ++ a, m, z, by rw [e, e2]; simp, ?_, by simpa using hm⟩
    rw [List.length_append, ha, FsA.len r c1 h1, hs r List.mem_cons_self, Nat.add_mul]
    omega

theorem NStrA.at {o : Option (List UInt8)} {v : Value} (h : NStrA A w o v) : NStrAt w 0 o v := by
  cases o with
  | none => exact h
  | some l => obtain ⟨b, _, e, hh⟩ := h; exact ⟨b, Nat.zero_le _, e, hh⟩

theorem EntsA.r : ∀ {es : List MapEntry} {m : TM}, EntsA A w es m → EntsR w es m
  | [], [], _ => trivial
  | _ :: _, _ :: _, hh => ⟨⟨hh.1.1, hh.1.2.1⟩, EntsA.r hh.2⟩
  | [], _ :: _, hh => hh.elim
  | _ :: _, [], hh => hh.elim

theorem TagsA.r {m : TM} {v : Value} (h : TagsA A w m v) : TagsR w m v := by
  rcases h with h | ⟨b, es, clock, hb, hv, hh, he, hr⟩
  · exact .inl h
  · exact .inr ⟨b, es, clock, hv, hh, he.r, hr⟩

end

/-- Any blocks at all. -/
def anyB : Nat → Prop := fun _ => True

section

variable {D lo : Nat} {w : World}

end

end Go.Kf

namespace Go.Kf

open Go

/-- Octets that are made, by one function more. -/
theorem MadeO.post {w0 w w' : World} {v u : Value} {l e : List UInt8} (h : MadeO w0 w v l) (hp : WrPost w v l e u w') : MadeO w0 w' u (l ++ e) :=
  ⟨hp.1, fun b hb => (hp.2.2 b hb).elim (h.2.1 b) fun h' => Nat.le_trans h.2.2.size h', ((h.2.2.mono (by simp)).trans hp.2.1).less fun b hb => .inr (h.2.1 b hb)⟩

/-- A value, as it is handed on. -/
def valIs (pk : PK) (u : Value) (m : List Value) : Prop := match pk with
  | .uuid => u = .agg ⟨m⟩
  | _ => m = [u]

/-- A function of the writer, of a kind. -/
def WrAny (P : Program) (f : Nat) (pk : PK) : Prop := ∀ (w0 w : World) (v u : Value) (l : List UInt8) (fv : FV) (m : List Value), okF fv pk.ty → FAtA anyB w0 fv m → valIs pk u m → MadeO w0 w v l → (l ++ encPK pk fv).length ≤ maxW →
  Gives P f [v, u] w fun x w' => MadeO w0 w' x (l ++ encPK pk fv)

/-- A function of the writer that writes a list's length. -/
def WrLen (P : Program) (f : Nat) (lk : LenK) : Prop := match lk with
  | .len => ∀ n : Nat, n ≤ big → WrV P f [.int .i64 n] (pFixed n 4)
  | .clen => ∀ n : Nat, n ≤ big → WrV P f [.int .i64 n] (pUv (n + 1))
  | _ => False

section

variable {P : Program} {c : Nums} {s : SN} {R : Value → World → Prop} {Γ : List (List Value → World → Prop)} {n : Nat} {ρ : Nat → Value} {w : World} {k : Tr}

theorem wrAny_num {f N : Nat} {kk : IntKind} (h : ∀ x, WrV P f [.int kk x] (pFixed x N)) : WrAny P f (.num N kk) := by
  intro w0 w v u l fv m hok hf hu hm hl
  obtain ⟨x, rfl, _⟩ := okF_num hok
  obtain ⟨e, _⟩ := hf
  simp only [valIs] at hu
  rw [hu] at e
  obtain rfl : u = .int kk x := by simpa using e
  exact (h x w v l hm.1 hl).mono fun _ _ hp => hm.post hp

theorem wrAny_str {f : Nat} (h : ∀ y : List UInt8, WrV P f [.string (strOf y)] (pFixed y.length 2 ++ y)) : WrAny P f .str := by
  intro w0 w v u l fv m hok hf hu hm hl
  obtain ⟨x, rfl, _⟩ := okF_text hok
  simp only [FAtA] at hf
  simp only [valIs] at hu
  rw [hu] at hf
  obtain rfl : u = .string (strOf x) := by simpa using hf
  exact (h x w v l hm.1 hl).mono fun _ _ hp => hm.post hp

theorem wrAny_cstr {f : Nat} (h : ∀ y : List UInt8, y.length ≤ big → WrV P f [.string (strOf y)] (pUv (y.length + 1) ++ y)) : WrAny P f .cstr := by
  intro w0 w v u l fv m hok hf hu hm hl
  obtain ⟨x, rfl, hx⟩ := okF_text hok
  simp only [FAtA] at hf
  simp only [valIs] at hu
  rw [hu] at hf
  obtain rfl : u = .string (strOf x) := by simpa using hf
  exact (h x hx w v l hm.1 hl).mono fun _ _ hp => hm.post hp

theorem NStrAt.kept {w w' : World} {o : Option (List UInt8)} {v : Value} (h : NStrAt w 0 o v) (hk : Keeps [] w w') : NStrAt w' 0 o v := by
  cases o with
  | none => exact h
  | some l => obtain ⟨b, hb, e, hh⟩ := h; exact ⟨b, hb, e, hh.keep hk (by simp)⟩

theorem wrAny_nstr {f : Nat} (h : WrNStr P f fun o => encPK .nstr (.ntext o)) : WrAny P f .nstr := by
  intro w0 w v u l fv m hok hf hu hm hl
  obtain ⟨x, rfl, hx⟩ := okF_ntext hok
  obtain ⟨y, e, hy⟩ := hf
  simp only [valIs] at hu
  rw [hu] at e
  obtain rfl : u = y := by simpa using e
  exact (h w v u l x hm.1 (hy.at.kept hm.2.2) hx hl).mono fun _ _ hp => hm.post hp

theorem wrAny_cnstr {f : Nat} (h : WrNStr P f fun o => encPK .cnstr (.ntext o)) : WrAny P f .cnstr := by
  intro w0 w v u l fv m hok hf hu hm hl
  obtain ⟨x, rfl, hx⟩ := okF_ntext hok
  obtain ⟨y, e, hy⟩ := hf
  simp only [valIs] at hu
  rw [hu] at e
  obtain rfl : u = y := by simpa using e
  exact (h w v u l x hm.1 (hy.at.kept hm.2.2) hx hl).mono fun _ _ hp => hm.post hp

theorem wrAny_oct {f : Nat} {pk : PK} {enc : Bool → List UInt8 → List UInt8} (hpk : pk.ty = .octs) (hv : ∀ u m, valIs pk u m → m = [u]) (he : ∀ nl y, encPK pk (.octs nl y) = enc nl y) (h : WrOct P f enc) : WrAny P f pk := by
  intro w0 w v u l fv m hok hf hu hm hl
  rw [hpk] at hok
  obtain ⟨nl, y, rfl, hy⟩ := okF_octs hok
  obtain ⟨z, e, hz1, hz2, _⟩ := hf
  rw [hv u m hu] at e
  obtain rfl : u = z := by simpa using e
  rw [he, ← hz2] at hl ⊢
  have hr : Reads w u 1 y.length (bcells y) := hz1.keep hm.2.2 (by simp)
  refine (h w v u l y hm.1 hr (fun b hb => ?_) hy hl).mono fun _ _ hp => hm.post hp
  have h1 := hz1.blk_lt b hb
  exact ⟨fun h2 => by have := hm.2.1 b h2; omega, Nat.lt_of_lt_of_le h1 hm.2.2.size⟩

def PK.isUuid : PK → Bool
  | .uuid => true
  | _ => false

mutual
def gWStep (c : Nums) : WStep → Operand → Nat → Nat → Nat → Operand → (Nat → Nat → Operand → Tr) → Tr
  | .call pk f i ty _, s, S, n, d, x, k => gGet s S i ty n <| match pk.isUuid with
    | false => .op (callOp f [x, .tmp (n + 2)]) none [] (k (n + 4) d (.tmp (n + 3)))
    | true => .op (.alloc ty) none [] <| .op (.store ty (.tmp (n + 3)) (.tmp (n + 2))) none [] <| .op (.load ty (.tmp (n + 3))) none [] <| .op (callOp f [x, .tmp (n + 5)]) none [] (k (n + 7) d (.tmp (n + 6)))
  | .deref _ f i ty _, s, S, n, d, x, k => gGet s S i ty n <| .op (.binOp .neq ty (.tmp (n + 2)) (.const (.pointer none)) ty) none [] <|
    .join d (.cond (.tmp (n + 3)) (.op (.nilCheck (.tmp (n + 2))) none [] <| .op (.load c.tStr (.tmp (n + 4))) none [] <| .to d [.tmp (n + 5)]) (.to d [.const (.string (strOf []))])) 1 <| .op (callOp f [x, .tmp (n + 4)]) none [] (k (n + 6) d (.tmp (n + 5)))
  | .listP lk fl i tySl _ _ f T, s, S, n, d, x, k => match lk.nul with
    | true => .stuck
    | false => gGet s S i tySl n <| .op (.call { callee := .builtin .len, args := ⟨[.tmp (n + 2)]⟩, argTypes := ⟨[tySl]⟩ }) none [] <| .op (callOp fl [x, .tmp (n + 3)]) none [] <| .op (.call { callee := .builtin .len, args := ⟨[.tmp (n + 2)]⟩, argTypes := ⟨[tySl]⟩ }) none [] <|
      .loop d [.tmp (n + 4), .const (.int .i64 0)] <| .op (.binOp .lss c.tInt (.tmp (n + 7)) (.tmp (n + 5)) c.tInt) none [] <|
      .cond (.tmp (n + 8)) (.op (.indexAddr tySl (.tmp (n + 2)) (.tmp (n + 7))) none [] <| .op (.load T (.tmp (n + 9))) none [] <| .op (callOp f [.tmp (n + 6), .tmp (n + 10)]) none [] <|
        .op (.binOp .add c.tInt (.tmp (n + 7)) (.const (.int .i64 1)) c.tInt) none [] <| .to d [.tmp (n + 11), .tmp (n + 12)]) (k (n + 9) (d + 1) (.tmp (n + 6)))
  | .listS lk fl i tySl _ T _ _ ss, s, S, n, d, x, k => match lk.nul with
    | true => .stuck
    | false => gGet s S i tySl n <| .op (.call { callee := .builtin .len, args := ⟨[.tmp (n + 2)]⟩, argTypes := ⟨[tySl]⟩ }) none [] <| .op (callOp fl [x, .tmp (n + 3)]) none [] <| .op (.call { callee := .builtin .len, args := ⟨[.tmp (n + 2)]⟩, argTypes := ⟨[tySl]⟩ }) none [] <|
      .loop d [.tmp (n + 4), .const (.int .i64 0)] <| .op (.binOp .lss c.tInt (.tmp (n + 7)) (.tmp (n + 5)) c.tInt) none [] <|
      .cond (.tmp (n + 8)) (.op (.indexAddr tySl (.tmp (n + 2)) (.tmp (n + 7))) none [] <| gWSteps c ss (.tmp (n + 9)) T (n + 10) (d + 1) (.tmp (n + 6)) fun n' _ x' =>
        .op (.binOp .add c.tInt (.tmp (n + 7)) (.const (.int .i64 1)) c.tInt) none [] <| .to d [x', .tmp n']) (k (n + 9) (d + 1) (.tmp (n + 6)))
  | .sub i _ T _ ss, s, S, n, d, x, k => .op (.nilCheck s) none [] <| .op (.fieldAddr S (.tmp n) i) none [] <| gWSteps c ss (.tmp (n + 1)) T (n + 2) d x k
  | .tags fUv fLen fEach i _, s, S, n, d, x, k => .op (.nilCheck s) none [] <| .op (.fieldAddr S (.tmp n) i) none [] <| .op (callOp fLen [.tmp (n + 1)]) none [] <| .op (.convert c.tInt c.tU32 (.tmp (n + 2))) none [] <|
    .op (.binOp .add c.tU32 (.const (.int .u32 0)) (.tmp (n + 3)) c.tU32) none [] <| .op (callOp fUv [x, .tmp (n + 4)]) none [] <| .op (.nilCheck s) none [] <| .op (.fieldAddr S (.tmp (n + 6)) i) none [] <| .op (callOp fEach [.tmp (n + 7), .tmp (n + 5)]) none [] (k (n + 9) d (.tmp (n + 8)))
def gWSteps (c : Nums) : List WStep → Operand → Nat → Nat → Nat → Operand → (Nat → Nat → Operand → Tr) → Tr
  | [], _, _, n, d, x, k => k n d x
  | st :: ss, s, S, n, d, x, k => gWStep c st s S n d x fun n' d' x' => gWSteps c ss s S n' d' x' k
end

/-- AppendTo, at a version. -/
def gAppendTo (c : Nums) (S : Nat) (v : Int) (ss : List WStep) : Tr :=
  .op (.nilCheck (.tmp 0)) none [] <| .op (.fieldAddr S (.tmp 2) 0) none [] <| .op (.load c.tI16 (.tmp 3)) (some (.int .i16 v)) [] <| gWSteps c ss (.tmp 0) S 5 0 (.tmp 1) fun _ _ x => .ret [(x, none)]

/-- A struct's values lie there. -/
def WIn (w0 : World) (V : Nat) (pre post : List Value) (fs : List FV) : Prop := ∃ mid, Has w0 V (pre ++ mid ++ post) ∧ FsA anyB w0 fs mid

def SemW (P : Program) (ts : List Ty) (g : Operand → Nat → Nat → Operand → (Nat → Nat → Operand → Tr) → Tr) (enc : List FV → List UInt8) : Prop :=
  ∀ (R : Value → World → Prop) (w0 : World) (V : Nat) (pre post : List Value) (fs : List FV) (Γ : List (List Value → World → Prop)) (n : Nat) (ρ : Nat → Value) (w : World) (s x : Operand) (v : Value) (l : List UInt8) (k : Nat → Nat → Operand → Tr),
    okFs fs ts → WIn w0 V pre post fs → ev ρ s = ptr V pre.length → opBelow n s → ev ρ x = v → opBelow n x → MadeO w0 w v l → (l ++ enc fs).length ≤ maxW →
    (∀ (n' : Nat) (Δ : List (List Value → World → Prop)) (ρ' : Nat → Value) (w' : World) (x' : Operand) (v' : Value), n ≤ n' → (∀ y, opBelow n y → ev ρ' y = ev ρ y) → ev ρ' x' = v' → opBelow n' x' → MadeO w0 w' v' (l ++ enc fs) → (k n' (Γ ++ Δ).length x').sem P R (Γ ++ Δ) n' ρ' w') →
    (g s n Γ.length x k).sem P R Γ n ρ w

/-- The cells of a field. -/
theorem WIn.field {V : Nat} {w0 : World} {pre post : List Value} {fs : List FV} {ts : List Ty} {S i off : Nat} {t : Ty} (h : WIn w0 V pre post fs) (hok : okFs fs ts) (hF : FieldTy P S ts i off t) :
    ∃ (f : FV) (a m z : List Value), fs[i]? = some f ∧ okF f t ∧ FAtA anyB w0 f m ∧ Has w0 V ((pre ++ a) ++ m ++ (z ++ post)) ∧ (pre ++ a).length = pre.length + off ∧ m.length = t.wd := by
  obtain ⟨mid, hh, hfs⟩ := h
  obtain ⟨f, hf, hft⟩ := okFs_get hok hF.2.2
  obtain ⟨a, m, z, e, ha, hm, _⟩ := hfs.split hf
  have hao : a.length = off := by rw [ha, wds_eq, List.map_take, okFs_map _ _ hok]; exact hF.2.1
  refine ⟨f, a, m, z, hf, hft, hm, by rw [e] at hh; simpa using hh, by simp [hao], ?_⟩
  rw [FAtA.len f m hm, okF_wd f t hft]

/-- How a field of a kind is loaded. -/
def LoadOk (P : Program) (ty : Nat) (pk : PK) : Prop := match pk with
  | .uuid => aggTy P ty = some 16
  | _ => oneTy P ty = true

theorem load_val {ty V o : Nat} {pk : PK} {m a z : List Value} {x : Operand} (hL : LoadOk P ty pk) (hx : ev ρ x = ptr V o) (hh : Has w V (a ++ m ++ z)) (ha : a.length = o) (hm : m.length = pk.ty.wd) : ∃ u, runOp P ρ (.load ty x) w = .ok (.value u) w ∧ valIs pk u m := by
  have one : oneTy P ty = true → m.length = 1 → ∃ u, runOp P ρ (.load ty x) w = .ok (.value u) w ∧ m = [u] := fun h1 h2 => by
    match m, h2 with
    | [u], _ =>
      refine ⟨u, l_load1 h1 hx hh ?_, rfl⟩
      rw [List.append_assoc, List.getElem?_append_right (by omega), ha, Nat.sub_self]
      rfl
  cases pk with
  | uuid =>
    refine ⟨.agg ⟨m⟩, ?_, rfl⟩
    have h16 : m.length = 16 := hm
    have := l_loadN (P := P) (ρ := ρ) (w := w) (t := ty) (x := x) (b := V) (o := o) (s := 16) hL hx hh (by simp only [List.length_append]; omega)
    rw [List.append_assoc, ← ha, List.drop_left' rfl, ← h16, List.take_left' rfl] at this
    exact this
  | num => exact one hL hm
  | bool => exact one hL hm
  | str => exact one hL hm
  | cstr => exact one hL hm
  | nstr => exact one hL hm
  | cnstr => exact one hL hm
  | bytes => exact one hL hm
  | cbytes => exact one hL hm
  | nbytes => exact one hL hm
  | cnbytes => exact one hL hm
  | tags => exact one hL hm

theorem semW_call {S f i ty off : Nat} {pk : PK} {ts : List Ty} (hW : WrAny P f pk) (hF : FieldTy P S ts i off pk.ty) (hL : LoadOk P ty pk) (hnu : pk.isUuid = false := by rfl) : SemW P ts (fun s n d x k => gWStep c (.call pk f i ty off) s S n d x k) (encStep (.call pk f i ty off)) := by
  intro R w0 V pre post fs Γ n ρ w s x v l k hok hin hs hbs hx hbx hm hl hk
  obtain ⟨fv, a, m, z, hf, hft, hfa, hh, hpl, hml⟩ := hin.field hok hF
  simp only [encStep, fvGet_eq hf] at hl hk
  simp only [gWStep, gGet, hnu]
  refine s_val (v_nilCheck hs) (s_val (v_field (b := V) (o := pre.length) hF.1 ext_at) ?_)
  obtain ⟨u, hu1, hu2⟩ := load_val (ρ := ext (ext ρ n [.pointer (some ⟨V, pre.length, none⟩)]) (n + 1) [.pointer (some ⟨V, pre.length + off, none⟩)]) (w := w) (x := .tmp (n + 1)) (V := V) (o := pre.length + off) hL ext_at (hh.keep hm.2.2 (by simp)) hpl hml
  refine s_lok hu1 ?_
  refine s_callx (hW w0 w v u l fv m hft hfa hu2 hm hl) ?_ fun x' w' hm' => ?_
  · simp only [List.map_cons, List.map_nil]
    rw [ev_ext' hbx (by omega), ev_ext' hbx (by omega), ev_ext' hbx (by omega), hx]
    congr 1
    congr 1
    exact ext_at
  · have := hk (n + 4) [] (ext (ext (ext (ext ρ n [.pointer (some ⟨V, pre.length, none⟩)]) (n + 1) [.pointer (some ⟨V, pre.length + off, none⟩)]) (n + 2) [u]) (n + 3) [x']) w' (.tmp (n + 3)) x' (by omega) (fun y hy => by
      rw [ev_ext' hy (by omega), ev_ext' hy (by omega), ev_ext' hy (by omega), ev_ext hy]) ext_at (by simp [opBelow]) hm'
    simpa using this

theorem semW_nil {ts : List Ty} {S : Nat} : SemW P ts (fun s n d x k => gWSteps c [] s S n d x k) (encSteps []) := by
  intro R w0 V pre post fs Γ n ρ w s x v l k hok hin hs hbs hx hbx hm hl hk
  have := hk n [] ρ w x v (Nat.le_refl _) (fun _ _ => rfl) hx hbx (by simpa [encSteps] using hm)
  simpa [gWSteps] using this

theorem semW_cons {ts : List Ty} {S : Nat} {st : WStep} {ss : List WStep} (h1 : SemW P ts (fun s n d x k => gWStep c st s S n d x k) (encStep st)) (h2 : SemW P ts (fun s n d x k => gWSteps c ss s S n d x k) (encSteps ss)) : SemW P ts (fun s n d x k => gWSteps c (st :: ss) s S n d x k) (encSteps (st :: ss)) := by
  intro R w0 V pre post fs Γ n ρ w s x v l k hok hin hs hbs hx hbx hm hl hk
  simp only [encSteps, ← List.append_assoc] at hl hk
  simp only [gWSteps]
  refine h1 R w0 V pre post fs Γ n ρ w s x v l _ hok hin hs hbs hx hbx hm (by simp only [List.length_append] at hl ⊢; omega) fun n' Δ ρ' w' x' v' hn hρ hx' hbx' hm' => ?_
  refine h2 R w0 V pre post fs (Γ ++ Δ) n' ρ' w' s x' v' _ k hok hin ((hρ s hbs).trans hs) (hbs.mono hn) hx' hbx' hm' hl fun n2 Δ2 ρ2 w2 x2 v2 hn2 hρ2 hx2 hbx2 hm2 => ?_
  have := hk n2 (Δ ++ Δ2) ρ2 w2 x2 v2 (by omega) (fun y hy => (hρ2 y (hy.mono hn)).trans (hρ y hy)) hx2 hbx2 hm2
  rwa [← List.append_assoc] at this

theorem semW_tags {S i off fUv fLen fEach : Nat} {ts : List Ty} (S0 : SpFacts P c s) (hU : ∀ x : Nat, x < 4294967296 → WrV P fUv [.int .u32 x] (pUv x)) (hLn : TagsLen P fLen) (hE : WrTags P fEach) (hF : FieldTy P S ts i off .tags) : SemW P ts (fun s n d x k => gWStep c (.tags fUv fLen fEach i off) s S n d x k) (encStep (.tags fUv fLen fEach i off)) := by
  intro R w0 V pre post fs Γ n ρ w s x v l k hok hin hs hbs hx hbx hm hl hk
  obtain ⟨fv, a, m, z, hf, hft, hfa, hh, hpl, hml⟩ := hin.field hok hF
  obtain ⟨tm, rfl, htl, htp⟩ := okF_tags hft
  obtain ⟨mv, rfl, htags⟩ := hfa
  simp only [encStep, fvGet_eq hf, encPK] at hl hk
  have hbg : big = 1073741825 := rfl
  have hcell : ((pre ++ a) ++ [mv] ++ (z ++ post))[pre.length + off]? = some mv := by
    rw [List.append_assoc, List.getElem?_append_right (by omega), hpl, Nat.sub_self]; rfl
  have hhw := hh.keep hm.2.2 (by simp)
  have htw : TagsR w tm mv := htags.r.keep hm.2.2
  simp only [gWStep]
  refine s_val (v_nilCheck hs) (s_val (v_field (b := V) (o := pre.length) hF.1 ext_at) ?_)
  refine s_callx (hLn w V (pre.length + off) _ mv tm hhw hcell htw) (by
    simp only [List.map_cons, List.map_nil]
    congr 1
    exact ext_at) fun u w1 ⟨hu, hw⟩ => ?_
  subst hw
  subst hu
  refine s_val (v_conv (k1 := .i64) (a := (tm.length : Int)) S0.rd.int S0.rd.u32 ext_at) ?_
  rw [wraps_u32 _ (by omega) (by omega)]
  refine s_val (v_arith (kk := .u32) (a := 0) (b := (tm.length : Int)) (r := (tm.length : Int)) rfl ext_at (by simp only [arithOf, Option.some.injEq, Int.zero_add]; exact wraps_u32 _ (by omega) (by omega))) ?_
  have hst : (sortTM tm).length = tm.length := sortTM_len tm
  have hl2 : l.length + ((pUv tm.length).length + (encT (sortTM tm)).length) ≤ maxW := by
    have := hl
    simp only [List.length_append] at this ⊢
    unfold encT
    omega
  refine s_callx (hU tm.length (by omega) w1 v l hm.1 (by rw [List.length_append]; omega)) (by
    simp only [List.map_cons, List.map_nil]
    rw [ev_ext' hbx (by omega), ev_ext' hbx (by omega), ev_ext' hbx (by omega), ev_ext' hbx (by omega), ev_ext' hbx (by omega), hx]
    congr 1
    congr 1
    exact ext_at) fun u2 w2 hp2 => ?_
  have hm2 := hm.post hp2
  refine s_val (v_nilCheck (a := ⟨V, pre.length, none⟩) (by
    rw [ev_ext' hbs (by omega), ev_ext' hbs (by omega), ev_ext' hbs (by omega), ev_ext' hbs (by omega), ev_ext' hbs (by omega), ev_ext' hbs (by omega)]; exact hs)) ?_
  refine s_val (v_field (b := V) (o := pre.length) hF.1 ext_at) ?_
  refine s_callx (hE w0 w2 V (pre.length + off) _ mv u2 tm (l ++ pUv tm.length) hh hcell htags.r htl htp hm2 (by rw [List.append_assoc]; simp only [List.length_append]; omega)) (by
    simp only [List.map_cons, List.map_nil]
    congr 1
    · exact ext_at
    · congr 1
      show ext _ _ _ (n + 5) = _
      rw [ext_lt (by omega), ext_lt (by omega)]
      exact ext_at) fun u3 w3 hp3 => ?_
  have hm3 := hm2.post hp3
  rw [List.append_assoc] at hm3
  have fin : ∀ ρ9 : Nat → Value, ev ρ9 (.tmp (n + 8)) = u3 → (∀ y, opBelow n y → ev ρ9 y = ev ρ y) → (k (n + 9) Γ.length (.tmp (n + 8))).sem P R Γ (n + 9) ρ9 w3 := fun ρ9 h1 h2 => by
    have := hk (n + 9) [] ρ9 w3 (.tmp (n + 8)) u3 (by omega) h2 h1 (by simp [opBelow]) hm3
    simpa using this
  refine fin _ ext_at fun y hy => ?_
  rw [ev_ext' hy (by omega), ev_ext' hy (by omega), ev_ext' hy (by omega), ev_ext' hy (by omega), ev_ext' hy (by omega), ev_ext' hy (by omega), ev_ext' hy (by omega), ev_ext' hy (by omega), ev_ext hy]

theorem wrLen_enc {fl : Nat} {lk : LenK} (h : WrLen P fl lk) (nl : Bool) {m : Nat} (hm : m ≤ big) : WrV P fl [.int .i64 m] (encLen lk nl m) := by
  cases lk with
  | len => exact h m hm
  | clen => exact h m hm
  | nlen => exact h.elim
  | nclen => exact h.elim

theorem encRows_take {f : List FV → List UInt8} {rows : List (List FV)} {j : Nat} (hj : j < rows.length) : ((rows.take (j + 1)).map f).flatten = ((rows.take j).map f).flatten ++ f rows[j] := by
  rw [List.take_succ_eq_append_getElem hj, List.map_append, List.flatten_append]
  simp

theorem encRows_le {f : List FV → List UInt8} {rows : List (List FV)} (j : Nat) : ((rows.take j).map f).flatten.length ≤ (rows.map f).flatten.length := by
  conv => rhs; rw [← List.take_append_drop j rows, List.map_append, List.flatten_append, List.length_append]
  omega

/-- A list's head and its loop; the body is left. -/
theorem semW_rows {S i off fl tySl T sz : Nat} {lk : LenK} {us ts : List Ty} {enc1 : List FV → List UInt8} {body : Nat → Nat → Tr} {k : Nat → Nat → Operand → Tr} (hF : FieldTy P S ts i off (.list us)) (hone : oneTy P tySl = true) (hsl : P.underlying tySl = some (.slice T)) (hsz : (P.info? T).map (·.size) = some sz) (hwd : tyWds us = sz)
    (hLn : WrLen P fl lk) {w0 : World} {V : Nat} {pre post : List Value} {fs : List FV} {v : Value} {l : List UInt8} {sv x : Operand} {nl : Bool} {rows : List (List FV)} (hf : fs[i]? = some (.list nl rows)) (hrl : rows.length ≤ big) (hrows : okRows rows us) (hok : okFs fs ts) (hin : WIn w0 V pre post fs) (hs : ev ρ sv = ptr V pre.length) (hx : ev ρ x = v) (hbx : opBelow n x) (hm : MadeO w0 w v l)
    (hl : (l ++ (encLen lk nl rows.length ++ (rows.map enc1).flatten)).length ≤ maxW)
    (hk : ∀ (n' : Nat) (Δ : List (List Value → World → Prop)) (ρ' : Nat → Value) (w' : World) (x' : Operand) (v' : Value), n ≤ n' → (∀ y, opBelow n y → ev ρ' y = ev ρ y) → ev ρ' x' = v' → opBelow n' x' → MadeO w0 w' v' (l ++ (encLen lk nl rows.length ++ (rows.map enc1).flatten)) → (k n' (Γ ++ Δ).length x').sem P R (Γ ++ Δ) n' ρ' w')
    (hbody : ∀ (j : Nat) (hj : j < rows.length) (b : Nat) (a z : List Value) (ρ' : Nat → Value) (w' : World) (v' : Value) (l' : List UInt8) (J : List Value → World → Prop), WIn w0 b a z rows[j] → a.length = j * sz → okFs rows[j] us → ρ' (n + 9) = ptr b (j * sz) → ρ' (n + 6) = v' → ρ' (n + 7) = .int .i64 j → MadeO w0 w' v' l' → (l' ++ enc1 rows[j]).length ≤ maxW →
      (∀ (v2 : Value) (w2 : World), MadeO w0 w2 v2 (l' ++ enc1 rows[j]) → J [v2, .int .i64 ((j + 1 : Nat) : Int)] w2) → (body (n + 10) (Γ.length + 1)).sem P R (Γ ++ [J]) (n + 10) ρ' w') :
    (gGet sv S i tySl n <| .op (.call { callee := .builtin .len, args := ⟨[.tmp (n + 2)]⟩, argTypes := ⟨[tySl]⟩ }) none [] <| .op (callOp fl [x, .tmp (n + 3)]) none [] <| .op (.call { callee := .builtin .len, args := ⟨[.tmp (n + 2)]⟩, argTypes := ⟨[tySl]⟩ }) none [] <|
      .loop Γ.length [.tmp (n + 4), .const (.int .i64 0)] <| .op (.binOp .lss c.tInt (.tmp (n + 7)) (.tmp (n + 5)) c.tInt) none [] <|
      .cond (.tmp (n + 8)) (.op (.indexAddr tySl (.tmp (n + 2)) (.tmp (n + 7))) none [] <| body (n + 10) (Γ.length + 1)) (k (n + 9) (Γ.length + 1) (.tmp (n + 6)))).sem P R Γ n ρ w := by
  obtain ⟨fv, a, m, z, hf', hft, hfa, hh, hpl, hml⟩ := hin.field hok hF
  rw [hf] at hf'
  obtain rfl := Option.some.inj hf'
  have hbg : big = 1073741825 := rfl
  obtain ⟨sl, rfl⟩ : ∃ sl, m = [sl] := by
    match m, hml with
    | [u], _ => exact ⟨u, rfl⟩
  have hform : ∃ ad cp, sl = .slice ad rows.length cp := by
    rcases hfa with ⟨_, e, hr⟩ | ⟨_, b, cap, rcs, _, e, _⟩
    · refine ⟨none, 0, ?_⟩
      rw [hr]
      simpa using e
    · exact ⟨_, cap, by simpa using e⟩
  obtain ⟨ad, cp, hsl0⟩ := hform
  have hcell : ((pre ++ a) ++ [sl] ++ (z ++ post))[pre.length + off]? = some sl := by
    rw [List.append_assoc, List.getElem?_append_right (by omega), hpl, Nat.sub_self]; rfl
  simp only [gGet]
  refine s_val (v_nilCheck hs) (s_val (v_field (b := V) (o := pre.length) hF.1 ext_at) ?_)
  refine s_lok (l_load1 (b := V) (o := pre.length + off) hone ext_at (hh.keep hm.2.2 (by simp)) hcell) ?_
  refine s_val (v_len (a := ad) (l := rows.length) (c := cp) hsl (by rw [← hsl0]; exact ext_at)) ?_
  have hl1 : (l ++ encLen lk nl rows.length).length ≤ maxW := by simp only [List.length_append] at hl ⊢; omega
  refine s_callx (wrLen_enc hLn nl hrl w v l hm.1 hl1) (by
    simp only [List.map_cons, List.map_nil]
    rw [ev_ext' hbx (by omega), ev_ext' hbx (by omega), ev_ext' hbx (by omega), ev_ext' hbx (by omega), hx]
    congr 1
    congr 1
    exact ext_at) fun u1 w1 hp1 => ?_
  have hm1 := hm.post hp1
  refine s_val (v_len (a := ad) (l := rows.length) (c := cp) hsl (by
    show ext _ _ _ (n + 2) = _
    rw [ext_lt (by omega), ext_lt (by omega), ← hsl0]
    exact ext_at)) ?_
  generalize hρ1 : ext (ext (ext (ext (ext (ext ρ n [.pointer (some ⟨V, pre.length, none⟩)]) (n + 1) [.pointer (some ⟨V, pre.length + off, none⟩)]) (n + 2) [sl]) (n + 3) [.int .i64 (rows.length : Int)]) (n + 4) [u1]) (n + 5) [.int .i64 (rows.length : Int)] = ρ1
  have hag : ∀ y, opBelow n y → ev ρ1 y = ev ρ y := fun y hy => by
    rw [← hρ1, ev_ext' hy (by omega), ev_ext' hy (by omega), ev_ext' hy (by omega), ev_ext' hy (by omega), ev_ext' hy (by omega), ev_ext hy]
  have r2 : ρ1 (n + 2) = sl := by rw [← hρ1, ext_lt (by omega), ext_lt (by omega), ext_lt (by omega)]; exact ext_at
  have r4 : ρ1 (n + 4) = u1 := by rw [← hρ1, ext_lt (by omega)]; exact ext_at
  have r5 : ρ1 (n + 5) = .int .i64 (rows.length : Int) := by rw [← hρ1]; exact ext_at
  clear hρ1
  refine s_countV (n := n + 6) (q := n + 5) (kk := .i64) (m := (rows.length : Int)) (ri := [.tmp (n + 4)]) (fun j vr w' => ∃ v', vr = [v'] ∧ MadeO w0 w' v' (l ++ (encLen lk nl rows.length ++ ((rows.take j).map enc1).flatten))) (by omega) r5 ⟨u1, by simp only [List.map_cons, List.map_nil]; congr 1, by simpa [List.append_assoc] using hm1⟩ ?_ ?_
  · rintro j hj w' vr ⟨v', rfl, hm'⟩ _ J hJ
    rw [Int.toNat_natCast] at hj
    obtain ⟨b, cap, rcs, hsl1, hB, hR⟩ : ∃ b cap rcs, sl = .slice (some ⟨b, 0, none⟩) rows.length cap ∧ Has w0 b rcs ∧ RowsA anyB w0 rows rcs := by
      rcases hfa with ⟨_, _, hr⟩ | ⟨_, b, cap, rcs, _, e, _, hB, hR⟩
      · rw [hr] at hj; simp at hj
      · exact ⟨b, cap, rcs, by simpa using e, hB, hR⟩
    obtain ⟨a1, m1, z1, e1, ha1, hm1'⟩ := hR.at (j := j) (fun r hr => (okRows_wds hrows r hr).trans hwd) hj
    have hs8 : (n + 6 + [Operand.tmp (n + 4)].length + 2) = n + 9 := rfl
    refine s_val (n := n + 9) (v_indexAddr (b := b) (o := 0) (l := rows.length) (c := cap) (j := j) (kk := .i64) hsl hsz (by
      show ext _ (n + 6) _ (n + 2) = _
      rw [ext_lt (by omega), r2, hsl1]) (by
      show ext ρ1 (n + 6) [v', .int .i64 (j : Int), .bool true] (n + 6 + 1) = _
      rw [ext_ge]; rfl) (by omega) (by omega)) ?_
    rw [Int.toNat_natCast, Nat.zero_add]
    refine hbody j hj b a1 z1 _ w' v' _ J ⟨m1, by rw [← e1]; exact hB, hm1'⟩ ha1 (okRows_mem hrows _ (List.getElem_mem _)) ext_at ?_ ?_ hm' ?_ fun v2 w2 hm2 => ?_
    · rw [ext_lt (by omega)]
      show ext ρ1 (n + 6) [v', .int .i64 (j : Int), .bool true] (n + 6 + 0) = _
      rw [ext_ge]; rfl
    · rw [ext_lt (by omega)]
      show ext ρ1 (n + 6) [v', .int .i64 (j : Int), .bool true] (n + 6 + 1) = _
      rw [ext_ge]; rfl
    · have h1 := encRows_le (f := enc1) (rows := rows) (j + 1)
      rw [encRows_take hj] at h1
      simp only [List.length_append] at h1 hl ⊢
      omega
    · refine hJ [v2] w2 rfl ⟨v2, rfl, ?_⟩
      rw [encRows_take hj]
      simpa [List.append_assoc] using hm2
  · rintro w' vr J ⟨v', rfl, hm'⟩ _
    rw [Int.toNat_natCast, List.take_of_length_le (Nat.le_refl _)] at hm'
    have := hk (n + 9) [J] (ext ρ1 (n + 6) [v', .int .i64 ((rows.length : Nat) : Int), .bool false]) w' (.tmp (n + 6)) v' (by omega) (fun y hy => by rw [ev_ext' hy (by omega)]; exact hag y hy) (by
      show ext ρ1 (n + 6) [v', .int .i64 ((rows.length : Nat) : Int), .bool false] (n + 6 + 0) = _
      rw [ext_ge]; rfl) (by simp [opBelow]) hm'
    rw [List.length_append] at this
    exact this

theorem semW_listS {S i off fl tySl T sz : Nat} {lk : LenK} {us ts : List Ty} {ss : List WStep} (hF : FieldTy P S ts i off (.list us)) (hone : oneTy P tySl = true) (hsl : P.underlying tySl = some (.slice T)) (hsz : (P.info? T).map (·.size) = some sz) (hwd : tyWds us = sz) (hLn : WrLen P fl lk) (hnul : lk.nul = false)
    (h : SemW P us (fun s n d x k => gWSteps c ss s T n d x k) (encSteps ss)) : SemW P ts (fun s n d x k => gWStep c (.listS lk fl i tySl off T sz us ss) s S n d x k) (encStep (.listS lk fl i tySl off T sz us ss)) := by
  intro R w0 V pre post fs Γ n ρ w sv x v l k hok hin hs hbs hx hbx hm hl hk
  obtain ⟨fv, hf, hft⟩ := okFs_get hok hF.2.2
  obtain ⟨nl, rows, rfl, hrl, hrows⟩ := okF_list hft
  simp only [encStep, fvGet_eq hf] at hl hk
  simp only [gWStep, hnul]
  refine semW_rows (enc1 := encSteps ss) (body := fun n0 d0 => gWSteps c ss (.tmp (n + 9)) T n0 d0 (.tmp (n + 6)) fun n' _ x' => .op (.binOp .add c.tInt (.tmp (n + 7)) (.const (.int .i64 1)) c.tInt) none [] <| .to Γ.length [x', .tmp n']) hF hone hsl hsz hwd hLn hf hrl hrows hok hin hs hx hbx hm hl hk fun j hj b a z ρ' w' v' l' J hW ha ho r9 r6 r7 hm' hl' hJ => ?_
  have hΓ : Γ.length + 1 = (Γ ++ [J]).length := by simp
  rw [hΓ]
  refine h R w0 b a z rows[j] (Γ ++ [J]) (n + 10) ρ' w' (.tmp (n + 9)) (.tmp (n + 6)) v' l' _ ho hW (by rw [ha]; exact r9) (show n + 9 < n + 10 by omega) r6 (show n + 6 < n + 10 by omega) hm' hl' fun n2 Δ ρ2 w2 x2 v2 hn2 hρ2 hx2 hbx2 hm2 => ?_
  have e7 : ev ρ2 (.tmp (n + 7)) = .int .i64 j := (hρ2 (.tmp (n + 7)) (show n + 7 < n + 10 by omega)).trans r7
  refine s_val (v_arith (kk := .i64) (a := j) (b := 1) (r := ((j + 1 : Nat) : Int)) e7 rfl ?_) ?_
  · have hbg : big = 1073741825 := rfl
    simp only [arithOf, Option.some.injEq]; rw [IntKind.wrap_i64]; omega
  refine ⟨J, by rw [List.append_assoc, List.getElem?_append_right (Nat.le_refl _), Nat.sub_self]; rfl, ?_⟩
  simp only [List.map_cons, List.map_nil]
  rw [ev_ext hbx2, hx2, show ev (ext ρ2 n2 [.int .i64 ((j + 1 : Nat) : Int)]) (.tmp n2) = .int .i64 ((j + 1 : Nat) : Int) from ext_at]
  exact hJ v2 w2 hm2

end

end Go.Kf




namespace Go.Kf

open Go

/-- What is written of values that represent a tree. -/
theorem wr_message {v x : Int} {fs : List PF} {ss : List WStep} {ts : List Ty} {p : Nat} (hpl : PF.plains fs = true) (h : wrPlain v (pFlex x v) fs ss ts p = true) (t : PT) {gs : List FV} (hr : RepPart v (pFlex x v) fs t gs p) (hok : okFs gs ts) : encSteps ss gs = pWrite fs x v t := by
  have hg : ∀ f ∈ fs, f.tag < 0 := fun f hf => PF.plain_tag (PF.plains_mem hpl f hf)
  rw [wrPlain_ok v (pFlex x v) fs ss ts p hpl h t 0 (pUnknown fs t.u) gs (pUnknownN_asc _ List.Pairwise.nil) hr.1 hr.2 hok]
  exact (pPart_plain hg v _ t).symm

theorem nstr_of {P : Program} {f : Nat} (h : WrNStr P f fun o => match o with
    | none => pFixed (-1) 2
    | some y => pFixed y.length 2 ++ y) : WrNStr P f fun o => encPK .nstr (.ntext o) := by
  have e : (fun o => encPK .nstr (.ntext o)) = fun o => match o with
    | none => pFixed (-1) 2
    | some y => pFixed y.length 2 ++ y := funext fun o => by cases o <;> rfl
  rw [e]
  exact h

theorem cnstr_of {P : Program} {f : Nat} (h : WrNStr P f fun o => match o with
    | none => pUv 0
    | some y => pUv (y.length + 1) ++ y) : WrNStr P f fun o => encPK .cnstr (.ntext o) := by
  have e : (fun o => encPK .cnstr (.ntext o)) = fun o => match o with
    | none => pUv 0
    | some y => pUv (y.length + 1) ++ y := funext fun o => by cases o <;> rfl
  rw [e]
  exact h

section

variable {P : Program} {c : Nums} {s : SN} {R : Value → World → Prop} {Γ : List (List Value → World → Prop)} {n : Nat} {ρ : Nat → Value} {w : World}

/-- AppendTo, at a version: what it appends. -/
def AppTo (P : Program) (f : Nat) (ts : List Ty) (v : Int) (ss : List WStep) : Prop := ∀ (w0 w : World) (V : Nat) (mid : List Value) (fs : List FV) (dv : Value) (l : List UInt8), okFs fs ts → fs[0]? = some (.one (.int .i16 v)) → Has w0 V mid → FsA anyB w0 fs mid → MadeO w0 w dv l → (l ++ encSteps ss fs).length ≤ maxW →
  Gives P f [ptr V, dv] w fun u w' => MadeO w0 w' u (l ++ encSteps ss fs)

theorem appTo_gives {f S : Nat} {ts : List Ty} {v : Int} {ss : List WStep} (F : RdFacts P c) (hone : oneTy P c.tI16 = true) (hS0 : fieldOff P S 0 = some 0) (hT : treeIn P f (orcV 4 v) [.tmp 0, .tmp 1] 2 = gAppendTo c S v ss) (h : SemW P ts (fun s n d x k => gWSteps c ss s S n d x k) (encSteps ss)) : AppTo P f ts v ss := by
  intro w0 w V mid fs dv l hok hv hV hf hm hl
  refine gives_in (ρ := en [ptr V, dv]) F.mix hT (Nat.le_refl _) rfl (by simp [opBelow]) ?_
  unfold gAppendTo
  refine s_val (v_nilCheck (a := ⟨V, 0, none⟩) rfl) (s_val (v_field (b := V) (o := 0) hS0 rfl) ?_)
  have hcell : mid[0]? = some (.int .i16 v) := by
    obtain ⟨a1, m1, z1, em, ha1, hm1, _⟩ := hf.split hv
    have : a1 = [] := List.eq_nil_of_length_eq_zero (by rw [ha1]; rfl)
    subst this
    rw [em, hm1.1]
    rfl
  refine s_known (l_load1 (b := V) (o := 0) hone rfl (hV.keep hm.2.2 (by simp)) hcell) ?_
  refine h _ w0 V [] [] fs [] 5 _ w (.tmp 0) (.tmp 1) dv l _ hok ⟨mid, by simpa using hV, hf⟩ rfl (by simp [opBelow]) rfl (by simp [opBelow]) hm hl fun n' Δ ρ' w' x' v' _ _ hx' _ hm' => ?_
  exact s_ret1 (by rw [hx']; exact hm')

end

end Go.Kf


namespace Go.Kf

open Go

section

variable {P : Program} {c : Nums} {s : SN} {w : World}

theorem FieldsV.keepSmall {w' : World} {b : Nat} {ds : List Value} (hb : Has w b ds) (hs : ds.length < 8) (hk : Keeps [b] w w') {fs : List PF} {v : Value} (h : FieldsV w fs v) : FieldsV w' fs v := by
  obtain ⟨cs, h1, h2⟩ := h
  exact ⟨cs, h1.keepSmall hb hs hk, FieldsC.keepSmall hb hs hk fs cs h2⟩

end

end Go.Kf


namespace Go.Kf

open Go

/-- A thing of a list, as it is handed on; pf: of a part. -/
def pFitOne (pf : PT → List PT) (e : Int) (sub : List PF) (y : PT) : PT :=
  if e = 10 then .mk 0 [] false (pf y) (wholeTags (pUnknown sub y.u)) else if e = 8 ∨ e = 9 then .mk 0 (pWhole y.s) false [] [] else .mk y.n y.s false [] []

mutual
def pFitted (v : Int) : PF → PT → PT
  | .mk k fr to nul g d e sub, t =>
    if k = 8 ∨ k = 9 then .mk 0 (pWhole t.s) (pNull (.mk k fr to nul g d e sub) v t) [] []
    else if k = 10 then .mk 0 [] (pNull (.mk k fr to nul g d e sub) v t) (pFits v sub t 0) (wholeTags (pUnknown sub t.u))
    else if k = 11 then .mk 0 [] (pNull (.mk k fr to nul g d e sub) v t || (decide (0 ≤ g) && t.l.isEmpty)) ((pThings t.l).map (pFitOne (fun y => pFits v sub y 0) e sub)) []
    else .mk t.n t.s false [] []
def pFits (v : Int) : List PF → PT → Nat → List PT
  | [], _, _ => []
  | f :: r, t, i => pFitted v f (pAt t i) :: pFits v r t (i + 1)
end

def pFit (v : Int) (fs : List PF) (t : PT) : PT := .mk 0 [] false (pFits v fs t 0) (wholeTags (pUnknown fs t.u))

inductive FK where
  | num (k : IntKind)
  | bool
  | text
  | ntext
  | octs
  | uuid

def fillV : FK → PT → FV
  | .num k, t => .one (.int k (k.wrap t.n))
  | .bool, t => .one (.bool (t.n % 2 == 1))
  | .text, t => .text t.s
  | .ntext, t => .ntext (if t.null then none else some t.s)
  | .octs, t => if t.null then .octs true [] else .octs false t.s
  | .uuid, t => .uuid (pId t.s)

/-- A step of the filling: the field i gets what the tree q says. The last numbers are those of types and functions. -/
inductive FStep where
  | prim (fk : FK) (i q off ty f : Nat)
  | listS (i q off tySl T f : Nat) (zs : List FV) (ss : List FStep)
  | listP (fk : FK) (i q off tySl T : Nat)
  | sub (i q off T f : Nat) (zs : List FV) (ss : List FStep)
  | tags (i off f : Nat)

mutual
/-- What a step sets, over what was there. -/
def fillVal : FStep → PT → FV → FV
  | .prim fk _ q _ _ _, t, _ => fillV fk (pAt t q)
  | .listS _ q _ _ _ _ zs ss, t, old => if (pAt t q).null then old else .list false ((pAt t q).l.map fun y => fillVals ss y zs)
  | .listP fk _ q _ _ _, t, old => if (pAt t q).null then old else .list false ((pAt t q).l.map fun y => [fillV fk y])
  | .sub _ q _ _ _ zs ss, t, _ => .sub (fillVals ss (pAt t q) zs)
  | .tags _ _ _, t, _ => .tags t.u
def fillVals : List FStep → PT → List FV → List FV
  | [], _, zs => zs
  | _ :: _, _, [] => []
  | s :: ss, t, z :: zs => fillVal s t z :: fillVals ss t zs
end

def fkFor (kind nul : Int) : FK → Bool
  | .num k => (decide (kind = 1) && decide (k = .i8)) || (decide (kind = 2) && decide (k = .i16)) || (decide (kind = 3) && decide (k = .i32)) || (decide (kind = 4) && decide (k = .i64)) || (decide (kind = 5) && decide (k = .u16))
  | .bool => decide (kind = 0)
  | .text => decide (kind = 8) && decide (nul < 0)
  | .ntext => decide (kind = 8)
  | .octs => decide (kind = 9)
  | .uuid => decide (kind = 7)

def FK.ty : FK → Ty
  | .num k => .num k
  | .bool => .bool
  | .text => .text
  | .ntext => .ntext
  | .octs => .octs
  | .uuid => .uuid

mutual
def mkOne : PF → FStep → Ty → FV → Nat → Nat → Bool
  | .mk k _ _ nul g _ e sub, st, ty, z, i, q => match st with
    | .prim fk i' q' _ _ _ => Nat.beq i' i && Nat.beq q' q && fkFor k nul fk && fk.ty.beq ty
    | .listS i' q' _ _ _ _ zs ss => match ty with
      | .list us => Nat.beq i' i && Nat.beq q' q && decide (k = 11) && decide (g < 0) && decide (e = 10) && isNilList (some z) && mkAll sub ss us zs 0 0
      | _ => false
    | .listP fk i' q' _ _ _ => match ty with
      | .list us => Nat.beq i' i && Nat.beq q' q && decide (k = 11) && decide (g < 0) && fkFor e (-1) fk && beqTys [fk.ty] us && isNilList (some z)
      | _ => false
    | .sub i' q' _ _ _ zs ss => match ty with
      | .sub us => Nat.beq i' i && Nat.beq q' q && decide (k = 10) && decide (nul < 0) && mkAll sub ss us zs 0 0
      | _ => false
    | .tags .. => false
def mkAll : List PF → List FStep → List Ty → List FV → Nat → Nat → Bool
  | [], ss, tys, zs, p, _ => match ss, tys, zs with
    | [.tags i _ _], [.tags], [_] => Nat.beq i p
    | _, _, _ => false
  | f :: fs, ss, tys, zs, p, q => match ss, tys, zs with
    | st :: ss, ty :: tys, z :: zs => mkOne f st ty z p q && mkAll fs ss tys zs (p + 1) (q + 1)
    | _, _, _ => false
end

theorem pWhole_le (s : List UInt8) : (pWhole s).length ≤ big := by
  unfold pWhole big
  rw [List.length_take]
  omega

theorem fillV_ok {fk : FK} {x : PT} (h : x.s.length ≤ big) : okF (fillV fk x) fk.ty := by
  cases fk with
  | num k => exact ⟨_, rfl, wrap_wrap k x.n⟩
  | bool => exact ⟨_, rfl⟩
  | text => exact ⟨rfl, h⟩
  | ntext => exact ⟨rfl, fun l hl => by
      split at hl
      · cases hl
      · obtain rfl := Option.some.inj hl; exact h⟩
  | octs =>
    simp only [fillV]
    cases x.null
    · exact ⟨rfl, h⟩
    · exact ⟨rfl, Nat.zero_le _⟩
  | uuid => exact ⟨rfl, pId_length x.s⟩

theorem fillV_rep {fk : FK} {kind nul : Int} {may null : Bool} {t x : PT} (h : fkFor kind nul fk = true) (hm : nul < 0 → null = false) (hn : kind ≠ 8 → kind ≠ 9 → x.n = t.n ∧ x.s = t.s) (hs : kind = 8 ∨ kind = 9 → x.s = pWhole t.s ∧ x.null = null) : RepV kind may null t (fillV fk x) := by
  cases fk with
  | num k =>
    simp only [fkFor, Bool.or_eq_true, Bool.and_eq_true, decide_eq_true_eq] at h
    have hk : kind ≠ 8 ∧ kind ≠ 9 := by omega
    refine ⟨by rw [(hn hk.1 hk.2).1], ?_⟩
    rcases h with (((h | h) | h) | h) | h <;> simp [h]
  | bool =>
    simp only [fkFor, decide_eq_true_eq] at h
    refine ⟨h, ?_⟩
    rw [(hn (by omega) (by omega)).1]
    have : t.n % 2 = 0 ∨ t.n % 2 = 1 := by omega
    rcases this with e | e <;> simp [e]
  | text =>
    simp only [fkFor, Bool.and_eq_true, decide_eq_true_eq] at h
    exact ⟨h.1, hm h.2, (hs (.inl h.1)).1⟩
  | ntext =>
    simp only [fkFor, decide_eq_true_eq] at h
    obtain ⟨h1, h2⟩ := hs (.inl h)
    exact ⟨h, by rw [h1, h2]⟩
  | octs =>
    simp only [fkFor, decide_eq_true_eq] at h
    obtain ⟨h1, h2⟩ := hs (.inr h)
    simp only [fillV, h2, h1]
    cases null
    · exact ⟨h, fun _ => rfl, rfl⟩
    · exact ⟨h, fun _ => rfl, rfl⟩
  | uuid =>
    simp only [fkFor, decide_eq_true_eq] at h
    exact ⟨h, by rw [(hn (by omega) (by omega)).2]⟩

theorem pFits_length (v : Int) : ∀ (fs : List PF) (t : PT) (i : Nat), (pFits v fs t i).length = fs.length
  | [], _, _ => by simp [pFits]
  | f :: r, t, i => by simp [pFits, pFits_length v r t (i + 1)]

theorem pFits_get (v : Int) : ∀ (fs : List PF) (t : PT) (i j : Nat) (h : j < fs.length), (pFits v fs t i)[j]? = some (pFitted v fs[j] (pAt t (i + j)))
  | f :: r, t, i, 0, _ => by simp [pFits]
  | f :: r, t, i, j + 1, h => by
    have := pFits_get v r t (i + 1) j (by simpa using h)
    rw [show i + 1 + j = i + (j + 1) by omega] at this
    simpa [pFits] using this

theorem pAt_fit {v : Int} {fs : List PF} {t : PT} {n : Int} {s : List UInt8} {nl : Bool} {u : TM} {j : Nat} (h : j < fs.length) : pAt (.mk n s nl (pFits v fs t 0) u) j = pFitted v fs[j] (pAt t j) := by
  have := pFits_get v fs t 0 j h
  rw [Nat.zero_add] at this
  simp only [pAt, PT.l, List.getD_eq_getElem?_getD, this, Option.getD_some]

theorem okRows_map {us : List Ty} {g : PT → List FV} : ∀ {l : List PT}, (∀ y ∈ l, okFs (g y) us) → okRows (l.map g) us
  | [], _ => by simp [okRows]
  | y :: l, h => by
    simp only [List.map_cons, okRows]
    exact ⟨h y (by simp), okRows_map fun x hx => h x (by simp [hx])⟩

theorem small_tags (fs : List PF) (u : TM) : (wholeTags (pUnknown fs u)).length ≤ big ∧ ∀ p ∈ wholeTags (pUnknown fs u), p.2.length ≤ big := by
  refine ⟨?_, fun p hp => ?_⟩
  · unfold wholeTags pUnknown
    rw [List.length_map]
    have := pUnknownN_length (pKnown fs 0) (u.take 32767) []
    rw [List.length_take] at this
    simp only [List.length_nil, Nat.add_zero] at this
    unfold big
    omega
  · obtain ⟨q, _, rfl⟩ := List.mem_map.1 hp
    exact pWhole_le _

theorem pThings_le (l : List PT) : (pThings l).length ≤ big := by
  unfold pThings big
  rw [List.length_take]
  omega

mutual
theorem mkOne_ok (v : Int) (fl : Bool) : ∀ (f : PF) (st : FStep) (ty : Ty) (z : FV) (i q : Nat) (t0 t : PT), mkOne f st ty z i q = true → pAt t q = pFitted v f t0 → RepF v fl f t0 (fillVal st t z) ∧ okF (fillVal st t z) ty
  | .mk k fr to nul g d e sub, .prim fk i' q' off tyn f, ty, z, i, q, t0, t, h, hx => by
    simp only [mkOne, Bool.and_eq_true] at h
    obtain ⟨⟨⟨_, hq⟩, hfk⟩, hty⟩ := h
    obtain rfl := Nat.eq_of_beq_eq_true hq
    obtain rfl := Ty.beq_eq _ _ hty
    simp only [fillVal, hx]
    generalize hN : pNull (.mk k fr to nul g d e sub) v t0 = null
    have hk : k ≠ 10 ∧ k ≠ 11 := by
      cases fk <;> simp only [fkFor, Bool.or_eq_true, Bool.and_eq_true, decide_eq_true_eq] at hfk <;> omega
    have hm : nul < 0 → null = false := fun h => by
      rw [← hN]
      have h0 : ¬ (0 ≤ nul) := by omega
      simp [pNull, PF.nul, h0]
    have hp : pFitted v (.mk k fr to nul g d e sub) t0 = if k = 8 ∨ k = 9 then .mk 0 (pWhole t0.s) null [] [] else .mk t0.n t0.s false [] [] := by
      simp only [pFitted, hN]
      split
      · rfl
      · rw [if_neg hk.1, if_neg hk.2]
    have hr : RepV k (decide (0 ≤ nul) && decide (nul ≤ v)) null t0 (fillV fk (pFitted v (.mk k fr to nul g d e sub) t0)) := by
      refine fillV_rep hfk hm (fun h8 h9 => ?_) fun h => ?_
      · rw [hp, if_neg (by omega)]; exact ⟨rfl, rfl⟩
      · rw [hp, if_pos h]; exact ⟨rfl, rfl⟩
    refine ⟨?_, ?_⟩
    · rw [← hN] at hr
      revert hr
      cases fk with
      | num => exact id
      | bool => exact id
      | text => exact id
      | ntext => exact id
      | octs =>
        simp only [fillV]
        split
        · exact id
        · exact id
      | uuid => exact id
    · by_cases h8 : k = 8 ∨ k = 9
      · refine fillV_ok ?_
        rw [hp, if_pos h8]
        exact pWhole_le _
      · rw [hp, if_neg h8]
        cases fk with
        | num k => exact ⟨_, rfl, wrap_wrap k _⟩
        | bool => exact ⟨_, rfl⟩
        | uuid => exact ⟨rfl, pId_length _⟩
        | text => simp only [fkFor, Bool.and_eq_true, decide_eq_true_eq] at hfk; omega
        | ntext => simp only [fkFor, decide_eq_true_eq] at hfk; omega
        | octs => simp only [fkFor, decide_eq_true_eq] at hfk; omega
  | .mk k fr to nul g d e sub, .listS i' q' off tySl T f zs ss, ty, z, i, q, t0, t, h, hx => by
    cases ty <;> try (simp [mkOne] at h; done)
    rename_i us
    simp only [mkOne, Bool.and_eq_true, decide_eq_true_eq] at h
    obtain ⟨⟨⟨⟨⟨⟨_, hq⟩, rfl⟩, hg⟩, rfl⟩, hz⟩, hsub⟩ := h
    obtain rfl := Nat.eq_of_beq_eq_true hq
    obtain rfl : z = .list true [] := Option.some.inj (isNilList_eq hz)
    have hgd : (decide (0 ≤ g) && t0.l.isEmpty) = false := by
      have : decide (0 ≤ g) = false := by simp; omega
      simp [this]
    simp only [fillVal, hx]
    generalize hN : pNull (.mk 11 fr to nul g d 10 sub) v t0 = null
    have hp : pFitted v (.mk 11 fr to nul g d 10 sub) t0 = .mk 0 [] null ((pThings t0.l).map (pFitOne (fun y => pFits v sub y 0) 10 sub)) [] := by
      simp only [pFitted, show ¬((11 : Int) = 8 ∨ (11 : Int) = 9) by decide, show ¬((11 : Int) = 10) by decide, if_false, if_true, hgd, Bool.or_false, hN]
    rw [hp]
    show RepF _ _ _ _ (if null = true then _ else .list false (((pThings t0.l).map (pFitOne (fun y => pFits v sub y 0) 10 sub)).map fun y => fillVals ss y zs)) ∧ okF (if null = true then _ else .list false (((pThings t0.l).map (pFitOne (fun y => pFits v sub y 0) 10 sub)).map fun y => fillVals ss y zs)) _
    cases null with
    | true => exact ⟨⟨rfl, fun _ => hN.symm, by simp [hN], fun j y r hy => by simp [hN] at hy⟩, Nat.zero_le _, by simp [okRows]⟩
    | false =>
      rw [if_neg (by decide)]
      have hrow : ∀ y : PT, RepFs v fl sub y (fillVals ss (pFitOne (fun y => pFits v sub y 0) 10 sub y) zs) 0 0 ∧ (fillVals ss (pFitOne (fun y => pFits v sub y 0) 10 sub y) zs)[sub.length]? = some (.tags (wholeTags (pUnknown sub y.u))) ∧ okFs (fillVals ss (pFitOne (fun y => pFits v sub y 0) 10 sub y) zs) us := fun y => by
        have := mkAll_ok v fl sub ss us zs 0 0 [] y (pFitOne (fun y => pFits v sub y 0) 10 sub y) hsub rfl (fun j hj => by
          rw [Nat.zero_add]
          simp only [pFitOne, if_true]
          exact pAt_fit hj) (by simp only [pFitOne, if_true, PT.u]; exact small_tags _ _)
        simpa [pFitOne, PT.u] using this
      refine ⟨⟨rfl, fun _ => hN.symm, by simp [hN], fun j y r hy hr => ?_⟩, ?_, ?_⟩
      · rw [if_neg (by rw [hN]; decide)] at hy
        rw [List.map_map, List.getElem?_map, hy] at hr
        obtain rfl := Option.some.inj hr
        refine ⟨fun _ => ⟨(hrow y).1, fun _ => (hrow y).2.1⟩, fun h => absurd rfl h⟩
      · rw [List.length_map, List.length_map]; exact pThings_le _
      · refine okRows_map fun x hx => ?_
        obtain ⟨y, _, rfl⟩ := List.mem_map.1 hx
        exact (hrow y).2.2
  | .mk k fr to nul g d e sub, .listP fk i' q' off tySl T, ty, z, i, q, t0, t, h, hx => by
    cases ty <;> try (simp [mkOne] at h; done)
    rename_i us
    simp only [mkOne, Bool.and_eq_true, decide_eq_true_eq] at h
    obtain ⟨⟨⟨⟨⟨⟨_, hq⟩, rfl⟩, hg⟩, hfk⟩, hus⟩, hz⟩ := h
    obtain rfl := Nat.eq_of_beq_eq_true hq
    obtain rfl := beqTys_eq _ _ hus
    obtain rfl : z = .list true [] := Option.some.inj (isNilList_eq hz)
    have he : e ≠ 10 := by
      cases fk <;> simp only [fkFor, Bool.or_eq_true, Bool.and_eq_true, decide_eq_true_eq] at hfk <;> omega
    have hgd : (decide (0 ≤ g) && t0.l.isEmpty) = false := by
      have : decide (0 ≤ g) = false := by simp; omega
      simp [this]
    simp only [fillVal, hx]
    generalize hN : pNull (.mk 11 fr to nul g d e sub) v t0 = null
    have hp : pFitted v (.mk 11 fr to nul g d e sub) t0 = .mk 0 [] null ((pThings t0.l).map (pFitOne (fun y => pFits v sub y 0) e sub)) [] := by
      simp only [pFitted, show ¬((11 : Int) = 8 ∨ (11 : Int) = 9) by decide, show ¬((11 : Int) = 10) by decide, if_false, if_true, hgd, Bool.or_false, hN]
    rw [hp]
    show RepF _ _ _ _ (if null = true then _ else .list false (((pThings t0.l).map (pFitOne (fun y => pFits v sub y 0) e sub)).map fun y => [fillV fk y])) ∧ okF (if null = true then _ else .list false (((pThings t0.l).map (pFitOne (fun y => pFits v sub y 0) e sub)).map fun y => [fillV fk y])) _
    cases null with
    | true => exact ⟨⟨rfl, fun _ => hN.symm, by simp [hN], fun j y r hy => by simp [hN] at hy⟩, Nat.zero_le _, by simp [okRows]⟩
    | false =>
      rw [if_neg (by decide)]
      have hone : ∀ y : PT, pFitOne (fun y => pFits v sub y 0) e sub y = if e = 8 ∨ e = 9 then .mk 0 (pWhole y.s) false [] [] else .mk y.n y.s false [] [] := fun y => by
        unfold pFitOne
        rw [if_neg he]
      refine ⟨⟨rfl, fun _ => hN.symm, by simp [hN], fun j y r hy hr => ?_⟩, ?_, ?_⟩
      · rw [if_neg (by rw [hN]; decide)] at hy
        rw [List.map_map, List.getElem?_map, hy] at hr
        obtain rfl := Option.some.inj hr
        refine ⟨fun h => absurd h he, fun _ => ⟨_, rfl, fillV_rep hfk (fun _ => rfl) (fun h8 h9 => ?_) fun h => ?_⟩⟩
        · rw [hone, if_neg (by omega)]; exact ⟨rfl, rfl⟩
        · rw [hone, if_pos h]; exact ⟨rfl, rfl⟩
      · rw [List.length_map, List.length_map]; exact pThings_le _
      · refine okRows_map fun x hx => ?_
        obtain ⟨y, _, rfl⟩ := List.mem_map.1 hx
        refine ⟨?_, by simp [okFs]⟩
        rw [hone]
        by_cases h8 : e = 8 ∨ e = 9
        · rw [if_pos h8]
          exact fillV_ok (pWhole_le _)
        · rw [if_neg h8]
          cases fk with
          | num k => exact ⟨_, rfl, wrap_wrap k _⟩
          | bool => exact ⟨_, rfl⟩
          | uuid => exact ⟨rfl, pId_length _⟩
          | text => simp only [fkFor, Bool.and_eq_true, decide_eq_true_eq] at hfk; omega
          | ntext => simp only [fkFor, decide_eq_true_eq] at hfk; omega
          | octs => simp only [fkFor, decide_eq_true_eq] at hfk; omega
  | .mk k fr to nul g d e sub, .sub i' q' off T f zs ss, ty, z, i, q, t0, t, h, hx => by
    cases ty <;> try (simp [mkOne] at h; done)
    rename_i us
    simp only [mkOne, Bool.and_eq_true, decide_eq_true_eq] at h
    obtain ⟨⟨⟨⟨_, hq⟩, rfl⟩, hn⟩, hsub⟩ := h
    obtain rfl := Nat.eq_of_beq_eq_true hq
    simp only [fillVal, hx]
    simp only [pFitted, show ¬((10 : Int) = 8 ∨ (10 : Int) = 9) by decide, if_false, if_true]
    have := mkAll_ok v fl sub ss us zs 0 0 [] t0 (.mk 0 [] (pNull (.mk 10 fr to nul g d e sub) v t0) (pFits v sub t0 0) (wholeTags (pUnknown sub t0.u))) hsub rfl (fun j hj => by
      rw [Nat.zero_add]
      exact pAt_fit hj) (small_tags _ _)
    simp only [List.nil_append, Nat.zero_add, PT.u] at this
    exact ⟨⟨rfl, hn, this.1, fun _ => this.2.1⟩, this.2.2⟩
  | .mk k fr to nul g d e sub, .tags i' off f, ty, z, i, q, t0, t, h, hx => by simp [mkOne] at h
theorem mkAll_ok (v : Int) (fl : Bool) : ∀ (fs : List PF) (ss : List FStep) (tys : List Ty) (zs : List FV) (p q : Nat) (pre : List FV) (t0 t : PT), mkAll fs ss tys zs p q = true → pre.length = p → (∀ (j : Nat) (hj : j < fs.length), pAt t (q + j) = pFitted v fs[j] (pAt t0 (q + j))) → (t.u.length ≤ big ∧ ∀ p ∈ t.u, p.2.length ≤ big) →
    RepFs v fl fs t0 (pre ++ fillVals ss t zs) q p ∧ (pre ++ fillVals ss t zs)[p + fs.length]? = some (.tags t.u) ∧ okFs (fillVals ss t zs) tys
  | [], ss, tys, zs, p, q, pre, t0, t, h, hp, _, hu => by
    match ss, tys, zs, h with
    | [.tags i off f], [.tags], [z], h =>
      simp only [fillVals, fillVal]
      refine ⟨trivial, ?_, ⟨rfl, hu⟩, rfl⟩
      rw [List.length_nil, Nat.add_zero, ← hp, List.getElem?_append_right (Nat.le_refl _), Nat.sub_self]
      rfl
  | f :: fs, ss, tys, zs, p, q, pre, t0, t, h, hp, hx, hu => by
    match ss, tys, zs, h with
    | st :: ss, ty :: tys, z :: zs, h =>
      simp only [mkAll, Bool.and_eq_true] at h
      have h1 := mkOne_ok v fl f st ty z p q (pAt t0 q) t h.1 (by have := hx 0 (by simp); simpa using this)
      have h2 := mkAll_ok v fl fs ss tys zs (p + 1) (q + 1) (pre ++ [fillVal st t z]) t0 t h.2 (by simp [hp]) (fun j hj => by
        have := hx (j + 1) (by simpa using hj)
        rw [show q + (j + 1) = q + 1 + j by omega] at this
        simpa using this) hu
      simp only [fillVals]
      rw [List.append_assoc, List.singleton_append] at h2
      refine ⟨⟨fun _ => ⟨_, ?_, h1.1⟩, h2.1⟩, ?_, h1.2, h2.2.2⟩
      · rw [← hp, List.getElem?_append_right (Nat.le_refl _), Nat.sub_self]; rfl
      · rw [List.length_cons, show p + (fs.length + 1) = p + 1 + fs.length by omega]; exact h2.2.1
end

/-- What is written of what has been filled. -/
theorem mk_message {v x : Int} {fs : List PF} {ss : List FStep} {ws : List WStep} {tys : List Ty} {zs : List FV} (hpl : PF.plains fs = true) (hk : mkAll fs ss tys zs 1 0 = true) (hv : IntKind.i16.wrap v = v) (hw : wrPlain v (pFlex x v) fs ws (.num .i16 :: tys) 1 = true) (t : PT) :
    encSteps ws (.one (.int .i16 v) :: fillVals ss (pFit v fs t) zs) = pWrite fs x v t ∧ okFs (.one (.int .i16 v) :: fillVals ss (pFit v fs t) zs) (.num .i16 :: tys) := by
  have := mkAll_ok v (pFlex x v) fs ss tys zs 1 0 [.one (.int .i16 v)] t (pFit v fs t) hk rfl (fun j hj => by
    rw [Nat.zero_add]
    exact pAt_fit hj) (small_tags _ _)
  rw [List.singleton_append] at this
  have hok : okFs (.one (.int .i16 v) :: fillVals ss (pFit v fs t) zs) (.num .i16 :: tys) := ⟨⟨v, rfl, hv⟩, this.2.2⟩
  exact ⟨wr_message (p := 1) hpl hw t ⟨this.1, fun _ => this.2.1⟩ hok, hok⟩

end Go.Kf

namespace Go.Kf

open Go

def tFit (c : Nums) (s : SN) (fFitted : Nat) : Tr :=
  .op (.box c.sTree (.tmp 2)) none [] <|
  .op (.alloc c.sTree) none [] <|
  .op (.build c.sTree ⟨[]⟩) none [] <|
  .op (.alloc c.sTree) none [] <|
  .op (.store c.sTree (.tmp 6) (.tmp 5)) none [] <|
  .op (.call { callee := (.builtin .len), args := ⟨[(.tmp 0)]⟩, argTypes := ⟨[s.fields]⟩ }) none [] <|
  .loop 0 [(.const (.int .i64 0))] <|
  .op (.binOp .lss c.tInt (.tmp 9) (.tmp 8) c.tInt) none [] <|
  .cond (.tmp 10) (
    .op (.indexAddr s.fields (.tmp 0) (.tmp 9)) none [] <|
    .op (.load s.field (.tmp 11)) none [] <|
    .op (.alloc s.field) none [] <|
    .op (.store s.field (.tmp 13) (.tmp 12)) none [] <|
    .draw <|
    .pur (.fieldAddr c.sTree (.tmp 6) 3) none <|
    .lok (.load c.sTrees (.tmp 15)) none <|
    .lok (.load s.field (.tmp 13)) none <|
    .lok (.load c.sTree (.tmp 3)) none <|
    .op (callOp s.at_ [(.tmp 18), (.tmp 9)]) none [((.load s.field (.tmp 13)), 17), ((.load c.sTrees (.tmp 15)), 16)] <|
    .op (callOp fFitted [(.tmp 17), (.tmp 1), (.tmp 19)]) none [((.load c.sTrees (.tmp 15)), 16)] <|
    .op (.buildSlice c.sTrees 1 ⟨[(0, (.tmp 20))]⟩) none [((.load c.sTrees (.tmp 15)), 16)] <|
    .op (.call { callee := (.builtin .append), args := ⟨[(.tmp 16), (.tmp 21)]⟩, argTypes := ⟨[c.sTrees, c.sTrees]⟩ }) none [] <|
    .pur (.fieldAddr c.sTree (.tmp 6) 3) none <|
    .op (.store c.sTrees (.tmp 23) (.tmp 22)) none [] <|
    .op (.binOp .add c.tInt (.tmp 9) (.const (.int .i64 1)) c.tInt) none [] <|
    .to 0 [(.tmp 25)]
  ) (
    .op (.fieldAddr c.sTree (.tmp 3) 4) none [] <|
    .op (.load c.sTagL (.tmp 11)) none [] <|
    .op (callOp s.unknown [(.tmp 0), (.tmp 12)]) none [] <|
    .op (.call { callee := (.builtin .len), args := ⟨[(.tmp 13)]⟩, argTypes := ⟨[c.sTagL]⟩ }) none [] <|
    .loop 1 [(.const (.int .i64 0))] <|
    .op (.binOp .lss c.tInt (.tmp 15) (.tmp 14) c.tInt) none [] <|
    .cond (.tmp 16) (
      .op (.indexAddr c.sTagL (.tmp 13) (.tmp 15)) none [] <|
      .op (.load c.sTag (.tmp 17)) none [] <|
      .op (.alloc c.sTag) none [] <|
      .op (.store c.sTag (.tmp 19) (.tmp 18)) none [] <|
      .draw <|
      .pur (.fieldAddr c.sTree (.tmp 6) 4) none <|
      .lok (.load c.sTagL (.tmp 21)) none <|
      .pur (.fieldAddr c.sTag (.tmp 19) 0) none <|
      .lok (.load c.tU32 (.tmp 23)) none <|
      .pur (.fieldAddr c.sTag (.tmp 19) 1) none <|
      .lok (.load c.tBytes (.tmp 25)) none <|
      .op (callOp s.whole [(.tmp 26)]) none [((.load c.tU32 (.tmp 23)), 24), ((.load c.sTagL (.tmp 21)), 22)] <|
      .pur (.build c.sTag ⟨[(0, (.tmp 24)), (1, (.tmp 27))]⟩) none <|
      .op (.buildSlice c.sTagL 1 ⟨[(0, (.tmp 28))]⟩) none [((.load c.tU32 (.tmp 23)), 24), ((.load c.sTagL (.tmp 21)), 22)] <|
      .op (.call { callee := (.builtin .append), args := ⟨[(.tmp 22), (.tmp 29)]⟩, argTypes := ⟨[c.sTagL, c.sTagL]⟩ }) none [((.load c.tU32 (.tmp 23)), 24)] <|
      .pur (.fieldAddr c.sTree (.tmp 6) 4) none <|
      .op (.store c.sTagL (.tmp 31) (.tmp 30)) none [] <|
      .op (.binOp .add c.tInt (.tmp 15) (.const (.int .i64 1)) c.tInt) none [] <|
      .to 1 [(.tmp 33)]
    ) (
      .op (.load c.sTree (.tmp 6)) none [] <|
      .op (.store c.sTree (.tmp 4) (.tmp 17)) none [] <|
      .ret [((.tmp 4), (some c.sTree))]
    )
  )

/-- A list, as it is handed on; b: is it null? -/
def gFitList (c : Nums) (s : SN) (fFitted : Nat) (b : Operand) (n : Nat) : Tr :=
  .op (.build c.sTree ⟨[(2, b)]⟩) none [] <| .op (.alloc c.sTree) none [] <| .op (.store c.sTree (.tmp (n + 1)) (.tmp n)) none [] <|
  .op (.load s.field (.tmp 3)) none [] <| .op (.alloc s.field) none [] <| .op (.store s.field (.tmp (n + 4)) (.tmp (n + 3))) none [] <|
  .op (.fieldAddr s.field (.tmp 3) 6) none [] <| .op (.load c.tInt (.tmp (n + 6))) none [] <| .op (.fieldAddr s.field (.tmp (n + 4)) 0) none [] <| .op (.store c.tInt (.tmp (n + 8)) (.tmp (n + 7))) none [] <|
  .op (.fieldAddr s.field (.tmp (n + 4)) 3) none [] <| .op (.store c.tInt (.tmp (n + 10)) (.const (.int .i64 (-1)))) none [] <| .op (.fieldAddr s.field (.tmp (n + 4)) 4) none [] <| .op (.store c.tInt (.tmp (n + 12)) (.const (.int .i64 (-1)))) none [] <|
  .op (.fieldAddr c.sTree (.tmp 4) 3) none [] <| .op (.load c.sTrees (.tmp (n + 14))) none [] <| .op (callOp s.things [.tmp (n + 15)]) none [] <| .op (.call { callee := .builtin .len, args := ⟨[.tmp (n + 16)]⟩, argTypes := ⟨[c.sTrees]⟩ }) none [] <|
  .loop 0 [.const (.int .i64 0)] <| .op (.binOp .lss c.tInt (.tmp (n + 18)) (.tmp (n + 17)) c.tInt) none [] <|
  .cond (.tmp (n + 19)) (
    .op (.indexAddr c.sTrees (.tmp (n + 16)) (.tmp (n + 18))) none [] <| .op (.load c.sTree (.tmp (n + 20))) none [] <| .op (.alloc c.sTree) none [] <| .op (.store c.sTree (.tmp (n + 22)) (.tmp (n + 21))) none [] <|
    .draw <| .pur (.fieldAddr c.sTree (.tmp (n + 1)) 3) none <| .lok (.load c.sTrees (.tmp (n + 24))) none <| .lok (.load s.field (.tmp (n + 4))) none <| .lok (.load c.sTree (.tmp (n + 22))) none <|
    .op (callOp fFitted [.tmp (n + 26), .tmp 1, .tmp (n + 27)]) none [(.load c.sTrees (.tmp (n + 24)), n + 25)] <| .op (.buildSlice c.sTrees 1 ⟨[(0, .tmp (n + 28))]⟩) none [(.load c.sTrees (.tmp (n + 24)), n + 25)] <|
    .op (.call { callee := .builtin .append, args := ⟨[.tmp (n + 25), .tmp (n + 29)]⟩, argTypes := ⟨[c.sTrees, c.sTrees]⟩ }) none [] <| .pur (.fieldAddr c.sTree (.tmp (n + 1)) 3) none <| .op (.store c.sTrees (.tmp (n + 31)) (.tmp (n + 30))) none [] <|
    .op (.binOp .add c.tInt (.tmp (n + 18)) (.const (.int .i64 1)) c.tInt) none [] <| .to 0 [.tmp (n + 33)]
  ) (.op (.load c.sTree (.tmp (n + 1))) none [] <| .op (.store c.sTree (.tmp 5) (.tmp (n + 20))) none [] <| .ret [(.tmp 5, some c.sTree)])

def tFitted (c : Nums) (s : SN) (fFit fFitted : Nat) : Tr :=
  .op (.box s.field (.tmp 0)) none [] <|
  .op (.box c.sTree (.tmp 2)) none [] <|
  .op (.alloc c.sTree) none [] <|
  .op (.load s.field (.tmp 3)) none [] <|
  .op (.load c.sTree (.tmp 4)) none [] <|
  .op (callOp s.null [(.tmp 6), (.tmp 1), (.tmp 7)]) none [] <|
  .op (.fieldAddr s.field (.tmp 3) 0) none [] <|
  .op (.load c.tInt (.tmp 9)) none [] <|
  .op (.binOp .eql c.tInt (.tmp 10) (.const (.int .i64 8)) c.tInt) none [] <|
  .join 0 (
    .cond (.tmp 11) (
      .to 0 [(.tmp 11)]
    ) (
      .op (.binOp .eql c.tInt (.tmp 10) (.const (.int .i64 9)) c.tInt) none [] <|
      .to 0 [(.tmp 12)]
    )
  ) 1 <|
  .cond (.tmp 12) (
    .op (.fieldAddr c.sTree (.tmp 4) 1) none [] <|
    .op (.load c.tBytes (.tmp 13)) none [] <|
    .op (callOp s.whole [(.tmp 14)]) none [] <|
    .op (.build c.sTree ⟨[(1, (.tmp 15)), (2, (.tmp 8))]⟩) none [] <|
    .op (.store c.sTree (.tmp 5) (.tmp 16)) none [] <|
    .ret [((.tmp 5), (some c.sTree))]
  ) (
    .op (.binOp .eql c.tInt (.tmp 10) (.const (.int .i64 10)) c.tInt) none [] <|
    .cond (.tmp 13) (
      .op (.fieldAddr s.field (.tmp 3) 7) none [] <|
      .op (.load s.fields (.tmp 14)) none [] <|
      .op (.load c.sTree (.tmp 4)) none [] <|
      .op (callOp fFit [(.tmp 15), (.tmp 1), (.tmp 16)]) none [] <|
      .op (.alloc c.sTree) none [] <|
      .op (.store c.sTree (.tmp 18) (.tmp 17)) none [] <|
      .op (.fieldAddr c.sTree (.tmp 18) 2) none [] <|
      .op (.store c.tBool (.tmp 20) (.tmp 8)) none [] <|
      .op (.load c.sTree (.tmp 18)) none [] <|
      .op (.store c.sTree (.tmp 5) (.tmp 22)) none [] <|
      .ret [((.tmp 5), (some c.sTree))]
    ) (
      .op (.binOp .eql c.tInt (.tmp 10) (.const (.int .i64 11)) c.tInt) none [] <|
      .cond (.tmp 14) (
        .cond (.tmp 8) (gFitList c s fFitted (.const (.bool true)) 15) (
          .op (.fieldAddr s.field (.tmp 3) 4) none [] <|
          .op (.load c.tInt (.tmp 15)) none [] <|
          .op (.binOp .geq c.tInt (.tmp 16) (.const (.int .i64 0)) c.tInt) none [] <|
          .cond (.tmp 17) (
            .op (.fieldAddr c.sTree (.tmp 4) 3) none [] <|
            .op (.load c.sTrees (.tmp 18)) none [] <|
            .op (.call { callee := (.builtin .len), args := ⟨[(.tmp 19)]⟩, argTypes := ⟨[c.sTrees]⟩ }) none [] <|
            .op (.binOp .eql c.tInt (.tmp 20) (.const (.int .i64 0)) c.tInt) none [] <|
            gFitList c s fFitted (.tmp 21) 22
          ) (gFitList c s fFitted (.const (.bool false)) 18)
        )
      ) (
        .op (.fieldAddr c.sTree (.tmp 4) 0) none [] <|
        .op (.load c.tI64 (.tmp 15)) none [] <|
        .op (.fieldAddr c.sTree (.tmp 4) 1) none [] <|
        .op (.load c.tBytes (.tmp 17)) none [] <|
        .op (.build c.sTree ⟨[(0, (.tmp 16)), (1, (.tmp 18))]⟩) none [] <|
        .op (.store c.sTree (.tmp 5) (.tmp 19)) none [] <|
        .ret [((.tmp 5), (some c.sTree))]
      )
    )
  )

def tTextOf (c : Nums) : Tr :=
  .op (.box c.tTree (.tmp 0)) none [] <|
  .op (.fieldAddr c.tTree (.tmp 1) 2) none [] <|
  .op (.load c.tBool (.tmp 2)) none [] <|
  .cond (.tmp 3) (
    .ret [(.const (.pointer none), none)]
  ) (
    .op (.fieldAddr c.tTree (.tmp 1) 1) none [] <|
    .op (.load c.tBytes (.tmp 4)) none [] <|
    .op (.convert c.tBytes c.tStr (.tmp 5)) none [] <|
    .op (.alloc c.tStr) none [] <|
    .op (.store c.tStr (.tmp 7) (.tmp 6)) none [] <|
    .ret [((.tmp 7), none)]
  )

end Go.Kf

namespace Go.Kf

open Go

/-- Blocks that were there at first, or are new. -/
def FitA (w0 w : World) : Nat → Prop := fun b => b < w0.heap.size ∨ w.heap.size ≤ b

def FittedOf (P : Program) (f : Nat) (v : Int) (x : PF) : Prop := ∀ (w0 w : World) (t : PT) (fcs tcs : List Value), FieldC w x fcs → TreeC w0 t tcs → t.ok → Keeps [] w0 w → Gives P f [.agg ⟨fcs⟩, .int .i64 v, .agg ⟨tcs⟩] w fun u w' => (∃ cs, u = .agg ⟨cs⟩ ∧ TreeAt w' (FitA w0 w) (pFitted v x t) cs) ∧ Keeps [] w w'

def FitOf (P : Program) (f : Nat) (v : Int) (fs : List PF) : Prop := ∀ (w0 w : World) (t : PT) (fv : Value) (tcs : List Value), FieldsV w fs fv → TreeC w0 t tcs → t.ok → Keeps [] w0 w → Gives P f [fv, .int .i64 v, .agg ⟨tcs⟩] w fun u w' => (∃ cs, u = .agg ⟨cs⟩ ∧ TreeAt w' (FitA w0 w) (pFit v fs t) cs) ∧ Keeps [] w w'

section

variable {P : Program} {c : Nums} {s : SN} {R : Value → World → Prop} {Γ : List (List Value → World → Prop)} {n : Nat} {ρ : Nat → Value} {w : World} {k : Tr}

/-- A tree's row gets one more; what is known of the row before and after. -/
theorem trees_more {w5 w10 w11 w12 : World} {A : Nat → Prop} {lv lv' : Value} {L b0 : Nat} {l : List PT} {t : PT} {xs cs : List Value} (hlt5 : ∀ b ∈ blkOf lv, b < w5.heap.size) (hblk : ∀ b ∈ blkOf lv, b0 < b) (hb11 : ∀ b ∈ blkOf lv', b ∈ blkOf lv ∨ w10.heap.size ≤ b) (hA : ∀ b, A b → b < L) (hL : L ≤ b0) (hb0 : b0 < w5.heap.size)
    (k510 : Keeps [] w5 w10) (k11 : Keeps (blkOf lv) w10 w11) (k12 : Keeps [b0] w11 w12) (htr : TreesAt w5 (fun b => A b ∨ (b0 < b ∧ b ∉ blkOf lv)) l xs) (htc : TreeAt w10 (fun b => (A b ∨ w5.heap.size ≤ b) ∧ b < w10.heap.size) t cs) : TreesAt w12 (fun b => A b ∨ (b0 < b ∧ b ∉ blkOf lv')) (l ++ [t]) (xs ++ cs) := by
  have s510 := k510.size
  refine TreesAt.snoc ?_ ?_
  · have t11 := TreeAt.keep k11 (fun b hb h => by
      have := hblk b hb
      have := hlt5 b hb
      rcases h.1 with h' | h'
      · have := hA b h'; omega
      · omega) (fun _ h _ => h) _ _ htc
    exact TreeAt.keep k12 (fun b hb h => by
      simp only [List.mem_singleton] at hb
      rcases h.1 with h' | h'
      · have := hA b h'; omega
      · omega) (fun b h _ => by
      rcases h.1 with h' | h'
      · exact .inl h'
      · refine .inr ⟨by omega, fun hb => ?_⟩
        rcases hb11 b hb with h5 | h5
        · have := hlt5 b h5; omega
        · have := h.2; omega) _ _ t11
  · have t10 := TreesAt.keep (A' := fun b => (A b ∨ (b0 < b ∧ b ∉ blkOf lv)) ∧ b < w5.heap.size) k510 (fun b hb => by cases hb) (fun b h hlt => ⟨h, hlt⟩) _ _ htr
    have t11 := TreesAt.keep k11 (fun b hb h => by
      have := hblk b hb
      rcases h.1 with h' | h'
      · have := hA b h'; omega
      · exact h'.2 hb) (fun _ h _ => h) _ _ t10
    exact TreesAt.keep k12 (fun b hb h => by
      simp only [List.mem_singleton] at hb
      rcases h.1 with h' | h'
      · have := hA b h'; omega
      · have := h'.1; omega) (fun b h _ => by
      rcases h.1 with h' | h'
      · exact .inl h'
      · refine .inr ⟨h'.1, fun hb => ?_⟩
        rcases hb11 b hb with h5 | h5
        · exact h'.2 h5
        · have := h.2; omega) _ _ t11

theorem fit_step {f fOne : Nat} {v : Int} (S : SpFacts P c s) (hAt : treeIn P s.at_ noOrc [.tmp 0, .tmp 1] 2 = tAt c) (hWh : treeIn P s.whole noOrc [.tmp 0] 1 = tWhole c) (hT : treeIn P f noOrc [.tmp 0, .tmp 1, .tmp 2] 3 = tFit c s fOne) {fs : List PF} (hlen : fs.length < 65536) (hU : UnknownOf P s fs) (ih : ∀ x ∈ fs, FittedOf P fOne v x) : FitOf P f v fs := by
  intro w0 w t fv tcs hfv ht hok k0
  have htl := ht.len
  have s0 := k0.size
  have hfv0 := hfv
  obtain ⟨fcs, hr, hfc⟩ := hfv
  obtain ⟨a, cp, e⟩ := hr.form
  have htc := ht
  obtain ⟨sv, lv0, uv, lcs0, ucs, etc, h1, h2, h3, h4, h5⟩ := ht.cells
  refine gives_in (ρ := en [fv, .int .i64 v, .agg ⟨tcs⟩]) S.rd.mix hT (Nat.le_refl _) rfl (by simp [opBelow]) ?_
  refine s_box rfl fun w1 hx1 k1 z1 => ?_
  refine s_alloc S.got.zero fun w2 hr2 k2 z2 => ?_
  refine s_val (v_build (cells := zeroTree) S.got.plan (fun p hp => by cases hp) rfl) ?_
  refine s_alloc S.got.zero fun w3 hr3 k3 z3 => ?_
  refine s_storeAll (b := w2.heap.size) (old := zeroTree) (cs := zeroTree) S.ty.agg rfl rfl hr3 rfl (zeroTree_at w (fun _ => True)).ones fun w4 hr4 k4 => ?_
  have k34 : Keeps [] w2 w4 := ((k3.mono (by simp)).trans k4).less fun x hx => .inr (by simp only [List.mem_singleton] at hx; omega)
  have k14 : Keeps [] w w4 := (k1.trans k2).trans k34
  have hx4 : Has w4 w.heap.size tcs := (hx1.keep k2 (by simp)).keep k34 (by simp)
  have hr24 := hr2.keep k34 (by simp)
  have s4 := k4.size
  have hs2 := k2.size
  have hs1 := k1.size
  refine s_val (v_len (a := a) (l := fs.length) (c := cp) S.sl e) ?_
  refine s_count (n := 9) (q := 8) (kk := .i64) (m := fs.length) (ri := []) (Γ := []) (fun j w' => Keeps [] w w' ∧ w4.heap.size ≤ w'.heap.size ∧ Has w' w.heap.size tcs ∧ Has w' w1.heap.size zeroTree ∧
    ∃ lv xs, Has w' w2.heap.size [.int .i64 0, .slice none 0 0, .bool false, lv, .slice none 0 0] ∧ Own w' lv 5 j xs ∧ (∀ b ∈ blkOf lv, w2.heap.size < b) ∧ TreesAt w' (fun b => b < w0.heap.size ∨ (w2.heap.size < b ∧ b ∉ blkOf lv)) ((pFits v fs t 0).take j) xs) (by omega) rfl
    ⟨k14, Nat.le_refl _, hx4, hr24, _, [], hr4, Own.nil w4 5, (fun b hb => by cases hb), rfl⟩ ?_ ?_
  · rintro j hj w5 vr ⟨k5, hsz5, hx5, hr5, lv, xs, ho5, hown, hblk, htr⟩ hvr J hJ
    obtain rfl : vr = [] := List.eq_nil_of_length_eq_zero hvr
    have hj' : j < fs.length := by omega
    refine s_eachF (fv := fv) (fs := fs) (j := j) S (hfv0.keep k5) rfl rfl hj' fun w6 a6 bf cs6 hh6 hf6 k6 hb6 => ?_
    show Tr.sem _ _ _ _ _ _ { w6 with drawn := w6.drawn + 1 }
    have hd : Keeps [] w6 { w6 with drawn := w6.drawn + 1 } := keeps_drawn w6 _ _
    generalize ({ w6 with drawn := w6.drawn + 1 } : World) = w7 at hd ⊢
    have k57 := k6.trans hd
    have ho7 := ho5.keep k57 (by simp)
    have hf7 := FieldC.keep hd _ _ hf6
    have hfl := hf7.len
    refine p_fl S.ty.f3 S.ty.oneTrees rfl rfl ho7 rfl ?_
    refine l_lok (l_loadN (b := bf) (o := 0) S.agg rfl (hh6.keep hd (by simp)) (by omega)) ?_
    rw [show (cs6.drop 0).take 8 = cs6 by rw [List.drop_zero, List.take_of_length_le (by omega)]]
    refine l_lok (l_loadN (b := w.heap.size) (o := 0) S.ty.agg rfl (hx5.keep k57 (by simp)) (by omega)) ?_
    rw [show (tcs.drop 0).take 5 = tcs by rw [List.drop_zero, List.take_of_length_le (by omega)]]
    have k07 := (k0.trans k5).trans k57
    have ldL : ∀ (w' : World) (ρ : Nat → Value) (x : Operand), Keeps [] w7 w' → ev ρ x = ptr w2.heap.size 3 → runOp P ρ (.load c.sTrees x) w' = .ok (.value lv) w' := fun w' ρ x kk hx => l_load1 (b := w2.heap.size) (o := 3) S.ty.oneTrees hx (ho7.keep kk (by simp)) rfl
    refine s_call (xs := [.tmp 18, .tmp 9]) (at0_gives S hAt k07 htc j) fun u w8 ⟨k8, ac, hu, hac⟩ => ⟨?_, ?_⟩
    · intro p hp
      simp only [List.mem_cons, List.not_mem_nil, or_false] at hp
      rcases hp with rfl | rfl
      · have := l_loadN (P := P) (ρ := en []) (w := w8) (x := .const (ptr bf)) (b := bf) (o := 0) S.agg rfl ((hh6.keep hd (by simp)).keep k8 (by simp)) (by omega)
        rw [show (cs6.drop 0).take 8 = cs6 by rw [List.drop_zero, List.take_of_length_le (by omega)]] at this
        exact this
      · exact ldL w8 _ _ k8 rfl
    subst hu
    have hokj : (pAt t j).ok := hok.at j
    refine s_call (xs := [.tmp 17, .tmp 1, .tmp 19]) (ih fs[j] (List.getElem_mem hj') w0 w8 (pAt t j) cs6 ac (FieldC.keep k8 _ _ hf7) hac hokj (k07.trans k8)) fun u w9 ⟨⟨cs, hu, htr9⟩, k9⟩ => ⟨?_, ?_⟩
    · intro p hp
      simp only [List.mem_singleton] at hp
      subst hp
      exact ldL w9 _ _ (k8.trans k9) rfl
    subst hu
    have hcsl := htr9.len
    refine s_oneSlice S.got.row S.ty.sl (x := .tmp 20) (cs := cs) rfl hcsl fun w10 hsl k10 z10 => ⟨?_, ?_⟩
    · intro p hp
      simp only [List.mem_singleton] at hp
      subst hp
      exact ldL w10 _ _ ((k8.trans k9).trans k10) rfl
    have hlt5 := hown.lt
    have k510 : Keeps [] w5 w10 := ((k57.trans k8).trans k9).trans k10
    have hown10 : Own w10 lv 5 j xs := hown.keep k510 (by simp)
    have s57 := k57.size
    have s78 := k8.size
    have s89 := k9.size
    have s910 := k10.size
    refine s_appendOne (v := lv) (u := .slice (some ⟨w9.heap.size, 0, none⟩) 1 1) S.got.row S.ty.sl rfl rfl hown10 hsl htr9.ones (by omega) fun lv' w11 hown11 k11 hb11 => ⟨fun p hp => (by cases hp), ?_⟩
    have ho11 : Has w11 w2.heap.size [.int .i64 0, .slice none 0 0, .bool false, lv, .slice none 0 0] := (ho5.keep k510 (by simp)).keep k11 fun hb => by have := hblk _ hb; omega
    refine p_fs (v := lv') S.ty.f3 S.ty.oneTrees rfl rfl rfl (by simp [opBelow]) hown11.one ho11 (show 0 + 3 < 5 by omega) fun w12 ho12 k12 => ?_
    refine s_val (v_arith (kk := .i64) (a := j) (b := 1) (r := ((j + 1 : Nat) : Int)) rfl rfl ?_) ?_
    · simp only [arithOf, Option.some.injEq]; rw [IntKind.wrap_i64]; omega
    have k512 : Keeps [] w w12 := ((k5.mono (by simp)).trans ((k510.mono (by simp)).trans ((k11.mono fun x hx => List.mem_append_left _ hx).trans (k12.mono fun x hx => List.mem_append_right _ hx))) : Keeps (blkOf lv ++ [w2.heap.size]) w w12).less fun x hx => .inr (by
      rcases List.mem_append.1 hx with h | h
      · have := hblk _ h; omega
      · simp only [List.mem_singleton] at h; omega)
    have s11 := k11.size
    have s12 := k12.size
    have z42 := k34.size
    have old : ∀ {cs' : List Value} {b : Nat}, Has w5 b cs' → b < w2.heap.size → Has w12 b cs' := fun h hb => ((h.keep k510 (by simp)).keep k11 fun hq => by have := hblk _ hq; omega).keep k12 (by simp; omega)
    refine ⟨J, rfl, hJ [] _ rfl ⟨k512, by omega, old hx5 (by omega), old hr5 (by omega), lv', xs ++ cs, ho12, hown11.keep k12 (fun b hb => ?_), fun b hb => ?_, ?_⟩⟩
    · simp only [List.mem_singleton]
      rcases hb11 b hb with h | h
      · have := hblk _ h; omega
      · omega
    · rcases hb11 b hb with h | h
      · exact hblk _ h
      · omega
    · have hget := pFits_get v fs t 0 j hj'
      rw [Nat.zero_add] at hget
      have hj2 : j < (pFits v fs t 0).length := by rw [pFits_length]; exact hj'
      rw [List.take_succ_eq_append_getElem hj2, show (pFits v fs t 0)[j] = pFitted v fs[j] (pAt t j) from Option.some.inj ((List.getElem?_eq_getElem hj2).symm.trans hget)]
      refine trees_more (L := w0.heap.size) hlt5 hblk hb11 (fun b h => h) (by omega) (by omega) k510 k11 k12 htr ?_
      exact TreeAt.keep k10 (fun b hb => by cases hb) (fun b h hlt => ⟨h.imp id fun h' => by omega, by omega⟩) _ _ htr9
  · rintro w5 vr J ⟨k5, hsz5, hx5, hr5, lv, xs, ho5, hown, hblk, htr⟩ hvr
    obtain rfl : vr = [] := List.eq_nil_of_length_eq_zero hvr
    rw [Int.toNat_natCast] at hown
    rw [Int.toNat_natCast, List.take_of_length_le (by rw [pFits_length]; exact Nat.le_refl _)] at htr
    have hltv := hown.lt
    have s34 := k34.size
    have s05 := k5.size
    refine s_fl S.ty.f4 S.ty.oneTagL rfl rfl hx5 (show tcs[0 + 4]? = some uv by rw [etc]; rfl) ?_
    refine s_callx (hU w0 w5 fv uv t.u ucs (hfv0.keep k5) (h4.keep (k0.trans k5)) h5 hok.u) rfl fun tv w6 ⟨ts6, hown6, htg, hfr6, k6⟩ => ?_
    have hul : (pUnknown fs t.u).length ≤ 32767 := by
      have := pUnknownN_length (pKnown fs 0) (t.u.take 32767) []
      rw [List.length_take] at this
      simp only [List.length_nil, Nat.add_zero] at this
      unfold pUnknown
      omega
    generalize hUU : pUnknown fs t.u = U at hown6 htg hul
    obtain ⟨a6, c6, e6⟩ := own_form hown6
    have hlt6 := hown6.lt
    have s56 := k6.size
    refine s_val (v_len (a := a6) (l := U.length) (c := c6) S.ty.slTag e6) ?_
    refine s_count (n := 15) (q := 14) (kk := .i64) (m := U.length) (ri := []) (Γ := [J]) (fun j w' => Keeps [] w w' ∧ w6.heap.size ≤ w'.heap.size ∧ Has w' w1.heap.size zeroTree ∧ Own w' lv 5 fs.length xs ∧ Own w' tv 2 U.length ts6 ∧ TreesAt w' (fun b => (b < w0.heap.size ∨ w2.heap.size < b) ∧ b < w5.heap.size) (pFits v fs t 0) xs ∧
      ∃ uv2 us2, Has w' w2.heap.size [.int .i64 0, .slice none 0 0, .bool false, lv, uv2] ∧ Own w' uv2 2 j us2 ∧ (∀ b ∈ blkOf uv2, w6.heap.size ≤ b) ∧ TagRows w' (fun b => b < w0.heap.size) (wholeTags (U.take j)) us2) (by omega) rfl
      ⟨k5.trans k6, Nat.le_refl _, hr5.keep k6 (by simp), hown.keep k6 (by simp), hown6, TreesAt.keep k6 (fun b hb => by cases hb) (fun b h hlt => ⟨h.imp id fun h => h.1, hlt⟩) _ _ htr, _, [], ho5.keep k6 (by simp), Own.nil w6 2, (fun b hb => by cases hb), rfl⟩ ?_ ?_
    · rintro j hj w7 vr ⟨k7, hsz7, hr7, hown7, hown67, htr7, uv2, us2, ho7, hownu, hblku, hrows⟩ hvr J2 hJ2
      obtain rfl : vr = [] := List.eq_nil_of_length_eq_zero hvr
      have hj' : j < U.length := by omega
      refine s_eachT (w0 := w0) (tv := tv) (m := U) (j := j) S (Ro.of_reads hown67.reads) htg rfl rfl hj' fun w8 a8 tb vv hh8 hvv k8 hb8 => ?_
      show Tr.sem _ _ _ _ _ _ { w8 with drawn := w8.drawn + 1 }
      have hd : Keeps [] w8 { w8 with drawn := w8.drawn + 1 } := keeps_drawn w8 _ _
      generalize ({ w8 with drawn := w8.drawn + 1 } : World) = w9 at hd ⊢
      have k79 := k8.trans hd
      have ho9 := ho7.keep k79 (by simp)
      have hh9 := hh8.keep hd (by simp)
      refine p_fl S.ty.f4 S.ty.oneTagL rfl rfl ho9 rfl (p_fl S.ty.g0 S.ty.oneU32 rfl rfl hh9 rfl (p_fl S.ty.g1 S.rd.oneBytes rfl rfl hh9 rfl ?_))
      have ldU : ∀ (w' : World) (ρ : Nat → Value) (x : Operand), Keeps [] w9 w' → ev ρ x = ptr w2.heap.size 4 → runOp P ρ (.load c.sTagL x) w' = .ok (.value uv2) w' := fun w' ρ x kk hx => l_load1 (b := w2.heap.size) (o := 4) S.ty.oneTagL hx (ho9.keep kk (by simp)) rfl
      have ldK : ∀ (w' : World) (ρ : Nat → Value) (x : Operand), Has w' tb [.int .u32 (U[j]'hj').1, vv] → ev ρ x = ptr tb 0 → runOp P ρ (.load c.tU32 x) w' = .ok (.value (.int .u32 (U[j]'hj').1)) w' := fun w' ρ x hh hx => l_load1 (b := tb) (o := 0) S.ty.oneU32 hx hh rfl
      have k09 := (k0.trans k7).trans k79
      refine s_call (xs := [.tmp 26]) (whole_gives S hWh (hvv.keep k09)) fun u w10 ⟨hw, hro⟩ => ⟨?_, ?_⟩
      · intro p hp
        simp only [List.mem_cons, List.not_mem_nil, or_false] at hp
        subst hw
        rcases hp with rfl | rfl
        · exact ldK _ _ _ hh9 rfl
        · exact ldU _ _ _ .refl rfl
      subst hw
      have hru := hro w0 hvv
      obtain ⟨zt, hplan, hztl⟩ := S.got.planTag
      obtain ⟨z1, z2, rfl⟩ : ∃ a b, zt = [a, b] := by
        match zt, hztl with
        | [a, b], _ => exact ⟨a, b, rfl⟩
      refine p_val (v_build (cells := [.int .u32 (U[j]'hj').1, u]) hplan (fun p hp => by
        simp only [List.mem_cons, List.not_mem_nil, or_false] at hp
        rcases hp with rfl | rfl
        · rfl
        · exact hru.one) rfl) ?_
      refine s_oneSlice S.got.rowTag S.ty.slTag (x := .tmp 28) (cs := [.int .u32 (U[j]'hj').1, u]) rfl rfl fun w11 hsl k11 z11 => ⟨?_, ?_⟩
      · intro p hp
        simp only [List.mem_cons, List.not_mem_nil, or_false] at hp
        rcases hp with rfl | rfl
        · exact ldK _ _ _ (hh9.keep k11 (by simp)) rfl
        · exact ldU _ _ _ k11 rfl
      have k711 : Keeps [] w7 w11 := k79.trans k11
      have hownu11 := hownu.keep k711 (by simp)
      have hltu := hownu.lt
      have htbu : tb ∉ blkOf uv2 := fun h => by have := hltu tb h; omega
      refine s_appendOne (v := uv2) (u := .slice (some ⟨w10.heap.size, 0, none⟩) 1 1) S.got.rowTag S.ty.slTag rfl rfl hownu11 hsl (fun q hq => by
        simp only [List.mem_cons, List.not_mem_nil, or_false] at hq
        rcases hq with rfl | rfl
        · rfl
        · exact hru.one) (by omega) fun uv3 w12 hown12 k12 hb12 => ⟨?_, ?_⟩
      · intro p hp
        simp only [List.mem_singleton] at hp
        subst hp
        exact ldK _ _ _ ((hh9.keep k11 (by simp)).keep k12 htbu) rfl
      have ho12 : Has w12 w2.heap.size [.int .i64 0, .slice none 0 0, .bool false, lv, uv2] := (ho7.keep k711 (by simp)).keep k12 fun hb => by have := hblku _ hb; omega
      refine p_fs (v := uv3) S.ty.f4 S.ty.oneTagL rfl rfl rfl (by simp [opBelow]) hown12.one ho12 (show 0 + 4 < 5 by omega) fun w13 ho13 k13 => ?_
      refine s_val (v_arith (kk := .i64) (a := j) (b := 1) (r := ((j + 1 : Nat) : Int)) rfl rfl ?_) ?_
      · simp only [arithOf, Option.some.injEq]; rw [IntKind.wrap_i64]; omega
      have s711 := k711.size
      have s12 := k12.size
      have s13 := k13.size
      have k713 : Keeps (blkOf uv2 ++ [w2.heap.size]) w7 w13 := (k711.mono (by simp)).trans ((k12.mono fun x hx => List.mem_append_left _ hx).trans (k13.mono fun x hx => List.mem_append_right _ hx))
      have k013 : Keeps [] w w13 := ((k7.mono (by simp)).trans k713).less fun x hx => .inr (by
        rcases List.mem_append.1 hx with h | h
        · have := hblku _ h; omega
        · simp only [List.mem_singleton] at h; omega)
      have far : ∀ b, b < w6.heap.size → b ≠ w2.heap.size → b ∉ blkOf uv2 ++ [w2.heap.size] := fun b h1 h2 hb => by
        rcases List.mem_append.1 hb with h | h
        · have := hblku _ h; omega
        · simp only [List.mem_singleton] at h; omega
      have hwt : wholeTags (U.take (j + 1)) = wholeTags (U.take j) ++ [((U[j]'hj').1, pWhole (U[j]'hj').2)] := by
        unfold wholeTags
        rw [List.take_succ_eq_append_getElem hj', List.map_append]
        rfl
      refine ⟨J2, rfl, hJ2 [] _ rfl ⟨k013, by omega, hr7.keep k713 (far _ (by omega) (by omega)), hown7.keep k713 (fun b hb => far b (by have := hltv b hb; omega) (by have := hblk b hb; omega)), hown67.keep k713 (fun b hb => far b (hlt6 b hb) (by have := hfr6 b hb; omega)), ?_, uv3, us2 ++ [.int .u32 (U[j]'hj').1, u], ho13, hown12.keep k13 fun b hb => ?_, fun b hb => ?_, ?_⟩⟩
      · exact TreesAt.keep k713 (fun b hb h => by
          rcases List.mem_append.1 hb with h' | h'
          · have := hblku _ h'; omega
          · simp only [List.mem_singleton] at h'; omega) (fun _ h _ => h) _ _ htr7
      · simp only [List.mem_singleton]
        rcases hb12 b hb with h | h
        · have := hblku b h; omega
        · omega
      · rcases hb12 b hb with h | h
        · exact hblku b h
        · omega
      · rw [hwt]
        refine TagRows.snoc (q := ((U[j]'hj').1, pWhole (U[j]'hj').2)) ⟨hru.keep (k0.trans k013), fun hn b hb => hru.blk hn b hb, by have := pWhole_le (U[j]'hj').2; simp only [big] at this; show (pWhole _).length < _; omega⟩ ?_
        exact TagRows.keep k713 (fun b hb h => by
          rcases List.mem_append.1 hb with h' | h'
          · have := hblku _ h'; omega
          · simp only [List.mem_singleton] at h'; omega) (fun _ h _ => h) _ _ hrows
    · rintro w7 vr J2 ⟨k7, hsz7, hr7, hown7, hown67, htr7, uv2, us2, ho7, hownu, hblku, hrows⟩ hvr
      obtain rfl : vr = [] := List.eq_nil_of_length_eq_zero hvr
      rw [Int.toNat_natCast] at hownu
      rw [Int.toNat_natCast, List.take_length] at hrows
      refine s_lok (l_loadN (b := w2.heap.size) (o := 0) S.ty.agg rfl ho7 (show 0 + 5 ≤ 5 by omega)) ?_
      have hones : ∀ q ∈ [Value.int .i64 0, .slice none 0 0, .bool false, lv, uv2], q.oneCell' = true := fun q hq => by
        simp only [List.mem_cons, List.not_mem_nil, or_false] at hq
        rcases hq with rfl | rfl | rfl | rfl | rfl
        · rfl
        · rfl
        · rfl
        · exact hown7.one
        · exact hownu.one
      refine s_storeAll (b := w1.heap.size) (cs := [.int .i64 0, .slice none 0 0, .bool false, lv, uv2]) S.ty.agg rfl rfl hr7 rfl hones fun w8 hn8 k8 => ?_
      have k08 : Keeps [] w w8 := ((k7.mono (by simp)).trans k8).less fun x hx => .inr (by simp only [List.mem_singleton] at hx; omega)
      have hwl : (wholeTags U).length = U.length := by unfold wholeTags; rw [List.length_map]
      refine s_retAgg (b := w1.heap.size) rfl hn8 S.ty.agg ⟨⟨_, rfl, ?_⟩, k08⟩
      unfold pFit
      rw [hUU]
      refine ⟨_, lv, uv2, xs, rfl, ⟨Ro.nil _ 1, (fun h => absurd rfl h), by decide⟩, ?_, ⟨?_, by rw [pFits_length]; omega⟩, ?_, us2, ?_, ⟨?_, by rw [hwl]; omega⟩, ?_⟩
      · rw [pFits_length]
        exact (hown7.keep k8 fun b hb => by simp only [List.mem_singleton]; have := hblk b hb; omega).reads
      · intro b hb
        have := hblk b hb
        exact .inr (by omega)
      · exact TreesAt.keep k8 (fun b hb h => by
          simp only [List.mem_singleton] at hb
          rcases h.1 with h' | h'
          · omega
          · omega) (fun b h _ => by
          rcases h.1 with h' | h'
          · exact .inl h'
          · exact .inr (by omega)) _ _ htr7
      · rw [hwl]
        exact (hownu.keep k8 fun b hb => by simp only [List.mem_singleton]; have := hblku b hb; omega).reads
      · intro b hb
        have := hblku b hb
        exact .inr (by omega)
      · exact TagRows.keep k8 (fun b hb h => by simp only [List.mem_singleton] at hb; omega) (fun _ h _ => .inl h) _ _ hrows

end

end Go.Kf

namespace Go.Kf

open Go

section

variable {P : Program} {c : Nums} {s : SN} {R : Value → World → Prop} {n : Nat} {ρ : Nat → Value} {w : World}

theorem s_callF {Γ : List (List Value → World → Prop)} {k : Tr} {f : Nat} {xs : List Operand} {args : List Value} {Post : Value → World → Prop} {Fo : List (Op × Nat)} (h : Gives P f args w Post) (hx : xs.map (ev ρ) = args)
    (hk : ∀ v w', Post v w' → (∀ p ∈ Fo, runOp P ρ p.1 w' = .ok (.value (ρ p.2)) w') ∧ k.sem P R Γ (n + 1) (ext ρ n [v]) w') : (Tr.op (callOp f xs) none Fo k).sem P R Γ n ρ w := by
  subst hx
  exact s_call h hk

theorem fitList_sem {fb tb ob fOne : Nat} {b : Operand} {nl : Bool} {f : PF} {t : PT} {fcs tcs : List Value} {w0 wS : World} {v : Int} (S : SpFacts P c s) (hTh : treeIn P s.things noOrc [.tmp 0] 1 = tThings c) (hn : n = 15 ∨ n = 18 ∨ n = 22) (hOne : FittedOf P fOne v f.one)
    (q1 : ρ 1 = .int .i64 v) (q3 : ρ 3 = ptr fb) (q4 : ρ 4 = ptr tb) (q5 : ρ 5 = ptr ob) (hb : ev ρ b = .bool nl) (hf : Has w fb fcs) (ht : Has w tb tcs) (ho : Has w ob zeroTree) (hfc0 : FieldC w f fcs) (htc : TreeC w0 t tcs) (hok : t.ok) (k0 : Keeps [] w0 wS) (kS : Keeps [] wS w) (hob : wS.heap.size ≤ ob)
    (hR : ∀ w' cs, TreeAt w' (FitA w0 wS) (.mk 0 [] nl ((pThings t.l).map (pFitted v f.one)) []) cs → Keeps [] wS w' → R (.agg ⟨cs⟩) w') : (gFitList c s fOne b n).sem P R [] n ρ w := by
  have htl := htc.len
  have s0 := k0.size
  have sS := kS.size
  have hobl := ho.lt
  obtain ⟨fv, rfl, hsub⟩ := hfc0.cells
  obtain ⟨sv, lv0, uv, lcs, ucs, etc, h1, h2, h3, h4, h5⟩ := htc.cells
  have k0w := k0.trans kS
  rcases hn with rfl | rfl | rfl
  all_goals
    refine s_val (v_build (cells := [.int .i64 0, .slice none 0 0, .bool nl, .slice none 0 0, .slice none 0 0]) S.got.plan (fun p hp => by
      simp only [List.mem_singleton] at hp
      subst hp
      exact (congrArg Value.oneCell' hb).trans rfl) (by simp only [List.map_cons, List.map_nil, hb]; rfl)) ?_
    refine s_alloc S.got.zero fun w1 hz1 k1 z1 => ?_
    refine s_storeAll (b := w.heap.size) (old := zeroTree) (cs := [.int .i64 0, .slice none 0 0, .bool nl, .slice none 0 0, .slice none 0 0]) S.ty.agg rfl rfl hz1 rfl (fun q hq => by
      simp only [List.mem_cons, List.not_mem_nil, or_false] at hq
      rcases hq with rfl | rfl | rfl | rfl | rfl <;> rfl) fun w2 hz2 k2 => ?_
    have k02 : Keeps [] w w2 := ((k1.mono (by simp)).trans k2).less fun x hx => .inr (by simp only [List.mem_singleton] at hx; omega)
    have hf2 := hf.keep k02 (by simp)
    refine s_lok (l_loadN (b := fb) (o := 0) S.agg q3 hf2 (show 0 + 8 ≤ 8 by omega)) ?_
    obtain ⟨z, hz, hzc⟩ := S.zField
    refine s_alloc hz fun w3 hn3 k3 z3 => ?_
    have s02 := k02.size
    have s12 := k2.size
    have hfl := hf2.lt
    refine s_storeAll (b := w2.heap.size) (cs := [.int .i64 f.kind, .int .i64 f.fr, .int .i64 f.to, .int .i64 f.nul, .int .i64 f.tag, .int .i64 f.dflt, .int .i64 f.elem, fv]) S.agg rfl rfl hn3 (by simpa using hzc) hfc0.ones fun w4 hn4 k4 => ?_
    have hf4 := (hf2.keep k3 (by simp)).keep k4 (by simp only [List.mem_singleton]; omega)
    refine s_fl S.f6 S.oneInt q3 rfl hf4 rfl ?_
    refine s_fs (b := w2.heap.size) (o := 0) (v := .int .i64 f.elem) S.f0 S.oneInt rfl rfl rfl (by simp [opBelow]) rfl hn4 (show 0 + 0 < 8 by omega) fun w5 hn5 k5 => ?_
    refine s_fs (b := w2.heap.size) (o := 0) (v := .int .i64 (-1)) S.f3 S.oneInt rfl rfl rfl (by simp [opBelow]) rfl hn5 (show 0 + 3 < 8 by omega) fun w6 hn6 k6 => ?_
    refine s_fs (b := w2.heap.size) (o := 0) (v := .int .i64 (-1)) S.f4 S.oneInt rfl rfl rfl (by simp [opBelow]) rfl hn6 (show 0 + 4 < 8 by omega) fun w7 hn7 k7 => ?_
    have k27 : Keeps [] w2 w7 := ((k3.mono (by simp)).trans (((k4.trans k5).trans k6).trans k7)).less fun x hx => .inr (by simp only [List.mem_singleton] at hx; omega)
    have k07 := k02.trans k27
    have hz7 := hz2.keep k27 (by simp)
    have ht7 := ht.keep k07 (by simp)
    have hone0 : ∀ w', Keeps [] w w' → FieldC w' f.one [.int .i64 f.elem, .int .i64 f.fr, .int .i64 f.to, .int .i64 (-1), .int .i64 (-1), .int .i64 f.dflt, .int .i64 f.elem, fv] := fun w' kk => by
      obtain ⟨scs, hs1, hs2⟩ := hsub.keep kk
      exact ⟨fv, scs, rfl, hs1, hs2⟩
    refine s_fl S.ty.f3 S.ty.oneTrees q4 rfl ht7 (show tcs[0 + 3]? = some lv0 by rw [etc]; rfl) ?_
    refine s_callx (things0_gives S hTh (h2.keep (k0w.trans k07))) rfl fun u w8 ⟨hw, lcs', hr0, htr0⟩ => ?_
    subst hw
    have hr := hr0 w0 h2
    have htl0 := htr0 w0 h3
    have hl7 : (pThings t.l).length ≤ 32767 := by unfold pThings; rw [List.length_take]; omega
    have hlok : ∀ x ∈ pThings t.l, x.ok := fun x hx => hok.l x (List.mem_of_mem_take hx)
    generalize pThings t.l = l at hr htl0 hl7 hlok hR
    obtain ⟨a, cp, eu⟩ := hr.form
    refine s_val (v_len (a := a) (l := l.length) (c := cp) S.ty.sl eu) ?_
    have s27 := k27.size
    refine s_count (kk := .i64) (m := l.length) (ri := []) (Γ := []) (fun j w' => Keeps [] w w' ∧ w8.heap.size ≤ w'.heap.size ∧ Has w' w2.heap.size [.int .i64 f.elem, .int .i64 f.fr, .int .i64 f.to, .int .i64 (-1), .int .i64 (-1), .int .i64 f.dflt, .int .i64 f.elem, fv] ∧ ∃ lv xs, Has w' w.heap.size [.int .i64 0, .slice none 0 0, .bool nl, lv, .slice none 0 0] ∧ Own w' lv 5 j xs ∧ (∀ b ∈ blkOf lv, w8.heap.size ≤ b) ∧ TreesAt w' (fun b => b < w0.heap.size ∨ (w.heap.size < b ∧ b ∉ blkOf lv)) ((l.map (pFitted v f.one)).take j) xs) ?hq rfl
      ⟨k07, Nat.le_refl _, hn7, _, [], hz7, Own.nil w8 5, (fun b hb => by cases hb), rfl⟩ ?_ ?_
    case hq => exact Nat.lt_succ_self _
    · rintro j hj w9 vr ⟨k9, s89, hn9, lv, xs, ho9, hown, hblk, htr⟩ hvr J hJ
      obtain rfl : vr = [] := List.eq_nil_of_length_eq_zero hvr
      have hj' : j < l.length := by omega
      obtain ⟨b1, o1, cap1, e1, _, hel1, hcell1⟩ := (hr.keep (k0w.trans k9)).elem hj' (by omega)
      have htj := TreesC.get htl0 hj'
      refine s_val (v_indexAddr (b := b1) (o := o1) (l := l.length) (c := cap1) (j := j) (kk := .i64) S.ty.sl S.szT e1 rfl (by omega) (by omega)) ?_
      rw [Int.toNat_natCast]
      refine s_lok (l_cellN (b := b1) (o := o1 + j * 5) S.ty.agg rfl hel1 hcell1) ?_
      generalize (lcs'.drop (j * 5)).take 5 = cc at htj
      have hcl := htj.len
      refine s_alloc S.got.zero fun wa hna ka za => ?_
      refine s_storeAll (b := w9.heap.size) (old := zeroTree) (cs := cc) (by rw [hcl]; exact S.ty.agg) rfl rfl hna (by rw [hcl]; rfl) htj.ones fun wb hnb kb => ?_
      show Tr.sem _ _ _ _ _ _ { wb with drawn := wb.drawn + 1 }
      have hd : Keeps [] wb { wb with drawn := wb.drawn + 1 } := keeps_drawn wb _ _
      generalize ({ wb with drawn := wb.drawn + 1 } : World) = wc at hd ⊢
      have k9c : Keeps [] w9 wc := (((ka.mono (by simp)).trans kb).less fun x hx => .inr (by simp only [List.mem_singleton] at hx; omega)).trans hd
      have hoc := ho9.keep k9c (by simp)
      have hnc := hnb.keep hd (by simp)
      have kwc := k9.trans k9c
      have ldL : ∀ (w' : World) (ρ : Nat → Value) (x : Operand), Keeps [] wc w' → ev ρ x = ptr w.heap.size 3 → runOp P ρ (.load c.sTrees x) w' = .ok (.value lv) w' := fun w' ρ x kk hx => l_load1 (b := w.heap.size) (o := 3) S.ty.oneTrees hx (hoc.keep kk (by simp)) rfl
      refine p_fl S.ty.f3 S.ty.oneTrees rfl rfl hoc rfl ?_
      refine l_lok (l_loadN (b := w2.heap.size) (o := 0) S.agg rfl (hn9.keep k9c (by simp)) (show 0 + 8 ≤ 8 by omega)) ?_
      refine l_lok (l_loadN (b := w9.heap.size) (o := 0) S.ty.agg rfl hnc (by omega)) ?_
      rw [show (cc.drop 0).take 5 = cc by rw [List.drop_zero, List.take_of_length_le (by omega)]]
      refine s_callF (hOne w0 wc l[j] _ cc (hone0 wc kwc) htj (hlok _ (List.getElem_mem hj')) (k0w.trans kwc)) (show [_, ρ 1, _] = _ by rw [q1]; rfl) fun u wd ⟨⟨cs, hu, htd⟩, kd⟩ => ⟨?_, ?_⟩
      · intro p hp
        simp only [List.mem_singleton] at hp
        subst hp
        exact ldL wd _ _ kd rfl
      subst hu
      have hcsl := htd.len
      refine s_oneSlice S.got.row S.ty.sl (cs := cs) rfl hcsl fun we hsl ke ze => ⟨?_, ?_⟩
      · intro p hp
        simp only [List.mem_singleton] at hp
        subst hp
        exact ldL we _ _ (kd.trans ke) rfl
      have hlt9 := hown.lt
      have k9e : Keeps [] w9 we := (k9c.trans kd).trans ke
      have s9c := k9c.size
      have scd := kd.size
      have sde := ke.size
      refine s_appendOne (v := lv) (u := .slice (some ⟨wd.heap.size, 0, none⟩) 1 1) S.got.row S.ty.sl rfl rfl (hown.keep k9e (by simp)) hsl htd.ones (by omega) fun lv' wf hownf kf hbf => ⟨fun p hp => (by cases hp), ?_⟩
      have hof : Has wf w.heap.size [.int .i64 0, .slice none 0 0, .bool nl, lv, .slice none 0 0] := (ho9.keep k9e (by simp)).keep kf fun hb => by have := hblk _ hb; omega
      refine p_fs (v := lv') S.ty.f3 S.ty.oneTrees rfl rfl rfl (by simp [opBelow]) hownf.one hof (show 0 + 3 < 5 by omega) fun wg hog kg => ?_
      refine s_val (v_arith (kk := .i64) (a := j) (b := 1) (r := ((j + 1 : Nat) : Int)) rfl rfl ?_) ?_
      · simp only [arithOf, Option.some.injEq]; rw [IntKind.wrap_i64]; omega
      have kwg : Keeps [] w wg := ((k9.mono (by simp)).trans ((k9e.mono (by simp)).trans ((kf.mono fun x hx => List.mem_append_left _ hx).trans (kg.mono fun x hx => List.mem_append_right _ hx))) : Keeps (blkOf lv ++ [w.heap.size]) w wg).less fun x hx => .inr (by
        rcases List.mem_append.1 hx with h | h
        · have := hblk _ h; omega
        · simp only [List.mem_singleton] at h; omega)
      have sef := kf.size
      have sfg := kg.size
      have hn9l := hn7.lt
      refine ⟨J, rfl, hJ [] _ rfl ⟨kwg, by omega, ((hn9.keep k9e (by simp)).keep kf fun hq => by have := hblk _ hq; omega).keep kg (by simp only [List.mem_singleton]; omega), lv', xs ++ cs, hog, hownf.keep kg (fun b hb => ?_), fun b hb => ?_, ?_⟩⟩
      · simp only [List.mem_singleton]
        rcases hbf b hb with h | h
        · have := hblk _ h; omega
        · omega
      · rcases hbf b hb with h | h
        · exact hblk _ h
        · omega
      · have hj2 : j < (l.map (pFitted v f.one)).length := by rw [List.length_map]; exact hj'
        rw [List.take_succ_eq_append_getElem hj2, List.getElem_map]
        refine trees_more (L := w0.heap.size) hlt9 (fun b hb => by have := hblk b hb; omega) hbf (fun b h => h) (by omega) (by omega) k9e kf kg htr ?_
        exact TreeAt.keep ke (fun b hb => by cases hb) (fun b h hlt => ⟨h.imp id fun h' => by omega, by omega⟩) _ _ htd
    · rintro w9 vr J ⟨k0n, s89, hn9, lv, xs, ho9, hown, hblk, htr⟩ hvr
      obtain rfl : vr = [] := List.eq_nil_of_length_eq_zero hvr
      rw [Int.toNat_natCast] at hown
      rw [Int.toNat_natCast, List.take_of_length_le (by rw [List.length_map]; exact Nat.le_refl _)] at htr
      have hones : ∀ q ∈ [Value.int .i64 0, .slice none 0 0, .bool nl, lv, .slice none 0 0], q.oneCell' = true := fun q hq => by
        simp only [List.mem_cons, List.not_mem_nil, or_false] at hq
        rcases hq with rfl | rfl | rfl | rfl | rfl
        · rfl
        · rfl
        · rfl
        · exact hown.one
        · rfl
      refine s_lok (l_loadN (b := w.heap.size) (o := 0) S.ty.agg rfl ho9 (show 0 + 5 ≤ 5 by omega)) ?_
      refine s_storeAll (b := ob) (old := zeroTree) (cs := [.int .i64 0, .slice none 0 0, .bool nl, lv, .slice none 0 0]) S.ty.agg q5 rfl (ho.keep k0n (by simp)) rfl hones fun wa hna ka => ?_
      refine s_retAgg (b := ob) q5 hna S.ty.agg (hR wa _ ⟨_, lv, _, xs, rfl, ⟨Ro.nil _ 1, (fun h => absurd rfl h), by decide⟩, ?_, ⟨?_, by rw [List.length_map]; omega⟩, ?_, [], ⟨by simp, .inl ⟨rfl, rfl⟩⟩, ⟨(fun b hb => by cases hb), by decide⟩, rfl⟩ ?_)
      · rw [List.length_map]
        exact (hown.keep ka fun b hb => by simp only [List.mem_singleton]; have := hblk b hb; omega).reads
      · intro b hb
        have := hblk b hb
        exact .inr (by omega)
      · exact TreesAt.keep ka (fun b hb h => by
          simp only [List.mem_singleton] at hb
          rcases h with h' | h'
          · omega
          · omega) (fun b h _ => by
          rcases h with h' | h'
          · exact .inl h'
          · exact .inr (by omega)) _ _ htr
      · exact (((kS.trans k0n).mono (by simp)).trans ka).less fun x hx => .inr (by simp only [List.mem_singleton] at hx; omega)

end

end Go.Kf

namespace Go.Kf

open Go

theorem pFitted_eq (v : Int) (f : PF) (t : PT) : pFitted v f t = if f.kind = 8 ∨ f.kind = 9 then .mk 0 (pWhole t.s) (pNull f v t) [] [] else if f.kind = 10 then .mk 0 [] (pNull f v t) (pFits v f.sub t 0) (wholeTags (pUnknown f.sub t.u)) else if f.kind = 11 then .mk 0 [] (pNull f v t || (decide (0 ≤ f.tag) && t.l.isEmpty)) ((pThings t.l).map (pFitOne (fun y => pFits v f.sub y 0) f.elem f.sub)) [] else .mk t.n t.s false [] [] := by
  cases f
  simp only [pFitted, PF.kind, PF.sub, PF.tag, PF.elem]
  rfl

theorem pFitted_one (v : Int) (f : PF) (h : f.elem ≠ 11) : pFitted v f.one = pFitOne (fun y => pFits v f.sub y 0) f.elem f.sub := by
  funext y
  rw [pFitted_eq]
  unfold pFitOne
  have hn : pNull f.one v y = false := by
    simp [pNull, PF.one, PF.nul]
  rw [hn]
  show (if f.elem = 8 ∨ f.elem = 9 then _ else if f.elem = 10 then _ else if f.elem = 11 then _ else _) = _
  by_cases h10 : f.elem = 10
  · rw [if_neg (by omega), if_pos h10, if_pos h10]
    rfl
  · rw [if_neg h10, if_neg h10]
    by_cases h8 : f.elem = 8 ∨ f.elem = 9
    · rw [if_pos h8, if_pos h8]
    · rw [if_neg h8, if_neg h8, if_neg h]

theorem flat_at {w : World} {A : Nat → Prop} {n : Int} {s : List UInt8} {nl : Bool} {sv : Value} (h : OctIn w A s sv) : TreeAt w A (.mk n s nl [] []) [.int .i64 n, sv, .bool nl, .slice none 0 0, .slice none 0 0] :=
  have hn : ∀ b ∈ blkOf (.slice none 0 0), A b := fun b hb => by cases hb
  have hr : ∀ sz, Reads w (.slice none 0 0) sz 0 [] := fun sz => ⟨by simp, .inl ⟨rfl, rfl⟩⟩
  ⟨_, _, _, [], rfl, h, hr 5, ⟨hn, by decide⟩, rfl, [], hr 2, ⟨hn, by decide⟩, rfl⟩

section

variable {P : Program} {c : Nums} {s : SN} {R : Value → World → Prop} {n : Nat} {ρ : Nat → Value} {w : World}

theorem fitted_gives {fFit fOne : Nat} {v : Int} (S : SpFacts P c s) (hN : treeIn P s.null noOrc [.tmp 0, .tmp 1, .tmp 2] 3 = tNull c s) (hWh : treeIn P s.whole noOrc [.tmp 0] 1 = tWhole c) (hTh : treeIn P s.things noOrc [.tmp 0] 1 = tThings c)
    (hT : treeIn P fOne noOrc [.tmp 0, .tmp 1, .tmp 2] 3 = tFitted c s fFit fOne) {f : PF} (hS : FitOf P fFit v f.sub) (h1 : f.kind = 11 → f.elem ≠ 11 ∧ FittedOf P fOne v f.one) : FittedOf P fOne v f := by
  intro w0 w t fcs tcs hfc htc hok k0
  have hfc0 := hfc
  have htc0 := htc
  have hfl := hfc.len
  have htl := htc.len
  have s0 := k0.size
  obtain ⟨fv, ecs, hsub⟩ := hfc0.cells
  obtain ⟨sv, lv0, uv, lcs, ucs, etc, e1, e2, e3, e4, e5⟩ := htc0.cells
  have hsl : t.s.length < 4294967296 := htc0.lens.1
  have hkind : fcs[0 + 0]? = some (.int .i64 f.kind) := by rw [ecs]; rfl
  have htag : fcs[0 + 4]? = some (.int .i64 f.tag) := by rw [ecs]; rfl
  have hsubv : fcs[0 + 7]? = some fv := by rw [ecs]; rfl
  have htn : tcs[0 + 0]? = some (.int .i64 t.n) := by rw [etc]; rfl
  have hts : tcs[0 + 1]? = some sv := by rw [etc]; rfl
  have htlv : tcs[0 + 3]? = some lv0 := by rw [etc]; rfl
  refine gives_in (ρ := en [_, _, _]) S.rd.mix hT (Nat.le_refl _) rfl (by simp [opBelow]) ?_
  refine s_box rfl fun w1 hx1 k1 z1 => ?_
  refine s_box rfl fun w2 hy2 k2 z2 => ?_
  refine s_alloc S.got.zero fun w3 ho3 k3 z3 => ?_
  have hx3 := (hx1.keep k2 (by simp)).keep k3 (by simp)
  have hy3 := hy2.keep k3 (by simp)
  have k03 := (k1.trans k2).trans k3
  refine s_lok (l_loadN (b := w.heap.size) (o := 0) S.agg rfl hx3 (by omega)) (s_lok (l_loadN (b := w1.heap.size) (o := 0) S.ty.agg rfl hy3 (by omega)) ?_)
  rw [take0 hfl, take0 htl]
  refine s_callx (null_gives S hN (FieldC.keep k03 _ _ hfc0) (TreeC.keep (k0.trans k03) _ _ htc0) v) rfl fun u w4 ⟨hu, k4⟩ => ?_
  subst hu
  have hx4 := hx3.keep k4 (by simp)
  have hy4 := hy3.keep k4 (by simp)
  have ho4 := ho3.keep k4 (by simp)
  have k04 := k03.trans k4
  have kw4 := k0.trans k04
  have hfc4 := FieldC.keep k04 _ _ hfc0
  have s1 := k1.size
  have s2 := k2.size
  have s03 := k03.size
  have s04 := k04.size
  have ho4l := ho4.lt
  have obk : ∀ {w' w'' : World}, Keeps [] w4 w' → Keeps [w2.heap.size] w' w'' → Keeps [] w w'' := fun ka kb => (((k04.trans ka).mono (by simp)).trans kb).less fun x hx => .inr (by simp only [List.mem_singleton] at hx; omega)
  refine s_fl S.f0 S.oneInt rfl rfl hx4 hkind ?_
  refine s_val (v_cmp (kk := .i64) (a := f.kind) (b := 8) (r := f.kind == 8) rfl rfl rfl) ?_
  refine ⟨rfl, fun vs w' => vs = [.bool (f.kind == 8 || f.kind == 9)] ∧ w4 = w', ?_, ?_⟩
  · refine s_cond (b := f.kind == 8) rfl (fun hb => ⟨_, rfl, ?_, rfl⟩) fun hb => s_val (v_cmp (kk := .i64) (a := f.kind) (b := 9) (r := f.kind == 9) rfl rfl rfl) ⟨_, rfl, ?_, rfl⟩
    · show [Value.bool (f.kind == 8)] = _
      rw [hb]
      rfl
    · show [Value.bool (f.kind == 9)] = _
      rw [hb]
      rfl
  rintro vs w' hl ⟨rfl, rfl⟩
  refine s_cond (b := f.kind == 8 || f.kind == 9) rfl (fun hb => ?_) fun hb => ?_
  · have h8 : f.kind = 8 ∨ f.kind = 9 := by simpa using hb
    refine s_fl S.ty.f1 S.rd.oneBytes rfl rfl hy4 hts ?_
    refine s_callx (whole_gives S hWh (e1.keep kw4)) rfl fun u w5 ⟨hw, hro⟩ => ?_
    subst hw
    have hru := hro w0 e1
    refine s_val (v_build (cells := [.int .i64 0, u, .bool (pNull f v t), .slice none 0 0, .slice none 0 0]) S.got.plan (fun p hp => by
      simp only [List.mem_cons, List.not_mem_nil, or_false] at hp
      rcases hp with rfl | rfl
      · exact hru.one
      · rfl) rfl) ?_
    refine s_storeAll (b := w2.heap.size) (old := zeroTree) (cs := [.int .i64 0, u, .bool (pNull f v t), .slice none 0 0, .slice none 0 0]) S.ty.agg rfl rfl ho4 rfl (fun q hq => by
      simp only [List.mem_cons, List.not_mem_nil, or_false] at hq
      rcases hq with rfl | rfl | rfl | rfl | rfl
      · rfl
      · exact hru.one
      · rfl
      · rfl
      · rfl) fun wa hna ka => ?_
    refine s_retAgg (b := w2.heap.size) rfl hna S.ty.agg ⟨⟨_, rfl, ?_⟩, obk .refl ka⟩
    rw [pFitted_eq, if_pos h8]
    have kwa := k0.trans (obk .refl ka)
    refine flat_at ⟨hru.keep kwa, fun hn b hb => .inl (hru.blk hn b hb), ?_⟩
    have := pWhole_le t.s
    simp only [big] at this
    omega
  have h89 : ¬ (f.kind = 8 ∨ f.kind = 9) := by simpa using hb
  refine s_val (v_cmp (kk := .i64) (a := f.kind) (b := 10) (r := f.kind == 10) rfl rfl rfl) ?_
  refine s_cond (b := f.kind == 10) rfl (fun hb2 => ?_) fun hb2 => ?_
  · have h10 : f.kind = 10 := by simpa using hb2
    refine s_fl S.f7 S.oneFields rfl rfl hx4 hsubv ?_
    refine s_lok (l_loadN (b := w1.heap.size) (o := 0) S.ty.agg rfl hy4 (by omega)) ?_
    rw [take0 htl]
    refine s_callx (hS w0 w4 t fv tcs (hsub.keep k04) htc0 hok kw4) rfl fun u w5 ⟨⟨cs, hu, htr⟩, k5⟩ => ?_
    subst hu
    unfold pFit at htr
    obtain ⟨sv', lv', uv', lcs', ec, a1, a2, a3, a4, a5⟩ := htr
    obtain ⟨ucs', b1, b2, b3⟩ := a5
    have hcs1 : ∀ q ∈ cs, q.oneCell' = true := fun q hq => by
      rw [ec] at hq
      simp only [List.mem_cons, List.not_mem_nil, or_false] at hq
      rcases hq with rfl | rfl | rfl | rfl | rfl
      · rfl
      · exact a1.one
      · rfl
      · exact a2.one
      · exact b1.one
    have hcl : cs.length = 5 := by rw [ec]; rfl
    refine s_alloc S.got.zero fun w6 ho6 k6 z6 => ?_
    refine s_storeAll (b := w5.heap.size) (old := zeroTree) (cs := cs) (by rw [hcl]; exact S.ty.agg) rfl rfl ho6 (by rw [hcl]; rfl) hcs1 fun w7 ho7 k7 => ?_
    refine s_fs (b := w5.heap.size) (o := 0) (v := .bool (pNull f v t)) S.ty.f2 S.rd.oneBool rfl rfl rfl (by simp [opBelow]) rfl ho7 (by omega) fun w8 ho8 k8 => ?_
    have k58 : Keeps [] w5 w8 := ((k6.mono (by simp)).trans (k7.trans k8)).less fun x hx => .inr (by simp only [List.mem_singleton] at hx; omega)
    have s45 := k5.size
    have s58 := k58.size
    refine s_lok (l_loadN (b := w5.heap.size) (o := 0) S.ty.agg rfl ho8 (by rw [List.length_set]; omega)) ?_
    rw [take0 (by rw [List.length_set]; exact hcl)]
    have ecs2 : cs.set (0 + 2) (.bool (pNull f v t)) = [.int .i64 0, sv', .bool (pNull f v t), lv', uv'] := by rw [ec]; rfl
    rw [ecs2]
    have ho48 := (ho4.keep k5 (by simp)).keep k58 (by simp)
    refine s_storeAll (b := w2.heap.size) (old := zeroTree) (cs := [.int .i64 0, sv', .bool (pNull f v t), lv', uv']) S.ty.agg rfl rfl ho48 rfl (fun q hq => by
      simp only [List.mem_cons, List.not_mem_nil, or_false] at hq
      rcases hq with rfl | rfl | rfl | rfl | rfl
      · rfl
      · exact a1.one
      · rfl
      · exact a2.one
      · exact b1.one) fun wa hna ka => ?_
    have k48 := k5.trans k58
    refine s_retAgg (b := w2.heap.size) rfl hna S.ty.agg ⟨⟨_, rfl, ?_⟩, obk k48 ka⟩
    rw [pFitted_eq, if_neg h89, if_pos h10]
    have h5 : TreeAt w5 (FitA w0 w4) (.mk 0 [] (pNull f v t) (pFits v f.sub t 0) (wholeTags (pUnknown f.sub t.u))) [.int .i64 0, sv', .bool (pNull f v t), lv', uv'] := ⟨sv', lv', uv', lcs', rfl, a1, a2, a3, a4, ucs', b1, b2, b3⟩
    have k5a : Keeps [w2.heap.size] w5 wa := (k58.mono (by simp)).trans ka
    refine TreeAt.keep k5a (fun b hb h => ?_) (fun b h _ => ?_) _ _ h5
    · simp only [List.mem_singleton] at hb
      rcases h with h | h <;> omega
    · rcases h with h | h
      · exact .inl h
      · exact .inr (by omega)
  have h10 : ¬ f.kind = 10 := by simpa using hb2
  refine s_val (v_cmp (kk := .i64) (a := f.kind) (b := 11) (r := f.kind == 11) rfl rfl rfl) ?_
  refine s_cond (b := f.kind == 11) rfl (fun hb3 => ?_) fun hb3 => ?_
  · have h11 : f.kind = 11 := by simpa using hb3
    obtain ⟨he, hOne⟩ := h1 h11
    have out : ∀ nl : Bool, nl = (pNull f v t || (decide (0 ≤ f.tag) && t.l.isEmpty)) → ∀ (w' : World) (cs : List Value), TreeAt w' (FitA w0 w) (.mk 0 [] nl ((pThings t.l).map (pFitted v f.one)) []) cs → Keeps [] w w' → (fun (u : Value) w' => (∃ cs, u = .agg ⟨cs⟩ ∧ TreeAt w' (FitA w0 w) (pFitted v f t) cs) ∧ Keeps [] w w') (.agg ⟨cs⟩) w' := fun nl hnl w' cs h kk => ⟨⟨cs, rfl, by
      rw [pFitted_eq, if_neg h89, if_neg h10, if_pos h11, ← hnl, ← pFitted_one v f he]
      exact h⟩, kk⟩
    have go : ∀ (n : Nat) (b : Operand) (nl : Bool) (ρ' : Nat → Value), (n = 15 ∨ n = 18 ∨ n = 22) → ρ' 1 = .int .i64 v → ρ' 3 = ptr w.heap.size → ρ' 4 = ptr w1.heap.size → ρ' 5 = ptr w2.heap.size → ev ρ' b = .bool nl → nl = (pNull f v t || (decide (0 ≤ f.tag) && t.l.isEmpty)) →
        (gFitList c s fOne b n).sem P (fun u w' => (∃ cs, u = .agg ⟨cs⟩ ∧ TreeAt w' (FitA w0 w) (pFitted v f t) cs) ∧ Keeps [] w w') [] n ρ' w4 := fun n b nl ρ' hn q1 q3 q4 q5 hb hnl =>
      fitList_sem (w0 := w0) (wS := w) S hTh hn hOne q1 q3 q4 q5 hb hx4 hy4 ho4 hfc4 htc0 hok k0 k04 (by omega) (out nl hnl)
    refine s_cond (b := pNull f v t) rfl (fun hb4 => ?_) fun hb4 => ?_
    · exact go 15 _ true _ (by simp) rfl rfl rfl rfl rfl (by rw [hb4]; rfl)
    refine s_fl S.f4 S.oneInt rfl rfl hx4 htag ?_
    refine s_val (v_cmp (kk := .i64) (a := f.tag) (b := 0) (r := decide (f.tag ≥ 0)) rfl rfl rfl) ?_
    refine s_cond (b := decide (f.tag ≥ 0)) rfl (fun hb5 => ?_) fun hb5 => ?_
    · have hge : decide (0 ≤ f.tag) = true := hb5
      refine s_fl S.ty.f3 S.ty.oneTrees rfl rfl hy4 htlv ?_
      obtain ⟨a, cp, eu⟩ := e2.form
      refine s_val (v_len (a := a) (l := t.l.length) (c := cp) S.ty.sl eu) ?_
      refine s_val (v_cmp (kk := .i64) (a := t.l.length) (b := 0) (r := (t.l.length : Int) == 0) rfl rfl rfl) ?_
      refine go 22 _ ((t.l.length : Int) == 0) _ (by simp) rfl rfl rfl rfl rfl ?_
      rw [hb4, hge]
      cases t.l with
      | nil => rfl
      | cons x r => simp; omega
    · have hge : decide (0 ≤ f.tag) = false := hb5
      refine go 18 _ false _ (by simp) rfl rfl rfl rfl rfl ?_
      rw [hb4, hge]
      rfl
  have h11 : ¬ f.kind = 11 := by simpa using hb3
  refine s_fl S.ty.f0 S.ty.oneI64 rfl rfl hy4 htn ?_
  refine s_fl S.ty.f1 S.rd.oneBytes rfl rfl hy4 hts ?_
  refine s_val (v_build (cells := [.int .i64 t.n, sv, .bool false, .slice none 0 0, .slice none 0 0]) S.got.plan (fun p hp => by
    simp only [List.mem_cons, List.not_mem_nil, or_false] at hp
    rcases hp with rfl | rfl
    · rfl
    · exact e1.one) rfl) ?_
  refine s_storeAll (b := w2.heap.size) (old := zeroTree) (cs := [.int .i64 t.n, sv, .bool false, .slice none 0 0, .slice none 0 0]) S.ty.agg rfl rfl ho4 rfl (fun q hq => by
    simp only [List.mem_cons, List.not_mem_nil, or_false] at hq
    rcases hq with rfl | rfl | rfl | rfl | rfl
    · rfl
    · exact e1.one
    · rfl
    · rfl
    · rfl) fun wa hna ka => ?_
  refine s_retAgg (b := w2.heap.size) rfl hna S.ty.agg ⟨⟨_, rfl, ?_⟩, obk .refl ka⟩
  rw [pFitted_eq, if_neg h89, if_neg h10, if_neg h11]
  exact flat_at ⟨e1.keep (k0.trans (obk .refl ka)), fun hn b hb => .inl (e1.blk hn b hb), hsl⟩

end

/-- The trees of what hands on. -/
structure MkTrees (P : Program) (c : Nums) (s : SN) (fFit fOne : Nat) : Prop where
  fit : treeIn P fFit noOrc [.tmp 0, .tmp 1, .tmp 2] 3 = tFit c s fOne
  fitted : treeIn P fOne noOrc [.tmp 0, .tmp 1, .tmp 2] 3 = tFitted c s fFit fOne

section

variable {P : Program} {c : Nums} {s : SN}

mutual
theorem fitted_all {fFit fOne : Nat} (S : SpFacts P c s) (T : SpTrees P c s) (M : MkTrees P c s fFit fOne) (v : Int) : ∀ f : PF, f.plain = true → FittedOf P fOne v f
  | .mk k fr to n g d e sub, h => by
    have hs := PF.plain_sub h
    have hl := PF.plain_len h
    have hF : FitOf P fFit v sub := fit_step S T.at_ T.whole M.fit hl (unknown_all S T hs hl) (fitteds_all S T M v sub hs)
    refine fitted_gives S T.null T.whole T.things M.fitted (f := .mk k fr to n g d e sub) hF fun h11 => ⟨PF.plain_elem h h11, ?_⟩
    exact fitted_gives S T.null T.whole T.things M.fitted (f := PF.one (.mk k fr to n g d e sub)) hF fun h => absurd h (PF.plain_elem ‹_› h11)
theorem fitteds_all {fFit fOne : Nat} (S : SpFacts P c s) (T : SpTrees P c s) (M : MkTrees P c s fFit fOne) (v : Int) : ∀ fs : List PF, PF.plains fs = true → ∀ f ∈ fs, FittedOf P fOne v f
  | [], _, f, hf => by cases hf
  | x :: l, h, f, hf => by
    simp only [PF.plains, Bool.and_eq_true] at h
    rcases List.mem_cons.1 hf with e | hf
    · rw [e]; exact fitted_all S T M v x h.1
    · exact fitteds_all S T M v l h.2 f hf
end

theorem fit_all {fFit fOne : Nat} (S : SpFacts P c s) (T : SpTrees P c s) (M : MkTrees P c s fFit fOne) (v : Int) {fs : List PF} (h : PF.plains fs = true) (hl : fs.length < 65536) : FitOf P fFit v fs :=
  fit_step S T.at_ T.whole M.fit hl (unknown_all S T h hl) (fitteds_all S T M v fs h)

end

end Go.Kf


namespace Go.Kf

open Go

/-- Tags whose octets lie below L, in a map from h0 on. -/
def TagsY (L h0 : Nat) (w : World) (m : TM) (v : Value) : Prop :=
  (v = .map none ∧ m = []) ∨ ∃ b es clock, h0 ≤ b ∧ v = .map (some b) ∧ MapIs w b es clock ∧ EntsA (fun x => x < L) w es m ∧ es.Pairwise (fun a b => a.born < b.born) ∧ (∀ e ∈ es, e.born < clock) ∧
    (∀ p ∈ m, p.1 < 2 ^ 32) ∧ (m.map (·.1)).Nodup ∧ m ≠ []

theorem TagsY.one {L h0 : Nat} {w : World} {m : TM} {v : Value} (h : TagsY L h0 w m v) : v.oneCell' = true := by
  rcases h with ⟨rfl, _⟩ | ⟨b, _, _, _, rfl, _⟩ <;> rfl

theorem TagsY.a {L h0 : Nat} {A : Nat → Prop} {w : World} {m : TM} {v : Value} (h : TagsY L h0 w m v) (h1 : ∀ b, b < L → A b) (h2 : ∀ b, h0 ≤ b → A b) : TagsA A w m v := by
  rcases h with h | ⟨b, es, clock, hb, hv, hm, he, hr⟩
  · exact .inl h
  · exact .inr ⟨b, ⟨es⟩, clock, h2 b hb, hv, hm, EntsA.imp (fun e p ⟨a1, a2, a3⟩ => ⟨a1, a2, fun hn x hx => h1 x (a3 hn x hx)⟩) he, hr⟩

theorem EntsA.keys {A : Nat → Prop} {w : World} : ∀ {es : List MapEntry} {m : TM}, EntsA A w es m → Keys32 es
  | [], [], _ => fun e h => by cases h
  | e :: es, p :: m, ⟨h1, h2⟩ => fun x hx => by
    rcases List.mem_cons.1 hx with h | h
    · rw [h]; exact ⟨_, h1.1⟩
    · exact EntsA.keys h2 x h
  | [], _ :: _, h => h.elim
  | _ :: _, [], h => h.elim

theorem EntA.is {A : Nat → Prop} {w : World} {e : MapEntry} {p : Nat × List UInt8} (h : EntA A w e p) (k : Nat) : keyIs k e = decide (p.1 = k) := by
  simp only [keyIs, h.1]
  by_cases hk : p.1 = k
  · simp [hk]
  · have : ((k : Int) == (p.1 : Int)) = false := by simp; omega
    simp [hk, this]

theorem EntsA.set {A : Nat → Prop} {k clock : Nat} {w : World} {l : List UInt8} {v : Value} (hv : Ro w v 1 l.length (bcells l)) (ha : l.length ≠ 0 → ∀ b ∈ blkOf v, A b) : ∀ {es : List MapEntry} {m : TM}, EntsA A w es m → EntsA A w (esSet es k v clock) (tmSet m k l)
  | [], [], _ => ⟨⟨rfl, hv, ha⟩, trivial⟩
  | e :: es, p :: m, ⟨h1, h2⟩ => by
    simp only [esSet, tmSet, h1.is k, decide_eq_true_eq]
    split
    · exact ⟨⟨rfl, hv, ha⟩, h2⟩
    · exact ⟨h1, EntsA.set hv ha h2⟩
  | [], _ :: _, h => h.elim
  | _ :: _, [], h => h.elim

/-- Below L nothing is written. -/
theorem EntsA.keepL {L : Nat} {w w' : World} {M : List Nat} {es : List MapEntry} {m : TM} (h : EntsA (fun x => x < L) w es m) (hk : Keeps M w w') (hM : ∀ b ∈ M, L ≤ b) : EntsA (fun x => x < L) w' es m :=
  EntsA.imp (fun _ _ he => EntA.keep he hk (fun b hb h => by have := hM b hb; omega) (fun _ h _ => h)) h

def TagSetY (P : Program) (f : Nat) : Prop := ∀ (L h0 V o k : Nat) (w : World) (cs : List Value) (m : TM) (mv v : Value) (l : List UInt8), Has w V cs → cs[o]? = some mv → TagsY L h0 w m mv → L ≤ V → V < h0 → h0 ≤ w.heap.size → k < 2 ^ 32 → Ro w v 1 l.length (bcells l) → (l.length ≠ 0 → ∀ b ∈ blkOf v, b < L) →
  Gives P f [ptr V o, .int .u32 k, v] w fun _ w' => ∃ mv', Has w' V (cs.set o mv') ∧ TagsY L h0 w' (tmSet m k l) mv' ∧ ∃ M, Keeps M w w' ∧ ∀ b ∈ M, b = V ∨ h0 ≤ b

section

variable {P : Program} {c : Nums}

theorem tagSetY_gives {f : Nat} (F : RdFacts P c) (T : TagFacts P c) (hT : treeIn P f noOrc [.tmp 0, .tmp 1, .tmp 2] 3 = tTagSet c) : TagSetY P f := by
  intro L h0 V o k w cs m mv v l hh hcm hz hLV hVh hsz hk hro hblk
  refine gives_in (ρ := en [ptr V o, .int .u32 k, v]) F.mix hT (Nat.le_refl _) rfl (by simp [opBelow]) ?_
  have hol : o < cs.length := (List.getElem?_eq_some_iff.1 hcm).1
  -- the rest, once a map lies there
  have rest : ∀ (w1 : World) (ρ : Nat → Value) (Γ : List (List Value → World → Prop)) (b : Nat) (es : List MapEntry) (clock : Nat) (M : List Nat), ρ 0 = ptr V o → ρ 1 = .int .u32 k → ρ 2 = v → Has w1 V (cs.set o (.map (some b))) → h0 ≤ b → MapIs w1 b es clock → EntsA (fun x => x < L) w1 es m → es.Pairwise (fun a b => a.born < b.born) → (∀ e ∈ es, e.born < clock) →
      (∀ p ∈ m, p.1 < 2 ^ 32) → (m.map (·.1)).Nodup → Keeps M w w1 → (∀ b ∈ M, b = V ∨ h0 ≤ b) →
      (gGet (.tmp 0) c.tTags 0 c.tMap 7 <| .op (.mapUpdate c.tMap (.tmp 9) (.tmp 1) (.tmp 2)) none [] <| .ret []).sem P (fun _ w' => ∃ mv', Has w' V (cs.set o mv') ∧ TagsY L h0 w' (tmSet m k l) mv' ∧ ∃ M, Keeps M w w' ∧ ∀ b ∈ M, b = V ∨ h0 ≤ b) Γ 7 ρ w1 := by
    intro w1 ρ Γ b es clock M r0 r1 r2 hh1 hb hm he hp hborn h32 hnd k1 hM
    refine s_get T.f0 T.oneMap (show ev ρ (.tmp 0) = ptr V o from r0) hh1 (by rw [Nat.add_zero, List.getElem?_set_self hol]) ?_
    obtain ⟨w2, e2, hm2, k2⟩ := a_mapUpdate (P := P) (ρ := ext ρ 7 [ptr V o, ptr V (o + 0), .map (some b)]) (w := w1) (t := c.tMap) (m := .tmp 9) (k := .tmp 1) (x := .tmp 2) (n := (k : Int)) (v := v) T.map F.u32 rfl (by show ext ρ 7 _ 1 = _; rw [ext_lt (by omega)]; exact r1) (by show ext ρ 7 _ 2 = _; rw [ext_lt (by omega)]; exact r2) hm he.keys
    have hM1 : ∀ b ∈ M, L ≤ b := fun b hb' => by rcases hM b hb' with h | h <;> omega
    have hM2 : ∀ x ∈ [b], L ≤ x := fun x hx => by simp only [List.mem_singleton] at hx; omega
    have hro1 : Ro w1 v 1 l.length (bcells l) := hro.keepM k1 fun hn x hx hxM => by have := hblk hn x hx; have := hM1 x hxM; omega
    have hro2 : Ro w2 v 1 l.length (bcells l) := hro1.keepM k2 fun hn x hx hxM => by have := hblk hn x hx; have := hM2 x hxM; omega
    refine s_unit e2 (fun p hp => (by cases hp)) (s_ret0 ⟨.map (some b), hh1.keep k2 (by simp only [List.mem_singleton]; omega), .inr ⟨b, _, _, hb, rfl, hm2, (he.keepL k2 hM2).set hro2 hblk, (esSet_ok hp hborn).1, (esSet_ok hp hborn).2, tmSet_lt h32 hk, tmSet_nodup hnd, tmSet_ne _ _ _⟩, M ++ [b], (k1.mono fun x hx => List.mem_append_left _ hx).trans (k2.mono fun x hx => List.mem_append_right _ hx), fun x hx => ?_⟩)
    rcases List.mem_append.1 hx with h | h
    · exact hM x h
    · simp only [List.mem_singleton] at h
      subst h
      exact .inr hb
  refine s_get T.f0 T.oneMap (show ev _ (.tmp 0) = ptr V o from rfl) hh (by rw [Nat.add_zero]; exact hcm) ?_
  rcases hz with ⟨rfl, rfl⟩ | ⟨b, es, clock, hb, rfl, hm, he, hp, hborn, h32, hnd, hne⟩
  · refine s_val (v_eqlMap (op := .eql) (a := none) (r := true) T.map rfl rfl (.inl ⟨rfl, rfl⟩)) ?_
    refine ⟨rfl, fun _ w' => ∃ b, Has w' V (cs.set o (.map (some b))) ∧ h0 ≤ b ∧ MapIs w' b [] 0 ∧ Keeps [V] w w', ?_, ?_⟩
    · refine s_cond (b := true) rfl (fun _ => ?_) (fun h => by cases h)
      obtain ⟨w1, e1, hm1, k1, z1⟩ := a_makeMap (P := P) (ρ := ext (ext (en [ptr V o, .int .u32 k, v]) 3 [ptr V o, ptr V (o + 0), .map none]) 6 [.bool true]) (w := w) (t := c.tMap)
      refine s_act e1 (fun p hp => (by cases hp)) ?_
      refine s_set (n := 8) (v := .map (some w.heap.size)) T.f0 T.oneMap rfl rfl (by simp [opBelow]) rfl (hh.keep k1 (by simp)) (by rw [Nat.add_zero]; exact hol) fun w2 h2 k2 => ?_
      refine ⟨_, rfl, w.heap.size, h2, hsz, hm1.keep k2 (by simp only [List.mem_singleton]; omega), (k1.mono (by simp)).trans k2⟩
    · rintro vs w1 hvs ⟨b, h1, hb, hm1, k1⟩
      obtain rfl : vs = [] := List.eq_nil_of_length_eq_zero hvs
      exact rest w1 _ _ b [] 0 [V] rfl rfl rfl h1 hb hm1 trivial List.Pairwise.nil (fun e he => by cases he) (fun p hp => by cases hp) List.nodup_nil k1 (fun x hx => .inl (by simpa using hx))
  · refine s_val (v_eqlMap (op := .eql) (a := some b) (r := false) T.map rfl rfl (.inl ⟨rfl, rfl⟩)) ?_
    refine ⟨rfl, fun _ w' => w' = w, ?_, ?_⟩
    · exact s_cond (b := false) rfl (fun h => by cases h) (fun _ => ⟨_, rfl, rfl⟩)
    · rintro vs w1 hvs rfl
      obtain rfl : vs = [] := List.eq_nil_of_length_eq_zero hvs
      refine rest w1 _ _ b es clock [] rfl rfl rfl ?_ hb hm he hp hborn h32 hnd .refl (fun x hx => by cases hx)
      rw [show cs.set o (.map (some b)) = cs from by
        rw [← (List.getElem?_eq_some_iff.1 hcm).2]; exact List.set_getElem_self hol]
      exact hh

/-- Rising numbers: what is set is what was given. -/
theorem tmSet_take {u : TM} (h : (u.map (·.1)).Nodup) {j : Nat} (hj : j < u.length) : tmSet (u.take j) u[j].1 u[j].2 = u.take (j + 1) := by
  rw [List.take_succ_eq_append_getElem hj]
  refine tmSet_new fun p hp e => ?_
  obtain ⟨i, hi, rfl⟩ := List.getElem_of_mem hp
  rw [List.length_take] at hi
  rw [List.getElem_take] at e
  have hi2 : i < u.length := by omega
  have h1 : (u.map (·.1))[i]? = (u.map (·.1))[j]? := by
    rw [List.getElem?_map, List.getElem?_map, List.getElem?_eq_getElem hi2, List.getElem?_eq_getElem hj, Option.map_some, Option.map_some, e]
  have := (List.getElem?_inj (by rw [List.length_map]; exact hi2) h).1 h1
  omega

def tOctetsOf (c : Nums) : Tr :=
  .op (.box c.tTree (.tmp 0)) none [] <|
  .op (.fieldAddr c.tTree (.tmp 1) 2) none [] <|
  .op (.load c.tBool (.tmp 2)) none [] <|
  .cond (.tmp 3) (.ret [(.const (.slice none 0 0), none)]) (
    .op (.buildSlice c.tBytes 0 ⟨[]⟩) none [] <|
    .op (.fieldAddr c.tTree (.tmp 1) 1) none [] <|
    .op (.load c.tBytes (.tmp 5)) none [] <|
    .op (appB c (.tmp 4) (.tmp 6) c.tBytes) none [] <|
    .ret [(.tmp 7, none)])

variable {ρ : Nat → Value} {w : World}

theorem loadRo {v : Value} {l : List UInt8} {a : Addr} {n cp m : Nat} (hr : Ro w v 1 l.length (bcells l)) (hv : v = .slice (some a) n cp) (hm : m ≤ l.length) : (loadCells a m).run P w = .ok ⟨(bcells l).take m⟩ w := by
  by_cases h0 : m = 0
  · subst h0
    simp [loadCells, loadCellsFrom]
  · obtain ⟨b2, o2, cap, e2, _, hcell⟩ := hr.at (by omega)
    rw [e2] at hv
    injection hv with h1 _ _
    injection h1 with h1
    subst h1
    have h5 := loadCellsFrom_cells (P := P) (w := w) (b := b2) (o := o2) (xs := bcells l) (fun i hi => hcell i (by rw [bcells_length] at hi; omega)) m 0 #[] (by rw [bcells_length]; omega)
    unfold loadCells
    rw [h5]
    simp

theorem l_bytesStringRo {s d e : Nat} {x : Operand} {v : Value} {l : List UInt8} (hs : P.underlying s = some (.slice e)) (he : P.underlying e = some (.int .u8)) (hd : P.underlying d = some .string) (hx : ev ρ x = v) (hr : Ro w v 1 l.length (bcells l)) :
    runOp P ρ (.convert s d x) w = .ok (.value (.string (strOf l))) w := by
  unfold runOp bareOp
  simp only [execOp, hx, Sem.run_bind]
  have key : (convert s d v).run P w = .ok (.string (strOf l)) w := by
    obtain ⟨a, cap, e1⟩ := hr.form
    subst e1
    rw [run_convert_bytes_string w s d e a l.length cap hs he hd]
    cases a with
    | none =>
      have : l = [] := by
        rcases hr.2 with ⟨h0, _⟩ | ⟨b, o, cp, h1, _⟩
        · exact List.eq_nil_of_length_eq_zero h0
        · cases h1
      subst this
      rfl
    | some a =>
      have h1 := loadRo (P := P) (m := l.length) hr rfl (Nat.le_refl _)
      have e1 : (bcells l).take l.length = (l.map fun b : UInt8 => (b.toNat : Int)).map (Value.int .u8) := by
        rw [List.take_of_length_le (by rw [bcells_length]; exact Nat.le_refl _)]
        simp [bcells]
      rw [e1] at h1
      rw [run_bytesToString w a l.length cap _ h1, foldl_push]
      congr 2
      show (⟨#[] ++ ⟨l⟩⟩ : ByteArray) = strOf l
      simp [strOf]
  rw [key]
  rfl

def TextOf (P : Program) (f : Nat) : Prop := ∀ (w : World) (t : PT) (cs : List Value), TreeC w t cs → Gives P f [.agg ⟨cs⟩] w fun u w' => NStrA (fun b => w.heap.size ≤ b) w' (if t.null then none else some t.s) u ∧ Keeps [] w w'

def OctetsOf (P : Program) (f : Nat) : Prop := ∀ (w : World) (t : PT) (cs : List Value), TreeC w t cs → Gives P f [.agg ⟨cs⟩] w fun u w' => OctA (fun b => w.heap.size ≤ b) w' t.null (if t.null then [] else t.s) u ∧ Keeps [] w w'

def Sixteen (P : Program) (f : Nat) : Prop := ∀ (w : World) (v : Value) (l : List UInt8), Ro w v 1 l.length (bcells l) → Gives P f [v] w fun u w' => u = .agg ⟨bcells (pId l)⟩ ∧ Keeps [] w w'

theorem textOf_gives {f : Nat} (F : RdFacts P c) (Z : TyFacts P c c.tTree c.tTrees c.tTagL c.tTag) (X : StrFacts P c) (hs : P.underlying c.tStr = some .string) (hT : treeIn P f noOrc [.tmp 0] 1 = tTextOf c) : TextOf P f := by
  intro w t cs htc
  obtain ⟨sv, lv0, uv, lcs, ucs, etc, e1, e2, e3, e4, e5⟩ := htc.cells
  subst etc
  refine gives_in (ρ := en [_]) F.mix hT (Nat.le_refl _) rfl (by simp [opBelow]) ?_
  refine s_box rfl fun w1 hx1 k1 z1 => ?_
  refine s_fl Z.f2 F.oneBool rfl rfl hx1 rfl ?_
  refine s_cond (b := t.null) rfl (fun hb => s_ret1 ⟨by rw [hb]; rfl, k1⟩) fun hb => ?_
  refine s_fl Z.f1 F.oneBytes rfl rfl hx1 rfl ?_
  refine s_lok (l_bytesStringRo F.bytes F.u8 hs rfl (e1.keep k1)) ?_
  obtain ⟨z, hz, hzc⟩ := X.zero
  have hzl : z.cells.toList.length = 1 := by simpa using hzc
  refine s_alloc hz fun w2 h2 k2 z2 => ?_
  obtain ⟨w3, e6, h6, k6⟩ := a_store1 (P := P) (ρ := ext (ext (ext (ext (ext (ext (ext (en [_]) 1 [ptr w.heap.size]) 2 [ptr w.heap.size 2]) 3 [.bool t.null]) 4 [ptr w.heap.size 1]) 5 [sv]) 6 [.string (strOf t.s)]) 7 [ptr w1.heap.size]) (w := w2) (t := c.tStr) (x := .tmp 7) (y := .tmp 6) X.one rfl rfl rfl h2 (by rw [hzl]; exact Nat.one_pos)
  refine s_unit e6 (fun p hp => (by cases hp)) ?_
  have h6' : Has w3 w1.heap.size [.string (strOf t.s)] := by
    match hz1 : z.cells.toList, hzl with
    | [x0], _ => rw [hz1] at h6; exact h6
  have s1 := k1.size
  have s2 := k2.size
  refine s_ret1 ⟨?_, ((k1.trans k2).mono (by simp)).trans k6 |>.less fun x hx => .inr (by simp only [List.mem_singleton] at hx; omega)⟩
  rw [hb]
  exact ⟨w1.heap.size, s1, rfl, h6'⟩

end

end Go.Kf


namespace Go.Kf

open Go

/-- A field that is a cell. -/
def cellOf (P : Program) (t : TypeId) (i : Nat) : Option Nat := match P.underlying t with
  | some (.struct fs) => match fs[i]? with
    | some f => bif oneTy P f.type then some f.offset else none
    | none => none
  | _ => none

section

variable {P : Program} {ρ : Nat → Value}

theorem v_part {t : TypeId} {i off : Nat} {x : Operand} {cs : List Value} {v : Value} (ht : cellOf P t i = some off) (h : ev ρ x = .agg ⟨cs⟩) (hv : cs[off]? = some v) : Val P ρ (.field t x i) v := fun w => by
  unfold cellOf at ht
  split at ht
  · rename_i fs hu
    cases hf : fs[i]? with
    | none => simp only [hf] at ht; cases ht
    | some f =>
      simp only [hf] at ht
      cases h1 : oneTy P f.type with
      | false => simp only [h1] at ht; cases ht
      | true =>
        simp only [h1, cond, Option.some.injEq] at ht
        have hv' : (⟨cs⟩ : Array Value)[off]? = some v := by simpa using hv
        unfold runOp bareOp
        simp only [execOp, h, Instr.field, Sem.run_bind, run_under hu, Result.andThen_ok, hf, asAgg, Sem.run_pure, part, (oneTy_spec (w := w) h1).1, Bool.false_eq_true, if_false, ht, hv']
  · cases ht

end

section

variable {P : Program} {c : Nums} {s : SN} {w : World}

end

end Go.Kf


namespace Go.Kf

open Go

def gFSet (ck : Bool) (S i ty : Nat) (V x : Operand) (n : Nat) (k : Nat → Tr) : Tr := match ck with
  | true => .op (.nilCheck V) none [] <| .op (.fieldAddr S (.tmp n) i) none [] <| .op (.store ty (.tmp (n + 1)) x) none [] (k (n + 3))
  | false => .op (.fieldAddr S V i) none [] <| .op (.store ty (.tmp n) x) none [] (k (n + 2))

def gAt (c : Nums) (s : SN) (T : Operand) (q n : Nat) (k : Tr) : Tr := .op (.load c.sTree T) none [] <| .op (callOp s.at_ [.tmp n, .const (.int .i64 (q : Int))]) none [] k

/-- A value out of the tree at .tmp a; K gets the value's place. -/
def gVal (c : Nums) (ty f a : Nat) (K : Nat → Tr) : FK → Tr
  | .num .i64 => .op (.field c.sTree (.tmp a) 0) none [] (K (a + 1))
  | .num _ => .op (.field c.sTree (.tmp a) 0) none [] <| .op (.convert c.tI64 ty (.tmp (a + 1))) none [] (K (a + 2))
  | .bool => .op (.field c.sTree (.tmp a) 0) none [] <| .op (.binOp .and c.tI64 (.tmp (a + 1)) (.const (.int .i64 1)) c.tI64) none [] <| .op (.binOp .eql c.tI64 (.tmp (a + 2)) (.const (.int .i64 1)) c.tI64) none [] (K (a + 3))
  | .text => .op (.field c.sTree (.tmp a) 1) none [] <| .op (.convert c.tBytes c.tStr (.tmp (a + 1))) none [] (K (a + 2))
  | .ntext => .op (callOp f [.tmp a]) none [] (K (a + 1))
  | .octs => .op (callOp f [.tmp a]) none [] (K (a + 1))
  | .uuid => .op (.field c.sTree (.tmp a) 1) none [] <| .op (callOp f [.tmp (a + 1)]) none [] (K (a + 2))

/-- The body of the loop that fills a list; m: the list's first place behind the address of the part. -/
def gListBody (c : Nums) (S i tySl f : Nat) (V x : Operand) (j n d : Nat) : Bool → Tr
  | true => .pur (.nilCheck V) none <| .pur (.fieldAddr S (.tmp n) i) none <| .lok (.load tySl (.tmp (n + 1))) none <| .lok (.load c.sTree x) none <|
    .op (callOp f [.tmp (n + 3)]) none [(.load tySl (.tmp (n + 1)), n + 2)] <| .op (.buildSlice tySl 1 ⟨[(0, .tmp (n + 4))]⟩) none [(.load tySl (.tmp (n + 1)), n + 2)] <|
    .op (.call { callee := .builtin .append, args := ⟨[.tmp (n + 2), .tmp (n + 5)]⟩, argTypes := ⟨[tySl, tySl]⟩ }) none [] <|
    .pur (.nilCheck V) none <| .pur (.fieldAddr S (.tmp (n + 7)) i) none <| .op (.store tySl (.tmp (n + 8)) (.tmp (n + 6))) none [] <|
    .op (.binOp .add c.tInt (.tmp j) (.const (.int .i64 1)) c.tInt) none [] <| .to d [.tmp (n + 10)]
  | false => .pur (.fieldAddr S V i) none <| .lok (.load tySl (.tmp n)) none <| .lok (.load c.sTree x) none <|
    .op (callOp f [.tmp (n + 2)]) none [(.load tySl (.tmp n), n + 1)] <| .op (.buildSlice tySl 1 ⟨[(0, .tmp (n + 3))]⟩) none [(.load tySl (.tmp n), n + 1)] <|
    .op (.call { callee := .builtin .append, args := ⟨[.tmp (n + 1), .tmp (n + 4)]⟩, argTypes := ⟨[tySl, tySl]⟩ }) none [] <|
    .pur (.fieldAddr S V i) none <| .op (.store tySl (.tmp (n + 6)) (.tmp (n + 5))) none [] <|
    .op (.binOp .add c.tInt (.tmp j) (.const (.int .i64 1)) c.tInt) none [] <| .to d [.tmp (n + 8)]

def gFStep (c : Nums) (s : SN) (ck : Bool) (S : Nat) (V T : Operand) : FStep → Nat → Nat → (Nat → Tr) → Tr
  | .prim fk i q _ ty f, n, _, k => gAt c s T q n <| gVal c ty f (n + 1) (fun x => gFSet ck S i ty V (.tmp x) (x + 1) k) fk
  | .sub i q _ ty f _ _, n, _, k => gAt c s T q n <| .op (callOp f [.tmp (n + 1)]) none [] <| gFSet ck S i ty V (.tmp (n + 2)) (n + 3) k
  | .listS i q _ tySl _ f _ _, n, d, k => gAt c s T q n <| .op (.field c.sTree (.tmp (n + 1)) 2) none [] <| .op (.unOp .not c.tBool (.tmp (n + 2))) none [] <|
    .join d (
      .cond (.tmp (n + 3)) (
        gAt c s T q (n + 4) <| .op (.field c.sTree (.tmp (n + 5)) 3) none [] <| .op (.call { callee := .builtin .len, args := ⟨[.tmp (n + 6)]⟩, argTypes := ⟨[c.sTrees]⟩ }) none [] <|
        .op (.makeSlice tySl (.const (.int .i64 0)) (.tmp (n + 7))) none [] <| gFSet ck S i tySl V (.tmp (n + 8)) (n + 9) fun m =>
        gAt c s T q m <| .op (.field c.sTree (.tmp (m + 1)) 3) none [] <| .op (.call { callee := .builtin .len, args := ⟨[.tmp (m + 2)]⟩, argTypes := ⟨[c.sTrees]⟩ }) none [] <|
        .loop (d + 1) [.const (.int .i64 0)] <| .op (.binOp .lss c.tInt (.tmp (m + 4)) (.tmp (m + 3)) c.tInt) none [] <|
        .cond (.tmp (m + 5)) (
          .op (.indexAddr c.sTrees (.tmp (m + 2)) (.tmp (m + 4))) none [] <| .op (.load c.sTree (.tmp (m + 6))) none [] <| .op (.alloc c.sTree) none [] <| .op (.store c.sTree (.tmp (m + 8)) (.tmp (m + 7))) none [] <|
          .draw <| gListBody c S i tySl f V (.tmp (m + 8)) (m + 4) (m + 10) (d + 1) ck
        ) (.to d [])
      ) (.to d [])
    ) 0 (k (n + 4))
  | .listP .., _, _, _ => .stuck
  | .tags i _ f, n, d, k => .op (.fieldAddr c.sTree T 4) none [] <| .op (.load c.sTagL (.tmp n)) none [] <| .op (.call { callee := .builtin .len, args := ⟨[.tmp (n + 1)]⟩, argTypes := ⟨[c.sTagL]⟩ }) none [] <|
    .loop d [.const (.int .i64 0)] <| .op (.binOp .lss c.tInt (.tmp (n + 3)) (.tmp (n + 2)) c.tInt) none [] <|
    .cond (.tmp (n + 4)) (
      .op (.indexAddr c.sTagL (.tmp (n + 1)) (.tmp (n + 3))) none [] <| .op (.load c.sTag (.tmp (n + 5))) none [] <| .op (.alloc c.sTag) none [] <| .op (.store c.sTag (.tmp (n + 7)) (.tmp (n + 6))) none [] <|
      match ck with
      | true => .draw <| .pur (.nilCheck V) none <| .pur (.fieldAddr S (.tmp (n + 9)) i) none <| .pur (.fieldAddr c.sTag (.tmp (n + 7)) 0) none <| .lok (.load c.tU32 (.tmp (n + 11))) none <| .pur (.fieldAddr c.sTag (.tmp (n + 7)) 1) none <| .lok (.load c.tBytes (.tmp (n + 13))) none <|
        .op (callOp f [.tmp (n + 10), .tmp (n + 12), .tmp (n + 14)]) none [] <| .op (.binOp .add c.tInt (.tmp (n + 3)) (.const (.int .i64 1)) c.tInt) none [] <| .to d [.tmp (n + 16)]
      | false => .op (.fieldAddr S V i) none [] <| .op (.fieldAddr c.sTag (.tmp (n + 7)) 0) none [] <| .op (.load c.tU32 (.tmp (n + 10))) none [] <| .op (.fieldAddr c.sTag (.tmp (n + 7)) 1) none [] <| .op (.load c.tBytes (.tmp (n + 12))) none [] <|
        .op (callOp f [.tmp (n + 9), .tmp (n + 11), .tmp (n + 13)]) none [] <| .op (.binOp .add c.tInt (.tmp (n + 3)) (.const (.int .i64 1)) c.tInt) none [] <| .to d [.tmp (n + 15)]
    ) (k (n + 5))

/-- How many loops stay open behind a step. -/
def FStep.dl : FStep → Nat
  | .tags .. => 1
  | _ => 0

def gFSteps (c : Nums) (s : SN) (ck : Bool) (S : Nat) (V T : Operand) : List FStep → Nat → Nat → (Nat → Tr) → Tr
  | [], n, _, k => k n
  | x :: r, n, d, k => gFStep c s ck S V T x n d fun n' => gFSteps c s ck S V T r n' (d + x.dl) k

def gFill (c : Nums) (s : SN) (S : Nat) (ss : List FStep) : Tr := .op (.box c.sTree (.tmp 1)) none [] <| gFSteps c s true S (.tmp 0) (.tmp 2) ss 3 0 fun _ => .ret []

def gMake (c : Nums) (s : SN) (S : Nat) (ss : List FStep) : Tr := .op (.box c.sTree (.tmp 0)) none [] <| .op (.alloc S) none [] <| .op (.alloc S) none [] <|
  gFSteps c s false S (.tmp 3) (.tmp 1) ss 4 0 fun n => .op (.load S (.tmp 3)) none [] <| .op (.store S (.tmp 2) (.tmp n)) none [] <| .ret [(.tmp 2, some S)]

end Go.Kf

namespace Go.Kf

open Go

/-- Alike below n. -/
def Agree (n : Nat) (ρ ρ' : Nat → Value) : Prop := ∀ y, opBelow n y → ev ρ' y = ev ρ y

theorem Agree.refl {n : Nat} {ρ : Nat → Value} : Agree n ρ ρ := fun _ _ => rfl

theorem Agree.ex {n : Nat} {ρ : Nat → Value} {vs : List Value} : Agree n ρ (ext ρ n vs) := fun _ h => ev_ext h

theorem Agree.trans {n m : Nat} {ρ ρ1 ρ2 : Nat → Value} (h1 : Agree n ρ ρ1) (h2 : Agree m ρ1 ρ2) (hle : n ≤ m) : Agree n ρ ρ2 := fun y h => (h2 y (h.mono hle)).trans (h1 y h)

theorem Agree.ex' {n m : Nat} {ρ ρ1 : Nat → Value} {vs : List Value} (h1 : Agree n ρ ρ1) (hle : n ≤ m) : Agree n ρ (ext ρ1 m vs) := h1.trans Agree.ex hle

theorem Agree.tmp {n m : Nat} {ρ ρ1 : Nat → Value} (h1 : Agree n ρ ρ1) (hm : m < n) : ρ1 m = ρ m := h1 (.tmp m) hm

mutual
def PT.tidy : PT → Prop
  | .mk n _ _ l u => IntKind.i64.wrap n = n ∧ (u.map (·.1)).Nodup ∧ (∀ p ∈ u, p.1 < 2 ^ 32) ∧ PT.tidys l
def PT.tidys : List PT → Prop
  | [] => True
  | t :: r => t.tidy ∧ PT.tidys r
end

theorem PT.tidys_mem : ∀ {l : List PT}, PT.tidys l → ∀ t ∈ l, t.tidy
  | [], _, t, h => by cases h
  | x :: l, ⟨h1, h2⟩, t, h => by
    rcases List.mem_cons.1 h with rfl | h
    · exact h1
    · exact PT.tidys_mem h2 t h

theorem PT.tidys_of : ∀ {l : List PT}, (∀ t ∈ l, t.tidy) → PT.tidys l
  | [], _ => trivial
  | x :: _, h => ⟨h x (by simp), PT.tidys_of fun t ht => h t (by simp [ht])⟩

theorem PT.tidy.n {t : PT} (h : t.tidy) : IntKind.i64.wrap t.n = t.n := by cases t; exact h.1

theorem PT.tidy.nodup {t : PT} (h : t.tidy) : (t.u.map (·.1)).Nodup := by cases t; exact h.2.1

theorem PT.tidy.keys {t : PT} (h : t.tidy) : ∀ p ∈ t.u, p.1 < 2 ^ 32 := by cases t; exact h.2.2.1

theorem PT.tidy.l {t : PT} (h : t.tidy) : ∀ x ∈ t.l, x.tidy := by cases t; exact PT.tidys_mem h.2.2.2

theorem PT.tidy_zero : PT.zero.tidy := ⟨rfl, List.nodup_nil, (fun p hp => by cases hp), trivial⟩

theorem PT.tidy.at {t : PT} (h : t.tidy) (i : Nat) : (pAt t i).tidy := by
  unfold pAt
  rw [List.getD_eq_getElem?_getD]
  cases hi : t.l[i]? with
  | none => exact PT.tidy_zero
  | some x => exact h.l x (List.mem_of_getElem? hi)

/-- The struct's cells, and what they say; nothing but the struct and what is new has been written. -/
structure FlC (w0 wS : World) (V : Nat) (w : World) (fs : List FV) (cs : List Value) : Prop where
  has : Has w V cs
  fs : FsA (FitA w0 wS) w fs cs
  k : Keeps [V] wS w

/-- Where a function that fills stands: the struct, the tree. -/
structure FCtx (w0 wS : World) (V tb : Nat) (t : PT) (tcs : List Value) : Prop where
  tc : TreeC w0 t tcs
  tidy : t.tidy
  lo : w0.heap.size ≤ V
  hi : V < wS.heap.size
  htb : Has wS tb tcs
  ne : tb ≠ V
  k0 : Keeps [] w0 wS

section

variable {w0 wS w w' : World} {V tb : Nat} {t : PT} {tcs cs : List Value} {fs : List FV}

theorem FCtx.notA (C : FCtx w0 wS V tb t tcs) : ¬ FitA w0 wS V := fun h => by
  have h1 := C.lo
  have h2 := C.hi
  rcases h with h | h <;> omega

theorem FCtx.base (C : FCtx w0 wS V tb t tcs) (h : Keeps [V] wS w) : Keeps [] w0 w := ((C.k0.mono (by simp)).trans h).less fun x hx => .inr (by simp only [List.mem_singleton] at hx; have := C.lo; omega)

theorem FCtx.tree (C : FCtx w0 wS V tb t tcs) (h : Keeps [V] wS w) : Has w tb tcs := C.htb.keep h (by simp only [List.mem_singleton]; exact C.ne)

theorem FlC.keep (h : FlC w0 wS V w fs cs) (C : FCtx w0 wS V tb t tcs) (kk : Keeps [] w w') : FlC w0 wS V w' fs cs :=
  ⟨h.has.keep kk (by simp), FsA.keep kk (fun b hb => by cases hb) (fun _ h _ => h) _ _ h.fs, h.k.trans (kk.mono (by simp))⟩

/-- A field is set. -/
theorem FlC.put {P : Program} {S i off : Nat} {ts : List Ty} {ty : Ty} {f' : FV} {m' : List Value} (h : FlC w0 wS V w fs cs) (C : FCtx w0 wS V tb t tcs) (hw : fs.map FV.wd = ts.map Ty.wd) (hF : FieldTy P S ts i off ty) (hl : f'.wd = ty.wd) (hml : m'.length = ty.wd) :
    off + m'.length ≤ cs.length ∧ (fs.set i f').map FV.wd = ts.map Ty.wd ∧ ∀ w', Keeps [V] w w' → FAtA (FitA w0 wS) w' f' m' → Has w' V (splice cs off m') → FlC w0 wS V w' (fs.set i f') (splice cs off m') := by
  have hti : (ts.map Ty.wd)[i]? = some ty.wd := by rw [List.getElem?_map, hF.2.2]; rfl
  have hfi : (fs.map FV.wd)[i]? = some ty.wd := by rw [hw]; exact hti
  rw [List.getElem?_map] at hfi
  obtain ⟨f, hf, hfw⟩ := Option.map_eq_some_iff.1 hfi
  have key : ∀ w', Keeps [V] w w' → ∃ a m z, cs = a ++ m ++ z ∧ a.length = off ∧ m.length = ty.wd ∧ ∀ (f' : FV) (m' : List Value), FAtA (FitA w0 wS) w' f' m' → FsA (FitA w0 wS) w' (fs.set i f') (a ++ m' ++ z) := fun w' kk => by
    have hfs' : FsA (FitA w0 wS) w' fs cs := FsA.keep kk (fun b hb => by simp only [List.mem_singleton] at hb; rw [hb]; exact C.notA) (fun _ h _ => h) _ _ h.fs
    obtain ⟨a, m, z, e, ha, hm, hset⟩ := hfs'.split hf
    refine ⟨a, m, z, e, ?_, ?_, hset⟩
    · rw [ha, wds_eq, List.map_take, hw]; exact hF.2.1
    · rw [FAtA.len f m hm]; exact hfw
  obtain ⟨a, m, z, e, ha, hm, _⟩ := key w (Keeps.refl)
  refine ⟨by rw [e, List.length_append, List.length_append, ha, hm, hml]; omega, map_wd_set hw hti hl, fun w' kk hfa hh => ⟨hh, ?_, h.k.trans kk⟩⟩
  obtain ⟨a, m, z, e, ha, hm, hset⟩ := key w' kk
  have : splice cs off m' = a ++ m' ++ z := by
    rw [e, ← ha]
    exact splice_mid (by rw [hm, hml])
  rw [this]
  exact hset f' m' hfa

end

section

variable {P : Program} {c : Nums} {s : SN} {R : Value → World → Prop} {Γ : List (List Value → World → Prop)} {n : Nat} {ρ : Nat → Value} {w w0 : World}

/-- A field is stored. -/
theorem s_fset {ck : Bool} {S i ty off V : Nat} {Vo x : Operand} {cs m' : List Value} {k : Nat → Tr} (hfo : fieldOff P S i = some off) (hsz : (P.info? ty).map (·.size) = some m'.length) (hV : ev ρ Vo = ptr V) (hbV : opBelow n Vo) (hx : (ev ρ x).cells = ⟨m'⟩) (hbx : opBelow n x) (h1 : ∀ u ∈ m', u.oneCell' = true) (hh : Has w V cs) (hl : off + m'.length ≤ cs.length)
    (hk : ∀ n' ρ' w', n ≤ n' → Agree n ρ ρ' → Has w' V (splice cs off m') → Keeps [V] w w' → (k n').sem P R Γ n' ρ' w') : (gFSet ck S i ty Vo x n k).sem P R Γ n ρ w := by
  cases ck with
  | true =>
    refine s_val (v_nilCheck hV) (s_val (v_field (b := V) (o := 0) hfo ext_at) ?_)
    obtain ⟨w', e1, h2, k2⟩ := a_storeCells (P := P) (ρ := ext (ext ρ n [ptr V]) (n + 1) [.pointer (some ⟨V, 0 + off, none⟩)]) (w := w) (t := ty) (x := .tmp (n + 1)) (y := x) (b := V) (o := 0 + off) (vs := m') hsz ext_at (by rw [ev_ext' hbx (by omega), ev_ext hbx]; exact hx) hh (by omega) h1
    rw [Nat.zero_add] at h2
    exact s_unit e1 (fun p hp => (by cases hp)) (hk (n + 3) _ w' (by omega) (((Agree.ex).ex' (by omega)).ex' (by omega)) h2 k2)
  | false =>
    refine s_val (v_field (b := V) (o := 0) hfo hV) ?_
    obtain ⟨w', e1, h2, k2⟩ := a_storeCells (P := P) (ρ := ext ρ n [.pointer (some ⟨V, 0 + off, none⟩)]) (w := w) (t := ty) (x := .tmp n) (y := x) (b := V) (o := 0 + off) (vs := m') hsz ext_at (by rw [ev_ext hbx]; exact hx) hh (by omega) h1
    rw [Nat.zero_add] at h2
    exact s_unit e1 (fun p hp => (by cases hp)) (hk (n + 2) _ w' (by omega) ((Agree.ex).ex' (by omega)) h2 k2)

/-- The tree of a field. -/
theorem s_at {T : Operand} {q tb : Nat} {k : Tr} {t : PT} {tcs : List Value} (S : SpFacts P c s) (hAt : treeIn P s.at_ noOrc [.tmp 0, .tmp 1] 2 = tAt c) (htc : TreeC w0 t tcs) (htb : Has w tb tcs) (k0 : Keeps [] w0 w) (hT : ev ρ T = ptr tb)
    (hk : ∀ ρ' w' acs, Agree n ρ ρ' → ρ' (n + 1) = .agg ⟨acs⟩ → TreeC w0 (pAt t q) acs → Keeps [] w w' → k.sem P R Γ (n + 2) ρ' w') : (gAt c s T q n k).sem P R Γ n ρ w := by
  have htl := htc.len
  refine s_lok (l_loadN (b := tb) (o := 0) S.ty.agg hT htb (by omega)) ?_
  rw [take0 htl]
  refine s_callx (at0_gives S hAt k0 htc q) (by
    simp only [List.map_cons, List.map_nil]
    rw [show ev (ext ρ n [.agg ⟨tcs⟩]) (.tmp n) = .agg ⟨tcs⟩ from ext_at]
    rfl) fun u w' ⟨kk, acs, hu, hac⟩ => ?_
  subst hu
  exact hk _ w' acs ((Agree.ex).ex' (by omega)) ext_at hac kk

/-- What a value's making asks. -/
def FkOk (P : Program) (ty f : Nat) : FK → Prop
  | .num k => P.underlying ty = some (.int k)
  | .ntext => TextOf P f
  | .octs => OctetsOf P f
  | .uuid => Sixteen P f
  | _ => True

/-- The cells of a struct value. -/
structure FillFacts (P : Program) (c : Nums) : Prop where
  c0 : cellOf P c.sTree 0 = some 0
  c1 : cellOf P c.sTree 1 = some 1
  c2 : cellOf P c.sTree 2 = some 2
  c3 : cellOf P c.sTree 3 = some 3

theorem pId_length16 (l : List UInt8) : (pId l).length = 16 := by simp [pId]

theorem s_gval {fk : FK} {ty f a : Nat} {K : Nat → Tr} {wS : World} {y : PT} {acs : List Value} (S : SpFacts P c s) (X : FillFacts P c) (hf : FkOk P ty f fk) (ha : ρ a = .agg ⟨acs⟩) (hac : TreeC w0 y acs) (htd : y.tidy) (k0 : Keeps [] w0 w) (hS : wS.heap.size ≤ w.heap.size)
    (hk : ∀ x ρ' w' m', a < x → Agree (a + 1) ρ ρ' → (ev ρ' (.tmp x)).cells = ⟨m'⟩ → (∀ u ∈ m', u.oneCell' = true) → FAtA (FitA w0 wS) w' (fillV fk y) m' → Keeps [] w w' → (K x).sem P R Γ (x + 1) ρ' w') : (gVal c ty f a K fk).sem P R Γ (a + 1) ρ w := by
  obtain ⟨sv, lv, uv, lcs, ucs, e, h1, h2, h3, h4, h5⟩ := hac.cells
  have hn : acs[0]? = some (.int .i64 y.n) := by rw [e]; rfl
  have hs : acs[1]? = some sv := by rw [e]; rfl
  have one : ∀ {v : Value}, v.oneCell' = true → ∀ u ∈ [v], u.oneCell' = true := fun h u hu => by simp only [List.mem_singleton] at hu; rw [hu]; exact h
  have hnum : ∀ k : IntKind, P.underlying ty = some (.int k) → (∀ x ρ' w' m', a < x → Agree (a + 1) ρ ρ' → (ev ρ' (.tmp x)).cells = ⟨m'⟩ → (∀ u ∈ m', u.oneCell' = true) → FAtA (FitA w0 wS) w' (fillV (.num k) y) m' → Keeps [] w w' → (K x).sem P R Γ (x + 1) ρ' w') →
      (Tr.op (.field c.sTree (.tmp a) 0) none [] <| Tr.op (.convert c.tI64 ty (.tmp (a + 1))) none [] (K (a + 2))).sem P R Γ (a + 1) ρ w := fun k hty hk => by
    refine s_val (v_part X.c0 ha hn) ?_
    refine s_val (v_conv (k1 := .i64) (a := y.n) S.ty.i64 hty ext_at) ?_
    refine hk (a + 2) _ w [.int k (k.wrap y.n)] (by omega) ((Agree.ex).ex' (by omega)) (congrArg Value.cells (show ext _ _ _ (a + 2) = _ from ext_at)) (one rfl) ⟨rfl, rfl⟩ .refl
  cases fk with
  | num k =>
    cases k with
    | i64 =>
      refine s_val (v_part X.c0 ha hn) ?_
      refine hk (a + 1) _ w [.int .i64 y.n] (by omega) Agree.ex (congrArg Value.cells (show ext _ _ _ (a + 1) = _ from ext_at)) (one rfl) ⟨by rw [htd.n], rfl⟩ .refl
    | i8 => exact hnum .i8 hf hk
    | i16 => exact hnum .i16 hf hk
    | i32 => exact hnum .i32 hf hk
    | u8 => exact hnum .u8 hf hk
    | u16 => exact hnum .u16 hf hk
    | u32 => exact hnum .u32 hf hk
    | u64 => exact hnum .u64 hf hk
  | bool =>
    refine s_val (v_part X.c0 ha hn) ?_
    refine s_val (v_bits (op := .and) (kk := .i64) (a := y.n) (b := 1) (.inl rfl) ext_at rfl (and1_i64 y.n)) ?_
    refine s_val (v_cmp (kk := .i64) (a := y.n % 2) (b := 1) (r := y.n % 2 == 1) ext_at rfl rfl) ?_
    refine hk (a + 3) _ w [.bool (y.n % 2 == 1)] (by omega) (((Agree.ex).ex' (by omega)).ex' (by omega)) (congrArg Value.cells (show ext _ _ _ (a + 3) = _ from ext_at)) (one rfl) ⟨rfl, rfl⟩ .refl
  | text =>
    refine s_val (v_part X.c1 ha hs) ?_
    refine s_lok (l_bytesStringRo S.rd.bytes S.rd.u8 S.rd.str ext_at (h1.keep k0)) ?_
    refine hk (a + 2) _ w [.string (strOf y.s)] (by omega) ((Agree.ex).ex' (by omega)) (congrArg Value.cells (show ext _ _ _ (a + 2) = _ from ext_at)) (one rfl) rfl .refl
  | ntext =>
    refine s_callx (hf w y acs (TreeC.keep k0 _ _ hac)) (by simp only [List.map_cons, List.map_nil]; rw [show ev ρ (.tmp a) = .agg ⟨acs⟩ from ha]) fun u w' ⟨hu, kk⟩ => ?_
    have huo : u.oneCell' = true := by
      revert hu
      cases (if y.null then none else some y.s) with
      | none => intro hu; simp only [NStrA] at hu; rw [hu]; rfl
      | some l => rintro ⟨b, _, hb, _⟩; rw [hb]; rfl
    refine hk (a + 1) _ w' [u] (by omega) Agree.ex ?_ (one huo) ⟨u, rfl, ?_⟩ kk
    · rw [show ev (ext ρ (a + 1) [u]) (.tmp (a + 1)) = u from ext_at]
      cases u <;> first | rfl | (simp [Value.oneCell'] at huo; done)
    · revert hu
      cases (if y.null then none else some y.s) with
      | none => exact id
      | some l => rintro ⟨b, hb, e1, e2⟩; exact ⟨b, .inr (by omega), e1, e2⟩
  | octs =>
    refine s_callx (hf w y acs (TreeC.keep k0 _ _ hac)) (by simp only [List.map_cons, List.map_nil]; rw [show ev ρ (.tmp a) = .agg ⟨acs⟩ from ha]) fun u w' ⟨hu, kk⟩ => ?_
    have huo : u.oneCell' = true := hu.1.one
    refine hk (a + 1) _ w' [u] (by omega) Agree.ex ?_ (one huo) ?_ kk
    · rw [show ev (ext ρ (a + 1) [u]) (.tmp (a + 1)) = u from ext_at]
      cases u <;> first | rfl | (simp [Value.oneCell'] at huo; done)
    · have hA : ∀ b ∈ blkOf u, FitA w0 wS b := fun b hb => .inr (by have := hu.2.2 b hb; omega)
      show FAtA _ _ (if y.null = true then FV.octs true [] else FV.octs false y.s) [u]
      cases hnl : y.null with
      | true => rw [hnl] at hu; exact ⟨u, rfl, hu.1, hu.2.1, hA⟩
      | false => rw [hnl] at hu; exact ⟨u, rfl, hu.1, hu.2.1, hA⟩
  | uuid =>
    refine s_val (v_part X.c1 ha hs) ?_
    refine s_callx (hf w sv y.s (h1.keep k0)) (by simp only [List.map_cons, List.map_nil]; rw [show ev (ext ρ (a + 1) [sv]) (.tmp (a + 1)) = sv from ext_at]) fun u w' ⟨hu, kk⟩ => ?_
    subst hu
    refine hk (a + 2) _ w' (bcells (pId y.s)) (by omega) ((Agree.ex).ex' (by omega)) (congrArg Value.cells (show ext _ _ _ (a + 2) = _ from ext_at)) (bcells_one _) ⟨rfl, pId_length16 _⟩ kk

end

end Go.Kf

namespace Go.Kf

open Go

section

variable {A : Nat → Prop} {w : World}

theorem NStrA.one {o : Option (List UInt8)} {v : Value} (h : NStrA A w o v) : v.oneCell' = true := by
  cases o with
  | none => simp only [NStrA] at h; rw [h]; rfl
  | some l => obtain ⟨b, _, e, _⟩ := h; rw [e]; rfl

theorem TagsA.one {m : TM} {v : Value} (h : TagsA A w m v) : v.oneCell' = true := by
  rcases h with ⟨rfl, _⟩ | ⟨_, _, _, _, rfl, _⟩ <;> rfl

theorem ones_one {v : Value} (h : v.oneCell' = true) : ∀ u ∈ [v], u.oneCell' = true := fun u hu => by simp only [List.mem_singleton] at hu; rw [hu]; exact h

mutual
theorem FAtA.ones : ∀ (f : FV) (cs : List Value), FAtA A w f cs → ∀ u ∈ cs, u.oneCell' = true
  | .one _, _, ⟨e, h⟩ => by subst e; exact ones_one h
  | .uuid l, _, ⟨e, _⟩ => by subst e; exact bcells_one l
  | .text _, _, e => by simp only [FAtA] at e; subst e; exact ones_one rfl
  | .ntext _, _, ⟨v, e, h⟩ => by subst e; exact ones_one h.one
  | .octs _ _, _, ⟨v, e, h⟩ => by subst e; exact ones_one h.1.one
  | .tags _, _, ⟨v, e, h⟩ => by subst e; exact ones_one h.one
  | .list _ _, _, .inl ⟨_, e, _⟩ => by subst e; exact ones_one rfl
  | .list _ _, _, .inr ⟨_, _, _, _, _, e, _⟩ => by subst e; exact ones_one rfl
  | .ptr none, _, e => by simp only [FAtA] at e; subst e; exact ones_one rfl
  | .ptr (some _), _, ⟨_, _, _, e, _⟩ => by subst e; exact ones_one rfl
  | .sub fs, cs, h => FsA.ones fs cs h
theorem FsA.ones : ∀ (fs : List FV) (cs : List Value), FsA A w fs cs → ∀ u ∈ cs, u.oneCell' = true
  | [], _, h => by simp only [FsA] at h; subst h; intro u hu; cases hu
  | f :: fs, _, ⟨c1, c2, e, h1, h2⟩ => by
    subst e; intro u hu
    rcases List.mem_append.1 hu with h | h
    · exact FAtA.ones f c1 h1 u h
    · exact FsA.ones fs c2 h2 u h
end

end

theorem tyWds_eq : ∀ ts : List Ty, tyWds ts = (ts.map Ty.wd).sum
  | [] => rfl
  | t :: ts => by simp [tyWds, tyWds_eq ts]

/-- A step of the filling, as it is to be. -/
def SemF (P : Program) (w0 wS : World) (V tb : Nat) (ts : List Ty) (Vo T : Operand) (g : Nat → Nat → (Nat → Tr) → Tr) (pre : List FV → Prop) (e : List FV → List FV) (dl : Nat) : Prop :=
  ∀ (R : Value → World → Prop) (Γ : List (List Value → World → Prop)) (n : Nat) (ρ : Nat → Value) (w : World) (fs : List FV) (cs : List Value) (k : Nat → Tr), fs.map FV.wd = ts.map Ty.wd → pre fs → FlC w0 wS V w fs cs → ev ρ Vo = ptr V → opBelow n Vo → ev ρ T = ptr tb → opBelow n T →
    (∀ (n' : Nat) (Δ : List (List Value → World → Prop)) (ρ' : Nat → Value) (w' : World) (cs' : List Value), n ≤ n' → Δ.length = dl → Agree n ρ ρ' → FlC w0 wS V w' (e fs) cs' → (e fs).map FV.wd = ts.map Ty.wd → (k n').sem P R (Γ ++ Δ) n' ρ' w') → (g n Γ.length k).sem P R Γ n ρ w

/-- A function that makes a part out of a tree. -/
def MakeOf (P : Program) (f : Nat) (us : List Ty) (g : PT → List FV) : Prop := ∀ (w0 w : World) (y : PT) (cs : List Value), TreeC w0 y cs → y.tidy → Keeps [] w0 w →
  Gives P f [.agg ⟨cs⟩] w fun u w' => (∃ ucs, u = .agg ⟨ucs⟩ ∧ FsA (FitA w0 w) w' (g y) ucs ∧ (g y).map FV.wd = us.map Ty.wd) ∧ Keeps [] w w'

def FStep.idx : FStep → Nat
  | .prim _ i _ _ _ _ => i
  | .listS i _ _ _ _ _ _ _ => i
  | .listP _ i _ _ _ _ => i
  | .sub i _ _ _ _ _ _ => i
  | .tags i _ _ => i

/-- What a step makes of the fields. -/
def setF (st : FStep) (t : PT) (fs : List FV) : List FV := fs.set st.idx (fillVal st t (fvGet fs st.idx))

def FStepOk (P : Program) (c : Nums) (S : Nat) (ts : List Ty) : FStep → Prop
  | .prim fk i _ off ty f => FieldTy P S ts i off fk.ty ∧ (P.info? ty).map (·.size) = some fk.ty.wd ∧ FkOk P ty f fk
  | .sub i _ off ty f zs ss => ∃ us, FieldTy P S ts i off (.sub us) ∧ (P.info? ty).map (·.size) = some (Ty.sub us).wd ∧ MakeOf P f us fun y => fillVals ss y zs
  | .listS i _ off tySl T f zs ss => ∃ us, FieldTy P S ts i off (.list us) ∧ oneTy P tySl = true ∧ P.underlying tySl = some (.slice T) ∧ RowFacts P T (us.map Ty.wd).sum ∧ MakeOf P f us fun y => fillVals ss y zs
  | .listP .. => False
  | .tags i off f => FieldTy P S ts i off .tags ∧ TagSetY P f

section

variable {P : Program} {c : Nums} {s : SN} {S : Nat} {ts : List Ty} {w0 wS : World} {V tb : Nat} {t : PT} {tcs : List Value} {ck : Bool} {Vo T : Operand}

theorem fillV_wd (fk : FK) (y : PT) : (fillV fk y).wd = fk.ty.wd := by
  cases fk with
  | octs =>
    show (if y.null = true then FV.octs true [] else FV.octs false y.s).wd = _
    split <;> rfl
  | _ => rfl

theorem semF_prim {fk : FK} {i q off ty f : Nat} (S0 : SpFacts P c s) (X : FillFacts P c) (hAt : treeIn P s.at_ noOrc [.tmp 0, .tmp 1] 2 = tAt c) (C : FCtx w0 wS V tb t tcs) (h : FStepOk P c S ts (.prim fk i q off ty f)) :
    SemF P w0 wS V tb ts Vo T (gFStep c s ck S Vo T (.prim fk i q off ty f)) (fun _ => True) (setF (.prim fk i q off ty f) t) 0 := by
  obtain ⟨hF, hsz, hfk⟩ := h
  intro R Γ n ρ w fs cs k hw _ hfl hV hbV hT hbT hk
  simp only [gFStep]
  refine s_at (t := t) S0 hAt C.tc (C.tree hfl.k) (C.base hfl.k) hT fun ρ1 w1 acs ag1 ha hac k1 => ?_
  have hfl1 := hfl.keep C k1
  refine s_gval (wS := wS) S0 X hfk ha hac (C.tidy.at q) (C.base hfl1.k) hfl1.k.size fun x ρ2 w2 m' hx ag2 hm1 hm2 hm3 k2 => ?_
  have hfl2 := hfl1.keep C k2
  have hml : m'.length = fk.ty.wd := by rw [FAtA.len _ _ hm3, fillV_wd]
  obtain ⟨hl, hwd, hput⟩ := hfl2.put (f' := fillV fk (pAt t q)) (m' := m') C hw hF (fillV_wd _ _) hml
  have ag : Agree n ρ ρ2 := ag1.trans ag2 (by omega)
  refine s_fset (V := V) (m' := m') (n := x + 1) (Vo := Vo) (x := .tmp x) hF.1 (by rw [hml]; exact hsz) ((ag Vo hbV).trans hV) (hbV.mono (by omega)) hm1 (by simp [opBelow]) hm2 hfl2.has hl fun n' ρ' w' hle ag' hh' kk' => ?_
  have hfl' := hput w' kk' (FAtA.keep kk' (fun b hb => by simp only [List.mem_singleton] at hb; rw [hb]; exact C.notA) (fun _ h _ => h) _ _ hm3) hh'
  have := hk n' [] ρ' w' _ (by omega) rfl (ag.trans ag' (by omega)) hfl' hwd
  simpa using this

theorem semF_sub {i q off ty f : Nat} {zs : List FV} {ss : List FStep} (S0 : SpFacts P c s) (hAt : treeIn P s.at_ noOrc [.tmp 0, .tmp 1] 2 = tAt c) (C : FCtx w0 wS V tb t tcs) (h : FStepOk P c S ts (.sub i q off ty f zs ss)) :
    SemF P w0 wS V tb ts Vo T (gFStep c s ck S Vo T (.sub i q off ty f zs ss)) (fun _ => True) (setF (.sub i q off ty f zs ss) t) 0 := by
  obtain ⟨us, hF, hsz, hM⟩ := h
  intro R Γ n ρ w fs cs k hw _ hfl hV hbV hT hbT hk
  simp only [gFStep]
  refine s_at (t := t) S0 hAt C.tc (C.tree hfl.k) (C.base hfl.k) hT fun ρ1 w1 acs ag1 ha hac k1 => ?_
  have hfl1 := hfl.keep C k1
  refine s_callx (hM w0 w1 (pAt t q) acs hac (C.tidy.at q) (C.base hfl1.k)) (by simp only [List.map_cons, List.map_nil]; rw [show ev ρ1 (.tmp (n + 1)) = .agg ⟨acs⟩ from ha]) fun u w2 ⟨⟨ucs, hu, hfs, hgw⟩, k2⟩ => ?_
  subst hu
  have hfl2 := hfl1.keep C k2
  have hs1 := hfl1.k.size
  have hA : FsA (FitA w0 wS) w2 (fillVals ss (pAt t q) zs) ucs := FsA.keep (M := []) .refl (fun b hb => by cases hb) (fun b h _ => h.imp id fun h => Nat.le_trans hs1 h) _ _ hfs
  have hwd1 : (FV.sub (fillVals ss (pAt t q) zs)).wd = (Ty.sub us).wd := by
    show wds (fillVals ss (pAt t q) zs) = tyWds us
    rw [wds_eq, hgw, tyWds_eq]
  have hml : ucs.length = (Ty.sub us).wd := by rw [← hwd1]; exact FsA.len _ _ hfs
  obtain ⟨hl, hwd, hput⟩ := hfl2.put (f' := .sub (fillVals ss (pAt t q) zs)) (m' := ucs) C hw hF hwd1 hml
  have ag : Agree n ρ (ext ρ1 (n + 2) [.agg ⟨ucs⟩]) := ag1.ex' (by omega)
  refine s_fset (V := V) (m' := ucs) (n := n + 3) (Vo := Vo) (x := .tmp (n + 2)) hF.1 (by rw [hml]; exact hsz) ((ag Vo hbV).trans hV) (hbV.mono (by omega)) (by rw [show ev (ext ρ1 (n + 2) [.agg ⟨ucs⟩]) (.tmp (n + 2)) = .agg ⟨ucs⟩ from ext_at]; rfl) (by simp [opBelow]) (FsA.ones _ _ hfs) hfl2.has hl fun n' ρ' w' hle ag' hh' kk' => ?_
  have hfl' := hput w' kk' (FsA.keep kk' (fun b hb => by simp only [List.mem_singleton] at hb; rw [hb]; exact C.notA) (fun _ h _ => h) _ _ hA) hh'
  have := hk n' [] ρ' w' _ (by omega) rfl (ag.trans ag' (by omega)) hfl' hwd
  simpa using this

end

end Go.Kf

namespace Go.Kf

open Go

section

variable {P : Program} {c : Nums} {s : SN} {S : Nat} {ts : List Ty} {w0 wS : World} {V tb : Nat} {t : PT} {tcs : List Value} {ck : Bool} {Vo T : Operand}

theorem semF_tags {i off f : Nat} (S0 : SpFacts P c s) (C : FCtx w0 wS V tb t tcs) (h : FStepOk P c S ts (.tags i off f)) :
    SemF P w0 wS V tb ts Vo T (gFStep c s ck S Vo T (.tags i off f)) (fun fs => fs[i]? = some (.tags [])) (setF (.tags i off f) t) 1 := by
  obtain ⟨hF, hSet⟩ := h
  intro R Γ n ρ w fs cs k hw hpre hfl hV hbV hT hbT hk
  obtain ⟨sv, lv, uv, lcs, ucs, etc, h1, h2, h3, h4, h5⟩ := C.tc.cells
  obtain ⟨a, cp, eu⟩ := h4.form
  obtain ⟨hl, hwd, hput⟩ := hfl.put (f' := .tags t.u) (m' := [.map none]) C hw hF rfl rfl
  have hoff : off < cs.length := hl
  have hsw := hfl.k.size
  have hlo := C.lo
  have hhi := C.hi
  -- what lies there
  have h0 : cs[off]? = some (.map none) := by
    obtain ⟨a', m, z, e, ha, hm, _⟩ := hfl.fs.split hpre
    obtain ⟨v, rfl, hv⟩ := hm
    have ha2 : a'.length = off := by rw [ha, wds_eq, List.map_take, hw]; exact hF.2.1
    rcases hv with ⟨rfl, _⟩ | ⟨_, _, _, _, _, _, _, _, _, _, _, hne⟩
    · rw [e, ← ha2, List.append_assoc, List.getElem?_append_right (Nat.le_refl _), Nat.sub_self]; rfl
    · exact absurd rfl hne
  have hset0 : cs.set off (.map none) = cs := by
    rw [← (List.getElem?_eq_some_iff.1 h0).2]; exact List.set_getElem_self hoff
  simp only [gFStep]
  refine s_fl S0.ty.f4 S0.ty.oneTagL hT rfl (C.tree hfl.k) (show tcs[0 + 4]? = some uv by rw [etc]; rfl) ?_
  refine s_val (v_len (a := a) (l := t.u.length) (c := cp) S0.ty.slTag (ext_at.trans eu)) ?_
  refine s_count (n := n + 3) (q := n + 2) (kk := .i64) (m := t.u.length) (ri := []) (Γ := Γ) (fun j w' => ∃ mv, Has w' V (cs.set off mv) ∧ TagsY w0.heap.size w.heap.size w' (t.u.take j) mv ∧ Keeps [V] w w') (by omega) ext_at
    ⟨.map none, by rw [hset0]; exact hfl.has, .inl ⟨rfl, by simp⟩, .refl⟩ ?_ ?_
  · rintro j hj w' vr ⟨mv, hh, hty, kk⟩ hvr J hJ
    obtain rfl : vr = [] := List.eq_nil_of_length_eq_zero hvr
    have hj' : j < t.u.length := by omega
    have kb : Keeps [] w0 w' := C.base (hfl.k.trans kk)
    refine s_eachT (w0 := w0) (tv := uv) (m := t.u) (j := j) S0 (h4.keep kb) h5 (by
      show ext _ (n + 3) _ (n + 1) = _
      rw [ext_lt (by omega), ext_lt (by omega)]; exact ext_at) (by
      show ext _ (n + 3) _ (n + 3) = _
      exact ext_at) hj' fun w6 a6 b vv hh6 hvv k6 hb6 => ?_
    have sk := kk.size
    -- the last part, however the operands were got
    have fin : ∀ (w7 w8 : World) (mv' : Value), Keeps [] w' w7 → (∃ M, Keeps M w7 w8 ∧ ∀ x ∈ M, x = V ∨ w.heap.size ≤ x) → Has w8 V ((cs.set off mv).set off mv') → TagsY w0.heap.size w.heap.size w8 (tmSet (t.u.take j) t.u[j].1 t.u[j].2) mv' → J [.int .i64 ((j + 1 : Nat) : Int)] w8 := by
      rintro w7 w8 mv' k7 ⟨M, k8, hM⟩ hh8 hty8
      rw [List.set_set] at hh8
      rw [tmSet_take C.tidy.nodup hj'] at hty8
      have kall : Keeps [V] w w8 := ((((kk.trans (k7.mono (by simp))).mono fun x hx => List.mem_append_left _ hx).trans (k8.mono fun x hx => List.mem_append_right _ hx)) : Keeps ([V] ++ M) w w8).less fun x hx => by
        rcases List.mem_append.1 hx with h | h
        · exact .inl h
        · rcases hM x h with h | h
          · exact .inl (by simp [h])
          · exact .inr h
      exact hJ [] _ rfl ⟨mv', hh8, hty8, kall⟩
    have call : ∀ (w7 : World), Keeps [] w' w7 → Gives P f [ptr V off, .int .u32 (t.u[j].1 : Nat), vv] w7 fun _ w8 => J [.int .i64 ((j + 1 : Nat) : Int)] w8 := fun w7 k7 => by
      have k07 : Keeps [] w0 w7 := kb.trans k7
      have s7 := k7.size
      have hty7 : TagsY w0.heap.size w.heap.size w7 (t.u.take j) mv := by
        rcases hty with h | ⟨b', es, clock, hb, hv, hm, he, hr⟩
        · exact .inl h
        · exact .inr ⟨b', es, clock, hb, hv, hm.keep k7 (by simp), he.keepL k7 (fun b hb => by cases hb), hr⟩
      refine (hSet w0.heap.size w.heap.size V off t.u[j].1 w7 (cs.set off mv) (t.u.take j) mv vv t.u[j].2 (hh.keep k7 (by simp)) (List.getElem?_set_self hoff) hty7 hlo (by omega) (by omega) (C.tidy.keys _ (List.getElem_mem hj')) (hvv.keep k07) fun hn x hx => hvv.blk hn x hx).mono fun _ w8 ⟨mv', e1, e2, e3⟩ => fin w7 w8 mv' k7 e3 e1 e2
    generalize hρ6 : ext (ext (ext (ext (ext (ext (ext (ext ρ n [ptr tb (0 + 4)]) (n + 1) [uv]) (n + 2) [.int .i64 (t.u.length : Nat)]) (n + 3) ([] ++ [.int .i64 j, .bool true])) (n + 3 + ([] : List Operand).length + 2) [a6]) (n + 3 + ([] : List Operand).length + 2 + 1) [.agg ⟨[.int .u32 (t.u[j].1 : Nat), vv]⟩]) (n + 3 + ([] : List Operand).length + 2 + 2) [ptr b]) (n + 3 + ([] : List Operand).length + 2 + 3) [undef] = ρ6
    have ag : Agree n ρ ρ6 := by
      rw [← hρ6]
      exact ((((((((Agree.ex).ex' (by omega)).ex' (by omega)).ex' (by omega)).ex' (by simp <;> omega)).ex' (by simp <;> omega)).ex' (by simp <;> omega)).ex' (by simp <;> omega))
    have r3 : ρ6 (n + 3) = .int .i64 j := by
      rw [← hρ6, ext_lt (by simp <;> omega), ext_lt (by simp <;> omega), ext_lt (by simp <;> omega), ext_lt (by simp <;> omega)]; exact ext_at
    have r7 : ρ6 (n + 7) = ptr b := by
      rw [← hρ6, ext_lt (by simp <;> omega)]; exact ext_at
    clear hρ6
    have hVo := (ag Vo hbV).trans hV
    have hb9 : opBelow (n + 9) Vo := hbV.mono (by omega)
    cases ck with
    | true =>
      show Tr.sem _ _ _ _ _ _ { w6 with drawn := w6.drawn + 1 }
      have hd : Keeps [] w6 { w6 with drawn := w6.drawn + 1 } := keeps_drawn w6 _ _
      generalize ({ w6 with drawn := w6.drawn + 1 } : World) = w7 at hd ⊢
      have hh7 := hh6.keep hd (by simp)
      refine p_val (n := n + 9) (v_nilCheck hVo) (p_val (v_field (b := V) (o := 0) hF.1 ext_at) ?_)
      refine p_fl (n := n + 11) (b := b) (o := 0) S0.ty.g0 S0.ty.oneU32 (by
        show ext _ _ _ (n + 7) = _
        rw [ext_lt (by omega), ext_lt (by omega)]; exact r7) rfl hh7 rfl ?_
      refine p_fl (n := n + 13) (b := b) (o := 0) S0.ty.g1 S0.rd.oneBytes (by
        show ext _ _ _ (n + 7) = _
        rw [ext_lt (by omega), ext_lt (by omega), ext_lt (by omega), ext_lt (by omega)]; exact r7) rfl hh7 rfl ?_
      refine s_callx (call w7 (k6.trans hd)) (by
        simp only [List.map_cons, List.map_nil]
        congr 1
        · show ext _ _ _ (n + 10) = _
          rw [ext_lt (by omega), ext_lt (by omega), ext_lt (by omega), ext_lt (by omega)]
          rw [Nat.zero_add]
          exact ext_at
        · congr 1
          · show ext _ _ _ (n + 12) = _
            rw [ext_lt (by omega), ext_lt (by omega)]; exact ext_at
          · congr 1
            exact ext_at) fun u w8 hJ8 => ?_
      refine s_val (v_arith (kk := .i64) (a := j) (b := 1) (r := ((j + 1 : Nat) : Int)) (by
        show ext _ _ _ (n + 3) = _
        rw [ext_lt (by omega), ext_lt (by omega), ext_lt (by omega), ext_lt (by omega), ext_lt (by omega), ext_lt (by omega), ext_lt (by omega)]; exact r3) rfl ?_) ?_
      · have := (C.tc.lens).2.2
        simp only [arithOf, Option.some.injEq]; rw [IntKind.wrap_i64]; omega
      exact ⟨J, by rw [List.getElem?_append_right (Nat.le_refl _), Nat.sub_self]; rfl, by
        simp only [List.map_cons, List.map_nil]
        rw [show ev (ext _ (n + 16) [Value.int .i64 ((j + 1 : Nat) : Int)]) (.tmp (n + 16)) = .int .i64 ((j + 1 : Nat) : Int) from ext_at]
        exact hJ8⟩
    | false =>
      refine s_val (n := n + 9) (v_field (b := V) (o := 0) hF.1 hVo) ?_
      refine s_fl (n := n + 10) (b := b) (o := 0) S0.ty.g0 S0.ty.oneU32 (by
        show ext _ _ _ (n + 7) = _
        rw [ext_lt (by omega)]; exact r7) rfl hh6 rfl ?_
      refine s_fl (n := n + 12) (b := b) (o := 0) S0.ty.g1 S0.rd.oneBytes (by
        show ext _ _ _ (n + 7) = _
        rw [ext_lt (by omega), ext_lt (by omega), ext_lt (by omega)]; exact r7) rfl hh6 rfl ?_
      refine s_callx (call w6 k6) (by
        simp only [List.map_cons, List.map_nil]
        congr 1
        · show ext _ _ _ (n + 9) = _
          rw [ext_lt (by omega), ext_lt (by omega), ext_lt (by omega), ext_lt (by omega)]
          rw [Nat.zero_add]
          exact ext_at
        · congr 1
          · show ext _ _ _ (n + 11) = _
            rw [ext_lt (by omega), ext_lt (by omega)]; exact ext_at
          · congr 1
            exact ext_at) fun u w8 hJ8 => ?_
      refine s_val (v_arith (kk := .i64) (a := j) (b := 1) (r := ((j + 1 : Nat) : Int)) (by
        show ext _ _ _ (n + 3) = _
        rw [ext_lt (by omega), ext_lt (by omega), ext_lt (by omega), ext_lt (by omega), ext_lt (by omega), ext_lt (by omega)]; exact r3) rfl ?_) ?_
      · have := (C.tc.lens).2.2
        simp only [arithOf, Option.some.injEq]; rw [IntKind.wrap_i64]; omega
      exact ⟨J, by rw [List.getElem?_append_right (Nat.le_refl _), Nat.sub_self]; rfl, by
        simp only [List.map_cons, List.map_nil]
        rw [show ev (ext _ (n + 15) [Value.int .i64 ((j + 1 : Nat) : Int)]) (.tmp (n + 15)) = .int .i64 ((j + 1 : Nat) : Int) from ext_at]
        exact hJ8⟩
  · rintro w' vr J ⟨mv, hh, hty, kk⟩ hvr
    obtain rfl : vr = [] := List.eq_nil_of_length_eq_zero hvr
    rw [Int.toNat_natCast, List.take_length] at hty
    obtain ⟨_, _, hput2⟩ := hfl.put (f' := .tags t.u) (m' := [mv]) C hw hF rfl rfl
    have hfl' := hput2 w' kk ⟨mv, rfl, hty.a (fun b hb => .inl hb) fun b hb => .inr (by omega)⟩ (by rw [splice_one _ _ _ hoff]; exact hh)
    refine hk (n + 5) [J] _ w' _ (by omega) rfl ((((Agree.ex).ex' (by omega)).ex' (by omega)).ex' (by omega)) hfl' hwd

end

end Go.Kf
