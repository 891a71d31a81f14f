/- The library for this proof, part 4: trees of function bodies, and what the package's functions do. -/
import Derived.Test.YtmficcifapfkdacGreatDoorKf3

namespace Go.Kf

open Go

/-- What is written of a value. -/
def encPK : PK → FV → List UInt8
  | .num N _, .one (.int _ x) => pFixed x N
  | .bool, .one (.bool b) => [if b then 1 else 0]
  | .str, .text l => pFixed l.length 2 ++ l
  | .cstr, .text l => pUv (l.length + 1) ++ l
  | .nstr, .ntext none => pFixed (-1) 2
  | .nstr, .ntext (some l) => pFixed l.length 2 ++ l
  | .cnstr, .ntext none => pUv 0
  | .cnstr, .ntext (some l) => pUv (l.length + 1) ++ l
  | .bytes, .octs _ l => pFixed l.length 4 ++ l
  | .cbytes, .octs _ l => pUv (l.length + 1) ++ l
  | .nbytes, .octs nl l => if nl then pFixed (-1) 4 else pFixed l.length 4 ++ l
  | .cnbytes, .octs nl l => if nl then pUv 0 else pUv (l.length + 1) ++ l
  | .uuid, .uuid l => l
  | .tags, .tags m => pUv m.length ++ ((sortTM m).map fun q => pTag1 q.1 q.2).flatten
  | _, _ => []

/-- A text behind a pointer, written as one that isn't null. -/
def encDeref (pk : PK) : FV → List UInt8
  | .ntext (some l) => encPK pk (.text l)
  | .ntext none => encPK pk (.text [])
  | _ => []

/-- What is written of a list's length. -/
def encLen (lk : LenK) (nl : Bool) (n : Nat) : List UInt8 := match lk with
  | .len => pFixed n 4
  | .clen => pUv (n + 1)
  | .nlen => if nl then pFixed (-1) 4 else pFixed n 4
  | .nclen => if nl then pUv 0 else pUv (n + 1)

/-- How a struct is written. -/
inductive WStep where
  | call (pk : PK) (f i ty off : Nat)
  | deref (pk : PK) (f i ty off : Nat)
  | listP (lk : LenK) (fl i tySl off : Nat) (pk : PK) (f T : Nat)
  | listS (lk : LenK) (fl i tySl off T sz : Nat) (ts : List Ty) (ss : List WStep)
  | sub (i off T : Nat) (ts : List Ty) (ss : List WStep)
  | tags (fUv fLen fEach i off : Nat)

def WStep.idx : WStep → Nat
  | .call _ _ i _ _ => i
  | .deref _ _ i _ _ => i
  | .listP _ _ i _ _ _ _ _ => i
  | .listS _ _ i _ _ _ _ _ _ => i
  | .sub i _ _ _ _ => i
  | .tags _ _ _ i _ => i

mutual
def encStep : WStep → List FV → List UInt8
  | .call pk _ i _ _, fs => encPK pk (fvGet fs i)
  | .deref pk _ i _ _, fs => encDeref pk (fvGet fs i)
  | .listP lk _ i _ _ pk _ _, fs => match fvGet fs i with
    | .list nl rows => encLen lk nl rows.length ++ (rows.map fun r => encPK pk (fvGet r 0)).flatten
    | _ => []
  | .listS lk _ i _ _ _ _ _ ss, fs => match fvGet fs i with
    | .list nl rows => encLen lk nl rows.length ++ (rows.map fun r => encSteps ss r).flatten
    | _ => []
  | .sub i _ _ _ ss, fs => match fvGet fs i with
    | .sub gs => encSteps ss gs
    | _ => []
  | .tags _ _ _ i _, fs => encPK .tags (fvGet fs i)
def encSteps : List WStep → List FV → List UInt8
  | [], _ => []
  | s :: ss, fs => encStep s fs ++ encSteps ss fs
end

theorem octOf_congr {a b : Int} {N : Nat} (h : a % 2 ^ (8 * N) = b % 2 ^ (8 * N)) {i : Nat} (hi : i < N) : octOf a i = octOf b i := by
  have key : ∀ x : Int, x / 2 ^ (8 * i) % 256 = (x % 2 ^ (8 * N)) / 2 ^ (8 * i) % 256 := by
    intro x
    have hp : (0 : Int) < 2 ^ (8 * i) := Int.pow_pos (by omega)
    obtain ⟨d, hd⟩ : ∃ d, N = i + 1 + d := ⟨N - (i + 1), by omega⟩
    have e1 : (2 : Int) ^ (8 * N) = 2 ^ (8 * i) * (256 * 2 ^ (8 * d)) := by
      rw [hd, show 8 * (i + 1 + d) = 8 * i + (8 + 8 * d) by omega, Int.pow_add, Int.pow_add]
      rfl
    have e2 := Int.emod_add_mul_ediv x (2 ^ (8 * N))
    have e3 : x / 2 ^ (8 * i) = (x % 2 ^ (8 * N)) / 2 ^ (8 * i) + 256 * (2 ^ (8 * d) * (x / 2 ^ (8 * N))) := by
      conv => lhs; rw [← e2]
      rw [e1, Int.mul_assoc, Int.add_mul_ediv_left _ _ (by omega), Int.mul_assoc]
    rw [e3, Int.add_mul_emod_self_left]
  unfold octOf
  rw [key a, key b, h]

theorem pFixed_congr {a b : Int} {N : Nat} (h : a % 2 ^ (8 * N) = b % 2 ^ (8 * N)) : ∀ k, k ≤ N → pFixed a k = pFixed b k
  | 0, _ => rfl
  | k + 1, hk => by rw [pFixed, pFixed, octOf_congr h (show k < N by omega), pFixed_congr h k (by omega)]

theorem pFixed_wrap8 (n : Int) : pFixed (IntKind.i8.wrap n) 1 = pFixed n 1 := pFixed_congr (N := 1) (by simp only [IntKind.wrap, IntKind.bits, IntKind.signed]; simp; omega) 1 (Nat.le_refl _)

theorem pFixed_wrap16 (n : Int) : pFixed (IntKind.i16.wrap n) 2 = pFixed n 2 := pFixed_congr (N := 2) (by simp only [IntKind.wrap, IntKind.bits, IntKind.signed]; simp; omega) 2 (Nat.le_refl _)

theorem pFixed_wrapu16 (n : Int) : pFixed (IntKind.u16.wrap n) 2 = pFixed n 2 := pFixed_congr (N := 2) (by simp only [IntKind.wrap, IntKind.bits, IntKind.signed]; simp) 2 (Nat.le_refl _)

theorem pFixed_wrap32 (n : Int) : pFixed (IntKind.i32.wrap n) 4 = pFixed n 4 := pFixed_congr (N := 4) (by simp only [IntKind.wrap, IntKind.bits, IntKind.signed]; simp; omega) 4 (Nat.le_refl _)

theorem pFixed_wrap64 (n : Int) : pFixed (IntKind.i64.wrap n) 8 = pFixed n 8 := pFixed_congr (N := 8) (by simp only [IntKind.wrap, IntKind.bits, IntKind.signed]; simp; omega) 8 (Nat.le_refl _)

/-- A writing function that fits a kind. -/
def pkForW (kind : Int) (may fl : Bool) : PK → Bool
  | .nbytes => decide (kind = 9) && may && !fl
  | .cnbytes => decide (kind = 9) && may && fl
  | pk => pkFor kind may fl pk

theorem pkForW_read {kind : Int} {may fl : Bool} {pk : PK} (h : pkForW kind may fl pk = true) : pkFor kind may fl pk = true := by
  cases pk <;> simp_all [pkForW, pkFor]

/-- The type of what a function of the writer writes. -/
theorem enc_rep {kind : Int} {may fl : Bool} {pk : PK} (h : pkForW kind may fl pk = true) {t : PT} {null : Bool} (hn : null = true → may = true) (pp : PT → List UInt8) {x : FV} (hx : RepV kind may null t x) (hty : okF x pk.ty) :
    encPK pk x = pValue pp kind null fl t := by
  cases pk with
  | num N k =>
    obtain ⟨y, rfl, _⟩ := okF_num hty
    simp only [pkForW, pkFor, Bool.and_eq_true, Bool.or_eq_true, decide_eq_true_eq] at h
    simp only [RepV] at hx
    obtain ⟨rfl, hx⟩ := hx
    rcases h.2 with (((⟨⟨rfl, rfl⟩, rfl⟩ | ⟨⟨rfl, rfl⟩, rfl⟩) | ⟨⟨rfl, rfl⟩, rfl⟩) | ⟨⟨rfl, rfl⟩, rfl⟩) | ⟨⟨rfl, rfl⟩, rfl⟩
    · exact pFixed_wrap8 _
    · exact pFixed_wrap16 _
    · exact pFixed_wrap32 _
    · exact pFixed_wrap64 _
    · exact pFixed_wrapu16 _
  | bool =>
    obtain ⟨b, rfl⟩ := okF_bool hty
    simp only [pkForW, pkFor, Bool.and_eq_true, decide_eq_true_eq] at h
    obtain ⟨_, rfl⟩ := h
    simp only [RepV] at hx
    obtain ⟨_, rfl⟩ := hx
    have e : pValue pp 0 null fl t = [UInt8.ofNat (t.n % 2).toNat] := rfl
    rw [e]
    have : t.n % 2 = 0 ∨ t.n % 2 = 1 := by omega
    rcases this with h | h <;> simp [encPK, h]
  | str =>
    obtain ⟨l, rfl, _⟩ := okF_text hty
    simp only [pkForW, pkFor, Bool.and_eq_true, decide_eq_true_eq, Bool.not_eq_true'] at h
    obtain ⟨⟨rfl, rfl⟩, rfl⟩ := h
    simp only [RepV] at hx
    obtain ⟨_, rfl, rfl⟩ := hx
    rfl
  | cstr =>
    obtain ⟨l, rfl, _⟩ := okF_text hty
    simp only [pkForW, pkFor, Bool.and_eq_true, decide_eq_true_eq, Bool.not_eq_true'] at h
    obtain ⟨⟨rfl, rfl⟩, rfl⟩ := h
    simp only [RepV] at hx
    obtain ⟨_, rfl, rfl⟩ := hx
    rfl
  | nstr =>
    obtain ⟨o, rfl, _⟩ := okF_ntext hty
    simp only [pkForW, pkFor, Bool.and_eq_true, decide_eq_true_eq, Bool.not_eq_true'] at h
    obtain ⟨⟨rfl, rfl⟩, rfl⟩ := h
    simp only [RepV] at hx
    obtain ⟨_, rfl⟩ := hx
    cases null <;> rfl
  | cnstr =>
    obtain ⟨o, rfl, _⟩ := okF_ntext hty
    simp only [pkForW, pkFor, Bool.and_eq_true, decide_eq_true_eq] at h
    obtain ⟨⟨rfl, rfl⟩, rfl⟩ := h
    simp only [RepV] at hx
    obtain ⟨_, rfl⟩ := hx
    cases null <;> rfl
  | bytes =>
    obtain ⟨nl, l, rfl, _⟩ := okF_octs hty
    simp only [pkForW, pkFor, Bool.and_eq_true, decide_eq_true_eq, Bool.not_eq_true'] at h
    obtain ⟨⟨rfl, rfl⟩, rfl⟩ := h
    have hnf : null = false := by cases null <;> simp_all
    subst hnf
    simp only [RepV] at hx
    obtain ⟨_, _, rfl⟩ := hx
    rfl
  | cbytes =>
    obtain ⟨nl, l, rfl, _⟩ := okF_octs hty
    simp only [pkForW, pkFor, Bool.and_eq_true, decide_eq_true_eq, Bool.not_eq_true'] at h
    obtain ⟨⟨rfl, rfl⟩, rfl⟩ := h
    have hnf : null = false := by cases null <;> simp_all
    subst hnf
    simp only [RepV] at hx
    obtain ⟨_, _, rfl⟩ := hx
    rfl
  | nbytes =>
    obtain ⟨nl, l, rfl, _⟩ := okF_octs hty
    simp only [pkForW, pkFor, Bool.and_eq_true, decide_eq_true_eq, Bool.not_eq_true'] at h
    obtain ⟨⟨rfl, rfl⟩, rfl⟩ := h
    simp only [RepV] at hx
    obtain ⟨_, h1, rfl⟩ := hx
    rw [h1 trivial]
    cases null <;> rfl
  | cnbytes =>
    obtain ⟨nl, l, rfl, _⟩ := okF_octs hty
    simp only [pkForW, pkFor, Bool.and_eq_true, decide_eq_true_eq] at h
    obtain ⟨⟨rfl, rfl⟩, rfl⟩ := h
    simp only [RepV] at hx
    obtain ⟨_, h1, rfl⟩ := hx
    rw [h1 trivial]
    cases null <;> rfl
  | uuid =>
    obtain ⟨l, rfl, _⟩ := okF_uuid hty
    simp only [pkForW, pkFor, Bool.and_eq_true, decide_eq_true_eq] at h
    obtain ⟨_, rfl⟩ := h
    simp only [RepV] at hx
    obtain ⟨_, rfl⟩ := hx
    rfl
  | tags => cases h

theorem encLen_rep {may fl : Bool} {lk : LenK} (h : lkFor may fl lk = true) {null nl : Bool} (hn : null = true → may = true) (hnl : may = true → nl = null) (n : Nat) (h0 : null = true → n = 0) : encLen lk nl n = pCounted fl null n 4 := by
  cases lk with
  | len =>
    simp only [lkFor, Bool.and_eq_true, Bool.not_eq_true'] at h
    have hnf : null = false := by cases null <;> simp_all
    rw [hnf, h.2]; rfl
  | clen =>
    simp only [lkFor, Bool.and_eq_true, Bool.not_eq_true'] at h
    have hnf : null = false := by cases null <;> simp_all
    rw [hnf, h.2]; rfl
  | nlen =>
    simp only [lkFor, Bool.and_eq_true, Bool.not_eq_true'] at h
    rw [hnl h.1, h.2]; cases null <;> rfl
  | nclen =>
    simp only [lkFor, Bool.and_eq_true] at h
    rw [hnl h.1, h.2]; cases null <;> rfl

mutual
/-- Is this step that which writes what the reference writes of a field? ty: the values' type. -/
def wrField (v : Int) (fl : Bool) : PF → WStep → Ty → Bool
  | .mk k _ _ nul _ _ e sub, s, ty => match s with
    | .call pk _ _ _ _ => pkForW k (decide (0 ≤ nul) && decide (nul ≤ v)) fl pk && ty.beq pk.ty
    | .deref pk _ _ _ _ => pkForW k (decide (0 ≤ nul) && decide (nul ≤ v)) fl pk && pk.plainText && ty.beq .ntext
    | .listP lk _ _ _ _ pk _ _ => decide (k = 11) && lkFor (decide (0 ≤ nul) && decide (nul ≤ v)) fl lk && pkForW e false fl pk && ty.beq (.list [pk.ty])
    | .listS lk _ _ _ _ _ _ ts ss => decide (k = 11) && decide (e = 10) && lkFor (decide (0 ≤ nul) && decide (nul ≤ v)) fl lk && ty.beq (.list ts) && wrPlain v fl sub ss ts 0
    | .sub _ _ _ ts ss => decide (k = 10) && decide (nul < 0) && ty.beq (.sub ts) && wrPlain v fl sub ss ts 0
    | .tags .. => false
def wrPlain (v : Int) (fl : Bool) : List PF → List WStep → List Ty → Nat → Bool
  | [], ss, _, p => match fl, ss with
    | true, [.tags _ _ _ k _] => Nat.beq k p
    | false, [] => true
    | _, _ => false
  | f :: r, ss, ts, p => decide (f.tag < 0) && bif pHas f v then (match ss, ts[p]? with
      | s :: ss', some ty => Nat.beq s.idx p && wrField v fl f s ty && wrPlain v fl r ss' ts (p + 1)
      | _, _ => false)
    else wrPlain v fl r ss ts (p + 1)
end

theorem tags_written {m : TM} (h : m.Pairwise fun a b => a.1 < b.1) : encPK .tags (.tags (wholeTags m)) = pUv m.length ++ pTags m := by
  have : (wholeTags m).Pairwise fun a b => a.1 < b.1 := by
    unfold wholeTags
    exact List.Pairwise.map _ (fun a b h => h) h
  simp only [encPK, sortTM_id this]
  have e : (wholeTags m).length = m.length := by simp [wholeTags]
  rw [e]
  congr 1
  simp only [pTags, wholeTags, List.map_map]
  rfl

theorem flatten_congr {α β : Type} {f : α → List UInt8} {g : β → List UInt8} : ∀ {l : List α} {r : List β}, l.length = r.length → (∀ (j : Nat) (x : α) (y : β), l[j]? = some x → r[j]? = some y → f x = g y) → (l.map f).flatten = (r.map g).flatten
  | [], [], _, _ => rfl
  | x :: l, y :: r, h, h2 => by
    simp only [List.map_cons, List.flatten_cons]
    rw [h2 0 x y rfl rfl, flatten_congr (by simpa using h) fun j a b ha hb => h2 (j + 1) a b (by simpa using ha) (by simpa using hb)]

theorem okRows_get {rows : List (List FV)} {ts : List Ty} (h : okRows rows ts) {j : Nat} {r : List FV} (hr : rows[j]? = some r) : okFs r ts := okRows_mem h r (List.mem_of_getElem? hr)

theorem one_written {f : PF} {v : Int} {fl : Bool} {pk : PK} (hpk : pkForW f.kind (decide (0 ≤ f.nul) && decide (f.nul ≤ v)) fl pk = true) (t : PT) : pField f v fl t = pValue (fun y => pPart f.sub v fl y) f.kind (pNull f v t) fl t := by
  obtain ⟨k10, k11⟩ := pkFor_kind (pkForW_read hpk)
  rw [pField_eq]
  unfold pFieldOf
  simp only
  rw [if_neg k11, if_neg (fun h => k10 h.1)]

theorem part_written {f : PF} {v : Int} {fl : Bool} (h10 : f.kind = 10) (hn : f.nul < 0) (t : PT) : pField f v fl t = pPart f.sub v fl t := by
  rw [pField_eq]
  unfold pFieldOf
  simp only
  rw [if_neg (by omega), if_neg (by omega), h10]
  rfl

theorem plainText_may {kind : Int} {may fl : Bool} {pk : PK} (h : pkForW kind may fl pk = true) (h2 : pk.plainText = true) : may = false ∧ pk.ty = .text := by
  cases pk <;> first
    | (simp [PK.plainText] at h2; done)
    | (simp only [pkForW, pkFor, Bool.and_eq_true, Bool.not_eq_true'] at h; exact ⟨h.1.2, rfl⟩)

theorem wrPart_ok {v : Int} {fl : Bool} {sub : List PF} {ss : List WStep} {ts : List Ty} (hg : ∀ f ∈ sub, f.tag < 0) (h : ∀ (t : PT) (i : Nat) (u : TM) (gs : List FV), u.Pairwise (fun a b => a.1 < b.1) → RepFs v fl sub t gs i 0 → (fl = true → gs[0 + sub.length]? = some (.tags (wholeTags u))) → okFs gs ts → encSteps ss gs = pPlain sub v fl t i ++ pEndB fl u)
    (t : PT) (gs : List FV) (hr : RepPart v fl sub t gs 0) (hok : okFs gs ts) : encSteps ss gs = pPart sub v fl t := by
  rw [h t 0 (pUnknown sub t.u) gs (pUnknownN_asc _ List.Pairwise.nil) hr.1 hr.2 hok]
  exact (pPart_plain hg v fl t).symm

mutual
theorem wrField_ok (v : Int) (fl : Bool) : ∀ (f : PF) (s : WStep) (ty : Ty), f.plain = true → wrField v fl f s ty = true → ∀ (t : PT) (fs : List FV) (x : FV), fs[s.idx]? = some x → RepF v fl f t x → okF x ty → encStep s fs = pField f v fl t
  | .mk k fr to nul g d e sub, s, ty, hpl, h => by
    intro t fs x hx hr hok
    have hsub : PF.plains sub = true := PF.plain_sub hpl
    have hg : ∀ f ∈ sub, f.tag < 0 := fun f hf => PF.plain_tag (PF.plains_mem hsub f hf)
    match s, h with
    | .call pk _ i _ _, h =>
      simp only [wrField, Bool.and_eq_true] at h
      have hty := Ty.beq_eq _ _ h.2
      subst hty
      rw [one_written (f := .mk k fr to nul g d e sub) h.1]
      simp only [WStep.idx] at hx
      simp only [encStep, fvGet_eq hx]
      refine enc_rep h.1 pNull_may _ ?_ hok
      obtain ⟨k10, k11⟩ := pkFor_kind (pkForW_read h.1)
      cases x <;> first | exact hr | exact absurd hr.1 k11 | exact absurd hr.1 k10
    | .deref pk _ i _ _, h =>
      simp only [wrField, Bool.and_eq_true] at h
      have hty := Ty.beq_eq _ _ h.2
      subst hty
      rw [one_written (f := .mk k fr to nul g d e sub) h.1.1]
      obtain ⟨o, rfl, ho⟩ := okF_ntext hok
      simp only [WStep.idx] at hx
      simp only [encStep, fvGet_eq hx, encDeref]
      have hr : RepV k (decide (0 ≤ nul) && decide (nul ≤ v)) (pNull (.mk k fr to nul g d e sub) v t) t (.ntext o) := hr
      obtain ⟨hmay, hty⟩ := plainText_may h.1.1 h.1.2
      have hnf : pNull (.mk k fr to nul g d e sub) v t = false := by
        cases hq : pNull (.mk k fr to nul g d e sub) v t with
        | false => rfl
        | true => exact (hmay.symm.trans (pNull_may hq) : false = true).symm
      rw [hnf] at hr ⊢
      obtain ⟨hk, rfl⟩ := hr
      simp only [Bool.false_eq_true, if_false] at ho ⊢
      exact enc_rep h.1.1 (fun h => by cases h) _ (x := .text (pWhole t.s)) ⟨hk, rfl, rfl⟩ (by rw [hty]; exact ⟨rfl, ho _ rfl⟩)
    | .listP lk _ i _ _ pk _ _, h =>
      simp only [wrField, Bool.and_eq_true, decide_eq_true_eq] at h
      obtain ⟨⟨⟨rfl, hlk⟩, hpk⟩, hty⟩ := h
      have hty := Ty.beq_eq _ _ hty
      subst hty
      obtain ⟨nl, rows, rfl, hl, hrows⟩ := okF_list hok
      obtain ⟨_, r1, r2, r3⟩ := hr
      simp only [WStep.idx] at hx
      simp only [encStep, fvGet_eq hx]
      rw [list_written (f := .mk 11 fr to nul g d e sub) rfl]
      simp only [PF.elem, PF.sub]
      generalize hnu : pNull (.mk 11 fr to nul g d e sub) v t = null at r1 r2 r3
      rw [encLen_rep hlk (null := null) (fun hn => pNull_may (hnu.trans hn)) r1 rows.length (fun hn => by rw [r2, hn]; rfl), r2]
      congr 1
      refine flatten_congr r2 fun j r y hr hy => ?_
      obtain ⟨z, rfl, hz⟩ := (r3 j y r hy hr).2 (pkFor_kind (pkForW_read hpk)).1
      have hzo := okRows_get hrows hr
      exact enc_rep hpk (fun h => h) _ hz hzo.1
    | .listS lk _ i _ _ _ _ ts ss, h =>
      simp only [wrField, Bool.and_eq_true, decide_eq_true_eq] at h
      obtain ⟨⟨⟨⟨rfl, rfl⟩, hlk⟩, hty⟩, hw⟩ := h
      have hty := Ty.beq_eq _ _ hty
      subst hty
      obtain ⟨nl, rows, rfl, hl, hrows⟩ := okF_list hok
      obtain ⟨_, r1, r2, r3⟩ := hr
      simp only [WStep.idx] at hx
      simp only [encStep, fvGet_eq hx]
      rw [list_written (f := .mk 11 fr to nul g d 10 sub) rfl]
      simp only [PF.elem, PF.sub]
      generalize hnu : pNull (.mk 11 fr to nul g d 10 sub) v t = null at r1 r2 r3
      rw [encLen_rep hlk (null := null) (fun hn => pNull_may (hnu.trans hn)) r1 rows.length (fun hn => by rw [r2, hn]; rfl), r2]
      congr 1
      refine flatten_congr r2 fun j r y hr hy => ?_
      obtain ⟨q1, q2⟩ := (r3 j y r hy hr).1 rfl
      have e1 : pValue (fun y => pPart sub v fl y) 10 false fl y = pPart sub v fl y := rfl
      rw [e1]
      exact wrPart_ok hg (wrPlain_ok v fl sub ss ts 0 hsub hw) y r ⟨q1, by simpa using q2⟩ (okRows_get hrows hr)
    | .sub i _ _ ts ss, h =>
      simp only [wrField, Bool.and_eq_true, decide_eq_true_eq] at h
      obtain ⟨⟨⟨rfl, hnul⟩, hty⟩, hw⟩ := h
      have hty := Ty.beq_eq _ _ hty
      subst hty
      obtain ⟨gs, rfl, hgs⟩ := okF_sub hok
      obtain ⟨_, _, q1, q2⟩ := hr
      simp only [WStep.idx] at hx
      simp only [encStep, fvGet_eq hx]
      have hwr : pField (.mk 10 fr to nul g d e sub) v fl t = pPart sub v fl t := part_written (f := .mk 10 fr to nul g d e sub) rfl hnul t
      rw [hwr]
      exact wrPart_ok hg (wrPlain_ok v fl sub ss ts 0 hsub hw) t gs ⟨q1, by simpa using q2⟩ hgs
    | .tags .., h => simp [wrField] at h
theorem wrPlain_ok (v : Int) (fl : Bool) : ∀ (fs : List PF) (ss : List WStep) (ts : List Ty) (p : Nat), PF.plains fs = true → wrPlain v fl fs ss ts p = true →
    ∀ (t : PT) (i : Nat) (u : TM) (gs : List FV), u.Pairwise (fun a b => a.1 < b.1) → RepFs v fl fs t gs i p → (fl = true → gs[p + fs.length]? = some (.tags (wholeTags u))) → okFs gs ts → encSteps ss gs = pPlain fs v fl t i ++ pEndB fl u
  | [], ss, ts, p, _, h => by
    intro t i u gs hu _ htg _
    simp only [wrPlain] at h
    split at h
    · rename_i k _ _
      have hk : k = p := Nat.eq_of_beq_eq_true h
      subst hk
      have := htg rfl
      simp only [List.length_nil, Nat.add_zero] at this
      simp only [encSteps, encStep, fvGet_eq this, List.append_nil, pPlain, List.nil_append, tags_written hu]
      rfl
    · rfl
    · cases h
  | f :: r, ss, ts, p, hpl, h => by
    intro t i u gs hu hrep htg hok
    simp only [PF.plains, Bool.and_eq_true] at hpl
    simp only [wrPlain, Bool.and_eq_true, decide_eq_true_eq] at h
    simp only [RepFs] at hrep
    rw [pPlain_cons, List.append_assoc]
    have htg' : fl = true → gs[p + 1 + r.length]? = some (.tags (wholeTags u)) := fun h => by
      have := htg h
      rwa [List.length_cons, show p + (r.length + 1) = p + 1 + r.length by omega] at this
    cases hh : pHas f v with
    | true =>
      rw [hh] at h
      simp only [cond_true] at h
      have h2 := h.2
      match ss, hts : ts[p]?, h2 with
      | s :: ss', some ty, h2 =>
        simp only [Bool.and_eq_true] at h2
        have hsi : s.idx = p := Nat.eq_of_beq_eq_true h2.1.1
        obtain ⟨x, hx, hr⟩ := hrep.1 hh
        obtain ⟨x', hx', hxo⟩ := okFs_get hok hts
        rw [hx] at hx'
        obtain rfl := Option.some.inj hx'
        have e1 : pOne f v fl (pAt t i) = pField f v fl (pAt t i) := by unfold pOne; rw [hh, decide_eq_true h.1]; rfl
        rw [e1, encSteps, wrField_ok v fl f s ty hpl.1 h2.1.2 (pAt t i) gs x (by rw [hsi]; exact hx) hr hxo, wrPlain_ok v fl r ss' ts (p + 1) hpl.2 h2.2 t (i + 1) u gs hu hrep.2 htg' hok]
    | false =>
      rw [hh] at h
      simp only [cond_false] at h
      have e1 : pOne f v fl (pAt t i) = [] := by unfold pOne; rw [hh]; simp
      rw [e1, List.nil_append]
      exact wrPlain_ok v fl r ss ts (p + 1) hpl.2 h.2 t (i + 1) u gs hu hrep.2 htg' hok
end

end Go.Kf

namespace Go.Kf

open Go

/-- A field as it is typed: what is set, in order; the function that yields its parts. -/
structure FB where
  parts : List (Nat × Int)
  sub : Option Nat

def setParts : List Int → List (Nat × Int) → List Int
  | z, [] => z
  | z, p :: r => setParts (z.set p.1 p.2) r

def FB.pf (b : FB) (sub : List PF) : PF := match setParts [0, 0, 0, 0, 0, 0, 0] b.parts with
  | [k, f, t, n, g, d, e] => .mk k f t n g d e sub
  | _ => .mk 0 0 0 0 0 0 0 sub

def idxd : Nat → List Operand → List (Nat × Operand)
  | _, [] => []
  | k, x :: r => (k, x) :: idxd (k + 1) r

def gFB (s : SN) : List FB → Nat → List Operand → (Nat → List Operand → Tr) → Tr
  | [], n, acc, k => k n acc
  | ⟨ps, none⟩ :: r, n, acc, k => .op (.build s.field ⟨ps.map fun p => (p.1, .const (.int .i64 p.2))⟩) none [] (gFB s r (n + 1) (acc ++ [.tmp n]) k)
  | ⟨ps, some f⟩ :: r, n, acc, k => .op (callOp f []) none [] <| .op (.build s.field ⟨(ps.map fun p => (p.1, .const (.int .i64 p.2))) ++ [(7, .tmp n)]⟩) none [] (gFB s r (n + 2) (acc ++ [.tmp (n + 1)]) k)

def gFieldsFn (s : SN) (fbs : List FB) : Tr := gFB s fbs 0 [] fun n acc => .op (.buildSlice s.fields acc.length ⟨idxd 0 acc⟩) none [] <| .ret [(.tmp n, none)]

def gMsgFn (s : SN) (fbs : List FB) (x : Int) : Tr := .op (.alloc s.msg) none [] <| gFB s fbs 1 [] fun n acc => .op (.buildSlice s.fields acc.length ⟨idxd 0 acc⟩) none [] <|
  .op (.build s.msg ⟨[(1, .const (.int .i64 x)), (0, .tmp n)]⟩) none [] <| .op (.store s.msg (.tmp 0) (.tmp (n + 1))) none [] <| .ret [(.tmp 0, some s.msg)]

/-- The types' plans. -/
structure FbFacts (P : Program) (s : SN) : Prop where
  field : buildPlan P s.field = some ([.int .i64 0, .int .i64 0, .int .i64 0, .int .i64 0, .int .i64 0, .int .i64 0, .int .i64 0, .slice none 0 0], [(0, 1), (1, 1), (2, 1), (3, 1), (4, 1), (5, 1), (6, 1), (7, 1)])
  msg : buildPlan P s.msg = some ([.slice none 0 0, .int .i64 0], [(0, 1), (1, 1)])
  zero : zeroTy P s.msg = some (.agg ⟨[.slice none 0 0, .int .i64 0]⟩, 2)

/-- A function that yields a list of fields. -/
def FieldsFn (P : Program) (f : Nat) (fs : List PF) : Prop := ∀ w, Gives P f [] w fun v w' => FieldsV w' fs v ∧ Keeps [] w w'

/-- A function that yields a message. -/
def MsgFn (P : Program) (f : Nat) (fs : List PF) (x : Int) : Prop := ∀ w, Gives P f [] w fun v w' => (∃ fv, v = .agg ⟨[fv, .int .i64 x]⟩ ∧ FieldsV w' fs fv) ∧ Keeps [] w w'

def FbsOk (P : Program) : List FB → List PF → Prop
  | [], fs => fs = []
  | b :: r, fs => ∃ f fr, fs = f :: fr ∧ b.parts.all (fun p => Nat.blt p.1 7) = true ∧ (match b.sub with
    | none => f = b.pf []
    | some g => ∃ sub, FieldsFn P g sub ∧ f = b.pf sub) ∧ FbsOk P r fr

section

variable {P : Program} {c : Nums} {s : SN} {R : Value → World → Prop} {Γ : List (List Value → World → Prop)} {n : Nat} {ρ : Nat → Value} {w : World} {k : Tr}

theorem setParts_length : ∀ (ps : List (Nat × Int)) (z : List Int), (setParts z ps).length = z.length
  | [], _ => rfl
  | p :: r, z => by rw [setParts, setParts_length r]; simp

def plan8 : List (Nat × Nat) := [(0, 1), (1, 1), (2, 1), (3, 1), (4, 1), (5, 1), (6, 1), (7, 1)]

theorem plan8_at {i : Nat} (h : i < 8) : plan8[i]? = some (i, 1) := by
  have : i = 0 ∨ i = 1 ∨ i = 2 ∨ i = 3 ∨ i = 4 ∨ i = 5 ∨ i = 6 ∨ i = 7 := by omega
  rcases this with rfl | rfl | rfl | rfl | rfl | rfl | rfl | rfl <;> rfl

theorem fill_parts (tail : List (Nat × Value)) : ∀ (ps : List (Nat × Int)) (z : List Int), z.length = 7 → ps.all (fun p => Nat.blt p.1 7) = true →
    fillOnes plan8 (z.map (Value.int .i64) ++ [.slice none 0 0]) ((ps.map fun p => (p.1, Value.int .i64 p.2)) ++ tail) = fillOnes plan8 ((setParts z ps).map (Value.int .i64) ++ [.slice none 0 0]) tail
  | [], z, _, _ => rfl
  | p :: r, z, hz, h => by
    rw [List.all_cons, Bool.and_eq_true] at h
    have hp : p.1 < 7 := Nat.le_of_ble_eq_true h.1
    rw [List.map_cons, List.cons_append, fillOnes, plan8_at (by omega)]
    simp only
    rw [if_pos ⟨trivial, by simp; omega⟩, List.set_append_left _ _ (by simp; omega), ← List.map_set, setParts]
    exact fill_parts tail r _ (by simpa using hz) h.2

/-- A field, built. -/
theorem field_built {w' : World} (b : FB) (h : b.parts.all (fun p => Nat.blt p.1 7) = true) :
    (∃ cells, fillOnes plan8 [.int .i64 0, .int .i64 0, .int .i64 0, .int .i64 0, .int .i64 0, .int .i64 0, .int .i64 0, .slice none 0 0] (b.parts.map fun p => (p.1, Value.int .i64 p.2)) = some cells ∧ FieldC w' (b.pf []) cells) ∧
    ∀ (v : Value) (sub : List PF), FieldsV w' sub v → ∃ cells, fillOnes plan8 [.int .i64 0, .int .i64 0, .int .i64 0, .int .i64 0, .int .i64 0, .int .i64 0, .int .i64 0, .slice none 0 0] ((b.parts.map fun p => (p.1, Value.int .i64 p.2)) ++ [(7, v)]) = some cells ∧ FieldC w' (b.pf sub) cells := by
  have hl := setParts_length b.parts [0, 0, 0, 0, 0, 0, 0]
  have h0 := fill_parts [] b.parts [0, 0, 0, 0, 0, 0, 0] rfl h
  have h1 := fun v => fill_parts [(7, v)] b.parts [0, 0, 0, 0, 0, 0, 0] rfl h
  have ez : List.map (Value.int .i64) [0, 0, 0, 0, 0, 0, 0] ++ [Value.slice none 0 0] = [.int .i64 0, .int .i64 0, .int .i64 0, .int .i64 0, .int .i64 0, .int .i64 0, .int .i64 0, .slice none 0 0] := rfl
  rw [ez, List.append_nil] at h0
  simp only [ez] at h1
  unfold FB.pf
  generalize setParts [0, 0, 0, 0, 0, 0, 0] b.parts = z at hl h0 h1
  match z, hl with
  | [k, f, t, n, g, d, e], _ =>
    refine ⟨⟨_, h0, _, [], rfl, Ro.nil w' 8, rfl⟩, fun v sub hv => ?_⟩
    obtain ⟨scs, s1, s2⟩ := hv
    refine ⟨[.int .i64 k, .int .i64 f, .int .i64 t, .int .i64 n, .int .i64 g, .int .i64 d, .int .i64 e, v], ?_, v, scs, rfl, s1, s2⟩
    rw [h1 v]
    rfl

theorem Has.cells? {w : World} {b : Nat} {cs : List Value} (h : Has w b cs) (i : Nat) : w.cell? ⟨b, i, none⟩ = cs[i]? := by
  obtain ⟨t, fr, hb, _⟩ := h
  unfold World.cell?
  rw [show (⟨b, i, none⟩ : Addr).block = b from rfl, hb]
  simp

/-- Rows of eight cells don't lie in a small block. -/
theorem Ro.keepSmall {w w' : World} {b : Nat} {cs : List Value} (hb : Has w b cs) (hs : cs.length < 8) (hk : Keeps [b] w w') {v : Value} {n : Nat} {xs : List Value} (h : Ro w v 8 n xs) : Ro w' v 8 n xs := by
  refine ⟨h.1, ?_⟩
  rcases h.2 with h0 | ⟨d, o, cap, rfl, hd, hc, hx⟩
  · exact .inl h0
  · by_cases hn : n = 0
    · exact .inl ⟨hn, _, _, by rw [hn]⟩
    have hne : d ≠ b := by
      intro e
      subst e
      have h7 := hx 7 (by omega)
      rw [hb.cells?, List.getElem?_eq_none (by omega), List.getElem?_eq_getElem (by rw [h.1]; omega)] at h7
      cases h7
    exact .inr ⟨d, o, cap, rfl, Nat.lt_of_lt_of_le hd hk.size, hc, fun i hi => by rw [cell_keep hk hd (by simpa using hne)]; exact hx i hi⟩

mutual
theorem FieldC.keepSmall {w w' : World} {b : Nat} {ds : List Value} (hb : Has w b ds) (hs : ds.length < 8) (hk : Keeps [b] w w') : ∀ (f : PF) (cs : List Value), FieldC w f cs → FieldC w' f cs
  | .mk _ _ _ _ _ _ _ sub, _, ⟨sv, scs, e, h1, h2⟩ => ⟨sv, scs, e, Ro.keepSmall hb hs hk h1, FieldsC.keepSmall hb hs hk sub scs h2⟩
theorem FieldsC.keepSmall {w w' : World} {b : Nat} {ds : List Value} (hb : Has w b ds) (hs : ds.length < 8) (hk : Keeps [b] w w') : ∀ (fs : List PF) (cs : List Value), FieldsC w fs cs → FieldsC w' fs cs
  | [], _, h => h
  | f :: fs, _, ⟨c1, c2, e, h1, h2⟩ => ⟨c1, c2, e, FieldC.keepSmall hb hs hk f c1 h1, FieldsC.keepSmall hb hs hk fs c2 h2⟩
end

/-- What has been built so far. -/
def AccOk (ρ : Nat → Value) (w : World) (n : Nat) : List Operand → List PF → Prop
  | [], fs => fs = []
  | x :: r, fs => ∃ f fr cs, fs = f :: fr ∧ opBelow n x ∧ ev ρ x = .agg ⟨cs⟩ ∧ FieldC w f cs ∧ AccOk ρ w n r fr

theorem AccOk.more {ρ ρ' : Nat → Value} {w w' : World} {n n' : Nat} (hn : n ≤ n') (hρ : ∀ x, opBelow n x → ev ρ' x = ev ρ x) (hk : Keeps [] w w') : ∀ {xs : List Operand} {fs : List PF}, AccOk ρ w n xs fs → AccOk ρ' w' n' xs fs
  | [], _, h => h
  | x :: _, _, ⟨f, fr, cs, e, h1, h2, h3, h4⟩ => ⟨f, fr, cs, e, h1.mono hn, (hρ x h1).trans h2, FieldC.keep hk f cs h3, AccOk.more hn hρ hk h4⟩

theorem AccOk.snoc {f : PF} {x : Operand} {cs : List Value} (h1 : opBelow n x) (h2 : ev ρ x = .agg ⟨cs⟩) (h3 : FieldC w f cs) : ∀ {xs : List Operand} {fs : List PF}, AccOk ρ w n xs fs → AccOk ρ w n (xs ++ [x]) (fs ++ [f])
  | [], _, h => by simp only [AccOk] at h; subst h; exact ⟨f, [], cs, rfl, h1, h2, h3, rfl⟩
  | y :: r, _, ⟨g, fr, ds, e, q1, q2, q3, q4⟩ => ⟨g, fr ++ [f], ds, by rw [e]; rfl, q1, q2, q3, AccOk.snoc h1 h2 h3 q4⟩

theorem gFB_sem (S : SpFacts P c s) (B : FbFacts P s) {K : Nat → List Operand → Tr} : ∀ (fbs : List FB) (fs : List PF) (n : Nat) (acc : List Operand) (accs : List PF) (ρ : Nat → Value) (w : World), FbsOk P fbs fs → AccOk ρ w n acc accs →
    (∀ n' acc' ρ' w', n ≤ n' → Keeps [] w w' → (∀ x, opBelow n x → ev ρ' x = ev ρ x) → AccOk ρ' w' n' acc' (accs ++ fs) → acc'.length = (accs ++ fs).length → (K n' acc').sem P R Γ n' ρ' w') → acc.length = accs.length → (gFB s fbs n acc K).sem P R Γ n ρ w
  | [], fs, n, acc, accs, ρ, w, hf, ha, hk, hl => by
    simp only [FbsOk] at hf
    subst hf
    have := hk n acc ρ w (Nat.le_refl _) .refl (fun _ _ => rfl)
    simp only [List.append_nil] at this
    exact this ha hl
  | ⟨ps, none⟩ :: r, fs, n, acc, accs, ρ, w, hf, ha, hk, hl => by
    obtain ⟨f, fr, rfl, hp, he, hr⟩ := hf
    simp only at he
    obtain ⟨cells, hc1, hc2⟩ := (field_built (w' := w) ⟨ps, none⟩ hp).1
    simp only [gFB]
    refine s_val (v_build (cells := cells) B.field (fun p hp => ?_) ?_) ?_
    · obtain ⟨q, _, rfl⟩ := List.mem_map.1 hp
      rfl
    · rw [List.map_map]
      exact hc1
    refine gFB_sem S B r fr (n + 1) (acc ++ [.tmp n]) (accs ++ [f]) _ w hr ?_ (fun n' acc' ρ' w' hn kk hρ hacc hlen => ?_) (by simp [hl])
    · rw [he]
      have e0 : ev (ext ρ n [.agg ⟨cells⟩]) (.tmp n) = .agg ⟨cells⟩ := ext_at
      exact AccOk.snoc (by simp [opBelow]) e0 hc2 (AccOk.more (Nat.le_succ n) (fun x hx => ev_ext hx) .refl ha)
    · rw [List.append_assoc] at hacc hlen
      exact hk n' acc' ρ' w' (by omega) kk (fun x hx => (hρ x (hx.mono (Nat.le_succ n))).trans (ev_ext hx)) hacc hlen
  | ⟨ps, some g⟩ :: r, fs, n, acc, accs, ρ, w, hf, ha, hk, hl => by
    obtain ⟨f, fr, rfl, hp, he, hr⟩ := hf
    simp only at he
    obtain ⟨sub, hg, he⟩ := he
    simp only [gFB]
    refine s_callx (hg w) rfl fun v w1 ⟨hv, k1⟩ => ?_
    obtain ⟨cells, hc1, hc2⟩ := (field_built (w' := w1) ⟨ps, some g⟩ hp).2 v sub hv
    have hone : v.oneCell' = true := by
      obtain ⟨_, h1, _⟩ := hv
      exact h1.one
    refine s_val (v_build (cells := cells) B.field (fun p hp => ?_) ?_) ?_
    · rcases List.mem_append.1 hp with hp | hp
      · obtain ⟨q, _, rfl⟩ := List.mem_map.1 hp
        rfl
      · simp only [List.mem_singleton] at hp
        subst hp
        show (ev _ (.tmp n)).oneCell' = true
        rw [show ev (ext ρ n [v]) (.tmp n) = v from ext_at]
        exact hone
    · rw [List.map_append, List.map_map]
      have e1 : [(7, Operand.tmp n)].map (fun p : Nat × Operand => (p.1, ev (ext ρ n [v]) p.2)) = [(7, v)] := by
        simp only [List.map_cons, List.map_nil]
        rw [show ev (ext ρ n [v]) (.tmp n) = v from ext_at]
      rw [e1]
      exact hc1
    refine gFB_sem S B r fr (n + 2) (acc ++ [.tmp (n + 1)]) (accs ++ [f]) _ w1 hr ?_ (fun n' acc' ρ' w' hn kk hρ hacc hlen => ?_) (by simp [hl])
    · rw [he]
      have e0 : ev (ext (ext ρ n [v]) (n + 1) [.agg ⟨cells⟩]) (.tmp (n + 1)) = .agg ⟨cells⟩ := ext_at
      exact AccOk.snoc (by simp [opBelow]) e0 hc2 (AccOk.more (by omega) (fun x hx => (ev_ext (hx.mono (Nat.le_succ n))).trans (ev_ext hx)) k1 ha)
    · rw [List.append_assoc] at hacc hlen
      exact hk n' acc' ρ' w' (by omega) (k1.trans kk) (fun x hx => (hρ x (hx.mono (by omega))).trans ((ev_ext (hx.mono (Nat.le_succ n))).trans (ev_ext hx))) hacc hlen

theorem setRow (l : List Value) : ∀ (i : Nat) (acc : Array Value), i + l.length ≤ acc.size → (l.zipIdx i).foldl (fun (a : Array Value) (p : Value × Nat) => a.setIfInBounds p.2 p.1) acc = ⟨acc.toList.take i ++ l ++ acc.toList.drop (i + l.length)⟩ := by
  induction l with
  | nil =>
    intro i acc h
    apply Array.ext'
    simp
  | cons v l ih =>
    intro i acc h
    simp only [List.length_cons] at h
    simp only [List.zipIdx_cons, List.foldl_cons]
    rw [ih (i + 1) _ (by simp; omega)]
    apply Array.ext'
    simp only [Array.toList_setIfInBounds]
    rw [List.take_set, List.take_succ_eq_append_getElem (by simp; omega), List.set_append_right _ _ (by simp; omega)]
    have h3 : i - (acc.toList.take i).length = 0 := by simp; omega
    rw [h3, List.drop_set_of_lt (by omega)]
    simp only [List.set_cons_zero, List.append_assoc, List.singleton_append, List.length_cons]
    rw [show i + 1 + l.length = i + (l.length + 1) by omega]

theorem fill_rows {sz : Nat} : ∀ (xs : List (Value)) (css : List (List Value)) (k : Nat) (acc : Array Value), xs.map Value.cells = css.map (fun l => (⟨l⟩ : Array Value)) → (∀ l ∈ css, l.length = sz) → acc.size = (k + xs.length) * sz →
    Instr.fill (fun i => some (i * sz, sz)) acc ((xs.zipIdx k).map fun p => (p.2, p.1)) = some ⟨acc.toList.take (k * sz) ++ css.flatten⟩
  | [], css, k, acc, h1, h2, h3 => by
    have : css = [] := by simpa using h1.symm
    subst this
    simp only [List.zipIdx_nil, List.map_nil, Instr.fill, List.flatten_nil, List.append_nil, Option.some.injEq]
    apply Array.ext'
    simp only [List.length_nil, Nat.add_zero] at h3
    rw [List.take_of_length_le (by simp; omega)]
  | x :: xs, [], k, acc, h1, h2, h3 => by simp at h1
  | x :: xs, l :: css, k, acc, h1, h2, h3 => by
    simp only [List.map_cons, List.cons.injEq] at h1
    have hl := h2 l (by simp)
    simp only [List.length_cons] at h3
    have h4 : (k + 1 + xs.length) * sz = (k + (xs.length + 1)) * sz := by congr 1; omega
    have h5 : (k + (xs.length + 1)) * sz = k * sz + sz + xs.length * sz := by rw [Nat.add_mul, Nat.add_mul]; omega
    simp only [List.zipIdx_cons, List.map_cons]
    unfold Instr.fill
    simp only [h1.1]
    rw [if_neg (by simp [hl]; omega)]
    have e := setRow l (k * sz) acc (by rw [h3, h5, hl]; omega)
    have this : ∀ (l : List Value) (j m : Nat) (acc : Array Value), List.foldl (fun (cells : Array Value) (x : Value × Nat) => cells.setIfInBounds (m + x.2) x.1) acc (l.zipIdx j) = List.foldl (fun (a : Array Value) (p : Value × Nat) => a.setIfInBounds p.2 p.1) acc (l.zipIdx (m + j)) := by
      intro l
      induction l with
      | nil => intros; rfl
      | cons y l ih => intro j m acc; simp only [List.zipIdx_cons, List.foldl_cons]; rw [ih]; rfl
    have e2 : (Array.foldl (fun (cells : Array Value) (x : Value × Nat) => cells.setIfInBounds (k * sz + x.2) x.1) acc (Array.zipIdx (⟨l⟩ : Array Value))) = ⟨acc.toList.take (k * sz) ++ l ++ acc.toList.drop (k * sz + l.length)⟩ := by
      rw [← e, ← Array.foldl_toList, Array.toList_zipIdx]
      exact this l 0 (k * sz) acc
    have e3 : Instr.fill (fun i => some (i * sz, sz)) ⟨acc.toList.take (k * sz) ++ l ++ acc.toList.drop (k * sz + l.length)⟩ ((xs.zipIdx (k + 1)).map fun p => (p.2, p.1)) = some ⟨acc.toList.take (k * sz) ++ (l :: css).flatten⟩ := by
      have hk1 : k * sz ≤ acc.toList.length := by simp only [Array.length_toList]; omega
      have hk2 : (acc.toList.take (k * sz) ++ l).length = (k + 1) * sz := by rw [List.length_append, List.length_take, hl, Nat.min_eq_left hk1, Nat.add_mul]; omega
      rw [fill_rows xs css (k + 1) _ h1.2 (fun l' hl' => h2 l' (by simp [hl'])) (by
        simp only [List.size_toArray, List.length_append, List.length_take, List.length_drop, Array.length_toList]
        omega)]
      simp only [Option.some.injEq]
      rw [List.take_left' hk2, List.flatten_cons, List.append_assoc]
    exact (congrArg (fun a => Instr.fill (fun i => some (i * sz, sz)) a ((xs.zipIdx (k + 1)).map fun p => (p.2, p.1))) e2).trans e3

theorem idxd_map (ρ : Nat → Value) : ∀ (ops : List Operand) (k : Nat), (idxd k ops).map (fun p => (p.1, ev ρ p.2)) = ((ops.map (ev ρ)).zipIdx k).map fun p => (p.2, p.1)
  | [], _ => rfl
  | x :: r, k => by simp only [idxd, List.map_cons, List.zipIdx_cons, idxd_map ρ r (k + 1)]

/-- []T{x, y, ..} -/
theorem a_sliceMany {t e sz : Nat} {z : Value} {ops : List Operand} {css : List (List Value)} (ht : P.underlying t = some (.slice e)) (hz : zeroTy P e = some (z, sz)) (hpos : 0 < ops.length * sz) (hn : ops.length * sz ≤ 2 ^ 24)
    (hx : ops.map (fun x => (ev ρ x).cells) = css.map (fun l => (⟨l⟩ : Array Value))) (hl : ∀ l ∈ css, l.length = sz) :
    ∃ w', runOp P ρ (.buildSlice t ops.length ⟨idxd 0 ops⟩) w = .ok (.value (.slice (some ⟨w.heap.size, 0, none⟩) ops.length ops.length)) w' ∧ Has w' w.heap.size css.flatten ∧ Keeps [] w w' ∧ w'.heap.size = w.heap.size + 1 := by
  have hs := zeroTy_spec (w := w) hz
  refine ⟨{ w with heap := w.heap.push (.cells ⟨css.flatten⟩ e) }, ?_, has_alloc w _ e, keeps_alloc w _ _, by simp⟩
  have hfill := fill_rows (ops.map (ev ρ)) css 0 ((Array.range (ops.length * sz)).map (z.cells[· % z.cells.size]!)) (by rw [List.map_map]; exact hx) hl (by simp)
  rw [Nat.zero_mul, List.take_zero, List.nil_append] at hfill
  unfold runOp bareOp
  simp only [execOp, Instr.buildSlice, Sem.run_bind, run_under ht, Result.andThen_ok, size_run hs.2]
  rw [if_neg (by omega)]
  simp only [Sem.run_pure, Result.andThen_ok, if_neg (show ¬ ops.length * sz = 0 by omega), Sem.run_bind, hs.1]
  have e1 : (Array.map (fun x : Nat × Operand => (x.1, ev ρ x.2)) ⟨idxd 0 ops⟩).toList = ((ops.map (ev ρ)).zipIdx 0).map fun p => (p.2, p.1) := by
    rw [Array.toList_map]
    exact idxd_map ρ ops 0
  simp only [e1, hfill]
  simp [newRow]

theorem AccOk.list {n : Nat} : ∀ {xs : List Operand} {fs : List PF}, AccOk ρ w n xs fs → ∃ css : List (List Value), xs.map (fun x => (ev ρ x).cells) = css.map (fun l => (⟨l⟩ : Array Value)) ∧ (∀ l ∈ css, l.length = 8) ∧ FieldsC w fs css.flatten ∧ fs.length = xs.length ∧ css.length = xs.length
  | [], _, h => by simp only [AccOk] at h; subst h; exact ⟨[], rfl, (fun l hl => by cases hl), rfl, rfl, rfl⟩
  | x :: r, _, ⟨f, fr, cs, e, h1, h2, h3, h4⟩ => by
    obtain ⟨css, g1, g2, g3, g4, g5⟩ := AccOk.list h4
    subst e
    refine ⟨cs :: css, ?_, fun l hl => ?_, ⟨cs, css.flatten, rfl, h3, g3⟩, by simp [g4], by simp [g5]⟩
    · simp only [List.map_cons, h2, g1]
      rfl
    · rcases List.mem_cons.1 hl with rfl | hl
      · exact h3.len
      · exact g2 l hl

/-- The list of fields, behind their building. -/
theorem s_fieldList {acc : List Operand} {fs : List PF} (S : SpFacts P c s) (ha : AccOk ρ w n acc fs) (h0 : 0 < acc.length) (h1 : acc.length ≤ 1000) (hk : ∀ v w', FieldsV w' fs v → Keeps [] w w' → k.sem P R Γ (n + 1) (ext ρ n [v]) w') :
    (Tr.op (.buildSlice s.fields acc.length ⟨idxd 0 acc⟩) none [] k).sem P R Γ n ρ w := by
  obtain ⟨css, g1, g2, g3, g4, g5⟩ := ha.list
  obtain ⟨z, hz, _⟩ := S.zField
  obtain ⟨w', e1, hh, kk, _⟩ := a_sliceMany (P := P) (ρ := ρ) (w := w) (sz := 8) S.sl hz (by omega) (by omega) g1 g2
  refine s_act e1 (fun p hp => by cases hp) (hk _ w' ⟨css.flatten, ?_, FieldsC.keep kk fs _ g3⟩ kk)
  have hfl : ∀ l : List (List Value), (∀ x ∈ l, x.length = 8) → l.flatten.length = l.length * 8 := by
    intro l
    induction l with
    | nil => intro _; rfl
    | cons x l ih => intro h; rw [List.flatten_cons, List.length_append, ih fun y hy => h y (by simp [hy]), h x (by simp), List.length_cons]; omega
  refine ⟨by rw [hfl css g2, g5, g4], .inr ⟨w.heap.size, 0, acc.length, by rw [g4], hh.lt, by omega, fun i hi => ?_⟩⟩
  rw [Nat.zero_add]
  have hi' : i < css.flatten.length := by rw [hfl css g2, g5, ← g4]; exact hi
  rw [List.getElem?_eq_getElem hi']
  exact hh.cell (List.getElem?_eq_getElem hi')

theorem FbsOk.len : ∀ {fbs : List FB} {fs : List PF}, FbsOk P fbs fs → fs.length = fbs.length
  | [], _, h => by simp only [FbsOk] at h; subst h; rfl
  | _ :: r, _, ⟨f, fr, e, _, _, h⟩ => by subst e; simp [FbsOk.len h]

theorem fieldsFn_gives (S : SpFacts P c s) (B : FbFacts P s) {f : Nat} {fbs : List FB} {fs : List PF} (hT : treeIn P f noOrc [] 0 = gFieldsFn s fbs) (hf : FbsOk P fbs fs) (h0 : Nat.blt 0 fbs.length = true) (h1 : Nat.ble fbs.length 1000 = true) : FieldsFn P f fs := by
  intro w
  have hl := hf.len
  have q0 : 0 < fbs.length := Nat.le_of_ble_eq_true h0
  have q1 : fbs.length ≤ 1000 := Nat.le_of_ble_eq_true h1
  refine gives_in (ρ := en []) S.rd.mix hT (Nat.le_refl _) rfl (by simp) ?_
  refine gFB_sem S B fbs fs 0 [] [] (en []) w hf rfl (fun n' acc' ρ' w' _ kk _ ha hlen => ?_) rfl
  rw [List.nil_append] at ha hlen
  exact s_fieldList S ha (by omega) (by omega) fun v w2 hv k2 => s_ret1 ⟨by rw [show ev (ext ρ' n' [v]) (.tmp n') = v from ext_at]; exact hv, kk.trans k2⟩

theorem msgFn_gives (S : SpFacts P c s) (B : FbFacts P s) {f : Nat} {fbs : List FB} {fs : List PF} {x : Int} (hT : treeIn P f noOrc [] 0 = gMsgFn s fbs x) (hf : FbsOk P fbs fs) (h0 : Nat.blt 0 fbs.length = true) (h1 : Nat.ble fbs.length 1000 = true) : MsgFn P f fs x := by
  intro w
  have hl := hf.len
  have q0 : 0 < fbs.length := Nat.le_of_ble_eq_true h0
  have q1 : fbs.length ≤ 1000 := Nat.le_of_ble_eq_true h1
  refine gives_in (ρ := en []) S.rd.mix hT (Nat.le_refl _) rfl (by simp) ?_
  refine s_alloc B.zero fun w1 hz1 k1 z1 => ?_
  refine gFB_sem S B fbs fs 1 [] [] _ w1 hf rfl (fun n' acc' ρ' w' hn kk hρ ha hlen => ?_) rfl
  rw [List.nil_append] at ha hlen
  have hr0 : ρ' 0 = ptr w.heap.size := hρ (.tmp 0) (by simp [opBelow])
  refine s_fieldList S ha (by omega) (by omega) fun v w2 hv k2 => ?_
  have hone : v.oneCell' = true := by
    obtain ⟨_, h1, _⟩ := hv
    exact h1.one
  have ev1 : ev (ext ρ' n' [v]) (.tmp n') = v := ext_at
  refine s_val (v_build (cells := [v, .int .i64 x]) B.msg (fun p hp => ?_) ?_) ?_
  · simp only [List.mem_cons, List.not_mem_nil, or_false] at hp
    rcases hp with rfl | rfl
    · rfl
    · rw [ev1]; exact hone
  · simp only [List.map_cons, List.map_nil, ev1]
    rfl
  have hz2 := (hz1.keep kk (by simp)).keep k2 (by simp)
  refine s_storeAll (b := w.heap.size) (old := [.slice none 0 0, .int .i64 0]) (cs := [v, .int .i64 x]) S.msg ?_ ?_ hz2 rfl (fun u hu => ?_) fun w3 h3 k3 => ?_
  · show ext _ _ _ 0 = _
    rw [ext_lt (by omega), ext_lt (by omega)]
    exact hr0
  · rw [show ev (ext (ext ρ' n' [v]) (n' + 1) [.agg ⟨[v, .int .i64 x]⟩]) (.tmp (n' + 1)) = .agg ⟨[v, .int .i64 x]⟩ from ext_at]
    rfl
  · simp only [List.mem_cons, List.not_mem_nil, or_false] at hu
    rcases hu with rfl | rfl
    · exact hone
    · rfl
  have k03 : Keeps [] w w3 := ((((k1.trans kk).trans k2).mono (by simp)).trans k3).less fun x hx => .inr (by simp only [List.mem_singleton] at hx; omega)
  refine s_retAgg (b := w.heap.size) (cs := [v, .int .i64 x]) ?_ h3 S.msg ⟨⟨v, rfl, ?_⟩, k03⟩
  · show ext _ _ _ 0 = _
    rw [ext_lt (by omega), ext_lt (by omega), ext_lt (by omega)]
    exact hr0
  · obtain ⟨cs, f1, f2⟩ := hv
    exact ⟨cs, Ro.keepSmall hz2 (by decide) k3 f1, FieldsC.keepSmall hz2 (by decide) k3 fs cs f2⟩

end

end Go.Kf


namespace Go.Kf

open Go

/-- Octets appended to octets. -/
def WrPost (w : World) (v : Value) (l enc : List UInt8) (u : Value) (w' : World) : Prop := Own w' u 1 (l ++ enc).length (bcells (l ++ enc)) ∧ Keeps (blkOf v) w w' ∧ ∀ b ∈ blkOf u, b ∈ blkOf v ∨ w.heap.size ≤ b

/-- A function appends this, whatever there is. -/
def WrV (P : Program) (f : Nat) (xs : List Value) (enc : List UInt8) : Prop := ∀ (w : World) (v : Value) (l : List UInt8), Own w v 1 l.length (bcells l) → (l ++ enc).length ≤ maxW → Gives P f (v :: xs) w (WrPost w v l enc)

theorem WrPost.trans {w w1 w2 : World} {v u x : Value} {l e1 e2 : List UInt8} (h1 : WrPost w v l e1 u w1) (h2 : WrPost w1 u (l ++ e1) e2 x w2) : WrPost w v l (e1 ++ e2) x w2 := by
  have hs := h1.2.1.size
  refine ⟨by rw [← List.append_assoc]; exact h2.1, ?_, fun b hb => ?_⟩
  · refine (Keeps.trans (h1.2.1.mono (List.subset_append_left _ (blkOf u))) (h2.2.1.mono (List.subset_append_right (blkOf v) _))).less fun b hb => ?_
    rcases List.mem_append.1 hb with hb | hb
    · exact .inl hb
    · exact h1.2.2 b hb
  · rcases h2.2.2 b hb with h | h
    · exact h1.2.2 b h
    · exact .inr (by omega)

theorem WrPost.under {w w1 w2 : World} {v u : Value} {l e : List UInt8} (hk : Keeps [] w w1) (h : WrPost w1 v l e u w2) : WrPost w v l e u w2 := by
  have hs := hk.size
  exact ⟨h.1, (hk.mono (by simp)).trans h.2.1, fun b hb => (h.2.2 b hb).imp id fun h => by omega⟩

theorem WrPost.same {w : World} {v : Value} {l : List UInt8} (h : Own w v 1 l.length (bcells l)) : WrPost w v l [] v w := ⟨by rw [List.append_nil]; exact h, .refl, fun _ hb => .inl hb⟩

theorem WrPost.more {w w1 w2 : World} {v u : Value} {l e : List UInt8} (h : WrPost w v l e u w1) (hk : Keeps [] w1 w2) : WrPost w v l e u w2 :=
  ⟨h.1.keep hk (by simp), h.2.1.trans (hk.mono (by simp)), h.2.2⟩

def appB (c : Nums) (x y : Operand) (t : Nat) : Op := .call { callee := .builtin .append, args := ⟨[x, y]⟩, argTypes := ⟨[c.tBytes, t]⟩ }

def tAppU16 (c : Nums) : Tr :=
  .op (.binOp .shr c.tU16 (.tmp 1) (.const (.int .u64 8)) c.tUint) none [] <| .op (.convert c.tU16 c.tU8 (.tmp 2)) none [] <| .op (.convert c.tU16 c.tU8 (.tmp 1)) none [] <|
  .op (.buildSlice c.tBytes 2 ⟨idxd 0 [.tmp 3, .tmp 4]⟩) none [] <| .op (appB c (.tmp 0) (.tmp 5) c.tBytes) none [] <| .ret [(.tmp 6, none)]

def tAppU32 (c : Nums) : Tr :=
  .op (.binOp .shr c.tU32 (.tmp 1) (.const (.int .u64 24)) c.tUint) none [] <| .op (.convert c.tU32 c.tU8 (.tmp 2)) none [] <| .op (.binOp .shr c.tU32 (.tmp 1) (.const (.int .u64 16)) c.tUint) none [] <| .op (.convert c.tU32 c.tU8 (.tmp 4)) none [] <|
  .op (.binOp .shr c.tU32 (.tmp 1) (.const (.int .u64 8)) c.tUint) none [] <| .op (.convert c.tU32 c.tU8 (.tmp 6)) none [] <| .op (.convert c.tU32 c.tU8 (.tmp 1)) none [] <|
  .op (.buildSlice c.tBytes 4 ⟨idxd 0 [.tmp 3, .tmp 5, .tmp 7, .tmp 8]⟩) none [] <| .op (appB c (.tmp 0) (.tmp 9) c.tBytes) none [] <| .ret [(.tmp 10, none)]

def gShr (c : Nums) (j n : Nat) (k : Tr) : Tr := .op (.binOp .shr c.tU64 (.tmp 1) (.const (.int .u64 j)) c.tUint) none [] <| .op (.convert c.tU64 c.tU8 (.tmp n)) none [] k

def tAppU64 (c : Nums) : Tr := gShr c 56 2 <| gShr c 48 4 <| gShr c 40 6 <| gShr c 32 8 <| gShr c 24 10 <| gShr c 16 12 <| gShr c 8 14 <| .op (.convert c.tU64 c.tU8 (.tmp 1)) none [] <|
  .op (.buildSlice c.tBytes 8 ⟨idxd 0 [.tmp 3, .tmp 5, .tmp 7, .tmp 9, .tmp 11, .tmp 13, .tmp 15, .tmp 16]⟩) none [] <| .op (appB c (.tmp 0) (.tmp 17) c.tBytes) none [] <| .ret [(.tmp 18, none)]

def tAppInt (t1 t2 f : Nat) : Tr := .op (.convert t1 t2 (.tmp 1)) none [] <| .op (callOp f [.tmp 0, .tmp 2]) none [] <| .ret [(.tmp 3, none)]

def tAppCLen (c : Nums) (f : Nat) : Tr := .op (.convert c.tInt c.tU32 (.tmp 1)) none [] <| .op (.binOp .add c.tU32 (.const (.int .u32 1)) (.tmp 2) c.tU32) none [] <| .op (callOp f [.tmp 0, .tmp 3]) none [] <| .ret [(.tmp 4, none)]

/-- A text or octets, counted in so many octets; tx: its type. -/
def tAppStr (c : Nums) (tx tI f : Nat) : Tr :=
  .op (.call { callee := .builtin .len, args := ⟨[.tmp 1]⟩, argTypes := ⟨[tx]⟩ }) none [] <| .op (.convert c.tInt tI (.tmp 2)) none [] <| .op (callOp f [.tmp 0, .tmp 3]) none [] <| .op (appB c (.tmp 4) (.tmp 1) tx) none [] <| .ret [(.tmp 5, none)]

def tAppCStr (c : Nums) (tx f : Nat) : Tr :=
  .op (.call { callee := .builtin .len, args := ⟨[.tmp 1]⟩, argTypes := ⟨[tx]⟩ }) none [] <| .op (.convert c.tInt c.tU32 (.tmp 2)) none [] <| .op (.binOp .add c.tU32 (.const (.int .u32 1)) (.tmp 3) c.tU32) none [] <|
  .op (callOp f [.tmp 0, .tmp 4]) none [] <| .op (appB c (.tmp 5) (.tmp 1) tx) none [] <| .ret [(.tmp 6, none)]

def lenTab : ByteArray := ⟨⟨[0, 1] ++ List.replicate 2 2 ++ List.replicate 4 3 ++ List.replicate 8 4 ++ List.replicate 16 5 ++ List.replicate 32 6 ++ List.replicate 64 7 ++ List.replicate 128 8⟩⟩

def uvTab : ByteArray := ⟨⟨List.replicate 8 1 ++ List.replicate 7 2 ++ List.replicate 7 3 ++ List.replicate 7 4 ++ List.replicate 7 5 ++ List.replicate 7 6 ++ List.replicate 7 7 ++ List.replicate 7 8 ++ List.replicate 7 9 ++ [10] ++ List.replicate 191 0⟩⟩

def tLen32 (c : Nums) : Tr :=
  .op (.binOp .geq c.tU32 (.tmp 0) (.const (.int .u32 65536)) c.tU32) none [] <|
  .join 0 (.cond (.tmp 1) (.op (.binOp .shr c.tU32 (.tmp 0) (.const (.int .u64 16)) c.tUint) none [] <| .to 0 [.tmp 2, .const (.int .i64 16)]) (.to 0 [.tmp 0, .const (.int .i64 0)])) 2 <|
  .op (.binOp .geq c.tU32 (.tmp 2) (.const (.int .u32 256)) c.tU32) none [] <|
  .join 0 (.cond (.tmp 4) (.op (.binOp .shr c.tU32 (.tmp 2) (.const (.int .u64 8)) c.tUint) none [] <| .op (.binOp .add c.tInt (.tmp 3) (.const (.int .i64 8)) c.tInt) none [] <| .to 0 [.tmp 5, .tmp 6]) (.to 0 [.tmp 2, .tmp 3])) 2 <|
  .op (.convert c.tU32 c.tU8 (.tmp 5)) none [] <| .op (.index c.tStr (.const (.string lenTab)) (.tmp 7)) none [] <| .op (.convert c.tU8 c.tInt (.tmp 8)) none [] <| .op (.binOp .add c.tInt (.tmp 6) (.tmp 9) c.tInt) none [] <| .ret [(.tmp 10, none)]

def tUvLen (c : Nums) (f : Nat) : Tr := .op (callOp f [.tmp 0]) none [] <| .op (.convert c.tInt c.tU8 (.tmp 1)) none [] <| .op (.index c.tStr (.const (.string uvTab)) (.tmp 2)) none [] <| .op (.convert c.tU8 c.tInt (.tmp 3)) none [] <| .ret [(.tmp 4, none)]

/-- A group of seven bits that isn't the last: of what is at x, named from n. -/
def gGrp (c : Nums) (x : Operand) (n : Nat) (k : Tr) : Tr := .op (.binOp .and c.tU32 x (.const (.int .u32 127)) c.tU32) none [] <| .op (.binOp .or c.tU32 (.tmp n) (.const (.int .u32 128)) c.tU32) none [] <| .op (.convert c.tU32 c.tU8 (.tmp (n + 1))) none [] k

def gSft (c : Nums) (j _n : Nat) (k : Tr) : Tr := .op (.binOp .shr c.tU32 (.tmp 1) (.const (.int .u64 j)) c.tUint) none [] k

def tAppUv (c : Nums) (f : Nat) : Tr :=
  .op (callOp f [.tmp 1]) none [] <| .op (.binOp .eql c.tInt (.tmp 2) (.const (.int .i64 5)) c.tInt) none [] <|
  .cond (.tmp 3) (gGrp c (.tmp 1) 4 <| gSft c 7 7 <| gGrp c (.tmp 7) 8 <| gSft c 14 11 <| gGrp c (.tmp 11) 12 <| gSft c 21 15 <| gGrp c (.tmp 15) 16 <| gSft c 28 19 <| .op (.convert c.tU32 c.tU8 (.tmp 19)) none [] <|
    .op (.buildSlice c.tBytes 5 ⟨idxd 0 [.tmp 6, .tmp 10, .tmp 14, .tmp 18, .tmp 20]⟩) none [] <| .op (appB c (.tmp 0) (.tmp 21) c.tBytes) none [] <| .ret [(.tmp 22, none)]) <|
  .op (.binOp .eql c.tInt (.tmp 2) (.const (.int .i64 4)) c.tInt) none [] <|
  .cond (.tmp 4) (gGrp c (.tmp 1) 5 <| gSft c 7 8 <| gGrp c (.tmp 8) 9 <| gSft c 14 12 <| gGrp c (.tmp 12) 13 <| gSft c 21 16 <| .op (.convert c.tU32 c.tU8 (.tmp 16)) none [] <|
    .op (.buildSlice c.tBytes 4 ⟨idxd 0 [.tmp 7, .tmp 11, .tmp 15, .tmp 17]⟩) none [] <| .op (appB c (.tmp 0) (.tmp 18) c.tBytes) none [] <| .ret [(.tmp 19, none)]) <|
  .op (.binOp .eql c.tInt (.tmp 2) (.const (.int .i64 3)) c.tInt) none [] <|
  .cond (.tmp 5) (gGrp c (.tmp 1) 6 <| gSft c 7 9 <| gGrp c (.tmp 9) 10 <| gSft c 14 13 <| .op (.convert c.tU32 c.tU8 (.tmp 13)) none [] <|
    .op (.buildSlice c.tBytes 3 ⟨idxd 0 [.tmp 8, .tmp 12, .tmp 14]⟩) none [] <| .op (appB c (.tmp 0) (.tmp 15) c.tBytes) none [] <| .ret [(.tmp 16, none)]) <|
  .op (.binOp .eql c.tInt (.tmp 2) (.const (.int .i64 2)) c.tInt) none [] <|
  .cond (.tmp 6) (gGrp c (.tmp 1) 7 <| gSft c 7 10 <| .op (.convert c.tU32 c.tU8 (.tmp 10)) none [] <|
    .op (.buildSlice c.tBytes 2 ⟨idxd 0 [.tmp 9, .tmp 11]⟩) none [] <| .op (appB c (.tmp 0) (.tmp 12) c.tBytes) none [] <| .ret [(.tmp 13, none)]) <|
  .op (.binOp .eql c.tInt (.tmp 2) (.const (.int .i64 1)) c.tInt) none [] <|
  .cond (.tmp 7) (.op (.convert c.tU32 c.tU8 (.tmp 1)) none [] <| .op (.buildSlice c.tBytes 1 ⟨idxd 0 [.tmp 8]⟩) none [] <| .op (appB c (.tmp 0) (.tmp 9) c.tBytes) none [] <| .ret [(.tmp 10, none)]) (.ret [(.tmp 0, none)])

section

variable {P : Program} {c : Nums} {s : SN} {R : Value → World → Prop} {Γ : List (List Value → World → Prop)} {n : Nat} {ρ : Nat → Value} {w : World} {k : Tr}

theorem a_appW {x y : Operand} {v u : Value} {l e : List UInt8} {tx : Nat} (S : SpFacts P c s) (hx : ev ρ x = v) (hy : ev ρ y = u) (ho : Own w v 1 l.length (bcells l)) (hs : Src P 1 tx u e.length (bcells e) w) (hl : (l ++ e).length ≤ maxW) :
    ∃ v' w', runOp P ρ (appB c x y tx) w = .ok (.value v') w' ∧ WrPost w v l e v' w' := by
  obtain ⟨inf, hi, hz, hsz, hb⟩ := S.zero8
  rw [List.length_append] at hl
  obtain ⟨v', w', h1, h2, h3, h4⟩ := a_append (P := P) (ρ := ρ) (w := w) (tx := tx) S.rd.bytes hi hz hsz rfl hx hy ho hs (by
    calc (l.length + e.length) * inf.bytes ≤ maxW * 8 := Nat.mul_le_mul hl hb
      _ ≤ 140737488355328 := by decide) (by unfold maxW at hl; omega)
  exact ⟨v', w', h1, by rw [List.length_append, bcells_append]; exact h2, h3, h4⟩

theorem s_appW {x y : Operand} {v u : Value} {l e : List UInt8} {tx : Nat} {Fo : List (Op × Nat)} (S : SpFacts P c s) (hx : ev ρ x = v) (hy : ev ρ y = u) (ho : Own w v 1 l.length (bcells l)) (hs : Src P 1 tx u e.length (bcells e) w) (hl : (l ++ e).length ≤ maxW)
    (hk : ∀ v' w', WrPost w v l e v' w' → (∀ p ∈ Fo, runOp P ρ p.1 w' = .ok (.value (ρ p.2)) w') ∧ k.sem P R Γ (n + 1) (ext ρ n [v']) w') : (Tr.op (appB c x y tx) none Fo k).sem P R Γ n ρ w := by
  obtain ⟨v', w', h1, h2⟩ := a_appW S hx hy ho hs hl
  exact s_act h1 (hk v' w' h2).1 (hk v' w' h2).2

/-- append(dst, x, y, ..) -/
theorem s_pushMany {x : Operand} {ops : List Operand} {v : Value} {l bs : List UInt8} (S : SpFacts P c s) (hx : ev ρ x = v) (hbx : opBelow n x) (hops : ops.map (ev ρ) = bcells bs) (h0 : 0 < bs.length) (hn : bs.length ≤ 16) (ho : Own w v 1 l.length (bcells l)) (hl : (l ++ bs).length ≤ maxW)
    (hk : ∀ u v' w', WrPost w v l bs v' w' → k.sem P R Γ (n + 2) (ext (ext ρ n [u]) (n + 1) [v']) w') :
    (Tr.op (.buildSlice c.tBytes ops.length ⟨idxd 0 ops⟩) none [] <| Tr.op (appB c x (.tmp n) c.tBytes) none [] k).sem P R Γ n ρ w := by
  obtain ⟨inf, hi, hz, hsz, hb⟩ := S.zero8
  have hlen : ops.length = bs.length := by
    have := congrArg List.length hops
    simpa [bcells_length] using this
  have hfl : ((bcells bs).map fun v => [v]).flatten = bcells bs := by
    generalize bcells bs = z
    induction z with
    | nil => rfl
    | cons a z ih => simp only [List.map_cons, List.flatten_cons, ih]; rfl
  obtain ⟨w1, e1, hh, kk, _⟩ := a_sliceMany (P := P) (ρ := ρ) (w := w) (ops := ops) (sz := 1) (z := .int .u8 0) (css := (bcells bs).map fun v => [v]) S.rd.bytes (by simp [zeroTy, hi, hz, hsz]) (by omega) (by omega) (by
    rw [List.map_map, ← hops, List.map_map]
    refine List.map_congr_left fun y hy => ?_
    have hy' : ev ρ y ∈ bcells bs := by rw [← hops]; exact List.mem_map_of_mem hy
    exact cells_one (bcells_one bs _ hy')) (fun l hl => by
    obtain ⟨y, _, rfl⟩ := List.mem_map.1 hl
    rfl)
  rw [hfl] at hh
  refine s_act e1 (fun p hp => by cases hp) ?_
  have hr : Reads w1 (.slice (some ⟨w.heap.size, 0, none⟩) ops.length ops.length) 1 bs.length (bcells bs) := ⟨by simp [bcells_length], .inr ⟨w.heap.size, 0, ops.length, bcells bs, by rw [hlen], by omega, hh, by simp [bcells_length], by rw [List.drop_zero, Nat.mul_one, List.take_of_length_le (by simp [bcells_length])]⟩⟩
  exact s_appW S (by rw [ev_ext hbx]; exact hx) ext_at (ho.keep kk (by simp)) (hr.src S.rd.bytes (bcells_one bs)) hl fun v' w' hp => ⟨fun p hp => (by cases hp), hk _ v' w' (hp.under kk)⟩

theorem octAt (n : Int) (i : Nat) : (Value.int .u8 (IntKind.u8.wrap (n / 2 ^ (8 * i)))) = .int .u8 ((octOf n i).toNat : Int) := octCell _

theorem octAt0 (n : Int) : (Value.int .u8 (IntKind.u8.wrap n)) = .int .u8 ((octOf n 0).toNat : Int) := by
  have := octAt n 0
  rwa [show (2 : Int) ^ (8 * 0) = 1 from rfl, Int.ediv_one] at this

theorem appU16_gives {f : Nat} (S : SpFacts P c s) (hu : P.underlying c.tU16 = some (.int .u16)) (hT : treeIn P f noOrc [.tmp 0, .tmp 1] 2 = tAppU16 c) (x : Int) : WrV P f [.int .u16 x] (pFixed x 2) := by
  intro w v l ho hl
  refine gives_in (ρ := en [v, .int .u16 x]) S.rd.mix hT (Nat.le_refl _) rfl (by simp [opBelow]) ?_
  refine s_val (v_shr (kk := .u16) (k2 := .u64) (a := x) (j := 8) rfl rfl (by decide)) ?_
  refine s_val (v_conv (k1 := .u16) (a := x / 2 ^ 8) hu S.rd.u8 rfl) ?_
  refine s_val (v_conv (k1 := .u16) (a := x) hu S.rd.u8 rfl) ?_
  refine s_pushMany (bs := pFixed x 2) (ops := [.tmp 3, .tmp 4]) S rfl (by simp [opBelow]) ?_ (by simp [pFixed]) (by simp [pFixed]) ho hl fun u v' w' hp => s_ret1 hp
  show [Value.int .u8 (IntKind.u8.wrap (x / 2 ^ (8 * 1))), .int .u8 (IntKind.u8.wrap x)] = _
  rw [octAt, octAt0]
  rfl

theorem appU32_gives {f : Nat} (S : SpFacts P c s) (hT : treeIn P f noOrc [.tmp 0, .tmp 1] 2 = tAppU32 c) (x : Int) : WrV P f [.int .u32 x] (pFixed x 4) := by
  intro w v l ho hl
  refine gives_in (ρ := en [v, .int .u32 x]) S.rd.mix hT (Nat.le_refl _) rfl (by simp [opBelow]) ?_
  refine s_val (v_shr (kk := .u32) (k2 := .u64) (a := x) (j := 24) rfl rfl (by decide)) ?_
  refine s_val (v_conv (k1 := .u32) (a := x / 2 ^ 24) S.rd.u32 S.rd.u8 rfl) ?_
  refine s_val (v_shr (kk := .u32) (k2 := .u64) (a := x) (j := 16) rfl rfl (by decide)) ?_
  refine s_val (v_conv (k1 := .u32) (a := x / 2 ^ 16) S.rd.u32 S.rd.u8 rfl) ?_
  refine s_val (v_shr (kk := .u32) (k2 := .u64) (a := x) (j := 8) rfl rfl (by decide)) ?_
  refine s_val (v_conv (k1 := .u32) (a := x / 2 ^ 8) S.rd.u32 S.rd.u8 rfl) ?_
  refine s_val (v_conv (k1 := .u32) (a := x) S.rd.u32 S.rd.u8 rfl) ?_
  refine s_pushMany (bs := pFixed x 4) (ops := [.tmp 3, .tmp 5, .tmp 7, .tmp 8]) S rfl (by simp [opBelow]) ?_ (by simp [pFixed]) (by simp [pFixed]) ho hl fun u v' w' hp => s_ret1 hp
  show [Value.int .u8 (IntKind.u8.wrap (x / 2 ^ (8 * 3))), .int .u8 (IntKind.u8.wrap (x / 2 ^ (8 * 2))), .int .u8 (IntKind.u8.wrap (x / 2 ^ (8 * 1))), .int .u8 (IntKind.u8.wrap x)] = _
  rw [octAt, octAt, octAt, octAt0]
  rfl

theorem appU64_gives {f : Nat} (S : SpFacts P c s) (hT : treeIn P f noOrc [.tmp 0, .tmp 1] 2 = tAppU64 c) (x : Int) : WrV P f [.int .u64 x] (pFixed x 8) := by
  intro w v l ho hl
  refine gives_in (ρ := en [v, .int .u64 x]) S.rd.mix hT (Nat.le_refl _) rfl (by simp [opBelow]) ?_
  refine s_val (v_shr (kk := .u64) (k2 := .u64) (a := x) (j := 56) rfl rfl (by decide)) (s_val (v_conv (k1 := .u64) (a := x / 2 ^ 56) S.u64 S.rd.u8 rfl) ?_)
  refine s_val (v_shr (kk := .u64) (k2 := .u64) (a := x) (j := 48) rfl rfl (by decide)) (s_val (v_conv (k1 := .u64) (a := x / 2 ^ 48) S.u64 S.rd.u8 rfl) ?_)
  refine s_val (v_shr (kk := .u64) (k2 := .u64) (a := x) (j := 40) rfl rfl (by decide)) (s_val (v_conv (k1 := .u64) (a := x / 2 ^ 40) S.u64 S.rd.u8 rfl) ?_)
  refine s_val (v_shr (kk := .u64) (k2 := .u64) (a := x) (j := 32) rfl rfl (by decide)) (s_val (v_conv (k1 := .u64) (a := x / 2 ^ 32) S.u64 S.rd.u8 rfl) ?_)
  refine s_val (v_shr (kk := .u64) (k2 := .u64) (a := x) (j := 24) rfl rfl (by decide)) (s_val (v_conv (k1 := .u64) (a := x / 2 ^ 24) S.u64 S.rd.u8 rfl) ?_)
  refine s_val (v_shr (kk := .u64) (k2 := .u64) (a := x) (j := 16) rfl rfl (by decide)) (s_val (v_conv (k1 := .u64) (a := x / 2 ^ 16) S.u64 S.rd.u8 rfl) ?_)
  refine s_val (v_shr (kk := .u64) (k2 := .u64) (a := x) (j := 8) rfl rfl (by decide)) (s_val (v_conv (k1 := .u64) (a := x / 2 ^ 8) S.u64 S.rd.u8 rfl) ?_)
  refine s_val (v_conv (k1 := .u64) (a := x) S.u64 S.rd.u8 rfl) ?_
  refine s_pushMany (bs := pFixed x 8) (ops := [.tmp 3, .tmp 5, .tmp 7, .tmp 9, .tmp 11, .tmp 13, .tmp 15, .tmp 16]) S rfl (by simp [opBelow]) ?_ (by simp [pFixed]) (by simp [pFixed]) ho hl fun u v' w' hp => s_ret1 hp
  show [Value.int .u8 (IntKind.u8.wrap (x / 2 ^ (8 * 7))), .int .u8 (IntKind.u8.wrap (x / 2 ^ (8 * 6))), .int .u8 (IntKind.u8.wrap (x / 2 ^ (8 * 5))), .int .u8 (IntKind.u8.wrap (x / 2 ^ (8 * 4))), .int .u8 (IntKind.u8.wrap (x / 2 ^ (8 * 3))), .int .u8 (IntKind.u8.wrap (x / 2 ^ (8 * 2))), .int .u8 (IntKind.u8.wrap (x / 2 ^ (8 * 1))), .int .u8 (IntKind.u8.wrap x)] = _
  rw [octAt, octAt, octAt, octAt, octAt, octAt, octAt, octAt0]
  rfl

/-- A number of another kind, converted first. -/
theorem appInt_gives {f g t1 t2 N : Nat} {k1 k2 : IntKind} {d1 : TypeDesc} (S : SpFacts P c s) (ht1 : P.underlying t1 = some d1) (ht2 : P.underlying t2 = some (.int k2)) (hT : treeIn P f noOrc [.tmp 0, .tmp 1] 2 = tAppInt t1 t2 g) (hg : ∀ x, WrV P g [.int k2 x] (pFixed x N)) (hw : ∀ x, pFixed (k2.wrap x) N = pFixed x N) (x : Int) : WrV P f [.int k1 x] (pFixed x N) := by
  intro w v l ho hl
  refine gives_in (ρ := en [v, .int k1 x]) S.rd.mix hT (Nat.le_refl _) rfl (by simp [opBelow]) ?_
  refine s_val (v_conv (k1 := k1) (a := x) ht1 ht2 rfl) ?_
  have := hg (k2.wrap x) w v l ho (by rw [hw]; exact hl)
  rw [hw] at this
  exact s_callx this rfl fun u w' hp => s_ret1 hp

theorem pFixed_wrapu32 (n : Int) : pFixed (IntKind.u32.wrap n) 4 = pFixed n 4 := pFixed_congr (N := 4) (by simp only [IntKind.wrap, IntKind.bits, IntKind.signed]; simp) 4 (Nat.le_refl _)

theorem pFixed_wrapu64 (n : Int) : pFixed (IntKind.u64.wrap n) 8 = pFixed n 8 := pFixed_congr (N := 8) (by simp only [IntKind.wrap, IntKind.bits, IntKind.signed]; simp) 8 (Nat.le_refl _)

theorem v_indexStr {t : Nat} {x y : Operand} {st : ByteArray} {kk : IntKind} {j : Nat} {b : UInt8} (ht : P.underlying t = some .string) (hx : ev ρ x = .string st) (hy : ev ρ y = .int kk j) (hb : st[j]? = some b) : Val P ρ (.index t x y) (.int .u8 (b.toNat : Int)) := fun w => by
  unfold runOp bareOp
  simp only [execOp, hx, hy, Instr.index, asIntOf, Sem.run_bind, Sem.run_pure, run_under ht, Result.andThen_ok]
  rw [if_pos (by omega), Int.toNat_natCast, hb]
  rfl

theorem lenTab_at (y : Nat) (h : y < 256) : ∃ b : UInt8, lenTab[y]? = some b ∧ b.toNat ≤ 8 ∧ (b.toNat ≤ 0 ↔ y < 1) ∧ (b.toNat ≤ 1 ↔ y < 2) ∧ (b.toNat ≤ 2 ↔ y < 4) ∧ (b.toNat ≤ 3 ↔ y < 8) ∧ (b.toNat ≤ 4 ↔ y < 16) ∧ (b.toNat ≤ 5 ↔ y < 32) ∧ (b.toNat ≤ 6 ↔ y < 64) ∧ (b.toNat ≤ 7 ↔ y < 128) := by
  have key : ∀ y : Fin 256, (match lenTab[y.val]? with
    | some b => decide (b.toNat ≤ 8) && decide (b.toNat ≤ 0 ↔ y.val < 1) && decide (b.toNat ≤ 1 ↔ y.val < 2) && decide (b.toNat ≤ 2 ↔ y.val < 4) && decide (b.toNat ≤ 3 ↔ y.val < 8) && decide (b.toNat ≤ 4 ↔ y.val < 16) && decide (b.toNat ≤ 5 ↔ y.val < 32) && decide (b.toNat ≤ 6 ↔ y.val < 64) && decide (b.toNat ≤ 7 ↔ y.val < 128)
    | none => false) = true := by decide +kernel
  have := key ⟨y, h⟩
  simp only at this
  split at this
  · rename_i b hb
    simp only [Bool.and_eq_true, decide_eq_true_eq] at this
    obtain ⟨⟨⟨⟨⟨⟨⟨⟨a1, a2⟩, a3⟩, a4⟩, a5⟩, a6⟩, a7⟩, a8⟩, a9⟩ := this
    exact ⟨b, hb, a1, a2, a3, a4, a5, a6, a7, a8, a9⟩
  · cases this

theorem uvTab_at (j : Nat) (h : j ≤ 32) : ∃ b : UInt8, uvTab[j]? = some b ∧ b.toNat = if j ≤ 7 then 1 else if j ≤ 14 then 2 else if j ≤ 21 then 3 else if j ≤ 28 then 4 else 5 := by
  have key : ∀ y : Fin 33, (match uvTab[y.val]? with
    | some b => decide (b.toNat = if y.val ≤ 7 then 1 else if y.val ≤ 14 then 2 else if y.val ≤ 21 then 3 else if y.val ≤ 28 then 4 else 5)
    | none => false) = true := by decide +kernel
  have := key ⟨j, by omega⟩
  simp only at this
  split at this
  · rename_i b hb
    exact ⟨b, hb, by simpa using this⟩
  · cases this

/-- How many bits a number has: as far as groups of seven are concerned. -/
def BitsOk (x m : Nat) : Prop := m ≤ 32 ∧ (m ≤ 7 ↔ x < 128) ∧ (m ≤ 14 ↔ x < 16384) ∧ (m ≤ 21 ↔ x < 2097152) ∧ (m ≤ 28 ↔ x < 268435456)

theorem len32_gives {f : Nat} (S : SpFacts P c s) (hT : treeIn P f noOrc [.tmp 0] 1 = tLen32 c) (x : Nat) (hx : x < 4294967296) : Gives P f [.int .u32 x] w fun u w' => w' = w ∧ ∃ m : Nat, u = .int .i64 m ∧ BitsOk x m := by
  refine gives_in (ρ := en [.int .u32 x]) S.rd.mix hT (Nat.le_refl _) rfl (by simp [opBelow]) ?_
  refine s_val (v_cmp (kk := .u32) (a := x) (b := 65536) (r := decide ((x : Int) ≥ 65536)) rfl rfl rfl) ?_
  refine ⟨rfl, fun vs w' => w' = w ∧ ∃ y m : Nat, vs = [.int .u32 y, .int .i64 m] ∧ ((65536 ≤ x ∧ y = x / 65536 ∧ m = 16) ∨ (x < 65536 ∧ y = x ∧ m = 0)), ?_, ?_⟩
  · refine s_cond (b := decide ((x : Int) ≥ 65536)) rfl (fun hb => ?_) fun hb => ?_
    · refine s_val (v_shr (kk := .u32) (k2 := .u64) (a := x) (j := 16) rfl rfl (by decide)) ?_
      refine ⟨_, rfl, rfl, x / 65536, 16, ?_, .inl ⟨by simp at hb; omega, rfl, rfl⟩⟩
      show [Value.int .u32 ((x : Int) / 2 ^ 16), .int .i64 16] = _
      rw [show (x : Int) / 2 ^ 16 = ((x / 65536 : Nat) : Int) by omega]
      rfl
    · exact ⟨_, rfl, rfl, x, 0, rfl, .inr ⟨by simp at hb; omega, rfl, rfl⟩⟩
  rintro vs w' _ ⟨rfl, y, m, rfl, hy⟩
  refine s_val (v_cmp (kk := .u32) (a := y) (b := 256) (r := decide ((y : Int) ≥ 256)) rfl rfl rfl) ?_
  refine ⟨rfl, fun vs w2 => w2 = w' ∧ ∃ z q : Nat, vs = [.int .u32 z, .int .i64 q] ∧ z < 256 ∧ ((256 ≤ y ∧ z = y / 256 ∧ q = m + 8) ∨ (y < 256 ∧ z = y ∧ q = m)), ?_, ?_⟩
  · refine s_cond (b := decide ((y : Int) ≥ 256)) rfl (fun hb => ?_) fun hb => ?_
    · refine s_val (v_shr (kk := .u32) (k2 := .u64) (a := y) (j := 8) rfl rfl (by decide)) ?_
      refine s_val (v_arith (kk := .i64) (a := m) (b := 8) rfl rfl rfl) ?_
      refine ⟨_, rfl, rfl, y / 256, m + 8, ?_, by omega, .inl ⟨by simp at hb; omega, rfl, rfl⟩⟩
      show [Value.int .u32 ((y : Int) / 2 ^ 8), .int .i64 (IntKind.i64.wrap ((m : Int) + 8))] = _
      rw [show (y : Int) / 2 ^ 8 = ((y / 256 : Nat) : Int) by omega, show IntKind.i64.wrap ((m : Int) + 8) = ((m + 8 : Nat) : Int) by rw [IntKind.wrap_i64]; omega]
    · exact ⟨_, rfl, rfl, y, m, rfl, by simp at hb; omega, .inr ⟨by simp at hb; omega, rfl, rfl⟩⟩
  rintro vs w2 _ ⟨rfl, z, q, rfl, hz, hq⟩
  obtain ⟨b, hb, t0, t1, t2, t3, t4, t5, t6, t7, t8⟩ := lenTab_at z hz
  refine s_val (v_conv (k1 := .u32) (a := z) S.rd.u32 S.rd.u8 rfl) ?_
  rw [show IntKind.u8.wrap (z : Int) = z by rw [wrap_u8']; omega]
  refine s_val (v_indexStr (kk := .u8) (j := z) S.rd.str rfl rfl hb) ?_
  refine s_val (v_conv (k1 := .u8) (a := b.toNat) S.rd.u8 S.rd.int rfl) ?_
  rw [i64_small (by omega) (by omega)]
  refine s_val (v_arith (kk := .i64) (a := q) (b := b.toNat) rfl rfl rfl) ?_
  rw [i64_small (by omega) (by omega)]
  refine s_ret1 ⟨rfl, q + b.toNat, ?_, by omega, by omega, by omega, by omega, by omega⟩
  show Value.int .i64 ((q : Int) + (b.toNat : Int)) = _
  rw [Int.natCast_add]

theorem pUv_length_eq (x : Nat) (hx : x < 4294967296) : pUv x = if x < 128 then [UInt8.ofNat x] else if x < 16384 then [UInt8.ofNat (x % 128 + 128), UInt8.ofNat (x / 128)] else if x < 2097152 then [UInt8.ofNat (x % 128 + 128), UInt8.ofNat (x / 128 % 128 + 128), UInt8.ofNat (x / 16384)]
    else if x < 268435456 then [UInt8.ofNat (x % 128 + 128), UInt8.ofNat (x / 128 % 128 + 128), UInt8.ofNat (x / 16384 % 128 + 128), UInt8.ofNat (x / 2097152)] else [UInt8.ofNat (x % 128 + 128), UInt8.ofNat (x / 128 % 128 + 128), UInt8.ofNat (x / 16384 % 128 + 128), UInt8.ofNat (x / 2097152 % 128 + 128), UInt8.ofNat (x / 268435456)] := by
  have e1 : x / 128 / 128 = x / 16384 := by omega
  have e2 : x / 16384 / 128 = x / 2097152 := by omega
  have e3 : x / 2097152 / 128 = x / 268435456 := by omega
  unfold pUv
  rw [pUvN]
  by_cases h1 : x < 128
  · rw [if_neg (by omega), if_pos h1]
  rw [if_pos (by omega), if_neg h1, pUvN]
  by_cases h2 : x < 16384
  · rw [if_neg (by omega), if_pos h2]
  rw [if_pos (by omega), if_neg h2, pUvN, e1]
  by_cases h3 : x < 2097152
  · rw [if_neg (by omega), if_pos h3]
  rw [if_pos (by omega), if_neg h3, pUvN, e2]
  by_cases h4 : x < 268435456
  · rw [if_neg (by omega), if_pos h4]
  rw [if_pos (by omega), if_neg h4, pUvN, e3, if_neg (by omega)]

theorem uvLen_gives {f g : Nat} (S : SpFacts P c s) (hg : ∀ (w : World) (x : Nat), x < 4294967296 → Gives P g [.int .u32 x] w fun u w' => w' = w ∧ ∃ m : Nat, u = .int .i64 m ∧ BitsOk x m) (hT : treeIn P f noOrc [.tmp 0] 1 = tUvLen c g) (x : Nat) (hx : x < 4294967296) :
    Gives P f [.int .u32 x] w fun u w' => w' = w ∧ u = .int .i64 ((pUv x).length : Int) := by
  refine gives_in (ρ := en [.int .u32 x]) S.rd.mix hT (Nat.le_refl _) rfl (by simp [opBelow]) ?_
  refine s_callx (hg w x hx) rfl fun u w1 ⟨hw, m, hu, h0, h1, h2, h3, h4⟩ => ?_
  subst hw
  subst hu
  obtain ⟨b, hb, hbv⟩ := uvTab_at m h0
  refine s_val (v_conv (k1 := .i64) (a := m) S.rd.int S.rd.u8 rfl) ?_
  rw [show IntKind.u8.wrap (m : Int) = m by rw [wrap_u8']; omega]
  refine s_val (v_indexStr (kk := .u8) (j := m) S.rd.str rfl rfl hb) ?_
  refine s_val (v_conv (k1 := .u8) (a := b.toNat) S.rd.u8 S.rd.int rfl) ?_
  have hb5 : b.toNat ≤ 5 := by rw [hbv]; repeat' split
                               all_goals omega
  rw [i64_small (by omega) (by omega)]
  refine s_ret1 ⟨rfl, ?_⟩
  show Value.int .i64 (b.toNat : Int) = _
  rw [pUv_length_eq x hx, hbv]
  by_cases a1 : x < 128
  · rw [if_pos (h1.2 a1), if_pos a1]; rfl
  rw [if_neg (fun h => a1 (h1.1 h)), if_neg a1]
  by_cases a2 : x < 16384
  · rw [if_pos (h2.2 a2), if_pos a2]; rfl
  rw [if_neg (fun h => a2 (h2.1 h)), if_neg a2]
  by_cases a3 : x < 2097152
  · rw [if_pos (h3.2 a3), if_pos a3]; rfl
  rw [if_neg (fun h => a3 (h3.1 h)), if_neg a3]
  by_cases a4 : x < 268435456
  · rw [if_pos (h4.2 a4), if_pos a4]; rfl
  rw [if_neg (fun h => a4 (h4.1 h)), if_neg a4]
  rfl

theorem and127_u32 (m : Nat) (_h : m < 2 ^ 32) : bits .and .u32 m 127 = ((m % 128 : Nat) : Int) := by
  have h2 : ((BitVec.ofInt 32 (m : Int)) &&& (BitVec.ofInt 32 127)).toNat = m % 128 := by
    rw [BitVec.toNat_and, BitVec.toNat_ofInt, show (BitVec.ofInt 32 127).toNat = 2 ^ 7 - 1 from rfl, Nat.and_two_pow_sub_one_eq_mod]
    omega
  show IntKind.u32.wrap (((BitVec.ofInt 32 (m : Int)) &&& (BitVec.ofInt 32 127)).toNat : Int) = _
  rw [h2, wraps_u32 _ (by omega) (by omega)]

theorem or128_u32 (m : Nat) (h : m < 128) : bits .or .u32 m 128 = ((m + 128 : Nat) : Int) := by
  have h2 : ∀ x : Fin 128, bits .or .u32 (x.val : Int) 128 = ((x.val + 128 : Nat) : Int) := by decide +kernel
  exact h2 ⟨m, h⟩

theorem byteCell (z : Nat) : (Value.int .u8 (IntKind.u8.wrap (z : Int))) = .int .u8 ((UInt8.ofNat z).toNat : Int) := by
  rw [wrap_u8', UInt8.toNat_ofNat']
  congr 1

theorem s_grp {x : Operand} {y : Nat} (S : SpFacts P c s) (hx : ev ρ x = .int .u32 (y : Int)) (hy : y < 4294967296)
    (hk : k.sem P R Γ (n + 3) (ext (ext (ext ρ n [.int .u32 ((y % 128 : Nat) : Int)]) (n + 1) [.int .u32 ((y % 128 + 128 : Nat) : Int)]) (n + 2) [.int .u8 ((UInt8.ofNat (y % 128 + 128)).toNat : Int)]) w) : (gGrp c x n k).sem P R Γ n ρ w := by
  unfold gGrp
  refine s_val (v_bits (kk := .u32) (a := y) (b := 127) (.inl rfl) hx rfl (and127_u32 y hy)) ?_
  refine s_val (v_bits (kk := .u32) (a := ((y % 128 : Nat) : Int)) (b := 128) (.inr rfl) ext_at rfl (or128_u32 _ (by omega))) ?_
  refine s_val (v_conv (k1 := .u32) (a := ((y % 128 + 128 : Nat) : Int)) S.rd.u32 S.rd.u8 ext_at) ?_
  rw [byteCell]
  exact hk

theorem s_sft {j x d : Nat} (hx : ρ 1 = .int .u32 (x : Int)) (hj : j ≤ 32) (hd : (x : Int) / 2 ^ j = (d : Int)) (hk : k.sem P R Γ (n + 1) (ext ρ n [.int .u32 (d : Int)]) w) : (gSft c j n k).sem P R Γ n ρ w := by
  unfold gSft
  refine s_val (v_shr (kk := .u32) (k2 := .u64) (a := x) (j := j) hx rfl hj) ?_
  rw [hd]
  exact hk

theorem s_last {x : Operand} {d : Nat} (S : SpFacts P c s) (hx : ev ρ x = .int .u32 (d : Int)) (hk : k.sem P R Γ (n + 1) (ext ρ n [.int .u8 ((UInt8.ofNat d).toNat : Int)]) w) : (Tr.op (.convert c.tU32 c.tU8 x) none [] k).sem P R Γ n ρ w := by
  refine s_val (v_conv (k1 := .u32) (a := (d : Int)) S.rd.u32 S.rd.u8 hx) ?_
  rw [byteCell]
  exact hk

theorem appUv_gives {f g : Nat} (S : SpFacts P c s) (hg : ∀ (w : World) (x : Nat), x < 4294967296 → Gives P g [.int .u32 x] w fun u w' => w' = w ∧ u = .int .i64 ((pUv x).length : Int)) (hT : treeIn P f noOrc [.tmp 0, .tmp 1] 2 = tAppUv c g) (x : Nat) (hx : x < 4294967296) : WrV P f [.int .u32 x] (pUv x) := by
  intro w v l ho hl
  have e2 : (x : Int) / 2 ^ 7 = ((x / 128 : Nat) : Int) := by omega
  have e3 : (x : Int) / 2 ^ 14 = ((x / 16384 : Nat) : Int) := by omega
  have e4 : (x : Int) / 2 ^ 21 = ((x / 2097152 : Nat) : Int) := by omega
  have e5 : (x : Int) / 2 ^ 28 = ((x / 268435456 : Nat) : Int) := by omega
  refine gives_in (ρ := en [v, .int .u32 x]) S.rd.mix hT (Nat.le_refl _) rfl (by simp [opBelow]) ?_
  refine s_callx (hg w x hx) rfl fun u w1 ⟨hw, hu⟩ => ?_
  subst hw
  subst hu
  have hu := pUv_length_eq x hx
  by_cases a1 : x < 128
  · rw [if_pos a1] at hu
    rw [hu] at hl ⊢
    refine s_val (v_cmp (kk := .i64) (a := 1) (b := 5) (r := false) rfl rfl rfl) (s_cond (b := false) rfl (fun h => by cases h) fun _ => ?_)
    refine s_val (v_cmp (kk := .i64) (a := 1) (b := 4) (r := false) rfl rfl rfl) (s_cond (b := false) rfl (fun h => by cases h) fun _ => ?_)
    refine s_val (v_cmp (kk := .i64) (a := 1) (b := 3) (r := false) rfl rfl rfl) (s_cond (b := false) rfl (fun h => by cases h) fun _ => ?_)
    refine s_val (v_cmp (kk := .i64) (a := 1) (b := 2) (r := false) rfl rfl rfl) (s_cond (b := false) rfl (fun h => by cases h) fun _ => ?_)
    refine s_val (v_cmp (kk := .i64) (a := 1) (b := 1) (r := true) rfl rfl rfl) (s_cond (b := true) rfl (fun _ => ?_) fun h => by cases h)
    refine s_last S (d := x) rfl ?_
    exact s_pushMany (ops := [.tmp 8]) S rfl (by simp [opBelow]) rfl (by simp) (by simp) ho hl fun u v' w' hp => s_ret1 hp
  rw [if_neg a1] at hu
  by_cases a2 : x < 16384
  · rw [if_pos a2] at hu
    rw [hu] at hl ⊢
    refine s_val (v_cmp (kk := .i64) (a := 2) (b := 5) (r := false) rfl rfl rfl) (s_cond (b := false) rfl (fun h => by cases h) fun _ => ?_)
    refine s_val (v_cmp (kk := .i64) (a := 2) (b := 4) (r := false) rfl rfl rfl) (s_cond (b := false) rfl (fun h => by cases h) fun _ => ?_)
    refine s_val (v_cmp (kk := .i64) (a := 2) (b := 3) (r := false) rfl rfl rfl) (s_cond (b := false) rfl (fun h => by cases h) fun _ => ?_)
    refine s_val (v_cmp (kk := .i64) (a := 2) (b := 2) (r := true) rfl rfl rfl) (s_cond (b := true) rfl (fun _ => ?_) fun h => by cases h)
    refine s_grp S (y := x) rfl hx (s_sft rfl (by decide) e2 ?_)
    refine s_last S (d := x / 128) rfl ?_
    exact s_pushMany (ops := [.tmp 9, .tmp 11]) S rfl (by simp [opBelow]) rfl (by simp) (by simp) ho hl fun u v' w' hp => s_ret1 hp
  rw [if_neg a2] at hu
  by_cases a3 : x < 2097152
  · rw [if_pos a3] at hu
    rw [hu] at hl ⊢
    refine s_val (v_cmp (kk := .i64) (a := 3) (b := 5) (r := false) rfl rfl rfl) (s_cond (b := false) rfl (fun h => by cases h) fun _ => ?_)
    refine s_val (v_cmp (kk := .i64) (a := 3) (b := 4) (r := false) rfl rfl rfl) (s_cond (b := false) rfl (fun h => by cases h) fun _ => ?_)
    refine s_val (v_cmp (kk := .i64) (a := 3) (b := 3) (r := true) rfl rfl rfl) (s_cond (b := true) rfl (fun _ => ?_) fun h => by cases h)
    refine s_grp S (y := x) rfl hx (s_sft rfl (by decide) e2 ?_)
    refine s_grp S (y := x / 128) rfl (by omega) (s_sft rfl (by decide) e3 ?_)
    refine s_last S (d := x / 16384) rfl ?_
    exact s_pushMany (ops := [.tmp 8, .tmp 12, .tmp 14]) S rfl (by simp [opBelow]) rfl (by simp) (by simp) ho hl fun u v' w' hp => s_ret1 hp
  rw [if_neg a3] at hu
  by_cases a4 : x < 268435456
  · rw [if_pos a4] at hu
    rw [hu] at hl ⊢
    refine s_val (v_cmp (kk := .i64) (a := 4) (b := 5) (r := false) rfl rfl rfl) (s_cond (b := false) rfl (fun h => by cases h) fun _ => ?_)
    refine s_val (v_cmp (kk := .i64) (a := 4) (b := 4) (r := true) rfl rfl rfl) (s_cond (b := true) rfl (fun _ => ?_) fun h => by cases h)
    refine s_grp S (y := x) rfl hx (s_sft rfl (by decide) e2 ?_)
    refine s_grp S (y := x / 128) rfl (by omega) (s_sft rfl (by decide) e3 ?_)
    refine s_grp S (y := x / 16384) rfl (by omega) (s_sft rfl (by decide) e4 ?_)
    refine s_last S (d := x / 2097152) rfl ?_
    exact s_pushMany (ops := [.tmp 7, .tmp 11, .tmp 15, .tmp 17]) S rfl (by simp [opBelow]) rfl (by simp) (by simp) ho hl fun u v' w' hp => s_ret1 hp
  rw [if_neg a4] at hu
  rw [hu] at hl ⊢
  refine s_val (v_cmp (kk := .i64) (a := 5) (b := 5) (r := true) rfl rfl rfl) (s_cond (b := true) rfl (fun _ => ?_) fun h => by cases h)
  refine s_grp S (y := x) rfl hx (s_sft rfl (by decide) e2 ?_)
  refine s_grp S (y := x / 128) rfl (by omega) (s_sft rfl (by decide) e3 ?_)
  refine s_grp S (y := x / 16384) rfl (by omega) (s_sft rfl (by decide) e4 ?_)
  refine s_grp S (y := x / 2097152) rfl (by omega) (s_sft rfl (by decide) e5 ?_)
  refine s_last S (d := x / 268435456) rfl ?_
  exact s_pushMany (ops := [.tmp 6, .tmp 10, .tmp 14, .tmp 18, .tmp 20]) S rfl (by simp [opBelow]) rfl (by simp) (by simp) ho hl fun u v' w' hp => s_ret1 hp

theorem one_plus {y : Nat} (h : y ≤ big) : IntKind.u32.wrap (1 + IntKind.u32.wrap (y : Int)) = ((y + 1 : Nat) : Int) := by
  have : y ≤ 1073741825 := h
  rw [wraps_u32 y (by omega) (by omega), wraps_u32 _ (by omega) (by omega)]
  omega

theorem appCLen_gives {f g : Nat} (S : SpFacts P c s) (hg : ∀ x : Nat, x < 4294967296 → WrV P g [.int .u32 x] (pUv x)) (hT : treeIn P f noOrc [.tmp 0, .tmp 1] 2 = tAppCLen c g) (x : Nat) (hx : x ≤ big) : WrV P f [.int .i64 x] (pUv (x + 1)) := by
  intro w v l ho hl
  have hx2 : x ≤ 1073741825 := hx
  refine gives_in (ρ := en [v, .int .i64 x]) S.rd.mix hT (Nat.le_refl _) rfl (by simp [opBelow]) ?_
  refine s_val (v_conv (k1 := .i64) (a := x) S.rd.int S.rd.u32 rfl) ?_
  refine s_val (v_arith (kk := .u32) (a := 1) (b := IntKind.u32.wrap x) rfl rfl rfl) ?_
  rw [one_plus hx]
  exact s_callx (hg (x + 1) (by omega) w v l ho hl) rfl fun u w' hp => s_ret1 hp

theorem appStr_gives {f g : Nat} (S : SpFacts P c s) (hg : ∀ x : Int, WrV P g [.int .i16 x] (pFixed x 2)) (hT : treeIn P f noOrc [.tmp 0, .tmp 1] 2 = tAppStr c c.tStr c.tI16 g) (y : List UInt8) : WrV P f [.string (strOf y)] (pFixed y.length 2 ++ y) := by
  intro w v l ho hl
  have hll : l.length + (2 + y.length) ≤ maxW := by simpa [pFixed_length] using hl
  refine gives_in (ρ := en [v, .string (strOf y)]) S.rd.mix hT (Nat.le_refl _) rfl (by simp [opBelow]) ?_
  refine s_val (v_lenString S.rd.str rfl) ?_
  refine s_val (v_conv (k1 := .i64) (a := (y.length : Int)) S.rd.int S.rd.i16 rfl) ?_
  have h1 := hg (IntKind.i16.wrap y.length) w v l ho (by rw [pFixed_wrap16, List.length_append, pFixed_length]; omega)
  rw [pFixed_wrap16] at h1
  refine s_callx h1 rfl fun u w1 hp => ?_
  exact s_appW (e := y) S rfl rfl hp.1 (Src.ofString _ S.rd.str (strOf y)) (by rw [List.append_assoc]; exact hl) fun v' w' hp2 => ⟨fun p hp => (by cases hp), s_ret1 (hp.trans hp2)⟩

theorem appCStr_gives {f g : Nat} (S : SpFacts P c s) (hg : ∀ x : Nat, x < 4294967296 → WrV P g [.int .u32 x] (pUv x)) (hT : treeIn P f noOrc [.tmp 0, .tmp 1] 2 = tAppCStr c c.tStr g) (y : List UInt8) (hy : y.length ≤ big) : WrV P f [.string (strOf y)] (pUv (y.length + 1) ++ y) := by
  intro w v l ho hl
  have hx2 : y.length ≤ 1073741825 := hy
  refine gives_in (ρ := en [v, .string (strOf y)]) S.rd.mix hT (Nat.le_refl _) rfl (by simp [opBelow]) ?_
  refine s_val (v_lenString S.rd.str rfl) ?_
  refine s_val (v_conv (k1 := .i64) (a := (y.length : Int)) S.rd.int S.rd.u32 rfl) ?_
  refine s_val (v_arith (kk := .u32) (a := 1) (b := IntKind.u32.wrap (y.length : Int)) rfl rfl rfl) ?_
  rw [one_plus hy]
  refine s_callx (hg (y.length + 1) (by omega) w v l ho (by simp only [List.length_append] at hl ⊢; omega)) rfl fun u w1 hp => ?_
  exact s_appW (e := y) S rfl rfl hp.1 (Src.ofString _ S.rd.str (strOf y)) (by rw [List.append_assoc]; exact hl) fun v' w' hp2 => ⟨fun p hp => (by cases hp), s_ret1 (hp.trans hp2)⟩

end

end Go.Kf


namespace Go.Kf

open Go

def encT (m : TM) : List UInt8 := (m.map fun q => pTag1 q.1 q.2).flatten

theorem encT_snoc (m : TM) (q : Nat × List UInt8) : encT (m ++ [q]) = encT m ++ (pUv q.1 ++ (pUv q.2.length ++ q.2)) := by
  simp [encT, pTag1]

def tTagsLen (c : Nums) : Tr := .op (.nilCheck (.tmp 0)) none [] <| .op (.fieldAddr c.tTags (.tmp 1) 0) none [] <| .op (.load c.tMap (.tmp 2)) none [] <| .op (.call { callee := .builtin .len, args := ⟨[.tmp 3]⟩, argTypes := ⟨[c.tMap]⟩ }) none [] <| .ret [(.tmp 4, none)]

def tAppEach (c : Nums) (g fEach : Nat) : Tr := .op (.box c.tBytes (.tmp 1)) none [] <| .op (.makeFunc (.func g) ⟨[]⟩ ⟨[.tmp 2]⟩) none [] <| .op (callOp fEach [.tmp 0, .tmp 3]) none [] <| .op (.load c.tBytes (.tmp 2)) none [] <| .ret [(.tmp 5, none)]

def tAppCl (c : Nums) (f : Nat) : Tr :=
  .op (.load c.tBytes (.tmp 2)) none [] <| .op (callOp f [.tmp 3, .tmp 0]) none [] <| .op (.store c.tBytes (.tmp 2) (.tmp 4)) none [] <| .op (.load c.tBytes (.tmp 2)) none [] <|
  .op (.call { callee := .builtin .len, args := ⟨[.tmp 1]⟩, argTypes := ⟨[c.tBytes]⟩ }) none [] <| .op (.convert c.tInt c.tU32 (.tmp 7)) none [] <| .op (callOp f [.tmp 6, .tmp 8]) none [] <| .op (.store c.tBytes (.tmp 2) (.tmp 9)) none [] <|
  .op (.load c.tBytes (.tmp 2)) none [] <| .op (appB c (.tmp 11) (.tmp 1) c.tBytes) none [] <| .op (.store c.tBytes (.tmp 2) (.tmp 12)) none [] <| .ret []

def TagsLen (P : Program) (f : Nat) : Prop := ∀ (w : World) (V o : Nat) (cs : List Value) (mv : Value) (m : TM), Has w V cs → cs[o]? = some mv → TagsR w m mv → Gives P f [ptr V o] w fun u w' => u = .int .i64 (m.length : Int) ∧ w' = w

def WrTags (P : Program) (f : Nat) : Prop := ∀ (w0 w : World) (V o : Nat) (cs : List Value) (mv v : Value) (m : TM) (l : List UInt8), Has w0 V cs → cs[o]? = some mv → TagsR w0 m mv → m.length ≤ big → (∀ p ∈ m, p.2.length ≤ big) → MadeO w0 w v l → (l ++ encT (sortTM m)).length ≤ maxW →
  Gives P f [ptr V o, v] w (WrPost w v l (encT (sortTM m)))

section

variable {P : Program} {c : Nums} {s : SN} {R : Value → World → Prop} {Γ : List (List Value → World → Prop)} {n : Nat} {ρ : Nat → Value} {w : World} {k : Tr}

theorem tagsLen_gives {f : Nat} (F : RdFacts P c) (T : TagFacts P c) (hT : treeIn P f noOrc [.tmp 0] 1 = tTagsLen c) : TagsLen P f := by
  intro w V o cs mv m hV hmv htags
  refine gives_in (ρ := en [ptr V o]) F.mix hT (Nat.le_refl _) rfl (by simp [opBelow]) ?_
  have hmv' : cs[o + 0]? = some mv := hmv
  refine s_val (v_nilCheck rfl) (s_val (v_field (b := V) (o := o) T.f0 rfl) ?_)
  refine s_lok (l_load1 (b := V) (o := o + 0) T.oneMap rfl hV hmv') ?_
  rcases htags with ⟨rfl, rfl⟩ | ⟨mb, esA, clock, rfl, hmA, he, _⟩
  · exact s_val (v_lenNilMap T.map rfl) (s_ret1 ⟨rfl, rfl⟩)
  · obtain ⟨es, rfl⟩ : ∃ es, esA = ⟨es⟩ := ⟨esA.toList, rfl⟩
    have hm0 : MapIs w mb es clock := hmA
    have hlen := he.len
    simp only at hlen
    refine s_lok (l_lenMap T.map rfl hm0) (s_ret1 ⟨?_, rfl⟩)
    rw [← hlen]
    rfl

/-- While tags are written: dst lies in block db; v0 is what was there. -/
def AJ (db : Nat) (v0 : Value) (l : List UInt8) (h : Nat) (pre : TM) (w : World) : Prop := ∃ dv, Has w db [dv] ∧ Own w dv 1 (l ++ encT pre).length (bcells (l ++ encT pre)) ∧ (∀ b ∈ blkOf dv, b ∈ blkOf v0 ∨ h ≤ b)

/-- The variable dst, read. -/
theorem s_rd1 {b : Nat} {x : Operand} {v : Value} (F : RdFacts P c) (hx : ev ρ x = ptr b) (hh : Has w b [v]) (hk : k.sem P R Γ (n + 1) (ext ρ n [v]) w) : (Tr.op (.load c.tBytes x) none [] k).sem P R Γ n ρ w :=
  s_lok (l_load1 (b := b) (o := 0) F.oneBytes hx hh rfl) hk

/-- The variable dst, set. -/
theorem s_st1 {b : Nat} {x y : Operand} {v u : Value} (F : RdFacts P c) (hx : ev ρ x = ptr b) (hy : ev ρ y = u) (hu : u.oneCell' = true) (hh : Has w b [v]) (hk : ∀ w', Has w' b [u] → Keeps [b] w w' → k.sem P R Γ (n + 1) (ext ρ n [undef]) w') : (Tr.op (.store c.tBytes x y) none [] k).sem P R Γ n ρ w := by
  obtain ⟨w', e, h2, kk⟩ := a_store1 (P := P) (ρ := ρ) (w := w) (t := c.tBytes) (x := x) (y := y) (b := b) (o := 0) F.oneBytes hx hy hu hh (by simp)
  exact s_unit e (fun p hp => (by cases hp)) (hk w' h2 kk)

theorem appCl_gives {g f : Nat} (S : SpFacts P c s) (hU : ∀ x : Nat, x < 4294967296 → WrV P f [.int .u32 x] (pUv x)) (hT : treeIn P g noOrc [.tmp 0, .tmp 1, .tmp 2] 3 = tAppCl c f) {db h : Nat} {v0 : Value} {l : List UInt8} {pre : TM} {p : Nat × List UInt8} {w1 : World} {v : Value} {hs : Nat}
    (hj : AJ db v0 l h pre w1) (hh : h ≤ w1.heap.size) (hdb : db ∉ blkOf v0 ∧ db < h) (ho : Ro w1 v 1 p.2.length (bcells p.2)) (hlt : p.2.length ≠ 0 → ∀ b ∈ blkOf v, b < hs) (hs1 : hs ≤ h ∧ hs ≤ db ∧ ∀ b ∈ blkOf v0, hs ≤ b) (hp : p.1 < 4294967296 ∧ p.2.length ≤ big) (hl : (l ++ encT (pre ++ [p])).length ≤ maxW) :
    Gives P g [.int .u32 p.1, v, ptr db] w1 fun _ w2 => AJ db v0 l h (pre ++ [p]) w2 ∧ ∃ M, Keeps M w1 w2 ∧ ∀ b ∈ M, b ∈ db :: blkOf v0 ∨ h ≤ b := by
  obtain ⟨dv, hd, hown, hblk⟩ := hj
  have hbg : p.2.length ≤ 1073741825 := hp.2
  rw [encT_snoc, ← List.append_assoc] at hl
  simp only [List.length_append] at hl
  have nd : ∀ {x : Value} {w' : World}, (∀ b ∈ blkOf x, b ∈ blkOf v0 ∨ h ≤ b) → db ∉ blkOf x := fun {x} {w'} hx hb => by
    rcases hx db hb with h' | h'
    · exact hdb.1 h'
    · omega
  refine gives_in (ρ := en [.int .u32 p.1, v, ptr db]) S.rd.mix hT (Nat.le_refl _) rfl (by simp [opBelow]) ?_
  refine s_rd1 S.rd rfl hd ?_
  refine s_callx (hU p.1 hp.1 w1 dv _ hown (by simp only [List.length_append]; omega)) rfl fun u w2 hp2 => ?_
  have hd2 := hd.keep hp2.2.1 (nd (w' := w1) hblk)
  have hb2 : ∀ b ∈ blkOf u, b ∈ blkOf v0 ∨ h ≤ b := fun b hb => (hp2.2.2 b hb).elim (hblk b) fun h' => .inr (by omega)
  refine s_st1 S.rd rfl rfl hp2.1.one hd2 fun w3 hd3 k3 => ?_
  have hown3 := hp2.1.keep k3 (fun b hb => by simp only [List.mem_singleton]; intro e; subst e; exact nd (w' := w1) hb2 hb)
  refine s_rd1 S.rd rfl hd3 ?_
  obtain ⟨a, cp, hva⟩ := ho.form
  refine s_val (v_len (a := a) (l := p.2.length) (c := cp) S.rd.bytes hva) ?_
  refine s_val (v_conv (k1 := .i64) (a := (p.2.length : Int)) S.rd.int S.rd.u32 rfl) ?_
  rw [wraps_u32 _ (by omega) (by omega)]
  refine s_callx (hU p.2.length (by omega) w3 u _ hown3 (by simp only [List.length_append]; omega)) rfl fun u4 w4 hp4 => ?_
  have hd4 := hd3.keep hp4.2.1 (nd (w' := w1) hb2)
  have s12 := hp2.2.1.size
  have s23 := k3.size
  have s34 := hp4.2.1.size
  have hb4 : ∀ b ∈ blkOf u4, b ∈ blkOf v0 ∨ h ≤ b := fun b hb => (hp4.2.2 b hb).elim (hb2 b) fun h' => .inr (by omega)
  refine s_st1 S.rd rfl rfl hp4.1.one hd4 fun w5 hd5 k5 => ?_
  have hown5 := hp4.1.keep k5 (fun b hb => by simp only [List.mem_singleton]; intro e; subst e; exact nd (w' := w1) hb4 hb)
  refine s_rd1 S.rd rfl hd5 ?_
  -- what has been kept of the value's octets
  have kM : Keeps (blkOf dv ++ ([db] ++ (blkOf u ++ [db]))) w1 w5 := (hp2.2.1.mono (List.subset_append_left _ _)).trans ((k3.mono (fun x hx => by simp only [List.mem_append]; exact .inr (.inl hx))).trans ((hp4.2.1.mono (fun x hx => by simp only [List.mem_append]; exact .inr (.inr (.inl hx)))).trans (k5.mono (fun x hx => by simp only [List.mem_append]; exact .inr (.inr (.inr hx))))))
  have hfar : p.2.length ≠ 0 → ∀ b ∈ blkOf v, b ∉ blkOf dv ++ ([db] ++ (blkOf u ++ [db])) := fun hne b hb hm => by
    have hb1 := hlt hne b hb
    have far : ∀ x, (x ∈ blkOf v0 ∨ h ≤ x) → b ≠ x := fun x hx e => by
      subst e
      rcases hx with h' | h'
      · have := hs1.2.2 b h'; omega
      · omega
    simp only [List.mem_append, List.mem_singleton] at hm
    rcases hm with hm | hm | hm | hm
    · exact far b (hblk b hm) rfl
    · omega
    · exact far b (hb2 b hm) rfl
    · omega
  have ho5 : Ro w5 v 1 p.2.length (bcells p.2) := ho.keepM kM hfar
  refine s_appW (e := p.2) S rfl rfl hown5 (ho5.src S.rd.bytes (bcells_one _)) (by simp only [List.length_append]; omega) fun u6 w6 hp6 => ⟨fun q hq => (by cases hq), ?_⟩
  have hd6 := hd5.keep hp6.2.1 (nd (w' := w1) hb4)
  have s45 := k5.size
  have hb6 : ∀ b ∈ blkOf u6, b ∈ blkOf v0 ∨ h ≤ b := fun b hb => (hp6.2.2 b hb).elim (hb4 b) fun h' => .inr (by omega)
  refine s_st1 S.rd rfl rfl hp6.1.one hd6 fun w7 hd7 k7 => ?_
  have hown7 := hp6.1.keep k7 (fun b hb => by simp only [List.mem_singleton]; intro e; subst e; exact nd (w' := w1) hb6 hb)
  refine s_ret0 ⟨⟨u6, hd7, ?_, hb6⟩, (blkOf dv ++ ([db] ++ (blkOf u ++ [db]))) ++ (blkOf u4 ++ [db]), ?_, fun b hb => ?_⟩
  · have e : l ++ encT (pre ++ [p]) = l ++ encT pre ++ pUv p.1 ++ pUv p.2.length ++ p.2 := by rw [encT_snoc]; simp only [List.append_assoc]
    rw [e]
    exact hown7
  · exact (kM.mono (List.subset_append_left _ _)).trans ((hp6.2.1.mono (fun x hx => by simp only [List.mem_append]; exact .inr (.inl hx))).trans (k7.mono (fun x hx => by simp only [List.mem_append]; exact .inr (.inr hx))))
  · simp only [List.mem_append, List.mem_singleton] at hb
    simp only [List.mem_cons]
    rcases hb with (hb | hb | hb | hb) | hb | hb
    · exact (hblk b hb).imp .inr id
    · exact .inl (.inl hb)
    · exact (hb2 b hb).imp .inr id
    · exact .inl (.inl hb)
    · exact (hb4 b hb).imp .inr id
    · exact .inl (.inl hb)

theorem encT_len {m : TM} (j : Nat) : (encT (m.take j)).length ≤ (encT m).length := by
  have : encT m = encT (m.take j) ++ encT (m.drop j) := by
    unfold encT
    rw [← List.flatten_append, ← List.map_append, List.take_append_drop]
  rw [this, List.length_append]
  omega

theorem appEach_gives {f g fUv fEach : Nat} (S : SpFacts P c s) (hU : ∀ x : Nat, x < 4294967296 → WrV P fUv [.int .u32 x] (pUv x)) (hE : EachGives P fEach) (hg : treeIn P g noOrc [.tmp 0, .tmp 1, .tmp 2] 3 = tAppCl c fUv) (hT : treeIn P f noOrc [.tmp 0, .tmp 1] 2 = tAppEach c g fEach) : WrTags P f := by
  intro w0 w V o cs mv v m l hV hmv htags hml hmp hmade hl
  have hkeys : ∀ p ∈ m, p.1 < 4294967296 := by
    rcases htags with ⟨_, rfl⟩ | ⟨_, _, _, _, _, _, _, _, h32, _⟩
    · intro p hp; cases hp
    · exact h32
  refine gives_in (ρ := en [ptr V o, v]) S.rd.mix hT (Nat.le_refl _) rfl (by simp [opBelow]) ?_
  obtain ⟨w1, e1, h1, k1, z1⟩ := a_box (P := P) (ρ := en [ptr V o, v]) (w := w) (t := c.tBytes) (x := .tmp 1) (v := v) rfl
  refine s_act e1 (fun p hp => (by cases hp)) ?_
  rw [cells_one hmade.one] at h1
  refine s_val (v_makeFunc1 (v := ptr w.heap.size) rfl) ?_
  have hsz0 := hmade.2.2.size
  have hvlt := hmade.1.lt
  have hown1 := hmade.1.keep k1 (by simp)
  have hbm : big = 1073741825 := rfl
  have hE1 := hE w0 w1 V o g cs mv (ptr w.heap.size) m (fun h pre w' => AJ w.heap.size v l h pre w' ∧ w1.heap.size ≤ h) (w.heap.size :: blkOf v) hV hmv htags (by omega) (hmade.2.2.trans k1) (fun b hb => by
      simp only [List.mem_cons] at hb
      rcases hb with rfl | hb
      · omega
      · have := hmade.2.1 b hb; have := hvlt b hb; omega)
    (fun w' kk => ⟨⟨v, h1.keep kk (by simp), by simp only [encT, List.map_nil, List.flatten_nil, List.append_nil]; exact hown1.keep kk (by simp), fun b hb => .inl hb⟩, kk.size⟩)
    (fun h pre p x w2 ⟨hj, hwh⟩ hsz _ hpre ho ho0 hp => by
      refine (appCl_gives S hU hg (hs := w0.heap.size) hj hsz ⟨fun hb => by have := hvlt _ hb; omega, by omega⟩ ho ho0.blk ⟨by omega, by omega, hmade.2.1⟩ ⟨hkeys p hp, hmp p hp⟩ ?_).mono fun _ w3 ⟨h1, h2⟩ => ⟨⟨h1, hwh⟩, h2⟩
      obtain ⟨_, j, he⟩ := hpre
      rw [he]
      have := encT_len (m := sortTM m) j
      simp only [List.length_append] at hl ⊢
      omega)
  refine s_callx hE1 rfl fun u w2 ⟨⟨h, hwh, ⟨dv, hd, hown, hblk⟩, _⟩, k2⟩ => ?_
  refine s_rd1 S.rd rfl hd ?_
  refine s_ret1 ⟨hown, ?_, fun b hb => (hblk b hb).imp id fun h' => by omega⟩
  refine ((k1.mono (by simp)).trans k2).less fun b hb => ?_
  simp only [List.mem_cons] at hb
  rcases hb with rfl | hb
  · exact .inr (Nat.le_refl _)
  · exact .inl hb

end

end Go.Kf


namespace Go.Kf

open Go

def OctA (A : Nat → Prop) (w : World) (nl : Bool) (l : List UInt8) (v : Value) : Prop := Reads w v 1 l.length (bcells l) ∧ nilOf v = nl ∧ ∀ b ∈ blkOf v, A b

def NStrA (A : Nat → Prop) (w : World) : Option (List UInt8) → Value → Prop
  | none, v => v = .pointer none
  | some l, v => ∃ b, A b ∧ v = ptr b ∧ Has w b [.string (strOf l)]

def EntA (A : Nat → Prop) (w : World) (e : MapEntry) (p : Nat × List UInt8) : Prop := e.key = .int .u32 p.1 ∧ Ro w e.val 1 p.2.length (bcells p.2) ∧ (p.2.length ≠ 0 → ∀ b ∈ blkOf e.val, A b)

def EntsA (A : Nat → Prop) (w : World) : List MapEntry → TM → Prop
  | [], [] => True
  | e :: es, p :: m => EntA A w e p ∧ EntsA A w es m
  | _, _ => False

def TagsA (A : Nat → Prop) (w : World) (m : TM) (v : Value) : Prop :=
  (v = .map none ∧ m = []) ∨ ∃ b es clock, A b ∧ v = .map (some b) ∧ w.heap[b]? = some (.map es clock) ∧ EntsA A w es.toList m ∧ es.toList.Pairwise (fun a b => a.born < b.born) ∧ (∀ e ∈ es.toList, e.born < clock) ∧
    (∀ p ∈ m, p.1 < 2 ^ 32) ∧ (m.map (·.1)).Nodup ∧ m ≠ []

mutual
def FAtA (A : Nat → Prop) (w : World) : FV → List Value → Prop
  | .one v, cs => cs = [v] ∧ v.oneCell' = true
  | .uuid l, cs => cs = bcells l ∧ l.length = 16
  | .text l, cs => cs = [.string (strOf l)]
  | .ntext o, cs => ∃ v, cs = [v] ∧ NStrA A w o v
  | .octs nl l, cs => ∃ v, cs = [v] ∧ OctA A w nl l v
  | .tags m, cs => ∃ v, cs = [v] ∧ TagsA A w m v
  | .list nl rows, cs => (nl = true ∧ cs = [.slice none 0 0] ∧ rows = []) ∨ (nl = false ∧ ∃ b cap rcs, A b ∧ cs = [.slice (some ⟨b, 0, none⟩) rows.length cap] ∧ rows.length ≤ cap ∧ Has w b rcs ∧ RowsA A w rows rcs)
  | .ptr none, cs => cs = [.pointer none]
  | .ptr (some fs), cs => ∃ b ccs, A b ∧ cs = [Kf.ptr b] ∧ Has w b ccs ∧ FsA A w fs ccs
  | .sub fs, cs => FsA A w fs cs
def FsA (A : Nat → Prop) (w : World) : List FV → List Value → Prop
  | [], cs => cs = []
  | f :: fs, cs => ∃ c1 c2, cs = c1 ++ c2 ∧ FAtA A w f c1 ∧ FsA A w fs c2
def RowsA (A : Nat → Prop) (w : World) : List (List FV) → List Value → Prop
  | [], _ => True
  | r :: rs, cs => ∃ c1 c2, cs = c1 ++ c2 ∧ FsA A w r c1 ∧ RowsA A w rs c2
end

section

variable {A A' : Nat → Prop} {w w' : World} {M : List Nat}

theorem OctA.keep {nl : Bool} {l : List UInt8} {v : Value} (h : OctA A w nl l v) (hk : Keeps M w w') (hm : ∀ b ∈ M, ¬ A b) (hA : ∀ b, A b → b < w.heap.size → A' b) : OctA A' w' nl l v :=
  ⟨h.1.keep hk fun b hb hbM => hm b hbM (h.2.2 b hb), h.2.1, fun b hb => hA b (h.2.2 b hb) (h.1.lt b hb)⟩

theorem NStrA.keep {o : Option (List UInt8)} {v : Value} (h : NStrA A w o v) (hk : Keeps M w w') (hm : ∀ b ∈ M, ¬ A b) (hA : ∀ b, A b → b < w.heap.size → A' b) : NStrA A' w' o v := by
  cases o with
  | none => exact h
  | some l => obtain ⟨b, h1, e, hh⟩ := h; exact ⟨b, hA b h1 hh.lt, e, hh.keep hk fun hb => hm b hb h1⟩

theorem EntsA.imp (h : ∀ e p, EntA A w e p → EntA A' w' e p) : ∀ {es : List MapEntry} {m : TM}, EntsA A w es m → EntsA A' w' es m
  | [], [], _ => trivial
  | _ :: _, _ :: _, hh => ⟨h _ _ hh.1, EntsA.imp h hh.2⟩
  | [], _ :: _, hh => hh.elim
  | _ :: _, [], hh => hh.elim

theorem EntA.keep {e : MapEntry} {p : Nat × List UInt8} (h : EntA A w e p) (hk : Keeps M w w') (hm : ∀ b ∈ M, ¬ A b) (hA : ∀ b, A b → b < w.heap.size → A' b) : EntA A' w' e p := by
  obtain ⟨h1, h2, h3⟩ := h
  exact ⟨h1, h2.keepM hk fun hn b hb hbM => hm b hbM (h3 hn b hb), fun hn b hb => hA b (h3 hn b hb) (h2.blk hn b hb)⟩

theorem TagsA.keep {m : TM} {v : Value} (h : TagsA A w m v) (hk : Keeps M w w') (hm : ∀ b ∈ M, ¬ A b) (hA : ∀ b, A b → b < w.heap.size → A' b) : TagsA A' w' m v := by
  rcases h with h | ⟨b, es, clock, hb, hv, hh, he, hr⟩
  · exact .inl h
  · have hlt : b < w.heap.size := (Array.getElem?_eq_some_iff.1 hh).1
    refine .inr ⟨b, es, clock, hA b hb hlt, hv, ?_, he.imp fun e p h => h.keep hk hm hA, hr⟩
    rw [hk.block b hlt fun hbM => hm b hbM hb]
    exact hh

mutual
theorem FAtA.keep (hk : Keeps M w w') (hm : ∀ b ∈ M, ¬ A b) (hA : ∀ b, A b → b < w.heap.size → A' b) : ∀ (f : FV) (cs : List Value), FAtA A w f cs → FAtA A' w' f cs
  | .one _, _, h => h
  | .uuid _, _, h => h
  | .text _, _, h => h
  | .ntext _, _, ⟨v, e, h⟩ => ⟨v, e, h.keep hk hm hA⟩
  | .octs _ _, _, ⟨v, e, h⟩ => ⟨v, e, h.keep hk hm hA⟩
  | .tags _, _, ⟨v, e, h⟩ => ⟨v, e, h.keep hk hm hA⟩
  | .list _ _, _, .inl h => .inl h
  | .list _ rows, _, .inr ⟨e, b, cap, rcs, hb, hc, hl, hh, hr⟩ => .inr ⟨e, b, cap, rcs, hA b hb hh.lt, hc, hl, hh.keep hk (fun hbM => hm b hbM hb), RowsA.keep hk hm hA rows rcs hr⟩
  | .ptr none, _, h => h
  | .ptr (some fs), _, ⟨b, ccs, hb, hc, hh, hf⟩ => ⟨b, ccs, hA b hb hh.lt, hc, hh.keep hk (fun hbM => hm b hbM hb), FsA.keep hk hm hA fs ccs hf⟩
  | .sub fs, cs, h => FsA.keep hk hm hA fs cs h
theorem FsA.keep (hk : Keeps M w w') (hm : ∀ b ∈ M, ¬ A b) (hA : ∀ b, A b → b < w.heap.size → A' b) : ∀ (fs : List FV) (cs : List Value), FsA A w fs cs → FsA A' w' fs cs
  | [], _, h => h
  | f :: fs, _, ⟨c1, c2, e, h1, h2⟩ => ⟨c1, c2, e, FAtA.keep hk hm hA f c1 h1, FsA.keep hk hm hA fs c2 h2⟩
theorem RowsA.keep (hk : Keeps M w w') (hm : ∀ b ∈ M, ¬ A b) (hA : ∀ b, A b → b < w.heap.size → A' b) : ∀ (rs : List (List FV)) (cs : List Value), RowsA A w rs cs → RowsA A' w' rs cs
  | [], _, h => h
  | r :: rs, _, ⟨c1, c2, e, h1, h2⟩ => ⟨c1, c2, e, FsA.keep hk hm hA r c1 h1, RowsA.keep hk hm hA rs c2 h2⟩
end

mutual
theorem FAtA.len : ∀ (f : FV) (cs : List Value), FAtA A w f cs → cs.length = f.wd
  | .one _, _, ⟨e, _⟩ => by subst e; rfl
  | .uuid _, _, ⟨e, h⟩ => by subst e; simp [FV.wd, bcells_length, h]
  | .text _, _, e => by simp only [FAtA] at e; subst e; rfl
  | .ntext _, _, ⟨v, e, _⟩ => by subst e; rfl
  | .octs _ _, _, ⟨v, e, _⟩ => by subst e; rfl
  | .tags _, _, ⟨v, e, _⟩ => by subst e; rfl
  | .list _ _, _, .inl ⟨_, e, _⟩ => by subst e; rfl
  | .list _ _, _, .inr ⟨_, _, _, _, _, e, _⟩ => by subst e; rfl
  | .ptr none, _, e => by simp only [FAtA] at e; subst e; rfl
  | .ptr (some _), _, ⟨_, _, _, e, _⟩ => by subst e; rfl
  | .sub fs, cs, h => FsA.len fs cs h
theorem FsA.len : ∀ (fs : List FV) (cs : List Value), FsA A w fs cs → cs.length = wds fs
  | [], _, h => by simp only [FsA] at h; subst h; rfl
  | f :: fs, _, ⟨c1, c2, e, h1, h2⟩ => by subst e; simp [wds, FAtA.len f c1 h1, FsA.len fs c2 h2]
end

/-- The field i, its cells, and what is about it. -/
theorem FsA.split : ∀ {fs : List FV} {cs : List Value} {i : Nat} {f : FV}, FsA A w fs cs → fs[i]? = some f → ∃ a m z, cs = a ++ m ++ z ∧ a.length = wds (fs.take i) ∧ FAtA A w f m ∧
    ∀ (f' : FV) (m' : List Value), FAtA A w f' m' → FsA A w (fs.set i f') (a ++ m' ++ z)
  | [], _, _, _, _, hi => by simp at hi
  | g :: fs, _, 0, f, ⟨c1, c2, e, h1, h2⟩, hi => by
    simp only [List.getElem?_cons_zero, Option.some.injEq] at hi
    subst hi
    exact ⟨[], c1, c2, by simpa using e, rfl, h1, fun f' m' h' => ⟨m', c2, by simp, h', h2⟩⟩
  | g :: fs, _, i + 1, f, ⟨c1, c2, e, h1, h2⟩, hi => by
    simp only [List.getElem?_cons_succ] at hi
    obtain ⟨a, m, z, e2, hl, hf, hset⟩ := FsA.split h2 hi
    refine ⟨c1 ++ a, m, z, by rw [e, e2]; simp, ?_, hf, fun f' m' h' => ⟨c1, a ++ m' ++ z, by simp, h1, hset f' m' h'⟩⟩
    simp [wds, List.take_succ_cons, FAtA.len g c1 h1, hl]

theorem RowsA.at {sz : Nat} : ∀ {rows : List (List FV)} {cs : List Value} {j : Nat}, RowsA A w rows cs → (∀ r ∈ rows, wds r = sz) → (hj : j < rows.length) → ∃ a m z, cs = a ++ m ++ z ∧ a.length = j * sz ∧ FsA A w rows[j] m
  | [], _, _, _, _, hj => by simp at hj
  | r :: rows, _, 0, ⟨c1, c2, e, h1, _⟩, _, _ => ⟨[], c1, c2, by simpa using e, by simp, h1⟩
  | r :: rows, _, j + 1, ⟨c1, c2, e, h1, h2⟩, hs, hj => by
    obtain ⟨a, m, z, e2, ha, hm⟩ := RowsA.at (j := j) h2 (fun x hx => hs x (List.mem_cons_of_mem _ hx)) (by simpa using hj)
    refine ⟨c1 ++ a, m, z, by rw [e, e2]; simp, ?_, by simpa using hm⟩
    rw [List.length_append, ha, FsA.len r c1 h1, hs r List.mem_cons_self, Nat.add_mul]
    omega

theorem NStrA.at {o : Option (List UInt8)} {v : Value} (h : NStrA A w o v) : NStrAt w 0 o v := by
  cases o with
  | none => exact h
  | some l => obtain ⟨b, _, e, hh⟩ := h; exact ⟨b, Nat.zero_le _, e, hh⟩

theorem EntsA.r : ∀ {es : List MapEntry} {m : TM}, EntsA A w es m → EntsR w es m
  | [], [], _ => trivial
  | _ :: _, _ :: _, hh => ⟨⟨hh.1.1, hh.1.2.1⟩, EntsA.r hh.2⟩
  | [], _ :: _, hh => hh.elim
  | _ :: _, [], hh => hh.elim

theorem TagsA.r {m : TM} {v : Value} (h : TagsA A w m v) : TagsR w m v := by
  rcases h with h | ⟨b, es, clock, hb, hv, hh, he, hr⟩
  · exact .inl h
  · exact .inr ⟨b, es, clock, hv, hh, he.r, hr⟩

end

/-- Any blocks at all. -/
def anyB : Nat → Prop := fun _ => True

section

variable {D lo : Nat} {w : World}

theorem EntsAt.toA : ∀ {es : List MapEntry} {m : TM}, EntsAt D w lo es m → EntsA anyB w es m
  | [], [], _ => trivial
  | _ :: _, _ :: _, hh => ⟨⟨hh.1.1, by obtain ⟨nl, h⟩ := hh.1.2; exact ⟨Ro.of_reads h.1, fun _ _ _ => trivial⟩⟩, EntsAt.toA hh.2⟩
  | [], _ :: _, hh => hh.elim
  | _ :: _, [], hh => hh.elim

theorem TagsAt.toA {m : TM} {v : Value} (h : TagsAt D w lo m v) : TagsA anyB w m v := by
  rcases h with h | ⟨b, es, clock, hb, hv, hh, he, hr⟩
  · exact .inl h
  · exact .inr ⟨b, es, clock, trivial, hv, hh, he.toA, hr⟩

mutual
theorem FAt.any {D lo : Nat} : ∀ (f : FV) (cs : List Value), FAt D w lo f cs → FAtA anyB w f cs
  | .one _, _, h => h
  | .uuid _, _, h => h
  | .text _, _, h => h
  | .ntext none, _, h => h
  | .ntext (some _), _, ⟨v, e, b, _, h⟩ => ⟨v, e, b, trivial, h⟩
  | .octs _ _, _, ⟨v, e, h⟩ => ⟨v, e, h.1, h.2.1, fun _ _ => trivial⟩
  | .tags _, _, ⟨v, e, h⟩ => ⟨v, e, h.toA⟩
  | .list _ _, _, .inl h => .inl h
  | .list _ rows, _, .inr ⟨e, b, cap, rcs, _, hc, hl, hh, hr⟩ => .inr ⟨e, b, cap, rcs, trivial, hc, hl, hh, RowsAt.any rows rcs hr⟩
  | .ptr none, _, h => h
  | .ptr (some fs), _, ⟨b, ccs, _, hc, hh, hf⟩ => ⟨b, ccs, trivial, hc, hh, FsAt.any fs ccs hf⟩
  | .sub fs, cs, h => FsAt.any fs cs h
theorem FsAt.any {D lo : Nat} : ∀ (fs : List FV) (cs : List Value), FsAt D w lo fs cs → FsA anyB w fs cs
  | [], _, h => h
  | f :: fs, _, ⟨c1, c2, e, h1, h2⟩ => ⟨c1, c2, e, FAt.any f c1 h1, FsAt.any fs c2 h2⟩
theorem RowsAt.any {D lo : Nat} : ∀ (rs : List (List FV)) (cs : List Value), RowsAt D w lo rs cs → RowsA anyB w rs cs
  | [], _, h => h
  | r :: rs, _, ⟨c1, c2, e, h1, h2⟩ => ⟨c1, c2, e, FsAt.any r c1 h1, RowsAt.any rs c2 h2⟩
end

end

end Go.Kf

namespace Go.Kf

open Go

/-- Octets that are made, by one function more. -/
theorem MadeO.post {w0 w w' : World} {v u : Value} {l e : List UInt8} (h : MadeO w0 w v l) (hp : WrPost w v l e u w') : MadeO w0 w' u (l ++ e) :=
  ⟨hp.1, fun b hb => (hp.2.2 b hb).elim (h.2.1 b) fun h' => Nat.le_trans h.2.2.size h', ((h.2.2.mono (by simp)).trans hp.2.1).less fun b hb => .inr (h.2.1 b hb)⟩

/-- A value, as it is handed on. -/
def valIs (pk : PK) (u : Value) (m : List Value) : Prop := match pk with
  | .uuid => u = .agg ⟨m⟩
  | _ => m = [u]

/-- A function of the writer, of a kind. -/
def WrAny (P : Program) (f : Nat) (pk : PK) : Prop := ∀ (w0 w : World) (v u : Value) (l : List UInt8) (fv : FV) (m : List Value), okF fv pk.ty → FAtA anyB w0 fv m → valIs pk u m → MadeO w0 w v l → (l ++ encPK pk fv).length ≤ maxW →
  Gives P f [v, u] w fun x w' => MadeO w0 w' x (l ++ encPK pk fv)

/-- A function of the writer that writes a list's length. -/
def WrLen (P : Program) (f : Nat) (lk : LenK) : Prop := match lk with
  | .len => ∀ n : Nat, n ≤ big → WrV P f [.int .i64 n] (pFixed n 4)
  | .clen => ∀ n : Nat, n ≤ big → WrV P f [.int .i64 n] (pUv (n + 1))
  | _ => False

section

variable {P : Program} {c : Nums} {s : SN} {R : Value → World → Prop} {Γ : List (List Value → World → Prop)} {n : Nat} {ρ : Nat → Value} {w : World} {k : Tr}

theorem wrAny_num {f N : Nat} {kk : IntKind} (h : ∀ x, WrV P f [.int kk x] (pFixed x N)) : WrAny P f (.num N kk) := by
  intro w0 w v u l fv m hok hf hu hm hl
  obtain ⟨x, rfl, _⟩ := okF_num hok
  obtain ⟨e, _⟩ := hf
  simp only [valIs] at hu
  rw [hu] at e
  obtain rfl : u = .int kk x := by simpa using e
  exact (h x w v l hm.1 hl).mono fun _ _ hp => hm.post hp

theorem wrAny_str {f : Nat} (h : ∀ y : List UInt8, WrV P f [.string (strOf y)] (pFixed y.length 2 ++ y)) : WrAny P f .str := by
  intro w0 w v u l fv m hok hf hu hm hl
  obtain ⟨x, rfl, _⟩ := okF_text hok
  simp only [FAtA] at hf
  simp only [valIs] at hu
  rw [hu] at hf
  obtain rfl : u = .string (strOf x) := by simpa using hf
  exact (h x w v l hm.1 hl).mono fun _ _ hp => hm.post hp

theorem wrAny_cstr {f : Nat} (h : ∀ y : List UInt8, y.length ≤ big → WrV P f [.string (strOf y)] (pUv (y.length + 1) ++ y)) : WrAny P f .cstr := by
  intro w0 w v u l fv m hok hf hu hm hl
  obtain ⟨x, rfl, hx⟩ := okF_text hok
  simp only [FAtA] at hf
  simp only [valIs] at hu
  rw [hu] at hf
  obtain rfl : u = .string (strOf x) := by simpa using hf
  exact (h x hx w v l hm.1 hl).mono fun _ _ hp => hm.post hp

theorem NStrAt.kept {w w' : World} {o : Option (List UInt8)} {v : Value} (h : NStrAt w 0 o v) (hk : Keeps [] w w') : NStrAt w' 0 o v := by
  cases o with
  | none => exact h
  | some l => obtain ⟨b, hb, e, hh⟩ := h; exact ⟨b, hb, e, hh.keep hk (by simp)⟩

def PK.isUuid : PK → Bool
  | .uuid => true
  | _ => false

mutual
def gWStep (c : Nums) : WStep → Operand → Nat → Nat → Nat → Operand → (Nat → Nat → Operand → Tr) → Tr
  | .call pk f i ty _, s, S, n, d, x, k => gGet s S i ty n <| match pk.isUuid with
    | false => .op (callOp f [x, .tmp (n + 2)]) none [] (k (n + 4) d (.tmp (n + 3)))
    | true => .op (.alloc ty) none [] <| .op (.store ty (.tmp (n + 3)) (.tmp (n + 2))) none [] <| .op (.load ty (.tmp (n + 3))) none [] <| .op (callOp f [x, .tmp (n + 5)]) none [] (k (n + 7) d (.tmp (n + 6)))
  | .deref _ f i ty _, s, S, n, d, x, k => gGet s S i ty n <| .op (.binOp .neq ty (.tmp (n + 2)) (.const (.pointer none)) ty) none [] <|
    .join d (.cond (.tmp (n + 3)) (.op (.nilCheck (.tmp (n + 2))) none [] <| .op (.load c.tStr (.tmp (n + 4))) none [] <| .to d [.tmp (n + 5)]) (.to d [.const (.string (strOf []))])) 1 <| .op (callOp f [x, .tmp (n + 4)]) none [] (k (n + 6) d (.tmp (n + 5)))
  | .listP lk fl i tySl _ _ f T, s, S, n, d, x, k => match lk.nul with
    | true => .stuck
    | false => gGet s S i tySl n <| .op (.call { callee := .builtin .len, args := ⟨[.tmp (n + 2)]⟩, argTypes := ⟨[tySl]⟩ }) none [] <| .op (callOp fl [x, .tmp (n + 3)]) none [] <| .op (.call { callee := .builtin .len, args := ⟨[.tmp (n + 2)]⟩, argTypes := ⟨[tySl]⟩ }) none [] <|
      .loop d [.tmp (n + 4), .const (.int .i64 0)] <| .op (.binOp .lss c.tInt (.tmp (n + 7)) (.tmp (n + 5)) c.tInt) none [] <|
      .cond (.tmp (n + 8)) (.op (.indexAddr tySl (.tmp (n + 2)) (.tmp (n + 7))) none [] <| .op (.load T (.tmp (n + 9))) none [] <| .op (callOp f [.tmp (n + 6), .tmp (n + 10)]) none [] <|
        .op (.binOp .add c.tInt (.tmp (n + 7)) (.const (.int .i64 1)) c.tInt) none [] <| .to d [.tmp (n + 11), .tmp (n + 12)]) (k (n + 9) (d + 1) (.tmp (n + 6)))
  | .listS lk fl i tySl _ T _ _ ss, s, S, n, d, x, k => match lk.nul with
    | true => .stuck
    | false => gGet s S i tySl n <| .op (.call { callee := .builtin .len, args := ⟨[.tmp (n + 2)]⟩, argTypes := ⟨[tySl]⟩ }) none [] <| .op (callOp fl [x, .tmp (n + 3)]) none [] <| .op (.call { callee := .builtin .len, args := ⟨[.tmp (n + 2)]⟩, argTypes := ⟨[tySl]⟩ }) none [] <|
      .loop d [.tmp (n + 4), .const (.int .i64 0)] <| .op (.binOp .lss c.tInt (.tmp (n + 7)) (.tmp (n + 5)) c.tInt) none [] <|
      .cond (.tmp (n + 8)) (.op (.indexAddr tySl (.tmp (n + 2)) (.tmp (n + 7))) none [] <| gWSteps c ss (.tmp (n + 9)) T (n + 10) (d + 1) (.tmp (n + 6)) fun n' _ x' =>
        .op (.binOp .add c.tInt (.tmp (n + 7)) (.const (.int .i64 1)) c.tInt) none [] <| .to d [x', .tmp n']) (k (n + 9) (d + 1) (.tmp (n + 6)))
  | .sub i _ T _ ss, s, S, n, d, x, k => .op (.nilCheck s) none [] <| .op (.fieldAddr S (.tmp n) i) none [] <| gWSteps c ss (.tmp (n + 1)) T (n + 2) d x k
  | .tags fUv fLen fEach i _, s, S, n, d, x, k => .op (.nilCheck s) none [] <| .op (.fieldAddr S (.tmp n) i) none [] <| .op (callOp fLen [.tmp (n + 1)]) none [] <| .op (.convert c.tInt c.tU32 (.tmp (n + 2))) none [] <|
    .op (.binOp .add c.tU32 (.const (.int .u32 0)) (.tmp (n + 3)) c.tU32) none [] <| .op (callOp fUv [x, .tmp (n + 4)]) none [] <| .op (.nilCheck s) none [] <| .op (.fieldAddr S (.tmp (n + 6)) i) none [] <| .op (callOp fEach [.tmp (n + 7), .tmp (n + 5)]) none [] (k (n + 9) d (.tmp (n + 8)))
def gWSteps (c : Nums) : List WStep → Operand → Nat → Nat → Nat → Operand → (Nat → Nat → Operand → Tr) → Tr
  | [], _, _, n, d, x, k => k n d x
  | st :: ss, s, S, n, d, x, k => gWStep c st s S n d x fun n' d' x' => gWSteps c ss s S n' d' x' k
end

/-- AppendTo, at a version. -/
def gAppendTo (c : Nums) (S : Nat) (v : Int) (ss : List WStep) : Tr :=
  .op (.nilCheck (.tmp 0)) none [] <| .op (.fieldAddr S (.tmp 2) 0) none [] <| .op (.load c.tI16 (.tmp 3)) (some (.int .i16 v)) [] <| gWSteps c ss (.tmp 0) S 5 0 (.tmp 1) fun _ _ x => .ret [(x, none)]

/-- A struct's values lie there. -/
def WIn (w0 : World) (V : Nat) (pre post : List Value) (fs : List FV) : Prop := ∃ mid, Has w0 V (pre ++ mid ++ post) ∧ FsA anyB w0 fs mid

def SemW (P : Program) (ts : List Ty) (g : Operand → Nat → Nat → Operand → (Nat → Nat → Operand → Tr) → Tr) (enc : List FV → List UInt8) : Prop :=
  ∀ (R : Value → World → Prop) (w0 : World) (V : Nat) (pre post : List Value) (fs : List FV) (Γ : List (List Value → World → Prop)) (n : Nat) (ρ : Nat → Value) (w : World) (s x : Operand) (v : Value) (l : List UInt8) (k : Nat → Nat → Operand → Tr),
    okFs fs ts → WIn w0 V pre post fs → ev ρ s = ptr V pre.length → opBelow n s → ev ρ x = v → opBelow n x → MadeO w0 w v l → (l ++ enc fs).length ≤ maxW →
    (∀ (n' : Nat) (Δ : List (List Value → World → Prop)) (ρ' : Nat → Value) (w' : World) (x' : Operand) (v' : Value), n ≤ n' → (∀ y, opBelow n y → ev ρ' y = ev ρ y) → ev ρ' x' = v' → opBelow n' x' → MadeO w0 w' v' (l ++ enc fs) → (k n' (Γ ++ Δ).length x').sem P R (Γ ++ Δ) n' ρ' w') →
    (g s n Γ.length x k).sem P R Γ n ρ w

/-- The cells of a field. -/
theorem WIn.field {V : Nat} {w0 : World} {pre post : List Value} {fs : List FV} {ts : List Ty} {S i off : Nat} {t : Ty} (h : WIn w0 V pre post fs) (hok : okFs fs ts) (hF : FieldTy P S ts i off t) :
    ∃ (f : FV) (a m z : List Value), fs[i]? = some f ∧ okF f t ∧ FAtA anyB w0 f m ∧ Has w0 V ((pre ++ a) ++ m ++ (z ++ post)) ∧ (pre ++ a).length = pre.length + off ∧ m.length = t.wd := by
  obtain ⟨mid, hh, hfs⟩ := h
  obtain ⟨f, hf, hft⟩ := okFs_get hok hF.2.2
  obtain ⟨a, m, z, e, ha, hm, _⟩ := hfs.split hf
  have hao : a.length = off := by rw [ha, wds_eq, List.map_take, okFs_map _ _ hok]; exact hF.2.1
  refine ⟨f, a, m, z, hf, hft, hm, by rw [e] at hh; simpa using hh, by simp [hao], ?_⟩
  rw [FAtA.len f m hm, okF_wd f t hft]

/-- How a field of a kind is loaded. -/
def LoadOk (P : Program) (ty : Nat) (pk : PK) : Prop := match pk with
  | .uuid => aggTy P ty = some 16
  | _ => oneTy P ty = true

theorem load_val {ty V o : Nat} {pk : PK} {m a z : List Value} {x : Operand} (hL : LoadOk P ty pk) (hx : ev ρ x = ptr V o) (hh : Has w V (a ++ m ++ z)) (ha : a.length = o) (hm : m.length = pk.ty.wd) : ∃ u, runOp P ρ (.load ty x) w = .ok (.value u) w ∧ valIs pk u m := by
  have one : oneTy P ty = true → m.length = 1 → ∃ u, runOp P ρ (.load ty x) w = .ok (.value u) w ∧ m = [u] := fun h1 h2 => by
    match m, h2 with
    | [u], _ =>
      refine ⟨u, l_load1 h1 hx hh ?_, rfl⟩
      rw [List.append_assoc, List.getElem?_append_right (by omega), ha, Nat.sub_self]
      rfl
  cases pk with
  | uuid =>
    refine ⟨.agg ⟨m⟩, ?_, rfl⟩
    have h16 : m.length = 16 := hm
    have := l_loadN (P := P) (ρ := ρ) (w := w) (t := ty) (x := x) (b := V) (o := o) (s := 16) hL hx hh (by simp only [List.length_append]; omega)
    rw [List.append_assoc, ← ha, List.drop_left' rfl, ← h16, List.take_left' rfl] at this
    exact this
  | num => exact one hL hm
  | bool => exact one hL hm
  | str => exact one hL hm
  | cstr => exact one hL hm
  | nstr => exact one hL hm
  | cnstr => exact one hL hm
  | bytes => exact one hL hm
  | cbytes => exact one hL hm
  | nbytes => exact one hL hm
  | cnbytes => exact one hL hm
  | tags => exact one hL hm

theorem semW_call {S f i ty off : Nat} {pk : PK} {ts : List Ty} (hW : WrAny P f pk) (hF : FieldTy P S ts i off pk.ty) (hL : LoadOk P ty pk) (hnu : pk.isUuid = false := by rfl) : SemW P ts (fun s n d x k => gWStep c (.call pk f i ty off) s S n d x k) (encStep (.call pk f i ty off)) := by
  intro R w0 V pre post fs Γ n ρ w s x v l k hok hin hs hbs hx hbx hm hl hk
  obtain ⟨fv, a, m, z, hf, hft, hfa, hh, hpl, hml⟩ := hin.field hok hF
  simp only [encStep, fvGet_eq hf] at hl hk
  simp only [gWStep, gGet, hnu]
  refine s_val (v_nilCheck hs) (s_val (v_field (b := V) (o := pre.length) hF.1 ext_at) ?_)
  obtain ⟨u, hu1, hu2⟩ := load_val (ρ := ext (ext ρ n [.pointer (some ⟨V, pre.length, none⟩)]) (n + 1) [.pointer (some ⟨V, pre.length + off, none⟩)]) (w := w) (x := .tmp (n + 1)) (V := V) (o := pre.length + off) hL ext_at (hh.keep hm.2.2 (by simp)) hpl hml
  refine s_lok hu1 ?_
  refine s_callx (hW w0 w v u l fv m hft hfa hu2 hm hl) ?_ fun x' w' hm' => ?_
  · simp only [List.map_cons, List.map_nil]
    rw [ev_ext' hbx (by omega), ev_ext' hbx (by omega), ev_ext' hbx (by omega), hx]
    congr 1
    congr 1
    exact ext_at
  · have := hk (n + 4) [] (ext (ext (ext (ext ρ n [.pointer (some ⟨V, pre.length, none⟩)]) (n + 1) [.pointer (some ⟨V, pre.length + off, none⟩)]) (n + 2) [u]) (n + 3) [x']) w' (.tmp (n + 3)) x' (by omega) (fun y hy => by
      rw [ev_ext' hy (by omega), ev_ext' hy (by omega), ev_ext' hy (by omega), ev_ext hy]) ext_at (by simp [opBelow]) hm'
    simpa using this

theorem semW_nil {ts : List Ty} {S : Nat} : SemW P ts (fun s n d x k => gWSteps c [] s S n d x k) (encSteps []) := by
  intro R w0 V pre post fs Γ n ρ w s x v l k hok hin hs hbs hx hbx hm hl hk
  have := hk n [] ρ w x v (Nat.le_refl _) (fun _ _ => rfl) hx hbx (by simpa [encSteps] using hm)
  simpa [gWSteps] using this

theorem semW_cons {ts : List Ty} {S : Nat} {st : WStep} {ss : List WStep} (h1 : SemW P ts (fun s n d x k => gWStep c st s S n d x k) (encStep st)) (h2 : SemW P ts (fun s n d x k => gWSteps c ss s S n d x k) (encSteps ss)) : SemW P ts (fun s n d x k => gWSteps c (st :: ss) s S n d x k) (encSteps (st :: ss)) := by
  intro R w0 V pre post fs Γ n ρ w s x v l k hok hin hs hbs hx hbx hm hl hk
  simp only [encSteps, ← List.append_assoc] at hl hk
  simp only [gWSteps]
  refine h1 R w0 V pre post fs Γ n ρ w s x v l _ hok hin hs hbs hx hbx hm (by simp only [List.length_append] at hl ⊢; omega) fun n' Δ ρ' w' x' v' hn hρ hx' hbx' hm' => ?_
  refine h2 R w0 V pre post fs (Γ ++ Δ) n' ρ' w' s x' v' _ k hok hin ((hρ s hbs).trans hs) (hbs.mono hn) hx' hbx' hm' hl fun n2 Δ2 ρ2 w2 x2 v2 hn2 hρ2 hx2 hbx2 hm2 => ?_
  have := hk n2 (Δ ++ Δ2) ρ2 w2 x2 v2 (by omega) (fun y hy => (hρ2 y (hy.mono hn)).trans (hρ y hy)) hx2 hbx2 hm2
  rwa [← List.append_assoc] at this

theorem semW_tags {S i off fUv fLen fEach : Nat} {ts : List Ty} (S0 : SpFacts P c s) (hU : ∀ x : Nat, x < 4294967296 → WrV P fUv [.int .u32 x] (pUv x)) (hLn : TagsLen P fLen) (hE : WrTags P fEach) (hF : FieldTy P S ts i off .tags) : SemW P ts (fun s n d x k => gWStep c (.tags fUv fLen fEach i off) s S n d x k) (encStep (.tags fUv fLen fEach i off)) := by
  intro R w0 V pre post fs Γ n ρ w s x v l k hok hin hs hbs hx hbx hm hl hk
  obtain ⟨fv, a, m, z, hf, hft, hfa, hh, hpl, hml⟩ := hin.field hok hF
  obtain ⟨tm, rfl, htl, htp⟩ := okF_tags hft
  obtain ⟨mv, rfl, htags⟩ := hfa
  simp only [encStep, fvGet_eq hf, encPK] at hl hk
  have hbg : big = 1073741825 := rfl
  have hcell : ((pre ++ a) ++ [mv] ++ (z ++ post))[pre.length + off]? = some mv := by
    rw [List.append_assoc, List.getElem?_append_right (by omega), hpl, Nat.sub_self]; rfl
  have hhw := hh.keep hm.2.2 (by simp)
  have htw : TagsR w tm mv := htags.r.keep hm.2.2
  simp only [gWStep]
  refine s_val (v_nilCheck hs) (s_val (v_field (b := V) (o := pre.length) hF.1 ext_at) ?_)
  refine s_callx (hLn w V (pre.length + off) _ mv tm hhw hcell htw) (by
    simp only [List.map_cons, List.map_nil]
    congr 1
    exact ext_at) fun u w1 ⟨hu, hw⟩ => ?_
  subst hw
  subst hu
  refine s_val (v_conv (k1 := .i64) (a := (tm.length : Int)) S0.rd.int S0.rd.u32 ext_at) ?_
  rw [wraps_u32 _ (by omega) (by omega)]
  refine s_val (v_arith (kk := .u32) (a := 0) (b := (tm.length : Int)) (r := (tm.length : Int)) rfl ext_at (by simp only [arithOf, Option.some.injEq, Int.zero_add]; exact wraps_u32 _ (by omega) (by omega))) ?_
  have hst : (sortTM tm).length = tm.length := sortTM_len tm
  have hl2 : l.length + ((pUv tm.length).length + (encT (sortTM tm)).length) ≤ maxW := by
    have := hl
    simp only [List.length_append] at this ⊢
    unfold encT
    omega
  refine s_callx (hU tm.length (by omega) w1 v l hm.1 (by rw [List.length_append]; omega)) (by
    simp only [List.map_cons, List.map_nil]
    rw [ev_ext' hbx (by omega), ev_ext' hbx (by omega), ev_ext' hbx (by omega), ev_ext' hbx (by omega), ev_ext' hbx (by omega), hx]
    congr 1
    congr 1
    exact ext_at) fun u2 w2 hp2 => ?_
  have hm2 := hm.post hp2
  refine s_val (v_nilCheck (a := ⟨V, pre.length, none⟩) (by
    rw [ev_ext' hbs (by omega), ev_ext' hbs (by omega), ev_ext' hbs (by omega), ev_ext' hbs (by omega), ev_ext' hbs (by omega), ev_ext' hbs (by omega)]; exact hs)) ?_
  refine s_val (v_field (b := V) (o := pre.length) hF.1 ext_at) ?_
  refine s_callx (hE w0 w2 V (pre.length + off) _ mv u2 tm (l ++ pUv tm.length) hh hcell htags.r htl htp hm2 (by rw [List.append_assoc]; simp only [List.length_append]; omega)) (by
    simp only [List.map_cons, List.map_nil]
    congr 1
    · exact ext_at
    · congr 1
      show ext _ _ _ (n + 5) = _
      rw [ext_lt (by omega), ext_lt (by omega)]
      exact ext_at) fun u3 w3 hp3 => ?_
  have hm3 := hm2.post hp3
  rw [List.append_assoc] at hm3
  have fin : ∀ ρ9 : Nat → Value, ev ρ9 (.tmp (n + 8)) = u3 → (∀ y, opBelow n y → ev ρ9 y = ev ρ y) → (k (n + 9) Γ.length (.tmp (n + 8))).sem P R Γ (n + 9) ρ9 w3 := fun ρ9 h1 h2 => by
    have := hk (n + 9) [] ρ9 w3 (.tmp (n + 8)) u3 (by omega) h2 h1 (by simp [opBelow]) hm3
    simpa using this
  refine fin _ ext_at fun y hy => ?_
  rw [ev_ext' hy (by omega), ev_ext' hy (by omega), ev_ext' hy (by omega), ev_ext' hy (by omega), ev_ext' hy (by omega), ev_ext' hy (by omega), ev_ext' hy (by omega), ev_ext' hy (by omega), ev_ext hy]

theorem wrLen_enc {fl : Nat} {lk : LenK} (h : WrLen P fl lk) (nl : Bool) {m : Nat} (hm : m ≤ big) : WrV P fl [.int .i64 m] (encLen lk nl m) := by
  cases lk with
  | len => exact h m hm
  | clen => exact h m hm
  | nlen => exact h.elim
  | nclen => exact h.elim

theorem encRows_take {f : List FV → List UInt8} {rows : List (List FV)} {j : Nat} (hj : j < rows.length) : ((rows.take (j + 1)).map f).flatten = ((rows.take j).map f).flatten ++ f rows[j] := by
  rw [List.take_succ_eq_append_getElem hj, List.map_append, List.flatten_append]
  simp

theorem encRows_le {f : List FV → List UInt8} {rows : List (List FV)} (j : Nat) : ((rows.take j).map f).flatten.length ≤ (rows.map f).flatten.length := by
  conv => rhs; rw [← List.take_append_drop j rows, List.map_append, List.flatten_append, List.length_append]
  omega

/-- A list's head and its loop; the body is left. -/
theorem semW_rows {S i off fl tySl T sz : Nat} {lk : LenK} {us ts : List Ty} {enc1 : List FV → List UInt8} {body : Nat → Nat → Tr} {k : Nat → Nat → Operand → Tr} (hF : FieldTy P S ts i off (.list us)) (hone : oneTy P tySl = true) (hsl : P.underlying tySl = some (.slice T)) (hsz : (P.info? T).map (·.size) = some sz) (hwd : tyWds us = sz)
    (hLn : WrLen P fl lk) {w0 : World} {V : Nat} {pre post : List Value} {fs : List FV} {v : Value} {l : List UInt8} {sv x : Operand} {nl : Bool} {rows : List (List FV)} (hf : fs[i]? = some (.list nl rows)) (hrl : rows.length ≤ big) (hrows : okRows rows us) (hok : okFs fs ts) (hin : WIn w0 V pre post fs) (hs : ev ρ sv = ptr V pre.length) (hx : ev ρ x = v) (hbx : opBelow n x) (hm : MadeO w0 w v l)
    (hl : (l ++ (encLen lk nl rows.length ++ (rows.map enc1).flatten)).length ≤ maxW)
    (hk : ∀ (n' : Nat) (Δ : List (List Value → World → Prop)) (ρ' : Nat → Value) (w' : World) (x' : Operand) (v' : Value), n ≤ n' → (∀ y, opBelow n y → ev ρ' y = ev ρ y) → ev ρ' x' = v' → opBelow n' x' → MadeO w0 w' v' (l ++ (encLen lk nl rows.length ++ (rows.map enc1).flatten)) → (k n' (Γ ++ Δ).length x').sem P R (Γ ++ Δ) n' ρ' w')
    (hbody : ∀ (j : Nat) (hj : j < rows.length) (b : Nat) (a z : List Value) (ρ' : Nat → Value) (w' : World) (v' : Value) (l' : List UInt8) (J : List Value → World → Prop), WIn w0 b a z rows[j] → a.length = j * sz → okFs rows[j] us → ρ' (n + 9) = ptr b (j * sz) → ρ' (n + 6) = v' → ρ' (n + 7) = .int .i64 j → MadeO w0 w' v' l' → (l' ++ enc1 rows[j]).length ≤ maxW →
      (∀ (v2 : Value) (w2 : World), MadeO w0 w2 v2 (l' ++ enc1 rows[j]) → J [v2, .int .i64 ((j + 1 : Nat) : Int)] w2) → (body (n + 10) (Γ.length + 1)).sem P R (Γ ++ [J]) (n + 10) ρ' w') :
    (gGet sv S i tySl n <| .op (.call { callee := .builtin .len, args := ⟨[.tmp (n + 2)]⟩, argTypes := ⟨[tySl]⟩ }) none [] <| .op (callOp fl [x, .tmp (n + 3)]) none [] <| .op (.call { callee := .builtin .len, args := ⟨[.tmp (n + 2)]⟩, argTypes := ⟨[tySl]⟩ }) none [] <|
      .loop Γ.length [.tmp (n + 4), .const (.int .i64 0)] <| .op (.binOp .lss c.tInt (.tmp (n + 7)) (.tmp (n + 5)) c.tInt) none [] <|
      .cond (.tmp (n + 8)) (.op (.indexAddr tySl (.tmp (n + 2)) (.tmp (n + 7))) none [] <| body (n + 10) (Γ.length + 1)) (k (n + 9) (Γ.length + 1) (.tmp (n + 6)))).sem P R Γ n ρ w := by
  obtain ⟨fv, a, m, z, hf', hft, hfa, hh, hpl, hml⟩ := hin.field hok hF
  rw [hf] at hf'
  obtain rfl := Option.some.inj hf'
  have hbg : big = 1073741825 := rfl
  obtain ⟨sl, rfl⟩ : ∃ sl, m = [sl] := by
    match m, hml with
    | [u], _ => exact ⟨u, rfl⟩
  have hform : ∃ ad cp, sl = .slice ad rows.length cp := by
    rcases hfa with ⟨_, e, hr⟩ | ⟨_, b, cap, rcs, _, e, _⟩
    · refine ⟨none, 0, ?_⟩
      rw [hr]
      simpa using e
    · exact ⟨_, cap, by simpa using e⟩
  obtain ⟨ad, cp, hsl0⟩ := hform
  have hcell : ((pre ++ a) ++ [sl] ++ (z ++ post))[pre.length + off]? = some sl := by
    rw [List.append_assoc, List.getElem?_append_right (by omega), hpl, Nat.sub_self]; rfl
  simp only [gGet]
  refine s_val (v_nilCheck hs) (s_val (v_field (b := V) (o := pre.length) hF.1 ext_at) ?_)
  refine s_lok (l_load1 (b := V) (o := pre.length + off) hone ext_at (hh.keep hm.2.2 (by simp)) hcell) ?_
  refine s_val (v_len (a := ad) (l := rows.length) (c := cp) hsl (by rw [← hsl0]; exact ext_at)) ?_
  have hl1 : (l ++ encLen lk nl rows.length).length ≤ maxW := by simp only [List.length_append] at hl ⊢; omega
  refine s_callx (wrLen_enc hLn nl hrl w v l hm.1 hl1) (by
    simp only [List.map_cons, List.map_nil]
    rw [ev_ext' hbx (by omega), ev_ext' hbx (by omega), ev_ext' hbx (by omega), ev_ext' hbx (by omega), hx]
    congr 1
    congr 1
    exact ext_at) fun u1 w1 hp1 => ?_
  have hm1 := hm.post hp1
  refine s_val (v_len (a := ad) (l := rows.length) (c := cp) hsl (by
    show ext _ _ _ (n + 2) = _
    rw [ext_lt (by omega), ext_lt (by omega), ← hsl0]
    exact ext_at)) ?_
  generalize hρ1 : ext (ext (ext (ext (ext (ext ρ n [.pointer (some ⟨V, pre.length, none⟩)]) (n + 1) [.pointer (some ⟨V, pre.length + off, none⟩)]) (n + 2) [sl]) (n + 3) [.int .i64 (rows.length : Int)]) (n + 4) [u1]) (n + 5) [.int .i64 (rows.length : Int)] = ρ1
  have hag : ∀ y, opBelow n y → ev ρ1 y = ev ρ y := fun y hy => by
    rw [← hρ1, ev_ext' hy (by omega), ev_ext' hy (by omega), ev_ext' hy (by omega), ev_ext' hy (by omega), ev_ext' hy (by omega), ev_ext hy]
  have r2 : ρ1 (n + 2) = sl := by rw [← hρ1, ext_lt (by omega), ext_lt (by omega), ext_lt (by omega)]; exact ext_at
  have r4 : ρ1 (n + 4) = u1 := by rw [← hρ1, ext_lt (by omega)]; exact ext_at
  have r5 : ρ1 (n + 5) = .int .i64 (rows.length : Int) := by rw [← hρ1]; exact ext_at
  clear hρ1
  refine s_countV (n := n + 6) (q := n + 5) (kk := .i64) (m := (rows.length : Int)) (ri := [.tmp (n + 4)]) (fun j vr w' => ∃ v', vr = [v'] ∧ MadeO w0 w' v' (l ++ (encLen lk nl rows.length ++ ((rows.take j).map enc1).flatten))) (by omega) r5 ⟨u1, by simp only [List.map_cons, List.map_nil]; congr 1, by simpa [List.append_assoc] using hm1⟩ ?_ ?_
  · rintro j hj w' vr ⟨v', rfl, hm'⟩ _ J hJ
    rw [Int.toNat_natCast] at hj
    obtain ⟨b, cap, rcs, hsl1, hB, hR⟩ : ∃ b cap rcs, sl = .slice (some ⟨b, 0, none⟩) rows.length cap ∧ Has w0 b rcs ∧ RowsA anyB w0 rows rcs := by
      rcases hfa with ⟨_, _, hr⟩ | ⟨_, b, cap, rcs, _, e, _, hB, hR⟩
      · rw [hr] at hj; simp at hj
      · exact ⟨b, cap, rcs, by simpa using e, hB, hR⟩
    obtain ⟨a1, m1, z1, e1, ha1, hm1'⟩ := hR.at (j := j) (fun r hr => (okRows_wds hrows r hr).trans hwd) hj
    have hs8 : (n + 6 + [Operand.tmp (n + 4)].length + 2) = n + 9 := rfl
    refine s_val (n := n + 9) (v_indexAddr (b := b) (o := 0) (l := rows.length) (c := cap) (j := j) (kk := .i64) hsl hsz (by
      show ext _ (n + 6) _ (n + 2) = _
      rw [ext_lt (by omega), r2, hsl1]) (by
      show ext ρ1 (n + 6) [v', .int .i64 (j : Int), .bool true] (n + 6 + 1) = _
      rw [ext_ge]; rfl) (by omega) (by omega)) ?_
    rw [Int.toNat_natCast, Nat.zero_add]
    refine hbody j hj b a1 z1 _ w' v' _ J ⟨m1, by rw [← e1]; exact hB, hm1'⟩ ha1 (okRows_mem hrows _ (List.getElem_mem _)) ext_at ?_ ?_ hm' ?_ fun v2 w2 hm2 => ?_
    · rw [ext_lt (by omega)]
      show ext ρ1 (n + 6) [v', .int .i64 (j : Int), .bool true] (n + 6 + 0) = _
      rw [ext_ge]; rfl
    · rw [ext_lt (by omega)]
      show ext ρ1 (n + 6) [v', .int .i64 (j : Int), .bool true] (n + 6 + 1) = _
      rw [ext_ge]; rfl
    · have h1 := encRows_le (f := enc1) (rows := rows) (j + 1)
      rw [encRows_take hj] at h1
      simp only [List.length_append] at h1 hl ⊢
      omega
    · refine hJ [v2] w2 rfl ⟨v2, rfl, ?_⟩
      rw [encRows_take hj]
      simpa [List.append_assoc] using hm2
  · rintro w' vr J ⟨v', rfl, hm'⟩ _
    rw [Int.toNat_natCast, List.take_of_length_le (Nat.le_refl _)] at hm'
    have := hk (n + 9) [J] (ext ρ1 (n + 6) [v', .int .i64 ((rows.length : Nat) : Int), .bool false]) w' (.tmp (n + 6)) v' (by omega) (fun y hy => by rw [ev_ext' hy (by omega)]; exact hag y hy) (by
      show ext ρ1 (n + 6) [v', .int .i64 ((rows.length : Nat) : Int), .bool false] (n + 6 + 0) = _
      rw [ext_ge]; rfl) (by simp [opBelow]) hm'
    rw [List.length_append] at this
    exact this

theorem semW_listS {S i off fl tySl T sz : Nat} {lk : LenK} {us ts : List Ty} {ss : List WStep} (hF : FieldTy P S ts i off (.list us)) (hone : oneTy P tySl = true) (hsl : P.underlying tySl = some (.slice T)) (hsz : (P.info? T).map (·.size) = some sz) (hwd : tyWds us = sz) (hLn : WrLen P fl lk) (hnul : lk.nul = false)
    (h : SemW P us (fun s n d x k => gWSteps c ss s T n d x k) (encSteps ss)) : SemW P ts (fun s n d x k => gWStep c (.listS lk fl i tySl off T sz us ss) s S n d x k) (encStep (.listS lk fl i tySl off T sz us ss)) := by
  intro R w0 V pre post fs Γ n ρ w sv x v l k hok hin hs hbs hx hbx hm hl hk
  obtain ⟨fv, hf, hft⟩ := okFs_get hok hF.2.2
  obtain ⟨nl, rows, rfl, hrl, hrows⟩ := okF_list hft
  simp only [encStep, fvGet_eq hf] at hl hk
  simp only [gWStep, hnul]
  refine semW_rows (enc1 := encSteps ss) (body := fun n0 d0 => gWSteps c ss (.tmp (n + 9)) T n0 d0 (.tmp (n + 6)) fun n' _ x' => .op (.binOp .add c.tInt (.tmp (n + 7)) (.const (.int .i64 1)) c.tInt) none [] <| .to Γ.length [x', .tmp n']) hF hone hsl hsz hwd hLn hf hrl hrows hok hin hs hx hbx hm hl hk fun j hj b a z ρ' w' v' l' J hW ha ho r9 r6 r7 hm' hl' hJ => ?_
  have hΓ : Γ.length + 1 = (Γ ++ [J]).length := by simp
  rw [hΓ]
  refine h R w0 b a z rows[j] (Γ ++ [J]) (n + 10) ρ' w' (.tmp (n + 9)) (.tmp (n + 6)) v' l' _ ho hW (by rw [ha]; exact r9) (show n + 9 < n + 10 by omega) r6 (show n + 6 < n + 10 by omega) hm' hl' fun n2 Δ ρ2 w2 x2 v2 hn2 hρ2 hx2 hbx2 hm2 => ?_
  have e7 : ev ρ2 (.tmp (n + 7)) = .int .i64 j := (hρ2 (.tmp (n + 7)) (show n + 7 < n + 10 by omega)).trans r7
  refine s_val (v_arith (kk := .i64) (a := j) (b := 1) (r := ((j + 1 : Nat) : Int)) e7 rfl ?_) ?_
  · have hbg : big = 1073741825 := rfl
    simp only [arithOf, Option.some.injEq]; rw [IntKind.wrap_i64]; omega
  refine ⟨J, by rw [List.append_assoc, List.getElem?_append_right (Nat.le_refl _), Nat.sub_self]; rfl, ?_⟩
  simp only [List.map_cons, List.map_nil]
  rw [ev_ext hbx2, hx2, show ev (ext ρ2 n2 [.int .i64 ((j + 1 : Nat) : Int)]) (.tmp n2) = .int .i64 ((j + 1 : Nat) : Int) from ext_at]
  exact hJ v2 w2 hm2

end

end Go.Kf




namespace Go.Kf

open Go

/-- A reading function reads these octets to these values. -/
def ReadsTo (P : Program) (c : Nums) (fRead : Nat) (ver : Int) (mid0 : List Value) (e0 : Value) (l : List UInt8) (fs : List FV) : Prop := ∀ (w : World) (V D : Nat) (src : Value), Has w V (.int .i16 ver :: mid0) → Reads w src 1 l.length (bcells l) → nilOf src = l.isEmpty → (∀ b ∈ blkOf src, b = D) → D < w.heap.size → V ≠ D → ErrAt w c.gErr e0 → c.gErr ≠ V →
  Gives P fRead [ptr V, src] w fun u w' => Keeps [V] w w' ∧ u = .nilIface ∧ ∃ mid, Has w' V mid ∧ FsAt D w' w.heap.size fs mid

theorem readsTo_of {P : Program} {c : Nums} {e : Fns} {f g S fDef : Nat} {ds : List Dset} {ls : List Nat} {ss : List Step} {v : Int} {uns : Bool} {fs0 fs1 : List FV} {mid0 mid1 : List Value} (F : RdFacts P c) (A : RfFacts P c S) (hOk : hasRet ss = true → OkGives P e.ok) (hCo : CompGives P e.complete c.gErr)
    (hT : treeIn P g (orcV 9 v) [.tmp 0, .tmp 1, .const (.bool uns)] 3 = gReadFrom c e S fDef v ss) (hW : treeIn P f noOrc [.tmp 0, .tmp 1] 2 = tWrap g uns) (hDef : DefSets P fDef ls ds) (hok : StepsOk P c S ls ss) (hdeep : deepsOk ss = true) (hsh : shapesOk fs0 ds = true) (h0 : fs0.map FV.wd = ls) (h01 : applyD ds fs0 = fs1) (hidx : idxOk fs1 ss = true)
    (himm0 : immL fs0 = some (.int .i16 v :: mid0)) (himm : immL fs1 = some mid1) (hv : fs1[0]? = some (.one (.int .i16 v))) (hl1 : fs1.map FV.wd = ls) {e0 : Value} {l : List UInt8} {fs : List FV} {r : Rd} (hl : l.length ≤ 1073741824) (hrun : runSteps ss fs1 ⟨l, false, l.isEmpty⟩ = some (fs, r)) (hbad : r.bad = false) : ReadsTo P c f v mid0 e0 l fs := by
  intro w V D src hV hr hn hb hD hVD he hgV
  refine wrap_gives F.mix hW ((readFrom_gives F A hOk hCo hT hDef hok hdeep hsh h0 h01 hidx himm hv hl1 hV (fun D lo => immL_at himm0 D w lo) hr hb hD hVD he hgV hl).mono fun u w' ⟨kk, hp⟩ => ⟨kk, ?_⟩)
  rw [hn, hrun] at hp
  simp only [RfPost, hbad, Bool.false_eq_true, if_false] at hp
  exact hp

/-- What is written of values that represent a tree. -/
theorem wr_message {v x : Int} {fs : List PF} {ss : List WStep} {ts : List Ty} {p : Nat} (hpl : PF.plains fs = true) (h : wrPlain v (pFlex x v) fs ss ts p = true) (t : PT) {gs : List FV} (hr : RepPart v (pFlex x v) fs t gs p) (hok : okFs gs ts) : encSteps ss gs = pWrite fs x v t := by
  have hg : ∀ f ∈ fs, f.tag < 0 := fun f hf => PF.plain_tag (PF.plains_mem hpl f hf)
  rw [wrPlain_ok v (pFlex x v) fs ss ts p hpl h t 0 (pUnknown fs t.u) gs (pUnknownN_asc _ List.Pairwise.nil) hr.1 hr.2 hok]
  exact (pPart_plain hg v _ t).symm

/-- New, the version, a copy of the octets, the reading; what follows. -/
def gDoor (c : Nums) (n fNew fSet fRead : Nat) (src : Operand) (bad good : Tr) : Tr :=
  .op (callOp fNew []) none [] <| .op (.convert c.tInt c.tI16 (.tmp 0)) none [] <| .op (callOp fSet [.tmp n, .tmp (n + 1)]) none [] <| .op (.call { callee := .builtin .append, args := ⟨[nilV, src]⟩, argTypes := ⟨[c.tBytes, c.tBytes]⟩ }) none [] <|
  .op (callOp fRead [.tmp n, .tmp (n + 3)]) none [] <| .op (.binOp .neq c.tErr (.tmp (n + 4)) (.const .nilIface) c.tErr) none [] <| .cond (.tmp (n + 5)) bad good

section

variable {P : Program} {c : Nums} {s : SN} {R : Value → World → Prop} {Γ : List (List Value → World → Prop)} {n : Nat} {ρ : Nat → Value} {w : World}

theorem s_door {fNew fSet fRead S : Nat} {mid : List Value} {e0 data : Value} {ver : Int} {l : List UInt8} {fs : List FV} {src : Operand} {bad good : Tr} (F : RdFacts P c) (O : OctFacts P c) (hn0 : 0 < n) (hv0 : ρ 0 = .int .i64 ver) (hsrc : ev ρ src = data) (hbs : opBelow n src) (herr : ∃ ms, P.underlying c.tErr = some (.interface ms)) (hver : IntKind.i16.wrap ver = ver) (hN : NewOk P fNew (.int .i16 0 :: mid))
    (hone : oneTy P c.tI16 = true) (hS0 : fieldOff P S 0 = some 0) (hSet : treeIn P fSet noOrc [.tmp 0, .tmp 1] 2 = tSetVersion c S) (hRT : ReadsTo P c fRead ver mid e0 l fs) (hl : l.length ≤ 1073741824) (hr : DataIn w data l) (he : ErrAt w c.gErr e0)
    (hk : ∀ (w' : World) (V D lo : Nat) (mid' : List Value) (ρ' : Nat → Value), Keeps [] w w' → w.heap.size ≤ V ∧ V ≠ D ∧ V < lo → Has w' V mid' → FsAt D w' lo fs mid' → ρ' n = ptr V → (∀ y, opBelow n y → ev ρ' y = ev ρ y) → good.sem P R Γ (n + 6) ρ' w') :
    (gDoor c n fNew fSet fRead src bad good).sem P R Γ n ρ w := by
  unfold gDoor
  refine s_callx (hN w) rfl fun v w2 ⟨hv, h2, k2⟩ => ?_
  subst hv
  refine s_val (v_conv (k1 := .i64) (a := ver) F.int F.i16 (by show ext _ _ _ 0 = _; rw [ext_lt hn0]; exact hv0)) ?_
  rw [hver]
  refine s_callx (setVersion_gives F hone hS0 hSet h2 ver) (by
    simp only [List.map_cons, List.map_nil]
    congr 1
    · show ext _ _ _ n = _
      rw [ext_lt (by omega)]
      exact ext_at
    · congr 1
      exact ext_at) fun u3 w3 ⟨h3, k3⟩ => ?_
  have s2 := k2.size
  have s3 := k3.size
  have k03 : Keeps [] w w3 := ((k2.mono (by simp)).trans k3).less fun x hx => .inr (by simp only [List.mem_singleton] at hx; omega)
  have hr3 := hr.keep k03
  have hsrc3 : ev (ext (ext (ext ρ n [ptr w.heap.size]) (n + 1) [.int .i16 ver]) (n + 2) [u3]) src = data := by
    rw [ev_ext' hbs (by omega), ev_ext' hbs (by omega), ev_ext hbs]; exact hsrc
  obtain ⟨sv, w4, e4, ho4, k4, hb4, hnil⟩ := copy_octets (ρ := ext (ext (ext ρ n [ptr w.heap.size]) (n + 1) [.int .i16 ver]) (n + 2) [u3]) (x := src) (v := data) F O hsrc3 hr3 hl
  refine s_act e4 (fun p hp => (by cases hp)) ?_
  have h4 := h3.keep k4 (by simp)
  have k04 := k03.trans k4
  have he4 := he.keep k04 (by simp)
  have s4 := k4.size
  have hgl := he.2
  have hV4 := h4.lt
  obtain ⟨D, hD1, hD2, hD3⟩ : ∃ D, (∀ b ∈ blkOf sv, b = D) ∧ D < w4.heap.size ∧ w.heap.size ≠ D := by
    rcases ho4.2 with ⟨rfl, _⟩ | ⟨b, cap, spare, rfl, hh, _⟩
    · exact ⟨c.gErr, (fun b hb => by cases hb), by omega, by omega⟩
    · exact ⟨b, (fun x hx => by simpa [blkOf] using hx), hh.lt, by have := hb4 b (by simp [blkOf]); have := h3.lt; omega⟩
  refine s_callx (hRT w4 w.heap.size D sv h4 ho4.reads hnil hD1 hD2 hD3 he4 (by omega)) (by
    simp only [List.map_cons, List.map_nil]
    congr 1
    · show ext _ _ _ n = _
      rw [ext_lt (by omega), ext_lt (by omega), ext_lt (by omega)]
      exact ext_at
    · congr 1
      exact ext_at) fun u w5 ⟨k5, hu, mid', hm, hf⟩ => ?_
  subst hu
  have k05 : Keeps [] w w5 := ((k04.mono (by simp)).trans k5).less fun x hx => .inr (by simp only [List.mem_singleton] at hx; omega)
  obtain ⟨ms, hms⟩ := herr
  refine s_val (v_neqNil (v := .nilIface) (r := false) hms ext_at (.inl ⟨rfl, rfl⟩)) ?_
  refine s_cond (b := false) ext_at (fun h => by cases h) fun _ => ?_
  refine hk w5 w.heap.size D w4.heap.size mid' _ k05 ⟨Nat.le_refl _, hD3, hV4⟩ hm hf ?_ fun y hy => ?_
  · rw [ext_lt (by omega), ext_lt (by omega), ext_lt (by omega), ext_lt (by omega), ext_lt (by omega)]
    exact ext_at
  · rw [ev_ext' hy (by omega), ev_ext' hy (by omega), ev_ext' hy (by omega), ev_ext' hy (by omega), ev_ext' hy (by omega), ev_ext hy]

/-- AppendTo, at a version: what it appends. -/
def AppTo (P : Program) (f : Nat) (ts : List Ty) (v : Int) (ss : List WStep) : Prop := ∀ (w0 w : World) (V : Nat) (mid : List Value) (fs : List FV) (dv : Value) (l : List UInt8), okFs fs ts → fs[0]? = some (.one (.int .i16 v)) → Has w0 V mid → FsA anyB w0 fs mid → MadeO w0 w dv l → (l ++ encSteps ss fs).length ≤ maxW →
  Gives P f [ptr V, dv] w fun u w' => MadeO w0 w' u (l ++ encSteps ss fs)

theorem appTo_gives {f S : Nat} {ts : List Ty} {v : Int} {ss : List WStep} (F : RdFacts P c) (hone : oneTy P c.tI16 = true) (hS0 : fieldOff P S 0 = some 0) (hT : treeIn P f (orcV 4 v) [.tmp 0, .tmp 1] 2 = gAppendTo c S v ss) (h : SemW P ts (fun s n d x k => gWSteps c ss s S n d x k) (encSteps ss)) : AppTo P f ts v ss := by
  intro w0 w V mid fs dv l hok hv hV hf hm hl
  refine gives_in (ρ := en [ptr V, dv]) F.mix hT (Nat.le_refl _) rfl (by simp [opBelow]) ?_
  unfold gAppendTo
  refine s_val (v_nilCheck (a := ⟨V, 0, none⟩) rfl) (s_val (v_field (b := V) (o := 0) hS0 rfl) ?_)
  have hcell : mid[0]? = some (.int .i16 v) := by
    obtain ⟨a1, m1, z1, em, ha1, hm1, _⟩ := hf.split hv
    have : a1 = [] := List.eq_nil_of_length_eq_zero (by rw [ha1]; rfl)
    subst this
    rw [em, hm1.1]
    rfl
  refine s_known (l_load1 (b := V) (o := 0) hone rfl (hV.keep hm.2.2 (by simp)) hcell) ?_
  refine h _ w0 V [] [] fs [] 5 _ w (.tmp 0) (.tmp 1) dv l _ hok ⟨mid, by simpa using hV, hf⟩ rfl (by simp [opBelow]) rfl (by simp [opBelow]) hm hl fun n' Δ ρ' w' x' v' _ _ hx' _ hm' => ?_
  exact s_ret1 (by rw [hx']; exact hm')

end

end Go.Kf


namespace Go.Kf

open Go

section

variable {P : Program} {c : Nums} {s : SN} {w : World}

theorem DataIn.of_own {v : Value} {l : List UInt8} (h : Own w v 1 l.length (bcells l)) : DataIn w v l := by
  rcases h.2 with ⟨rfl, h0⟩ | ⟨b, cap, spare, rfl, hh, hc, _, _⟩
  · exact .inl ⟨rfl, List.eq_nil_of_length_eq_zero h0⟩
  · refine .inr ⟨_, cap, rfl, fun i hi => ?_⟩
    rw [addr_add, Nat.zero_add]
    refine hh.cell ?_
    rw [List.getElem?_append_left (by rw [bcells_length]; exact hi)]
    simp [bcells, hi]

theorem FieldsV.keepSmall {w' : World} {b : Nat} {ds : List Value} (hb : Has w b ds) (hs : ds.length < 8) (hk : Keeps [b] w w') {fs : List PF} {v : Value} (h : FieldsV w fs v) : FieldsV w' fs v := by
  obtain ⟨cs, h1, h2⟩ := h
  exact ⟨cs, h1.keepSmall hb hs hk, FieldsC.keepSmall hb hs hk fs cs h2⟩

end

end Go.Kf


namespace Go.Kf

open Go

def tBhdDoor (c : Nums) (fNew fSet fRead fApp : Nat) : Tr := gDoor c 3 fNew fSet fRead (.tmp 2) (.ret [(.const (.slice none 0 0), none), (.const (.bool false), none)]) <|
  .op (.call { callee := .builtin .append, args := ⟨[nilV, .tmp 1]⟩, argTypes := ⟨[c.tBytes, c.tBytes]⟩ }) none [] <| .op (callOp fApp [.tmp 3, .tmp 9]) none [] <| .ret [(.tmp 10, none), (.const (.bool true), none)]

def tBhdLaw (c : Nums) (s : SN) (fMax fMsg fVer fBhd : Nat) : Tr :=
  .op (.box c.sTree (.tmp 2)) none [] <| .op (.call { callee := .builtin .len, args := ⟨[.tmp 1]⟩, argTypes := ⟨[c.tBytes]⟩ }) none [] <| .op (.binOp .gtr c.tInt (.tmp 4) (.const (.int .i64 2147483647)) c.tInt) none [] <|
  .cond (.tmp 5) (.ret [(.const (.bool true), none)]) <| .op (.load c.sTree (.tmp 3)) none [] <| .op (callOp s.fits1 [.tmp 6]) none [] <| .op (.unOp .not c.tBool (.tmp 7)) none [] <|
  .cond (.tmp 8) (.ret [(.const (.bool true), none)]) <| .op (callOp fMax []) none [] <| .op (.binOp .lss c.tInt (.tmp 9) (.const (.int .i64 0)) c.tInt) none [] <|
  .cond (.tmp 10) (.ret [(.const (.bool false), none)]) <| .op (callOp fMsg []) none [] <| .op (callOp fVer [.tmp 0, .tmp 9]) none [] <| .op (.alloc s.msg) none [] <| .op (.store s.msg (.tmp 13) (.tmp 11)) none [] <|
  .op (.call { callee := .builtin .len, args := ⟨[.tmp 1]⟩, argTypes := ⟨[c.tBytes]⟩ }) none [] <| .op (.binOp .gtr c.tInt (.tmp 15) (.const (.int .i64 1000)) c.tInt) none [] <|
  .cond (.tmp 16) (.ret [(.const (.bool true), none)]) <| .op (.load s.msg (.tmp 13)) none [] <| .op (.load c.sTree (.tmp 3)) none [] <| .op (callOp s.write [.tmp 17, .tmp 12, .tmp 18]) none [] <| .op (callOp fBhd [.tmp 12, .tmp 1, .tmp 19]) none [] <|
  .op (.extract (.tmp 20) 0) none [] <| .op (.extract (.tmp 20) 1) none [] <|
  .cond (.tmp 22) (.op (.buildSlice c.tBytes 0 ⟨[]⟩) none [] <| .op (appB c (.tmp 23) (.tmp 1) c.tBytes) none [] <| .op (appB c (.tmp 24) (.tmp 19) c.tBytes) none [] <| .op (callOp s.same [.tmp 21, .tmp 25]) none [] <| .ret [(.tmp 26, none)]) (.ret [(.const (.bool false), none)])

section

variable {P : Program} {c : Nums} {s : SN} {w : World}

/-- Two results. -/
theorem s_ret2 {R : Value → World → Prop} {Γ : List (List Value → World → Prop)} {n : Nat} {ρ : Nat → Value} {x y : Operand} (h : R (.tuple #[ev ρ x, ev ρ y]) w) : (Tr.ret [(x, none), (y, none)]).sem P R Γ n ρ w := ⟨[ev ρ x, ev ρ y], rfl, h⟩

/-- What the door yields: the octets ahead, and those of the message. -/
def BhdPost (w w' : World) (u : Value) (out : List UInt8) : Prop := ∃ v, u = .tuple #[v, .bool true] ∧ Own w' v 1 out.length (bcells out) ∧ Keeps [] w w'

theorem bhdDoor_gives {f fNew fSet fRead fApp S : Nat} {mid : List Value} {e0 data dst : Value} {ver : Int} {l d : List UInt8} {fs : List FV} {ts : List Ty} {ws : List WStep} (F : RdFacts P c) (O : OctFacts P c) (hT : treeIn P f noOrc [.tmp 0, .tmp 1, .tmp 2] 3 = tBhdDoor c fNew fSet fRead fApp) (herr : ∃ ms, P.underlying c.tErr = some (.interface ms)) (hver : IntKind.i16.wrap ver = ver) (hN : NewOk P fNew (.int .i16 0 :: mid))
    (hone : oneTy P c.tI16 = true) (hS0 : fieldOff P S 0 = some 0) (hSet : treeIn P fSet noOrc [.tmp 0, .tmp 1] 2 = tSetVersion c S) (hRT : ReadsTo P c fRead ver mid e0 l fs) (hA : AppTo P fApp ts ver ws) (hok : okFs fs ts) (hv : fs[0]? = some (.one (.int .i16 ver))) (hl : l.length ≤ 1073741824) (hd : d.length ≤ 1000) (henc : encSteps ws fs = l) (hr : DataIn w data l) (hrd : DataIn w dst d) (he : ErrAt w c.gErr e0) :
    Gives P f [.int .i64 ver, dst, data] w fun u w' => BhdPost w w' u (d ++ l) := by
  refine gives_in (ρ := en [.int .i64 ver, dst, data]) F.mix hT (Nat.le_refl _) rfl (by simp [opBelow]) ?_
  refine s_door (n := 3) (S := S) F O (by omega) rfl (src := .tmp 2) rfl (by simp [opBelow]) herr hver hN hone hS0 hSet hRT hl hr he fun w1 V D lo mid' ρ1 k1 hV1 hh hf r3 hag => ?_
  have r1 : ev ρ1 (.tmp 1) = dst := hag (.tmp 1) (by simp [opBelow])
  obtain ⟨dv, w2, e2, ho2, k2, hb2, _⟩ := copy_octets (ρ := ρ1) (x := .tmp 1) (v := dst) F O r1 (hrd.keep k1) (by omega)
  refine s_act e2 (fun p hp => (by cases hp)) ?_
  have hm : MadeO w1 w2 dv d := ⟨ho2, hb2, k2⟩
  refine s_callx (hA w1 w2 V mid' fs dv d hok hv hh (FsAt.any _ _ hf) hm (by rw [henc, List.length_append]; unfold maxW; omega)) (by
    simp only [List.map_cons, List.map_nil]
    congr 1) fun u w3 hm3 => ?_
  rw [henc] at hm3
  exact s_ret2 ⟨u, by rw [show ev (ext (ext ρ1 9 [dv]) 10 [u]) (.tmp 10) = u from ext_at]; rfl, hm3.1, k1.trans hm3.2.2⟩

theorem bhd_tail {w0 : World} {ρ : Nat → Value} {ov dst u : Value} {d l : List UInt8} (S : SpFacts P c s) (hSame : treeIn P s.same noOrc [.tmp 0, .tmp 1] 2 = tSame c) (h1 : ρ 1 = dst) (h19 : ρ 19 = u) (h21 : ρ 21 = ov) (hd : DataIn w dst d) (hu : DataIn w u l) (ho : Own w ov 1 (d ++ l).length (bcells (d ++ l))) (hl : d.length + l.length ≤ maxW) (hk : Keeps [] w0 w) :
    (Tr.op (.buildSlice c.tBytes 0 ⟨[]⟩) none [] <| Tr.op (appB c (.tmp 23) (.tmp 1) c.tBytes) none [] <| Tr.op (appB c (.tmp 24) (.tmp 19) c.tBytes) none [] <| Tr.op (callOp s.same [.tmp 21, .tmp 25]) none [] <| Tr.ret [(.tmp 26, none)]).sem P (fun v w' => v = .bool true ∧ Keeps [] w0 w') [] 23 ρ w := by
  obtain ⟨wa, ea, ha, ka, _⟩ := a_sliceEmpty (P := P) (ρ := ρ) (w := w) S.rd.bytes S.rd.szU8
  refine s_act ea (fun p hp => (by cases hp)) ?_
  have hm0 : MadeO w wa (.slice (some ⟨w.heap.size, 0, none⟩) 0 0) [] := ⟨⟨rfl, .inr ⟨w.heap.size, 0, [], rfl, by simpa [bcells] using ha, Nat.le_refl _, by decide, rfl⟩⟩, (fun b hb => by simp only [blkOf, List.mem_singleton] at hb; omega), ka⟩
  refine s_appW (l := []) (e := d) S rfl (show ext ρ 23 _ 1 = dst by rw [ext_lt (by omega)]; exact h1) hm0.1 ((hd.keep ka).src S.rd.bytes) (by rw [List.nil_append]; unfold maxW at hl ⊢; omega) fun vb wb hpb => ⟨fun p hp => (by cases hp), ?_⟩
  have hmb := hm0.post hpb
  rw [List.nil_append] at hmb
  refine s_appW (l := d) (e := l) S ext_at (show ext (ext ρ 23 _) 24 _ 19 = u by rw [ext_lt (by omega), ext_lt (by omega)]; exact h19) hmb.1 ((hu.keep hmb.2.2).src S.rd.bytes) (by rw [List.length_append]; exact hl) fun vc wc hpc => ⟨fun p hp => (by cases hp), ?_⟩
  have hmc := hmb.post hpc
  have hlen : (d ++ l).length < 2 ^ 62 := by rw [List.length_append]; unfold maxW at hl; omega
  refine s_callx (same_ro S.rd hSame (.inl hlen) (Ro.of_reads (ho.keep hmc.2.2 (by simp)).reads) (Ro.of_reads hmc.1.reads)) (by
    simp only [List.map_cons, List.map_nil]
    congr 1) fun v wd ⟨hv, kd⟩ => ?_
  refine s_ret1 ⟨?_, (hk.trans hmc.2.2).trans kd⟩
  rw [show ev (ext (ext (ext (ext ρ 23 _) 24 _) 25 _) 26 [v]) (.tmp 26) = v from ext_at, hv]
  simp

theorem bhdLaw_gives {f fMax fMsg fVer fBhd n m : Nat} {fs : List PF} {x : Int} {e0 dst : Value} {d : List UInt8} {t : PT} {ts : List Value} (S : SpFacts P c s) (T : SpTrees P c s) (Fi : FitTrees P c s) (hSame : treeIn P s.same noOrc [.tmp 0, .tmp 1] 2 = tSame c)
    (hT : treeIn P f noOrc [.tmp 0, .tmp 1, .tmp 2] 3 = tBhdLaw c s fMax fMsg fVer fBhd) (hpl : PF.plains fs = true) (hlen : fs.length < 65536) (hMsgZero : ∃ z, zeroTy P s.msg = some (z, 2) ∧ z.cells.toList.length = 2)
    (hMax : ∀ w, Gives P fMax [] w fun v w' => v = .int .i64 m ∧ Keeps [] w w') (hVer : ∀ w, Gives P fVer [.int .u8 n, .int .i64 m] w fun v w' => v = .int .i64 (n % (m + 1) : Nat) ∧ w' = w) (hMsg : MsgFn P fMsg fs x)
    (hBhd : ∀ (w : World) (data : Value), d.length ≤ 1000 → DataIn w data (pWrite fs x (n % (m + 1) : Nat) t) → DataIn w dst d → ErrAt w c.gErr e0 → Gives P fBhd [.int .i64 (n % (m + 1) : Nat), dst, data] w fun u w' => BhdPost w w' u (d ++ pWrite fs x (n % (m + 1) : Nat) t))
    (hle : (pWrite fs x (n % (m + 1) : Nat) t).length ≤ 1073741824) (hrd : DataIn w dst d) (ht : TreeC w t ts) (hok : t.ok) (he : ErrAt w c.gErr e0) : Gives P f [.int .u8 n, dst, .agg ⟨ts⟩] w fun v w' => v = .bool true ∧ Keeps [] w w' := by
  have htl := ht.len
  have tk : (ts.drop 0).take 5 = ts := by rw [List.drop_zero, List.take_of_length_le (by omega)]
  obtain ⟨a, cp, hda⟩ := hrd.form
  refine gives_in (ρ := en [.int .u8 n, dst, .agg ⟨ts⟩]) S.rd.mix hT (Nat.le_refl _) rfl (by simp [opBelow]) ?_
  refine s_box rfl fun w1 h2 k1 z1 => ?_
  refine s_val (v_len (a := a) (l := d.length) (c := cp) S.rd.bytes hda) ?_
  refine s_val (v_cmp (kk := .i64) (a := d.length) (b := 2147483647) (r := decide ((d.length : Int) > 2147483647)) rfl rfl rfl) ?_
  refine s_cond (b := decide ((d.length : Int) > 2147483647)) rfl (fun _ => s_ret1 ⟨rfl, k1⟩) fun _ => ?_
  refine s_lok (l_loadN (b := w.heap.size) (o := 0) S.ty.agg rfl h2 (by omega)) ?_
  rw [tk]
  refine s_callx (fits1_gives S Fi (TreeC.keep k1 _ _ ht)) rfl fun u w2 ⟨⟨q, hq⟩, k2⟩ => ?_
  subst hq
  refine s_val (v_not (b := q) rfl) ?_
  refine s_cond (b := !q) rfl (fun _ => s_ret1 ⟨rfl, k1.trans k2⟩) fun _ => ?_
  refine s_callx (hMax w2) rfl fun v w3 ⟨hv, k3⟩ => ?_
  subst hv
  refine s_val (v_cmp (kk := .i64) (a := m) (b := 0) (r := false) rfl rfl (by simp [cmpOf])) ?_
  refine s_cond (b := false) rfl (fun h => by cases h) fun _ => ?_
  refine s_callx (hMsg w3) rfl fun v w4 ⟨⟨fv, hv, hfv⟩, k4⟩ => ?_
  subst hv
  refine s_callx (hVer w4) rfl fun v w5 ⟨hv, hw⟩ => ?_
  subst hw
  subst hv
  have hone : fv.oneCell' = true := by
    obtain ⟨_, h1, _⟩ := hfv
    exact h1.one
  obtain ⟨zm, hzm, hzs⟩ := hMsgZero
  refine s_alloc hzm fun w6 h6 k6 z6 => ?_
  refine s_storeAll (b := w5.heap.size) (old := zm.cells.toList) (cs := [fv, .int .i64 x]) S.msg rfl rfl h6 hzs (fun u hu => ?_) fun w7 h7 k7 => ?_
  · simp only [List.mem_cons, List.not_mem_nil, or_false] at hu
    rcases hu with rfl | rfl
    · exact hone
    · rfl
  have k57 : Keeps [] w5 w7 := ((k6.mono (by simp)).trans k7).less fun y hy => .inr (by simp only [List.mem_singleton] at hy; omega)
  have hfv7 : FieldsV w7 fs fv := FieldsV.keep k57 hfv
  have k07 : Keeps [] w w7 := (((k1.trans k2).trans k3).trans k4).trans k57
  refine s_val (v_len (a := a) (l := d.length) (c := cp) S.rd.bytes hda) ?_
  refine s_val (v_cmp (kk := .i64) (a := d.length) (b := 1000) (r := decide ((d.length : Int) > 1000)) rfl rfl rfl) ?_
  refine s_cond (b := decide ((d.length : Int) > 1000)) rfl (fun _ => s_ret1 ⟨rfl, k07⟩) fun hdl => ?_
  have hd : d.length ≤ 1000 := by
    have : ¬ (d.length : Int) > 1000 := by simpa using hdl
    omega
  have h27 : Has w7 w.heap.size ts := h2.keep (((k2.trans k3).trans k4).trans k57) (by simp)
  refine s_lok (l_loadN (b := w5.heap.size) (o := 0) S.msg rfl h7 (Nat.le_refl _)) ?_
  rw [show (([fv, Value.int .i64 x].drop 0).take 2) = [fv, .int .i64 x] from rfl]
  refine s_lok (l_loadN (b := w.heap.size) (o := 0) S.ty.agg rfl h27 (by omega)) ?_
  rw [tk]
  have hmx : (1073741824 : Nat) ≤ maxW := by decide
  have hm2 : d.length + (pWrite fs x (n % (m + 1) : Nat) t).length ≤ maxW := by unfold maxW; omega
  refine s_callO (write_gives S T hpl hlen x (n % (m + 1) : Nat) hfv7 (TreeC.keep k07 _ _ ht) hok (Nat.le_trans hle hmx)) rfl fun u w8 hM => ⟨fun p hp => (by cases hp), ?_⟩
  have k08 := k07.trans hM.2.2
  have hdat := DataIn.of_own hM.1
  refine s_callx (hBhd w8 u hd hdat (hrd.keep k08) (he.keep k08 (by simp))) rfl fun v w9 ⟨ov, hov, hown, k9⟩ => ?_
  subst hov
  refine s_val (v_extract (vs := #[ov, .bool true]) rfl rfl) (s_val (v_extract (vs := #[ov, .bool true]) rfl rfl) ?_)
  refine s_cond (b := true) rfl (fun _ => ?_) (fun h => by cases h)
  exact bhd_tail S hSame rfl rfl rfl (hrd.keep (k08.trans k9)) (hdat.keep k9) hown hm2 (k08.trans k9)

end

end Go.Kf
