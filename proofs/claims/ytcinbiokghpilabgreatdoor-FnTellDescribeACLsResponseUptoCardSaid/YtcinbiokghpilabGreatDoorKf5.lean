/- The library for this proof, part 5: trees of function bodies, and what the package's functions do. -/
import Derived.Test.YtcinbiokghpilabGreatDoorKf4
import Derived.Carry
/- What was written is read, and told as it was: by a check that the kernel runs. -/
namespace Go.Kf
open Go

/-- How a field is told. -/
inductive TD where
  | prim (i : Nat)
  | lprim (i : Nat)
  | lsub (i : Nat) (ds : List TD) (tg : Option Nat)
  | part (i : Nat) (ds : List TD) (tg : Option Nat)

def TD.idx : TD → Nat
  | .prim i => i
  | .lprim i => i
  | .lsub i _ _ => i
  | .part i _ _ => i

def tagsIn (tg : Option Nat) (fs : List FV) : TM := match tg with
  | some k => tellTags (fvGet fs k)
  | none => []

mutual
def TD.run : TD → List FV → PT
  | .prim i, fs => tellPrim (fvGet fs i)
  | .lprim i, fs => tellList (fun r => tellPrim (fvGet r 0)) (fvGet fs i)
  | .lsub i ds tg, fs => tellList (fun r => .mk 0 [] false (TD.runs ds r) (tagsIn tg r)) (fvGet fs i)
  | .part i ds tg, fs => tellPart (fun r => .mk 0 [] false (TD.runs ds r) (tagsIn tg r)) (fvGet fs i)
def TD.runs : List TD → List FV → List PT
  | [], _ => []
  | d :: ds, fs => d.run fs :: TD.runs ds fs
end

def tdGp (ds : List TD) (tg : Option Nat) (fs : List FV) : PT := .mk 0 [] false (TD.runs ds fs) (tagsIn tg fs)

theorem TD.runs_length (fs : List FV) : ∀ ds : List TD, (TD.runs ds fs).length = ds.length
  | [] => rfl
  | d :: ds => by rw [TD.runs, List.length_cons, TD.runs_length fs ds, List.length_cons]

theorem TD.runs_get (fs : List FV) : ∀ (ds : List TD) (j : Nat) (h : j < ds.length) (h2 : j < (TD.runs ds fs).length), (TD.runs ds fs)[j] = ds[j].run fs
  | d :: ds, 0, _, _ => rfl
  | d :: ds, j + 1, h, h2 => TD.runs_get fs ds j (by simpa using h) _

theorem fvGet_congr {fs fs' : List FV} {i : Nat} (h : fs[i]? = fs'[i]?) : fvGet fs i = fvGet fs' i := by
  unfold fvGet
  rw [List.getD_eq_getElem?_getD, List.getD_eq_getElem?_getD, h]

theorem TD.run_congr {d : TD} {fs fs' : List FV} (h : fs[d.idx]? = fs'[d.idx]?) : d.run fs = d.run fs' := by
  cases d <;> simp only [TD.idx] at h <;> simp only [TD.run, fvGet_congr h]

/-- Something is written of each such part. -/
def pPos (sub : List PF) (v : Int) (fl : Bool) : Bool := fl || sub.any fun f => decide (f.tag < 0) && pHas f v && !(decide (f.kind = 10) && decide (f.nul < 0))

def PK.plainText : PK → Bool
  | .str => true
  | .cstr => true
  | _ => false

def rtEnd (fl : Bool) (ss : List Step) (tg : Option Nat) (p : Nat) (dflt : List FV) : Bool := match fl with
  | true => match ss, tg with
    | [.call .tags _ k _ _], some k' => Nat.beq k k' && Nat.beq p k && Nat.blt k dflt.length
    | _, _ => false
  | false => ss.isEmpty && match tg with
    | none => true
    | some k => Nat.ble p k && match dflt[k]? with
      | some (.tags []) => true
      | _ => false

mutual
/-- Is this step that which reads what is written of a field, and is it told by this? d0: what is there ahead. -/
def rtField (v : Int) (fl : Bool) : PF → Step → TD → FV → Bool
  | .mk k _ _ nul _ _ e sub, s, td, d0 => match s, td with
    | .call pk _ _ _ _, .prim _ => pkFor k (decide (0 ≤ nul) && decide (nul ≤ v)) fl pk
    | .uuid _ _ _, .prim _ => pkFor k (decide (0 ≤ nul) && decide (nul ≤ v)) fl .uuid
    | .strP pk _ _ _ _, .prim _ => pkFor k (decide (0 ≤ nul) && decide (nul ≤ v)) fl pk && pk.plainText
    | .listP lk _ _ _ _ pk _ _, .lprim _ => decide (k = 11) && lkFor (decide (0 ≤ nul) && decide (nul ≤ v)) fl lk && pkFor e false fl pk
    | .listS lk _ _ _ _ _ _ _ dflt ss, .lsub _ ds tg => decide (k = 11) && decide (e = 10) && lkFor (decide (0 ≤ nul) && decide (nul ≤ v)) fl lk && pPos sub v fl && rtPlain v fl sub ss ds dflt 0 tg
    | .sub _ _ _ _ dss _ ss, .part _ ds tg => decide (k = 10) && decide (nul < 0) && match d0 with
      | .sub gs => rtPlain v fl sub ss ds (applyD dss gs) 0 tg
      | _ => false
    | _, _ => false
def rtPlain (v : Int) (fl : Bool) : List PF → List Step → List TD → List FV → Nat → Option Nat → Bool
  | [], ss, ds, dflt, p, tg => ds.isEmpty && rtEnd fl ss tg p dflt
  | f :: r, ss, ds, dflt, p, tg => match ds with
    | [] => false
    | d :: ds' => Nat.beq d.idx p && match dflt[p]? with
      | none => false
      | some d0 => decide (f.tag < 0) && bif pHas f v then (match ss with
          | [] => false
          | s :: ss' => Nat.beq s.idx p && rtField v fl f s d d0 && rtPlain v fl r ss' ds' dflt (p + 1) tg)
        else pUsualGot f (d.run dflt) && rtPlain v fl r ss ds' dflt (p + 1) tg
end

/-- Unknown tags as they are written: rising, few. -/
structure TagsFine (u : TM) : Prop where
  len : u.length ≤ 32767
  key : ∀ p ∈ u, p.1 < 4294967296
  asc : u.Pairwise fun a b => a.1 < b.1

def pEndB (fl : Bool) (u : TM) : List UInt8 := if fl then pUv u.length ++ pTags u else []

def FieldRT (v : Int) (fl : Bool) (f : PF) (s : Step) (td : TD) (d0 : FV) : Prop :=
  ∀ (t : PT) (fs0 : List FV) (rest : List UInt8) (nl : Bool), t.ok → (nl = true → pField f v fl t ++ rest = []) → fs0[s.idx]? = some d0 →
    ∃ x, runStep s fs0 ⟨pField f v fl t ++ rest, false, nl⟩ = some (fs0.set s.idx x, ⟨rest, false, nl⟩) ∧ (∀ fs, fs[td.idx]? = some x → pTold1 f v fl t (td.run fs) = true) ∧ RepF v fl f t x

def PlainRT (v : Int) (fl : Bool) (fs : List PF) (ss : List Step) (ds : List TD) (dflt : List FV) (p : Nat) (tg : Option Nat) : Prop :=
  ∀ (t : PT) (i : Nat) (u : TM) (fs0 : List FV) (rest : List UInt8) (nl : Bool), t.ok → TagsFine u → (nl = true → (pPlain fs v fl t i ++ pEndB fl u) ++ rest = []) → (∀ q, p ≤ q → fs0[q]? = dflt[q]?) →
    ∃ fs1, runSteps ss fs0 ⟨(pPlain fs v fl t i ++ pEndB fl u) ++ rest, false, nl⟩ = some (fs1, ⟨rest, false, nl⟩) ∧ (∀ q, q < p → fs1[q]? = fs0[q]?) ∧ ds.length = fs.length ∧
      (∀ j (hj : j < fs.length) (hd : j < ds.length), pToldAt fs[j] v fl (pAt t (i + j)) (ds[j].run fs1) = true) ∧ tagsIn tg fs1 = (if fl then wholeTags u else []) ∧ RepFs v fl fs t fs1 i p ∧ (fl = true → fs1[p + fs.length]? = some (.tags (wholeTags u)))

/-! ### Unknown tags -/

theorem tmSet_new : ∀ {m : TM} {k : Nat} {l : List UInt8}, (∀ p ∈ m, p.1 ≠ k) → tmSet m k l = m ++ [(k, l)]
  | [], _, _, _ => rfl
  | p :: m, k, l, h => by
    rw [tmSet, if_neg (h p (by simp)), tmSet_new fun q hq => h q (by simp [hq])]
    rfl

theorem rTagsN_read : ∀ (u m : TM) (rest : List UInt8), (∀ p ∈ u, p.1 < 4294967296) → u.Pairwise (fun a b => a.1 < b.1) → (∀ p ∈ m, ∀ q ∈ u, p.1 ≠ q.1) →
    rTagsN u.length m ⟨pTags u ++ rest, false, false⟩ = (m ++ wholeTags u, ⟨rest, false, false⟩)
  | [], m, rest, _, _, _ => by simp [rTagsN, pTags, wholeTags]
  | q :: u, m, rest, h1, h2, h3 => by
    have hw := pWhole_length q.2
    have e : pTags (q :: u) ++ rest = pUv q.1 ++ (pUv (pWhole q.2).length ++ (pWhole q.2 ++ (pTags u ++ rest))) := by
      simp only [pTags, List.map_cons, List.flatten_cons, pTag1, List.append_assoc]
    rw [List.length_cons, rTagsN, e]
    simp only [rUv_pUv q.1 (h1 q (by simp)), rUv_pUv (pWhole q.2).length (by omega), rSpan_left (pWhole q.2) (pTags u ++ rest) false _ rfl]
    rw [tmSet_new fun p hp => h3 p hp q (by simp)]
    have h2' := List.pairwise_cons.1 h2
    rw [rTagsN_read u _ rest (fun p hp => h1 p (by simp [hp])) h2'.2 fun p hp x hx => ?_]
    · simp [wholeTags]
    · rcases List.mem_append.1 hp with hp | hp
      · exact h3 p hp x (by simp [hx])
      · simp only [List.mem_singleton] at hp
        subst hp
        exact Nat.ne_of_lt (h2'.1 x hx)

theorem rTags_read {u : TM} (h : TagsFine u) (rest : List UInt8) : rTags ⟨pUv u.length ++ pTags u ++ rest, false, false⟩ = (wholeTags u, ⟨rest, false, false⟩) := by
  have := h.len
  unfold rTags
  rw [List.append_assoc, rUv_pUv _ (by omega)]
  simp only [rTagsN_read u [] rest h.key h.asc (fun p hp => by cases hp), List.nil_append]

theorem wholeTags_keys (u : TM) : (wholeTags u).map (·.1) = u.map (·.1) := by simp [wholeTags]

theorem sortTM_id {m : TM} (h : m.Pairwise fun a b => a.1 < b.1) : sortTM m = m := by
  have hn : (m.map (·.1)).Nodup := List.Pairwise.map _ (fun a b (h : a.1 < b.1) => Nat.ne_of_lt h) h
  have hs : (m.map fun p => (p.1 : Int)).Pairwise (· ≤ ·) := List.Pairwise.map _ (fun a b (h : a.1 < b.1) => by omega) h
  unfold sortTM
  rw [← sorted_eq (List.Perm.refl _) hs, List.map_map]
  apply List.ext_getElem (by simp)
  intro i h1 h2
  rw [List.getElem_map]
  simp only [Function.comp_def, Int.toNat_natCast]
  rw [tmGet_eq hn (List.getElem?_eq_getElem h2)]

theorem pPut_asc {q : Nat × List UInt8} : ∀ {m : TM}, m.Pairwise (fun a b => a.1 < b.1) → (pPut q m).Pairwise (fun a b => a.1 < b.1) ∧ ∀ p ∈ pPut q m, p = q ∨ p ∈ m
  | [], _ => by simp [pPut]
  | x :: m, h => by
    have h' := List.pairwise_cons.1 h
    obtain ⟨i1, i2⟩ := pPut_asc (q := q) h'.2
    rw [pPut]
    by_cases h1 : x.1 < q.1
    · rw [if_pos h1]
      refine ⟨List.pairwise_cons.2 ⟨fun p hp => ?_, i1⟩, fun p hp => ?_⟩
      · rcases i2 p hp with rfl | hp
        · exact h1
        · exact h'.1 p hp
      · rcases List.mem_cons.1 hp with rfl | hp
        · simp
        · exact (i2 p hp).imp id fun h => by simp [h]
    · rw [if_neg h1]
      by_cases h2 : x.1 = q.1
      · rw [if_pos h2]
        exact ⟨h, fun p hp => .inr hp⟩
      · rw [if_neg h2]
        refine ⟨List.pairwise_cons.2 ⟨fun p hp => ?_, h⟩, fun p hp => ?_⟩
        · rcases List.mem_cons.1 hp with rfl | hp
          · omega
          · have := h'.1 p hp
            omega
        · rcases List.mem_cons.1 hp with rfl | hp
          · simp
          · exact .inr hp

theorem pUnknownN_asc (least : Nat) : ∀ {u out : TM}, out.Pairwise (fun a b => a.1 < b.1) → (pUnknownN least u out).Pairwise fun a b => a.1 < b.1
  | [], _, h => h
  | q :: u, out, h => by
    rw [pUnknownN]
    refine pUnknownN_asc least ?_
    split
    · exact h
    · exact (pPut_asc h).1

theorem unknown_fine (fs : List PF) {t : PT} (h : t.ok) : TagsFine (pUnknown fs t.u) :=
  ⟨pUnknown_length fs t.u, fun p hp => h.u p (pUnknown_mem hp), pUnknownN_asc _ List.Pairwise.nil⟩

/-! ### Fields -/

theorem pCounted_pos (fl nu : Bool) (n m : Nat) (hm : 1 ≤ m) : 1 ≤ (pCounted fl nu n m).length := by
  unfold pCounted
  split
  · split
    · simp
    · exact pUvN_pos 10 _
  · split <;> rw [pFixed_length] <;> exact hm

theorem pWidth_pos (k : Int) : 1 ≤ pWidth k := by
  unfold pWidth
  repeat' split
  all_goals omega

theorem pValue_pos {pp : PT → List UInt8} {kind : Int} {null fl : Bool} {t : PT} (h : kind ≠ 10) : 1 ≤ (pValue pp kind null fl t).length := by
  unfold pValue
  split
  · simp
  split
  · rw [pId_length]; omega
  split
  · have := pCounted_pos fl null (if null then [] else pWhole t.s).length 2 (by omega)
    simp only [List.length_append]
    omega
  split
  · have := pCounted_pos fl null (if null then [] else pWhole t.s).length 4 (by omega)
    simp only [List.length_append]
    omega
  rw [pFixed_length]
  exact pWidth_pos kind

theorem pField_pos {f : PF} {v : Int} {fl : Bool} {t : PT} (h : ¬ (f.kind = 10 ∧ f.nul < 0)) : 1 ≤ (pField f v fl t).length := by
  rw [pField_eq]
  unfold pFieldOf
  simp only
  split
  · have := pCounted_pos fl (pNull f v t) (if pNull f v t then [] else pThings t.l).length 4 (by omega)
    simp only [List.length_append]
    omega
  split
  · split
    · rw [pFixed_length]; omega
    · rw [List.length_append, pFixed_length]; omega
  · rename_i h1 h2
    exact pValue_pos fun hk => by
      by_cases hn : 0 ≤ f.nul
      · exact h2 ⟨hk, hn⟩
      · exact h ⟨hk, by omega⟩

theorem pPlain_pos {v : Int} {fl : Bool} {t : PT} : ∀ {fs : List PF} {i : Nat}, (fs.any fun f => decide (f.tag < 0) && pHas f v && !(decide (f.kind = 10) && decide (f.nul < 0))) = true → 1 ≤ (pPlain fs v fl t i).length
  | [], _, h => by cases h
  | f :: r, i, h => by
    rw [pPlain_cons, List.length_append]
    rw [List.any_cons, Bool.or_eq_true] at h
    rcases h with h | h
    · simp only [Bool.and_eq_true, Bool.not_eq_true', Bool.and_eq_false_iff, decide_eq_true_eq, decide_eq_false_iff_not] at h
      have hp := pField_pos (f := f) (v := v) (fl := fl) (t := pAt t i) (fun hh => h.2.elim (fun h => h hh.1) fun h => h hh.2)
      unfold pOne
      rw [if_pos (by simp [h.1.1, h.1.2])]
      omega
    · have := pPlain_pos (v := v) (fl := fl) (t := t) (i := i + 1) h
      omega

theorem pPart_pos {sub : List PF} {v : Int} {fl : Bool} {t : PT} (h : pPos sub v fl = true) : 1 ≤ (pPart sub v fl t).length := by
  unfold pPart
  rw [List.length_append]
  unfold pPos at h
  rw [Bool.or_eq_true] at h
  rcases h with rfl | h
  · unfold pEnd
    simp only [if_true, List.length_append]
    have := pUvN_pos 10 (((List.range (pKnown sub 0)).flatMap fun (k : Nat) => (pTagged sub v true t 0).filter fun p => p.1 == (k : Int)).length + (pUnknown sub t.u).length)
    unfold pUv
    omega
  · have := pPlain_pos (fl := fl) (t := t) (i := 0) h
    omega

theorem pNull_may {f : PF} {v : Int} {t : PT} (h : pNull f v t = true) : (decide (0 ≤ f.nul) && decide (f.nul ≤ v)) = true := by
  unfold pNull at h
  simp only [Bool.and_eq_true] at h ⊢
  exact ⟨h.1.2, h.2⟩

theorem pkFor_kind {kind : Int} {may fl : Bool} {pk : PK} (h : pkFor kind may fl pk = true) : kind ≠ 10 ∧ kind ≠ 11 := by
  cases pk <;> simp only [pkFor, Bool.and_eq_true, Bool.or_eq_true, decide_eq_true_eq] at h <;> first | omega | cases h

/-- A field of one value. -/
theorem rt_one {v : Int} {fl : Bool} {f : PF} {pk : PK} (hpk : pkFor f.kind (decide (0 ≤ f.nul) && decide (f.nul ≤ v)) fl pk = true) (t : PT) (rest : List UInt8) (nl : Bool) (hok : t.ok) (hnl : nl = true → pField f v fl t ++ rest = []) :
    nl = false ∧ pk.run ⟨pField f v fl t ++ rest, false, false⟩ = (valOf (pNull f v t) t pk, ⟨rest, false, false⟩) ∧ pTold1 f v fl t (tellPrim (valOf (pNull f v t) t pk)) = true := by
  obtain ⟨k10, k11⟩ := pkFor_kind hpk
  have e : pField f v fl t = pValue (fun y => pPart f.sub v fl y) f.kind (pNull f v t) fl t := by
    rw [pField_eq]
    unfold pFieldOf
    simp only
    rw [if_neg k11, if_neg (fun h => k10 h.1)]
  have hnlf : nl = false := by
    cases nl with
    | false => rfl
    | true =>
      have h1 := hnl rfl
      have h2 := pField_pos (f := f) (v := v) (fl := fl) (t := t) fun h => k10 h.1
      have h3 : (pField f v fl t ++ rest).length = 0 := by rw [h1]; rfl
      rw [List.length_append] at h3
      omega
  obtain ⟨t1, t2⟩ := PK.tells hpk hok.n (null := pNull f v t) pNull_may (fun y z => pTold f.sub v fl y z)
  refine ⟨hnlf, ?_, ?_⟩
  · rw [e]
    exact PK.reads hpk t pNull_may _ rest
  · rw [pTold1_eq, pToldOf_eq, t1]
    simp only [bne_self_eq_false, Bool.and_false, Bool.false_eq_true, if_false]
    unfold pTail
    split
    · rfl
    · rename_i hn
      exact t2 (by simpa using hn)

theorem readP_read {fl : Bool} {e : Int} {pk : PK} (hpk : pkFor e false fl pk = true) (pp : PT → List UInt8) (rest : List UInt8) : ∀ l : List PT,
    readP pk l.length ⟨(l.map fun x => pValue pp e false fl x).flatten ++ rest, false, false⟩ = (l.map fun x => [valOf false x pk], ⟨rest, false, false⟩)
  | [] => by simp [readP]
  | x :: l => by
    have h1 := PK.reads hpk x (null := false) (fun h => h) pp ((l.map fun x => pValue pp e false fl x).flatten ++ rest)
    rw [List.length_cons, readP, List.map_cons, List.flatten_cons, List.append_assoc]
    simp only [h1, readP_read hpk pp rest l, List.map_cons]

theorem flatten_len {pp : PT → List UInt8} : ∀ {l : List PT}, (∀ x ∈ l, 1 ≤ (pp x).length) → l.length ≤ (l.map pp).flatten.length
  | [], _ => by simp
  | x :: l, h => by
    have := flatten_len (pp := pp) (l := l) fun y hy => h y (by simp [hy])
    have := h x (by simp)
    rw [List.map_cons, List.flatten_cons, List.length_append, List.length_cons]
    omega

theorem pThings_length (l : List PT) : (pThings l).length ≤ 32767 := by unfold pThings; rw [List.length_take]; omega

theorem pThings_ok {t : PT} (h : t.ok) : ∀ x ∈ pThings t.l, x.ok := fun x hx => h.l x (List.mem_of_mem_take hx)

/-- What is asked of a list that is told. -/
theorem told_list_of {f : PF} {v : Int} {fl : Bool} {t : PT} {nl : Bool} {tl : List PT} (h11 : f.kind = 11) (hnl : (decide (0 ≤ f.nul) && decide (f.nul ≤ v)) = true → nl = pNull f v t)
    (hl : pNull f v t = false → tl.length = (pThings t.l).length ∧ ∀ j (h1 : j < (pThings t.l).length) (h2 : j < tl.length), (decide (f.elem = 8 ∨ f.elem = 10) && tl[j].null) = false ∧ pToldV (fun y z => pTold f.sub v fl y z) f.elem (pThings t.l)[j] tl[j] = true) : pTold1 f v fl t (.mk 0 [] nl tl []) = true := by
  rw [pTold1_eq, pToldOf_eq]
  have e : ((decide (f.kind = 8) || decide (f.kind = 10) || (decide (0 ≤ f.nul) && decide (f.nul ≤ v))) && ((PT.mk 0 [] nl tl []).null != pNull f v t)) = false := by
    rw [h11]
    cases hm : (decide (0 ≤ f.nul) && decide (f.nul ≤ v)) with
    | false => rfl
    | true => rw [show (PT.mk 0 [] nl tl []).null = nl from rfl, hnl hm]; simp
  rw [e]
  simp only [Bool.false_eq_true, if_false]
  unfold pTail
  split
  · rfl
  · rename_i hn
    obtain ⟨h1, h2⟩ := hl (by simpa using hn)
    rw [show (PT.mk 0 [] nl tl []).l = tl from rfl, Bool.and_eq_true]
    refine ⟨by simpa using h1, (pAll2_get h1.symm).2 fun j hj1 hj2 => ?_⟩
    obtain ⟨h3, h4⟩ := h2 j hj1 hj2
    rw [h3, h4]
    rfl

theorem rt_part {v : Int} {fl : Bool} {sub : List PF} {ss : List Step} {ds : List TD} {dflt : List FV} {tg : Option Nat} (hg : ∀ f ∈ sub, f.tag < 0) (h : PlainRT v fl sub ss ds dflt 0 tg) (t : PT) (rest : List UInt8) (nl : Bool) (hok : t.ok) (hnl : nl = true → pPart sub v fl t ++ rest = []) :
    ∃ fs1, runSteps ss dflt ⟨pPart sub v fl t ++ rest, false, nl⟩ = some (fs1, ⟨rest, false, nl⟩) ∧ pTold sub v fl t (tdGp ds tg fs1) = true ∧ RepPart v fl sub t fs1 0 := by
  have e : pPart sub v fl t = pPlain sub v fl t 0 ++ pEndB fl (pUnknown sub t.u) := pPart_plain hg v fl t
  rw [e] at hnl ⊢
  obtain ⟨fs1, h1, _, h3, h4, h5, h6, h7⟩ := h t 0 (pUnknown sub t.u) dflt rest nl hok (unknown_fine sub hok) hnl fun q _ => rfl
  refine ⟨fs1, h1, ?_, h6, h7⟩
  have el : (tdGp ds tg fs1).l = TD.runs ds fs1 := rfl
  have eu : (tdGp ds tg fs1).u = tagsIn tg fs1 := rfl
  unfold pTold
  rw [Bool.and_eq_true, Bool.and_eq_true, decide_eq_true_eq, el, TD.runs_length]
  refine ⟨⟨h3, pTolds_get.2 fun j hj => ?_⟩, ?_⟩
  · have hd : j < ds.length := by omega
    have e2 : pAt (tdGp ds tg fs1) (0 + j) = ds[j].run fs1 := by
      unfold pAt
      rw [el, Nat.zero_add, List.getD_eq_getElem?_getD, List.getElem?_eq_getElem (by rw [TD.runs_length]; exact hd), TD.runs_get fs1 ds j hd]
      rfl
    rw [e2]
    exact h4 j hj hd
  · unfold pToldEnd
    simp only [eu, h5]
    cases fl with
    | false => rfl
    | true =>
      simp only [if_true, Bool.and_eq_true, decide_eq_true_eq]
      have hlen : (wholeTags (pUnknown sub t.u)).length = (pUnknown sub t.u).length := by simp [wholeTags]
      refine ⟨hlen, (pTagsTold_get hlen.symm).2 fun j h1 h2 => ?_⟩
      simp [wholeTags]

theorem readS_read {v : Int} {fl : Bool} {sub : List PF} {ss : List Step} {ds : List TD} {dflt : List FV} {tg : Option Nat} (hg : ∀ f ∈ sub, f.tag < 0) (h : PlainRT v fl sub ss ds dflt 0 tg) (rest : List UInt8) : ∀ l : List PT, (∀ x ∈ l, x.ok) →
    ∃ rows, readS (fun r => runSteps ss dflt r) l.length ⟨(l.map fun x => pPart sub v fl x).flatten ++ rest, false, false⟩ = some (rows, ⟨rest, false, false⟩) ∧ rows.length = l.length ∧ ∀ j (h1 : j < l.length) (h2 : j < rows.length), (pTold sub v fl l[j] (tdGp ds tg rows[j]) = true ∧ RepPart v fl sub l[j] rows[j] 0)
  | [], _ => ⟨[], by simp [readS], rfl, fun j hj => by simp at hj⟩
  | x :: l, hl => by
    obtain ⟨rows, h1, h2, h3⟩ := readS_read hg h rest l fun y hy => hl y (by simp [hy])
    obtain ⟨fs1, g1, g2⟩ := rt_part hg h x ((l.map fun x => pPart sub v fl x).flatten ++ rest) false (hl x (by simp)) (fun h => by cases h)
    refine ⟨fs1 :: rows, ?_, by simp [h2], fun j hj1 hj2 => ?_⟩
    · rw [List.length_cons, readS, List.map_cons, List.flatten_cons, List.append_assoc]
      simp only [g1, h1]
    · cases j with
      | zero => exact g2
      | succ j => exact h3 j (by simpa using hj1) (by simpa using hj2)

theorem list_written {f : PF} {v : Int} {fl : Bool} {t : PT} (h11 : f.kind = 11) : pField f v fl t = pCounted fl (pNull f v t) (if pNull f v t then [] else pThings t.l).length 4 ++ ((if pNull f v t then [] else pThings t.l).map fun x => pValue (fun y => pPart f.sub v fl y) f.elem false fl x).flatten := by
  rw [pField_eq]
  unfold pFieldOf
  simp only
  rw [if_pos h11]

theorem nl_false {f : PF} {v : Int} {fl nl : Bool} {t : PT} {rest : List UInt8} (h : ¬ (f.kind = 10 ∧ f.nul < 0)) (hnl : nl = true → pField f v fl t ++ rest = []) : nl = false := by
  cases nl with
  | false => rfl
  | true =>
    have h1 := hnl rfl
    have h2 := pField_pos (f := f) (v := v) (fl := fl) (t := t) h
    have h3 : (pField f v fl t ++ rest).length = 0 := by rw [h1]; rfl
    rw [List.length_append] at h3
    omega

mutual
theorem rtField_ok (v : Int) (fl : Bool) : ∀ (f : PF) (s : Step) (td : TD) (d0 : FV), f.plain = true → s.idx = td.idx → rtField v fl f s td d0 = true → FieldRT v fl f s td d0
  | .mk k fr to nul g d e sub, s, td, d0, hpl, hix, h => by
    intro t fs0 rest nl hok hnl hd0
    have hsub : PF.plains sub = true := PF.plain_sub hpl
    have hg : ∀ f ∈ sub, f.tag < 0 := fun f hf => PF.plain_tag (PF.plains_mem hsub f hf)
    match s, td, h with
    | .call pk _ i _ _, .prim i', h =>
      simp only [rtField] at h
      obtain ⟨rfl, h1, h2⟩ := rt_one (f := .mk k fr to nul g d e sub) h t rest nl hok hnl
      refine ⟨_, by simp only [runStep, h1]; rfl, fun fs hf => ?_, RepF.one (f := .mk k fr to nul g d e sub) (PK.rep h t pNull_may)⟩
      simp only [TD.idx] at hf
      simp only [TD.run, fvGet_eq hf]
      exact h2
    | .uuid _ i _, .prim i', h =>
      simp only [rtField] at h
      obtain ⟨rfl, h1, h2⟩ := rt_one (f := .mk k fr to nul g d e sub) h t rest nl hok hnl
      refine ⟨_, by simp only [runStep, h1]; rfl, fun fs hf => ?_, RepF.one (f := .mk k fr to nul g d e sub) (PK.rep h t pNull_may)⟩
      simp only [TD.idx] at hf
      simp only [TD.run, fvGet_eq hf]
      exact h2
    | .strP pk _ i _ _, .prim i', h =>
      simp only [rtField, Bool.and_eq_true] at h
      obtain ⟨rfl, h1, h2⟩ := rt_one (f := .mk k fr to nul g d e sub) h.1 t rest nl hok hnl
      have hv : ∃ l, valOf (pNull (.mk k fr to nul g d e sub) v t) t pk = .text l := by
        cases pk <;> first | exact ⟨_, rfl⟩ | (have := h.2; simp [PK.plainText] at this)
      obtain ⟨l, hl⟩ := hv
      have hrep := PK.rep h.1 t (null := pNull (.mk k fr to nul g d e sub) v t) pNull_may
      rw [hl] at h1 h2 hrep
      have hrep2 : RepF v fl (.mk k fr to nul g d e sub) t (.ntext (some l)) := ⟨hrep.1, by rw [hrep.2.1, hrep.2.2]; rfl⟩
      refine ⟨.ntext (some l), by simp only [runStep, h1]; rfl, fun fs hf => ?_, hrep2⟩
      simp only [TD.idx] at hf
      simp only [TD.run, fvGet_eq hf]
      exact h2
    | .listP lk _ i _ _ pk _ _, .lprim i', h =>
      simp only [rtField, Bool.and_eq_true, decide_eq_true_eq] at h
      obtain ⟨⟨rfl, hlk⟩, hpk⟩ := h
      have k10 := (pkFor_kind hpk).1
      have hlf := nl_false (f := .mk 11 fr to nul g d e sub) (by simp [PF.kind]) hnl
      subst hlf
      have hwr := list_written (f := .mk 11 fr to nul g d e sub) (v := v) (fl := fl) (t := t) rfl
      generalize hnu : pNull (.mk 11 fr to nul g d e sub) v t = null at hwr
      have hL : (if null then [] else pThings t.l).length ≤ 32767 := by
        split
        · simp
        · exact pThings_length _
      have hfl := flatten_len (pp := fun x => pValue (fun y => pPart sub v fl y) e false fl x) (l := if null then [] else pThings t.l) (fun x _ => pValue_pos k10)
      obtain ⟨m, r1, r2, r3⟩ := LenK.reads hlk (null := null) (fun hn => pNull_may (hnu.trans hn)) hL (fun hn => by subst hn; rfl) (rest := ((if null then [] else pThings t.l).map fun x => pValue (fun y => pPart sub v fl y) e false fl x).flatten ++ rest) (by rw [List.length_append]; omega)
      have r4 := readP_read hpk (fun y => pPart sub v fl y) rest (if null then [] else pThings t.l)
      simp only [PF.elem, PF.sub] at hwr
      refine ⟨.list (lk.nilAt m) ((if null then [] else pThings t.l).map fun x => [valOf false x pk]), ?_, fun fs hf => ?_, rfl, fun hm => (r3 hm).trans hnu.symm, by rw [hnu]; simp, fun j y r hy hr => ⟨fun h10 => absurd h10 k10, fun _ => ?_⟩⟩
      · rw [hwr, List.append_assoc]
        simp only [runStep, r1, Bool.false_eq_true, if_false, r2, r4]
        rfl
      · simp only [TD.idx] at hf
        simp only [TD.run, fvGet_eq hf, tellList]
        refine told_list_of (f := .mk 11 fr to nul g d e sub) rfl (fun hm => (r3 hm).trans hnu.symm) fun hn => ?_
        obtain rfl : null = false := hnu.symm.trans hn
        refine ⟨by simp, fun j h1 h2 => ?_⟩
        have hx := pThings_ok hok (pThings t.l)[j] (List.getElem_mem h1)
        obtain ⟨t1, t2⟩ := PK.tells hpk hx.n (null := false) (fun h => h) (fun y z => pTold sub v fl y z)
        simp only [Bool.false_eq_true, if_false, List.getElem_map]
        have e0 : fvGet [valOf false (pThings t.l)[j] pk] 0 = valOf false (pThings t.l)[j] pk := rfl
        rw [e0, t1]
        exact ⟨by simp, t2 rfl⟩
      · rw [hnu] at hy
        rw [List.getElem?_map, hy] at hr
        simp only [Option.map_some, Option.some.injEq] at hr
        exact ⟨_, hr.symm, PK.rep hpk y (fun h => h)⟩
    | .listS lk _ i _ _ _ _ _ dflt ss, .lsub i' ds tg, h =>
      simp only [rtField, Bool.and_eq_true, decide_eq_true_eq] at h
      obtain ⟨⟨⟨⟨rfl, rfl⟩, hlk⟩, hpos⟩, hrt⟩ := h
      have hS := rtPlain_ok v fl sub ss ds dflt 0 tg hsub hrt
      have hlf := nl_false (f := .mk 11 fr to nul g d 10 sub) (by simp [PF.kind]) hnl
      subst hlf
      have hwr := list_written (f := .mk 11 fr to nul g d 10 sub) (v := v) (fl := fl) (t := t) rfl
      generalize hnu : pNull (.mk 11 fr to nul g d 10 sub) v t = null at hwr
      have hL : (if null then [] else pThings t.l).length ≤ 32767 := by
        split
        · simp
        · exact pThings_length _
      have e10 : (fun x => pValue (fun y => pPart sub v fl y) 10 false fl x) = fun x => pPart sub v fl x := rfl
      simp only [PF.elem, PF.sub, e10] at hwr
      have hfl := flatten_len (pp := fun x => pPart sub v fl x) (l := if null then [] else pThings t.l) (fun x _ => pPart_pos hpos)
      obtain ⟨m, r1, r2, r3⟩ := LenK.reads hlk (null := null) (fun hn => pNull_may (hnu.trans hn)) hL (fun hn => by subst hn; rfl) (rest := ((if null then [] else pThings t.l).map fun x => pPart sub v fl x).flatten ++ rest) (by rw [List.length_append]; omega)
      obtain ⟨rows, r4, r5, r6⟩ := readS_read hg hS rest (if null then [] else pThings t.l) (fun x hx => by
        split at hx
        · cases hx
        · exact pThings_ok hok x hx)
      refine ⟨.list (lk.nilAt m) rows, ?_, fun fs hf => ?_, rfl, fun hm => (r3 hm).trans hnu.symm, by rw [hnu]; exact r5, fun j y r hy hr => ⟨fun _ => ?_, fun h => absurd rfl h⟩⟩
      · rw [hwr, List.append_assoc]
        simp only [runStep, r1, Bool.false_eq_true, if_false, r2, r4]
        rfl
      · simp only [TD.idx] at hf
        simp only [TD.run, fvGet_eq hf, tellList]
        refine told_list_of (f := .mk 11 fr to nul g d 10 sub) rfl (fun hm => (r3 hm).trans hnu.symm) fun hn => ?_
        obtain rfl : null = false := hnu.symm.trans hn
        simp only [Bool.false_eq_true, if_false] at r5 r6
        refine ⟨by simp [r5], fun j h1 h2 => ?_⟩
        simp only [List.getElem_map]
        refine ⟨by simp [PT.null], ?_⟩
        exact (r6 j h1 (by rw [r5]; exact h1)).1
      · rw [hnu] at hy
        obtain ⟨hj1, rfl⟩ := List.getElem?_eq_some_iff.1 hy
        obtain ⟨hj2, rfl⟩ := List.getElem?_eq_some_iff.1 hr
        have := (r6 j hj1 hj2).2
        exact ⟨this.1, by simpa using this.2⟩
    | .sub i _ _ _ dss _ ss, .part i' ds tg, h =>
      simp only [rtField, Bool.and_eq_true, decide_eq_true_eq] at h
      obtain ⟨⟨rfl, hnul⟩, hq⟩ := h
      match d0, hq, hd0 with
      | .sub gs, hq, hd0 =>
        have hS := rtPlain_ok v fl sub ss ds (applyD dss gs) 0 tg hsub hq
        have hnu : pNull (.mk 10 fr to nul g d e sub) v t = false := by
          have hz : decide (0 ≤ nul) = false := decide_eq_false (by omega)
          show (t.null && decide (0 ≤ nul) && decide (nul ≤ v)) = false
          rw [hz]
          simp
        have hwr : pField (.mk 10 fr to nul g d e sub) v fl t = pPart sub v fl t := by
          rw [pField_eq]
          unfold pFieldOf
          simp only [PF.kind, PF.nul]
          rw [if_neg (by omega), if_neg (by omega)]
          rfl
        rw [hwr] at hnl ⊢
        obtain ⟨fs1, r1, r2, r3⟩ := rt_part hg hS t rest nl hok hnl
        refine ⟨.sub fs1, ?_, fun fs hf => ?_, rfl, hnul, r3.1, by simpa using r3.2⟩
        · simp only [Step.idx] at hd0
          simp only [runStep, hd0, r1]
          rfl
        · simp only [TD.idx] at hf
          simp only [TD.run, fvGet_eq hf, tellPart]
          rw [pTold1_eq, pToldOf_eq, hnu]
          have e1 : (PT.mk 0 [] false (TD.runs ds fs1) (tagsIn tg fs1)).null = false := rfl
          rw [e1]
          simp only [bne_self_eq_false, Bool.and_false, Bool.false_eq_true, if_false]
          unfold pTail
          rw [hnu]
          exact r2
theorem rtPlain_ok (v : Int) (fl : Bool) : ∀ (fs : List PF) (ss : List Step) (ds : List TD) (dflt : List FV) (p : Nat) (tg : Option Nat), PF.plains fs = true → rtPlain v fl fs ss ds dflt p tg = true → PlainRT v fl fs ss ds dflt p tg
  | [], ss, ds, dflt, p, tg, _, h => by
    intro t i u fs0 rest nl hok hu hnl hsame
    simp only [rtPlain, Bool.and_eq_true, List.isEmpty_iff] at h
    obtain ⟨rfl, h⟩ := h
    simp only [pPlain, List.nil_append] at hnl ⊢
    cases fl with
    | true =>
      unfold rtEnd at h
      simp only at h
      split at h
      · rename_i f k ty off k'
        simp only [Bool.and_eq_true] at h
        have hk : k = k' := Nat.eq_of_beq_eq_true h.1.1
        have hpk : p = k := Nat.eq_of_beq_eq_true h.1.2
        have hp : p ≤ k := Nat.le_of_eq hpk
        have hlt : k < dflt.length := by
          have := h.2
          unfold Nat.blt at this
          exact Nat.le_of_ble_eq_true this
        subst hk
        have e : pEndB true u = pUv u.length ++ pTags u := rfl
        have hlf : nl = false := by
          cases nl with
          | false => rfl
          | true =>
            have h1 := hnl rfl
            have h2 := pUvN_pos 10 u.length
            have h3 : (pEndB true u ++ rest).length = 0 := by rw [h1]; rfl
            rw [e] at h3
            simp only [List.length_append, pUv] at h3
            omega
        subst hlf
        have hk0 : k < fs0.length := by
          have h1 := hsame k hp
          rw [List.getElem?_eq_getElem hlt] at h1
          exact (List.getElem?_eq_some_iff.1 h1).1
        refine ⟨fs0.set k (.tags (wholeTags u)), ?_, fun q hq => by rw [List.getElem?_set_ne (by omega)], rfl, fun j hj => by simp at hj, ?_, trivial, fun _ => ?_⟩
        · rw [e]
          simp only [runSteps, runStep, PK.run, rTags_read hu rest]
        · have hf : (fs0.set k (.tags (wholeTags u)))[k]? = some (.tags (wholeTags u)) := by rw [List.getElem?_set_self hk0]
          simp only [tagsIn, fvGet_eq hf, tellTags, if_true]
          refine sortTM_id ?_
          unfold wholeTags
          exact List.Pairwise.map _ (fun a b h => h) hu.asc
        · rw [List.length_nil, Nat.add_zero, hpk, List.getElem?_set_self hk0]
      · cases h
    | false =>
      unfold rtEnd at h
      simp only [Bool.and_eq_true, List.isEmpty_iff] at h
      obtain ⟨rfl, h⟩ := h
      have e : pEndB false u = [] := rfl
      refine ⟨fs0, by rw [e]; simp only [runSteps, List.nil_append], fun q _ => rfl, rfl, fun j hj => by simp at hj, ?_, trivial, fun h => by cases h⟩
      simp only [Bool.false_eq_true, if_false]
      unfold tagsIn
      split
      · rename_i k
        simp only [Bool.and_eq_true] at h
        have h1 := hsame k (Nat.le_of_ble_eq_true h.1)
        have h2 := h.2
        split at h2
        · rename_i hd
          rw [hd] at h1
          rw [fvGet_eq h1]
          exact sortTM_nil
        · cases h2
      · rfl
  | f :: r, ss, ds, dflt, p, tg, hpl, h => by
    intro t i u fs0 rest nl hok hu hnl hsame
    simp only [PF.plains, Bool.and_eq_true] at hpl
    have hg := PF.plain_tag hpl.1
    simp only [rtPlain] at h
    match ds, h with
    | d :: ds', h =>
    rw [Bool.and_eq_true] at h
    have hdi : d.idx = p := Nat.eq_of_beq_eq_true h.1
    have h := h.2
    cases hd0 : dflt[p]? with
    | none => rw [hd0] at h; cases h
    | some d0 =>
    rw [hd0] at h
    simp only [decide_eq_true hg, Bool.true_and] at h
    rw [pPlain_cons] at hnl ⊢
    cases hh : pHas f v with
    | true =>
      rw [hh] at h
      simp only [cond_true] at h
      match ss, h with
      | s :: ss', h =>
      simp only [Bool.and_eq_true] at h
      have hsi : s.idx = p := Nat.eq_of_beq_eq_true h.1.1
      have e1 : pOne f v fl (pAt t i) = pField f v fl (pAt t i) := by unfold pOne; rw [hh, decide_eq_true hg]; rfl
      rw [e1] at hnl ⊢
      have hF := rtField_ok v fl f s d d0 hpl.1 (hsi.trans hdi.symm) h.1.2
      have hR := rtPlain_ok v fl r ss' ds' dflt (p + 1) tg hpl.2 h.2
      obtain ⟨x, r1, r2, rr⟩ := hF (pAt t i) fs0 ((pPlain r v fl t (i + 1) ++ pEndB fl u) ++ rest) nl (hok.at i) (fun hn => by have := hnl hn; simpa [List.append_assoc] using this) (by rw [hsi, hsame p (Nat.le_refl _), hd0])
      have hx0 : fs0[p]? = some d0 := by rw [hsame p (Nat.le_refl _), hd0]
      have hlt : p < fs0.length := (List.getElem?_eq_some_iff.1 hx0).1
      obtain ⟨fs1, q1, q2, q3, q4, q5, q6, q7⟩ := hR t (i + 1) u (fs0.set s.idx x) rest nl hok hu (fun hn => by
        have h1 := hnl hn
        simp only [List.append_assoc, List.append_eq_nil_iff] at h1 ⊢
        exact h1.2) (fun q hq => by rw [hsi, List.getElem?_set_ne (by omega)]; exact hsame q (by omega))
      have hat : fs1[p]? = some x := by rw [q2 p (by omega), hsi, List.getElem?_set_self hlt]
      refine ⟨fs1, ?_, fun q hq => ?_, by simp [q3], fun j hj hd => ?_, q5, ⟨fun _ => ⟨x, hat, rr⟩, q6⟩, fun h => by
        have := q7 h
        rwa [List.length_cons, show p + (r.length + 1) = p + 1 + r.length by omega]⟩
      · have e2 : pField f v fl (pAt t i) ++ pPlain r v fl t (i + 1) ++ pEndB fl u ++ rest = pField f v fl (pAt t i) ++ ((pPlain r v fl t (i + 1) ++ pEndB fl u) ++ rest) := by simp only [List.append_assoc]
        rw [e2, runSteps, r1]
        exact q1
      · rw [q2 q (by omega), hsi, List.getElem?_set_ne (by omega)]
      · cases j with
        | zero =>
          simp only [List.getElem_cons_zero, Nat.add_zero]
          unfold pToldAt
          rw [if_pos (.inl ⟨hg, hh⟩)]
          refine r2 fs1 ?_
          rw [hdi, hat]
        | succ j =>
          have := q4 j (by simpa using hj) (by simpa using hd)
          rw [show i + (j + 1) = i + 1 + j by omega]
          exact this
    | false =>
      rw [hh] at h
      simp only [cond_false, Bool.and_eq_true] at h
      have e1 : pOne f v fl (pAt t i) = [] := by unfold pOne; rw [hh]; simp
      rw [e1, List.nil_append] at hnl ⊢
      have hR := rtPlain_ok v fl r ss ds' dflt (p + 1) tg hpl.2 h.2
      obtain ⟨fs1, q1, q2, q3, q4, q5, q6, q7⟩ := hR t (i + 1) u fs0 rest nl hok hu hnl (fun q hq => hsame q (by omega))
      refine ⟨fs1, q1, fun q hq => q2 q (by omega), by simp [q3], fun j hj hd => ?_, q5, ⟨fun h => (by rw [hh] at h; cases h), q6⟩, fun h => by
        have := q7 h
        rwa [List.length_cons, show p + (r.length + 1) = p + 1 + r.length by omega]⟩
      cases j with
      | zero =>
        simp only [List.getElem_cons_zero, Nat.add_zero]
        unfold pToldAt
        rw [if_neg (by rintro (⟨_, h2⟩ | ⟨h2, _⟩); · rw [hh] at h2; cases h2
                       · omega)]
        rw [TD.run_congr (fs' := dflt) (by rw [hdi, q2 p (by omega), hsame p (Nat.le_refl _)])]
        exact h.1
      | succ j =>
        have := q4 j (by simpa using hj) (by simpa using hd)
        rw [show i + (j + 1) = i + 1 + j by omega]
        exact this
end

/-- A message that was written is read, and told as it was. -/
theorem rt_whole {v x : Int} {fs : List PF} {ss : List Step} {ds : List TD} {dflt : List FV} {tg : Option Nat} {p : Nat} (hpl : PF.plains fs = true) (h : rtPlain v (pFlex x v) fs ss ds dflt p tg = true) (t : PT) (hok : t.ok) :
    ∃ fs1, runSteps ss dflt ⟨pWrite fs x v t, false, (pWrite fs x v t).isEmpty⟩ = some (fs1, ⟨[], false, (pWrite fs x v t).isEmpty⟩) ∧ pTold fs v (pFlex x v) t (tdGp ds tg fs1) = true ∧ RepPart v (pFlex x v) fs t fs1 p ∧ ∀ q, q < p → fs1[q]? = dflt[q]? := by
  have hg : ∀ f ∈ fs, f.tag < 0 := fun f hf => PF.plain_tag (PF.plains_mem hpl f hf)
  have hS := rtPlain_ok v (pFlex x v) fs ss ds dflt p tg hpl h
  have e : pWrite fs x v t = pPlain fs v (pFlex x v) t 0 ++ pEndB (pFlex x v) (pUnknown fs t.u) := pPart_plain hg v _ t
  obtain ⟨fs1, h1, h2, h3, h4, h5, h6, h7⟩ := hS t 0 (pUnknown fs t.u) dflt [] (pWrite fs x v t).isEmpty hok (unknown_fine fs hok) (fun hn => by rw [List.append_nil, ← e]; simpa using hn) fun q _ => rfl
  rw [List.append_nil, ← e] at h1
  refine ⟨fs1, h1, ?_, ⟨h6, h7⟩, h2⟩
  have el : (tdGp ds tg fs1).l = TD.runs ds fs1 := rfl
  have eu : (tdGp ds tg fs1).u = tagsIn tg fs1 := rfl
  unfold pTold
  rw [Bool.and_eq_true, Bool.and_eq_true, decide_eq_true_eq, el, TD.runs_length]
  refine ⟨⟨h3, pTolds_get.2 fun j hj => ?_⟩, ?_⟩
  · have hd : j < ds.length := by omega
    have e2 : pAt (tdGp ds tg fs1) (0 + j) = ds[j].run fs1 := by
      unfold pAt
      rw [el, Nat.zero_add, List.getD_eq_getElem?_getD, List.getElem?_eq_getElem (by rw [TD.runs_length]; exact hd), TD.runs_get fs1 ds j hd]
      rfl
    rw [e2]
    exact h4 j hj hd
  · unfold pToldEnd
    simp only [eu, h5]
    cases pFlex x v with
    | false => rfl
    | true =>
      simp only [if_true, Bool.and_eq_true, decide_eq_true_eq]
      have hlen : (wholeTags (pUnknown fs t.u)).length = (pUnknown fs t.u).length := by simp [wholeTags]
      refine ⟨hlen, (pTagsTold_get hlen.symm).2 fun j h1 h2 => ?_⟩
      simp [wholeTags]

theorem rt_message {v x : Int} {fs : List PF} {ss : List Step} {ds : List TD} {dflt : List FV} {tg : Option Nat} {p : Nat} (hpl : PF.plains fs = true) (h : rtPlain v (pFlex x v) fs ss ds dflt p tg = true) (t : PT) (hok : t.ok) :
    ∃ g, toldOf ss dflt (tdGp ds tg) (pWrite fs x v t) = some g ∧ pTold fs v (pFlex x v) t g = true := by
  obtain ⟨fs1, h1, h2, _⟩ := rt_whole hpl h t hok
  exact ⟨tdGp ds tg fs1, by unfold toldOf; rw [h1]; rfl, h2⟩
end Go.Kf
/- A law of an octet and a tree: what its arguments are, what is to be said behind it. -/
namespace Go.Kf
open Go Go.ChangeShapes Go.WideShapes Go.RowKit

/-- How much a tree says. -/
def tagsWt : TM → Nat
  | [] => 0
  | p :: m => 3 + p.2.length + tagsWt m
mutual
def PT.wt : PT → Nat
  | .mk _ s _ l u => 6 + s.length + PT.wts l + tagsWt u
def PT.wts : List PT → Nat
  | [] => 0
  | t :: r => t.wt + PT.wts r
end

theorem PT.wts_append : ∀ (a b : List PT), PT.wts (a ++ b) = PT.wts a + PT.wts b
  | [], b => by simp [PT.wts]
  | t :: a, b => by rw [List.cons_append, PT.wts, PT.wts_append a b, PT.wts]; omega

theorem tagsWt_append : ∀ (a b : TM), tagsWt (a ++ b) = tagsWt a + tagsWt b
  | [], b => by simp [tagsWt]
  | t :: a, b => by rw [List.cons_append, tagsWt, tagsWt_append a b, tagsWt]; omega

/-- How a reading's bulk is counted. -/
structure BulkLaws {H : Type} (B : DataW H → Nat) (BA : List (DataW H) → Nat) : Prop where
  agg : ∀ l, B (.agg l) = BA l + 1
  slice : ∀ e r, B (.slice e r) = BA e + BA r + 1
  pos : ∀ d, 1 ≤ B d
  nil : BA [] = 0
  cons : ∀ d r, BA (d :: r) = B d + BA r

/-- A struct's fields: their types, where they lie. -/
def chkStruct (P : Program) (t : Nat) (l : List (Nat × Nat)) : Bool := match P.underlying t with
  | some (.struct fs) => decide (fs.toList.map (fun f => (f.type, f.offset)) = l)
  | _ => false

theorem struct_of {P : Program} {t : Nat} {l : List (Nat × Nat)} (h : chkStruct P t l = true) : ∃ fs, P.underlying t = some (.struct fs) ∧ fs.toList.map (fun f => (f.type, f.offset)) = l := by
  unfold chkStruct at h
  split at h
  · rename_i fs hf
    exact ⟨fs, hf, by simpa using h⟩
  · cases h

/-- The tree's types, as a row's reading asks them. -/
structure RowTypes (P : Program) (c : Nums) : Prop where
  tree : chkStruct P c.sTree [(c.tI64, 0), (c.tBytes, 1), (c.tBool, 2), (c.sTrees, 3), (c.sTagL, 4)] = true
  tag : chkStruct P c.sTag [(c.tU32, 0), (c.tBytes, 1)] = true
  cells : [P.cellsOf c.tI64, P.cellsOf c.tBytes, P.cellsOf c.tBool, P.cellsOf c.sTrees, P.cellsOf c.sTagL, P.cellsOf c.tU32, P.cellsOf c.tU8, P.cellsOf c.sTree, P.cellsOf c.sTag] = [1, 1, 1, 1, 1, 1, 1, 5, 2]
  laid : laidOutB P = true
  rr : P.readableRec c.sTree = true
  row : c.sTree < P.types.size

theorem struct_parts {H : Type} {enc : TypeId × Value → H} {P : Program} {w : World} {base : Nat} {sp : Nat → Bool} {hd : Bool} {fuel t : Nat} {cs : List Value} {x : DataW H × List MemPlace} {l : List (Nat × Nat)} (h : chkStruct P t l = true) (hx : DataW.trod enc P w base sp hd fuel t cs = some x) :
    ∃ (xs : List (DataW H × List MemPlace)) (n : Nat), fuel = n + 1 ∧ x.1 = .agg (xs.map (·.1)) ∧ cs.length = P.cellsOf t ∧ xs.length = l.length ∧ ∀ (i : Nat) (p : Nat × Nat), l[i]? = some p → DataW.trod enc P w base sp hd n p.1 ((cs.drop p.2).take (P.cellsOf p.1)) = xs[i]? := by
  obtain ⟨fs, hf, hm⟩ := struct_of h
  obtain ⟨xs, n, h1, h2, h3, h4, h5⟩ := DataW.trod_struct hf hx
  refine ⟨xs, n, h1, by rw [h2], h3, by rw [h4, ← hm]; simp, fun i p hp => ?_⟩
  subst hm
  rw [List.getElem?_map] at hp
  cases hfi : fs.toList[i]? with
  | none => rw [hfi] at hp; cases hp
  | some f =>
    rw [hfi] at hp
    simp only [Option.map_some, Option.some.injEq] at hp
    subst hp
    exact h5 i f (by rwa [Array.getElem?_toList] at hfi)

theorem addr_spot {w : World} {a : Addr} {v : Value} (h : w.cell? a = some v) : a = ⟨a.block, a.off, none⟩ := by
  unfold World.cell? at h
  split at h
  · split at h
    · cases h
    · rename_i hs
      cases a with
      | mk b o s =>
        cases s with
        | none => rfl
        | some _ => simp at hs
  · cases h

section
variable {H : Type} {enc : TypeId × Value → H} {P : Program} {c : Nums} {s : SN} {w : World} {B : DataW H → Nat} {BA : List (DataW H) → Nat}

theorem bulk_len (L : BulkLaws B BA) : ∀ l : List (DataW H), l.length ≤ BA l
  | [] => by simp
  | d :: r => by
    have := L.pos d
    have := bulk_len L r
    rw [L.cons, List.length_cons]
    omega

/-- Octets of an argument. -/
theorem open_octets (S : SpFacts P c s) (T : RowTypes P c) (L : BulkLaws B BA) {fuel : Nat} {cs : List Value} {x : DataW H × List MemPlace} (h : DataW.trod enc P w 0 (fun _ => true) true fuel c.tBytes cs = some x) :
    ∃ v l, cs = [v] ∧ Ro w v 1 l.length (bcells l) ∧ l.length + 1 ≤ B x.1 := by
  have hc := T.cells
  simp only [List.cons.injEq] at hc
  rcases open_ints S.rd.bytes S.rd.u8 hc.2.2.2.2.2.2.1 h with ⟨rfl, rfl⟩ | ⟨a, len, cap, zs, rfl, _, hle, hmx, hzl, rfl, hcell, hwf⟩
  · exact ⟨_, [], rfl, Ro.nil w 1, L.pos _⟩
  · simp only [if_true] at hzl
    have hz8 : ∀ z ∈ zs, ∃ m : Nat, z = m ∧ m < 256 := fun z hz => lit_u8 (hwf z hz)
    refine ⟨_, (zs.take len).map fun z => UInt8.ofNat z.toNat, rfl, ?_, ?_⟩
    · have hlen : ((zs.take len).map fun z => UInt8.ofNat z.toNat).length = len := by rw [List.length_map, List.length_take]; omega
      refine ⟨by rw [bcells_length]; omega, ?_⟩
      rw [hlen]
      by_cases h0 : len = 0
      · exact .inl ⟨h0, _, _, by rw [h0]⟩
      · have hz0 : 0 < zs.length := by omega
        have e0 := hcell 0 hz0
        have ha0 : a.add 0 = a := by simp [Addr.add]
        rw [ha0] at e0
        have hsp := addr_spot e0
        refine .inr ⟨a.block, a.off, cap, by rw [← hsp], cell_block e0, hle, fun i hi => ?_⟩
        have hi' : i < zs.length := by omega
        have e1 := hcell i hi'
        rw [hsp, addr_add] at e1
        rw [e1]
        obtain ⟨m, hm, hlt⟩ := hz8 zs[i] (List.getElem_mem _)
        simp only [bcells, List.getElem?_map, List.getElem?_take, show i < len by omega, if_true, List.getElem?_eq_getElem hi', Option.map_some, List.getD_eq_getElem?_getD, Option.getD_some, hm, Int.toNat_natCast]
        congr 2
        have : (UInt8.ofNat m).toNat = m := by rw [UInt8.toNat_ofNat']; omega
        rw [this]
    · rw [L.slice]
      have := bulk_len L (lits .u8 (zs.take len))
      have e : (lits (H := H) .u8 (zs.take len)).length = (zs.take len).length := by simp [lits]
      rw [List.length_map]
      omega

/-- Elements of an argument's slice, one after another. -/
theorem open_elems {e sz fuel : Nat} {a : Addr} {len : Nat} {elems : List (DataW H × List MemPlace)} (hsz : P.cellsOf e = sz) (hlen : elems.length = len)
    (hel : ∀ i, i < len → (w.cells? 0 (a.add (i * P.cellsOf e)) (P.cellsOf e)).bind (DataW.trod enc P w 0 (fun _ => true) true fuel e) = elems[i]?) :
    ∀ i (hi : i < elems.length), ∃ cs, cs.length = sz ∧ (∀ q, q < sz → w.cell? ((a.add (i * sz)).add q) = cs[q]?) ∧ DataW.trod enc P w 0 (fun _ => true) true fuel e cs = some elems[i] := by
  intro i hi
  have h := hel i (by omega)
  rw [List.getElem?_eq_getElem hi, Option.bind_eq_some_iff] at h
  obtain ⟨cs, h1, h2⟩ := h
  obtain ⟨_, h3, h4⟩ := World.cells?_some h1
  rw [hsz] at h3 h4
  exact ⟨cs, h3, h4, h2⟩

theorem bulk_take (L : BulkLaws B BA) (l : List (DataW H)) {j : Nat} (hj : j < l.length) : BA (l.take (j + 1)) = BA (l.take j) + B l[j] := by
  induction l generalizing j with
  | nil => simp at hj
  | cons d r ih =>
    cases j with
    | zero => simp [L.cons, L.nil]
    | succ j =>
      rw [List.take_succ_cons, L.cons, ih (by simpa using hj), List.take_succ_cons, L.cons, List.getElem_cons_succ]
      omega

/-- Rows of elements, joined. -/
theorem open_row' {sz : Nat} {X : Type} {C : List X → List Value → Prop} {W : List X → Nat} (L : BulkLaws B BA) (hsz : 0 < sz) {a : Addr} {elems : List (DataW H × List MemPlace)} (hC0 : C [] []) (hW0 : W [] = 0)
    (hC : ∀ xs cs i (hi : i < elems.length), xs.length = i → C xs cs → (∀ q, q < i * sz → w.cell? (a.add q) = cs[q]?) → cs.length = i * sz → W xs ≤ BA ((elems.map (·.1)).take i) → ∃ y ys, C (xs ++ [y]) (cs ++ ys) ∧ ys.length = sz ∧ (∀ q, q < sz → w.cell? ((a.add (i * sz)).add q) = ys[q]?) ∧ W (xs ++ [y]) ≤ W xs + B elems[i].1) :
    ∀ k, k ≤ elems.length → ∃ xs cs, xs.length = k ∧ C xs cs ∧ cs.length = k * sz ∧ (∀ q, q < k * sz → w.cell? (a.add q) = cs[q]?) ∧ W xs ≤ BA ((elems.map (·.1)).take k)
  | 0, _ => ⟨[], [], rfl, hC0, by simp, fun q hq => by simp at hq, by rw [hW0]; omega⟩
  | k + 1, hk => by
    obtain ⟨xs, cs, h1, h2, h3, h4, h5⟩ := open_row' L hsz hC0 hW0 hC k (by omega)
    obtain ⟨y, ys, g1, g2, g3, g4⟩ := hC xs cs k (by omega) h1 h2 h4 h3 h5
    refine ⟨xs ++ [y], cs ++ ys, by rw [List.length_append, h1]; rfl, g1, by rw [List.length_append, h3, g2, Nat.add_mul]; omega, fun q hq => ?_, ?_⟩
    · by_cases hq2 : q < k * sz
      · rw [List.getElem?_append_left (by omega)]
        exact h4 q hq2
      · rw [List.getElem?_append_right (by omega), h3]
        have h6 : q - k * sz < sz := by rw [Nat.add_mul] at hq; omega
        have h7 := g3 (q - k * sz) h6
        rw [← h7]
        congr 1
        have hsp : ∃ b o, a.add (k * sz) = ⟨b, o, none⟩ ∧ ∀ r, a.add (k * sz + r) = ⟨b, o + r, none⟩ := by
          have h8 := g3 0 hsz
          have h9 : ys[0]? ≠ none := by rw [List.getElem?_eq_getElem (by omega)]; simp
          cases hv : w.cell? ((a.add (k * sz)).add 0) with
          | none => rw [hv] at h8; exact absurd h8.symm h9
          | some v =>
            have e0 : (a.add (k * sz)).add 0 = a.add (k * sz) := by simp [Addr.add]
            rw [e0] at hv
            have hs := addr_spot hv
            refine ⟨(a.add (k * sz)).block, (a.add (k * sz)).off, hs, fun r => ?_⟩
            by_cases hk0 : k * sz = 0
            · rw [hk0, Nat.zero_add]
              have e1 : a.add 0 = a := by simp [Addr.add]
              rw [hk0, e1] at hs
              rw [e1]
              rw [hs, addr_add]
            · have e2 : a.add (k * sz + r) = { a with off := a.off + (k * sz + r), spot := none } := by simp [Addr.add]; omega
              have e3 : a.add (k * sz) = { a with off := a.off + k * sz, spot := none } := by simp [Addr.add, hk0]
              rw [e2, e3]
              simp only [Nat.add_assoc]
        obtain ⟨b, o, e1, e2⟩ := hsp
        rw [e1, addr_add, show q = k * sz + (q - k * sz) by omega, e2]
        congr 1
        omega
    · rw [bulk_take L _ (by simpa using by omega)]
      simp only [List.getElem_map]
      omega

theorem bulk_mem (L : BulkLaws B BA) {d : DataW H} : ∀ {l : List (DataW H)}, d ∈ l → B d ≤ BA l
  | [], h => by cases h
  | y :: l, h => by
    rw [L.cons]
    rcases List.mem_cons.1 h with rfl | h
    · omega
    · have := bulk_mem L h
      omega

theorem TreesC.append : ∀ {a b : List PT} {x y : List Value}, TreesC w a x → TreesC w b y → TreesC w (a ++ b) (x ++ y)
  | [], b, x, y, h1, h2 => by simp only [TreesC] at h1; subst h1; exact h2
  | t :: a, b, x, y, ⟨c1, c2, e, h1, h3⟩, h2 => ⟨c1, c2 ++ y, by rw [e, List.append_assoc], h1, TreesC.append h3 h2⟩

/-- Cells that a slice shows. -/
theorem ro_of_cells {a : Addr} {len cap sz : Nat} {cs : List Value} (hsz : 0 < sz) (hl : cs.length = len * sz) (hc : len ≤ cap) (h : ∀ q, q < len * sz → w.cell? (a.add q) = cs[q]?) : Ro w (.slice (some a) len cap) sz len cs := by
  refine ⟨hl, ?_⟩
  by_cases h0 : len = 0
  · exact .inl ⟨h0, _, _, by rw [h0]⟩
  · have hpos : 0 < len * sz := Nat.mul_pos (by omega) hsz
    have e0 := h 0 hpos
    have ha0 : a.add 0 = a := by simp [Addr.add]
    rw [ha0, List.getElem?_eq_getElem (by omega)] at e0
    have hsp := addr_spot e0
    refine .inr ⟨a.block, a.off, cap, by rw [← hsp], cell_block e0, hc, fun i hi => ?_⟩
    have e1 := h i hi
    rwa [hsp, addr_add] at e1

theorem wf_u32 {n : Int} (h : (Lit.int .u32 n).wf = true) : ∃ m : Nat, n = m ∧ m < 4294967296 := by
  simp only [Lit.wf, Bool.and_eq_true, decide_eq_true_eq] at h
  have e1 : IntKind.u32.min = 0 := rfl
  have e2 : IntKind.u32.max = 4294967295 := rfl
  rw [e1, e2] at h
  exact ⟨n.toNat, by omega, by omega⟩

theorem wf_i64 {n : Int} (h : (Lit.int .i64 n).wf = true) : IntKind.i64.wrap n = n := by
  simp only [Lit.wf, Bool.and_eq_true, decide_eq_true_eq] at h
  have e1 : IntKind.i64.min = -9223372036854775808 := rfl
  have e2 : IntKind.i64.max = 9223372036854775807 := rfl
  rw [e1, e2] at h
  exact i64_small (by omega) (by omega)

/-- A tag of an argument. -/
theorem open_tag (S : SpFacts P c s) (T : RowTypes P c) (L : BulkLaws B BA) {fuel : Nat} {cs : List Value} {x : DataW H × List MemPlace} (h : DataW.trod enc P w 0 (fun _ => true) true fuel c.sTag cs = some x) :
    ∃ q : Nat × List UInt8, TagsC w [q] cs ∧ q.1 < 4294967296 ∧ 3 + q.2.length ≤ B x.1 := by
  have hc := T.cells
  simp only [List.cons.injEq] at hc
  obtain ⟨c1, c2, c3, c4, c5, c6, c7, c8, c9, _⟩ := hc
  obtain ⟨xs, n, rfl, hx1, hlen, hxl, hget⟩ := struct_parts T.tag h
  rw [c9] at hlen
  match xs, hxl with
  | [y0, y1], _ =>
  match cs, hlen with
  | [v0, v1], _ =>
  have h0 := hget 0 (c.tU32, 0) rfl
  have h1 := hget 1 (c.tBytes, 1) rfl
  rw [c6] at h0
  rw [c2] at h1
  obtain ⟨n0, e0, hy0, w0⟩ := DataW.trod_int S.rd.u32 (show _ = some y0 from h0)
  obtain ⟨v, l, e1, hro, hb⟩ := open_octets S T L (show _ = some y1 from h1)
  obtain ⟨m, rfl, hm⟩ := wf_u32 w0
  simp at e0 e1
  subst e0
  subst e1
  refine ⟨(m, l), ⟨v1, [], rfl, hro, rfl⟩, hm, ?_⟩
  rw [hx1, L.agg]
  simp only [List.map_cons, List.map_nil, L.cons, L.nil]
  have := L.pos y0.1
  omega

/-- A tree of an argument. -/
theorem open_tree (S : SpFacts P c s) (T : RowTypes P c) (L : BulkLaws B BA) : ∀ (fuel : Nat) {cs : List Value} {x : DataW H × List MemPlace}, DataW.trod enc P w 0 (fun _ => true) true fuel c.sTree cs = some x → B x.1 < 4294967296 →
    ∃ t : PT, TreeC w t cs ∧ t.ok ∧ t.wt ≤ B x.1 := by
  intro fuel
  induction fuel using Nat.strongRecOn with
  | ind fuel ih =>
  intro cs x h hB
  have hc := T.cells
  simp only [List.cons.injEq] at hc
  obtain ⟨c1, c2, c3, c4, c5, c6, c7, c8, c9, _⟩ := hc
  obtain ⟨xs, n, rfl, hx1, hlen, hxl, hget⟩ := struct_parts T.tree h
  rw [c8] at hlen
  match xs, hxl with
  | [y0, y1, y2, y3, y4], _ =>
  match cs, hlen with
  | [v0, v1, v2, v3, v4], _ =>
  have h0 := hget 0 (c.tI64, 0) rfl
  have h1 := hget 1 (c.tBytes, 1) rfl
  have h2 := hget 2 (c.tBool, 2) rfl
  have h3 := hget 3 (c.sTrees, 3) rfl
  have h4 := hget 4 (c.sTagL, 4) rfl
  rw [c1] at h0
  rw [c2] at h1
  rw [c3] at h2
  rw [c4] at h3
  rw [c5] at h4
  rw [hx1, L.agg] at hB ⊢
  simp only [List.map_cons, List.map_nil, L.cons, L.nil] at hB ⊢
  obtain ⟨n0, e0, hy0, w0⟩ := DataW.trod_int S.ty.i64 (show _ = some y0 from h0)
  obtain ⟨sv, l, e1, hro, hb1⟩ := open_octets S T L (show _ = some y1 from h1)
  obtain ⟨b, e2, hy2⟩ := DataW.trod_bool S.ty.bool (show _ = some y2 from h2)
  simp at e0 e1 e2
  subst e0
  subst e1
  subst e2
  have p0 := L.pos y0.1
  have p2 := L.pos y2.1
  -- the things
  obtain ⟨tl, lcs, hl1, hl2, hl3, hl4⟩ : ∃ (tl : List PT) (lcs : List Value), Ro w v3 5 tl.length lcs ∧ TreesC w tl lcs ∧ (∀ t ∈ tl, t.ok) ∧ PT.wts tl + 1 ≤ B y3.1 := by
    rcases DataW.trod_slice S.ty.sl (show _ = some y3 from h3) with ⟨e3, rfl⟩ | ⟨a, len, cap, elems, rest, m, hm, e3, rfl, _, hle, _, hel0, hel, _⟩
    · simp at e3
      subst e3
      exact ⟨[], [], Ro.nil w 5, rfl, (fun t ht => by cases ht), L.pos _⟩
    · simp at e3
      subst e3
      have hE := open_elems (e := c.sTree) (sz := 5) (len := len) c8 hel0 hel
      simp only at hB ⊢
      rw [L.slice] at hB ⊢
      obtain ⟨tl, lcs, k1, k2, k3, k4, k5⟩ := open_row' (w := w) (sz := 5) (X := PT) (C := fun ts cs => TreesC w ts cs ∧ ∀ t ∈ ts, t.ok) (W := PT.wts) L (by omega) (a := a) (elems := elems) ⟨rfl, fun t ht => by cases ht⟩ rfl (by
        intro ts cs i hi _ hC _ _ _
        obtain ⟨ys, g1, g2, g3⟩ := hE i hi
        have hbm : B elems[i].1 ≤ BA (elems.map (·.1)) := bulk_mem L (List.mem_map.2 ⟨_, List.getElem_mem hi, rfl⟩)
        obtain ⟨t, t1, t2, t3⟩ := ih m (by omega) g3 (by omega)
        refine ⟨t, ys, ⟨TreesC.append hC.1 ⟨ys, [], by simp, t1, rfl⟩, fun u hu => ?_⟩, g1, g2, ?_⟩
        · rcases List.mem_append.1 hu with hu | hu
          · exact hC.2 u hu
          · simp only [List.mem_singleton] at hu; subst hu; exact t2
        · rw [PT.wts_append]
          simp only [PT.wts]
          omega) elems.length (Nat.le_refl _)
      rw [List.take_of_length_le (by simp)] at k5
      refine ⟨tl, lcs, ?_, k2.1, k2.2, by omega⟩
      rw [k1, hel0]
      rw [hel0] at k3 k4
      exact ro_of_cells (by omega) k3 hle k4
  obtain ⟨ul, ucs, hu1, hu2, hu3, hu4, hu5⟩ : ∃ (ul : TM) (ucs : List Value), Ro w v4 2 ul.length ucs ∧ TagsC w ul ucs ∧ (∀ p ∈ ul, p.1 < 4294967296) ∧ tagsWt ul + 1 ≤ B y4.1 ∧ ul.length ≤ tagsWt ul := by
    rcases DataW.trod_slice S.ty.slTag (show _ = some y4 from h4) with ⟨e3, rfl⟩ | ⟨a, len, cap, elems, rest, m, hm, e3, rfl, _, hle, _, hel0, hel, _⟩
    · simp at e3
      subst e3
      exact ⟨[], [], Ro.nil w 2, rfl, (fun t ht => by cases ht), L.pos _, Nat.le_refl _⟩
    · simp at e3
      subst e3
      have hE := open_elems (e := c.sTag) (sz := 2) (len := len) c9 hel0 hel
      simp only at hB ⊢
      rw [L.slice] at hB ⊢
      obtain ⟨tl, lcs, k1, k2, k3, k4, k5⟩ := open_row' (w := w) (sz := 2) (X := Nat × List UInt8) (C := fun ts cs => TagsC w ts cs ∧ (∀ p ∈ ts, p.1 < 4294967296) ∧ ts.length ≤ tagsWt ts) (W := tagsWt) L (by omega) (a := a) (elems := elems) ⟨rfl, (fun t ht => by cases ht), Nat.le_refl _⟩ rfl (by
        intro ts cs i hi _ hC _ _ _
        obtain ⟨ys, g1, g2, g3⟩ := hE i hi
        obtain ⟨q, t1, t2, t3⟩ := open_tag S T L g3
        refine ⟨q, ys, ⟨TagsC.append hC.1 t1, fun u hu => ?_, ?_⟩, g1, g2, ?_⟩
        · rcases List.mem_append.1 hu with hu | hu
          · exact hC.2.1 u hu
          · simp only [List.mem_singleton] at hu; subst hu; exact t2
        · have := hC.2.2
          rw [tagsWt_append, List.length_append]
          simp only [tagsWt, List.length_singleton]
          omega
        · rw [tagsWt_append]
          simp only [tagsWt]
          omega) elems.length (Nat.le_refl _)
      rw [List.take_of_length_le (by simp)] at k5
      refine ⟨tl, lcs, ?_, k2.1, k2.2.1, by omega, k2.2.2⟩
      rw [k1, hel0]
      rw [hel0] at k3 k4
      exact ro_of_cells (by omega) k3 hle k4
  have hwl : tl.length ≤ PT.wts tl := by
    clear hl1 hl2 hl3 hl4
    induction tl with
    | nil => simp [PT.wts]
    | cons t r ihr =>
      have : 1 ≤ t.wt := by cases t; simp only [PT.wt]; omega
      simp only [PT.wts, List.length_cons]
      omega
  refine ⟨.mk n0 l b tl ul, ⟨v1, v3, v4, lcs, ucs, rfl, hro, hl1, hl2, hu1, hu2, by omega, by omega, by omega⟩, ⟨wf_i64 w0, hu3, PT.oks_of hl3⟩, ?_⟩
  simp only [PT.wt]
  omega
end
end Go.Kf
/- How long what is written gets. -/
namespace Go.Kf
open Go

mutual
def kF : PF → Nat
  | .mk k _ _ _ _ _ e sub => if k = 11 then (if e = 10 then 3 + kPart sub else 6) else if k = 10 then 3 + kPart sub else 3
def kPart : List PF → Nat
  | [] => 8
  | f :: r => kF f + kPart r
end

def kPlain : List PF → Nat
  | [] => 0
  | f :: r => kF f + kPlain r

theorem kPart_eq : ∀ fs : List PF, kPart fs = kPlain fs + 8
  | [] => rfl
  | f :: r => by rw [kPart, kPlain, kPart_eq r]; omega

theorem PT.wt_eq (t : PT) : t.wt = 6 + t.s.length + PT.wts t.l + tagsWt t.u := by cases t; rfl

theorem wts_mem {x : PT} : ∀ {l : List PT}, x ∈ l → x.wt ≤ PT.wts l
  | [], h => by cases h
  | y :: l, h => by
    rw [PT.wts]
    rcases List.mem_cons.1 h with rfl | h
    · omega
    · have := wts_mem h
      omega

theorem wt_at (t : PT) (i : Nat) : (pAt t i).wt ≤ t.wt := by
  rw [PT.wt_eq t]
  unfold pAt
  rw [List.getD_eq_getElem?_getD]
  by_cases h : i < t.l.length
  · rw [List.getElem?_eq_getElem h]
    have := wts_mem (List.getElem_mem h)
    simp only [Option.getD_some]
    omega
  · rw [List.getElem?_eq_none (by omega)]
    have : PT.zero.wt = 6 := rfl
    simp only [Option.getD_none]
    omega

theorem wts_take (n : Nat) : ∀ l : List PT, PT.wts (l.take n) ≤ PT.wts l := by
  induction n with
  | zero => intro l; simp [PT.wts]
  | succ n ih =>
    intro l
    cases l with
    | nil => simp [PT.wts]
    | cons x l => rw [List.take_succ_cons, PT.wts, PT.wts]; have := ih l; omega

theorem tagsWt_take (n : Nat) : ∀ l : TM, tagsWt (l.take n) ≤ tagsWt l := by
  induction n with
  | zero => intro l; simp [tagsWt]
  | succ n ih =>
    intro l
    cases l with
    | nil => simp [tagsWt]
    | cons x l => rw [List.take_succ_cons, tagsWt, tagsWt]; have := ih l; omega

theorem tagsWt_put (q : Nat × List UInt8) : ∀ m : TM, tagsWt (pPut q m) ≤ tagsWt m + 3 + q.2.length
  | [] => by simp [pPut, tagsWt]
  | p :: m => by
    have := tagsWt_put q m
    rw [pPut]
    split
    · simp only [tagsWt]; omega
    · split
      · simp only [tagsWt]; omega
      · simp only [tagsWt]; omega

theorem tagsWt_unknownN (least : Nat) : ∀ u out : TM, tagsWt (pUnknownN least u out) ≤ tagsWt u + tagsWt out
  | [], out => by simp [pUnknownN, tagsWt]
  | q :: u, out => by
    rw [pUnknownN]
    have h1 := tagsWt_unknownN least u (if q.1 < least then out else pPut q out)
    have h2 := tagsWt_put q out
    rw [tagsWt]
    split at h1 <;> rename_i hq
    · rw [if_pos hq]; omega
    · rw [if_neg hq]; omega

theorem tagsWt_unknown (fs : List PF) (u : TM) : tagsWt (pUnknown fs u) ≤ tagsWt u := by
  have h1 := tagsWt_unknownN (pKnown fs 0) (u.take 32767) []
  have h2 := tagsWt_take 32767 u
  have h3 : tagsWt ([] : TM) = 0 := rfl
  unfold pUnknown
  omega

theorem pTags_len : ∀ m : TM, (pTags m).length ≤ 8 * tagsWt m
  | [] => by simp [pTags]
  | q :: m => by
    have h1 := pTags_len m
    have h2 : (pTags (q :: m)).length = (pUv q.1).length + (pUv (pWhole q.2).length).length + (pWhole q.2).length + (pTags m).length := by
      simp only [pTags, List.map_cons, List.flatten_cons, pTag1, List.length_append]
    have h3 := pUv_length q.1
    have h4 := pUv_length (pWhole q.2).length
    have h5 : (pWhole q.2).length ≤ q.2.length := by unfold pWhole; rw [List.length_take]; omega
    rw [h2, tagsWt]
    omega

theorem pValue_len {pp : PT → List UInt8} {kind : Int} {null fl : Bool} {t : PT} (h : kind ≠ 10) : (pValue pp kind null fl t).length ≤ 3 * t.wt := by
  have hw : 6 + t.s.length ≤ t.wt := by rw [PT.wt_eq]; omega
  have hs : (if null then [] else pWhole t.s).length ≤ t.s.length := by
    split
    · simp
    · unfold pWhole; rw [List.length_take]; omega
  unfold pValue
  split
  · simp only [List.length_singleton]; omega
  split
  · rw [pId_length]; omega
  split
  · have := pCounted_length fl null (if null then [] else pWhole t.s).length 2
    simp only [List.length_append]
    omega
  split
  · have := pCounted_length fl null (if null then [] else pWhole t.s).length 4
    simp only [List.length_append]
    omega
  rw [pFixed_length]
  have := pWidth_le kind
  omega

theorem flatten_wt {pp : PT → List UInt8} {k : Nat} : ∀ {l : List PT}, (∀ x ∈ l, (pp x).length ≤ k * x.wt) → (l.map pp).flatten.length ≤ k * PT.wts l
  | [], _ => by simp
  | x :: l, h => by
    have := flatten_wt (pp := pp) (k := k) (l := l) fun y hy => h y (by simp [hy])
    have := h x (by simp)
    rw [List.map_cons, List.flatten_cons, List.length_append, PT.wts, Nat.mul_add]
    omega

theorem kF_eq (f : PF) : kF f = if f.kind = 11 then (if f.elem = 10 then 3 + kPart f.sub else 6) else if f.kind = 10 then 3 + kPart f.sub else 3 := by cases f; rw [kF]; rfl

theorem pField_len_step {v : Int} {fl : Bool} {f : PF} (hpart : ∀ t : PT, (pPart f.sub v fl t).length ≤ kPart f.sub * t.wt) (t : PT) : (pField f v fl t).length ≤ kF f * t.wt := by
  have hw6 : 6 ≤ t.wt := by rw [PT.wt_eq]; omega
  rw [kF_eq]
  by_cases h11 : f.kind = 11
  · rw [if_pos h11, list_written h11]
    generalize hnu : pNull f v t = null
    have hw : PT.wts (if null then [] else pThings t.l) ≤ PT.wts t.l := by
      split
      · simp [PT.wts]
      · exact wts_take _ _
    have hc := pCounted_length fl null (if null then [] else pThings t.l).length 4
    have hwt : 6 + PT.wts t.l ≤ t.wt := by rw [PT.wt_eq]; omega
    rw [List.length_append]
    by_cases h10 : f.elem = 10
    · rw [if_pos h10, h10]
      have h6 := flatten_wt (pp := fun x => pValue (fun y => pPart f.sub v fl y) 10 false fl x) (k := kPart f.sub) (l := if null then [] else pThings t.l) (fun x _ => hpart x)
      have h7 := Nat.mul_le_mul_left (kPart f.sub) (Nat.le_trans hw (show PT.wts t.l ≤ t.wt by omega))
      rw [Nat.add_mul]
      omega
    · rw [if_neg h10]
      have h6 := flatten_wt (pp := fun x => pValue (fun y => pPart f.sub v fl y) f.elem false fl x) (k := 3) (l := if null then [] else pThings t.l) (fun x _ => pValue_len h10)
      omega
  · rw [if_neg h11, pField_eq]
    unfold pFieldOf
    simp only
    rw [if_neg h11]
    by_cases h10 : f.kind = 10
    · rw [if_pos h10, Nat.add_mul]
      have := hpart t
      by_cases hn : 0 ≤ f.nul
      · rw [if_pos ⟨h10, hn⟩]
        split
        · rw [pFixed_length]; omega
        · rw [List.length_append, pFixed_length]; omega
      · rw [if_neg (fun h => hn h.2), h10]
        have e1 : pValue (fun y => pPart f.sub v fl y) 10 (pNull f v t) fl t = pPart f.sub v fl t := rfl
        rw [e1]
        omega
    · rw [if_neg h10, if_neg (fun h => h10 h.1)]
      exact pValue_len h10

mutual
theorem pField_len (v : Int) (fl : Bool) : ∀ (f : PF), f.plain = true → ∀ t : PT, (pField f v fl t).length ≤ kF f * t.wt
  | .mk k fr to nul g d e sub, hpl, t => by
    have hsub : PF.plains sub = true := PF.plain_sub hpl
    have hg : ∀ f ∈ sub, f.tag < 0 := fun f hf => PF.plain_tag (PF.plains_mem hsub f hf)
    refine pField_len_step (f := .mk k fr to nul g d e sub) (fun t => ?_) t
    show (pPart sub v fl t).length ≤ kPart sub * t.wt
    have h1 := pPlain_len v fl sub hsub t 0
    have h2 := tagsWt_unknown sub t.u
    have h3 := pTags_len (pUnknown sub t.u)
    have h4 := pUv_length (pUnknown sub t.u).length
    have h5 : 6 + tagsWt t.u ≤ t.wt := by rw [PT.wt_eq]; omega
    rw [pPart_plain hg, kPart_eq, Nat.add_mul, List.length_append]
    split
    · rw [List.length_append]; omega
    · simp only [List.length_nil]; omega
theorem pPlain_len (v : Int) (fl : Bool) : ∀ (fs : List PF), PF.plains fs = true → ∀ (t : PT) (i : Nat), (pPlain fs v fl t i).length ≤ kPlain fs * t.wt
  | [], _, t, i => by simp [pPlain]
  | f :: r, hpl, t, i => by
    simp only [PF.plains, Bool.and_eq_true] at hpl
    have h1 := pField_len v fl f hpl.1 (pAt t i)
    have h2 := pPlain_len v fl r hpl.2 t (i + 1)
    have h3 := Nat.mul_le_mul_left (kF f) (wt_at t i)
    rw [pPlain_cons, List.length_append, kPlain, Nat.add_mul]
    unfold pOne
    split
    · omega
    · simp only [List.length_nil]; omega
end

theorem pWrite_len {fs : List PF} (hpl : PF.plains fs = true) (x v : Int) (t : PT) : (pWrite fs x v t).length ≤ kPart fs * t.wt := by
  have hg : ∀ f ∈ fs, f.tag < 0 := fun f hf => PF.plain_tag (PF.plains_mem hpl f hf)
  have h1 := pPlain_len v (pFlex x v) fs hpl t 0
  have h2 := tagsWt_unknown fs t.u
  have h3 := pTags_len (pUnknown fs t.u)
  have h4 := pUv_length (pUnknown fs t.u).length
  have h5 : 6 + tagsWt t.u ≤ t.wt := by rw [PT.wt_eq]; omega
  unfold pWrite
  rw [pPart_plain hg, kPart_eq, Nat.add_mul, List.length_append]
  split
  · rw [List.length_append]; omega
  · simp only [List.length_nil]; omega
end Go.Kf
/- The laws that what is written is told as it was. -/
namespace Go.Kf
open Go

def tTellLaw (c : Nums) (s : SN) (fMax fMsg fVer fTell fGot : Nat) : Tr :=
  .op (.box c.sTree (.tmp 1)) none [] <| .op (.load c.sTree (.tmp 2)) none [] <| .op (callOp s.fits1 [.tmp 3]) none [] <| .op (.unOp .not c.tBool (.tmp 4)) none [] <|
  .cond (.tmp 5) (.ret [(.const (.bool true), none)]) <| .op (callOp fMax []) none [] <| .op (.binOp .lss c.tInt (.tmp 6) (.const (.int .i64 0)) c.tInt) none [] <|
  .cond (.tmp 7) (.ret [(.const (.bool false), none)]) <| .op (callOp fMsg []) none [] <| .op (callOp fVer [.tmp 0, .tmp 6]) none [] <| .op (.alloc s.msg) none [] <| .op (.store s.msg (.tmp 10) (.tmp 8)) none [] <|
  .op (.load s.msg (.tmp 10)) none [] <| .op (.load c.sTree (.tmp 2)) none [] <| .op (callOp s.write [.tmp 12, .tmp 9, .tmp 13]) none [] <| .op (callOp fTell [.tmp 9, .tmp 14]) none [] <|
  .op (.extract (.tmp 15) 0) none [] <| .op (.extract (.tmp 15) 1) none [] <| .op (.alloc c.tTree) none [] <| .op (.store c.tTree (.tmp 18) (.tmp 16)) none [] <| .draw <|
  .cond (.tmp 17) (.pur (.fieldAddr s.msg (.tmp 10) 0) none <| .lok (.load s.fields (.tmp 20)) none <| .lok (.load s.msg (.tmp 10)) none <| .lok (.load c.sTree (.tmp 2)) none <| .lok (.load c.tTree (.tmp 18)) none <|
    .op (callOp s.flex [.tmp 22, .tmp 9]) none [(.load c.tTree (.tmp 18), 24), (.load c.sTree (.tmp 2), 23), (.load s.fields (.tmp 20), 21)] <|
    .op (callOp fGot [.tmp 24]) none [(.load c.sTree (.tmp 2), 23), (.load s.fields (.tmp 20), 21)] <|
    .op (callOp s.told [.tmp 21, .tmp 9, .tmp 25, .tmp 23, .tmp 26]) none [] <| .ret [(.tmp 27, none)]) (.ret [(.const (.bool false), none)])

section
variable {P : Program} {c : Nums} {s : SN} {w : World}

theorem DataIn.of_own {v : Value} {l : List UInt8} (h : Own w v 1 l.length (bcells l)) : DataIn w v l := by
  rcases h.2 with ⟨rfl, h0⟩ | ⟨b, cap, spare, rfl, hh, hc, _, _⟩
  · exact .inl ⟨rfl, List.eq_nil_of_length_eq_zero h0⟩
  · refine .inr ⟨_, cap, rfl, fun i hi => ?_⟩
    rw [addr_add, Nat.zero_add]
    refine hh.cell ?_
    rw [List.getElem?_append_left (by rw [bcells_length]; exact hi)]
    simp [bcells, hi]

theorem FieldsV.keepSmall {w' : World} {b : Nat} {ds : List Value} (hb : Has w b ds) (hs : ds.length < 8) (hk : Keeps [b] w w') {fs : List PF} {v : Value} (h : FieldsV w fs v) : FieldsV w' fs v := by
  obtain ⟨cs, h1, h2⟩ := h
  exact ⟨cs, h1.keepSmall hb hs hk, FieldsC.keepSmall hb hs hk fs cs h2⟩

theorem tellLaw_gives {f fMax fMsg fVer fTell fGot n m : Nat} {fs : List PF} {x : Int} {e0 : Value} {out : Nat → List UInt8 → Option PT} {t : PT} {ts : List Value} (S : SpFacts P c s) (T : SpTrees P c s) (L : TlTrees P c s) (Fi : FitTrees P c s) (K : TellFacts P c) (Z : TyFacts P c c.tTree c.tTrees c.tTagL c.tTag)
    (hT : treeIn P f noOrc [.tmp 0, .tmp 1] 2 = tTellLaw c s fMax fMsg fVer fTell fGot) (hpl : PF.plains fs = true) (hlen : fs.length < 65536)
    (hMsgZero : ∃ z, zeroTy P s.msg = some (z, 2) ∧ z.cells.toList.length = 2) (hMax : ∀ w, Gives P fMax [] w fun v w' => v = .int .i64 m ∧ Keeps [] w w') (hVer : ∀ w, Gives P fVer [.int .u8 n, .int .i64 m] w fun v w' => v = .int .i64 (n % (m + 1) : Nat) ∧ w' = w) (hMsg : MsgFn P fMsg fs x)
    (hTell : ∀ (w : World) (l : List UInt8) (data : Value), l.length ≤ 1073741824 → DataIn w data l → ErrAt w c.gErr e0 → Gives P fTell [.int .i64 (n % (m + 1) : Nat), data] w fun v w' => DoorPost w w' v (out (n % (m + 1)) l) ∧ Keeps [] w w')
    (hout : ∃ g, out (n % (m + 1)) (pWrite fs x (n % (m + 1) : Nat) t) = some g ∧ pTold fs (n % (m + 1) : Nat) (pFlex x (n % (m + 1) : Nat)) t g = true) (hle : (pWrite fs x (n % (m + 1) : Nat) t).length ≤ 1073741824)
    (hGot : ∀ x, GotOf P fGot x) (ht : TreeC w t ts) (hok : t.ok) (he : ErrAt w c.gErr e0) : Gives P f [.int .u8 n, .agg ⟨ts⟩] w fun v w' => v = .bool true ∧ Keeps [] w w' := by
  have htl := ht.len
  have tk : (ts.drop 0).take 5 = ts := by rw [List.drop_zero, List.take_of_length_le (by omega)]
  refine gives_in (ρ := en [.int .u8 n, .agg ⟨ts⟩]) S.rd.mix hT (Nat.le_refl _) rfl (by simp [opBelow]) ?_
  refine s_box rfl fun w1 h2 k1 z1 => ?_
  refine s_lok (l_loadN (b := w.heap.size) (o := 0) S.ty.agg rfl h2 (by omega)) ?_
  rw [tk]
  refine s_callx (fits1_gives S Fi (TreeC.keep k1 _ _ ht)) rfl fun u w2 ⟨⟨q, hq⟩, k2⟩ => ?_
  subst hq
  refine s_val (v_not (b := q) rfl) ?_
  refine s_cond (b := !q) rfl (fun _ => s_ret1 ⟨rfl, k1.trans k2⟩) fun _ => ?_
  refine s_callx (hMax w2) rfl fun v w3 ⟨hv, k3⟩ => ?_
  subst hv
  refine s_val (v_cmp (kk := .i64) (a := m) (b := 0) (r := false) rfl rfl (by simp [cmpOf])) ?_
  refine s_cond (b := false) rfl (fun h => by cases h) fun _ => ?_
  refine s_callx (hMsg w3) rfl fun v w4 ⟨⟨fv, hv, hfv⟩, k4⟩ => ?_
  subst hv
  refine s_callx (hVer w4) rfl fun v w5 ⟨hv, hw⟩ => ?_
  subst hw
  subst hv
  have hone : fv.oneCell' = true := by
    obtain ⟨_, h1, _⟩ := hfv
    exact h1.one
  obtain ⟨zm, hzm, hzs⟩ : ∃ z, zeroTy P s.msg = some (z, 2) ∧ z.cells.toList.length = 2 := hMsgZero
  refine s_alloc hzm fun w6 h6 k6 z6 => ?_
  refine s_storeAll (b := w5.heap.size) (old := zm.cells.toList) (cs := [fv, .int .i64 x]) S.msg rfl rfl h6 hzs (fun u hu => ?_) fun w7 h7 k7 => ?_
  · simp only [List.mem_cons, List.not_mem_nil, or_false] at hu
    rcases hu with rfl | rfl
    · exact hone
    · rfl
  have k57 : Keeps [] w5 w7 := ((k6.mono (by simp)).trans k7).less fun y hy => .inr (by simp only [List.mem_singleton] at hy; omega)
  have hfv7 : FieldsV w7 fs fv := FieldsV.keep k57 hfv
  have k07 : Keeps [] w w7 := (((k1.trans k2).trans k3).trans k4).trans k57
  have h27 : Has w7 w.heap.size ts := h2.keep (((k2.trans k3).trans k4).trans k57) (by simp)
  refine s_lok (l_loadN (b := w5.heap.size) (o := 0) S.msg rfl h7 (Nat.le_refl _)) ?_
  rw [show (([fv, Value.int .i64 x].drop 0).take 2) = [fv, .int .i64 x] from rfl]
  refine s_lok (l_loadN (b := w.heap.size) (o := 0) S.ty.agg rfl h27 (by omega)) ?_
  rw [tk]
  have hmx : (1073741824 : Nat) ≤ maxW := by decide
  refine s_callO (write_gives S T hpl hlen x (n % (m + 1) : Nat) hfv7 (TreeC.keep k07 _ _ ht) hok (Nat.le_trans hle hmx)) rfl fun u w8 hM => ⟨fun p hp => (by cases hp), ?_⟩
  have k08 := k07.trans hM.2.2
  refine s_callx (hTell w8 _ u hle (DataIn.of_own hM.1) (he.keep k08 (by simp))) rfl fun v w9 ⟨hd, k9⟩ => ?_
  obtain ⟨g, hg1, hg2⟩ := hout
  rw [hg1] at hd
  obtain ⟨cs, rfl, htr⟩ := hd
  have hcl := htr.len
  refine s_val (v_extract (vs := #[.agg ⟨cs⟩, .bool true]) rfl rfl) ?_
  refine s_val (v_extract (vs := #[.agg ⟨cs⟩, .bool true]) rfl rfl) ?_
  refine s_alloc K.zero fun wa ha ka za => ?_
  refine s_storeAll (b := w9.heap.size) (old := zeroTree) (cs := cs) (by rw [hcl]; exact Z.agg) rfl rfl ha (by rw [hcl]; rfl) htr.ones fun wb hb kb => ?_
  have k9b : Keeps [] w9 wb := ((ka.mono (by simp)).trans kb).less fun y hy => .inr (by simp only [List.mem_singleton] at hy; omega)
  show Tr.sem _ _ _ _ _ _ { wb with drawn := wb.drawn + 1 }
  have hd : Keeps [] wb { wb with drawn := wb.drawn + 1 } := keeps_drawn wb _ _
  generalize ({ wb with drawn := wb.drawn + 1 } : World) = wc at hd ⊢
  have k7c : Keeps [] w7 wc := ((hM.2.2.trans k9).trans k9b).trans hd
  have k0c := k07.trans k7c
  have h7c := h7.keep k7c (by simp)
  have h2c := h27.keep k7c (by simp)
  have hbc := hb.keep hd (by simp)
  refine s_cond (b := true) rfl (fun _ => ?_) (fun h => by cases h)
  refine p_val (v_field (b := w5.heap.size) (o := 0) S.m0 rfl) ?_
  refine l_lok (l_load1 (b := w5.heap.size) (o := 0) S.oneFields rfl h7c rfl) ?_
  refine l_lok (l_loadN (b := w5.heap.size) (o := 0) S.msg rfl h7c (Nat.le_refl _)) ?_
  rw [show (([fv, Value.int .i64 x].drop 0).take 2) = [fv, .int .i64 x] from rfl]
  refine l_lok (l_loadN (b := w.heap.size) (o := 0) S.ty.agg rfl h2c (by omega)) ?_
  rw [tk]
  refine l_lok (l_loadN (b := w9.heap.size) (o := 0) Z.agg rfl hbc (by omega)) ?_
  rw [show (cs.drop 0).take 5 = cs by rw [List.drop_zero, List.take_of_length_le (by omega)]]
  have ldT : ∀ (w' : World) (ρ : Nat → Value), Has w' w.heap.size ts → ρ 2 = ptr w.heap.size → runOp P ρ (.load c.sTree (.tmp 2)) w' = .ok (.value (.agg ⟨ts⟩)) w' := fun w' ρ hh hρ => by
    have := l_loadN (P := P) (ρ := ρ) (w := w') (x := .tmp 2) (b := w.heap.size) (o := 0) S.ty.agg hρ hh (by omega)
    rwa [tk] at this
  have ldF : ∀ (w' : World) (ρ : Nat → Value), Has w' w5.heap.size [fv, .int .i64 x] → ρ 20 = ptr w5.heap.size 0 → runOp P ρ (.load s.fields (.tmp 20)) w' = .ok (.value fv) w' := fun w' ρ hh hρ =>
    l_load1 (P := P) (ρ := ρ) (w := w') (x := .tmp 20) (b := w5.heap.size) (o := 0) S.oneFields hρ hh rfl
  refine s_call (xs := [.tmp 22, .tmp 9]) (flex_gives S L.flex fv x (n % (m + 1) : Nat)) fun u wd ⟨hu, kd⟩ => ⟨?_, ?_⟩
  · intro p hp
    simp only [List.mem_cons, List.not_mem_nil, or_false] at hp
    rcases hp with rfl | rfl | rfl
    · have := l_loadN (P := P) (ρ := en []) (w := wd) (x := .const (ptr w9.heap.size)) (b := w9.heap.size) (o := 0) Z.agg rfl (hbc.keep kd (by simp)) (by omega)
      rw [show (cs.drop 0).take 5 = cs by rw [List.drop_zero, List.take_of_length_le (by omega)]] at this
      exact this
    · exact ldT wd _ (h2c.keep kd (by simp)) rfl
    · exact ldF wd _ (h7c.keep kd (by simp)) rfl
  subst hu
  have htc : TreeAt wd (fun b => w8.heap.size ≤ b) g cs := TreeAt.keep ((k9b.trans hd).trans kd) (fun b hb => by cases hb) (fun _ h _ => h) _ _ htr
  refine s_call (xs := [.tmp 24]) (hGot g wd _ cs htc) fun u we ⟨⟨gs, hu, hgt⟩, ke⟩ => ⟨?_, ?_⟩
  · intro p hp
    simp only [List.mem_cons, List.not_mem_nil, or_false] at hp
    rcases hp with rfl | rfl
    · exact ldT we _ ((h2c.keep kd (by simp)).keep ke (by simp)) rfl
    · exact ldF we _ ((h7c.keep kd (by simp)).keep ke (by simp)) rfl
  subst hu
  have k7e := (k7c.trans kd).trans ke
  refine s_callx (told_all S T L hpl hlen we fv (n % (m + 1) : Nat) (pFlex x (n % (m + 1) : Nat)) t g ts gs (hfv7.keep k7e) (TreeC.keep (k07.trans k7e) _ _ ht) (TreeC.of_at hgt) hok) rfl fun u wf ⟨hu, kf⟩ => ?_
  rw [hg2] at hu
  exact s_ret1 ⟨hu, (k07.trans k7e).trans kf⟩
end
end Go.Kf
/- A law of an octet and a tree: its row. -/
namespace Go.Kf
open Go Go.ChangeShapes Go.WideShapes Go.RowKit

theorem below_keeps {w w' : World} (h : Keeps [] w w') : Below w.heap.size w w' := ⟨h.os, h.tape, h.output, h.size, fun k hk => h.block k hk (by simp)⟩

theorem law_rowT {H : Type} {enc : TypeId × Value → H} {P : Program} {c : Nums} {sn : SN} {fn : Func} {s : ChangeSpec} {tU tB : Nat} {B : DataW H → Nat} {BA : List (DataW H) → Nat} (S : SpFacts P c sn) (T : RowTypes P c) (L : BulkLaws B BA)
    (hp : fn.params = #[tU, c.sTree]) (hr : fn.resultTypes = #[tB]) (hu : P.underlying tU = some (.int .u8)) (hb : P.underlying tB = some .bool)
    (hs : ∀ (H : Type) (d1 d2 : DataW H), s.fn H [d1, d2] = { results := [.lit (.bool true)], args := [d1, d2] }) (hvs : s.vars = []) {W : World} {base : Nat} {args : Array Value} {ds gs : List (DataW H)} {before : List MemPlace}
    (hval : ∀ (j : Nat) t v, fn.params[j]? = some t → args[j]? = some v → Value.okWide P W .any base t v) (hW : DataW.Whole enc P fn.params.toList s.vars false W args.toList ds gs before) (hB : BA (ds ++ gs) ≤ 1048576) :
    ∃ (n : Nat) (t : PT) (ts : List Value), n < 256 ∧ args = #[.int .u8 n, .agg ⟨ts⟩] ∧ TreeC W t ts ∧ t.ok ∧ t.wt ≤ 1048576 ∧ ∀ W', Keeps [] W W' → s.post enc P fn false true false false W args (.bool true) W' := by
  have hlt := hW.lt
  have hW0 := hW
  obtain ⟨p, q, hA, hV, rfl, hfz, hnd⟩ := hW
  rw [hvs] at hV
  obtain ⟨rfl, rfl⟩ := trodVars_none hV
  rw [hp] at hA hval
  obtain ⟨v0, vs0, d0, ds0, p0, q0, hargs, rfl, rfl, h0, r0⟩ := trodAll_cons hA
  obtain ⟨v1, vs1, d1, ds1, p1, q1, rfl, rfl, rfl, h1, r1⟩ := trodAll_cons r0
  obtain ⟨rfl, rfl, rfl⟩ := trodAll_nil r1
  obtain rfl : args = #[v0, v1] := by cases args; simp_all
  obtain ⟨n0, rfl, rfl, rfl, hw0⟩ := open_int hu (hval 0 tU v0 rfl rfl) h0
  obtain ⟨n, rfl, hn⟩ := lit_u8 hw0
  obtain ⟨fs, hfs, _⟩ := struct_of T.tree
  obtain ⟨cs, rfl, _⟩ := okWide_struct hfs (hval 1 c.sTree v1 rfl rfl)
  simp only [List.append_nil, L.cons, L.nil] at hB
  obtain ⟨fuel, hf⟩ := id h1
  obtain ⟨ts⟩ := cs
  obtain ⟨t, ht, hok, hwt⟩ := open_tree S T L fuel (x := (d1, p1)) hf (by show B d1 < _; omega)
  have hwt : t.wt ≤ B d1 := hwt
  refine ⟨n, t, ts, hn, rfl, ht, hok, by omega, fun W' hk => ?_⟩
  refine ⟨_, _, _, [], [] ++ (p1 ++ []), [], hW0, ?_, ?_, ?_, ?_, fun h => by cases h⟩
  · rw [List.append_nil, hs, hr]
    exact trodAll_cons_mk (shut_bool hb _) trodAll_mk0
  · rw [List.append_nil, hs, hp]
    refine trodAll_cons_mk ⟨1, trod_int_mk 0 hu hw0⟩ (trodAll_cons_mk (Below.trod T.laid T.rr T.row h1 (below_keeps hk) fun x hx => hlt x (by simpa using hx)) trodAll_mk0)
  · rw [hvs, List.append_nil, hs]; rfl
  · exact World.keptBut_mono (fun p hp => ⟨hp, .inr (.inl (by simpa using hp))⟩) (keptBut_keeps hk _)

theorem open_data {H : Type} {enc : TypeId × Value → H} {P : Program} {c : Nums} {sn : SN} {w : World} (S : SpFacts P c sn) (T : RowTypes P c) {fuel : Nat} {a0 : Option Addr} {len0 cap0 : Nat} {x : DataW H × List MemPlace} (h : DataW.trod enc P w 0 (fun _ => true) true fuel c.tBytes [.slice a0 len0 cap0] = some x) :
    ∃ l : List UInt8, DataIn w (.slice a0 len0 cap0) l := by
  have hc := T.cells
  simp only [List.cons.injEq] at hc
  rcases open_ints S.rd.bytes S.rd.u8 hc.2.2.2.2.2.2.1 h with ⟨hcs, _⟩ | ⟨a, len, cap, zs, hcs, _, hle, _, hzl, _, hcell, hwf⟩
  · exact ⟨[], .inl ⟨by simpa using hcs, rfl⟩⟩
  · have hv : a0 = some a ∧ len0 = len ∧ cap0 = cap := by simpa using hcs
    obtain ⟨rfl, rfl, rfl⟩ := hv
    simp only [if_true] at hzl
    have hz8 : ∀ z ∈ zs, ∃ m : Nat, z = m ∧ m < 256 := fun z hz => lit_u8 (hwf z hz)
    refine ⟨(zs.take len0).map fun z => UInt8.ofNat z.toNat, .inr ⟨a, cap0, ?_, ?_⟩⟩
    · simp only [List.length_map, List.length_take]
      rw [Nat.min_eq_left (by omega)]
    · intro i hi
      simp only [List.length_map, List.length_take] at hi
      have hi' : i < zs.length := by omega
      rw [hcell i hi']
      obtain ⟨m, hm, hlt⟩ := hz8 zs[i] (List.getElem_mem _)
      simp only [List.getElem_map, List.getElem_take, List.getD_eq_getElem?_getD, List.getElem?_eq_getElem hi', Option.getD_some, hm, Int.toNat_natCast]
      congr 2
      have : (UInt8.ofNat m).toNat = m := by rw [UInt8.toNat_ofNat']; omega
      rw [this]

/-- A law of an octet, octets and a tree. -/
theorem law_rowB {H : Type} {enc : TypeId × Value → H} {P : Program} {c : Nums} {sn : SN} {fn : Func} {s : ChangeSpec} {tU tB : Nat} {B : DataW H → Nat} {BA : List (DataW H) → Nat} (S : SpFacts P c sn) (T : RowTypes P c) (L : BulkLaws B BA) (hrb : P.readableRec c.tBytes = true) (hrw : c.tBytes < P.types.size)
    (hp : fn.params = #[tU, c.tBytes, c.sTree]) (hr : fn.resultTypes = #[tB]) (hu : P.underlying tU = some (.int .u8)) (hb : P.underlying tB = some .bool)
    (hs : ∀ (H : Type) (d1 d2 d3 : DataW H), s.fn H [d1, d2, d3] = { results := [.lit (.bool true)], args := [d1, d2, d3] }) (hvs : s.vars = []) {W : World} {base : Nat} {args : Array Value} {ds gs : List (DataW H)} {before : List MemPlace}
    (hval : ∀ (j : Nat) t v, fn.params[j]? = some t → args[j]? = some v → Value.okWide P W .any base t v) (hW : DataW.Whole enc P fn.params.toList s.vars false W args.toList ds gs before) (hB : BA (ds ++ gs) ≤ 1048576) :
    ∃ (n : Nat) (dst : Value) (l : List UInt8) (t : PT) (ts : List Value), n < 256 ∧ args = #[.int .u8 n, dst, .agg ⟨ts⟩] ∧ DataIn W dst l ∧ TreeC W t ts ∧ t.ok ∧ t.wt ≤ 1048576 ∧ ∀ W', Keeps [] W W' → s.post enc P fn false true false false W args (.bool true) W' := by
  have hlt := hW.lt
  have hW0 := hW
  obtain ⟨p, q, hA, hV, rfl, hfz, hnd⟩ := hW
  rw [hvs] at hV
  obtain ⟨rfl, rfl⟩ := trodVars_none hV
  rw [hp] at hA hval
  obtain ⟨v0, vs0, d0, ds0, p0, q0, hargs, rfl, rfl, h0, r0⟩ := trodAll_cons hA
  obtain ⟨v1, vs1, d1, ds1, p1, q1, rfl, rfl, rfl, h1, r1⟩ := trodAll_cons r0
  obtain ⟨v2, vs2, d2, ds2, p2, q2, rfl, rfl, rfl, h2, r2⟩ := trodAll_cons r1
  obtain ⟨rfl, rfl, rfl⟩ := trodAll_nil r2
  obtain rfl : args = #[v0, v1, v2] := by cases args; simp_all
  obtain ⟨n0, rfl, rfl, rfl, hw0⟩ := open_int hu (hval 0 tU v0 rfl rfl) h0
  obtain ⟨n, rfl, hn⟩ := lit_u8 hw0
  obtain ⟨a0, len0, cap0, rfl⟩ := okWide_slice S.rd.bytes (hval 1 c.tBytes v1 rfl rfl)
  obtain ⟨fs, hfs, _⟩ := struct_of T.tree
  obtain ⟨cs, rfl, _⟩ := okWide_struct hfs (hval 2 c.sTree v2 rfl rfl)
  simp only [List.append_nil, L.cons, L.nil] at hB
  obtain ⟨fuel1, hf1⟩ := id h1
  obtain ⟨l, hl⟩ := open_data S T (x := (d1, p1)) hf1
  obtain ⟨fuel, hf⟩ := id h2
  obtain ⟨ts⟩ := cs
  obtain ⟨t, ht, hok, hwt⟩ := open_tree S T L fuel (x := (d2, p2)) hf (by show B d2 < _; omega)
  have hwt : t.wt ≤ B d2 := hwt
  refine ⟨n, _, l, t, ts, hn, rfl, hl, ht, hok, by omega, fun W' hk => ?_⟩
  refine ⟨_, _, _, [], [] ++ (p1 ++ (p2 ++ [])), [], hW0, ?_, ?_, ?_, ?_, fun h => by cases h⟩
  · rw [List.append_nil, hs, hr]
    exact trodAll_cons_mk (shut_bool hb _) trodAll_mk0
  · rw [List.append_nil, hs, hp]
    refine trodAll_cons_mk ⟨1, trod_int_mk 0 hu hw0⟩ (trodAll_cons_mk (Below.trod T.laid hrb hrw h1 (below_keeps hk) fun x hx => hlt x (by simp [hx])) (trodAll_cons_mk (Below.trod T.laid T.rr T.row h2 (below_keeps hk) fun x hx => hlt x (by simp [hx])) trodAll_mk0))
  · rw [hvs, List.append_nil, hs]; rfl
  · exact World.keptBut_mono (fun p hp => ⟨hp, .inr (.inl (by simpa using hp))⟩) (keptBut_keeps hk _)
end Go.Kf
/- The laws of telling: all of the library that they want. -/
