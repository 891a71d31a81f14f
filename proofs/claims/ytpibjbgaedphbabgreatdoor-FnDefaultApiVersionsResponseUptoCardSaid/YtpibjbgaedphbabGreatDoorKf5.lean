/- The library for this proof, part 5: trees of function bodies, and what the package's functions do. -/
import Derived.Test.YtpibjbgaedphbabGreatDoorKf4


namespace Go.Kf

open Go

def UsualWOf (P : Program) (s : SN) (f : PF) : Prop := ∀ (w : World) (t : PT) (cs ts : List Value), FieldC w f cs → TreeC w t ts → t.ok → Yields P s.usual [.agg ⟨cs⟩, .agg ⟨ts⟩] w (.bool (pUsual f t))

theorem encK_len : ∀ l : List (Int × List UInt8), l.length ≤ (encTg l).length
  | [] => Nat.le_refl _
  | p :: l => by
    have h1 := encK_len l
    have h2 : 0 < (pUv p.1.toNat).length := pUvN_pos 10 _
    have e : encTg (p :: l) = pTag1 p.1.toNat p.2 ++ encTg l := by simp [encTg]
    rw [e, List.length_append, pTag1_length, List.length_cons]
    omega

theorem pPart_tags (fs : List PF) (v : Int) (fl : Bool) (t : PT) : pPart fs v fl t = pPlain fs v fl t 0 ++ if fl then pUv ((knownTo (pTagged fs v fl t 0) (pKnown fs 0)).length + (pUnknown fs t.u).length) ++ (encTg (knownTo (pTagged fs v fl t 0) (pKnown fs 0)) ++ pTags (pUnknown fs t.u)) else [] := by
  unfold pPart pEnd
  cases fl <;> rfl

section

variable {P : Program} {c : Nums} {s : SN} {w : World}

theorem partT_step (S : SpFacts P c s) (Q : Smalls P s) (hK : treeIn P s.known noOrc [.tmp 0] 1 = tKnown c s) (hT : treeIn P s.part noOrc [.tmp 0, .tmp 1, .tmp 2, .tmp 3] 4 = tPart c s) {fs : List PF} (hp : ∀ f ∈ fs, f.tag < 2147483647) (hlen : fs.length < 2 ^ 31) (hF : ∀ f ∈ fs, FieldOf P s f) (hUs : ∀ f ∈ fs, 0 ≤ f.tag → UsualWOf P s f) (hU : UnknownOf P s fs) : PartOf P s fs := by
  intro w fv v fl t ts hfv ht hok hl
  rw [pPart_tags] at hl ⊢
  have htc := ht
  have hfv0 := hfv
  obtain ⟨fcs, hr, hfc⟩ := hfv
  obtain ⟨sv, lv, uv, lcs, ucs, rfl, h1, h2, h3, h4, h5⟩ := ht.cells
  rw [List.length_append] at hl
  refine gives_in (ρ := en [_, _, _, _]) S.rd.mix hT (Nat.le_refl _) rfl (by simp [opBelow]) ?_
  refine s_box rfl fun w1 hx1 k1 z1 => ?_
  obtain ⟨a, cp, e⟩ := hr.form
  refine s_val (v_len (a := a) (l := fs.length) (c := cp) S.sl e) ?_
  refine s_countV (n := 6) (q := 5) (kk := .i64) (m := fs.length) (ri := [.const (.slice none 0 0)]) (Γ := []) (fun j vr w' => ∃ acc, vr = [acc] ∧ MadeO w1 w' acc (pPlain (fs.take j) v fl t 0)) (by omega) rfl ⟨_, rfl, by rw [List.take_zero, pPlain]; exact MadeO.nil w1⟩ ?_ ?_
  · rintro j hj w2 vr ⟨acc, rfl, hA⟩ hvr J hJ
    have hj' : j < fs.length := by omega
    have k02 := k1.trans hA.2.2
    refine s_eachF (fv := fv) (fs := fs) (j := j) S (hfv0.keep k02) rfl rfl hj' fun w3 a3 b cs hh hf k3 hb => ?_
    have hf0 := hf
    obtain ⟨sv3, rfl, _⟩ := hf.cells
    have k13 := hA.2.2.trans k3
    have hle := pPlain_le fs (j + 1) v fl t
    rw [pPlain_take v fl t 0 hj', Nat.zero_add, List.length_append] at hle
    refine s_fl S.f4 S.oneInt rfl rfl hh rfl ?_
    refine s_val (v_cmp (kk := .i64) (a := (fs[j]'hj').tag) (b := 0) (r := decide ((fs[j]'hj').tag < 0)) rfl rfl rfl) ?_
    refine s_cond (b := decide ((fs[j]'hj').tag < 0)) rfl (fun hb1 => ?_) fun hb1 => ?hneg
    case hneg =>
      refine s_val (v_arith (kk := .i64) (a := j) (b := 1) (r := ((j + 1 : Nat) : Int)) rfl rfl ?_) ?_
      · simp only [arithOf, Option.some.injEq]; rw [IntKind.wrap_i64]; omega
      refine ⟨J, rfl, hJ [_] _ rfl ⟨acc, rfl, ?_⟩⟩
      have hone : pOne fs[j] v fl (pAt t j) = [] := by
        unfold pOne
        rw [if_neg (by rw [hb1, Bool.false_and]; simp)]
      rw [pPlain_take v fl t 0 hj', Nat.zero_add, hone, List.append_nil]
      exact hA.more k3
    refine s_lok (l_loadN (b := b) (o := 0) S.agg rfl hh (show 0 + 8 ≤ 8 by omega)) ?_
    refine s_callx (Q.has w3 fs[j] _ v hf0) rfl fun u w4 ⟨hu, k4⟩ => ?_
    subst hu
    have hf4 := FieldC.keep k4 _ _ hf0
    have hh4 := hh.keep k4 (by simp)
    have hA4 := (hA.more k3).more k4
    have k14 := k13.trans k4
    refine ⟨rfl, fun vs w' => ∃ acc', vs = [acc'] ∧ MadeO w1 w' acc' (pPlain (fs.take (j + 1)) v fl t 0), ?_, ?_⟩
    · refine s_cond (b := pHas fs[j] v) rfl (fun hb2 => ?_) fun hb2 => ⟨_, rfl, acc, rfl, ?_⟩
      · show Tr.sem _ _ _ _ _ _ { w4 with drawn := w4.drawn + 1 }
        have hd : Keeps [] w4 { w4 with drawn := w4.drawn + 1 } := keeps_drawn w4 _ _
        have hA5 := hA4.drawn (w4.drawn + 1)
        generalize ({ w4 with drawn := w4.drawn + 1 } : World) = w5 at hd hA5 ⊢
        have hh5 := hh4.keep hd (by simp)
        have hx5 := (hx1.keep k14 (by simp)).keep hd (by simp)
        have k15 := k14.trans hd
        refine l_lok (l_loadN (b := b) (o := 0) S.agg rfl hh5 (show 0 + 8 ≤ 8 by omega)) ?_
        refine l_lok (l_loadN (b := w.heap.size) (o := 0) S.ty.agg rfl hx5 (show 0 + 5 ≤ 5 by omega)) ?_
        refine s_call (xs := [.tmp 19, .tmp 7]) (Q.at_ w5 t _ j (TreeC.keep (k1.trans k15) _ _ htc)) fun u w6 ⟨k6, tcs, hu, htj⟩ => ⟨?_, ?_⟩
        · intro p hp
          simp only [List.mem_singleton] at hp
          subst hp
          exact l_loadN (b := b) (o := 0) S.agg rfl (hh5.keep k6 (by simp)) (show 0 + 8 ≤ 8 by omega)
        subst hu
        have hone : pOne fs[j] v fl (pAt t j) = pField fs[j] v fl (pAt t j) := by
          unfold pOne
          rw [if_pos (by rw [Bool.and_eq_true]; exact ⟨hb1, hb2⟩)]
        rw [hone] at hle
        refine s_callO (hF fs[j] (List.getElem_mem hj') w6 v fl (pAt t j) _ tcs (FieldC.keep (hd.trans k6) _ _ hf4) htj (hok.at j) (by omega)) rfl fun v3 w7 hM7 => ⟨fun p hp => (by cases hp), ?_⟩
        refine s_appendO (v := acc) (u := v3) (l2 := pField fs[j] v fl (pAt t j)) S rfl rfl ((hA5.more k6).more hM7.2.2) (hM7.1.reads.src S.rd.bytes (bcells_one _)) (by rw [List.length_append]; unfold maxW at hl; omega) fun v4 w8 hM8 _ => ⟨fun p hp => (by cases hp), ?_⟩
        refine ⟨_, rfl, v4, rfl, ?_⟩
        rw [pPlain_take v fl t 0 hj', Nat.zero_add, hone]
        exact hM8
      · have hone : pOne fs[j] v fl (pAt t j) = [] := by
          unfold pOne
          rw [if_neg (by rw [hb2, Bool.and_false]; simp)]
        rw [pPlain_take v fl t 0 hj', Nat.zero_add, hone, List.append_nil]
        exact hA4
    · rintro vs w' _ ⟨acc', rfl, hA'⟩
      refine s_val (v_arith (kk := .i64) (a := j) (b := 1) (r := ((j + 1 : Nat) : Int)) rfl rfl ?_) ?_
      · simp only [arithOf, Option.some.injEq]; rw [IntKind.wrap_i64]; omega
      exact ⟨J, rfl, hJ [_] _ rfl ⟨acc', rfl, hA'⟩⟩
  · rintro w2 vr J ⟨acc, rfl, hA⟩ hvr
    rw [Int.toNat_natCast, List.take_length] at hA
    refine s_val (v_not (b := fl) rfl) ?_
    refine s_cond (b := !fl) rfl (fun hb => ?_) fun hb => ?_
    · have : fl = false := by simpa using hb
      subst this
      refine s_ret1 ?_
      rw [if_neg (by simp), List.append_nil]
      exact hA.under k1
    · have : fl = true := by simpa using hb
      subst this
      simp only [if_true] at hl ⊢
      have k02 := k1.trans hA.2.2
      have k03 := k02.trans (Keeps.refl (w := w2))
      refine s_callx (known_gives S hK hp (hfv0.keep k02) hlen) rfl fun u w3 ⟨hu, k3⟩ => ?_
      subst hu
      have hKlt := pKnown_lt fs 0 hp (by decide)
      generalize pKnown fs 0 = K at hl hKlt ⊢
      refine s_val (v_conv (k1 := .u32) (k2 := .i64) (a := (K : Nat)) S.rd.u32 S.rd.int rfl) ?_
      rw [show IntKind.i64.wrap ((K : Nat) : Int) = (K : Nat) by rw [IntKind.wrap_i64]; omega]
      have k13 := hA.2.2.trans k3
      have kw3 : Keeps [] w w3 := k1.trans k13
      generalize hTG : pTagged fs v true t 0 = TG at hl ⊢
      have hlen0 := encK_len (knownTo TG K)
      generalize hun : pUnknown fs t.u = un at hl ⊢
      simp only [List.length_append] at hl
      refine s_countV (n := 12) (q := 11) (kk := .i64) (m := K) (ri := [.const (.slice none 0 0), .const (.int .i64 0)]) (Γ := [J]) (fun k vr w' => ∃ acc', vr = [acc', .int .i64 ((knownTo TG k).length : Nat)] ∧ MadeO w3 w' acc' (encTg (knownTo TG k))) (by omega) rfl ⟨.slice none 0 0, rfl, MadeO.nil w3⟩ ?_ ?_
      · rintro k hk w4 vr ⟨acc', rfl, hB⟩ hvr Jo hJo
        have hk' : k < K := by omega
        have hleK := knownTo_le TG (k := k + 1) (K := K) (by omega)
        have hnK := encK_len (knownTo TG (k + 1))
        rw [knownTo_succ, encK_append, List.length_append] at hleK
        rw [knownTo_succ, encK_append, List.length_append, List.length_append] at hnK
        refine s_val (v_len (a := a) (l := fs.length) (c := cp) S.sl e) ?_
        refine s_countV (n := 17) (q := 16) (kk := .i64) (m := fs.length) (ri := [.tmp 12, .tmp 13]) (Γ := [J, Jo]) (fun j vr w' => ∃ acc2, vr = [acc2, .int .i64 ((knownTo TG k ++ (pTagged (fs.take j) v true t 0).filter fun p => p.1 == (k : Int)).length : Nat)] ∧ MadeO w3 w' acc2 (encTg (knownTo TG k ++ (pTagged (fs.take j) v true t 0).filter fun p => p.1 == (k : Int)))) (by omega) rfl
          ⟨acc', by rw [List.take_zero, pTagged, List.filter_nil, List.append_nil]; rfl, by rw [List.take_zero, pTagged, List.filter_nil, List.append_nil]; exact hB⟩ ?_ ?_
        · rintro j hj w5 vr ⟨acc2, rfl, hC⟩ hvr Ji hJi
          have hj' : j < fs.length := by omega
          have kw5 : Keeps [] w w5 := kw3.trans hC.2.2
          -- what the step adds
          have htk := pTagged_take v true t (fs := fs) 0 hj'
          rw [Nat.zero_add] at htk
          obtain ⟨rest, hrest⟩ := pTagged_prefix v true t fs (j + 1)
          rw [hTG] at hrest
          have hbnd : (encTg ((pTagged (fs.take (j + 1)) v true t 0).filter fun p => p.1 == (k : Int))).length ≤ (encTg (TG.filter fun p => p.1 == (k : Int))).length := by
            rw [hrest, List.filter_append, encK_append, List.length_append]; omega
          have hbndn : ((pTagged (fs.take (j + 1)) v true t 0).filter fun p => p.1 == (k : Int)).length ≤ (TG.filter fun p => p.1 == (k : Int)).length := by
            rw [hrest, List.filter_append, List.length_append]; omega
          rw [htk, List.filter_append, encK_append, List.length_append] at hbnd
          rw [htk, List.filter_append, List.length_append] at hbndn
          refine s_eachF (fv := fv) (fs := fs) (j := j) S (hfv0.keep kw5) rfl rfl hj' fun w6 a6 b cs hh hf k6 hb => ?_
          have hf0 := hf
          obtain ⟨sv3, rfl, _⟩ := hf.cells
          show Tr.sem _ _ _ _ _ _ { w6 with drawn := w6.drawn + 1 }
          have hd : Keeps [] w6 { w6 with drawn := w6.drawn + 1 } := keeps_drawn w6 _ _
          generalize ({ w6 with drawn := w6.drawn + 1 } : World) = w7 at hd ⊢
          have hh7 := hh.keep hd (by simp)
          have k57 := k6.trans hd
          have hC7 := (hC.more k6).more hd
          have kw7 := kw5.trans k57
          have hf7 := FieldC.keep hd _ _ hf0
          have hx7 := hx1.keep ((hA.2.2.trans k3).trans (hC.2.2.trans k57)) (by simp)
          refine p_fl S.f4 S.oneInt rfl rfl hh7 rfl ?_
          refine p_val (v_cmp (kk := .i64) (a := (fs[j]'hj').tag) (b := (k : Int)) (r := (fs[j]'hj').tag == (k : Int)) rfl rfl rfl) ?_
          refine s_cond (b := (fs[j]'hj').tag == (k : Int)) rfl (fun hb1 => ?_) fun hb1 => ?_
          · have hkt : (fs[j]'hj').tag = (k : Int) := by simpa using hb1
            have ldF : ∀ (w' : World) (ρ : Nat → Value), Keeps [] w7 w' → ρ 23 = ptr b → runOp P ρ (.load s.field (.tmp 23)) w' = .ok (.value (.agg ⟨[.int .i64 (fs[j]'hj').kind, .int .i64 (fs[j]'hj').fr, .int .i64 (fs[j]'hj').to, .int .i64 (fs[j]'hj').nul, .int .i64 (fs[j]'hj').tag, .int .i64 (fs[j]'hj').dflt, .int .i64 (fs[j]'hj').elem, sv3]⟩)) w' := fun w' ρ kk hρ => l_loadN (P := P) (ρ := ρ) (w := w') (x := .tmp 23) (b := b) (o := 0) S.agg hρ (hh7.keep kk (by simp)) (show 0 + 8 ≤ 8 by omega)
            have ldG : ∀ (w' : World) (ρ : Nat → Value), Keeps [] w7 w' → ρ 25 = ptr b (0 + 4) → runOp P ρ (.load c.tInt (.tmp 25)) w' = .ok (.value (.int .i64 (fs[j]'hj').tag)) w' := fun w' ρ kk hρ => l_load1 (P := P) (ρ := ρ) (w := w') (x := .tmp 25) (b := b) (o := 0 + 4) S.oneInt hρ (hh7.keep kk (by simp)) rfl
            refine l_lok (ldF w7 _ .refl rfl) ?_
            refine l_lok (l_loadN (b := w.heap.size) (o := 0) S.ty.agg rfl hx7 (show 0 + 5 ≤ 5 by omega)) ?_
            refine s_call (xs := [.tmp 29, .tmp 19]) (Q.at_ w7 t _ j (TreeC.keep kw7 _ _ htc)) fun u w8 ⟨k8, tcs, hu, htj⟩ => ⟨?_, ?_⟩
            · intro p hp
              simp only [List.mem_cons, List.not_mem_nil, or_false] at hp
              rcases hp with rfl | rfl
              · exact ldF w8 _ k8 rfl
              · exact ldG w8 _ k8 rfl
            subst hu
            refine s_call (xs := [.tmp 28, .tmp 30]) (hUs fs[j] (List.getElem_mem hj') (by omega) w8 (pAt t j) _ tcs (FieldC.keep k8 _ _ hf7) htj (hok.at j)) fun u w9 ⟨hu, k9⟩ => ⟨?_, ?_⟩
            · intro p hp
              simp only [List.mem_singleton] at hp
              subst hp
              exact ldG w9 _ (k8.trans k9) rfl
            subst hu
            have k79 := k8.trans k9
            have hC9 := hC7.more k79
            refine p_val (v_not (b := pUsual fs[j] (pAt t j)) rfl) ?_
            refine ⟨rfl, fun vs w' => ∃ acc3, vs = [acc3, .int .i64 ((knownTo TG k ++ (pTagged (fs.take (j + 1)) v true t 0).filter fun p => p.1 == (k : Int)).length : Nat)] ∧ MadeO w3 w' acc3 (encTg (knownTo TG k ++ (pTagged (fs.take (j + 1)) v true t 0).filter fun p => p.1 == (k : Int))), ?_, ?_⟩
            · refine s_cond (b := !pUsual fs[j] (pAt t j)) rfl (fun hb2 => ?_) fun hb2 => ⟨_, rfl, acc2, ?_, ?_⟩
              · have husl : pUsual fs[j] (pAt t j) = false := by simpa using hb2
                have hone : (pTag1Of fs[j] v true (pAt t j)).filter (fun p => p.1 == (k : Int)) = [((k : Int), pField fs[j] v true (pAt t j))] := by
                  unfold pTag1Of
                  rw [if_pos ⟨by omega, husl⟩, hkt]
                  simp
                rw [hone] at hbnd hbndn
                have e1 : encTg [((k : Int), pField fs[j] v true (pAt t j))] = pUv k ++ pUv (pField fs[j] v true (pAt t j)).length ++ pField fs[j] v true (pAt t j) := by simp [encTg, pTag1]
                rw [e1] at hbnd
                simp only [List.length_append, List.length_cons, List.length_nil] at hbnd hbndn hnK hleK
                show Tr.sem _ _ _ _ _ _ { w9 with drawn := w9.drawn + 1 }
                have hd2 : Keeps [] w9 { w9 with drawn := w9.drawn + 1 } := keeps_drawn w9 _ _
                generalize ({ w9 with drawn := w9.drawn + 1 } : World) = w10 at hd2 ⊢
                have k710 := k79.trans hd2
                refine l_lok (ldF w10 _ k710 rfl) ?_
                refine l_lok (l_loadN (b := w.heap.size) (o := 0) S.ty.agg rfl (hx7.keep k710 (by simp)) (show 0 + 5 ≤ 5 by omega)) ?_
                refine s_call (xs := [.tmp 34, .tmp 19]) (Q.at_ w10 t _ j (TreeC.keep (kw7.trans k710) _ _ htc)) fun u w11 ⟨k11, tcs2, hu, htj2⟩ => ⟨?_, ?_⟩
                · intro p hp
                  simp only [List.mem_singleton] at hp
                  subst hp
                  exact ldF w11 _ (k710.trans k11) rfl
                subst hu
                refine s_callO (hF fs[j] (List.getElem_mem hj') w11 v true (pAt t j) _ tcs2 (FieldC.keep (k710.trans k11) _ _ hf7) htj2 (hok.at j) (by omega)) rfl fun v3 w12 hM12 => ⟨fun p hp => (by cases hp), ?_⟩
                refine s_val (v_conv (k1 := .i64) (k2 := .u64) (a := (k : Int)) S.rd.int S.u64 rfl) ?_
                rw [wraps_u64 _ (by omega) (by omega)]
                refine s_callO (Q.uv w12 k (by omega)) rfl fun v4 w13 hM13 => ⟨fun p hp => (by cases hp), ?_⟩
                have hC13 := ((((hC9.more hd2).more k11).more hM12.2.2).more hM13.2.2)
                refine s_appW (v := acc2) (u := v4) (e := pUv k) S rfl rfl hC13.1 (hM13.1.reads.src S.rd.bytes (bcells_one _)) (by simp only [encK_append, List.length_append]; unfold maxW at hl ⊢; omega) fun v5 w14 hp14 => ⟨fun p hp => (by cases hp), ?_⟩
                have hM14 := hC13.post hp14
                have kk14 := hp14.2.1
                have hM14w := hp14.2.2
                have hown3 : Own w14 v3 1 (pField fs[j] v true (pAt t j)).length (bcells (pField fs[j] v true (pAt t j))) := (hM12.1.keep hM13.2.2 (by simp)).keep kk14 fun b hb hb' => by
                  have h5 := hM12.2.1 b hb
                  have h6 := hC.1.lt b hb'
                  have h7 := k57.size
                  have h8 := k710.size
                  have h9 := k11.size
                  omega
                obtain ⟨a3, c3, e3⟩ := (Ro.of_reads hown3.reads).form
                refine s_val (v_len (a := a3) (l := (pField fs[j] v true (pAt t j)).length) (c := c3) S.rd.bytes e3) ?_
                refine s_val (v_conv (k1 := .i64) (k2 := .u64) (a := ((pField fs[j] v true (pAt t j)).length : Int)) S.rd.int S.u64 rfl) ?_
                rw [wraps_u64 _ (by omega) (by unfold maxW at hl; omega)]
                refine s_callO (Q.uv w14 (pField fs[j] v true (pAt t j)).length (by unfold maxW at hl; omega)) rfl fun v6 w15 hM15 => ⟨fun p hp => (by cases hp), ?_⟩
                refine s_appendO (v := v5) (u := v6) (l2 := pUv (pField fs[j] v true (pAt t j)).length) S rfl rfl (hM14.more hM15.2.2) (hM15.1.reads.src S.rd.bytes (bcells_one _)) (by simp only [encK_append, List.length_append]; unfold maxW at hl; omega) fun v7 w16 hM16 kk16 => ⟨fun p hp => (by cases hp), ?_⟩
                have hown16 : Own w16 v3 1 (pField fs[j] v true (pAt t j)).length (bcells (pField fs[j] v true (pAt t j))) := (hown3.keep hM15.2.2 (by simp)).keep kk16 fun b hb hb' => by
                  have h5 := hM12.2.1 b hb
                  have h6 := hM12.1.lt b hb
                  have h7 := hM13.2.2.size
                  rcases hM14w b hb' with h | h
                  · have h8 := hC.1.lt b h
                    have h9 := k57.size
                    have h10 := k710.size
                    have h11 := k11.size
                    omega
                  · omega
                refine s_appendO (v := v7) (u := v3) (l2 := pField fs[j] v true (pAt t j)) S rfl rfl hM16 (hown16.reads.src S.rd.bytes (bcells_one _)) (by simp only [encK_append, List.length_append]; unfold maxW at hl; omega) fun v8 w17 hM17 kk17 => ⟨fun p hp => (by cases hp), ?_⟩
                refine s_val (v_arith (kk := .i64) (a := ((knownTo TG k ++ (pTagged (fs.take j) v true t 0).filter fun p => p.1 == (k : Int)).length : Nat)) (b := 1) (r := (((knownTo TG k ++ (pTagged (fs.take j) v true t 0).filter fun p => p.1 == (k : Int)).length + 1 : Nat) : Int)) rfl rfl ?_) ?_
                · simp only [arithOf, Option.some.injEq]; rw [IntKind.wrap_i64]; unfold maxW at hl; simp only [List.length_append]; omega
                refine ⟨_, rfl, v8, ?_, ?_⟩
                · rw [htk, List.filter_append, hone, ← List.append_assoc, List.length_append (bs := [_])]
                  rfl
                · rw [htk, List.filter_append, hone, ← List.append_assoc, encK_append (b := [_]), e1]
                  simpa [List.append_assoc] using hM17
              · have husl : pUsual fs[j] (pAt t j) = true := by simpa using hb2
                have hone : (pTag1Of fs[j] v true (pAt t j)) = [] := by
                  unfold pTag1Of
                  rw [if_neg (by rw [husl]; simp)]
                rw [htk, hone, List.append_nil]
                rfl
              · have husl : pUsual fs[j] (pAt t j) = true := by simpa using hb2
                have hone : (pTag1Of fs[j] v true (pAt t j)) = [] := by
                  unfold pTag1Of
                  rw [if_neg (by rw [husl]; simp)]
                rw [htk, hone, List.append_nil]
                exact hC9
            · rintro vs w' _ ⟨acc3, rfl, hD⟩
              refine s_val (v_arith (kk := .i64) (a := j) (b := 1) (r := ((j + 1 : Nat) : Int)) rfl rfl ?_) ?_
              · simp only [arithOf, Option.some.injEq]; rw [IntKind.wrap_i64]; omega
              exact ⟨Ji, rfl, hJi [_, _] _ rfl ⟨acc3, rfl, hD⟩⟩
          · have hkt : ¬ (fs[j]'hj').tag = (k : Int) := by simpa using hb1
            have hone : (pTag1Of fs[j] v true (pAt t j)).filter (fun p => p.1 == (k : Int)) = [] := by
              unfold pTag1Of
              split
              · simp [hkt]
              · rfl
            refine s_val (v_arith (kk := .i64) (a := j) (b := 1) (r := ((j + 1 : Nat) : Int)) rfl rfl ?_) ?_
            · simp only [arithOf, Option.some.injEq]; rw [IntKind.wrap_i64]; omega
            refine ⟨Ji, rfl, hJi [_, _] _ rfl ⟨acc2, ?_, ?_⟩⟩
            · rw [htk, List.filter_append, hone, List.append_nil]
              rfl
            · rw [htk, List.filter_append, hone, List.append_nil]
              exact hC7
        · rintro w5 vr Ji ⟨acc2, rfl, hC⟩ hvr
          rw [Int.toNat_natCast, List.take_length, hTG, ← knownTo_succ] at hC
          refine s_val (v_arith (kk := .i64) (a := k) (b := 1) (r := ((k + 1 : Nat) : Int)) rfl rfl ?_) ?_
          · simp only [arithOf, Option.some.injEq]; rw [IntKind.wrap_i64]; omega
          refine ⟨Jo, rfl, hJo [_, _] _ rfl ⟨acc2, ?_, hC⟩⟩
          rw [Int.toNat_natCast, List.take_length, hTG, ← knownTo_succ]
          rfl
      · rintro w4 vr Jo ⟨accK, rfl, hB⟩ hvr
        rw [Int.toNat_natCast] at hB
        have k34 := hB.2.2
        have kw4 : Keeps [] w w4 := kw3.trans k34
        have hx4 := hx1.keep (k13.trans k34) (by simp)
        refine s_fl S.ty.f4 S.ty.oneTagL rfl rfl hx4 rfl ?_
        refine s_callx (hU w w4 fv uv t.u ucs (hfv0.keep kw4) (h4.keep kw4) h5 hok.u) rfl fun tv w5 ⟨tcs, hown, htg, hfr, k5⟩ => ?_
        have hun7 : (pUnknown fs t.u).length ≤ 32767 := pUnknown_length fs t.u
        have hkeys : ∀ p ∈ pUnknown fs t.u, p.1 < 4294967296 := fun p hp => hok.u p (pUnknown_mem hp)
        rw [hun] at hown htg hun7 hkeys
        have hlt4 := hB.1.lt
        have kw5 := kw4.trans k5
        obtain ⟨a4, c4, e4⟩ := (Ro.of_reads hown.reads).form
        refine s_val (v_len (a := a4) (l := un.length) (c := c4) S.ty.slTag e4) ?_
        have s3 := kw3.size
        refine s_countV (n := 20) (q := 19) (kk := .i64) (m := un.length) (ri := [.tmp 12, .tmp 13]) (Γ := [J, Jo]) (fun j vr w' => ∃ acc', vr = [acc', .int .i64 (((knownTo TG K).length + j : Nat) : Int)] ∧ WrPost w5 accK (encTg (knownTo TG K)) (pTags (un.take j)) acc' w') (by omega) rfl ⟨accK, rfl, WrPost.same (hB.1.keep k5 (by simp))⟩ ?_ ?_
        · rintro j hj w6 vr ⟨acc', rfl, hC⟩ hvr J2 hJ2
          have hj' : j < un.length := by omega
          have hle := pTags_le un (j + 1)
          rw [pTags_take hj', List.length_append, pTag1_length] at hle
          have hkey := hkeys _ (List.getElem_mem hj')
          have hrt : Ro w6 tv 2 un.length tcs := Ro.of_reads (hown.reads.keep hC.2.1 fun b hb hb' => by have := hfr b hb; have := hlt4 b hb'; omega)
          refine s_eachT (w0 := w) (tv := tv) (m := un) (j := j) S hrt htg rfl rfl hj' fun w7 a7 b vv hh hvv k7 hb => ?_
          have far : ∀ (w' : World) {x : Value} {l : List UInt8}, Ro w x 1 l.length (bcells l) → Keeps (blkOf accK) w5 w' → Ro w' x 1 l.length (bcells l) := fun w' x l h hk => (h.keep kw5).keepM hk fun hn b hb hb' => by
            have h5 := h.blk hn b hb
            have h6 := hB.2.1 b hb'
            omega
          have k57 : Keeps (blkOf accK) w5 w7 := hC.2.1.trans (k7.mono (by simp))
          refine s_fl S.ty.g1 S.rd.oneBytes rfl rfl hh rfl ?_
          refine s_callx (Q.whole w7 vv un[j].2 (far w7 hvv k57)) rfl fun u w8 ⟨hw, hu⟩ => ?_
          subst hw
          replace hu := hu w hvv
          refine s_fl S.ty.g0 S.ty.oneU32 rfl rfl hh rfl ?_
          refine s_val (v_conv (k1 := .u32) (k2 := .u64) (a := ((un[j]'hj').1 : Int)) S.rd.u32 S.u64 rfl) ?_
          rw [wraps_u64 _ (by omega) (by omega)]
          have hw7 : (pWhole (un[j]'hj').2).length ≤ 32767 := by unfold pWhole; rw [List.length_take]; omega
          refine s_callO (Q.uv w8 (un[j]'hj').1 (by omega)) rfl fun v8 w9 hM9 => ⟨fun p hp => (by cases hp), ?_⟩
          have hC9 := (hC.more k7).more hM9.2.2
          refine s_appW (v := acc') (u := v8) (e := pUv (un[j]'hj').1) S rfl rfl hC9.1 (hM9.1.reads.src S.rd.bytes (bcells_one _)) (by simp only [List.length_append]; unfold maxW at hl ⊢; omega) fun v9 w10 hp10 => ⟨fun p hp => (by cases hp), ?_⟩
          have hD10 := hC9.trans hp10
          have hu10 := far w10 hu hD10.2.1
          obtain ⟨au, cu, eu⟩ := hu10.form
          refine s_val (v_len (a := au) (l := (pWhole (un[j]'hj').2).length) (c := cu) S.rd.bytes eu) ?_
          refine s_val (v_conv (k1 := .i64) (k2 := .u64) (a := ((pWhole (un[j]'hj').2).length : Int)) S.rd.int S.u64 rfl) ?_
          rw [wraps_u64 _ (by omega) (by omega)]
          refine s_callO (Q.uv w10 (pWhole (un[j]'hj').2).length (by omega)) rfl fun v10 w11 hM11 => ⟨fun p hp => (by cases hp), ?_⟩
          have hD11 := hD10.more hM11.2.2
          refine s_appW (v := v9) (u := v10) (e := pUv (pWhole (un[j]'hj').2).length) S rfl rfl hD11.1 (hM11.1.reads.src S.rd.bytes (bcells_one _)) (by simp only [List.length_append]; unfold maxW at hl ⊢; omega) fun v11 w12 hp12 => ⟨fun p hp => (by cases hp), ?_⟩
          have hD12 := hD11.trans hp12
          refine s_appW (v := v11) (u := u) (e := pWhole (un[j]'hj').2) S rfl rfl hD12.1 ((far w12 hu hD12.2.1).src S.rd.bytes (bcells_one _)) (by simp only [List.length_append]; unfold maxW at hl ⊢; omega) fun v12 w13 hp13 => ⟨fun p hp => (by cases hp), ?_⟩
          have hD13 := hD12.trans hp13
          refine s_val (v_arith (kk := .i64) (a := (((knownTo TG K).length + j : Nat) : Int)) (b := 1) (r := (((knownTo TG K).length + (j + 1) : Nat) : Int)) rfl rfl ?_) ?_
          · simp only [arithOf, Option.some.injEq]; rw [IntKind.wrap_i64]; unfold maxW at hl; omega
          refine s_val (v_arith (kk := .i64) (a := j) (b := 1) (r := ((j + 1 : Nat) : Int)) rfl rfl ?_) ?_
          · simp only [arithOf, Option.some.injEq]; rw [IntKind.wrap_i64]; omega
          refine ⟨J2, rfl, hJ2 [_, _] _ rfl ⟨v12, rfl, ?_⟩⟩
          rw [pTags_take hj', pTag1, ← List.append_assoc, ← List.append_assoc]
          exact hD13
        · rintro w6 vr J2 ⟨acc', rfl, hC⟩ hvr
          rw [Int.toNat_natCast, List.take_length] at hC
          refine s_val (v_conv (k1 := .i64) (k2 := .u64) (a := (((knownTo TG K).length + un.length : Nat) : Int)) S.rd.int S.u64 (by rw [Int.toNat_natCast]; rfl)) ?_
          rw [wraps_u64 _ (by omega) (by unfold maxW at hl; omega)]
          refine s_callO (Q.uv w6 ((knownTo TG K).length + un.length) (by unfold maxW at hl; omega)) rfl fun v6 w7 hM7 => ⟨fun p hp => (by cases hp), ?_⟩
          have hblk : ∀ b ∈ blkOf accK, w3.heap.size ≤ b := hB.2.1
          have s23 := k3.size
          have hA4 := ((hA.more k3).more k34).more k5
          have hacc6 : MadeO w1 w6 acc (pPlain fs v true t 0) := ⟨hA4.1.keep hC.2.1 fun b hb hb' => by
            have h5 := hA.1.lt b hb
            have h6 := hblk b hb'
            omega, hA4.2.1, ((hA4.2.2.mono (by simp)).trans hC.2.1).less fun x hx => .inr (by have := hblk x hx; have := k13.size; omega)⟩
          refine s_appendO (v := acc) (u := v6) (l2 := pUv ((knownTo TG K).length + un.length)) S rfl rfl (hacc6.more hM7.2.2) (hM7.1.reads.src S.rd.bytes (bcells_one _)) (by rw [List.length_append]; unfold maxW at hl; omega) fun v7 w8 hM8 kk8 => ⟨fun p hp => (by cases hp), ?_⟩
          have hown8 : Own w8 acc' 1 (encTg (knownTo TG K) ++ pTags un).length (bcells (encTg (knownTo TG K) ++ pTags un)) := (hC.1.keep hM7.2.2 (by simp)).keep kk8 fun b hb hb' => by
            have h6 := hA.1.lt b hb'
            have h8 := k34.size
            have h9 := k5.size
            rcases hC.2.2 b hb with h | h
            · have := hblk b h; omega
            · omega
          refine s_appendO (v := v7) (u := acc') (l2 := encTg (knownTo TG K) ++ pTags un) S rfl rfl hM8 (hown8.reads.src S.rd.bytes (bcells_one _)) (by simp only [List.length_append]; unfold maxW at hl; omega) fun v8 w9 hM9 kk9 => ⟨fun p hp => (by cases hp), s_ret1 ?_⟩
          rw [List.append_assoc] at hM9
          exact hM9.under k1

end

end Go.Kf


namespace Go.Kf

open Go

def tUsual (c : Nums) (s : SN) : Tr :=
  .op (.box s.field (.tmp 0)) none [] <| .op (.box c.sTree (.tmp 1)) none [] <| .op (.fieldAddr s.field (.tmp 2) 0) none [] <| .op (.load c.tInt (.tmp 4)) none [] <| .op (.binOp .eql c.tInt (.tmp 5) (.const (.int .i64 0)) c.tInt) none [] <|
  .cond (.tmp 6) (.op (.fieldAddr c.sTree (.tmp 3) 0) none [] <| .op (.load c.tI64 (.tmp 7)) none [] <| .op (.binOp .and c.tI64 (.tmp 8) (.const (.int .i64 1)) c.tI64) none [] <| .op (.fieldAddr s.field (.tmp 2) 5) none [] <| .op (.load c.tI64 (.tmp 10)) none [] <| .op (.binOp .eql c.tI64 (.tmp 9) (.tmp 11) c.tI64) none [] <| .ret [(.tmp 12, none)]) <|
  .op (.binOp .eql c.tInt (.tmp 5) (.const (.int .i64 7)) c.tInt) none [] <|
  .cond (.tmp 7) (.op (.fieldAddr c.sTree (.tmp 3) 1) none [] <| .op (.load c.tBytes (.tmp 8)) none [] <| .op (.call { callee := .builtin .len, args := ⟨[.tmp 9]⟩, argTypes := ⟨[c.tBytes]⟩ }) none [] <|
    .loop 0 [.const (.bool false), .const (.int .i64 0)] <| .op (.binOp .lss c.tInt (.tmp 12) (.tmp 10) c.tInt) none [] <|
    .cond (.tmp 13) (.op (.indexAddr c.tBytes (.tmp 9) (.tmp 12)) none [] <| .op (.load c.tU8 (.tmp 14)) none [] <| .op (.binOp .lss c.tInt (.tmp 12) (.const (.int .i64 16)) c.tInt) none [] <|
      .cond (.tmp 16) (.op (.binOp .neq c.tU8 (.tmp 15) (.const (.int .u8 0)) c.tU8) none [] <| .cond (.tmp 17) (.ret [(.const (.bool false), none)]) (.op (.binOp .add c.tInt (.tmp 12) (.const (.int .i64 1)) c.tInt) none [] <| .to 0 [.tmp 11, .tmp 18]))
        (.op (.binOp .add c.tInt (.tmp 12) (.const (.int .i64 1)) c.tInt) none [] <| .to 0 [.tmp 11, .tmp 17])) (.ret [(.const (.bool true), none)])) <|
  .op (.binOp .eql c.tInt (.tmp 5) (.const (.int .i64 8)) c.tInt) none [] <|
  .join 0 (.cond (.tmp 8) (.to 0 [.tmp 8]) (.op (.binOp .eql c.tInt (.tmp 5) (.const (.int .i64 9)) c.tInt) none [] <| .to 0 [.tmp 9])) 1 <|
  .cond (.tmp 9) (.op (.fieldAddr s.field (.tmp 2) 3) none [] <| .op (.load c.tInt (.tmp 10)) none [] <| .op (.binOp .geq c.tInt (.tmp 11) (.const (.int .i64 0)) c.tInt) none [] <|
    .cond (.tmp 12) (.op (.fieldAddr c.sTree (.tmp 3) 2) none [] <| .op (.load c.tBool (.tmp 13)) none [] <| .ret [(.tmp 14, none)])
      (.op (.fieldAddr c.sTree (.tmp 3) 1) none [] <| .op (.load c.tBytes (.tmp 13)) none [] <| .op (.call { callee := .builtin .len, args := ⟨[.tmp 14]⟩, argTypes := ⟨[c.tBytes]⟩ }) none [] <| .op (.binOp .eql c.tInt (.tmp 15) (.const (.int .i64 0)) c.tInt) none [] <| .ret [(.tmp 16, none)])) <|
  .op (.binOp .eql c.tInt (.tmp 5) (.const (.int .i64 11)) c.tInt) none [] <|
  .cond (.tmp 10) (.op (.fieldAddr c.sTree (.tmp 3) 3) none [] <| .op (.load c.sTrees (.tmp 11)) none [] <| .op (.call { callee := .builtin .len, args := ⟨[.tmp 12]⟩, argTypes := ⟨[c.sTrees]⟩ }) none [] <| .op (.binOp .eql c.tInt (.tmp 13) (.const (.int .i64 0)) c.tInt) none [] <| .ret [(.tmp 14, none)]) <|
  .op (.binOp .eql c.tInt (.tmp 5) (.const (.int .i64 10)) c.tInt) none [] <|
  .cond (.tmp 11) (.op (.fieldAddr s.field (.tmp 2) 7) none [] <| .op (.load s.fields (.tmp 12)) none [] <| .op (.call { callee := .builtin .len, args := ⟨[.tmp 13]⟩, argTypes := ⟨[s.fields]⟩ }) none [] <|
    .loop 0 [.const (.bool false), .const (.int .i64 0)] <| .op (.binOp .lss c.tInt (.tmp 16) (.tmp 14) c.tInt) none [] <|
    .cond (.tmp 17) (.op (.indexAddr s.fields (.tmp 13) (.tmp 16)) none [] <| .op (.load s.field (.tmp 18)) none [] <| .op (.alloc s.field) none [] <| .op (.store s.field (.tmp 20) (.tmp 19)) none [] <|
      .draw <| .lok (.load s.field (.tmp 20)) none <| .lok (.load c.sTree (.tmp 3)) none <| .op (callOp s.at_ [.tmp 23, .tmp 16]) none [(.load s.field (.tmp 20), 22)] <| .op (callOp s.usual [.tmp 22, .tmp 24]) none [] <| .pur (.unOp .not c.tBool (.tmp 25)) none <|
      .cond (.tmp 26) (.ret [(.const (.bool false), none)]) (.op (.binOp .add c.tInt (.tmp 16) (.const (.int .i64 1)) c.tInt) none [] <| .to 0 [.tmp 15, .tmp 27]))
    (.op (.fieldAddr s.field (.tmp 2) 7) none [] <| .op (.load s.fields (.tmp 18)) none [] <| .op (.fieldAddr c.sTree (.tmp 3) 4) none [] <| .op (.load c.sTagL (.tmp 20)) none [] <| .op (callOp s.unknown [.tmp 19, .tmp 21]) none [] <|
      .op (.call { callee := .builtin .len, args := ⟨[.tmp 22]⟩, argTypes := ⟨[c.sTagL]⟩ }) none [] <| .op (.binOp .eql c.tInt (.tmp 23) (.const (.int .i64 0)) c.tInt) none [] <| .ret [(.tmp 24, none)]))
  (.draw <| .pur (.fieldAddr c.sTree (.tmp 3) 0) none <| .lok (.load c.tI64 (.tmp 12)) none <| .pur (.fieldAddr s.field (.tmp 2) 0) none <| .lok (.load c.tInt (.tmp 14)) none <| .pur (.fieldAddr s.field (.tmp 2) 5) none <| .lok (.load c.tI64 (.tmp 16)) none <|
    .pur (.fieldAddr s.field (.tmp 2) 0) none <| .lok (.load c.tInt (.tmp 18)) none <| .op (callOp s.width [.tmp 15]) none [(.load c.tInt (.tmp 18), 19), (.load c.tI64 (.tmp 16), 17), (.load c.tI64 (.tmp 12), 13)] <| .op (callOp s.fixed [.tmp 13, .tmp 20]) none [(.load c.tInt (.tmp 18), 19), (.load c.tI64 (.tmp 16), 17)] <|
    .op (callOp s.width [.tmp 19]) none [(.load c.tI64 (.tmp 16), 17)] <| .op (callOp s.fixed [.tmp 17, .tmp 22]) none [] <| .op (callOp s.same [.tmp 21, .tmp 23]) none [] <| .ret [(.tmp 24, none)])

theorem pUsuals_get {t : PT} : ∀ {fs : List PF} {i : Nat}, (∀ j (h : j < fs.length), pUsual fs[j] (pAt t (i + j)) = true) → pUsuals fs t i = true
  | [], _, _ => rfl
  | f :: r, i, h => by
    have h0 := h 0 (by simp)
    simp only [List.getElem_cons_zero, Nat.add_zero] at h0
    simp only [pUsuals, h0, Bool.true_and]
    exact pUsuals_get fun j hj => by
      have := h (j + 1) (by simpa using hj)
      rw [show i + 1 + j = i + (j + 1) by omega]
      simpa using this

theorem pUsuals_false {t : PT} : ∀ {fs : List PF} {i j : Nat} (h : j < fs.length), pUsual fs[j] (pAt t (i + j)) = false → pUsuals fs t i = false
  | f :: r, i, 0, _, h => by
    simp only [List.getElem_cons_zero, Nat.add_zero] at h
    simp [pUsuals, h]
  | f :: r, i, j + 1, hj, h => by
    have := pUsuals_false (fs := r) (i := i + 1) (j := j) (by simpa using hj) (by
      rw [show i + 1 + j = i + (j + 1) by omega]
      simpa using h)
    simp [pUsuals, this]

theorem len0 {α : Type} (l : List α) : ((l.length : Int) == 0) = l.isEmpty := by
  cases l with
  | nil => rfl
  | cons x l =>
    rw [List.isEmpty_cons, beq_eq_false_iff_ne]
    simp only [List.length_cons]
    omega

theorem pUsual_eq (f : PF) (t : PT) : pUsual f t = pUsualOf (fun y => pUsuals f.sub y 0 && (pUnknown f.sub y.u).isEmpty) f t := by cases f; rfl

section

variable {P : Program} {c : Nums} {s : SN} {w : World}

theorem usualW_step (S : SpFacts P c s) (Q : Smalls P s) (hS : ∀ (w : World) (v1 v2 : Value) (l1 l2 : List UInt8), (l1.length < 2 ^ 62 ∨ l2.length < 2 ^ 62) → Ro w v1 1 l1.length (bcells l1) → Ro w v2 1 l2.length (bcells l2) → Yields P s.same [v1, v2] w (.bool (decide (l1 = l2))))
    (hT : treeIn P s.usual noOrc [.tmp 0, .tmp 1] 2 = tUsual c s) {f : PF} (hlen : f.sub.length < 65536) (hU : UnknownOf P s f.sub) (ih : ∀ g ∈ f.sub, UsualWOf P s g) : UsualWOf P s f := by
  intro w t cs ts hf ht hok
  have hf0 := hf
  have htc := ht
  rw [pUsual_eq]
  obtain ⟨sv3, rfl, hsub⟩ := hf.cells
  obtain ⟨sv, lv, uv, lcs, ucs, rfl, h1, h2, h3, h4, h5⟩ := ht.cells
  refine gives_in (ρ := en [_, _]) S.rd.mix hT (Nat.le_refl _) rfl (by simp [opBelow]) ?_
  refine s_box rfl fun w1 hh1 k1 z1 => ?_
  refine s_box rfl fun w2 hx2 k2 z2 => ?_
  have hh2 := hh1.keep k2 (by simp)
  have k02 := k1.trans k2
  unfold pUsualOf
  refine s_fl S.f0 S.oneInt rfl rfl hh2 rfl ?_
  refine s_val (v_cmp (kk := .i64) (a := f.kind) (b := 0) (r := f.kind == 0) rfl rfl rfl) ?_
  refine s_cond (b := f.kind == 0) rfl (fun hb => ?_) fun hb => ?_
  · rw [if_pos (by simpa using hb)]
    refine s_fl S.ty.f0 S.ty.oneI64 rfl rfl hx2 rfl ?_
    refine s_val (v_bits (op := .and) (kk := .i64) (.inl rfl) rfl rfl (and1_i64 t.n)) ?_
    refine s_fl S.f5 S.ty.oneI64 rfl rfl hh2 rfl ?_
    refine s_val (v_cmp (kk := .i64) (a := t.n % 2) (b := f.dflt) (r := t.n % 2 == f.dflt) rfl rfl rfl) ?_
    exact s_ret1 ⟨by rw [show ev (ext _ 12 [Value.bool (t.n % 2 == f.dflt)]) (.tmp 12) = _ from ext_at]; rfl, k02⟩
  rw [if_neg (by simpa using hb)]
  refine s_val (v_cmp (kk := .i64) (a := f.kind) (b := 7) (r := f.kind == 7) rfl rfl rfl) ?_
  refine s_cond (b := f.kind == 7) rfl (fun hb => ?_) fun hb => ?_
  · rw [if_pos (by simpa using hb)]
    refine s_fl S.ty.f1 S.rd.oneBytes rfl rfl hx2 rfl ?_
    obtain ⟨sa, cps, es⟩ := h1.form
    have h1l : t.s.length < 4294967296 := ht.lens.1
    refine s_val (v_len (a := sa) (l := t.s.length) (c := cps) S.rd.bytes es) ?_
    refine s_countV (n := 11) (q := 10) (kk := .i64) (m := t.s.length) (ri := [.const (.bool false)]) (Γ := []) (fun j vr w' => vr = [.bool false] ∧ Keeps [] w2 w' ∧ ∀ i (hi : i < t.s.length), i < j → i < 16 → t.s[i] = 0) (by omega) rfl ⟨rfl, .refl, fun i _ h => by omega⟩ ?_ ?_
    · rintro j hj w3 vr ⟨rfl, k3, hall⟩ hvr J hJ
      have hj' : j < t.s.length := by omega
      obtain ⟨b1, o1, q1, e1, _, hx1⟩ := (h1.keep (k02.trans k3)).at (by omega)
      have hc1 := hx1 j (by omega)
      rw [show (bcells t.s)[j]? = some (.int .u8 (t.s[j]'hj').toNat) by simp [bcells, hj']] at hc1
      refine s_val (v_indexAddr (b := b1) (o := o1) (l := t.s.length) (c := q1) (j := j) (kk := .i64) S.rd.bytes S.rd.szU8 e1 rfl (by omega) (by omega)) ?_
      rw [show o1 + (j : Int).toNat * 1 = o1 + j by omega]
      refine s_lok (l_cell1 S.rd.oneU8 ext_at hc1) ?_
      refine s_val (v_cmp (kk := .i64) (a := j) (b := 16) (r := decide ((j : Int) < 16)) rfl rfl rfl) ?_
      refine s_cond (b := decide ((j : Int) < 16)) rfl (fun hb1 => ?_) fun hb1 => ?_
      · have hj16 : j < 16 := by
          have : (j : Int) < 16 := by simpa using hb1
          omega
        refine s_val (v_cmp (kk := .u8) (a := (t.s[j]'hj').toNat) (b := 0) (r := (((t.s[j]'hj').toNat : Int) != 0)) rfl rfl rfl) ?_
        refine s_cond (b := (((t.s[j]'hj').toNat : Int) != 0)) rfl (fun hb2 => s_ret1 ⟨?_, k02.trans k3⟩) fun hb2 => ?_
        · have hne : t.s[j]'hj' ≠ 0 := fun e => by rw [e] at hb2; simp at hb2
          have : (t.s.take 16).all (· == 0) = false := by
            rw [List.all_eq_false]
            exact ⟨t.s[j]'hj', List.mem_take_iff_getElem.2 ⟨j, by omega, rfl⟩, by simpa using hne⟩
          rw [this]
          rfl
        · have he : t.s[j]'hj' = 0 := by
            have : ((t.s[j]'hj').toNat : Int) = 0 := by simpa using hb2
            exact UInt8.toNat_inj.1 (by simpa using this)
          refine s_val (v_arith (kk := .i64) (a := j) (b := 1) (r := ((j + 1 : Nat) : Int)) rfl rfl ?_) ?_
          · simp only [arithOf, Option.some.injEq]; rw [IntKind.wrap_i64]; omega
          refine ⟨J, rfl, hJ [_] _ rfl ⟨rfl, k3, fun i hi hij h16 => ?_⟩⟩
          by_cases hije : i = j
          · subst hije; exact he
          · exact hall i hi (by omega) h16
      · refine s_val (v_arith (kk := .i64) (a := j) (b := 1) (r := ((j + 1 : Nat) : Int)) rfl rfl ?_) ?_
        · simp only [arithOf, Option.some.injEq]; rw [IntKind.wrap_i64]; omega
        refine ⟨J, rfl, hJ [_] _ rfl ⟨rfl, k3, fun i hi hij h16 => hall i hi ?_ h16⟩⟩
        have : ¬ (j : Int) < 16 := by simpa using hb1
        omega
    · rintro w3 vr J ⟨rfl, k3, hall⟩ hvr
      refine s_ret1 ⟨?_, k02.trans k3⟩
      have : (t.s.take 16).all (· == 0) = true := by
        rw [List.all_eq_true]
        intro b hb
        obtain ⟨i, hi, rfl⟩ := List.mem_take_iff_getElem.1 hb
        have := hall i (by omega) (by rw [Int.toNat_natCast]; omega) (by omega)
        simpa using this
      rw [this]
      rfl
  rw [if_neg (by simpa using hb)]
  refine s_val (v_cmp (kk := .i64) (a := f.kind) (b := 8) (r := f.kind == 8) rfl rfl rfl) ?_
  refine ⟨rfl, fun vs w' => vs = [.bool (f.kind == 8 || f.kind == 9)] ∧ w' = w2, ?_, ?_⟩
  · refine s_cond (b := f.kind == 8) rfl (fun hb1 => ⟨_, rfl, ?_, rfl⟩) fun hb1 => ?_
    · show [Value.bool (f.kind == 8)] = _
      rw [hb1]
      rfl
    · refine s_val (v_cmp (kk := .i64) (a := f.kind) (b := 9) (r := f.kind == 9) rfl rfl rfl) ?_
      refine ⟨_, rfl, ?_, rfl⟩
      show [Value.bool (f.kind == 9)] = _
      rw [hb1, Bool.false_or]
  rintro vs w3 _ ⟨rfl, rfl⟩
  refine s_cond (b := f.kind == 8 || f.kind == 9) rfl (fun hb => ?_) fun hb => ?_
  · rw [if_pos (by simpa using hb)]
    refine s_fl S.f3 S.oneInt rfl rfl hh2 rfl ?_
    refine s_val (v_cmp (kk := .i64) (a := f.nul) (b := 0) (r := decide (f.nul ≥ 0)) rfl rfl rfl) ?_
    refine s_cond (b := decide (f.nul ≥ 0)) rfl (fun hb1 => ?_) fun hb1 => ?_
    · rw [if_pos (by simpa using hb1)]
      refine s_fl S.ty.f2 S.rd.oneBool rfl rfl hx2 rfl ?_
      exact s_ret1 ⟨rfl, k02⟩
    · rw [if_neg (by simpa using hb1)]
      obtain ⟨sa, cps, es⟩ := h1.form
      refine s_fl S.ty.f1 S.rd.oneBytes rfl rfl hx2 rfl (s_val (v_len (a := sa) (l := t.s.length) (c := cps) S.rd.bytes es) ?_)
      refine s_val (v_cmp (kk := .i64) (a := t.s.length) (b := 0) (r := ((t.s.length : Int) == 0)) rfl rfl rfl) ?_
      refine s_ret1 ⟨?_, k02⟩
      show Value.bool ((t.s.length : Int) == 0) = _
      rw [len0]
  rw [if_neg (by simpa using hb)]
  refine s_val (v_cmp (kk := .i64) (a := f.kind) (b := 11) (r := f.kind == 11) rfl rfl rfl) ?_
  refine s_cond (b := f.kind == 11) rfl (fun hb => ?_) fun hb => ?_
  · rw [if_pos (by simpa using hb)]
    obtain ⟨la, cpl, el⟩ := h2.form
    refine s_fl S.ty.f3 S.ty.oneTrees rfl rfl hx2 rfl (s_val (v_len (a := la) (l := t.l.length) (c := cpl) S.ty.sl el) ?_)
    refine s_val (v_cmp (kk := .i64) (a := t.l.length) (b := 0) (r := ((t.l.length : Int) == 0)) rfl rfl rfl) ?_
    refine s_ret1 ⟨?_, k02⟩
    show Value.bool ((t.l.length : Int) == 0) = _
    rw [len0]
  rw [if_neg (by simpa using hb)]
  refine s_val (v_cmp (kk := .i64) (a := f.kind) (b := 10) (r := f.kind == 10) rfl rfl rfl) ?_
  refine s_cond (b := f.kind == 10) rfl (fun hb => ?_) fun hb => ?_
  · rw [if_pos (by simpa using hb)]
    refine s_fl S.f7 S.oneFields rfl rfl hh2 rfl ?_
    have hsub3 : FieldsV w3 f.sub sv3 := hsub.keep k02
    have hsub0 := hsub3
    obtain ⟨fcs, hr, hfc⟩ := hsub3
    obtain ⟨a, cp, e⟩ := hr.form
    refine s_val (v_len (a := a) (l := f.sub.length) (c := cp) S.sl e) ?_
    refine s_countV (n := 15) (q := 14) (kk := .i64) (m := f.sub.length) (ri := [.const (.bool false)]) (Γ := []) (fun j vr w' => vr = [.bool false] ∧ Keeps [] w3 w' ∧ ∀ i (hi : i < f.sub.length), i < j → pUsual f.sub[i] (pAt t i) = true) (by omega) rfl ⟨rfl, .refl, fun i _ h => by omega⟩ ?_ ?_
    · rintro j hj w4 vr ⟨rfl, k34, hall⟩ hvr J hJ
      have hj' : j < f.sub.length := by omega
      refine s_eachF (fv := sv3) (fs := f.sub) (j := j) S (hsub0.keep k34) rfl rfl hj' fun w5 a5 b cs5 hh5 hf5 k45 hb5 => ?_
      have hf50 := hf5
      obtain ⟨sv5, rfl, _⟩ := hf5.cells
      show Tr.sem _ _ _ _ _ _ { w5 with drawn := w5.drawn + 1 }
      have hd : Keeps [] w5 { w5 with drawn := w5.drawn + 1 } := keeps_drawn w5 _ _
      generalize ({ w5 with drawn := w5.drawn + 1 } : World) = w6 at hd ⊢
      have hh6 := hh5.keep hd (by simp)
      have k36 := (k34.trans k45).trans hd
      have k06 := k02.trans k36
      have hx6 := hx2.keep k36 (by simp)
      refine l_lok (l_loadN (b := b) (o := 0) S.agg rfl hh6 (show 0 + 8 ≤ 8 by omega)) ?_
      refine l_lok (l_loadN (b := w1.heap.size) (o := 0) S.ty.agg rfl hx6 (show 0 + 5 ≤ 5 by omega)) ?_
      refine s_call (xs := [.tmp 23, .tmp 16]) (Q.at_ w6 t _ j (TreeC.keep k06 _ _ htc)) fun u w7 ⟨k67, tcs, hu, htj⟩ => ⟨?_, ?_⟩
      · intro p hp
        simp only [List.mem_singleton] at hp
        subst hp
        exact l_loadN (b := b) (o := 0) S.agg rfl (hh6.keep k67 (by simp)) (show 0 + 8 ≤ 8 by omega)
      subst hu
      refine s_callx (ih f.sub[j] (List.getElem_mem hj') w7 (pAt t j) _ tcs (FieldC.keep (hd.trans k67) _ _ hf50) htj (hok.at j)) rfl fun u w8 ⟨hu, k78⟩ => ?_
      subst hu
      have k38 := (k36.trans k67).trans k78
      refine p_val (v_not (b := pUsual f.sub[j] (pAt t j)) rfl) ?_
      refine s_cond (b := !pUsual f.sub[j] (pAt t j)) rfl (fun hb2 => s_ret1 ⟨?_, k02.trans k38⟩) fun hb2 => ?_
      · have h0 : pUsuals f.sub t 0 = false := pUsuals_false (i := 0) hj' (by rw [Nat.zero_add]; simpa using hb2)
        show Value.bool false = Value.bool (pUsuals f.sub t 0 && (pUnknown f.sub t.u).isEmpty)
        rw [h0]
        rfl
      · refine s_val (v_arith (kk := .i64) (a := j) (b := 1) (r := ((j + 1 : Nat) : Int)) rfl rfl ?_) ?_
        · simp only [arithOf, Option.some.injEq]; rw [IntKind.wrap_i64]; omega
        refine ⟨J, rfl, hJ [_] _ rfl ⟨rfl, k38, fun i hi hij => ?_⟩⟩
        by_cases hije : i = j
        · subst hije; simpa using hb2
        · exact hall i hi (by omega)
    · rintro w4 vr J ⟨rfl, k34, hall⟩ hvr
      have h0 : pUsuals f.sub t 0 = true := pUsuals_get fun j hj => by rw [Nat.zero_add]; exact hall j hj (by rw [Int.toNat_natCast]; omega)
      have k04 := k02.trans k34
      refine s_fl S.f7 S.oneFields rfl rfl (hh2.keep k34 (by simp)) rfl ?_
      refine s_fl S.ty.f4 S.ty.oneTagL rfl rfl (hx2.keep k34 (by simp)) rfl ?_
      refine s_callx (hU w w4 sv3 uv t.u ucs (hsub.keep k04) (h4.keep k04) h5 hok.u) rfl fun tv w5 ⟨tcs, hown, htg, hfr, k5⟩ => ?_
      obtain ⟨a4, c4, e4⟩ := (Ro.of_reads hown.reads).form
      refine s_val (v_len (a := a4) (l := (pUnknown f.sub t.u).length) (c := c4) S.ty.slTag e4) ?_
      refine s_val (v_cmp (kk := .i64) (a := (pUnknown f.sub t.u).length) (b := 0) (r := (((pUnknown f.sub t.u).length : Int) == 0)) rfl rfl rfl) ?_
      refine s_ret1 ⟨?_, k04.trans k5⟩
      show Value.bool (((pUnknown f.sub t.u).length : Int) == 0) = Value.bool (pUsuals f.sub t 0 && (pUnknown f.sub t.u).isEmpty)
      rw [len0, h0, Bool.true_and]
  rw [if_neg (by simpa using hb)]
  show Tr.sem _ _ _ _ _ _ { w3 with drawn := w3.drawn + 1 }
  have hd : Keeps [] w3 { w3 with drawn := w3.drawn + 1 } := keeps_drawn w3 _ _
  generalize ({ w3 with drawn := w3.drawn + 1 } : World) = w4 at hd ⊢
  have hh4 := hh2.keep hd (by simp)
  have hx4 := hx2.keep hd (by simp)
  have k04 := k02.trans hd
  refine p_fl S.ty.f0 S.ty.oneI64 rfl rfl hx4 rfl (p_fl S.f0 S.oneInt rfl rfl hh4 rfl (p_fl S.f5 S.ty.oneI64 rfl rfl hh4 rfl (p_fl S.f0 S.oneInt rfl rfl hh4 rfl ?_)))
  have ldK : ∀ (w' : World) (ρ : Nat → Value), Keeps [] w4 w' → ρ 18 = ptr w.heap.size (0 + 0) → runOp P ρ (.load c.tInt (.tmp 18)) w' = .ok (.value (.int .i64 f.kind)) w' := fun w' ρ kk hρ => l_load1 (P := P) (ρ := ρ) (w := w') (x := .tmp 18) (b := w.heap.size) (o := 0 + 0) S.oneInt hρ (hh4.keep kk (by simp)) rfl
  have ldD : ∀ (w' : World) (ρ : Nat → Value), Keeps [] w4 w' → ρ 16 = ptr w.heap.size (0 + 5) → runOp P ρ (.load c.tI64 (.tmp 16)) w' = .ok (.value (.int .i64 f.dflt)) w' := fun w' ρ kk hρ => l_load1 (P := P) (ρ := ρ) (w := w') (x := .tmp 16) (b := w.heap.size) (o := 0 + 5) S.ty.oneI64 hρ (hh4.keep kk (by simp)) rfl
  have ldN : ∀ (w' : World) (ρ : Nat → Value), Keeps [] w4 w' → ρ 12 = ptr w1.heap.size (0 + 0) → runOp P ρ (.load c.tI64 (.tmp 12)) w' = .ok (.value (.int .i64 t.n)) w' := fun w' ρ kk hρ => l_load1 (P := P) (ρ := ρ) (w := w') (x := .tmp 12) (b := w1.heap.size) (o := 0 + 0) S.ty.oneI64 hρ (hx4.keep kk (by simp)) rfl
  refine s_call (xs := [.tmp 15]) (Q.width w4 f.kind) fun u w5 ⟨hu, k5⟩ => ⟨?_, ?_⟩
  · intro p hp
    simp only [List.mem_cons, List.not_mem_nil, or_false] at hp
    rcases hp with rfl | rfl | rfl
    · exact ldK w5 _ k5 rfl
    · exact ldD w5 _ k5 rfl
    · exact ldN w5 _ k5 rfl
  subst hu
  refine s_callO (Q.fixed w5 t.n (pWidth f.kind) (pWidth_le f.kind)) rfl fun u6 w6 hM6 => ⟨?_, ?_⟩
  · intro p hp
    simp only [List.mem_cons, List.not_mem_nil, or_false] at hp
    rcases hp with rfl | rfl
    · exact ldK w6 _ (k5.trans hM6.2.2) rfl
    · exact ldD w6 _ (k5.trans hM6.2.2) rfl
  refine s_call (xs := [.tmp 19]) (Q.width w6 f.kind) fun u w7 ⟨hu, k7⟩ => ⟨?_, ?_⟩
  · intro p hp
    simp only [List.mem_singleton] at hp
    subst hp
    exact ldD w7 _ ((k5.trans hM6.2.2).trans k7) rfl
  subst hu
  refine s_callO (Q.fixed w7 f.dflt (pWidth f.kind) (pWidth_le f.kind)) rfl fun u8 w8 hM8 => ⟨fun p hp => (by cases hp), ?_⟩
  have hb8 : (pFixed t.n (pWidth f.kind)).length < 2 ^ 62 := by
    rw [pFixed_length]
    have := pWidth_le f.kind
    omega
  refine s_callx (hS w8 u6 u8 _ _ (.inl hb8) (Ro.of_reads ((hM6.1.keep k7 (by simp)).keep hM8.2.2 (by simp)).reads) (Ro.of_reads hM8.1.reads)) rfl fun v w9 ⟨hv, k9⟩ => ?_
  exact s_ret1 ⟨hv, ((((k04.trans k5).trans hM6.2.2).trans k7).trans hM8.2.2).trans k9⟩

end

end Go.Kf


namespace Go.Kf

open Go

mutual
/-- No tag is too great. -/
def PF.fine : PF → Bool
  | .mk k _ _ _ g _ e sub => decide (g < 2147483647) && decide (sub.length < 65536) && (!decide (k = 11) || !decide (e = 11)) && PF.fines sub
def PF.fines : List PF → Bool
  | [] => true
  | f :: r => f.fine && PF.fines r
end

theorem PF.fines_mem : ∀ {l : List PF}, PF.fines l = true → ∀ f ∈ l, f.fine = true
  | [], _, f, h => by cases h
  | x :: l, hl, f, h => by
    simp only [PF.fines, Bool.and_eq_true] at hl
    rcases List.mem_cons.1 h with e | h
    · rw [e]; exact hl.1
    · exact PF.fines_mem hl.2 f h

theorem PF.fine_tag {f : PF} (h : f.fine = true) : f.tag < 2147483647 := by
  cases f
  simp only [PF.fine, Bool.and_eq_true, decide_eq_true_eq] at h
  exact h.1.1.1

section

variable {P : Program} {c : Nums} {s : SN}

theorem unknownT_all (S : SpFacts P c s) (T : SpTrees P c s) {fs : List PF} (h : PF.fines fs = true) (hl : fs.length < 65536) : UnknownOf P s fs :=
  unknown_gives S (fun _ _ hfv => known_gives S T.known (fun f hf => PF.fine_tag (PF.fines_mem h f hf)) hfv (by omega)) T.unknown

mutual
theorem fieldT_all (S : SpFacts P c s) (T : SpTrees P c s) (hUs : treeIn P s.usual noOrc [.tmp 0, .tmp 1] 2 = tUsual c s) (hSm : treeIn P s.same noOrc [.tmp 0, .tmp 1] 2 = tSame c) : ∀ f : PF, f.fine = true → FieldOf P s f ∧ UsualWOf P s f
  | .mk k fr to n g d e sub, h => by
    have h' := h
    simp only [PF.fine, Bool.and_eq_true, decide_eq_true_eq] at h'
    have hs := h'.2
    have hl : sub.length < 65536 := h'.1.1.2
    have ih := fieldsT_all S T hUs hSm sub hs
    have hu := unknownT_all S T hs hl
    have hp : PartOf P s sub := partT_step S (smalls_of S T) T.known T.part (fun f hf => PF.fine_tag (PF.fines_mem hs f hf)) (by omega) (fun f hf => (ih f hf).1) (fun f hf _ => (ih f hf).2) hu
    refine ⟨field_step S (smalls_of S T) T.fld (f := .mk k fr to n g d e sub) (fun w fv t ts kind nu fl v hf ht hok hl => value_gives S (smalls_of S T) T.value hp kind nu fl v hf ht hok hl) hp, ?_⟩
    exact usualW_step S (smalls_of S T) (fun _ _ _ _ _ hb h1 h2 => same_ro S.rd hSm hb h1 h2) hUs (f := .mk k fr to n g d e sub) hl hu (fun f hf => (ih f hf).2)
theorem fieldsT_all (S : SpFacts P c s) (T : SpTrees P c s) (hUs : treeIn P s.usual noOrc [.tmp 0, .tmp 1] 2 = tUsual c s) (hSm : treeIn P s.same noOrc [.tmp 0, .tmp 1] 2 = tSame c) : ∀ fs : List PF, PF.fines fs = true → ∀ f ∈ fs, FieldOf P s f ∧ UsualWOf P s f
  | [], _, f, hf => by cases hf
  | x :: l, h, f, hf => by
    simp only [PF.fines, Bool.and_eq_true] at h
    rcases List.mem_cons.1 hf with e | hf
    · rw [e]; exact fieldT_all S T hUs hSm x h.1
    · exact fieldsT_all S T hUs hSm l h.2 f hf
end

theorem partT_all (S : SpFacts P c s) (T : SpTrees P c s) (hUs : treeIn P s.usual noOrc [.tmp 0, .tmp 1] 2 = tUsual c s) (hSm : treeIn P s.same noOrc [.tmp 0, .tmp 1] 2 = tSame c) {fs : List PF} (h : PF.fines fs = true) (hl : fs.length < 65536) : PartOf P s fs :=
  partT_step S (smalls_of S T) T.known T.part (fun f hf => PF.fine_tag (PF.fines_mem h f hf)) (by omega) (fun f hf => (fieldsT_all S T hUs hSm fs h f hf).1) (fun f hf _ => (fieldsT_all S T hUs hSm fs h f hf).2) (unknownT_all S T h hl)

theorem writeT_gives (S : SpFacts P c s) (T : SpTrees P c s) (hUs : treeIn P s.usual noOrc [.tmp 0, .tmp 1] 2 = tUsual c s) (hSm : treeIn P s.same noOrc [.tmp 0, .tmp 1] 2 = tSame c) {fs : List PF} (h : PF.fines fs = true) (hlen : fs.length < 65536) {w : World} {fv : Value} {t : PT} {ts : List Value} (x v : Int) (hfv : FieldsV w fs fv) (ht : TreeC w t ts) (hok : t.ok) (hl : (pWrite fs x v t).length ≤ maxW) :
    YieldsO P s.write [.agg ⟨[fv, .int .i64 x]⟩, .int .i64 v, .agg ⟨ts⟩] w (pWrite fs x v t) := by
  have htl := ht.len
  refine gives_in (ρ := en [_, _, _]) S.rd.mix T.write (Nat.le_refl _) rfl (by simp [opBelow]) ?_
  refine s_box rfl fun w1 hx1 k1 z1 => ?_
  refine s_box rfl fun w2 hy2 k2 z2 => ?_
  have hx2 := hx1.keep k2 (by simp)
  have k02 := k1.trans k2
  have hp := partT_all S T hUs hSm h hlen
  refine s_fl S.m0 S.oneFields rfl rfl hx2 rfl (s_fl S.m1 S.oneInt rfl rfl hx2 rfl ?_)
  refine s_val (v_cmp (kk := .i64) (a := x) (b := 0) (r := decide (x ≥ 0)) rfl rfl rfl) ?_
  unfold pWrite at hl ⊢
  refine s_cond (b := decide (x ≥ 0)) rfl (fun hb => ?_) fun hb => ?_
  · refine s_fl S.m1 S.oneInt rfl rfl hx2 rfl ?_
    refine s_val (v_cmp (kk := .i64) (a := v) (b := x) (r := decide (v ≥ x)) rfl rfl rfl) ?_
    have hfx : pFlex x v = decide (v ≥ x) := by
      unfold pFlex
      rw [show decide (0 ≤ x) = true from hb]
      rfl
    rw [hfx] at hl ⊢
    refine s_lok (l_loadN (b := w1.heap.size) (o := 0) S.ty.agg rfl hy2 (by omega)) ?_
    rw [take0 htl]
    exact s_callO (hp w2 fv v _ t ts (hfv.keep k02) (TreeC.keep k02 _ _ ht) hok hl) rfl fun u w3 hM => ⟨fun p hp => (by cases hp), s_ret1 (hM.under k02)⟩
  · have hfx : pFlex x v = false := by
      unfold pFlex
      rw [show decide (0 ≤ x) = false from hb]
      rfl
    rw [hfx] at hl ⊢
    refine s_lok (l_loadN (b := w1.heap.size) (o := 0) S.ty.agg rfl hy2 (by omega)) ?_
    rw [take0 htl]
    exact s_callO (hp w2 fv v _ t ts (hfv.keep k02) (TreeC.keep k02 _ _ ht) hok hl) rfl fun u w3 hM => ⟨fun p hp => (by cases hp), s_ret1 (hM.under k02)⟩

end

end Go.Kf


namespace Go.Kf

open Go

theorem Own.cut {w : World} {v : Value} {l1 l2 : List UInt8} (hpos : 0 < l1.length) (h : Own w v 1 (l1 ++ l2).length (bcells (l1 ++ l2))) :
    ∃ b cap, v = .slice (some ⟨b, 0, none⟩) (l1 ++ l2).length cap ∧ (l1 ++ l2).length ≤ cap ∧ Own w (.slice (some ⟨b, 0, none⟩) l1.length cap) 1 l1.length (bcells l1) := by
  rcases h.2 with ⟨_, h0⟩ | ⟨b, cap, spare, e, hh, hle, hcap, hlen⟩
  · rw [List.length_append] at h0; omega
  · refine ⟨b, cap, e, hle, by simp [bcells_length], .inr ⟨b, cap, bcells l2 ++ spare, rfl, ?_, ?_, hcap, ?_⟩⟩
    · rw [← List.append_assoc, ← bcells_append]; exact hh
    · rw [List.length_append] at hle; omega
    · rw [← List.append_assoc, ← bcells_append]; exact hlen

theorem MadeO.cut {w0 w : World} {v : Value} {l1 l2 : List UInt8} (hpos : 0 < l1.length) (h : MadeO w0 w v (l1 ++ l2)) :
    ∃ b cap, v = .slice (some ⟨b, 0, none⟩) (l1 ++ l2).length cap ∧ (l1 ++ l2).length ≤ cap ∧ MadeO w0 w (.slice (some ⟨b, 0, none⟩) l1.length cap) l1 := by
  obtain ⟨b, cap, e, hle, ho⟩ := h.1.cut hpos
  refine ⟨b, cap, e, hle, ho, fun x hx => h.2.1 x ?_, h.2.2⟩
  rw [e]
  exact hx

section

variable {P : Program} {c : Nums} {w : World} {ρ : Nat → Value}

end

end Go.Kf


namespace Go.Kf

open Go

theorem EntsA.get {A : Nat → Prop} {w : World} : ∀ {es : List MapEntry} {m : TM} {i : Nat} {p : Nat × List UInt8}, EntsA A w es m → m[i]? = some p → ∃ e, es[i]? = some e ∧ EntA A w e p
  | e :: es, q :: m, 0, p, ⟨h, _⟩, hi => by
    simp only [List.getElem?_cons_zero, Option.some.injEq] at hi
    subst hi
    exact ⟨e, rfl, h⟩
  | e :: es, q :: m, i + 1, p, ⟨_, h⟩, hi => by
    simp only [List.getElem?_cons_succ] at hi
    simpa using EntsA.get h hi
  | [], [], _, _, _, hi => by simp at hi
  | [], _ :: _, _, _, h, _ => h.elim
  | _ :: _, [], _, _, h, _ => h.elim

section

variable {P : Program} {c : Nums}

end

section

variable {P : Program} {c : Nums} {s : SN} {R : Value → World → Prop} {Γ : List (List Value → World → Prop)} {n : Nat} {ρ : Nat → Value} {w : World} {k : Tr}

end

end Go.Kf

namespace Go.Kf

open Go

mutual
def kFT : PF → Nat
  | .mk k _ _ _ _ _ e sub => if k = 11 then (if e = 10 then 3 + (kPlainT sub + 8) else 6) else if k = 10 then 3 + (kPlainT sub + 8) else 3
def kPlainT : List PF → Nat
  | [] => 0
  | f :: r => kFT f + 4 + kPlainT r
end

def kPartT (fs : List PF) : Nat := kPlainT fs + 8

theorem pFieldT_len_step {v : Int} {fl : Bool} {f : PF} {K : Nat} (hpart : ∀ t : PT, (pPart f.sub v fl t).length ≤ K * t.wt) (t : PT) : (pField f v fl t).length ≤ (if f.kind = 11 then (if f.elem = 10 then 3 + K else 6) else if f.kind = 10 then 3 + K else 3) * t.wt := by
  have hw6 : 6 ≤ t.wt := by rw [PT.wt_eq]; omega
  by_cases h11 : f.kind = 11
  · rw [if_pos h11, list_written h11]
    generalize hnu : pNull f v t = null
    have hw : PT.wts (if null then [] else pThings t.l) ≤ PT.wts t.l := by
      split
      · simp [PT.wts]
      · exact wts_take _ _
    have hc := pCounted_length fl null (if null then [] else pThings t.l).length 4
    have hwt : 6 + PT.wts t.l ≤ t.wt := by rw [PT.wt_eq]; omega
    rw [List.length_append]
    by_cases h10 : f.elem = 10
    · rw [if_pos h10, h10]
      have h6 := flatten_wt (pp := fun x => pValue (fun y => pPart f.sub v fl y) 10 false fl x) (k := K) (l := if null then [] else pThings t.l) (fun x _ => hpart x)
      have h7 := Nat.mul_le_mul_left K (Nat.le_trans hw (show PT.wts t.l ≤ t.wt by omega))
      rw [Nat.add_mul]
      omega
    · rw [if_neg h10]
      have h6 := flatten_wt (pp := fun x => pValue (fun y => pPart f.sub v fl y) f.elem false fl x) (k := 3) (l := if null then [] else pThings t.l) (fun x _ => pValue_len h10)
      omega
  · rw [if_neg h11, pField_eq]
    unfold pFieldOf
    simp only
    rw [if_neg h11]
    by_cases h10 : f.kind = 10
    · rw [if_pos h10, Nat.add_mul]
      have := hpart t
      by_cases hn : 0 ≤ f.nul
      · rw [if_pos ⟨h10, hn⟩]
        split
        · rw [pFixed_length]; omega
        · rw [List.length_append, pFixed_length]; omega
      · rw [if_neg (fun h => hn h.2), h10]
        have e1 : pValue (fun y => pPart f.sub v fl y) 10 (pNull f v t) fl t = pPart f.sub v fl t := rfl
        rw [e1]
        omega
    · rw [if_neg h10, if_neg (fun h => h10 h.1)]
      exact pValue_len h10

theorem knownTo_len (tg : List (Int × List UInt8)) (K : Nat) : (encTg (knownTo tg K)).length ≤ (encTg tg).length := by
  induction tg with
  | nil =>
    have : knownTo [] K = [] := by simp [knownTo]
    rw [this]
    exact Nat.le_refl _
  | cons p tg ih =>
    have h : ∀ K : Nat, (encTg (knownTo (p :: tg) K)).length = (if 0 ≤ p.1 ∧ p.1 < K then (pTag1 p.1.toNat p.2).length else 0) + (encTg (knownTo tg K)).length := by
      intro K
      induction K with
      | zero =>
        rw [if_neg (by omega)]
        simp [knownTo, encTg]
      | succ K ih2 =>
        rw [knownTo_succ, knownTo_succ, encK_append, encK_append, List.length_append, List.length_append, ih2]
        by_cases hp : p.1 = (K : Int)
        · have hf : List.filter (fun p => p.1 == (K : Int)) (p :: tg) = p :: List.filter (fun p => p.1 == (K : Int)) tg := by rw [List.filter_cons]; simp [hp]
          have e : encTg (p :: tg.filter fun p => p.1 == (K : Int)) = pTag1 p.1.toNat p.2 ++ encTg (tg.filter fun p => p.1 == (K : Int)) := by simp [encTg]
          rw [hf, e, List.length_append, if_neg (by omega), if_pos (by omega)]
          omega
        · have hf : List.filter (fun p => p.1 == (K : Int)) (p :: tg) = List.filter (fun p => p.1 == (K : Int)) tg := by rw [List.filter_cons]; simp [hp]
          rw [hf]
          by_cases h2 : 0 ≤ p.1 ∧ p.1 < (K : Int)
          · rw [if_pos h2, if_pos (by omega)]
            omega
          · rw [if_neg h2, if_neg (by omega)]
            omega
    have e : encTg (p :: tg) = pTag1 p.1.toNat p.2 ++ encTg tg := by simp [encTg]
    rw [h K, e, List.length_append]
    split <;> omega

theorem partT_len {fs : List PF} {v : Int} {fl : Bool} {t : PT} (h : (pPlain fs v fl t 0).length + (encTg (pTagged fs v fl t 0)).length ≤ kPlainT fs * t.wt) : (pPart fs v fl t).length ≤ (kPlainT fs + 8) * t.wt := by
  have h2 := tagsWt_unknown fs t.u
  have h3 := pTags_len (pUnknown fs t.u)
  have h4 := pUv_length ((knownTo (pTagged fs v fl t 0) (pKnown fs 0)).length + (pUnknown fs t.u).length)
  have h5 : 6 + tagsWt t.u ≤ t.wt := by rw [PT.wt_eq]; omega
  have h6 := knownTo_len (pTagged fs v fl t 0) (pKnown fs 0)
  rw [pPart_tags, Nat.add_mul, List.length_append]
  split
  · simp only [List.length_append]; omega
  · simp only [List.length_nil]; omega

mutual
theorem pFieldT_len (v : Int) (fl : Bool) : ∀ (f : PF) (t : PT), (pField f v fl t).length ≤ kFT f * t.wt
  | .mk k fr to nul g d e sub, t => by
    have := pFieldT_len_step (f := .mk k fr to nul g d e sub) (v := v) (fl := fl) (K := kPlainT sub + 8) (fun t => partT_len (pPlainT_len v fl sub t 0)) t
    rw [kFT]
    exact this
theorem pPlainT_len (v : Int) (fl : Bool) : ∀ (fs : List PF) (t : PT) (i : Nat), (pPlain fs v fl t i).length + (encTg (pTagged fs v fl t i)).length ≤ kPlainT fs * t.wt
  | [], t, i => by simp [pPlain, pTagged, encTg]
  | f :: r, t, i => by
    have h1 := pFieldT_len v fl f (pAt t i)
    have h2 := pPlainT_len v fl r t (i + 1)
    have h3 := Nat.mul_le_mul_left (kFT f) (wt_at t i)
    have hw6 : 6 ≤ t.wt := by rw [PT.wt_eq]; omega
    have e1 : pTagged (f :: r) v fl t i = pTag1Of f v fl (pAt t i) ++ pTagged r v fl t (i + 1) := by rw [pTagged]; rfl
    rw [pPlain_cons, e1, encK_append, List.length_append, List.length_append, kPlainT, Nat.add_mul, Nat.add_mul]
    have h5 : (pOne f v fl (pAt t i)).length + (encTg (pTag1Of f v fl (pAt t i))).length ≤ (pField f v fl (pAt t i)).length + 22 := by
      have e0 : (encTg []).length = 0 := rfl
      by_cases hg : f.tag < 0
      · have hz : pTag1Of f v fl (pAt t i) = [] := by unfold pTag1Of; rw [if_neg (fun h => by omega)]
        rw [hz, e0]
        unfold pOne
        split
        · omega
        · simp only [List.length_nil]; omega
      · have hz : pOne f v fl (pAt t i) = [] := by unfold pOne; rw [if_neg (by simp [hg])]
        rw [hz]
        unfold pTag1Of
        split
        · have e : encTg [(f.tag, pField f v fl (pAt t i))] = pUv f.tag.toNat ++ (pUv (pField f v fl (pAt t i)).length ++ pField f v fl (pAt t i)) := by simp [encTg, pTag1]
          have l1 := pUv_length f.tag.toNat
          have l2 := pUv_length (pField f v fl (pAt t i)).length
          rw [e]
          simp only [List.length_append, List.length_nil]
          omega
        · rw [e0]
          simp only [List.length_nil]
          omega
    omega
end

theorem pWriteT_len (fs : List PF) (x v : Int) (t : PT) : (pWrite fs x v t).length ≤ kPartT fs * t.wt := partT_len (pPlainT_len v (pFlex x v) fs t 0)

end Go.Kf


namespace Go.Kf

open Go

def PF.untag : PF → PF
  | .mk k fr to n _ d e sub => .mk k fr to n (-1) d e sub

theorem pField_untag (f : PF) (v : Int) (fl : Bool) (t : PT) : pField f.untag v fl t = pField f v fl t := by
  cases f
  rw [PF.untag, pField, pField]
  rfl

theorem pPlain_app (v : Int) (fl : Bool) (t : PT) : ∀ (a b : List PF) (i : Nat), pPlain (a ++ b) v fl t i = pPlain a v fl t i ++ pPlain b v fl t (i + a.length)
  | [], b, i => by simp [pPlain]
  | f :: a, b, i => by
    rw [List.cons_append, pPlain_cons, pPlain_cons, pPlain_app v fl t a b (i + 1), List.append_assoc, List.length_cons, show i + 1 + a.length = i + (a.length + 1) by omega]

theorem pTagged_cons (f : PF) (r : List PF) (v : Int) (fl : Bool) (t : PT) (i : Nat) : pTagged (f :: r) v fl t i = pTag1Of f v fl (pAt t i) ++ pTagged r v fl t (i + 1) := by rw [pTagged]; rfl

theorem pTagged_append (v : Int) (fl : Bool) (t : PT) : ∀ (a b : List PF) (i : Nat), pTagged (a ++ b) v fl t i = pTagged a v fl t i ++ pTagged b v fl t (i + a.length)
  | [], b, i => by simp [pTagged]
  | f :: a, b, i => by
    rw [List.cons_append, pTagged_cons, pTagged_cons, pTagged_append v fl t a b (i + 1), List.append_assoc, List.length_cons, show i + 1 + a.length = i + (a.length + 1) by omega]

theorem pTagged_none (v : Int) (fl : Bool) (t : PT) : ∀ (a : List PF) (i : Nat), (∀ f ∈ a, f.tag < 0) → pTagged a v fl t i = []
  | [], i, _ => by simp [pTagged]
  | f :: a, i, h => by
    rw [pTagged_cons, pTagged_none v fl t a (i + 1) fun x hx => h x (by simp [hx]), List.append_nil]
    unfold pTag1Of
    have := h f (by simp)
    rw [if_neg (fun h => by omega)]

theorem pPlain_none (v : Int) (fl : Bool) (t : PT) : ∀ (a : List PF) (i : Nat), (∀ f ∈ a, 0 ≤ f.tag) → pPlain a v fl t i = []
  | [], i, _ => by simp [pPlain]
  | f :: a, i, h => by
    rw [pPlain_cons, pPlain_none v fl t a (i + 1) fun x hx => h x (by simp [hx]), List.append_nil]
    unfold pOne
    have h0 := h f (by simp)
    have : decide (f.tag < 0) = false := by simp; omega
    rw [this]
    rfl

def rtHead (v : Int) (fl : Bool) : List PF → List Step → List TD → List FV → Nat → Bool
  | [], ss, _, _, _ => ss.isEmpty
  | f :: r, ss, ds, dflt, p => match ds with
    | [] => false
    | d :: ds' => match dflt[p]? with
      | none => false
      | some d0 => bif decide (f.tag < 0) && pHas f v then (match ss with
          | [] => false
          | s :: ss' => Nat.beq s.idx p && Nat.beq d.idx p && f.plain && rtField v fl f s d d0 && rtHead v fl r ss' ds' dflt (p + 1))
        else rtHead v fl r ss ds' dflt (p + 1)

theorem rtHead_ok (v : Int) (fl : Bool) : ∀ (fs : List PF) (ss : List Step) (ds : List TD) (dflt : List FV) (p : Nat), rtHead v fl fs ss ds dflt p = true → ∀ (t : PT) (i : Nat) (fs0 : List FV) (rest : List UInt8) (nl : Bool), t.ok → (nl = true → pPlain fs v fl t i ++ rest = []) → (∀ q, p ≤ q → fs0[q]? = dflt[q]?) →
    ∃ fs1, runSteps ss fs0 ⟨pPlain fs v fl t i ++ rest, false, nl⟩ = some (fs1, ⟨rest, false, nl⟩) ∧ ∀ q, q < p ∨ p + fs.length ≤ q → fs1[q]? = fs0[q]?
  | [], ss, ds, dflt, p, h => by
    intro t i fs0 rest nl hok hnl hsame
    simp only [rtHead, List.isEmpty_iff] at h
    subst h
    exact ⟨fs0, by simp [runSteps, pPlain], fun _ _ => rfl⟩
  | f :: r, ss, ds, dflt, p, h => by
    intro t i fs0 rest nl hok hnl hsame
    unfold rtHead at h
    split at h
    · cases h
    rename_i d ds'
    split at h
    · cases h
    rename_i d0 hd0
    rw [pPlain_cons] at hnl ⊢
    cases hb : decide (f.tag < 0) && pHas f v with
    | false =>
      rw [hb] at h
      simp only [cond] at h
      have hone : pOne f v fl (pAt t i) = [] := by unfold pOne; rw [hb]; rfl
      rw [hone, List.nil_append] at hnl ⊢
      obtain ⟨fs1, h1, h2⟩ := rtHead_ok v fl r ss ds' dflt (p + 1) h t (i + 1) fs0 rest nl hok hnl fun q hq => hsame q (by omega)
      exact ⟨fs1, h1, fun q hq => h2 q (by simp only [List.length_cons] at hq; omega)⟩
    | true =>
      rw [hb] at h
      simp only [cond] at h
      have hone : pOne f v fl (pAt t i) = pField f v fl (pAt t i) := by unfold pOne; rw [hb]; rfl
      rw [hone, List.append_assoc] at hnl ⊢
      split at h
      · cases h
      rename_i s ss'
      simp only [Bool.and_eq_true] at h
      have hs := Nat.eq_of_beq_eq_true h.1.1.1.1
      have hd := Nat.eq_of_beq_eq_true h.1.1.1.2
      have hF := rtField_ok v fl f s d d0 h.1.1.2 (hs.trans hd.symm) h.1.2
      obtain ⟨x, hx, _, _⟩ := hF (pAt t i) fs0 (pPlain r v fl t (i + 1) ++ rest) nl (hok.at i) hnl (by rw [hs, hsame p (Nat.le_refl _)]; exact hd0)
      obtain ⟨fs1, h1, h2⟩ := rtHead_ok v fl r ss' ds' dflt (p + 1) h.2 t (i + 1) (fs0.set s.idx x) rest nl hok (fun hn => (List.append_eq_nil_iff.1 (hnl hn)).2) fun q hq => by
        rw [List.getElem?_set_ne (by omega)]
        exact hsame q (by omega)
      refine ⟨fs1, by simp only [runSteps, hx]; exact h1, fun q hq => ?_⟩
      simp only [List.length_cons] at hq
      rw [h2 q (by omega), List.getElem?_set_ne (by omega)]

theorem filter_split : ∀ {tg : List (Int × List UInt8)} {K : Int}, tg.Pairwise (fun a b => a.1 < b.1) → (tg.filter fun p => decide (p.1 < K)) ++ (tg.filter fun p => p.1 == K) = tg.filter fun p => decide (p.1 < K + 1)
  | [], K, _ => rfl
  | p :: tg, K, h => by
    have h1 := List.pairwise_cons.1 h
    have ih := filter_split (K := K) h1.2
    by_cases hp : p.1 < K
    · rw [List.filter_cons_of_pos (by simpa using hp), List.filter_cons_of_neg (by simp; omega), List.filter_cons_of_pos (by simp; omega), List.cons_append, ih]
    · have hn : ∀ q ∈ tg, ¬ q.1 < K := fun q hq => by have := h1.1 q hq; omega
      have e1 : tg.filter (fun p => decide (p.1 < K)) = [] := List.filter_eq_nil_iff.2 fun q hq => by have := hn q hq; simpa using this
      have e2 : tg.filter (fun p => p.1 == K) = [] := List.filter_eq_nil_iff.2 fun q hq => by have := h1.1 q hq; simp; omega
      rw [List.filter_cons_of_neg (by simpa using hp), e1, List.nil_append]
      rw [e1, e2, List.nil_append] at ih
      by_cases hk : p.1 = K
      · rw [List.filter_cons_of_pos (by simpa using hk), List.filter_cons_of_pos (by simp; omega), e2, ← ih]
      · rw [List.filter_cons_of_neg (by simpa using hk), List.filter_cons_of_neg (by simp; omega), e2, ← ih]

theorem knownTo_asc {tg : List (Int × List UInt8)} (h : tg.Pairwise fun a b => a.1 < b.1) (h0 : ∀ p ∈ tg, 0 ≤ p.1) : ∀ K : Nat, knownTo tg K = tg.filter fun p => decide (p.1 < (K : Int))
  | 0 => by
    have : tg.filter (fun p => decide (p.1 < ((0 : Nat) : Int))) = [] := List.filter_eq_nil_iff.2 fun q hq => by have := h0 q hq; simp; omega
    rw [this]
    rfl
  | K + 1 => by
    rw [knownTo_succ, knownTo_asc h h0 K, filter_split h]
    rfl

theorem knownTo_all {tg : List (Int × List UInt8)} (h : tg.Pairwise fun a b => a.1 < b.1) (h0 : ∀ p ∈ tg, 0 ≤ p.1) {K : Nat} (hK : ∀ p ∈ tg, p.1 < (K : Int)) : knownTo tg K = tg := by
  rw [knownTo_asc h h0 K]
  exact List.filter_eq_self.2 fun p hp => by simpa using hK p hp

def ascTags : List PF → Int → Bool
  | [], _ => true
  | f :: r, b => decide (b < f.tag) && ascTags r f.tag

theorem ascTags_lt : ∀ {fs : List PF} {b : Int}, ascTags fs b = true → ∀ f ∈ fs, b < f.tag
  | f :: r, b, h, x, hx => by
    simp only [ascTags, Bool.and_eq_true, decide_eq_true_eq] at h
    rcases List.mem_cons.1 hx with e | hx
    · rw [e]; exact h.1
    · have := ascTags_lt h.2 x hx; omega

theorem pTagged_mem {v : Int} {fl : Bool} {t : PT} : ∀ {fs : List PF} {i : Nat} {p : Int × List UInt8}, p ∈ pTagged fs v fl t i → ∃ f ∈ fs, p.1 = f.tag ∧ 0 ≤ f.tag
  | [], i, p, h => by simp [pTagged] at h
  | f :: r, i, p, h => by
    rw [pTagged_cons] at h
    rcases List.mem_append.1 h with h | h
    · unfold pTag1Of at h
      split at h
      · rename_i hc
        simp only [List.mem_singleton] at h
        exact ⟨f, by simp, by rw [h], hc.1⟩
      · cases h
    · obtain ⟨g, hg, h1⟩ := pTagged_mem h
      exact ⟨g, by simp [hg], h1⟩

theorem pTagged_asc {v : Int} {fl : Bool} {t : PT} : ∀ {fs : List PF} {i : Nat} {b : Int}, ascTags fs b = true → (pTagged fs v fl t i).Pairwise fun a b => a.1 < b.1
  | [], i, b, h => by simp [pTagged]
  | f :: r, i, b, h => by
    simp only [ascTags, Bool.and_eq_true, decide_eq_true_eq] at h
    rw [pTagged_cons, List.pairwise_append]
    refine ⟨?_, pTagged_asc h.2, fun a ha q hq => ?_⟩
    · unfold pTag1Of
      split
      · exact List.pairwise_singleton _ _
      · exact List.Pairwise.nil
    · unfold pTag1Of at ha
      split at ha
      · simp only [List.mem_singleton] at ha
        obtain ⟨g, hg, h1, _⟩ := pTagged_mem hq
        have := ascTags_lt h.2 g hg
        rw [ha, h1]
        exact this
      · cases ha

theorem pKnown_ge : ∀ {fs : List PF} {n : Nat}, n ≤ pKnown fs n ∧ ∀ f ∈ fs, 0 ≤ f.tag → f.tag.toNat + 1 ≤ pKnown fs n
  | [], n => ⟨Nat.le_refl _, fun f hf => by cases hf⟩
  | f :: r, n => by
    obtain ⟨h1, h2⟩ := pKnown_ge (fs := r) (n := if 0 ≤ f.tag then max n (f.tag.toNat + 1) else n)
    rw [pKnown]
    refine ⟨Nat.le_trans ?_ h1, fun g hg h0 => ?_⟩
    · split <;> omega
    · rcases List.mem_cons.1 hg with e | hg
      · rw [e] at h0 ⊢
        rw [if_pos h0] at h1 ⊢
        omega
      · exact h2 g hg h0

theorem pPut_in {q : Nat × List UInt8} : ∀ {m : TM} {p : Nat × List UInt8}, p ∈ pPut q m → p = q ∨ p ∈ m
  | [], p, h => by simp only [pPut, List.mem_singleton] at h; exact .inl h
  | a :: m, p, h => by
    rw [pPut] at h
    split at h
    · rcases List.mem_cons.1 h with e | h
      · exact .inr (by simp [e])
      · rcases pPut_in h with e | h
        · exact .inl e
        · exact .inr (by simp [h])
    · split at h
      · exact .inr h
      · rcases List.mem_cons.1 h with e | h
        · exact .inl e
        · exact .inr h

theorem pUnknownN_least {least : Nat} : ∀ {u out : TM}, (∀ p ∈ out, least ≤ p.1) → ∀ p ∈ pUnknownN least u out, least ≤ p.1
  | [], out, h => h
  | q :: u, out, h => by
    rw [pUnknownN]
    refine pUnknownN_least fun p hp => ?_
    split at hp
    · exact h p hp
    · rcases pPut_in hp with e | hp
      · rw [e]; omega
      · exact h p hp

theorem tgCase_get : ∀ {fs : List PF} {ss : List Step} {j : Nat} {f : PF} {s : Step} {b : Int}, ascTags fs b = true → 0 ≤ b + 1 → fs[j]? = some f → ss[j]? = some s → tgCase (fs.map fun f => f.tag.toNat) ss f.tag.toNat = some s
  | g :: fs, s0 :: ss, 0, f, s, b, _, _, h1, h2 => by
    simp only [List.getElem?_cons_zero, Option.some.injEq] at h1 h2
    subst h1
    subst h2
    simp [tgCase]
  | g :: fs, s0 :: ss, j + 1, f, s, b, ha, hb, h1, h2 => by
    simp only [List.getElem?_cons_succ] at h1 h2
    simp only [ascTags, Bool.and_eq_true, decide_eq_true_eq] at ha
    have hlt := ascTags_lt ha.2 f (List.mem_of_getElem? h1)
    simp only [List.map_cons, tgCase]
    rw [if_neg (by omega)]
    exact tgCase_get ha.2 (by omega) h1 h2
  | [], _, _, _, _, _, _, _, h1, _ => by simp at h1
  | _ :: _, [], _, _, _, _, _, _, _, h2 => by simp at h2

theorem tgCase_none : ∀ {fs : List PF} {ss : List Step} {key : Nat}, (∀ f ∈ fs, f.tag.toNat ≠ key) → tgCase (fs.map fun f => f.tag.toNat) ss key = none
  | [], _, _, _ => by simp [tgCase]
  | f :: fs, [], _, _ => by simp [tgCase]
  | f :: fs, s :: ss, key, h => by
    simp only [List.map_cons, tgCase]
    rw [if_neg (fun e => h f (by simp) e.symm)]
    exact tgCase_none fun g hg => h g (by simp [hg])

def tgFits (v : Int) : List PF → List Step → List TD → List FV → Nat → Bool
  | [], ss, _, _, _ => ss.isEmpty
  | f :: r, s :: ss, d :: ds, dflt, p => decide (0 ≤ f.tag) && decide (f.tag < 2147483647) && Nat.beq s.idx p && Nat.beq d.idx p && f.untag.plain && stepPre s dflt && immAt dflt p && (match dflt[p]? with
      | some d0 => rtField v true f.untag s d d0
      | none => false) && tgFits v r ss ds dflt (p + 1)
  | _, _, _, _, _ => false

theorem runTg_known {v : Int} {ks : List Nat} {sts : List Step} : ∀ (r : List PF) (ss : List Step) (ds : List TD) (dflt : List FV) (p i n : Nat) (t : PT) (fs : List FV) (rest : List UInt8), tgFits v r ss ds dflt p = true → (∀ (j : Nat) (f : PF) (s : Step), r[j]? = some f → ss[j]? = some s → tgCase ks sts f.tag.toNat = some s) → t.ok → (∀ q, p ≤ q → fs[q]? = dflt[q]?) → (encTg (pTagged r v true t i)).length < 4294967296 →
    ∃ fs', runTg ks sts ((pTagged r v true t i).length + n) fs [] ⟨encTg (pTagged r v true t i) ++ rest, false, false⟩ = runTg ks sts n fs' [] ⟨rest, false, false⟩ ∧ ∀ q, q < p ∨ p + r.length ≤ q → fs'[q]? = fs[q]?
  | [], ss, ds, dflt, p, i, n, t, fs, rest, _, _, _, _, _ => ⟨fs, by simp [pTagged, encTg], fun _ _ => rfl⟩
  | f :: r, s :: ss, d :: ds, dflt, p, i, n, t, fs, rest, h, hc, hok, hsame, hlen => by
    simp only [tgFits, Bool.and_eq_true, decide_eq_true_eq] at h
    obtain ⟨⟨⟨⟨⟨⟨⟨⟨hg0, hg1⟩, hs⟩, hd⟩, hpl⟩, hpre⟩, himm⟩, hfit⟩, hrest⟩ := h
    have hs := Nat.eq_of_beq_eq_true hs
    have hd := Nat.eq_of_beq_eq_true hd
    rw [pTagged_cons] at hlen ⊢
    unfold pTag1Of at hlen ⊢
    cases hu : pUsual f (pAt t i) with
    | true =>
      rw [hu] at hlen
      rw [if_neg (by simp), List.nil_append] at hlen ⊢
      obtain ⟨fs', h1, h2⟩ := runTg_known r ss ds dflt (p + 1) (i + 1) n t fs rest hrest (fun j f s hf hs => hc (j + 1) f s hf hs) hok (fun q hq => hsame q (by omega)) hlen
      exact ⟨fs', h1, fun q hq => h2 q (by simp only [List.length_cons] at hq; omega)⟩
    | false =>
      rw [hu] at hlen
      rw [if_pos ⟨hg0, rfl⟩] at hlen ⊢
      split at hfit
      case h_2 => cases hfit
      rename_i d0 hd0
      have hF := rtField_ok v true f.untag s d d0 hpl (hs.trans hd.symm) hfit
      have hfs : fs[s.idx]? = some d0 := by rw [hs, hsame p (Nat.le_refl _)]; exact hd0
      obtain ⟨x, hx, _, _⟩ := hF (pAt t i) fs [] false (hok.at i) (fun h => by cases h) hfs
      rw [pField_untag, List.append_nil] at hx
      have e : encTg ([(f.tag, pField f v true (pAt t i))] ++ pTagged r v true t (i + 1)) = pUv f.tag.toNat ++ (pUv (pField f v true (pAt t i)).length ++ (pField f v true (pAt t i) ++ encTg (pTagged r v true t (i + 1)))) := by simp [encTg, pTag1]
      rw [e] at hlen ⊢
      simp only [List.length_append] at hlen
      obtain ⟨fs', h1, h2⟩ := runTg_known r ss ds dflt (p + 1) (i + 1) n t (fs.set s.idx x) rest hrest (fun j f s hf hs => hc (j + 1) f s hf hs) hok (fun q hq => by rw [List.getElem?_set_ne (by omega)]; exact hsame q (by omega)) (by omega)
      refine ⟨fs', ?_, fun q hq => by simp only [List.length_cons] at hq; rw [h2 q (by omega), List.getElem?_set_ne (by omega)]⟩
      rw [← h1, List.length_append, List.length_singleton, show 1 + (pTagged r v true t (i + 1)).length + n = (pTagged r v true t (i + 1)).length + n + 1 by omega]
      have hone : runTg1 ks sts fs [] ⟨pUv f.tag.toNat ++ (pUv (pField f v true (pAt t i)).length ++ (pField f v true (pAt t i) ++ encTg (pTagged r v true t (i + 1)))) ++ rest, false, false⟩ = some (fs.set s.idx x, [], ⟨encTg (pTagged r v true t (i + 1)) ++ rest, false, false⟩) := by
        have e2 : pUv f.tag.toNat ++ (pUv (pField f v true (pAt t i)).length ++ (pField f v true (pAt t i) ++ encTg (pTagged r v true t (i + 1)))) ++ rest = pUv f.tag.toNat ++ (pUv (pField f v true (pAt t i)).length ++ (pField f v true (pAt t i) ++ (encTg (pTagged r v true t (i + 1)) ++ rest))) := by simp only [List.append_assoc]
        rw [e2]
        unfold runTg1
        rw [rUv_pUv _ (by omega)]
        simp only
        rw [hc 0 f s rfl rfl]
        simp only
        rw [rUv_pUv _ (by omega)]
        simp only
        rw [rSpan_left _ _ _ _ rfl]
        simp only
        have hpre' : stepPre s fs = true := by rw [stepPre_at (hfs.trans (by rw [hs]; exact hd0.symm) : fs[s.idx]? = dflt[s.idx]?)]; exact hpre
        have himm' : immAt fs s.idx = true := by
          unfold immAt at himm ⊢
          rw [hfs]
          rw [hd0] at himm
          exact himm
        rw [hpre', himm', hx]
        simp
      rw [runTg, hone]
  | _ :: _, [], _, _, _, _, _, _, _, _, h, _, _, _, _ => by simp [tgFits] at h
  | _ :: _, _ :: _, [], _, _, _, _, _, _, _, h, _, _, _, _ => by simp [tgFits] at h

theorem runTg_unknown {ks : List Nat} {sts : List Step} {fs : List FV} : ∀ (u m : TM) (rest : List UInt8), (∀ p ∈ u, p.1 < 4294967296) → u.Pairwise (fun a b => a.1 < b.1) → (∀ p ∈ m, ∀ q ∈ u, p.1 ≠ q.1) → (∀ p ∈ u, tgCase ks sts p.1 = none) →
    runTg ks sts u.length fs m ⟨pTags u ++ rest, false, false⟩ = some (fs, m ++ wholeTags u, ⟨rest, false, false⟩)
  | [], m, rest, _, _, _, _ => by simp [runTg, pTags, wholeTags]
  | q :: u, m, rest, h1, h2, h3, h4 => by
    have hw := pWhole_length q.2
    have e : pTags (q :: u) ++ rest = pUv q.1 ++ (pUv (pWhole q.2).length ++ (pWhole q.2 ++ (pTags u ++ rest))) := by
      simp only [pTags, List.map_cons, List.flatten_cons, pTag1, List.append_assoc]
    have hone : runTg1 ks sts fs m ⟨pUv q.1 ++ (pUv (pWhole q.2).length ++ (pWhole q.2 ++ (pTags u ++ rest))), false, false⟩ = some (fs, m ++ [(q.1, pWhole q.2)], ⟨pTags u ++ rest, false, false⟩) := by
      unfold runTg1
      rw [rUv_pUv _ (h1 q (by simp))]
      simp only
      rw [h4 q (by simp)]
      simp only
      rw [rUv_pUv _ (by omega)]
      simp only
      rw [rSpan_left _ _ _ _ rfl]
      simp only
      rw [tmSet_new fun p hp => h3 p hp q (by simp)]
    have h2' := List.pairwise_cons.1 h2
    rw [List.length_cons, runTg, e, hone]
    simp only
    rw [runTg_unknown u _ rest (fun p hp => h1 p (by simp [hp])) h2'.2 (fun p hp x hx => ?_) fun p hp => h4 p (by simp [hp])]
    · simp [wholeTags]
    · rcases List.mem_append.1 hp with hp | hp
      · exact h3 p hp x (by simp [hx])
      · simp only [List.mem_singleton] at hp
        subst hp
        exact Nat.ne_of_lt (h2'.1 x hx)

theorem runTg1_ok {ks : List Nat} {sts : List Step} {ts : List Ty} {fs fs' : List FV} {m m' : TM} {r r' : Rd} (hty : tySteps ts sts = true) (hok : okFs fs ts) (hl : r.l.length ≤ 1073741824) (h : runTg1 ks sts fs m r = some (fs', m', r')) : okFs fs' ts ∧ r'.l.length ≤ 1073741824 := by
  have hl2 := Nat.le_trans (rSpan_len (rUv (rUv r).2).1 (rUv (rUv r).2).2) (Nat.le_trans (rUv_len _) (Nat.le_trans (rUv_len r) hl))
  have hmem : ∀ {ss : List Step}, tySteps ts ss = true → ∀ s ∈ ss, tyStep ts s = true := by
    intro ss
    induction ss with
    | nil => intro _ s hs; cases hs
    | cons x ss ih =>
      intro hss s hs
      simp only [tySteps, Bool.and_eq_true] at hss
      rcases List.mem_cons.1 hs with e | hs
      · rw [e]; exact hss.1
      · exact ih hss.2 s hs
  unfold runTg1 at h
  split at h
  · rename_i s hs
    split at h
    · split at h
      · rename_i fs1 r1 hr
        split at h
        · cases h
        · simp only [Option.some.injEq, Prod.mk.injEq] at h
          obtain ⟨rfl, rfl, rfl⟩ := h
          exact ⟨runStep_ok s ts fs _ _ _ (hmem hty s (tgCase_mem hs)) hok (Nat.le_trans (rSpan_len1 _ _) (Nat.le_trans (rUv_len _) (Nat.le_trans (rUv_len r) hl))) hr, hl2⟩
      · cases h
    · cases h
  · simp only [Option.some.injEq, Prod.mk.injEq] at h
    obtain ⟨rfl, rfl, rfl⟩ := h
    exact ⟨hok, hl2⟩

theorem runTg_ok {ks : List Nat} {sts : List Step} {ts : List Ty} (hty : tySteps ts sts = true) : ∀ (n : Nat) (fs : List FV) (m : TM) (r : Rd) (fs' : List FV) (m' : TM) (r' : Rd), okFs fs ts → r.l.length ≤ 1073741824 → runTg ks sts n fs m r = some (fs', m', r') → okFs fs' ts
  | 0, fs, m, r, fs', m', r', hok, _, h => by
    simp only [runTg, Option.some.injEq, Prod.mk.injEq] at h
    rw [← h.1]; exact hok
  | n + 1, fs, m, r, fs', m', r', hok, hl, h => by
    simp only [runTg] at h
    split at h
    · rename_i fs1 m1 r1 h1
      obtain ⟨g1, g2⟩ := runTg1_ok hty hok hl h1
      exact runTg_ok hty n fs1 m1 r1 fs' m' r' g1 g2 h
    · cases h

theorem pWrite_split {a b : List PF} {x v : Int} (ha : ∀ f ∈ a, f.tag < 0) (hb : ascTags b (-1) = true) (t : PT) : pWrite (a ++ b) x v t = pPlain a v (pFlex x v) t 0 ++ if pFlex x v then pUv ((pTagged b v (pFlex x v) t a.length).length + (pUnknown (a ++ b) t.u).length) ++ (encTg (pTagged b v (pFlex x v) t a.length) ++ pTags (pUnknown (a ++ b) t.u)) else [] := by
  have hb0 : ∀ f ∈ b, 0 ≤ f.tag := fun f hf => by have := ascTags_lt hb f hf; omega
  have hasc : (pTagged b v (pFlex x v) t a.length).Pairwise fun a b => a.1 < b.1 := pTagged_asc hb
  have hk : knownTo (pTagged b v (pFlex x v) t a.length) (pKnown (a ++ b) 0) = pTagged b v (pFlex x v) t a.length := by
    refine knownTo_all hasc (fun p hp => ?_) fun p hp => ?_
    · obtain ⟨f, _, h1, h2⟩ := pTagged_mem hp
      rw [h1]; exact h2
    · obtain ⟨f, hf, h1, h2⟩ := pTagged_mem hp
      have := (pKnown_ge (fs := a ++ b) (n := 0)).2 f (List.mem_append_right _ hf) h2
      rw [h1]; omega
  unfold pWrite
  rw [pPart_tags, pPlain_app, pTagged_append, pTagged_none v _ t a 0 ha, pPlain_none v _ t b _ hb0, List.append_nil, List.nil_append, Nat.zero_add, hk]

/-- What was written with no tags at all. -/
theorem rtT_plain {a b : List PF} {x v : Int} {ss : List Step} {ds : List TD} {dflt : List FV} {p : Nat} (ha : ∀ f ∈ a, f.tag < 0) (hb : ascTags b (-1) = true) (hfl : pFlex x v = false) (h : rtHead v false a ss ds dflt p = true) (t : PT) (hok : t.ok) :
    ∃ fs1, runSteps ss dflt ⟨pWrite (a ++ b) x v t, false, (pWrite (a ++ b) x v t).isEmpty⟩ = some (fs1, ⟨[], false, (pWrite (a ++ b) x v t).isEmpty⟩) := by
  have e := pWrite_split (x := x) (v := v) ha hb t
  rw [hfl] at e
  simp only [Bool.false_eq_true, if_false, List.append_nil] at e
  rw [e]
  obtain ⟨fs1, h1, _⟩ := rtHead_ok v false a ss ds dflt p h t 0 dflt [] (pPlain a v false t 0).isEmpty hok (fun hn => by rw [List.append_nil]; simpa using hn) fun q _ => rfl
  rw [List.append_nil] at h1
  exact ⟨fs1, h1⟩

theorem rtT_tags {a b : List PF} {x v : Int} {ss sts : List Step} {dsA dsB : List TD} {dflt : List FV} {p i : Nat} (ha : ∀ f ∈ a, f.tag < 0) (hb : ascTags b (-1) = true) (hfl : pFlex x v = true) (h : rtHead v true a ss dsA dflt p = true) (hB : tgFits v b sts dsB dflt (p + a.length) = true) (hi : i = p + a.length + b.length) (hd : dflt[i]? = some (.tags [])) (t : PT) (hok : t.ok) (hn : b.length ≤ 100000) (hl : (pWrite (a ++ b) x v t).length ≤ 1073741824) :
    ∃ fsA rA fs2 r2, runSteps ss dflt ⟨pWrite (a ++ b) x v t, false, (pWrite (a ++ b) x v t).isEmpty⟩ = some (fsA, rA) ∧ fsA[i]? = some (.tags []) ∧ rA.l.length ≤ 1073741824 ∧ runTg (b.map fun f => f.tag.toNat) sts (rUv rA).1 fsA [] (rUv rA).2 = some (fs2, wholeTags (pUnknown (a ++ b) t.u), r2) ∧ r2.bad = false := by
  have e := pWrite_split (x := x) (v := v) ha hb t
  rw [hfl] at e
  simp only [if_true] at e
  rw [e] at hl ⊢
  have hun := unknown_fine (a ++ b) hok
  have htl : (pTagged b v true t a.length).length ≤ b.length := by
    have : ∀ (fs : List PF) (i : Nat), (pTagged fs v true t i).length ≤ fs.length := by
      intro fs
      induction fs with
      | nil => intro i; simp [pTagged]
      | cons f r ih =>
        intro i
        rw [pTagged_cons, List.length_append, List.length_cons]
        have := ih (i + 1)
        unfold pTag1Of
        split
        · simp only [List.length_singleton]; omega
        · simp only [List.length_nil]; omega
    exact this b a.length
  have hul := hun.len
  have hpos : (pPlain a v true t 0 ++ (pUv ((pTagged b v true t a.length).length + (pUnknown (a ++ b) t.u).length) ++ (encTg (pTagged b v true t a.length) ++ pTags (pUnknown (a ++ b) t.u)))).isEmpty = false := by
    have := pUvN_pos 10 ((pTagged b v true t a.length).length + (pUnknown (a ++ b) t.u).length)
    cases hq : (pPlain a v true t 0 ++ (pUv ((pTagged b v true t a.length).length + (pUnknown (a ++ b) t.u).length) ++ (encTg (pTagged b v true t a.length) ++ pTags (pUnknown (a ++ b) t.u)))).isEmpty with
    | false => rfl
    | true =>
      rw [List.isEmpty_iff] at hq
      have h3 := congrArg List.length hq
      simp only [List.length_append, List.length_nil] at h3
      unfold pUv at h3
      omega
  rw [hpos]
  obtain ⟨fsA, h1, h2⟩ := rtHead_ok v true a ss dsA dflt p h t 0 dflt (pUv ((pTagged b v true t a.length).length + (pUnknown (a ++ b) t.u).length) ++ (encTg (pTagged b v true t a.length) ++ pTags (pUnknown (a ++ b) t.u))) false hok (fun hn => by cases hn) fun q _ => rfl
  simp only [List.length_append] at hl
  have hu : rUv ⟨pUv ((pTagged b v true t a.length).length + (pUnknown (a ++ b) t.u).length) ++ (encTg (pTagged b v true t a.length) ++ pTags (pUnknown (a ++ b) t.u)), false, false⟩ = ((pTagged b v true t a.length).length + (pUnknown (a ++ b) t.u).length, ⟨encTg (pTagged b v true t a.length) ++ pTags (pUnknown (a ++ b) t.u), false, false⟩) := rUv_pUv _ (by omega) _ _
  obtain ⟨fs2, g1, _⟩ := runTg_known (ks := b.map fun f => f.tag.toNat) (sts := sts) b sts dsB dflt (p + a.length) a.length (pUnknown (a ++ b) t.u).length t fsA (pTags (pUnknown (a ++ b) t.u)) hB (fun j f s hf hs => tgCase_get hb (by decide) hf hs) hok (fun q hq => h2 q (.inr hq)) (by omega)
  have g2 := runTg_unknown (ks := b.map fun f => f.tag.toNat) (sts := sts) (fs := fs2) (pUnknown (a ++ b) t.u) [] [] hun.key hun.asc (fun p hp => by cases hp) fun q hq => tgCase_none fun f hf e => by
    have h0 := ascTags_lt hb f hf
    have hlst := (pUnknownN_least (least := pKnown (a ++ b) 0) (u := t.u.take 32767) (out := []) fun p hp => by cases hp) q hq
    have := (pKnown_ge (fs := a ++ b) (n := 0)).2 f (List.mem_append_right _ hf) (by omega)
    omega
  rw [List.append_nil, List.nil_append] at g2
  refine ⟨fsA, _, fs2, ⟨[], false, false⟩, h1, by rw [h2 i (.inr (by omega))]; exact hd, by simp only [List.length_append]; omega, ?_, rfl⟩
  rw [hu]
  simp only
  rw [g1, g2]

end Go.Kf



namespace Go.Kf

open Go

section

variable {P : Program} {c : Nums} {s : SN} {w : World}

theorem dftLawT_gives {f fMax fMsg fVer fTell fGot fDfts n m : Nat} {fs : List PF} {x : Int} {e0 : Value} {t : PT} {ts : List Value} (S : SpFacts P c s) (T : SpTrees P c s) (Nt : NumTys P c) (hNum : treeIn P s.number noOrc [.tmp 0, .tmp 1] 2 = tNumber c) (hDfts : treeIn P fDfts noOrc [.tmp 0, .tmp 1] 2 = tDefaults c s) (hcell : cellOf P c.sTree 0 = some 0) (Fi : FitTrees P c s) (K : TellFacts P c) (Z : TyFacts P c c.tTree c.tTrees c.tTagL c.tTag)
    (hT : treeIn P f noOrc [.tmp 0, .tmp 1] 2 = tDftLaw c s fMax fMsg fVer fTell fGot fDfts) (hSame : treeIn P s.same noOrc [.tmp 0, .tmp 1] 2 = tSame c) (hUs : treeIn P s.usual noOrc [.tmp 0, .tmp 1] 2 = tUsual c s) (hpl : PF.fines fs = true) (hlen : fs.length < 65536)
    (hMsgZero : ∃ z, zeroTy P s.msg = some (z, 2) ∧ z.cells.toList.length = 2) (hMax : ∀ w, Gives P fMax [] w fun v w' => v = .int .i64 m ∧ Keeps [] w w') (hVer : ∀ w, Gives P fVer [.int .u8 n, .int .i64 m] w fun v w' => v = .int .i64 (n % (m + 1) : Nat) ∧ w' = w) (hMsg : MsgFn P fMsg fs x)
    (hTell : ∀ (w : World) (data : Value), DataIn w data (pWrite fs x (n % (m + 1) : Nat) t) → ErrAt w c.gErr e0 → Gives P fTell [.int .i64 (n % (m + 1) : Nat), data] w fun v w' => (∃ g, DoorPost w w' v (some g) ∧ pDefs fs g 0 = true) ∧ Keeps [] w w')
    (hle : (pWrite fs x (n % (m + 1) : Nat) t).length ≤ 1073741824)
    (hGot : ∀ x, GotOf P fGot x) (ht : TreeC w t ts) (hok : t.ok) (he : ErrAt w c.gErr e0) : Gives P f [.int .u8 n, .agg ⟨ts⟩] w fun v w' => v = .bool true ∧ Keeps [] w w' := by
  have htl := ht.len
  have tk : (ts.drop 0).take 5 = ts := by rw [List.drop_zero, List.take_of_length_le (by omega)]
  refine gives_in (ρ := en [.int .u8 n, .agg ⟨ts⟩]) S.rd.mix hT (Nat.le_refl _) rfl (by simp [opBelow]) ?_
  refine s_box rfl fun w1 h2 k1 z1 => ?_
  refine s_lok (l_loadN (b := w.heap.size) (o := 0) S.ty.agg rfl h2 (by omega)) ?_
  rw [tk]
  refine s_callx (fits1_gives S Fi (TreeC.keep k1 _ _ ht)) rfl fun u w2 ⟨⟨q, hq⟩, k2⟩ => ?_
  subst hq
  refine s_val (v_not (b := q) rfl) ?_
  refine s_cond (b := !q) rfl (fun _ => s_ret1 ⟨rfl, k1.trans k2⟩) fun _ => ?_
  refine s_callx (hMax w2) rfl fun v w3 ⟨hv, k3⟩ => ?_
  subst hv
  refine s_val (v_cmp (kk := .i64) (a := m) (b := 0) (r := false) rfl rfl (by simp [cmpOf])) ?_
  refine s_cond (b := false) rfl (fun h => by cases h) fun _ => ?_
  refine s_callx (hMsg w3) rfl fun v w4 ⟨⟨fv, hv, hfv⟩, k4⟩ => ?_
  subst hv
  refine s_callx (hVer w4) rfl fun v w5 ⟨hv, hw⟩ => ?_
  subst hw
  subst hv
  have hone : fv.oneCell' = true := by
    obtain ⟨_, h1, _⟩ := hfv
    exact h1.one
  obtain ⟨zm, hzm, hzs⟩ : ∃ z, zeroTy P s.msg = some (z, 2) ∧ z.cells.toList.length = 2 := hMsgZero
  refine s_alloc hzm fun w6 h6 k6 z6 => ?_
  refine s_storeAll (b := w5.heap.size) (old := zm.cells.toList) (cs := [fv, .int .i64 x]) S.msg rfl rfl h6 hzs (fun u hu => ?_) fun w7 h7 k7 => ?_
  · simp only [List.mem_cons, List.not_mem_nil, or_false] at hu
    rcases hu with rfl | rfl
    · exact hone
    · rfl
  have k57 : Keeps [] w5 w7 := ((k6.mono (by simp)).trans k7).less fun y hy => .inr (by simp only [List.mem_singleton] at hy; omega)
  have hfv7 : FieldsV w7 fs fv := FieldsV.keep k57 hfv
  have k07 : Keeps [] w w7 := (((k1.trans k2).trans k3).trans k4).trans k57
  have h27 : Has w7 w.heap.size ts := h2.keep (((k2.trans k3).trans k4).trans k57) (by simp)
  refine s_lok (l_loadN (b := w5.heap.size) (o := 0) S.msg rfl h7 (Nat.le_refl _)) ?_
  rw [show (([fv, Value.int .i64 x].drop 0).take 2) = [fv, .int .i64 x] from rfl]
  refine s_lok (l_loadN (b := w.heap.size) (o := 0) S.ty.agg rfl h27 (by omega)) ?_
  rw [tk]
  have hmx : (1073741824 : Nat) ≤ maxW := by decide
  refine s_callO (writeT_gives S T hUs hSame hpl hlen x (n % (m + 1) : Nat) hfv7 (TreeC.keep k07 _ _ ht) hok (Nat.le_trans hle hmx)) rfl fun u w8 hM => ⟨fun p hp => (by cases hp), ?_⟩
  have k08 := k07.trans hM.2.2
  refine s_callx (hTell w8 u (DataIn.of_own hM.1) (he.keep k08 (by simp))) rfl fun v w9 ⟨hd, k9⟩ => ?_
  obtain ⟨g, hd, hg2⟩ := hd
  obtain ⟨cs, rfl, htr⟩ := hd
  have hcl := htr.len
  refine s_val (v_extract (vs := #[.agg ⟨cs⟩, .bool true]) rfl rfl) ?_
  refine s_val (v_extract (vs := #[.agg ⟨cs⟩, .bool true]) rfl rfl) ?_
  refine s_alloc K.zero fun wa ha ka za => ?_
  refine s_storeAll (b := w9.heap.size) (old := zeroTree) (cs := cs) (by rw [hcl]; exact Z.agg) rfl rfl ha (by rw [hcl]; rfl) htr.ones fun wb hb kb => ?_
  have k9b : Keeps [] w9 wb := ((ka.mono (by simp)).trans kb).less fun y hy => .inr (by simp only [List.mem_singleton] at hy; omega)
  show Tr.sem _ _ _ _ _ _ { wb with drawn := wb.drawn + 1 }
  have hd : Keeps [] wb { wb with drawn := wb.drawn + 1 } := keeps_drawn wb _ _
  generalize ({ wb with drawn := wb.drawn + 1 } : World) = wc at hd ⊢
  have k7c : Keeps [] w7 wc := ((hM.2.2.trans k9).trans k9b).trans hd
  have k0c := k07.trans k7c
  have h7c := h7.keep k7c (by simp)
  have h2c := h27.keep k7c (by simp)
  have hbc := hb.keep hd (by simp)
  refine s_cond (b := true) rfl (fun _ => ?_) (fun h => by cases h)
  refine p_val (v_field (b := w5.heap.size) (o := 0) S.m0 rfl) ?_
  refine l_lok (l_load1 (b := w5.heap.size) (o := 0) S.oneFields rfl h7c rfl) ?_
  refine l_lok (l_loadN (b := w9.heap.size) (o := 0) Z.agg rfl hbc (by omega)) ?_
  rw [show (cs.drop 0).take 5 = cs by rw [List.drop_zero, List.take_of_length_le (by omega)]]
  have htc : TreeAt wc (fun b => w8.heap.size ≤ b) g cs := TreeAt.keep (k9b.trans hd) (fun b hb => by cases hb) (fun _ h _ => h) _ _ htr
  refine s_call (xs := [.tmp 22]) (hGot g wc _ cs htc) fun u we ⟨⟨gs, hu, hgt⟩, ke⟩ => ⟨?_, ?_⟩
  · intro p hp
    simp only [List.mem_singleton] at hp
    subst hp
    exact l_load1 (b := w5.heap.size) (o := 0) S.oneFields rfl (h7c.keep ke (by simp)) rfl
  subst hu
  have k7e := k7c.trans ke
  refine s_callx (defaults_gives S (smalls_of S T) (fun _ kind x => number_gives S Nt hNum kind x) hcell hDfts hlen (hfv7.keep k7e) (TreeC.of_at hgt) hg2) rfl fun u wf ⟨hu, kf⟩ => ?_
  exact s_ret1 ⟨hu, (k07.trans k7e).trans kf⟩

end

end Go.Kf
