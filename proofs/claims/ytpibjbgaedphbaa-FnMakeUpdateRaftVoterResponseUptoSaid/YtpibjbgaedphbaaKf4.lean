/- The library for this proof, part 4: trees of function bodies, and what the package's functions do. -/
import Derived.Test.YtpibjbgaedphbaaKf3


namespace Go.Kf

open Go

def UsualWOf (P : Program) (s : SN) (f : PF) : Prop := ∀ (w : World) (t : PT) (cs ts : List Value), FieldC w f cs → TreeC w t ts → t.ok → Yields P s.usual [.agg ⟨cs⟩, .agg ⟨ts⟩] w (.bool (pUsual f t))

theorem encK_len : ∀ l : List (Int × List UInt8), l.length ≤ (encTg l).length
  | [] => Nat.le_refl _
  | p :: l => by
    have h1 := encK_len l
    have h2 : 0 < (pUv p.1.toNat).length := pUvN_pos 10 _
    have e : encTg (p :: l) = pTag1 p.1.toNat p.2 ++ encTg l := by simp [encTg]
    rw [e, List.length_append, pTag1_length, List.length_cons]
    omega

theorem pPart_tags (fs : List PF) (v : Int) (fl : Bool) (t : PT) : pPart fs v fl t = pPlain fs v fl t 0 ++ if fl then pUv ((knownTo (pTagged fs v fl t 0) (pKnown fs 0)).length + (pUnknown fs t.u).length) ++ (encTg (knownTo (pTagged fs v fl t 0) (pKnown fs 0)) ++ pTags (pUnknown fs t.u)) else [] := by
  unfold pPart pEnd
  cases fl <;> rfl

section

variable {P : Program} {c : Nums} {s : SN} {w : World}

theorem partT_step (S : SpFacts P c s) (Q : Smalls P s) (hK : treeIn P s.known noOrc [.tmp 0] 1 = tKnown c s) (hT : treeIn P s.part noOrc [.tmp 0, .tmp 1, .tmp 2, .tmp 3] 4 = tPart c s) {fs : List PF} (hp : ∀ f ∈ fs, f.tag < 2147483647) (hlen : fs.length < 2 ^ 31) (hF : ∀ f ∈ fs, FieldOf P s f) (hUs : ∀ f ∈ fs, 0 ≤ f.tag → UsualWOf P s f) (hU : UnknownOf P s fs) : PartOf P s fs := by
  intro w fv v fl t ts hfv ht hok hl
  rw [pPart_tags] at hl ⊢
  have htc := ht
  have hfv0 := hfv
  obtain ⟨fcs, hr, hfc⟩ := hfv
  obtain ⟨sv, lv, uv, lcs, ucs, rfl, h1, h2, h3, h4, h5⟩ := ht.cells
  rw [List.length_append] at hl
  refine gives_in (ρ := en [_, _, _, _]) S.rd.mix hT (Nat.le_refl _) rfl (by simp [opBelow]) ?_
  refine s_box rfl fun w1 hx1 k1 z1 => ?_
  obtain ⟨a, cp, e⟩ := hr.form
  refine s_val (v_len (a := a) (l := fs.length) (c := cp) S.sl e) ?_
  refine s_countV (n := 6) (q := 5) (kk := .i64) (m := fs.length) (ri := [.const (.slice none 0 0)]) (Γ := []) (fun j vr w' => ∃ acc, vr = [acc] ∧ MadeO w1 w' acc (pPlain (fs.take j) v fl t 0)) (by omega) rfl ⟨_, rfl, by rw [List.take_zero, pPlain]; exact MadeO.nil w1⟩ ?_ ?_
  · rintro j hj w2 vr ⟨acc, rfl, hA⟩ hvr J hJ
    have hj' : j < fs.length := by omega
    have k02 := k1.trans hA.2.2
    refine s_eachF (fv := fv) (fs := fs) (j := j) S (hfv0.keep k02) rfl rfl hj' fun w3 a3 b cs hh hf k3 hb => ?_
    have hf0 := hf
    obtain ⟨sv3, rfl, _⟩ := hf.cells
    have k13 := hA.2.2.trans k3
    have hle := pPlain_le fs (j + 1) v fl t
    rw [pPlain_take v fl t 0 hj', Nat.zero_add, List.length_append] at hle
    refine s_fl S.f4 S.oneInt rfl rfl hh rfl ?_
    refine s_val (v_cmp (kk := .i64) (a := (fs[j]'hj').tag) (b := 0) (r := decide ((fs[j]'hj').tag < 0)) rfl rfl rfl) ?_
    refine s_cond (b := decide ((fs[j]'hj').tag < 0)) rfl (fun hb1 => ?_) fun hb1 => ?hneg
    case hneg =>
      refine s_val (v_arith (kk := .i64) (a := j) (b := 1) (r := ((j + 1 : Nat) : Int)) rfl rfl ?_) ?_
      · simp only [arithOf, Option.some.injEq]; rw [IntKind.wrap_i64]; omega
      refine ⟨J, rfl, hJ [_] _ rfl ⟨acc, rfl, ?_⟩⟩
      have hone : pOne fs[j] v fl (pAt t j) = [] := by
        unfold pOne
        rw [if_neg (by rw [hb1, Bool.false_and]; simp)]
      rw [pPlain_take v fl t 0 hj', Nat.zero_add, hone, List.append_nil]
      exact hA.more k3
    refine s_lok (l_loadN (b := b) (o := 0) S.agg rfl hh (show 0 + 8 ≤ 8 by omega)) ?_
    refine s_callx (Q.has w3 fs[j] _ v hf0) rfl fun u w4 ⟨hu, k4⟩ => ?_
    subst hu
    have hf4 := FieldC.keep k4 _ _ hf0
    have hh4 := hh.keep k4 (by simp)
    have hA4 := (hA.more k3).more k4
    have k14 := k13.trans k4
    refine ⟨rfl, fun vs w' => ∃ acc', vs = [acc'] ∧ MadeO w1 w' acc' (pPlain (fs.take (j + 1)) v fl t 0), ?_, ?_⟩
    · refine s_cond (b := pHas fs[j] v) rfl (fun hb2 => ?_) fun hb2 => ⟨_, rfl, acc, rfl, ?_⟩
      · show Tr.sem _ _ _ _ _ _ { w4 with drawn := w4.drawn + 1 }
        have hd : Keeps [] w4 { w4 with drawn := w4.drawn + 1 } := keeps_drawn w4 _ _
        have hA5 := hA4.drawn (w4.drawn + 1)
        generalize ({ w4 with drawn := w4.drawn + 1 } : World) = w5 at hd hA5 ⊢
        have hh5 := hh4.keep hd (by simp)
        have hx5 := (hx1.keep k14 (by simp)).keep hd (by simp)
        have k15 := k14.trans hd
        refine l_lok (l_loadN (b := b) (o := 0) S.agg rfl hh5 (show 0 + 8 ≤ 8 by omega)) ?_
        refine l_lok (l_loadN (b := w.heap.size) (o := 0) S.ty.agg rfl hx5 (show 0 + 5 ≤ 5 by omega)) ?_
        refine s_call (xs := [.tmp 19, .tmp 7]) (Q.at_ w5 t _ j (TreeC.keep (k1.trans k15) _ _ htc)) fun u w6 ⟨k6, tcs, hu, htj⟩ => ⟨?_, ?_⟩
        · intro p hp
          simp only [List.mem_singleton] at hp
          subst hp
          exact l_loadN (b := b) (o := 0) S.agg rfl (hh5.keep k6 (by simp)) (show 0 + 8 ≤ 8 by omega)
        subst hu
        have hone : pOne fs[j] v fl (pAt t j) = pField fs[j] v fl (pAt t j) := by
          unfold pOne
          rw [if_pos (by rw [Bool.and_eq_true]; exact ⟨hb1, hb2⟩)]
        rw [hone] at hle
        refine s_callO (hF fs[j] (List.getElem_mem hj') w6 v fl (pAt t j) _ tcs (FieldC.keep (hd.trans k6) _ _ hf4) htj (hok.at j) (by omega)) rfl fun v3 w7 hM7 => ⟨fun p hp => (by cases hp), ?_⟩
        refine s_appendO (v := acc) (u := v3) (l2 := pField fs[j] v fl (pAt t j)) S rfl rfl ((hA5.more k6).more hM7.2.2) (hM7.1.reads.src S.rd.bytes (bcells_one _)) (by rw [List.length_append]; unfold maxW at hl; omega) fun v4 w8 hM8 _ => ⟨fun p hp => (by cases hp), ?_⟩
        refine ⟨_, rfl, v4, rfl, ?_⟩
        rw [pPlain_take v fl t 0 hj', Nat.zero_add, hone]
        exact hM8
      · have hone : pOne fs[j] v fl (pAt t j) = [] := by
          unfold pOne
          rw [if_neg (by rw [hb2, Bool.and_false]; simp)]
        rw [pPlain_take v fl t 0 hj', Nat.zero_add, hone, List.append_nil]
        exact hA4
    · rintro vs w' _ ⟨acc', rfl, hA'⟩
      refine s_val (v_arith (kk := .i64) (a := j) (b := 1) (r := ((j + 1 : Nat) : Int)) rfl rfl ?_) ?_
      · simp only [arithOf, Option.some.injEq]; rw [IntKind.wrap_i64]; omega
      exact ⟨J, rfl, hJ [_] _ rfl ⟨acc', rfl, hA'⟩⟩
  · rintro w2 vr J ⟨acc, rfl, hA⟩ hvr
    rw [Int.toNat_natCast, List.take_length] at hA
    refine s_val (v_not (b := fl) rfl) ?_
    refine s_cond (b := !fl) rfl (fun hb => ?_) fun hb => ?_
    · have : fl = false := by simpa using hb
      subst this
      refine s_ret1 ?_
      rw [if_neg (by simp), List.append_nil]
      exact hA.under k1
    · have : fl = true := by simpa using hb
      subst this
      simp only [if_true] at hl ⊢
      have k02 := k1.trans hA.2.2
      have k03 := k02.trans (Keeps.refl (w := w2))
      refine s_callx (known_gives S hK hp (hfv0.keep k02) hlen) rfl fun u w3 ⟨hu, k3⟩ => ?_
      subst hu
      have hKlt := pKnown_lt fs 0 hp (by decide)
      generalize pKnown fs 0 = K at hl hKlt ⊢
      refine s_val (v_conv (k1 := .u32) (k2 := .i64) (a := (K : Nat)) S.rd.u32 S.rd.int rfl) ?_
      rw [show IntKind.i64.wrap ((K : Nat) : Int) = (K : Nat) by rw [IntKind.wrap_i64]; omega]
      have k13 := hA.2.2.trans k3
      have kw3 : Keeps [] w w3 := k1.trans k13
      generalize hTG : pTagged fs v true t 0 = TG at hl ⊢
      have hlen0 := encK_len (knownTo TG K)
      generalize hun : pUnknown fs t.u = un at hl ⊢
      simp only [List.length_append] at hl
      refine s_countV (n := 12) (q := 11) (kk := .i64) (m := K) (ri := [.const (.slice none 0 0), .const (.int .i64 0)]) (Γ := [J]) (fun k vr w' => ∃ acc', vr = [acc', .int .i64 ((knownTo TG k).length : Nat)] ∧ MadeO w3 w' acc' (encTg (knownTo TG k))) (by omega) rfl ⟨.slice none 0 0, rfl, MadeO.nil w3⟩ ?_ ?_
      · rintro k hk w4 vr ⟨acc', rfl, hB⟩ hvr Jo hJo
        have hk' : k < K := by omega
        have hleK := knownTo_le TG (k := k + 1) (K := K) (by omega)
        have hnK := encK_len (knownTo TG (k + 1))
        rw [knownTo_succ, encK_append, List.length_append] at hleK
        rw [knownTo_succ, encK_append, List.length_append, List.length_append] at hnK
        refine s_val (v_len (a := a) (l := fs.length) (c := cp) S.sl e) ?_
        refine s_countV (n := 17) (q := 16) (kk := .i64) (m := fs.length) (ri := [.tmp 12, .tmp 13]) (Γ := [J, Jo]) (fun j vr w' => ∃ acc2, vr = [acc2, .int .i64 ((knownTo TG k ++ (pTagged (fs.take j) v true t 0).filter fun p => p.1 == (k : Int)).length : Nat)] ∧ MadeO w3 w' acc2 (encTg (knownTo TG k ++ (pTagged (fs.take j) v true t 0).filter fun p => p.1 == (k : Int)))) (by omega) rfl
          ⟨acc', by rw [List.take_zero, pTagged, List.filter_nil, List.append_nil]; rfl, by rw [List.take_zero, pTagged, List.filter_nil, List.append_nil]; exact hB⟩ ?_ ?_
        · rintro j hj w5 vr ⟨acc2, rfl, hC⟩ hvr Ji hJi
          have hj' : j < fs.length := by omega
          have kw5 : Keeps [] w w5 := kw3.trans hC.2.2
          -- what the step adds
          have htk := pTagged_take v true t (fs := fs) 0 hj'
          rw [Nat.zero_add] at htk
          obtain ⟨rest, hrest⟩ := pTagged_prefix v true t fs (j + 1)
          rw [hTG] at hrest
          have hbnd : (encTg ((pTagged (fs.take (j + 1)) v true t 0).filter fun p => p.1 == (k : Int))).length ≤ (encTg (TG.filter fun p => p.1 == (k : Int))).length := by
            rw [hrest, List.filter_append, encK_append, List.length_append]; omega
          have hbndn : ((pTagged (fs.take (j + 1)) v true t 0).filter fun p => p.1 == (k : Int)).length ≤ (TG.filter fun p => p.1 == (k : Int)).length := by
            rw [hrest, List.filter_append, List.length_append]; omega
          rw [htk, List.filter_append, encK_append, List.length_append] at hbnd
          rw [htk, List.filter_append, List.length_append] at hbndn
          refine s_eachF (fv := fv) (fs := fs) (j := j) S (hfv0.keep kw5) rfl rfl hj' fun w6 a6 b cs hh hf k6 hb => ?_
          have hf0 := hf
          obtain ⟨sv3, rfl, _⟩ := hf.cells
          show Tr.sem _ _ _ _ _ _ { w6 with drawn := w6.drawn + 1 }
          have hd : Keeps [] w6 { w6 with drawn := w6.drawn + 1 } := keeps_drawn w6 _ _
          generalize ({ w6 with drawn := w6.drawn + 1 } : World) = w7 at hd ⊢
          have hh7 := hh.keep hd (by simp)
          have k57 := k6.trans hd
          have hC7 := (hC.more k6).more hd
          have kw7 := kw5.trans k57
          have hf7 := FieldC.keep hd _ _ hf0
          have hx7 := hx1.keep ((hA.2.2.trans k3).trans (hC.2.2.trans k57)) (by simp)
          refine p_fl S.f4 S.oneInt rfl rfl hh7 rfl ?_
          refine p_val (v_cmp (kk := .i64) (a := (fs[j]'hj').tag) (b := (k : Int)) (r := (fs[j]'hj').tag == (k : Int)) rfl rfl rfl) ?_
          refine s_cond (b := (fs[j]'hj').tag == (k : Int)) rfl (fun hb1 => ?_) fun hb1 => ?_
          · have hkt : (fs[j]'hj').tag = (k : Int) := by simpa using hb1
            have ldF : ∀ (w' : World) (ρ : Nat → Value), Keeps [] w7 w' → ρ 23 = ptr b → runOp P ρ (.load s.field (.tmp 23)) w' = .ok (.value (.agg ⟨[.int .i64 (fs[j]'hj').kind, .int .i64 (fs[j]'hj').fr, .int .i64 (fs[j]'hj').to, .int .i64 (fs[j]'hj').nul, .int .i64 (fs[j]'hj').tag, .int .i64 (fs[j]'hj').dflt, .int .i64 (fs[j]'hj').elem, sv3]⟩)) w' := fun w' ρ kk hρ => l_loadN (P := P) (ρ := ρ) (w := w') (x := .tmp 23) (b := b) (o := 0) S.agg hρ (hh7.keep kk (by simp)) (show 0 + 8 ≤ 8 by omega)
            have ldG : ∀ (w' : World) (ρ : Nat → Value), Keeps [] w7 w' → ρ 25 = ptr b (0 + 4) → runOp P ρ (.load c.tInt (.tmp 25)) w' = .ok (.value (.int .i64 (fs[j]'hj').tag)) w' := fun w' ρ kk hρ => l_load1 (P := P) (ρ := ρ) (w := w') (x := .tmp 25) (b := b) (o := 0 + 4) S.oneInt hρ (hh7.keep kk (by simp)) rfl
            refine l_lok (ldF w7 _ .refl rfl) ?_
            refine l_lok (l_loadN (b := w.heap.size) (o := 0) S.ty.agg rfl hx7 (show 0 + 5 ≤ 5 by omega)) ?_
            refine s_call (xs := [.tmp 29, .tmp 19]) (Q.at_ w7 t _ j (TreeC.keep kw7 _ _ htc)) fun u w8 ⟨k8, tcs, hu, htj⟩ => ⟨?_, ?_⟩
            · intro p hp
              simp only [List.mem_cons, List.not_mem_nil, or_false] at hp
              rcases hp with rfl | rfl
              · exact ldF w8 _ k8 rfl
              · exact ldG w8 _ k8 rfl
            subst hu
            refine s_call (xs := [.tmp 28, .tmp 30]) (hUs fs[j] (List.getElem_mem hj') (by omega) w8 (pAt t j) _ tcs (FieldC.keep k8 _ _ hf7) htj (hok.at j)) fun u w9 ⟨hu, k9⟩ => ⟨?_, ?_⟩
            · intro p hp
              simp only [List.mem_singleton] at hp
              subst hp
              exact ldG w9 _ (k8.trans k9) rfl
            subst hu
            have k79 := k8.trans k9
            have hC9 := hC7.more k79
            refine p_val (v_not (b := pUsual fs[j] (pAt t j)) rfl) ?_
            refine ⟨rfl, fun vs w' => ∃ acc3, vs = [acc3, .int .i64 ((knownTo TG k ++ (pTagged (fs.take (j + 1)) v true t 0).filter fun p => p.1 == (k : Int)).length : Nat)] ∧ MadeO w3 w' acc3 (encTg (knownTo TG k ++ (pTagged (fs.take (j + 1)) v true t 0).filter fun p => p.1 == (k : Int))), ?_, ?_⟩
            · refine s_cond (b := !pUsual fs[j] (pAt t j)) rfl (fun hb2 => ?_) fun hb2 => ⟨_, rfl, acc2, ?_, ?_⟩
              · have husl : pUsual fs[j] (pAt t j) = false := by simpa using hb2
                have hone : (pTag1Of fs[j] v true (pAt t j)).filter (fun p => p.1 == (k : Int)) = [((k : Int), pField fs[j] v true (pAt t j))] := by
                  unfold pTag1Of
                  rw [if_pos ⟨by omega, husl⟩, hkt]
                  simp
                rw [hone] at hbnd hbndn
                have e1 : encTg [((k : Int), pField fs[j] v true (pAt t j))] = pUv k ++ pUv (pField fs[j] v true (pAt t j)).length ++ pField fs[j] v true (pAt t j) := by simp [encTg, pTag1]
                rw [e1] at hbnd
                simp only [List.length_append, List.length_cons, List.length_nil] at hbnd hbndn hnK hleK
                show Tr.sem _ _ _ _ _ _ { w9 with drawn := w9.drawn + 1 }
                have hd2 : Keeps [] w9 { w9 with drawn := w9.drawn + 1 } := keeps_drawn w9 _ _
                generalize ({ w9 with drawn := w9.drawn + 1 } : World) = w10 at hd2 ⊢
                have k710 := k79.trans hd2
                refine l_lok (ldF w10 _ k710 rfl) ?_
                refine l_lok (l_loadN (b := w.heap.size) (o := 0) S.ty.agg rfl (hx7.keep k710 (by simp)) (show 0 + 5 ≤ 5 by omega)) ?_
                refine s_call (xs := [.tmp 34, .tmp 19]) (Q.at_ w10 t _ j (TreeC.keep (kw7.trans k710) _ _ htc)) fun u w11 ⟨k11, tcs2, hu, htj2⟩ => ⟨?_, ?_⟩
                · intro p hp
                  simp only [List.mem_singleton] at hp
                  subst hp
                  exact ldF w11 _ (k710.trans k11) rfl
                subst hu
                refine s_callO (hF fs[j] (List.getElem_mem hj') w11 v true (pAt t j) _ tcs2 (FieldC.keep (k710.trans k11) _ _ hf7) htj2 (hok.at j) (by omega)) rfl fun v3 w12 hM12 => ⟨fun p hp => (by cases hp), ?_⟩
                refine s_val (v_conv (k1 := .i64) (k2 := .u64) (a := (k : Int)) S.rd.int S.u64 rfl) ?_
                rw [wraps_u64 _ (by omega) (by omega)]
                refine s_callO (Q.uv w12 k (by omega)) rfl fun v4 w13 hM13 => ⟨fun p hp => (by cases hp), ?_⟩
                have hC13 := ((((hC9.more hd2).more k11).more hM12.2.2).more hM13.2.2)
                refine s_appW (v := acc2) (u := v4) (e := pUv k) S rfl rfl hC13.1 (hM13.1.reads.src S.rd.bytes (bcells_one _)) (by simp only [encK_append, List.length_append]; unfold maxW at hl ⊢; omega) fun v5 w14 hp14 => ⟨fun p hp => (by cases hp), ?_⟩
                have hM14 := hC13.post hp14
                have kk14 := hp14.2.1
                have hM14w := hp14.2.2
                have hown3 : Own w14 v3 1 (pField fs[j] v true (pAt t j)).length (bcells (pField fs[j] v true (pAt t j))) := (hM12.1.keep hM13.2.2 (by simp)).keep kk14 fun b hb hb' => by
                  have h5 := hM12.2.1 b hb
                  have h6 := hC.1.lt b hb'
                  have h7 := k57.size
                  have h8 := k710.size
                  have h9 := k11.size
                  omega
                obtain ⟨a3, c3, e3⟩ := (Ro.of_reads hown3.reads).form
                refine s_val (v_len (a := a3) (l := (pField fs[j] v true (pAt t j)).length) (c := c3) S.rd.bytes e3) ?_
                refine s_val (v_conv (k1 := .i64) (k2 := .u64) (a := ((pField fs[j] v true (pAt t j)).length : Int)) S.rd.int S.u64 rfl) ?_
                rw [wraps_u64 _ (by omega) (by unfold maxW at hl; omega)]
                refine s_callO (Q.uv w14 (pField fs[j] v true (pAt t j)).length (by unfold maxW at hl; omega)) rfl fun v6 w15 hM15 => ⟨fun p hp => (by cases hp), ?_⟩
                refine s_appendO (v := v5) (u := v6) (l2 := pUv (pField fs[j] v true (pAt t j)).length) S rfl rfl (hM14.more hM15.2.2) (hM15.1.reads.src S.rd.bytes (bcells_one _)) (by simp only [encK_append, List.length_append]; unfold maxW at hl; omega) fun v7 w16 hM16 kk16 => ⟨fun p hp => (by cases hp), ?_⟩
                have hown16 : Own w16 v3 1 (pField fs[j] v true (pAt t j)).length (bcells (pField fs[j] v true (pAt t j))) := (hown3.keep hM15.2.2 (by simp)).keep kk16 fun b hb hb' => by
                  have h5 := hM12.2.1 b hb
                  have h6 := hM12.1.lt b hb
                  have h7 := hM13.2.2.size
                  rcases hM14w b hb' with h | h
                  · have h8 := hC.1.lt b h
                    have h9 := k57.size
                    have h10 := k710.size
                    have h11 := k11.size
                    omega
                  · omega
                refine s_appendO (v := v7) (u := v3) (l2 := pField fs[j] v true (pAt t j)) S rfl rfl hM16 (hown16.reads.src S.rd.bytes (bcells_one _)) (by simp only [encK_append, List.length_append]; unfold maxW at hl; omega) fun v8 w17 hM17 kk17 => ⟨fun p hp => (by cases hp), ?_⟩
                refine s_val (v_arith (kk := .i64) (a := ((knownTo TG k ++ (pTagged (fs.take j) v true t 0).filter fun p => p.1 == (k : Int)).length : Nat)) (b := 1) (r := (((knownTo TG k ++ (pTagged (fs.take j) v true t 0).filter fun p => p.1 == (k : Int)).length + 1 : Nat) : Int)) rfl rfl ?_) ?_
                · simp only [arithOf, Option.some.injEq]; rw [IntKind.wrap_i64]; unfold maxW at hl; simp only [List.length_append]; omega
                refine ⟨_, rfl, v8, ?_, ?_⟩
                · rw [htk, List.filter_append, hone, ← List.append_assoc, List.length_append (bs := [_])]
                  rfl
                · rw [htk, List.filter_append, hone, ← List.append_assoc, encK_append (b := [_]), e1]
                  simpa [List.append_assoc] using hM17
              · have husl : pUsual fs[j] (pAt t j) = true := by simpa using hb2
                have hone : (pTag1Of fs[j] v true (pAt t j)) = [] := by
                  unfold pTag1Of
                  rw [if_neg (by rw [husl]; simp)]
                rw [htk, hone, List.append_nil]
                rfl
              · have husl : pUsual fs[j] (pAt t j) = true := by simpa using hb2
                have hone : (pTag1Of fs[j] v true (pAt t j)) = [] := by
                  unfold pTag1Of
                  rw [if_neg (by rw [husl]; simp)]
                rw [htk, hone, List.append_nil]
                exact hC9
            · rintro vs w' _ ⟨acc3, rfl, hD⟩
              refine s_val (v_arith (kk := .i64) (a := j) (b := 1) (r := ((j + 1 : Nat) : Int)) rfl rfl ?_) ?_
              · simp only [arithOf, Option.some.injEq]; rw [IntKind.wrap_i64]; omega
              exact ⟨Ji, rfl, hJi [_, _] _ rfl ⟨acc3, rfl, hD⟩⟩
          · have hkt : ¬ (fs[j]'hj').tag = (k : Int) := by simpa using hb1
            have hone : (pTag1Of fs[j] v true (pAt t j)).filter (fun p => p.1 == (k : Int)) = [] := by
              unfold pTag1Of
              split
              · simp [hkt]
              · rfl
            refine s_val (v_arith (kk := .i64) (a := j) (b := 1) (r := ((j + 1 : Nat) : Int)) rfl rfl ?_) ?_
            · simp only [arithOf, Option.some.injEq]; rw [IntKind.wrap_i64]; omega
            refine ⟨Ji, rfl, hJi [_, _] _ rfl ⟨acc2, ?_, ?_⟩⟩
            · rw [htk, List.filter_append, hone, List.append_nil]
              rfl
            · rw [htk, List.filter_append, hone, List.append_nil]
              exact hC7
        · rintro w5 vr Ji ⟨acc2, rfl, hC⟩ hvr
          rw [Int.toNat_natCast, List.take_length, hTG, ← knownTo_succ] at hC
          refine s_val (v_arith (kk := .i64) (a := k) (b := 1) (r := ((k + 1 : Nat) : Int)) rfl rfl ?_) ?_
          · simp only [arithOf, Option.some.injEq]; rw [IntKind.wrap_i64]; omega
          refine ⟨Jo, rfl, hJo [_, _] _ rfl ⟨acc2, ?_, hC⟩⟩
          rw [Int.toNat_natCast, List.take_length, hTG, ← knownTo_succ]
          rfl
      · rintro w4 vr Jo ⟨accK, rfl, hB⟩ hvr
        rw [Int.toNat_natCast] at hB
        have k34 := hB.2.2
        have kw4 : Keeps [] w w4 := kw3.trans k34
        have hx4 := hx1.keep (k13.trans k34) (by simp)
        refine s_fl S.ty.f4 S.ty.oneTagL rfl rfl hx4 rfl ?_
        refine s_callx (hU w w4 fv uv t.u ucs (hfv0.keep kw4) (h4.keep kw4) h5 hok.u) rfl fun tv w5 ⟨tcs, hown, htg, hfr, k5⟩ => ?_
        have hun7 : (pUnknown fs t.u).length ≤ 32767 := pUnknown_length fs t.u
        have hkeys : ∀ p ∈ pUnknown fs t.u, p.1 < 4294967296 := fun p hp => hok.u p (pUnknown_mem hp)
        rw [hun] at hown htg hun7 hkeys
        have hlt4 := hB.1.lt
        have kw5 := kw4.trans k5
        obtain ⟨a4, c4, e4⟩ := (Ro.of_reads hown.reads).form
        refine s_val (v_len (a := a4) (l := un.length) (c := c4) S.ty.slTag e4) ?_
        have s3 := kw3.size
        refine s_countV (n := 20) (q := 19) (kk := .i64) (m := un.length) (ri := [.tmp 12, .tmp 13]) (Γ := [J, Jo]) (fun j vr w' => ∃ acc', vr = [acc', .int .i64 (((knownTo TG K).length + j : Nat) : Int)] ∧ WrPost w5 accK (encTg (knownTo TG K)) (pTags (un.take j)) acc' w') (by omega) rfl ⟨accK, rfl, WrPost.same (hB.1.keep k5 (by simp))⟩ ?_ ?_
        · rintro j hj w6 vr ⟨acc', rfl, hC⟩ hvr J2 hJ2
          have hj' : j < un.length := by omega
          have hle := pTags_le un (j + 1)
          rw [pTags_take hj', List.length_append, pTag1_length] at hle
          have hkey := hkeys _ (List.getElem_mem hj')
          have hrt : Ro w6 tv 2 un.length tcs := Ro.of_reads (hown.reads.keep hC.2.1 fun b hb hb' => by have := hfr b hb; have := hlt4 b hb'; omega)
          refine s_eachT (w0 := w) (tv := tv) (m := un) (j := j) S hrt htg rfl rfl hj' fun w7 a7 b vv hh hvv k7 hb => ?_
          have far : ∀ (w' : World) {x : Value} {l : List UInt8}, Ro w x 1 l.length (bcells l) → Keeps (blkOf accK) w5 w' → Ro w' x 1 l.length (bcells l) := fun w' x l h hk => (h.keep kw5).keepM hk fun hn b hb hb' => by
            have h5 := h.blk hn b hb
            have h6 := hB.2.1 b hb'
            omega
          have k57 : Keeps (blkOf accK) w5 w7 := hC.2.1.trans (k7.mono (by simp))
          refine s_fl S.ty.g1 S.rd.oneBytes rfl rfl hh rfl ?_
          refine s_callx (Q.whole w7 vv un[j].2 (far w7 hvv k57)) rfl fun u w8 ⟨hw, hu⟩ => ?_
          subst hw
          replace hu := hu w hvv
          refine s_fl S.ty.g0 S.ty.oneU32 rfl rfl hh rfl ?_
          refine s_val (v_conv (k1 := .u32) (k2 := .u64) (a := ((un[j]'hj').1 : Int)) S.rd.u32 S.u64 rfl) ?_
          rw [wraps_u64 _ (by omega) (by omega)]
          have hw7 : (pWhole (un[j]'hj').2).length ≤ 32767 := by unfold pWhole; rw [List.length_take]; omega
          refine s_callO (Q.uv w8 (un[j]'hj').1 (by omega)) rfl fun v8 w9 hM9 => ⟨fun p hp => (by cases hp), ?_⟩
          have hC9 := (hC.more k7).more hM9.2.2
          refine s_appW (v := acc') (u := v8) (e := pUv (un[j]'hj').1) S rfl rfl hC9.1 (hM9.1.reads.src S.rd.bytes (bcells_one _)) (by simp only [List.length_append]; unfold maxW at hl ⊢; omega) fun v9 w10 hp10 => ⟨fun p hp => (by cases hp), ?_⟩
          have hD10 := hC9.trans hp10
          have hu10 := far w10 hu hD10.2.1
          obtain ⟨au, cu, eu⟩ := hu10.form
          refine s_val (v_len (a := au) (l := (pWhole (un[j]'hj').2).length) (c := cu) S.rd.bytes eu) ?_
          refine s_val (v_conv (k1 := .i64) (k2 := .u64) (a := ((pWhole (un[j]'hj').2).length : Int)) S.rd.int S.u64 rfl) ?_
          rw [wraps_u64 _ (by omega) (by omega)]
          refine s_callO (Q.uv w10 (pWhole (un[j]'hj').2).length (by omega)) rfl fun v10 w11 hM11 => ⟨fun p hp => (by cases hp), ?_⟩
          have hD11 := hD10.more hM11.2.2
          refine s_appW (v := v9) (u := v10) (e := pUv (pWhole (un[j]'hj').2).length) S rfl rfl hD11.1 (hM11.1.reads.src S.rd.bytes (bcells_one _)) (by simp only [List.length_append]; unfold maxW at hl ⊢; omega) fun v11 w12 hp12 => ⟨fun p hp => (by cases hp), ?_⟩
          have hD12 := hD11.trans hp12
          refine s_appW (v := v11) (u := u) (e := pWhole (un[j]'hj').2) S rfl rfl hD12.1 ((far w12 hu hD12.2.1).src S.rd.bytes (bcells_one _)) (by simp only [List.length_append]; unfold maxW at hl ⊢; omega) fun v12 w13 hp13 => ⟨fun p hp => (by cases hp), ?_⟩
          have hD13 := hD12.trans hp13
          refine s_val (v_arith (kk := .i64) (a := (((knownTo TG K).length + j : Nat) : Int)) (b := 1) (r := (((knownTo TG K).length + (j + 1) : Nat) : Int)) rfl rfl ?_) ?_
          · simp only [arithOf, Option.some.injEq]; rw [IntKind.wrap_i64]; unfold maxW at hl; omega
          refine s_val (v_arith (kk := .i64) (a := j) (b := 1) (r := ((j + 1 : Nat) : Int)) rfl rfl ?_) ?_
          · simp only [arithOf, Option.some.injEq]; rw [IntKind.wrap_i64]; omega
          refine ⟨J2, rfl, hJ2 [_, _] _ rfl ⟨v12, rfl, ?_⟩⟩
          rw [pTags_take hj', pTag1, ← List.append_assoc, ← List.append_assoc]
          exact hD13
        · rintro w6 vr J2 ⟨acc', rfl, hC⟩ hvr
          rw [Int.toNat_natCast, List.take_length] at hC
          refine s_val (v_conv (k1 := .i64) (k2 := .u64) (a := (((knownTo TG K).length + un.length : Nat) : Int)) S.rd.int S.u64 (by rw [Int.toNat_natCast]; rfl)) ?_
          rw [wraps_u64 _ (by omega) (by unfold maxW at hl; omega)]
          refine s_callO (Q.uv w6 ((knownTo TG K).length + un.length) (by unfold maxW at hl; omega)) rfl fun v6 w7 hM7 => ⟨fun p hp => (by cases hp), ?_⟩
          have hblk : ∀ b ∈ blkOf accK, w3.heap.size ≤ b := hB.2.1
          have s23 := k3.size
          have hA4 := ((hA.more k3).more k34).more k5
          have hacc6 : MadeO w1 w6 acc (pPlain fs v true t 0) := ⟨hA4.1.keep hC.2.1 fun b hb hb' => by
            have h5 := hA.1.lt b hb
            have h6 := hblk b hb'
            omega, hA4.2.1, ((hA4.2.2.mono (by simp)).trans hC.2.1).less fun x hx => .inr (by have := hblk x hx; have := k13.size; omega)⟩
          refine s_appendO (v := acc) (u := v6) (l2 := pUv ((knownTo TG K).length + un.length)) S rfl rfl (hacc6.more hM7.2.2) (hM7.1.reads.src S.rd.bytes (bcells_one _)) (by rw [List.length_append]; unfold maxW at hl; omega) fun v7 w8 hM8 kk8 => ⟨fun p hp => (by cases hp), ?_⟩
          have hown8 : Own w8 acc' 1 (encTg (knownTo TG K) ++ pTags un).length (bcells (encTg (knownTo TG K) ++ pTags un)) := (hC.1.keep hM7.2.2 (by simp)).keep kk8 fun b hb hb' => by
            have h6 := hA.1.lt b hb'
            have h8 := k34.size
            have h9 := k5.size
            rcases hC.2.2 b hb with h | h
            · have := hblk b h; omega
            · omega
          refine s_appendO (v := v7) (u := acc') (l2 := encTg (knownTo TG K) ++ pTags un) S rfl rfl hM8 (hown8.reads.src S.rd.bytes (bcells_one _)) (by simp only [List.length_append]; unfold maxW at hl; omega) fun v8 w9 hM9 kk9 => ⟨fun p hp => (by cases hp), s_ret1 ?_⟩
          rw [List.append_assoc] at hM9
          exact hM9.under k1

end

end Go.Kf


namespace Go.Kf

open Go

def tUsual (c : Nums) (s : SN) : Tr :=
  .op (.box s.field (.tmp 0)) none [] <| .op (.box c.sTree (.tmp 1)) none [] <| .op (.fieldAddr s.field (.tmp 2) 0) none [] <| .op (.load c.tInt (.tmp 4)) none [] <| .op (.binOp .eql c.tInt (.tmp 5) (.const (.int .i64 0)) c.tInt) none [] <|
  .cond (.tmp 6) (.op (.fieldAddr c.sTree (.tmp 3) 0) none [] <| .op (.load c.tI64 (.tmp 7)) none [] <| .op (.binOp .and c.tI64 (.tmp 8) (.const (.int .i64 1)) c.tI64) none [] <| .op (.fieldAddr s.field (.tmp 2) 5) none [] <| .op (.load c.tI64 (.tmp 10)) none [] <| .op (.binOp .eql c.tI64 (.tmp 9) (.tmp 11) c.tI64) none [] <| .ret [(.tmp 12, none)]) <|
  .op (.binOp .eql c.tInt (.tmp 5) (.const (.int .i64 7)) c.tInt) none [] <|
  .cond (.tmp 7) (.op (.fieldAddr c.sTree (.tmp 3) 1) none [] <| .op (.load c.tBytes (.tmp 8)) none [] <| .op (.call { callee := .builtin .len, args := ⟨[.tmp 9]⟩, argTypes := ⟨[c.tBytes]⟩ }) none [] <|
    .loop 0 [.const (.bool false), .const (.int .i64 0)] <| .op (.binOp .lss c.tInt (.tmp 12) (.tmp 10) c.tInt) none [] <|
    .cond (.tmp 13) (.op (.indexAddr c.tBytes (.tmp 9) (.tmp 12)) none [] <| .op (.load c.tU8 (.tmp 14)) none [] <| .op (.binOp .lss c.tInt (.tmp 12) (.const (.int .i64 16)) c.tInt) none [] <|
      .cond (.tmp 16) (.op (.binOp .neq c.tU8 (.tmp 15) (.const (.int .u8 0)) c.tU8) none [] <| .cond (.tmp 17) (.ret [(.const (.bool false), none)]) (.op (.binOp .add c.tInt (.tmp 12) (.const (.int .i64 1)) c.tInt) none [] <| .to 0 [.tmp 11, .tmp 18]))
        (.op (.binOp .add c.tInt (.tmp 12) (.const (.int .i64 1)) c.tInt) none [] <| .to 0 [.tmp 11, .tmp 17])) (.ret [(.const (.bool true), none)])) <|
  .op (.binOp .eql c.tInt (.tmp 5) (.const (.int .i64 8)) c.tInt) none [] <|
  .join 0 (.cond (.tmp 8) (.to 0 [.tmp 8]) (.op (.binOp .eql c.tInt (.tmp 5) (.const (.int .i64 9)) c.tInt) none [] <| .to 0 [.tmp 9])) 1 <|
  .cond (.tmp 9) (.op (.fieldAddr s.field (.tmp 2) 3) none [] <| .op (.load c.tInt (.tmp 10)) none [] <| .op (.binOp .geq c.tInt (.tmp 11) (.const (.int .i64 0)) c.tInt) none [] <|
    .cond (.tmp 12) (.op (.fieldAddr c.sTree (.tmp 3) 2) none [] <| .op (.load c.tBool (.tmp 13)) none [] <| .ret [(.tmp 14, none)])
      (.op (.fieldAddr c.sTree (.tmp 3) 1) none [] <| .op (.load c.tBytes (.tmp 13)) none [] <| .op (.call { callee := .builtin .len, args := ⟨[.tmp 14]⟩, argTypes := ⟨[c.tBytes]⟩ }) none [] <| .op (.binOp .eql c.tInt (.tmp 15) (.const (.int .i64 0)) c.tInt) none [] <| .ret [(.tmp 16, none)])) <|
  .op (.binOp .eql c.tInt (.tmp 5) (.const (.int .i64 11)) c.tInt) none [] <|
  .cond (.tmp 10) (.op (.fieldAddr c.sTree (.tmp 3) 3) none [] <| .op (.load c.sTrees (.tmp 11)) none [] <| .op (.call { callee := .builtin .len, args := ⟨[.tmp 12]⟩, argTypes := ⟨[c.sTrees]⟩ }) none [] <| .op (.binOp .eql c.tInt (.tmp 13) (.const (.int .i64 0)) c.tInt) none [] <| .ret [(.tmp 14, none)]) <|
  .op (.binOp .eql c.tInt (.tmp 5) (.const (.int .i64 10)) c.tInt) none [] <|
  .cond (.tmp 11) (.op (.fieldAddr s.field (.tmp 2) 7) none [] <| .op (.load s.fields (.tmp 12)) none [] <| .op (.call { callee := .builtin .len, args := ⟨[.tmp 13]⟩, argTypes := ⟨[s.fields]⟩ }) none [] <|
    .loop 0 [.const (.bool false), .const (.int .i64 0)] <| .op (.binOp .lss c.tInt (.tmp 16) (.tmp 14) c.tInt) none [] <|
    .cond (.tmp 17) (.op (.indexAddr s.fields (.tmp 13) (.tmp 16)) none [] <| .op (.load s.field (.tmp 18)) none [] <| .op (.alloc s.field) none [] <| .op (.store s.field (.tmp 20) (.tmp 19)) none [] <|
      .draw <| .lok (.load s.field (.tmp 20)) none <| .lok (.load c.sTree (.tmp 3)) none <| .op (callOp s.at_ [.tmp 23, .tmp 16]) none [(.load s.field (.tmp 20), 22)] <| .op (callOp s.usual [.tmp 22, .tmp 24]) none [] <| .pur (.unOp .not c.tBool (.tmp 25)) none <|
      .cond (.tmp 26) (.ret [(.const (.bool false), none)]) (.op (.binOp .add c.tInt (.tmp 16) (.const (.int .i64 1)) c.tInt) none [] <| .to 0 [.tmp 15, .tmp 27]))
    (.op (.fieldAddr s.field (.tmp 2) 7) none [] <| .op (.load s.fields (.tmp 18)) none [] <| .op (.fieldAddr c.sTree (.tmp 3) 4) none [] <| .op (.load c.sTagL (.tmp 20)) none [] <| .op (callOp s.unknown [.tmp 19, .tmp 21]) none [] <|
      .op (.call { callee := .builtin .len, args := ⟨[.tmp 22]⟩, argTypes := ⟨[c.sTagL]⟩ }) none [] <| .op (.binOp .eql c.tInt (.tmp 23) (.const (.int .i64 0)) c.tInt) none [] <| .ret [(.tmp 24, none)]))
  (.draw <| .pur (.fieldAddr c.sTree (.tmp 3) 0) none <| .lok (.load c.tI64 (.tmp 12)) none <| .pur (.fieldAddr s.field (.tmp 2) 0) none <| .lok (.load c.tInt (.tmp 14)) none <| .pur (.fieldAddr s.field (.tmp 2) 5) none <| .lok (.load c.tI64 (.tmp 16)) none <|
    .pur (.fieldAddr s.field (.tmp 2) 0) none <| .lok (.load c.tInt (.tmp 18)) none <| .op (callOp s.width [.tmp 15]) none [(.load c.tInt (.tmp 18), 19), (.load c.tI64 (.tmp 16), 17), (.load c.tI64 (.tmp 12), 13)] <| .op (callOp s.fixed [.tmp 13, .tmp 20]) none [(.load c.tInt (.tmp 18), 19), (.load c.tI64 (.tmp 16), 17)] <|
    .op (callOp s.width [.tmp 19]) none [(.load c.tI64 (.tmp 16), 17)] <| .op (callOp s.fixed [.tmp 17, .tmp 22]) none [] <| .op (callOp s.same [.tmp 21, .tmp 23]) none [] <| .ret [(.tmp 24, none)])

theorem pUsuals_get {t : PT} : ∀ {fs : List PF} {i : Nat}, (∀ j (h : j < fs.length), pUsual fs[j] (pAt t (i + j)) = true) → pUsuals fs t i = true
  | [], _, _ => rfl
  | f :: r, i, h => by
    have h0 := h 0 (by simp)
    simp only [List.getElem_cons_zero, Nat.add_zero] at h0
    simp only [pUsuals, h0, Bool.true_and]
    exact pUsuals_get fun j hj => by
      have := h (j + 1) (by simpa using hj)
      rw [show i + 1 + j = i + (j + 1) by omega]
      simpa using this

theorem pUsuals_false {t : PT} : ∀ {fs : List PF} {i j : Nat} (h : j < fs.length), pUsual fs[j] (pAt t (i + j)) = false → pUsuals fs t i = false
  | f :: r, i, 0, _, h => by
    simp only [List.getElem_cons_zero, Nat.add_zero] at h
    simp [pUsuals, h]
  | f :: r, i, j + 1, hj, h => by
    have := pUsuals_false (fs := r) (i := i + 1) (j := j) (by simpa using hj) (by
      rw [show i + 1 + j = i + (j + 1) by omega]
      simpa using h)
    simp [pUsuals, this]

theorem len0 {α : Type} (l : List α) : ((l.length : Int) == 0) = l.isEmpty := by
  cases l with
  | nil => rfl
  | cons x l =>
    rw [List.isEmpty_cons, beq_eq_false_iff_ne]
    simp only [List.length_cons]
    omega

theorem pUsual_eq (f : PF) (t : PT) : pUsual f t = pUsualOf (fun y => pUsuals f.sub y 0 && (pUnknown f.sub y.u).isEmpty) f t := by cases f; rfl

section

variable {P : Program} {c : Nums} {s : SN} {w : World}

theorem usualW_step (S : SpFacts P c s) (Q : Smalls P s) (hS : ∀ (w : World) (v1 v2 : Value) (l1 l2 : List UInt8), (l1.length < 2 ^ 62 ∨ l2.length < 2 ^ 62) → Ro w v1 1 l1.length (bcells l1) → Ro w v2 1 l2.length (bcells l2) → Yields P s.same [v1, v2] w (.bool (decide (l1 = l2))))
    (hT : treeIn P s.usual noOrc [.tmp 0, .tmp 1] 2 = tUsual c s) {f : PF} (hlen : f.sub.length < 65536) (hU : UnknownOf P s f.sub) (ih : ∀ g ∈ f.sub, UsualWOf P s g) : UsualWOf P s f := by
  intro w t cs ts hf ht hok
  have hf0 := hf
  have htc := ht
  rw [pUsual_eq]
  obtain ⟨sv3, rfl, hsub⟩ := hf.cells
  obtain ⟨sv, lv, uv, lcs, ucs, rfl, h1, h2, h3, h4, h5⟩ := ht.cells
  refine gives_in (ρ := en [_, _]) S.rd.mix hT (Nat.le_refl _) rfl (by simp [opBelow]) ?_
  refine s_box rfl fun w1 hh1 k1 z1 => ?_
  refine s_box rfl fun w2 hx2 k2 z2 => ?_
  have hh2 := hh1.keep k2 (by simp)
  have k02 := k1.trans k2
  unfold pUsualOf
  refine s_fl S.f0 S.oneInt rfl rfl hh2 rfl ?_
  refine s_val (v_cmp (kk := .i64) (a := f.kind) (b := 0) (r := f.kind == 0) rfl rfl rfl) ?_
  refine s_cond (b := f.kind == 0) rfl (fun hb => ?_) fun hb => ?_
  · rw [if_pos (by simpa using hb)]
    refine s_fl S.ty.f0 S.ty.oneI64 rfl rfl hx2 rfl ?_
    refine s_val (v_bits (op := .and) (kk := .i64) (.inl rfl) rfl rfl (and1_i64 t.n)) ?_
    refine s_fl S.f5 S.ty.oneI64 rfl rfl hh2 rfl ?_
    refine s_val (v_cmp (kk := .i64) (a := t.n % 2) (b := f.dflt) (r := t.n % 2 == f.dflt) rfl rfl rfl) ?_
    exact s_ret1 ⟨by rw [show ev (ext _ 12 [Value.bool (t.n % 2 == f.dflt)]) (.tmp 12) = _ from ext_at]; rfl, k02⟩
  rw [if_neg (by simpa using hb)]
  refine s_val (v_cmp (kk := .i64) (a := f.kind) (b := 7) (r := f.kind == 7) rfl rfl rfl) ?_
  refine s_cond (b := f.kind == 7) rfl (fun hb => ?_) fun hb => ?_
  · rw [if_pos (by simpa using hb)]
    refine s_fl S.ty.f1 S.rd.oneBytes rfl rfl hx2 rfl ?_
    obtain ⟨sa, cps, es⟩ := h1.form
    have h1l : t.s.length < 4294967296 := ht.lens.1
    refine s_val (v_len (a := sa) (l := t.s.length) (c := cps) S.rd.bytes es) ?_
    refine s_countV (n := 11) (q := 10) (kk := .i64) (m := t.s.length) (ri := [.const (.bool false)]) (Γ := []) (fun j vr w' => vr = [.bool false] ∧ Keeps [] w2 w' ∧ ∀ i (hi : i < t.s.length), i < j → i < 16 → t.s[i] = 0) (by omega) rfl ⟨rfl, .refl, fun i _ h => by omega⟩ ?_ ?_
    · rintro j hj w3 vr ⟨rfl, k3, hall⟩ hvr J hJ
      have hj' : j < t.s.length := by omega
      obtain ⟨b1, o1, q1, e1, _, hx1⟩ := (h1.keep (k02.trans k3)).at (by omega)
      have hc1 := hx1 j (by omega)
      rw [show (bcells t.s)[j]? = some (.int .u8 (t.s[j]'hj').toNat) by simp [bcells, hj']] at hc1
      refine s_val (v_indexAddr (b := b1) (o := o1) (l := t.s.length) (c := q1) (j := j) (kk := .i64) S.rd.bytes S.rd.szU8 e1 rfl (by omega) (by omega)) ?_
      rw [show o1 + (j : Int).toNat * 1 = o1 + j by omega]
      refine s_lok (l_cell1 S.rd.oneU8 ext_at hc1) ?_
      refine s_val (v_cmp (kk := .i64) (a := j) (b := 16) (r := decide ((j : Int) < 16)) rfl rfl rfl) ?_
      refine s_cond (b := decide ((j : Int) < 16)) rfl (fun hb1 => ?_) fun hb1 => ?_
      · have hj16 : j < 16 := by
          have : (j : Int) < 16 := by simpa using hb1
          omega
        refine s_val (v_cmp (kk := .u8) (a := (t.s[j]'hj').toNat) (b := 0) (r := (((t.s[j]'hj').toNat : Int) != 0)) rfl rfl rfl) ?_
        refine s_cond (b := (((t.s[j]'hj').toNat : Int) != 0)) rfl (fun hb2 => s_ret1 ⟨?_, k02.trans k3⟩) fun hb2 => ?_
        · have hne : t.s[j]'hj' ≠ 0 := fun e => by rw [e] at hb2; simp at hb2
          have : (t.s.take 16).all (· == 0) = false := by
            rw [List.all_eq_false]
            exact ⟨t.s[j]'hj', List.mem_take_iff_getElem.2 ⟨j, by omega, rfl⟩, by simpa using hne⟩
          rw [this]
          rfl
        · have he : t.s[j]'hj' = 0 := by
            have : ((t.s[j]'hj').toNat : Int) = 0 := by simpa using hb2
            exact UInt8.toNat_inj.1 (by simpa using this)
          refine s_val (v_arith (kk := .i64) (a := j) (b := 1) (r := ((j + 1 : Nat) : Int)) rfl rfl ?_) ?_
          · simp only [arithOf, Option.some.injEq]; rw [IntKind.wrap_i64]; omega
          refine ⟨J, rfl, hJ [_] _ rfl ⟨rfl, k3, fun i hi hij h16 => ?_⟩⟩
          by_cases hije : i = j
          · subst hije; exact he
          · exact hall i hi (by omega) h16
      · refine s_val (v_arith (kk := .i64) (a := j) (b := 1) (r := ((j + 1 : Nat) : Int)) rfl rfl ?_) ?_
        · simp only [arithOf, Option.some.injEq]; rw [IntKind.wrap_i64]; omega
        refine ⟨J, rfl, hJ [_] _ rfl ⟨rfl, k3, fun i hi hij h16 => hall i hi ?_ h16⟩⟩
        have : ¬ (j : Int) < 16 := by simpa using hb1
        omega
    · rintro w3 vr J ⟨rfl, k3, hall⟩ hvr
      refine s_ret1 ⟨?_, k02.trans k3⟩
      have : (t.s.take 16).all (· == 0) = true := by
        rw [List.all_eq_true]
        intro b hb
        obtain ⟨i, hi, rfl⟩ := List.mem_take_iff_getElem.1 hb
        have := hall i (by omega) (by rw [Int.toNat_natCast]; omega) (by omega)
        simpa using this
      rw [this]
      rfl
  rw [if_neg (by simpa using hb)]
  refine s_val (v_cmp (kk := .i64) (a := f.kind) (b := 8) (r := f.kind == 8) rfl rfl rfl) ?_
  refine ⟨rfl, fun vs w' => vs = [.bool (f.kind == 8 || f.kind == 9)] ∧ w' = w2, ?_, ?_⟩
  · refine s_cond (b := f.kind == 8) rfl (fun hb1 => ⟨_, rfl, ?_, rfl⟩) fun hb1 => ?_
    · show [Value.bool (f.kind == 8)] = _
      rw [hb1]
      rfl
    · refine s_val (v_cmp (kk := .i64) (a := f.kind) (b := 9) (r := f.kind == 9) rfl rfl rfl) ?_
      refine ⟨_, rfl, ?_, rfl⟩
      show [Value.bool (f.kind == 9)] = _
      rw [hb1, Bool.false_or]
  rintro vs w3 _ ⟨rfl, rfl⟩
  refine s_cond (b := f.kind == 8 || f.kind == 9) rfl (fun hb => ?_) fun hb => ?_
  · rw [if_pos (by simpa using hb)]
    refine s_fl S.f3 S.oneInt rfl rfl hh2 rfl ?_
    refine s_val (v_cmp (kk := .i64) (a := f.nul) (b := 0) (r := decide (f.nul ≥ 0)) rfl rfl rfl) ?_
    refine s_cond (b := decide (f.nul ≥ 0)) rfl (fun hb1 => ?_) fun hb1 => ?_
    · rw [if_pos (by simpa using hb1)]
      refine s_fl S.ty.f2 S.rd.oneBool rfl rfl hx2 rfl ?_
      exact s_ret1 ⟨rfl, k02⟩
    · rw [if_neg (by simpa using hb1)]
      obtain ⟨sa, cps, es⟩ := h1.form
      refine s_fl S.ty.f1 S.rd.oneBytes rfl rfl hx2 rfl (s_val (v_len (a := sa) (l := t.s.length) (c := cps) S.rd.bytes es) ?_)
      refine s_val (v_cmp (kk := .i64) (a := t.s.length) (b := 0) (r := ((t.s.length : Int) == 0)) rfl rfl rfl) ?_
      refine s_ret1 ⟨?_, k02⟩
      show Value.bool ((t.s.length : Int) == 0) = _
      rw [len0]
  rw [if_neg (by simpa using hb)]
  refine s_val (v_cmp (kk := .i64) (a := f.kind) (b := 11) (r := f.kind == 11) rfl rfl rfl) ?_
  refine s_cond (b := f.kind == 11) rfl (fun hb => ?_) fun hb => ?_
  · rw [if_pos (by simpa using hb)]
    obtain ⟨la, cpl, el⟩ := h2.form
    refine s_fl S.ty.f3 S.ty.oneTrees rfl rfl hx2 rfl (s_val (v_len (a := la) (l := t.l.length) (c := cpl) S.ty.sl el) ?_)
    refine s_val (v_cmp (kk := .i64) (a := t.l.length) (b := 0) (r := ((t.l.length : Int) == 0)) rfl rfl rfl) ?_
    refine s_ret1 ⟨?_, k02⟩
    show Value.bool ((t.l.length : Int) == 0) = _
    rw [len0]
  rw [if_neg (by simpa using hb)]
  refine s_val (v_cmp (kk := .i64) (a := f.kind) (b := 10) (r := f.kind == 10) rfl rfl rfl) ?_
  refine s_cond (b := f.kind == 10) rfl (fun hb => ?_) fun hb => ?_
  · rw [if_pos (by simpa using hb)]
    refine s_fl S.f7 S.oneFields rfl rfl hh2 rfl ?_
    have hsub3 : FieldsV w3 f.sub sv3 := hsub.keep k02
    have hsub0 := hsub3
    obtain ⟨fcs, hr, hfc⟩ := hsub3
    obtain ⟨a, cp, e⟩ := hr.form
    refine s_val (v_len (a := a) (l := f.sub.length) (c := cp) S.sl e) ?_
    refine s_countV (n := 15) (q := 14) (kk := .i64) (m := f.sub.length) (ri := [.const (.bool false)]) (Γ := []) (fun j vr w' => vr = [.bool false] ∧ Keeps [] w3 w' ∧ ∀ i (hi : i < f.sub.length), i < j → pUsual f.sub[i] (pAt t i) = true) (by omega) rfl ⟨rfl, .refl, fun i _ h => by omega⟩ ?_ ?_
    · rintro j hj w4 vr ⟨rfl, k34, hall⟩ hvr J hJ
      have hj' : j < f.sub.length := by omega
      refine s_eachF (fv := sv3) (fs := f.sub) (j := j) S (hsub0.keep k34) rfl rfl hj' fun w5 a5 b cs5 hh5 hf5 k45 hb5 => ?_
      have hf50 := hf5
      obtain ⟨sv5, rfl, _⟩ := hf5.cells
      show Tr.sem _ _ _ _ _ _ { w5 with drawn := w5.drawn + 1 }
      have hd : Keeps [] w5 { w5 with drawn := w5.drawn + 1 } := keeps_drawn w5 _ _
      generalize ({ w5 with drawn := w5.drawn + 1 } : World) = w6 at hd ⊢
      have hh6 := hh5.keep hd (by simp)
      have k36 := (k34.trans k45).trans hd
      have k06 := k02.trans k36
      have hx6 := hx2.keep k36 (by simp)
      refine l_lok (l_loadN (b := b) (o := 0) S.agg rfl hh6 (show 0 + 8 ≤ 8 by omega)) ?_
      refine l_lok (l_loadN (b := w1.heap.size) (o := 0) S.ty.agg rfl hx6 (show 0 + 5 ≤ 5 by omega)) ?_
      refine s_call (xs := [.tmp 23, .tmp 16]) (Q.at_ w6 t _ j (TreeC.keep k06 _ _ htc)) fun u w7 ⟨k67, tcs, hu, htj⟩ => ⟨?_, ?_⟩
      · intro p hp
        simp only [List.mem_singleton] at hp
        subst hp
        exact l_loadN (b := b) (o := 0) S.agg rfl (hh6.keep k67 (by simp)) (show 0 + 8 ≤ 8 by omega)
      subst hu
      refine s_callx (ih f.sub[j] (List.getElem_mem hj') w7 (pAt t j) _ tcs (FieldC.keep (hd.trans k67) _ _ hf50) htj (hok.at j)) rfl fun u w8 ⟨hu, k78⟩ => ?_
      subst hu
      have k38 := (k36.trans k67).trans k78
      refine p_val (v_not (b := pUsual f.sub[j] (pAt t j)) rfl) ?_
      refine s_cond (b := !pUsual f.sub[j] (pAt t j)) rfl (fun hb2 => s_ret1 ⟨?_, k02.trans k38⟩) fun hb2 => ?_
      · have h0 : pUsuals f.sub t 0 = false := pUsuals_false (i := 0) hj' (by rw [Nat.zero_add]; simpa using hb2)
        show Value.bool false = Value.bool (pUsuals f.sub t 0 && (pUnknown f.sub t.u).isEmpty)
        rw [h0]
        rfl
      · refine s_val (v_arith (kk := .i64) (a := j) (b := 1) (r := ((j + 1 : Nat) : Int)) rfl rfl ?_) ?_
        · simp only [arithOf, Option.some.injEq]; rw [IntKind.wrap_i64]; omega
        refine ⟨J, rfl, hJ [_] _ rfl ⟨rfl, k38, fun i hi hij => ?_⟩⟩
        by_cases hije : i = j
        · subst hije; simpa using hb2
        · exact hall i hi (by omega)
    · rintro w4 vr J ⟨rfl, k34, hall⟩ hvr
      have h0 : pUsuals f.sub t 0 = true := pUsuals_get fun j hj => by rw [Nat.zero_add]; exact hall j hj (by rw [Int.toNat_natCast]; omega)
      have k04 := k02.trans k34
      refine s_fl S.f7 S.oneFields rfl rfl (hh2.keep k34 (by simp)) rfl ?_
      refine s_fl S.ty.f4 S.ty.oneTagL rfl rfl (hx2.keep k34 (by simp)) rfl ?_
      refine s_callx (hU w w4 sv3 uv t.u ucs (hsub.keep k04) (h4.keep k04) h5 hok.u) rfl fun tv w5 ⟨tcs, hown, htg, hfr, k5⟩ => ?_
      obtain ⟨a4, c4, e4⟩ := (Ro.of_reads hown.reads).form
      refine s_val (v_len (a := a4) (l := (pUnknown f.sub t.u).length) (c := c4) S.ty.slTag e4) ?_
      refine s_val (v_cmp (kk := .i64) (a := (pUnknown f.sub t.u).length) (b := 0) (r := (((pUnknown f.sub t.u).length : Int) == 0)) rfl rfl rfl) ?_
      refine s_ret1 ⟨?_, k04.trans k5⟩
      show Value.bool (((pUnknown f.sub t.u).length : Int) == 0) = Value.bool (pUsuals f.sub t 0 && (pUnknown f.sub t.u).isEmpty)
      rw [len0, h0, Bool.true_and]
  rw [if_neg (by simpa using hb)]
  show Tr.sem _ _ _ _ _ _ { w3 with drawn := w3.drawn + 1 }
  have hd : Keeps [] w3 { w3 with drawn := w3.drawn + 1 } := keeps_drawn w3 _ _
  generalize ({ w3 with drawn := w3.drawn + 1 } : World) = w4 at hd ⊢
  have hh4 := hh2.keep hd (by simp)
  have hx4 := hx2.keep hd (by simp)
  have k04 := k02.trans hd
  refine p_fl S.ty.f0 S.ty.oneI64 rfl rfl hx4 rfl (p_fl S.f0 S.oneInt rfl rfl hh4 rfl (p_fl S.f5 S.ty.oneI64 rfl rfl hh4 rfl (p_fl S.f0 S.oneInt rfl rfl hh4 rfl ?_)))
  have ldK : ∀ (w' : World) (ρ : Nat → Value), Keeps [] w4 w' → ρ 18 = ptr w.heap.size (0 + 0) → runOp P ρ (.load c.tInt (.tmp 18)) w' = .ok (.value (.int .i64 f.kind)) w' := fun w' ρ kk hρ => l_load1 (P := P) (ρ := ρ) (w := w') (x := .tmp 18) (b := w.heap.size) (o := 0 + 0) S.oneInt hρ (hh4.keep kk (by simp)) rfl
  have ldD : ∀ (w' : World) (ρ : Nat → Value), Keeps [] w4 w' → ρ 16 = ptr w.heap.size (0 + 5) → runOp P ρ (.load c.tI64 (.tmp 16)) w' = .ok (.value (.int .i64 f.dflt)) w' := fun w' ρ kk hρ => l_load1 (P := P) (ρ := ρ) (w := w') (x := .tmp 16) (b := w.heap.size) (o := 0 + 5) S.ty.oneI64 hρ (hh4.keep kk (by simp)) rfl
  have ldN : ∀ (w' : World) (ρ : Nat → Value), Keeps [] w4 w' → ρ 12 = ptr w1.heap.size (0 + 0) → runOp P ρ (.load c.tI64 (.tmp 12)) w' = .ok (.value (.int .i64 t.n)) w' := fun w' ρ kk hρ => l_load1 (P := P) (ρ := ρ) (w := w') (x := .tmp 12) (b := w1.heap.size) (o := 0 + 0) S.ty.oneI64 hρ (hx4.keep kk (by simp)) rfl
  refine s_call (xs := [.tmp 15]) (Q.width w4 f.kind) fun u w5 ⟨hu, k5⟩ => ⟨?_, ?_⟩
  · intro p hp
    simp only [List.mem_cons, List.not_mem_nil, or_false] at hp
    rcases hp with rfl | rfl | rfl
    · exact ldK w5 _ k5 rfl
    · exact ldD w5 _ k5 rfl
    · exact ldN w5 _ k5 rfl
  subst hu
  refine s_callO (Q.fixed w5 t.n (pWidth f.kind) (pWidth_le f.kind)) rfl fun u6 w6 hM6 => ⟨?_, ?_⟩
  · intro p hp
    simp only [List.mem_cons, List.not_mem_nil, or_false] at hp
    rcases hp with rfl | rfl
    · exact ldK w6 _ (k5.trans hM6.2.2) rfl
    · exact ldD w6 _ (k5.trans hM6.2.2) rfl
  refine s_call (xs := [.tmp 19]) (Q.width w6 f.kind) fun u w7 ⟨hu, k7⟩ => ⟨?_, ?_⟩
  · intro p hp
    simp only [List.mem_singleton] at hp
    subst hp
    exact ldD w7 _ ((k5.trans hM6.2.2).trans k7) rfl
  subst hu
  refine s_callO (Q.fixed w7 f.dflt (pWidth f.kind) (pWidth_le f.kind)) rfl fun u8 w8 hM8 => ⟨fun p hp => (by cases hp), ?_⟩
  have hb8 : (pFixed t.n (pWidth f.kind)).length < 2 ^ 62 := by
    rw [pFixed_length]
    have := pWidth_le f.kind
    omega
  refine s_callx (hS w8 u6 u8 _ _ (.inl hb8) (Ro.of_reads ((hM6.1.keep k7 (by simp)).keep hM8.2.2 (by simp)).reads) (Ro.of_reads hM8.1.reads)) rfl fun v w9 ⟨hv, k9⟩ => ?_
  exact s_ret1 ⟨hv, ((((k04.trans k5).trans hM6.2.2).trans k7).trans hM8.2.2).trans k9⟩

end

end Go.Kf


namespace Go.Kf

open Go

mutual
/-- No tag is too great. -/
def PF.fine : PF → Bool
  | .mk k _ _ _ g _ e sub => decide (g < 2147483647) && decide (sub.length < 65536) && (!decide (k = 11) || !decide (e = 11)) && PF.fines sub
def PF.fines : List PF → Bool
  | [] => true
  | f :: r => f.fine && PF.fines r
end

theorem PF.fines_mem : ∀ {l : List PF}, PF.fines l = true → ∀ f ∈ l, f.fine = true
  | [], _, f, h => by cases h
  | x :: l, hl, f, h => by
    simp only [PF.fines, Bool.and_eq_true] at hl
    rcases List.mem_cons.1 h with e | h
    · rw [e]; exact hl.1
    · exact PF.fines_mem hl.2 f h

theorem PF.fine_tag {f : PF} (h : f.fine = true) : f.tag < 2147483647 := by
  cases f
  simp only [PF.fine, Bool.and_eq_true, decide_eq_true_eq] at h
  exact h.1.1.1

section

variable {P : Program} {c : Nums} {s : SN}

theorem unknownT_all (S : SpFacts P c s) (T : SpTrees P c s) {fs : List PF} (h : PF.fines fs = true) (hl : fs.length < 65536) : UnknownOf P s fs :=
  unknown_gives S (fun _ _ hfv => known_gives S T.known (fun f hf => PF.fine_tag (PF.fines_mem h f hf)) hfv (by omega)) T.unknown

mutual
theorem fieldT_all (S : SpFacts P c s) (T : SpTrees P c s) (hUs : treeIn P s.usual noOrc [.tmp 0, .tmp 1] 2 = tUsual c s) (hSm : treeIn P s.same noOrc [.tmp 0, .tmp 1] 2 = tSame c) : ∀ f : PF, f.fine = true → FieldOf P s f ∧ UsualWOf P s f
  | .mk k fr to n g d e sub, h => by
    have h' := h
    simp only [PF.fine, Bool.and_eq_true, decide_eq_true_eq] at h'
    have hs := h'.2
    have hl : sub.length < 65536 := h'.1.1.2
    have ih := fieldsT_all S T hUs hSm sub hs
    have hu := unknownT_all S T hs hl
    have hp : PartOf P s sub := partT_step S (smalls_of S T) T.known T.part (fun f hf => PF.fine_tag (PF.fines_mem hs f hf)) (by omega) (fun f hf => (ih f hf).1) (fun f hf _ => (ih f hf).2) hu
    refine ⟨field_step S (smalls_of S T) T.fld (f := .mk k fr to n g d e sub) (fun w fv t ts kind nu fl v hf ht hok hl => value_gives S (smalls_of S T) T.value hp kind nu fl v hf ht hok hl) hp, ?_⟩
    exact usualW_step S (smalls_of S T) (fun _ _ _ _ _ hb h1 h2 => same_ro S.rd hSm hb h1 h2) hUs (f := .mk k fr to n g d e sub) hl hu (fun f hf => (ih f hf).2)
theorem fieldsT_all (S : SpFacts P c s) (T : SpTrees P c s) (hUs : treeIn P s.usual noOrc [.tmp 0, .tmp 1] 2 = tUsual c s) (hSm : treeIn P s.same noOrc [.tmp 0, .tmp 1] 2 = tSame c) : ∀ fs : List PF, PF.fines fs = true → ∀ f ∈ fs, FieldOf P s f ∧ UsualWOf P s f
  | [], _, f, hf => by cases hf
  | x :: l, h, f, hf => by
    simp only [PF.fines, Bool.and_eq_true] at h
    rcases List.mem_cons.1 hf with e | hf
    · rw [e]; exact fieldT_all S T hUs hSm x h.1
    · exact fieldsT_all S T hUs hSm l h.2 f hf
end

theorem partT_all (S : SpFacts P c s) (T : SpTrees P c s) (hUs : treeIn P s.usual noOrc [.tmp 0, .tmp 1] 2 = tUsual c s) (hSm : treeIn P s.same noOrc [.tmp 0, .tmp 1] 2 = tSame c) {fs : List PF} (h : PF.fines fs = true) (hl : fs.length < 65536) : PartOf P s fs :=
  partT_step S (smalls_of S T) T.known T.part (fun f hf => PF.fine_tag (PF.fines_mem h f hf)) (by omega) (fun f hf => (fieldsT_all S T hUs hSm fs h f hf).1) (fun f hf _ => (fieldsT_all S T hUs hSm fs h f hf).2) (unknownT_all S T h hl)

theorem writeT_gives (S : SpFacts P c s) (T : SpTrees P c s) (hUs : treeIn P s.usual noOrc [.tmp 0, .tmp 1] 2 = tUsual c s) (hSm : treeIn P s.same noOrc [.tmp 0, .tmp 1] 2 = tSame c) {fs : List PF} (h : PF.fines fs = true) (hlen : fs.length < 65536) {w : World} {fv : Value} {t : PT} {ts : List Value} (x v : Int) (hfv : FieldsV w fs fv) (ht : TreeC w t ts) (hok : t.ok) (hl : (pWrite fs x v t).length ≤ maxW) :
    YieldsO P s.write [.agg ⟨[fv, .int .i64 x]⟩, .int .i64 v, .agg ⟨ts⟩] w (pWrite fs x v t) := by
  have htl := ht.len
  refine gives_in (ρ := en [_, _, _]) S.rd.mix T.write (Nat.le_refl _) rfl (by simp [opBelow]) ?_
  refine s_box rfl fun w1 hx1 k1 z1 => ?_
  refine s_box rfl fun w2 hy2 k2 z2 => ?_
  have hx2 := hx1.keep k2 (by simp)
  have k02 := k1.trans k2
  have hp := partT_all S T hUs hSm h hlen
  refine s_fl S.m0 S.oneFields rfl rfl hx2 rfl (s_fl S.m1 S.oneInt rfl rfl hx2 rfl ?_)
  refine s_val (v_cmp (kk := .i64) (a := x) (b := 0) (r := decide (x ≥ 0)) rfl rfl rfl) ?_
  unfold pWrite at hl ⊢
  refine s_cond (b := decide (x ≥ 0)) rfl (fun hb => ?_) fun hb => ?_
  · refine s_fl S.m1 S.oneInt rfl rfl hx2 rfl ?_
    refine s_val (v_cmp (kk := .i64) (a := v) (b := x) (r := decide (v ≥ x)) rfl rfl rfl) ?_
    have hfx : pFlex x v = decide (v ≥ x) := by
      unfold pFlex
      rw [show decide (0 ≤ x) = true from hb]
      rfl
    rw [hfx] at hl ⊢
    refine s_lok (l_loadN (b := w1.heap.size) (o := 0) S.ty.agg rfl hy2 (by omega)) ?_
    rw [take0 htl]
    exact s_callO (hp w2 fv v _ t ts (hfv.keep k02) (TreeC.keep k02 _ _ ht) hok hl) rfl fun u w3 hM => ⟨fun p hp => (by cases hp), s_ret1 (hM.under k02)⟩
  · have hfx : pFlex x v = false := by
      unfold pFlex
      rw [show decide (0 ≤ x) = false from hb]
      rfl
    rw [hfx] at hl ⊢
    refine s_lok (l_loadN (b := w1.heap.size) (o := 0) S.ty.agg rfl hy2 (by omega)) ?_
    rw [take0 htl]
    exact s_callO (hp w2 fv v _ t ts (hfv.keep k02) (TreeC.keep k02 _ _ ht) hok hl) rfl fun u w3 hM => ⟨fun p hp => (by cases hp), s_ret1 (hM.under k02)⟩

end

end Go.Kf


namespace Go.Kf

open Go

theorem PF.fine_sub {f : PF} (h : f.fine = true) : PF.fines f.sub = true := by
  cases f
  simp only [PF.fine, Bool.and_eq_true] at h
  exact h.2

theorem PF.fine_len {f : PF} (h : f.fine = true) : f.sub.length < 65536 := by
  cases f
  simp only [PF.fine, Bool.and_eq_true, decide_eq_true_eq] at h
  exact h.1.1.2

theorem PF.fine_elem {f : PF} (h : f.fine = true) (h11 : f.kind = 11) : f.elem ≠ 11 := by
  cases f
  simp only [PF.fine, Bool.and_eq_true, decide_eq_true_eq] at h
  intro he
  have h1 := h.1.2
  simp only [PF.kind] at h11
  simp only [PF.elem] at he
  simp [h11, he] at h1

section

variable {P : Program} {c : Nums} {s : SN}

mutual
theorem fittedT_all {fFit fOne : Nat} (S : SpFacts P c s) (T : SpTrees P c s) (M : MkTrees P c s fFit fOne) (v : Int) : ∀ f : PF, f.fine = true → FittedOf P fOne v f
  | .mk k fr to n g d e sub, h => by
    have hs := PF.fine_sub h
    have hl := PF.fine_len h
    have hF : FitOf P fFit v sub := fit_step S T.at_ T.whole M.fit hl (unknownT_all S T hs hl) (fittedsT_all S T M v sub hs)
    refine fitted_gives S T.null T.whole T.things M.fitted (f := .mk k fr to n g d e sub) hF fun h11 => ⟨PF.fine_elem h h11, ?_⟩
    exact fitted_gives S T.null T.whole T.things M.fitted (f := PF.one (.mk k fr to n g d e sub)) hF fun h => absurd h (PF.fine_elem ‹_› h11)
theorem fittedsT_all {fFit fOne : Nat} (S : SpFacts P c s) (T : SpTrees P c s) (M : MkTrees P c s fFit fOne) (v : Int) : ∀ fs : List PF, PF.fines fs = true → ∀ f ∈ fs, FittedOf P fOne v f
  | [], _, f, hf => by cases hf
  | x :: l, h, f, hf => by
    simp only [PF.fines, Bool.and_eq_true] at h
    rcases List.mem_cons.1 hf with e | hf
    · rw [e]; exact fittedT_all S T M v x h.1
    · exact fittedsT_all S T M v l h.2 f hf
end

theorem fitT_all {fFit fOne : Nat} (S : SpFacts P c s) (T : SpTrees P c s) (M : MkTrees P c s fFit fOne) (v : Int) {fs : List PF} (h : PF.fines fs = true) (hl : fs.length < 65536) : FitOf P fFit v fs :=
  fit_step S T.at_ T.whole M.fit hl (unknownT_all S T h hl) (fittedsT_all S T M v fs h)

end

end Go.Kf


namespace Go.Kf

open Go

theorem Own.cut {w : World} {v : Value} {l1 l2 : List UInt8} (hpos : 0 < l1.length) (h : Own w v 1 (l1 ++ l2).length (bcells (l1 ++ l2))) :
    ∃ b cap, v = .slice (some ⟨b, 0, none⟩) (l1 ++ l2).length cap ∧ (l1 ++ l2).length ≤ cap ∧ Own w (.slice (some ⟨b, 0, none⟩) l1.length cap) 1 l1.length (bcells l1) := by
  rcases h.2 with ⟨_, h0⟩ | ⟨b, cap, spare, e, hh, hle, hcap, hlen⟩
  · rw [List.length_append] at h0; omega
  · refine ⟨b, cap, e, hle, by simp [bcells_length], .inr ⟨b, cap, bcells l2 ++ spare, rfl, ?_, ?_, hcap, ?_⟩⟩
    · rw [← List.append_assoc, ← bcells_append]; exact hh
    · rw [List.length_append] at hle; omega
    · rw [← List.append_assoc, ← bcells_append]; exact hlen

theorem MadeO.cut {w0 w : World} {v : Value} {l1 l2 : List UInt8} (hpos : 0 < l1.length) (h : MadeO w0 w v (l1 ++ l2)) :
    ∃ b cap, v = .slice (some ⟨b, 0, none⟩) (l1 ++ l2).length cap ∧ (l1 ++ l2).length ≤ cap ∧ MadeO w0 w (.slice (some ⟨b, 0, none⟩) l1.length cap) l1 := by
  obtain ⟨b, cap, e, hle, ho⟩ := h.1.cut hpos
  refine ⟨b, cap, e, hle, ho, fun x hx => h.2.1 x ?_, h.2.2⟩
  rw [e]
  exact hx

section

variable {P : Program} {c : Nums} {w : World} {ρ : Nat → Value}

/-- A range over no map. -/
theorem a_rangeNil {t kt et : Nat} {x : Operand} (ht : P.underlying t = some (.map kt et)) (hx : ev ρ x = .map none) :
    ∃ w', runOp P ρ (.range t x) w = .ok (.value (ptr w.heap.size)) w' ∧ w'.heap[w.heap.size]? = some (.mapIter none 0 #[] 0) ∧ Keeps [] w w' ∧ w'.heap.size = w.heap.size + 1 := by
  refine ⟨{ w with heap := w.heap.push (.mapIter none 0 #[] 0) }, ?_, by simp, keeps_alloc w _ _, by simp⟩
  unfold runOp bareOp
  simp only [execOp, Instr.range, hx, Sem.run_bind, run_under ht, Result.andThen_ok, Sem.run_pure, run_newObj]
  rfl

theorem a_nextNil {b s l : Nat} {q : Array Nat} {x : Operand} (hx : ev ρ x = ptr b) (hb : w.heap[b]? = some (.mapIter none s q l)) : runOp P ρ (.next x false) w = .ok (.value (.tuple #[.bool false])) w := by
  have hg : (getObj b).run P w = .ok (.mapIter none s q l) w := by
    simp [getObj, Sem.run, hb]
  unfold runOp bareOp
  simp only [execOp, Instr.next, hx, ptr, Sem.run_bind, hg, Result.andThen_ok, Sem.run_pure]

end

end Go.Kf

namespace Go.Kf

open Go

def tTagsSame (c : Nums) : Tr :=
  .op (.box c.tTags (.tmp 0)) none [] <| .op (.box c.tTags (.tmp 1)) none [] <| .op (.fieldAddr c.tTags (.tmp 2) 0) none [] <| .op (.load c.tMap (.tmp 4)) none [] <| .op (.binOp .eql c.tMap (.tmp 5) (.const (.map none)) c.tMap) none [] <|
  .op (.fieldAddr c.tTags (.tmp 3) 0) none [] <| .op (.load c.tMap (.tmp 7)) none [] <| .op (.binOp .eql c.tMap (.tmp 8) (.const (.map none)) c.tMap) none [] <| .op (.binOp .neq c.tBool (.tmp 6) (.tmp 9) c.tBool) none [] <| .cond (.tmp 10) (.ret [(.const (.bool false), none)]) <|
  .op (.fieldAddr c.tTags (.tmp 2) 0) none [] <| .op (.load c.tMap (.tmp 11)) none [] <| .op (.call { callee := .builtin .len, args := ⟨[.tmp 12]⟩, argTypes := ⟨[c.tMap]⟩ }) none [] <|
  .op (.fieldAddr c.tTags (.tmp 3) 0) none [] <| .op (.load c.tMap (.tmp 14)) none [] <| .op (.call { callee := .builtin .len, args := ⟨[.tmp 15]⟩, argTypes := ⟨[c.tMap]⟩ }) none [] <| .op (.binOp .neq c.tInt (.tmp 13) (.tmp 16) c.tInt) none [] <| .cond (.tmp 17) (.ret [(.const (.bool false), none)]) <|
  .op (.fieldAddr c.tTags (.tmp 2) 0) none [] <| .op (.load c.tMap (.tmp 18)) none [] <| .op (.range c.tMap (.tmp 19)) none [] <| .loop 0 [.const (.bool false)] <| .op (.next (.tmp 20) false) none [] <| .op (.extract (.tmp 22) 0) none [] <|
  .cond (.tmp 23) (.op (.entry (.tmp 20)) none [] <| .op (.extract (.tmp 24) 0) none [] <| .op (.extract (.tmp 24) 1) none [] <| .op (.fieldAddr c.tTags (.tmp 3) 0) none [] <| .op (.load c.tMap (.tmp 27)) none [] <| .op (.lookup c.tMap (.tmp 28) (.tmp 25) true) none [] <|
    .op (.extract (.tmp 29) 0) none [] <| .op (.extract (.tmp 29) 1) none [] <| .op (.unOp .not c.tBool (.tmp 31)) none [] <| .cond (.tmp 32) (.ret [(.const (.bool false), none)]) <|
    .op (.binOp .eql c.tBytes (.tmp 26) (.const (.slice none 0 0)) c.tBytes) none [] <| .op (.binOp .eql c.tBytes (.tmp 30) (.const (.slice none 0 0)) c.tBytes) none [] <| .op (.binOp .neq c.tBool (.tmp 33) (.tmp 34) c.tBool) none [] <| .cond (.tmp 35) (.ret [(.const (.bool false), none)]) <|
    .op (.convert c.tBytes c.tStr (.tmp 26)) none [] <| .op (.convert c.tBytes c.tStr (.tmp 30)) none [] <| .op (.binOp .neq c.tStr (.tmp 36) (.tmp 37) c.tStr) none [] <| .cond (.tmp 38) (.ret [(.const (.bool false), none)]) (.to 0 [.tmp 21])) (.ret [(.const (.bool true), none)])

section

variable {P : Program} {c : Nums} {w : World}

theorem tagsSame_nil {f : Nat} {m : Option Nat} (F : RdFacts P c) (T : TagFacts P c) (hb : P.underlying c.tBool = some .bool) (hT : treeIn P f noOrc [.tmp 0, .tmp 1] 2 = tTagsSame c) : Gives P f [.agg ⟨[.map m]⟩, .agg ⟨[.map none]⟩] w fun u w' => u = .bool m.isNone ∧ Keeps [] w w' := by
  refine gives_in (ρ := en [.agg ⟨[.map m]⟩, .agg ⟨[.map none]⟩]) F.mix hT (Nat.le_refl _) rfl (by simp [opBelow]) ?_
  refine s_box rfl fun w1 h1 k1 z1 => ?_
  refine s_box rfl fun w2 h2 k2 z2 => ?_
  have h12 := h1.keep k2 (by simp)
  have k02 := k1.trans k2
  refine s_fl (b := w.heap.size) (o := 0) T.f0 T.oneMap rfl rfl h12 rfl ?_
  refine s_val (v_eqlMap (op := .eql) (a := m) (r := m.isNone) T.map rfl rfl (.inl ⟨rfl, rfl⟩)) ?_
  refine s_fl (b := w1.heap.size) (o := 0) T.f0 T.oneMap rfl rfl h2 rfl ?_
  refine s_val (v_eqlMap (op := .eql) (a := none) (r := true) T.map rfl rfl (.inl ⟨rfl, rfl⟩)) ?_
  refine s_val (v_eqlBool (op := .neq) (a := m.isNone) (b := true) (r := m.isNone != true) hb rfl rfl (.inr ⟨rfl, rfl⟩)) ?_
  refine s_cond (b := m.isNone != true) rfl (fun hb1 => s_ret1 ⟨?_, k02⟩) fun hb1 => ?_
  · cases m with
    | none => simp at hb1
    | some _ => rfl
  cases m with
  | some _ => simp at hb1
  | none =>
    refine s_fl (b := w.heap.size) (o := 0) T.f0 T.oneMap rfl rfl h12 rfl (s_val (v_lenNilMap T.map rfl) ?_)
    refine s_fl (b := w1.heap.size) (o := 0) T.f0 T.oneMap rfl rfl h2 rfl (s_val (v_lenNilMap T.map rfl) ?_)
    refine s_val (v_cmp (kk := .i64) (a := 0) (b := 0) (r := false) rfl rfl rfl) ?_
    refine s_cond (b := false) rfl (fun h => by cases h) fun _ => ?_
    refine s_fl (b := w.heap.size) (o := 0) T.f0 T.oneMap rfl rfl h12 rfl ?_
    obtain ⟨w3, e3, h3, k3, z3⟩ := a_rangeNil (P := P) (w := w2) (t := c.tMap) (x := .tmp 19) (ρ := ext (ext (ext (ext (ext (ext (ext (ext (ext (ext (ext (ext (ext (ext (ext (ext (ext (ext (en [.agg ⟨[.map none]⟩, .agg ⟨[.map none]⟩]) 2 [ptr w.heap.size]) 3 [ptr w1.heap.size]) 4 [ptr w.heap.size (0 + 0)]) 5 [.map none]) 6 [.bool true]) 7 [ptr w1.heap.size (0 + 0)]) 8 [.map none]) 9 [.bool true]) 10 [.bool false]) 11 [ptr w.heap.size (0 + 0)]) 12 [.map none]) 13 [.int .i64 0]) 14 [ptr w1.heap.size (0 + 0)]) 15 [.map none]) 16 [.int .i64 0]) 17 [.bool false]) 18 [ptr w.heap.size (0 + 0)]) 19 [.map none]) T.map rfl
    refine s_act e3 (fun p hp => by cases hp) ?_
    refine ⟨rfl, fun vs w' => w' = w3 ∧ vs = [.bool false], fun _ _ => 0, ⟨rfl, rfl⟩, ?_⟩
    rintro vs w4 _ ⟨rfl, rfl⟩
    refine s_act (a_nextNil (b := w2.heap.size) rfl h3) (fun p hp => by cases hp) ?_
    refine s_val (v_extract (vs := #[.bool false]) rfl rfl) ?_
    refine s_cond (b := false) rfl (fun h => by cases h) fun _ => ?_
    exact s_ret1 ⟨rfl, k02.trans k3⟩

end

end Go.Kf

namespace Go.Kf

open Go

section

variable {P : Program} {c : Nums} {w : World} {ρ : Nat → Value}

theorem v_eqlStr {op : BinOp} {t u : Nat} {x y : Operand} {a b : ByteArray} {r : Bool} (hx : ev ρ x = .string a) (hy : ev ρ y = .string b)
    (h : (op = .eql ∧ r = (a.toList == b.toList)) ∨ (op = .neq ∧ r = !(a.toList == b.toList))) : Val P ρ (.binOp op t x y u) (.bool r) := fun w => by
  unfold runOp bareOp
  simp only [execOp, hx, hy]
  rcases h with ⟨rfl, rfl⟩ | ⟨rfl, rfl⟩
  · simp [eqGuard, binOp, Op.stringOp]
  · simp [eqGuard, binOp, Op.stringOp, bne]

def tLeadSame (c : Nums) (S fTags : Nat) : Tr :=
  .op (.box S (.tmp 0)) none [] <| .op (.box S (.tmp 1)) none [] <| .op (.fieldAddr S (.tmp 2) 0) none [] <| .op (.load c.tI32 (.tmp 4)) none [] <| .op (.fieldAddr S (.tmp 3) 0) none [] <| .op (.load c.tI32 (.tmp 6)) none [] <| .op (.binOp .eql c.tI32 (.tmp 5) (.tmp 7) c.tI32) none [] <|
  .cond (.tmp 8) (.op (.fieldAddr S (.tmp 2) 1) none [] <| .op (.load c.tI32 (.tmp 9)) none [] <| .op (.fieldAddr S (.tmp 3) 1) none [] <| .op (.load c.tI32 (.tmp 11)) none [] <| .op (.binOp .eql c.tI32 (.tmp 10) (.tmp 12) c.tI32) none [] <|
    .cond (.tmp 13) (.op (.fieldAddr S (.tmp 2) 2) none [] <| .op (.load c.tStr (.tmp 14)) none [] <| .op (.fieldAddr S (.tmp 3) 2) none [] <| .op (.load c.tStr (.tmp 16)) none [] <| .op (.binOp .eql c.tStr (.tmp 15) (.tmp 17) c.tStr) none [] <|
      .cond (.tmp 18) (.op (.fieldAddr S (.tmp 2) 3) none [] <| .op (.load c.tI32 (.tmp 19)) none [] <| .op (.fieldAddr S (.tmp 3) 3) none [] <| .op (.load c.tI32 (.tmp 21)) none [] <| .op (.binOp .eql c.tI32 (.tmp 20) (.tmp 22) c.tI32) none [] <|
        .cond (.tmp 23) (.op (.fieldAddr S (.tmp 2) 4) none [] <| .op (.load c.tTags (.tmp 24)) none [] <| .op (.fieldAddr S (.tmp 3) 4) none [] <| .op (.load c.tTags (.tmp 26)) none [] <| .op (callOp fTags [.tmp 25, .tmp 27]) none [] <| .ret [(.tmp 28, none)])
          (.ret [(.const (.bool false), none)])) (.ret [(.const (.bool false), none)])) (.ret [(.const (.bool false), none)])) (.ret [(.const (.bool false), none)])

structure LeadTy (P : Program) (c : Nums) (S : Nat) : Prop where
  f0 : fieldOff P S 0 = some 0
  f1 : fieldOff P S 1 = some 1
  f2 : fieldOff P S 2 = some 2
  f3 : fieldOff P S 3 = some 3
  f4 : fieldOff P S 4 = some 4
  oneI32 : oneTy P c.tI32 = true
  oneStr : oneTy P c.tStr = true
  str : P.underlying c.tStr = some .string
  bool : P.underlying c.tBool = some .bool

/-- Held against what it is by default. -/
theorem leadSame_gives {f fTags S : Nat} {a b d : Int} {tx : List UInt8} {m : Option Nat} (F : RdFacts P c) (T : TagFacts P c) (L : LeadTy P c S) (hTg : treeIn P fTags noOrc [.tmp 0, .tmp 1] 2 = tTagsSame c) (hT : treeIn P f noOrc [.tmp 0, .tmp 1] 2 = tLeadSame c S fTags) {a0 b0 d0 : Int} :
    Gives P f [.agg ⟨[.int .i32 a, .int .i32 b, .string (strOf tx), .int .i32 d, .map m]⟩, .agg ⟨[.int .i32 a0, .int .i32 b0, .string (strOf []), .int .i32 d0, .map none]⟩] w fun u w' => u = .bool (a == a0 && (b == b0 && ((strOf tx).toList == (strOf []).toList && (d == d0 && m.isNone)))) ∧ Keeps [] w w' := by
  refine gives_in (ρ := en [_, _]) F.mix hT (Nat.le_refl _) rfl (by simp [opBelow]) ?_
  refine s_box rfl fun w1 h1 k1 z1 => ?_
  refine s_box rfl fun w2 h2 k2 z2 => ?_
  have h12 := h1.keep k2 (by simp)
  have k02 := k1.trans k2
  refine s_fl (b := w.heap.size) (o := 0) L.f0 L.oneI32 rfl rfl h12 rfl (s_fl (b := w1.heap.size) (o := 0) L.f0 L.oneI32 rfl rfl h2 rfl ?_)
  refine s_val (v_cmp (kk := .i32) (a := a) (b := a0) (r := a == a0) rfl rfl rfl) ?_
  refine s_cond (b := a == a0) rfl (fun hb => ?_) fun hb => s_ret1 ⟨by rw [hb]; rfl, k02⟩
  rw [hb]
  refine s_fl (b := w.heap.size) (o := 0) L.f1 L.oneI32 rfl rfl h12 rfl (s_fl (b := w1.heap.size) (o := 0) L.f1 L.oneI32 rfl rfl h2 rfl ?_)
  refine s_val (v_cmp (kk := .i32) (a := b) (b := b0) (r := b == b0) rfl rfl rfl) ?_
  refine s_cond (b := b == b0) rfl (fun hb => ?_) fun hb => s_ret1 ⟨by rw [hb]; rfl, k02⟩
  rw [hb]
  refine s_fl (b := w.heap.size) (o := 0) L.f2 L.oneStr rfl rfl h12 rfl (s_fl (b := w1.heap.size) (o := 0) L.f2 L.oneStr rfl rfl h2 rfl ?_)
  refine s_val (v_eqlStr (op := .eql) (a := strOf tx) (b := strOf []) (r := (strOf tx).toList == (strOf []).toList) rfl rfl (.inl ⟨rfl, rfl⟩)) ?_
  refine s_cond (b := (strOf tx).toList == (strOf []).toList) rfl (fun hb => ?_) fun hb => s_ret1 ⟨by rw [hb]; rfl, k02⟩
  rw [hb]
  refine s_fl (b := w.heap.size) (o := 0) L.f3 L.oneI32 rfl rfl h12 rfl (s_fl (b := w1.heap.size) (o := 0) L.f3 L.oneI32 rfl rfl h2 rfl ?_)
  refine s_val (v_cmp (kk := .i32) (a := d) (b := d0) (r := d == d0) rfl rfl rfl) ?_
  refine s_cond (b := d == d0) rfl (fun hb => ?_) fun hb => s_ret1 ⟨by rw [hb]; rfl, k02⟩
  rw [hb]
  refine s_val (v_field (b := w.heap.size) (o := 0) L.f4 rfl) (s_lok (l_loadN (b := w.heap.size) (o := 0 + 4) T.agg rfl h12 (by simp)) ?_)
  refine s_val (v_field (b := w1.heap.size) (o := 0) L.f4 rfl) (s_lok (l_loadN (b := w1.heap.size) (o := 0 + 4) T.agg rfl h2 (by simp)) ?_)
  refine s_callx (tagsSame_nil (m := m) F T L.bool hTg) rfl fun u w3 ⟨hu, k3⟩ => ?_
  subst hu
  exact s_ret1 ⟨rfl, k02.trans k3⟩

end

end Go.Kf

namespace Go.Kf

open Go

theorem toList_loop (bs : ByteArray) : ∀ (k i : Nat) (r : List UInt8), bs.size - i = k → ByteArray.toList.loop bs i r = r.reverse ++ bs.data.toList.drop i := by
  intro k
  induction k with
  | zero =>
    intro i r h
    have hs : bs.data.toList.length = bs.size := rfl
    unfold ByteArray.toList.loop
    rw [if_neg (by omega), List.drop_of_length_le (by omega), List.append_nil]
  | succ k ih =>
    intro i r h
    have hs : bs.data.toList.length = bs.size := rfl
    have hi : i < bs.size := by omega
    unfold ByteArray.toList.loop
    rw [if_pos hi, ih (i + 1) _ (by omega), List.reverse_cons, List.append_assoc]
    congr 1
    have hg : bs.get! i = bs.data.toList[i]'(by omega) := by
      show bs.data[i]! = _
      rw [getElem!_pos bs.data i (by exact hi)]
      rfl
    rw [hg, List.singleton_append]
    exact (List.drop_eq_getElem_cons (by omega)).symm

theorem strOf_toList (l : List UInt8) : (strOf l).toList = l := by
  unfold ByteArray.toList
  rw [toList_loop (strOf l) _ 0 [] rfl]
  rfl

theorem strOf_same (tx : List UInt8) : ((strOf tx).toList == (strOf []).toList) = tx.isEmpty := by
  rw [strOf_toList, strOf_toList]
  cases tx <;> rfl

end Go.Kf

namespace Go.Kf

open Go

def gLeadEnc (c : Nums) (S fI32 fCS fUv fLen fEach B n : Nat) (x : Operand) (k : Tr) : Tr :=
  .op (.fieldAddr S (.tmp B) 0) none [] <| .op (.load c.tI32 (.tmp n)) none [] <| .op (callOp fI32 [x, .tmp (n + 1)]) none [] <|
  .op (.fieldAddr S (.tmp B) 1) none [] <| .op (.load c.tI32 (.tmp (n + 3))) none [] <| .op (callOp fI32 [.tmp (n + 2), .tmp (n + 4)]) none [] <|
  .op (.fieldAddr S (.tmp B) 2) none [] <| .op (.load c.tStr (.tmp (n + 6))) none [] <| .op (callOp fCS [.tmp (n + 5), .tmp (n + 7)]) none [] <|
  .op (.fieldAddr S (.tmp B) 3) none [] <| .op (.load c.tI32 (.tmp (n + 9))) none [] <| .op (callOp fI32 [.tmp (n + 8), .tmp (n + 10)]) none [] <|
  .op (.fieldAddr S (.tmp B) 4) none [] <| .op (callOp fLen [.tmp (n + 12)]) none [] <| .op (.convert c.tInt c.tU32 (.tmp (n + 13))) none [] <| .op (.binOp .add c.tU32 (.const (.int .u32 0)) (.tmp (n + 14)) c.tU32) none [] <| .op (callOp fUv [.tmp (n + 11), .tmp (n + 15)]) none [] <|
  .op (.fieldAddr S (.tmp B) 4) none [] <| .op (callOp fEach [.tmp (n + 17), .tmp (n + 16)]) none [] k

def encLead (a b : Int) (tx : List UInt8) (d : Int) (m : TM) : List UInt8 := pFixed a 4 ++ (pFixed b 4 ++ ((pUv (tx.length + 1) ++ tx) ++ (pFixed d 4 ++ (pUv m.length ++ encT (sortTM m)))))

section

variable {P : Program} {c : Nums} {s : SN} {R : Value → World → Prop} {Γ : List (List Value → World → Prop)} {n : Nat} {ρ : Nat → Value} {w : World} {k : Tr}

end

end Go.Kf

namespace Go.Kf

open Go

def tUpdApp (c : Nums) (S SL fI32 fI16 fDef fZz fUv fLen fCS fEach : Nat) : Tr :=
  .op (.nilCheck (.tmp 0)) none [] <| .op (.fieldAddr S (.tmp 2) 0) none [] <| .op (.load c.tI16 (.tmp 3)) (some (.int .i16 0)) [] <|
  .op (.nilCheck (.tmp 0)) none [] <| .op (.fieldAddr S (.tmp 5) 1) none [] <| .op (.load c.tI32 (.tmp 6)) none [] <| .op (callOp fI32 [.tmp 1, .tmp 7]) none [] <|
  .op (.nilCheck (.tmp 0)) none [] <| .op (.fieldAddr S (.tmp 9) 2) none [] <| .op (.load c.tI16 (.tmp 10)) none [] <| .op (callOp fI16 [.tmp 8, .tmp 11]) none [] <| .draw <|
  .pur (.nilCheck (.tmp 0)) none <| .pur (.fieldAddr S (.tmp 13) 3) none <| .lok (.load SL (.tmp 14)) none <| .op (callOp fDef []) none [(.load SL (.tmp 14), 15)] <| .op (callOp fZz [.tmp 15, .tmp 16]) none [] <| .pur (.unOp .not c.tBool (.tmp 17)) none <|
  .join 0 (.cond (.tmp 18) (.op (.buildSlice c.tKeys 1 ⟨[(0, .const (.int .u32 0))]⟩) none [] <| .op (.call { callee := .builtin .append, args := ⟨[nilV, .tmp 19]⟩, argTypes := ⟨[c.tKeys, c.tKeys]⟩ }) none [] <| .to 0 [.tmp 20]) (.to 0 [.const (.slice none 0 0)])) 1 <|
  .op (.call { callee := .builtin .len, args := ⟨[.tmp 19]⟩, argTypes := ⟨[c.tKeys]⟩ }) none [] <| .op (.nilCheck (.tmp 0)) none [] <| .op (.fieldAddr S (.tmp 21) 4) none [] <| .op (callOp fLen [.tmp 22]) none [] <| .op (.binOp .add c.tInt (.tmp 20) (.tmp 23) c.tInt) none [] <|
  .op (.convert c.tInt c.tU32 (.tmp 24)) none [] <| .op (callOp fUv [.tmp 12, .tmp 25]) none [] <| .op (.call { callee := .builtin .len, args := ⟨[.tmp 19]⟩, argTypes := ⟨[c.tKeys]⟩ }) none [] <|
  .loop 0 [.tmp 26, .const (.int .i64 0)] <| .op (.binOp .lss c.tInt (.tmp 29) (.tmp 27) c.tInt) none [] <|
  .cond (.tmp 30) (.op (.indexAddr c.tKeys (.tmp 19) (.tmp 29)) none [] <| .op (.load c.tU32 (.tmp 31)) none [] <| .op (.binOp .eql c.tU32 (.tmp 32) (.const (.int .u32 0)) c.tU32) none [] <|
    .join 1 (.cond (.tmp 33) (.op (.nilCheck (.tmp 0)) none [] <| .op (.fieldAddr S (.tmp 34) 3) none [] <| .op (.load SL (.tmp 35)) none [] <| .op (.alloc SL) none [] <| .op (.store SL (.tmp 37) (.tmp 36)) none [] <|
      .op (callOp fUv [.tmp 28, .const (.int .u32 0)]) none [] <| .op (.call { callee := .builtin .len, args := ⟨[.tmp 39]⟩, argTypes := ⟨[c.tBytes]⟩ }) none [] <|
      gLeadEnc c SL fI32 fCS fUv fLen fEach 37 41 (.tmp 39) <| .draw <| .pur (.slice c.tBytes (.tmp 59) none (some (.tmp 40)) none) none <| .pur (.slice c.tBytes (.tmp 59) (some (.tmp 40)) none none) none <|
      .pur (.call { callee := .builtin .len, args := ⟨[.tmp 61]⟩, argTypes := ⟨[c.tBytes]⟩ }) none <| .op (.convert c.tInt c.tU32 (.tmp 62)) none [] <| .op (callOp fUv [.tmp 60, .tmp 63]) none [] <|
      gLeadEnc c SL fI32 fCS fUv fLen fEach 37 65 (.tmp 64) <| .to 1 [.tmp 83]) (.to 1 [.tmp 28])) 1 <|
    .op (.binOp .add c.tInt (.tmp 29) (.const (.int .i64 1)) c.tInt) none [] <| .to 0 [.tmp 34, .tmp 35])
    (.op (.nilCheck (.tmp 0)) none [] <| .op (.fieldAddr S (.tmp 31) 4) none [] <| .op (callOp fEach [.tmp 32, .tmp 28]) none [] <| .ret [(.tmp 33, none)])

end Go.Kf


namespace Go.Kf

open Go

theorem EntsA.get {A : Nat → Prop} {w : World} : ∀ {es : List MapEntry} {m : TM} {i : Nat} {p : Nat × List UInt8}, EntsA A w es m → m[i]? = some p → ∃ e, es[i]? = some e ∧ EntA A w e p
  | e :: es, q :: m, 0, p, ⟨h, _⟩, hi => by
    simp only [List.getElem?_cons_zero, Option.some.injEq] at hi
    subst hi
    exact ⟨e, rfl, h⟩
  | e :: es, q :: m, i + 1, p, ⟨_, h⟩, hi => by
    simp only [List.getElem?_cons_succ] at hi
    simpa using EntsA.get h hi
  | [], [], _, _, _, hi => by simp at hi
  | [], _ :: _, _, _, h, _ => h.elim
  | _ :: _, [], _, _, h, _ => h.elim

/-- EachGives, by the blocks M0 that the closure may write. -/
def EachGivesB (P : Program) (f : Nat) : Prop := ∀ (w : World) (V o gCl : Nat) (cs : List Value) (mv cap : Value) (m : TM) (J : Nat → TM → World → Prop) (M0 : List Nat),
  Has w V cs → cs[o]? = some mv → TagsA (fun b => b ∉ M0) w m mv → V ∉ M0 → m.length < 1073741826 → (∀ b ∈ M0, b < w.heap.size) → (∀ w', Keeps [] w w' → J w'.heap.size [] w') →
  (∀ (h : Nat) (pre : TM) (p : Nat × List UInt8) (v : Value) (w1 : World), J h pre w1 → h ≤ w1.heap.size → w.heap.size ≤ h → (pre.length < m.length ∧ ∃ j, pre ++ [p] = (sortTM m).take j) → Ro w1 v 1 p.2.length (bcells p.2) → (p.2.length ≠ 0 → ∀ b ∈ blkOf v, b ∉ M0 ∧ b < w.heap.size) → p ∈ m → Gives P gCl [.int .u32 p.1, v, cap] w1 fun _ w2 => J h (pre ++ [p]) w2 ∧ ∃ M, Keeps M w1 w2 ∧ ∀ b ∈ M, b ∈ M0 ∨ h ≤ b) →
  Gives P f [ptr V o, .func (.func gCl) #[] #[cap]] w fun _ w' => (∃ h, w.heap.size ≤ h ∧ J h (sortTM m) w') ∧ Keeps M0 w w'

def WrTagsB (P : Program) (f : Nat) : Prop := ∀ (w : World) (V o : Nat) (cs : List Value) (mv v : Value) (m : TM) (l : List UInt8), Has w V cs → cs[o]? = some mv → TagsA (fun b => b ∉ blkOf v) w m mv → V ∉ blkOf v → m.length ≤ big → (∀ p ∈ m, p.2.length ≤ big) → Own w v 1 l.length (bcells l) → (l ++ encT (sortTM m)).length ≤ maxW →
  Gives P f [ptr V o, v] w (WrPost w v l (encT (sortTM m)))

section

variable {P : Program} {c : Nums}

theorem eachB_gives {f gLess fSort : Nat} (F : RdFacts P c) (T : TagFacts P c) (hS : SortGives P c fSort gLess) (hT : treeIn P f noOrc [.tmp 0, .tmp 1] 2 = tEach c gLess fSort) : EachGivesB P f := by
  intro w V o gCl cs mv cap m J M0 hV hmv htags hVM hml hM0 hJ0 hJ
  refine gives_in (ρ := en [ptr V o, .func (.func gCl) #[] #[cap]]) F.mix hT (Nat.le_refl _) rfl (by simp [opBelow]) ?_
  have hmv' : cs[o + 0]? = some mv := hmv
  refine s_get (b := V) (o := o) T.f0 T.oneMap rfl (hV) hmv' ?_
  rcases htags with ⟨rfl, rfl⟩ | ⟨mb, esA, clock, hmbM, rfl, hmA, heA, hp, hborn, h32, hnd, hne⟩
  · refine s_val (v_lenNilMap T.map rfl) ?_
    refine s_val (v_cmp (kk := .i64) (a := 0) (b := 0) (r := true) rfl rfl rfl) ?_
    refine s_cond (b := true) rfl (fun _ => s_ret0 ⟨⟨_, Nat.le_refl _, by rw [sortTM_nil]; exact hJ0 w .refl⟩, .refl⟩) (fun h => by cases h)
  obtain ⟨es, rfl⟩ : ∃ es, esA = ⟨es⟩ := ⟨esA.toList, rfl⟩
  have hm0 : MapIs w mb es clock := hmA
  have he := heA.r
  simp only at he hp hborn
  have hlen := he.len
  have hpos : 0 < es.length := by
    rw [hlen]
    exact List.length_pos_iff.2 hne
  have hk32 := he.keys
  have hne0 : ((es.length : Int) == 0) = false := by
    have h : (es.length : Int) ≠ 0 := by omega
    exact beq_eq_false_iff_ne.2 h
  refine s_lok (l_lenMap T.map rfl (hm0)) ?_
  refine s_val (v_cmp (kk := .i64) (a := es.length) (b := 0) (r := false) rfl rfl (by rw [cmpOf, hne0])) ?_
  refine s_cond (b := false) rfl (fun h => by cases h) fun _ => ?_
  refine s_get (b := V) (o := o) T.f0 T.oneMap rfl (hV) hmv' ?_
  refine s_lok (l_lenMap T.map rfl (hm0)) ?_
  obtain ⟨inf, z, hinf, hz, hsz, hzc, hby⟩ := info_of T.zeroU32
  generalize hρ : ext (ext (ext (ext (ext (en [ptr V o, .func (.func gCl) #[] #[cap]]) 2 _) _ _) _ _) _ _) _ _ = ρ1
  have r0 : ρ1 0 = ptr V o := by subst hρ; rfl
  have r1 : ρ1 1 = .func (.func gCl) #[] #[cap] := by subst hρ; rfl
  have r10 : ρ1 10 = .int .i64 es.length := by subst hρ; rfl
  clear hρ
  obtain ⟨w1, e1, h1, k1, z1⟩ := a_makeSlice (P := P) (ρ := ρ1) (w := w) (t := c.tKeys) (x := .const (.int .i64 0)) (y := .tmp 10) (k1 := .i64) (k2 := .i64) (l := 0) (c := es.length) T.keys hinf hz (by rw [hzc, hsz]) (by rw [hsz]; decide) rfl r10 (Int.le_refl _) (by omega) (by
    have : inf.bytes * es.length ≤ 8 * 1073741826 := Nat.mul_le_mul hby (by omega)
    have h2 : ((inf.bytes * es.length : Nat) : Int) = (inf.bytes : Int) * es.length := Int.natCast_mul _ _
    omega) (by omega)
  refine s_act e1 (fun p hp => (by cases hp)) ?_
  obtain ⟨w2, e2, h2, k2, z2⟩ := a_alloc (P := P) (ρ := ext ρ1 (7 + 3 + 1) [.slice (some ⟨w.heap.size, 0, none⟩) (0 : Int).toNat ((es.length : Nat) : Int).toNat]) (w := w1) T.zeroKeys
  refine s_act e2 (fun p hp => (by cases hp)) ?_
  obtain ⟨w3, e3, h3, k3⟩ := a_store1 (P := P) (ρ := ext (ext ρ1 (7 + 3 + 1) [.slice (some ⟨w.heap.size, 0, none⟩) (0 : Int).toNat ((es.length : Nat) : Int).toNat]) (7 + 3 + 1 + 1) [.pointer (some ⟨w1.heap.size, 0, none⟩)]) (w := w2) (t := c.tKeys) (x := .tmp 12) (y := .tmp 11) (b := w1.heap.size) (o := 0) (v := .slice (some ⟨w.heap.size, 0, none⟩) 0 es.length) T.oneKeys rfl rfl rfl h2 (by simp [Value.cells])
  refine s_unit e3 (fun p hp => (by cases hp)) ?_
  have k03 : Keeps [] w w3 := ((k1.trans k2).mono (by simp) |>.trans k3).less fun x hx => .inr (by simp only [List.mem_singleton] at hx; omega)
  have kw03 := k03
  refine s_get (n := 14) (b := V) (o := o) T.f0 T.oneMap (by show ext _ _ _ 0 = _; rw [ext_lt (by omega), ext_lt (by omega), ext_lt (by omega), r0]) (hV.keep kw03 (by simp)) hmv' ?_
  obtain ⟨w4, e4, hi4, k4, z4⟩ := a_range (P := P) (w := w3) (t := c.tMap) (x := .tmp 16) (ρ := ext (ext (ext (ext ρ1 (7 + 3 + 1) [.slice (some ⟨w.heap.size, 0, none⟩) (0 : Int).toNat ((es.length : Nat) : Int).toNat]) (7 + 3 + 1 + 1) [.pointer (some ⟨w1.heap.size, 0, none⟩)]) (7 + 3 + 1 + 1 + 1) [undef]) 14 [ptr V o, ptr V (o + 0), .map (some mb)]) T.map rfl (hm0.keep kw03 (by simp))
  refine s_act e4 (fun p hp => (by cases hp)) ?_
  have s1 := k1.size
  have s2 := k2.size
  have s3 := k3.size
  have s4 := k4.size
  have hm0lt := hm0.lt
  have hVlt := hV.lt
  have k04 := k03.trans k4
  have hcap : Has w4 w.heap.size ((List.replicate ((es.length : Nat) : Int).toNat z.cells.toList).flatten) := ((h1.keep k2 (by simp)).keep k3 (by simp only [List.mem_singleton]; omega)).keep k4 (by simp)
  have hflat : ((List.replicate ((es.length : Nat) : Int).toNat z.cells.toList).flatten).length = es.length := by
    rw [List.length_flatten, List.map_replicate, List.sum_replicate_nat]
    have : z.cells.toList.length = 1 := by simpa using hzc
    rw [this]; simp
  have hown : Own w4 (.slice (some ⟨w.heap.size, 0, none⟩) 0 es.length) 1 0 [] := ⟨rfl, .inr ⟨w.heap.size, es.length, _, rfl, by simpa using hcap, Nat.zero_le _, by omega, by simpa using hflat⟩⟩
  have ho4 : Has w4 w1.heap.size [.slice (some ⟨w.heap.size, 0, none⟩) 0 es.length] := by
    have := h3.keep k4 (by simp)
    simpa [Value.cells] using this
  generalize hρ2 : ext (ext (ext (ext (ext ρ1 _ _) _ _) _ _) 14 _) (14 + 3) _ = ρ2
  have q0 : ρ2 0 = ptr V o := by subst hρ2; rw [ext_lt (by omega), ext_lt (by omega), ext_lt (by omega), ext_lt (by omega), ext_lt (by omega), r0]
  have q1 : ρ2 1 = .func (.func gCl) #[] #[cap] := by subst hρ2; rw [ext_lt (by omega), ext_lt (by omega), ext_lt (by omega), ext_lt (by omega), ext_lt (by omega), r1]
  have q12 : ρ2 12 = ptr w1.heap.size := by subst hρ2; rw [ext_lt (by omega), ext_lt (by omega), ext_lt (by omega)]; exact ext_at
  have q17 : ρ2 17 = ptr w3.heap.size := by subst hρ2; exact ext_at
  clear hρ2
  refine s_range (B := w.heap.size) T q17 q12 hi4 ((hm0.keep kw03 (by simp)).keep k4 (by simp)) hk32 hp hborn ho4 hown (by omega) (by omega) (by omega) (fun b hb => by simp only [blkOf, List.mem_singleton] at hb; omega) (by omega) (by omega) ?_
  intro w5 ρ3 ov ks M Δ hΔ hag hperm ho5 hown5 hov5 k5 hM
  have hkl : ks.length = es.length := by rw [hperm.length_eq, List.length_map]
  rcases hown5.2 with ⟨_, h0⟩ | ⟨kb, kcap, spare, rfl, hk5, _, _, _⟩
  · omega
  have hkb := hov5 kb (by simp [blkOf])
  have p12 : ρ3 12 = ptr w1.heap.size := by rw [hag 12 (by omega)]; exact q12
  refine s_lok (l_load1 (b := w1.heap.size) (o := 0) T.oneKeys p12 ho5 rfl) ?_
  refine s_val (v_makeIface (v := .slice (some ⟨kb, 0, none⟩) ks.length kcap) T.keys ext_at) ?_
  refine s_val (v_makeFunc1 (v := ptr w1.heap.size) (by show ext _ _ _ 12 = _; rw [ext_lt (by omega), ext_lt (by omega)]; exact p12)) ?_
  have k05 : Keeps [] w w5 := ((k04.mono (by simp)).trans k5).less fun x hx => .inr (hM x hx)
  refine s_callx (hS w5 w1.heap.size kb kcap ks spare ho5 hk5 (fun e => hkb.2 e.symm) (by omega) (by omega)) (pair_eq (by show ext _ _ _ 21 = _; rw [ext_lt (by omega)]; exact ext_at) ext_at) fun u w6 ⟨ks', kcs, hperm', hsort, hk6, hkc, k6⟩ => ?_
  have hks : ks' = (m.map fun p => (p.1 : Int)).mergeSort leInt := sorted_eq (hperm'.trans (hperm.trans (by rw [he.keyInts]))) hsort
  have hkl' : ks'.length = ks.length := hperm'.length_eq
  have ho6 : Has w6 w1.heap.size [.slice (some ⟨kb, 0, none⟩) ks.length kcap] := ho5.keep k6 (by simp only [List.mem_singleton]; exact fun e => hkb.2 e.symm)
  have s6 := k6.size
  have s5 := k5.size
  have k06 : Keeps [] w w6 := ((k05.mono (by simp)).trans k6).less fun x hx => .inr (by simp only [List.mem_singleton] at hx; omega)
  refine s_lok (l_load1 (b := w1.heap.size) (o := 0) T.oneKeys (by show ext _ _ _ 12 = _; rw [ext_lt (by omega), ext_lt (by omega), ext_lt (by omega), ext_lt (by omega)]; exact p12) ho6 rfl) ?_
  refine s_val (v_len (a := some ⟨kb, 0, none⟩) (l := ks.length) (c := kcap) T.keys rfl) ?_
  generalize hρ4 : ext (ext (ext (ext (ext (ext ρ3 20 _) _ _) _ _) _ _) _ _) _ _ = ρ4
  have t0 : ρ4 0 = ptr V o := by subst hρ4; rw [ext_lt (by omega), ext_lt (by omega), ext_lt (by omega), ext_lt (by omega), ext_lt (by omega), ext_lt (by omega), hag 0 (by omega), q0]
  have t1 : ρ4 1 = .func (.func gCl) #[] #[cap] := by subst hρ4; rw [ext_lt (by omega), ext_lt (by omega), ext_lt (by omega), ext_lt (by omega), ext_lt (by omega), ext_lt (by omega), hag 1 (by omega), q1]
  have t24 : ρ4 24 = .slice (some ⟨kb, 0, none⟩) ks.length kcap := by subst hρ4; rw [ext_lt (by omega)]; exact ext_at
  have t25 : ρ4 25 = .int .i64 ks.length := by subst hρ4; exact ext_at
  clear hρ4
  have hkb6 := hk6.lt
  have hob6 := ho6.lt
  have hloop := s_count (P := P) (R := fun _ w' => (∃ h, w.heap.size ≤ h ∧ J h (sortTM m) w') ∧ Keeps M0 w w') (Γ := Δ) (n := 26) (q := 25) (ρ := ρ4) (w := w6) (kk := .i64) (t := c.tInt) (m := ks.length) (ri := [])
    (body := .op (.indexAddr c.tKeys (.tmp 24) (.tmp 26)) none [] <| .op (.load c.tU32 (.tmp 28)) none [] <| gGet (.tmp 0) c.tTags 0 c.tMap 30 <| .op (.lookup c.tMap (.tmp 32) (.tmp 29) false) none [] <|
      .op (.call { callee := .value (.tmp 1), args := ⟨[.tmp 29, .tmp 33]⟩, argTypes := #[] }) none [] <| .op (.binOp .add c.tInt (.tmp 26) (.const (.int .i64 1)) c.tInt) none [] <| .to 1 [.tmp 35]) (after := .ret [])
    (fun j w' => J w6.heap.size ((sortTM m).take j) w' ∧ ∃ M, Keeps M w6 w' ∧ ∀ b ∈ M, b ∈ M0 ∨ w6.heap.size ≤ b) (by omega) t25 ⟨by simpa using hJ0 w6 k06, [], .refl, fun b hb => by cases hb⟩ ?_ ?_
  · rw [hΔ] at hloop
    exact hloop
  · rintro j hj w7 vr ⟨hJ7, M7, k7, hM7⟩ hvr J2 hJ2
    obtain rfl : vr = [] := List.eq_nil_of_length_eq_zero hvr
    simp only [List.length_nil, Nat.add_zero, List.nil_append]
    have hj' : j < ks.length := by omega
    have hjs : j < ks'.length := by omega
    have hnot : ∀ b, w.heap.size ≤ b → b < w6.heap.size → b ∉ M7 := fun b hb hb' hbM => by
      rcases hM7 b hbM with h | h
      · have := (hM0 b h); omega
      · omega
    have k07 : Keeps M0 w w7 := ((k06.mono (by simp)).trans k7).less fun x hx => (hM7 x hx).imp id fun h => by omega
    have hk7 : Has w7 kb kcs := hk6.keep k7 (hnot kb (by omega) hkb6)
    have hidx := v_indexAddr (P := P) (ρ := ext ρ4 26 [.int .i64 j, .bool true]) (t := c.tKeys) (x := .tmp 24) (i := .tmp 26) (b := kb) (o := 0) (l := ks.length) (c := kcap) (j := j) (kk := .i64) T.keys (chk_size T.zeroU32) (by show ext _ _ _ 24 = _; rw [ext_lt (by omega)]; exact t24) ext_at (by omega) (by omega)
    rw [Int.toNat_natCast, Nat.mul_one] at hidx
    refine s_val hidx ?_
    have hcell : kcs[0 + j]? = some (encK ks'[j]) := by rw [Nat.zero_add]; exact hkc j hjs
    refine s_lok (l_load1 (b := kb) (o := 0 + j) T.oneU32 ext_at hk7 hcell) ?_
    refine s_get (n := 30) (b := V) (o := o) T.f0 T.oneMap (by show ext _ _ _ 0 = _; rw [ext_lt (by omega), ext_lt (by omega), ext_lt (by omega)]; exact t0) (hV.keep k07 hVM) hmv' ?_
    -- the key's entry
    have hmem : ks'[j] ∈ m.map fun p => (p.1 : Int) := by
      have h1 : ks'[j] ∈ ks' := List.getElem_mem _
      rw [← he.keyInts]
      exact hperm.mem_iff.1 (hperm'.mem_iff.1 h1)
    obtain ⟨p, hpm, hpk⟩ := List.mem_map.1 hmem
    obtain ⟨i, hi, hip⟩ := List.getElem_of_mem hpm
    have hmi : m[i]? = some p := by rw [List.getElem?_eq_getElem hi, hip]
    obtain ⟨e, hei, hent⟩ := heA.get hmi
    obtain ⟨hkey, hoct, hoblk⟩ := hent
    have hkis : keyIs ks'[j] e = true := by rw [← hpk]; simp [keyIs, hkey]
    have hbefore : ∀ j' e', j' < i → es[j']? = some e' → keyIs ks'[j] e' = false := by
      intro j' e' hlt he'
      have hj'l : j' < m.length := by omega
      obtain ⟨e2, he2, hent2⟩ := he.get (i := j') (p := m[j']) (List.getElem?_eq_getElem hj'l)
      obtain rfl : e2 = e' := by rw [he'] at he2; simpa using he2.symm
      rw [← hpk, EntR.is hent2]
      have hne : m[j'].1 ≠ p.1 := by
        rw [← hip]
        have h1 := List.pairwise_iff_getElem.1 (List.nodup_iff_pairwise_ne.1 hnd) j' i (by simpa using hj'l) (by simpa using hi) hlt
        simpa using h1
      simp [hne]
    refine s_lok (l_lookup (j := i) (n := ks'[j]) (e := e) T.map F.u32 (by show ext _ 30 _ 32 = _; rfl) (by
      show ext _ _ _ 29 = _
      rw [ext_lt (by omega), show (29 : Nat) = 26 + 0 + 2 + 1 from rfl, ext_at]; rfl) (hm0.keep k07 hmbM) hk32 hei hkis hbefore) ?_
    have hoct7 := hoct.keepM k07 hoblk
    have hnext : (sortTM m).take (j + 1) = (sortTM m).take j ++ [p] := by
      have hsl : (sortTM m).length = ks'.length := by rw [hks]; simp [sortTM]
      have hget : (sortTM m)[j]'(by omega) = p := by
        simp only [sortTM, List.getElem_map, ← hks, ← hpk]
        rw [Int.toNat_natCast, tmGet_eq hnd hmi]
      rw [List.take_succ_eq_append_getElem (by omega), hget]
    have hclo := hJ w6.heap.size ((sortTM m).take j) p e.val w7 hJ7 k7.size k06.size ⟨by rw [List.length_take]; omega, j + 1, hnext.symm⟩ hoct7 (fun hn b hb => ⟨hoblk hn b hb, hoct.blk hn b hb⟩) hpm
    refine s_callv (g := gCl) (f := 1) (caps := [cap]) (args := [.int .u32 p.1, e.val]) (by
      rw [ext_lt (by omega), ext_lt (by omega), ext_lt (by omega), ext_lt (by omega), ext_lt (by omega)]; exact t1) (pair_eq (by
      show ext _ _ _ 29 = _
      rw [ext_lt (by omega), ext_lt (by omega), show (29 : Nat) = 26 + 0 + 2 + 1 from rfl, ext_at, ← hpk]; rfl) ext_at) hclo fun u w8 ⟨hJ8, M8, k8, hM8⟩ => ?_
    refine s_val (v_arith (kk := .i64) (a := j) (b := 1) (r := ((j + 1 : Nat) : Int)) (by
      show ext _ _ _ 26 = _
      rw [ext_lt (by omega), ext_lt (by omega), ext_lt (by omega), ext_lt (by omega), ext_lt (by omega)]; exact ext_at) rfl ?_) ?_
    · simp only [arithOf, Option.some.injEq]; rw [IntKind.wrap_i64]; omega
    refine ⟨J2, by rw [List.getElem?_append_right (by omega), hΔ]; rfl, ?_⟩
    have hlast := hJ2 [] w8 rfl ⟨?_, M7 ++ M8, (k7.mono fun x hx => List.mem_append_left _ hx).trans (k8.mono fun x hx => List.mem_append_right _ hx), fun b hb => by
      rcases List.mem_append.1 hb with h | h
      · exact hM7 b h
      · exact hM8 b h⟩
    · show J2 [ext _ (30 + 3 + 1 + 1) _ 35] w8
      rw [show (35 : Nat) = 30 + 3 + 1 + 1 from rfl, ext_at]
      exact hlast
    · rw [hnext]
      exact hJ8
  · rintro w7 vr J2 ⟨hJ7, M7, k7, hM7⟩ hvr
    have hsl : (sortTM m).length = ks.length := by rw [← hkl', hks]; simp [sortTM]
    rw [Int.toNat_natCast, List.take_of_length_le (by omega)] at hJ7
    refine s_ret0 ⟨⟨_, k06.size, hJ7⟩, ((k06.mono (by simp)).trans k7).less fun x hx => ?_⟩
    rcases hM7 x hx with h | h
    · exact .inl h
    · exact .inr (by have := k06.size; omega)

end

section

variable {P : Program} {c : Nums} {s : SN} {R : Value → World → Prop} {Γ : List (List Value → World → Prop)} {n : Nat} {ρ : Nat → Value} {w : World} {k : Tr}

theorem appClB_gives {g f : Nat} (S : SpFacts P c s) (hU : ∀ x : Nat, x < 4294967296 → WrV P f [.int .u32 x] (pUv x)) (hT : treeIn P g noOrc [.tmp 0, .tmp 1, .tmp 2] 3 = tAppCl c f) {db h : Nat} {v0 : Value} {l : List UInt8} {pre : TM} {p : Nat × List UInt8} {w1 : World} {v : Value}
    (hj : AJ db v0 l h pre w1) (hh : h ≤ w1.heap.size) (hdb : db ∉ blkOf v0 ∧ db < h) (ho : Ro w1 v 1 p.2.length (bcells p.2)) (hlt : p.2.length ≠ 0 → ∀ b ∈ blkOf v, b < h ∧ b ≠ db ∧ b ∉ blkOf v0) (hp : p.1 < 4294967296 ∧ p.2.length ≤ big) (hl : (l ++ encT (pre ++ [p])).length ≤ maxW) :
    Gives P g [.int .u32 p.1, v, ptr db] w1 fun _ w2 => AJ db v0 l h (pre ++ [p]) w2 ∧ ∃ M, Keeps M w1 w2 ∧ ∀ b ∈ M, b ∈ db :: blkOf v0 ∨ h ≤ b := by
  obtain ⟨dv, hd, hown, hblk⟩ := hj
  have hbg : p.2.length ≤ 1073741825 := hp.2
  rw [encT_snoc, ← List.append_assoc] at hl
  simp only [List.length_append] at hl
  have nd : ∀ {x : Value} {w' : World}, (∀ b ∈ blkOf x, b ∈ blkOf v0 ∨ h ≤ b) → db ∉ blkOf x := fun {x} {w'} hx hb => by
    rcases hx db hb with h' | h'
    · exact hdb.1 h'
    · omega
  refine gives_in (ρ := en [.int .u32 p.1, v, ptr db]) S.rd.mix hT (Nat.le_refl _) rfl (by simp [opBelow]) ?_
  refine s_rd1 S.rd rfl hd ?_
  refine s_callx (hU p.1 hp.1 w1 dv _ hown (by simp only [List.length_append]; omega)) rfl fun u w2 hp2 => ?_
  have hd2 := hd.keep hp2.2.1 (nd (w' := w1) hblk)
  have hb2 : ∀ b ∈ blkOf u, b ∈ blkOf v0 ∨ h ≤ b := fun b hb => (hp2.2.2 b hb).elim (hblk b) fun h' => .inr (by omega)
  refine s_st1 S.rd rfl rfl hp2.1.one hd2 fun w3 hd3 k3 => ?_
  have hown3 := hp2.1.keep k3 (fun b hb => by simp only [List.mem_singleton]; intro e; subst e; exact nd (w' := w1) hb2 hb)
  refine s_rd1 S.rd rfl hd3 ?_
  obtain ⟨a, cp, hva⟩ := ho.form
  refine s_val (v_len (a := a) (l := p.2.length) (c := cp) S.rd.bytes hva) ?_
  refine s_val (v_conv (k1 := .i64) (a := (p.2.length : Int)) S.rd.int S.rd.u32 rfl) ?_
  rw [wraps_u32 _ (by omega) (by omega)]
  refine s_callx (hU p.2.length (by omega) w3 u _ hown3 (by simp only [List.length_append]; omega)) rfl fun u4 w4 hp4 => ?_
  have hd4 := hd3.keep hp4.2.1 (nd (w' := w1) hb2)
  have s12 := hp2.2.1.size
  have s23 := k3.size
  have s34 := hp4.2.1.size
  have hb4 : ∀ b ∈ blkOf u4, b ∈ blkOf v0 ∨ h ≤ b := fun b hb => (hp4.2.2 b hb).elim (hb2 b) fun h' => .inr (by omega)
  refine s_st1 S.rd rfl rfl hp4.1.one hd4 fun w5 hd5 k5 => ?_
  have hown5 := hp4.1.keep k5 (fun b hb => by simp only [List.mem_singleton]; intro e; subst e; exact nd (w' := w1) hb4 hb)
  refine s_rd1 S.rd rfl hd5 ?_
  -- what has been kept of the value's octets
  have kM : Keeps (blkOf dv ++ ([db] ++ (blkOf u ++ [db]))) w1 w5 := (hp2.2.1.mono (List.subset_append_left _ _)).trans ((k3.mono (fun x hx => by simp only [List.mem_append]; exact .inr (.inl hx))).trans ((hp4.2.1.mono (fun x hx => by simp only [List.mem_append]; exact .inr (.inr (.inl hx)))).trans (k5.mono (fun x hx => by simp only [List.mem_append]; exact .inr (.inr (.inr hx))))))
  have hfar : p.2.length ≠ 0 → ∀ b ∈ blkOf v, b ∉ blkOf dv ++ ([db] ++ (blkOf u ++ [db])) := fun hne b hb hm => by
    have hb1 := hlt hne b hb
    have far : ∀ x, (x ∈ blkOf v0 ∨ h ≤ x) → b ≠ x := fun x hx e => by
      subst e
      rcases hx with h' | h'
      · exact hb1.2.2 h'
      · omega
    simp only [List.mem_append, List.mem_singleton] at hm
    rcases hm with hm | hm | hm | hm
    · exact far b (hblk b hm) rfl
    · exact hb1.2.1 hm
    · exact far b (hb2 b hm) rfl
    · exact hb1.2.1 hm
  have ho5 : Ro w5 v 1 p.2.length (bcells p.2) := ho.keepM kM hfar
  refine s_appW (e := p.2) S rfl rfl hown5 (ho5.src S.rd.bytes (bcells_one _)) (by simp only [List.length_append]; omega) fun u6 w6 hp6 => ⟨fun q hq => (by cases hq), ?_⟩
  have hd6 := hd5.keep hp6.2.1 (nd (w' := w1) hb4)
  have s45 := k5.size
  have hb6 : ∀ b ∈ blkOf u6, b ∈ blkOf v0 ∨ h ≤ b := fun b hb => (hp6.2.2 b hb).elim (hb4 b) fun h' => .inr (by omega)
  refine s_st1 S.rd rfl rfl hp6.1.one hd6 fun w7 hd7 k7 => ?_
  have hown7 := hp6.1.keep k7 (fun b hb => by simp only [List.mem_singleton]; intro e; subst e; exact nd (w' := w1) hb6 hb)
  refine s_ret0 ⟨⟨u6, hd7, ?_, hb6⟩, (blkOf dv ++ ([db] ++ (blkOf u ++ [db]))) ++ (blkOf u4 ++ [db]), ?_, fun b hb => ?_⟩
  · have e : l ++ encT (pre ++ [p]) = l ++ encT pre ++ pUv p.1 ++ pUv p.2.length ++ p.2 := by rw [encT_snoc]; simp only [List.append_assoc]
    rw [e]
    exact hown7
  · exact (kM.mono (List.subset_append_left _ _)).trans ((hp6.2.1.mono (fun x hx => by simp only [List.mem_append]; exact .inr (.inl hx))).trans (k7.mono (fun x hx => by simp only [List.mem_append]; exact .inr (.inr hx))))
  · simp only [List.mem_append, List.mem_singleton] at hb
    simp only [List.mem_cons]
    rcases hb with (hb | hb | hb | hb) | hb | hb
    · exact (hblk b hb).imp .inr id
    · exact .inl (.inl hb)
    · exact (hb2 b hb).imp .inr id
    · exact .inl (.inl hb)
    · exact (hb4 b hb).imp .inr id
    · exact .inl (.inl hb)

theorem appEachB_gives {f g fUv fEach : Nat} (S : SpFacts P c s) (hU : ∀ x : Nat, x < 4294967296 → WrV P fUv [.int .u32 x] (pUv x)) (hE : EachGivesB P fEach) (hg : treeIn P g noOrc [.tmp 0, .tmp 1, .tmp 2] 3 = tAppCl c fUv) (hT : treeIn P f noOrc [.tmp 0, .tmp 1] 2 = tAppEach c g fEach) : WrTagsB P f := by
  intro w V o cs mv v m l hV hmv htags hVv hml hmp hown0 hl
  have hkeys : ∀ p ∈ m, p.1 < 4294967296 := by
    rcases htags with ⟨_, rfl⟩ | ⟨_, _, _, _, _, _, _, _, _, h32, _⟩
    · intro p hp; cases hp
    · exact h32
  refine gives_in (ρ := en [ptr V o, v]) S.rd.mix hT (Nat.le_refl _) rfl (by simp [opBelow]) ?_
  obtain ⟨w1, e1, h1, k1, z1⟩ := a_box (P := P) (ρ := en [ptr V o, v]) (w := w) (t := c.tBytes) (x := .tmp 1) (v := v) rfl
  refine s_act e1 (fun p hp => (by cases hp)) ?_
  rw [cells_one hown0.one] at h1
  refine s_val (v_makeFunc1 (v := ptr w.heap.size) rfl) ?_
  have hVlt := hV.lt
  have hvlt := hown0.lt
  have hown1 := hown0.keep k1 (by simp)
  have hbm : big = 1073741825 := rfl
  have htags1 : TagsA (fun b => b ∉ w.heap.size :: blkOf v) w1 m mv := htags.keep k1 (by simp) fun b hb hlt => by
    simp only [List.mem_cons, not_or]
    exact ⟨by omega, hb⟩
  have hE1 := hE w1 V o g cs mv (ptr w.heap.size) m (fun h pre w' => AJ w.heap.size v l h pre w' ∧ w1.heap.size ≤ h) (w.heap.size :: blkOf v) (hV.keep k1 (by simp)) hmv htags1 (by simp only [List.mem_cons, not_or]; exact ⟨by omega, hVv⟩) (by omega) (fun b hb => by
      simp only [List.mem_cons] at hb
      rcases hb with rfl | hb
      · omega
      · have := hvlt b hb; omega)
    (fun w' kk => ⟨⟨v, h1.keep kk (by simp), by simp only [encT, List.map_nil, List.flatten_nil, List.append_nil]; exact hown1.keep kk (by simp), fun b hb => .inl hb⟩, kk.size⟩)
    (fun h pre p x w2 ⟨hj, hwh⟩ hsz _ hpre ho ho0 hp => by
      refine (appClB_gives S hU hg hj hsz ⟨fun hb => by have := hvlt _ hb; omega, by omega⟩ ho (fun hn b hb => by
        have h3 := ho0 hn b hb
        simp only [List.mem_cons, not_or] at h3
        exact ⟨by omega, h3.1.1, h3.1.2⟩) ⟨hkeys p hp, hmp p hp⟩ ?_).mono fun _ w3 ⟨h1, h2⟩ => ⟨⟨h1, hwh⟩, h2⟩
      obtain ⟨_, j, he⟩ := hpre
      rw [he]
      have := encT_len (m := sortTM m) j
      simp only [List.length_append] at hl ⊢
      omega)
  refine s_callx hE1 rfl fun u w2 ⟨⟨h, hwh, ⟨dv, hd, hown, hblk⟩, _⟩, k2⟩ => ?_
  refine s_rd1 S.rd rfl hd ?_
  refine s_ret1 ⟨hown, ?_, fun b hb => (hblk b hb).imp id fun h' => by omega⟩
  refine ((k1.mono (by simp)).trans k2).less fun b hb => ?_
  simp only [List.mem_cons] at hb
  rcases hb with rfl | hb
  · exact .inr (Nat.le_refl _)
  · exact .inl hb

end

end Go.Kf

namespace Go.Kf

open Go

/-- AppendTo, at a version: what it appends; by any encoding. -/
def AppToE (P : Program) (f : Nat) (ts : List Ty) (v : Int) (enc : List FV → List UInt8) : Prop := ∀ (w0 w : World) (V : Nat) (mid : List Value) (fs : List FV) (dv : Value) (l : List UInt8), okFs fs ts → fs[0]? = some (.one (.int .i16 v)) → Has w0 V mid → FsA anyB w0 fs mid → MadeO w0 w dv l → (l ++ enc fs).length ≤ 1073741824 →
  Gives P f [ptr V, dv] w fun u w' => MadeO w0 w' u (l ++ enc fs)

section

variable {P : Program} {c : Nums} {s : SN} {R : Value → World → Prop} {Γ : List (List Value → World → Prop)} {n : Nat} {ρ : Nat → Value} {w : World} {k : Tr}

theorem s_leadB {S fI32 fCS fUv fLen fEach B bk : Nat} {x : Operand} {vb v mv : Value} {a b d : Int} {tx lb E : List UInt8} {m : TM} {wb : World} (S0 : SpFacts P c s) (L : LeadTy P c S) (hI : ∀ y : Int, WrV P fI32 [.int .i32 y] (pFixed y 4)) (hC : ∀ y : List UInt8, y.length ≤ big → WrV P fCS [.string (strOf y)] (pUv (y.length + 1) ++ y)) (hU : ∀ x : Nat, x < 4294967296 → WrV P fUv [.int .u32 x] (pUv x)) (hLn : TagsLen P fLen) (hE : WrTagsB P fEach)
    (hp : ρ B = ptr bk) (hB : B < n) (hx : ev ρ x = v) (hbx : opBelow n x) (hh : Has wb bk [.int .i32 a, .int .i32 b, .string (strOf tx), .int .i32 d, mv]) (hbk : bk ∉ blkOf vb) (htg : TagsA (fun b => b ∉ blkOf vb) wb m mv) (htx : tx.length ≤ big) (hml : m.length ≤ big) (hmp : ∀ p ∈ m, p.2.length ≤ big) (hm : WrPost wb vb lb E v w) (hl : (lb ++ (E ++ encLead a b tx d m)).length ≤ maxW)
    (hk : ∀ (ρ' : Nat → Value) (w' : World) (v' : Value), WrPost wb vb lb (E ++ encLead a b tx d m) v' w' → ρ' (n + 18) = v' → (∀ y, y < n → ρ' y = ρ y) → k.sem P R Γ (n + 19) ρ' w') :
    (gLeadEnc c S fI32 fCS fUv fLen fEach B n x k).sem P R Γ n ρ w := by
  have hbg : big = 1073741825 := rfl
  have hl2 := hl
  unfold encLead at hl2
  simp only [List.length_append, pFixed_length] at hl2
  have far : ∀ {v' : Value} {w' : World} {E' : List UInt8}, WrPost wb vb lb E' v' w' → bk ∉ blkOf v' ∧ Has w' bk [.int .i32 a, .int .i32 b, .string (strOf tx), .int .i32 d, mv] ∧ TagsA (fun b => b ∉ blkOf v') w' m mv := fun {v'} {w'} {E'} h => by
    have hb0 := hh.lt
    refine ⟨fun hb => (h.2.2 _ hb).elim hbk fun h' => by omega, hh.keep h.2.1 hbk, htg.keep h.2.1 (fun b hb h' => h' hb) fun b hb hlt hb' => (h.2.2 b hb').elim hb fun h' => by omega⟩
  unfold gLeadEnc
  refine s_fl (b := bk) (o := 0) L.f0 L.oneI32 hp rfl (far hm).2.1 rfl ?_
  refine s_callx (hI a w v _ hm.1 (by simp only [List.length_append, pFixed_length]; omega)) (by
    simp only [List.map_cons, List.map_nil]
    rw [ev_ext' hbx (by omega), ev_ext hbx, hx]
    congr 1
    congr 1
    exact ext_at) fun v1 w1 hp1 => ?_
  have hm1 := hm.trans hp1
  refine s_fl (b := bk) (o := 0) L.f1 L.oneI32 (by show ext _ _ _ B = _; rw [ext_lt (by omega), ext_lt (by omega), ext_lt (by omega)]; exact hp) rfl (far hm1).2.1 rfl ?_
  refine s_callx (hI b w1 v1 _ hm1.1 (by simp only [List.length_append, pFixed_length]; omega)) (by
    simp only [List.map_cons, List.map_nil]
    congr 1
    · show ext _ _ _ (n + 2) = _
      rw [ext_lt (by omega), ext_lt (by omega)]
      exact ext_at
    · congr 1
      exact ext_at) fun v2 w2 hp2 => ?_
  have hm2 := hm1.trans hp2
  refine s_fl (b := bk) (o := 0) L.f2 L.oneStr (by show ext _ _ _ B = _; rw [ext_lt (by omega), ext_lt (by omega), ext_lt (by omega), ext_lt (by omega), ext_lt (by omega), ext_lt (by omega)]; exact hp) rfl (far hm2).2.1 rfl ?_
  refine s_callx (hC tx htx w2 v2 _ hm2.1 (by simp only [List.length_append, pFixed_length]; omega)) (by
    simp only [List.map_cons, List.map_nil]
    congr 1
    · show ext _ _ _ (n + 5) = _
      rw [ext_lt (by omega), ext_lt (by omega)]
      exact ext_at
    · congr 1
      exact ext_at) fun v3 w3 hp3 => ?_
  have hm3 := hm2.trans hp3
  refine s_fl (b := bk) (o := 0) L.f3 L.oneI32 (by show ext _ _ _ B = _; rw [ext_lt (by omega), ext_lt (by omega), ext_lt (by omega), ext_lt (by omega), ext_lt (by omega), ext_lt (by omega), ext_lt (by omega), ext_lt (by omega), ext_lt (by omega)]; exact hp) rfl (far hm3).2.1 rfl ?_
  refine s_callx (hI d w3 v3 _ hm3.1 (by simp only [List.length_append, pFixed_length]; omega)) (by
    simp only [List.map_cons, List.map_nil]
    congr 1
    · show ext _ _ _ (n + 8) = _
      rw [ext_lt (by omega), ext_lt (by omega)]
      exact ext_at
    · congr 1
      exact ext_at) fun v4 w4 hp4 => ?_
  have hm4 := hm3.trans hp4
  refine s_val (v_field (b := bk) (o := 0) L.f4 (by show ext _ _ _ B = _; rw [ext_lt (by omega), ext_lt (by omega), ext_lt (by omega), ext_lt (by omega), ext_lt (by omega), ext_lt (by omega), ext_lt (by omega), ext_lt (by omega), ext_lt (by omega), ext_lt (by omega), ext_lt (by omega), ext_lt (by omega)]; exact hp)) ?_
  refine s_callx (hLn w4 bk (0 + 4) _ mv m (far hm4).2.1 rfl (far hm4).2.2.r) (by
    simp only [List.map_cons, List.map_nil]
    congr 1
    exact ext_at) fun u5 w5 ⟨hu, hw⟩ => ?_
  subst hu
  rw [hw]
  refine s_val (v_conv (k1 := .i64) (a := (m.length : Int)) S0.rd.int S0.rd.u32 ext_at) ?_
  rw [wraps_u32 _ (by omega) (by omega)]
  refine s_val (v_arith (kk := .u32) (a := 0) (b := (m.length : Int)) (r := (m.length : Int)) rfl ext_at (by simp only [arithOf, Option.some.injEq, Int.zero_add]; exact wraps_u32 _ (by omega) (by omega))) ?_
  refine s_callx (hU m.length (by omega) w4 v4 _ hm4.1 (by simp only [List.length_append, pFixed_length]; omega)) (by
    simp only [List.map_cons, List.map_nil]
    congr 1
    · show ext _ _ _ (n + 11) = _
      rw [ext_lt (by omega), ext_lt (by omega), ext_lt (by omega), ext_lt (by omega)]
      exact ext_at
    · congr 1
      exact ext_at) fun v6 w6 hp6 => ?_
  have hm6 := hm4.trans hp6
  refine s_val (v_field (b := bk) (o := 0) L.f4 (by show ext _ _ _ B = _; rw [ext_lt (by omega), ext_lt (by omega), ext_lt (by omega), ext_lt (by omega), ext_lt (by omega), ext_lt (by omega), ext_lt (by omega), ext_lt (by omega), ext_lt (by omega), ext_lt (by omega), ext_lt (by omega), ext_lt (by omega), ext_lt (by omega), ext_lt (by omega), ext_lt (by omega), ext_lt (by omega), ext_lt (by omega)]; exact hp)) ?_
  obtain ⟨f1, f2, f3⟩ := far hm6
  refine s_callx (hE w6 bk (0 + 4) _ mv v6 m _ f2 rfl f3 f1 hml hmp hm6.1 (by simp only [List.length_append, pFixed_length]; omega)) (by
    simp only [List.map_cons, List.map_nil]
    congr 1
    · exact ext_at
    · congr 1
      show ext _ _ _ (n + 16) = _
      rw [ext_lt (by omega)]
      exact ext_at) fun v7 w7 hp7 => ?_
  have hm7 := hm6.trans hp7
  refine hk _ w7 v7 (by unfold encLead; simpa only [List.append_assoc] using hm7) ext_at fun y hy => ?_
  repeat rw [ext_lt (by omega)]

/-- []uint32{0}, appended to nothing. -/
theorem s_oneKey (T : TagFacts P c) (hk : ∀ sv tv w', Own w' tv 1 1 [.int .u32 0] → Keeps [] w w' → (∀ b ∈ blkOf tv, w.heap.size ≤ b) → k.sem P R Γ (n + 2) (ext (ext ρ n [sv]) (n + 1) [tv]) w') :
    (Tr.op (.buildSlice c.tKeys 1 ⟨[(0, .const (.int .u32 0))]⟩) none [] <| .op (.call { callee := .builtin .append, args := ⟨[nilV, .tmp n]⟩, argTypes := ⟨[c.tKeys, c.tKeys]⟩ }) none [] k).sem P R Γ n ρ w := by
  obtain ⟨inf, z, hinf, hz, hsz, hzc, hby⟩ := info_of T.zeroU32
  obtain ⟨w1, e1, h1, k1, z1⟩ := a_sliceOne (P := P) (ρ := ρ) (w := w) (t := c.tKeys) (x := .const (.int .u32 0)) (z := z) (cs := [.int .u32 0]) T.keys (by simp [zeroTy, hinf, hz, hsz]) (by simp) (by simp) rfl
  refine s_act e1 (fun p hp => (by cases hp)) ?_
  have hr : Reads w1 (.slice (some ⟨w.heap.size, 0, none⟩) 1 1) 1 1 [.int .u32 0] := ⟨by simp, .inr ⟨w.heap.size, 0, 1, [.int .u32 0], rfl, Nat.le_refl _, h1, by simp, by simp⟩⟩
  obtain ⟨tv, w2, e2, hown, k2, hb⟩ := a_append (P := P) (ρ := ext ρ n [.slice (some ⟨w.heap.size, 0, none⟩) 1 1]) (w := w1) (t := c.tKeys) (tx := c.tKeys) (x := nilV) (y := .tmp n) (v := .slice none 0 0) (n := 0) (xs := []) T.keys hinf hz hsz hzc rfl ext_at (Own.nil _ _) (hr.src T.keys (by
    intro u hu
    simp only [List.mem_singleton] at hu
    subst hu
    rfl)) (by omega) (by omega)
  refine s_act e2 (fun p hp => (by cases hp)) ?_
  exact hk _ tv w2 hown (k1.trans k2) fun b hb' => (hb b hb').elim (fun h => by cases h) fun h => by omega

end

end Go.Kf

namespace Go.Kf

open Go

def leadUsual (x y : Int) (tx : List UInt8) (z : Int) (m : TM) : Bool := x == -1 && (y == -1 && (tx.isEmpty && (z == 0 && m.isEmpty)))

def encTagged (x y : Int) (tx : List UInt8) (z : Int) (m : TM) : List UInt8 := if leadUsual x y tx z m then [] else pUv 0 ++ (pUv (encLead x y tx z m).length ++ encLead x y tx z m)

def encUpd (fs : List FV) : List UInt8 := match fs with
  | [_, .one (.int _ A), .one (.int _ B), .sub [.one (.int _ x), .one (.int _ y), .text tx, .one (.int _ z), .tags m], .tags u] =>
    pFixed A 4 ++ (pFixed B 2 ++ (pUv ((if leadUsual x y tx z m then 0 else 1) + u.length) ++ (encTagged x y tx z m ++ encT (sortTM u))))
  | _ => []

def tysUpd : List Ty := [.num .i16, .num .i32, .num .i16, .sub [.num .i32, .num .i32, .text, .num .i32, .tags], .tags]

theorem okFs_cons {fs : List FV} {t : Ty} {ts : List Ty} (h : okFs fs (t :: ts)) : ∃ f r, fs = f :: r ∧ okF f t ∧ okFs r ts := by
  cases fs with
  | nil => simp [okFs] at h
  | cons f r =>
    simp only [okFs] at h
    exact ⟨f, r, rfl, h⟩

theorem okFs_nil {fs : List FV} (h : okFs fs []) : fs = [] := by
  cases fs with
  | nil => rfl
  | cons f r => simp only [okFs] at h

theorem tags_map {A : Nat → Prop} {w : World} {m : TM} {v : Value} (h : TagsA A w m v) : ∃ om : Option Nat, v = .map om ∧ om.isNone = m.isEmpty := by
  rcases h with ⟨rfl, rfl⟩ | ⟨b, _, _, _, rfl, _, _, _, _, _, _, hne⟩
  · exact ⟨none, rfl, rfl⟩
  · refine ⟨some b, rfl, ?_⟩
    cases m with
    | nil => exact absurd rfl hne
    | cons _ _ => rfl

theorem upd_cells {w : World} {fs : List FV} {mid : List Value} {ver : Int} (hok : okFs fs tysUpd) (hv : fs[0]? = some (.one (.int .i16 ver))) (hf : FsA anyB w fs mid) :
    ∃ A B x y tx z m u mv uv, fs = [.one (.int .i16 ver), .one (.int .i32 A), .one (.int .i16 B), .sub [.one (.int .i32 x), .one (.int .i32 y), .text tx, .one (.int .i32 z), .tags m], .tags u] ∧
      mid = [.int .i16 ver, .int .i32 A, .int .i16 B, .int .i32 x, .int .i32 y, .string (strOf tx), .int .i32 z, mv, uv] ∧ TagsA anyB w m mv ∧ TagsA anyB w u uv ∧ tx.length ≤ big ∧ (m.length ≤ big ∧ ∀ p ∈ m, p.2.length ≤ big) ∧ (u.length ≤ big ∧ ∀ p ∈ u, p.2.length ≤ big) := by
  unfold tysUpd at hok
  obtain ⟨f0, r, rfl, _, hok⟩ := okFs_cons hok
  obtain ⟨f1, r, rfl, h1, hok⟩ := okFs_cons hok
  obtain ⟨f2, r, rfl, h2, hok⟩ := okFs_cons hok
  obtain ⟨f3, r, rfl, h3, hok⟩ := okFs_cons hok
  obtain ⟨f4, r, rfl, h4, hok⟩ := okFs_cons hok
  obtain rfl := okFs_nil hok
  simp only [List.getElem?_cons_zero, Option.some.injEq] at hv
  subst hv
  obtain ⟨A, rfl, _⟩ := okF_num h1
  obtain ⟨B, rfl, _⟩ := okF_num h2
  obtain ⟨gs, rfl, hg⟩ := okF_sub h3
  obtain ⟨g0, r, rfl, q0, hg⟩ := okFs_cons hg
  obtain ⟨g1, r, rfl, q1, hg⟩ := okFs_cons hg
  obtain ⟨g2, r, rfl, q2, hg⟩ := okFs_cons hg
  obtain ⟨g3, r, rfl, q3, hg⟩ := okFs_cons hg
  obtain ⟨g4, r, rfl, q4, hg⟩ := okFs_cons hg
  obtain rfl := okFs_nil hg
  obtain ⟨x, rfl, _⟩ := okF_num q0
  obtain ⟨y, rfl, _⟩ := okF_num q1
  obtain ⟨tx, rfl, htx⟩ := okF_text q2
  obtain ⟨z, rfl, _⟩ := okF_num q3
  obtain ⟨m, rfl, hm⟩ := okF_tags q4
  obtain ⟨u, rfl, hu⟩ := okF_tags h4
  simp only [FsA, FAtA] at hf
  obtain ⟨c0, d0, rfl, ⟨rfl, _⟩, c1, d1, rfl, ⟨rfl, _⟩, c2, d2, rfl, ⟨rfl, _⟩, c3, d3, rfl, ⟨e0, a0, rfl, ⟨rfl, _⟩, e1, a1, rfl, ⟨rfl, _⟩, e2, a2, rfl, rfl, e3, a3, rfl, ⟨rfl, _⟩, e4, a4, rfl, ⟨mv, rfl, hmv⟩, rfl⟩, c4, d4, rfl, ⟨uv, rfl, huv⟩, rfl⟩ := hf
  exact ⟨A, B, x, y, tx, z, m, u, mv, uv, rfl, rfl, hmv, huv, htx, hm, hu⟩

section

variable {P : Program} {c : Nums} {s : SN}

theorem updApp_gives {f fTg S SL fI32 fI16 fDef fZz fUv fLen fCS fEach : Nat} (S0 : SpFacts P c s) (T : TagFacts P c) (L : LeadTy P c SL) (hI : ∀ y : Int, WrV P fI32 [.int .i32 y] (pFixed y 4)) (hI16 : ∀ y : Int, WrV P fI16 [.int .i16 y] (pFixed y 2)) (hC : ∀ y : List UInt8, y.length ≤ big → WrV P fCS [.string (strOf y)] (pUv (y.length + 1) ++ y)) (hU : ∀ x : Nat, x < 4294967296 → WrV P fUv [.int .u32 x] (pUv x)) (hLn : TagsLen P fLen) (hE : WrTagsB P fEach)
    (hone16 : oneTy P c.tI16 = true) (s0 : fieldOff P S 0 = some 0) (s1 : fieldOff P S 1 = some 1) (s2 : fieldOff P S 2 = some 2) (s3 : fieldOff P S 3 = some 3) (s4 : fieldOff P S 4 = some 8) (aggL : aggTy P SL = some 5) (zL : ∃ z, zeroTy P SL = some (z, 5) ∧ z.cells.toList.length = 5)
    (hDef : ∀ w, Gives P fDef [] w fun u w' => u = .agg ⟨[.int .i32 (-1), .int .i32 (-1), .string (strOf []), .int .i32 0, .map none]⟩ ∧ Keeps [] w w')
    (hTg : treeIn P fTg noOrc [.tmp 0, .tmp 1] 2 = tTagsSame c) (hZz : treeIn P fZz noOrc [.tmp 0, .tmp 1] 2 = tLeadSame c SL fTg)
    (hT : treeIn P f (orcV 4 0) [.tmp 0, .tmp 1] 2 = tUpdApp c S SL fI32 fI16 fDef fZz fUv fLen fCS fEach) : AppToE P f tysUpd 0 encUpd := by
  intro w0 w V mid fs dv l hok hv hV hf hm hl
  obtain ⟨A, B, x, y, tx, z, m, u, mv, uv, rfl, rfl, hmT, huT, htx, hml, hul⟩ := upd_cells hok hv hf
  have hbg : big = 1073741825 := rfl
  have hmx : maxW = 1099511627776 := rfl
  obtain ⟨om, rfl, homm⟩ := tags_map hmT
  have husd : leadUsual x y tx z m = (x == -1 && (y == -1 && ((strOf tx).toList == (strOf []).toList && (z == 0 && om.isNone)))) := by rw [strOf_same, homm]; rfl
  simp only [encUpd] at hl ⊢
  generalize hEL : encLead x y tx z m = EL at *
  have hTG : encTagged x y tx z m = if leadUsual x y tx z m then [] else pUv 0 ++ (pUv EL.length ++ EL) := by unfold encTagged; rw [hEL]
  rw [hTG] at hl ⊢
  generalize hus : leadUsual x y tx z m = us at *
  have hl2 := hl
  simp only [List.length_append, pFixed_length] at hl2
  refine gives_in (ρ := en [ptr V, dv]) S0.rd.mix hT (Nat.le_refl _) rfl (by simp [opBelow]) ?_
  unfold tUpdApp
  have hVw := hV.keep hm.2.2 (by simp)
  refine s_val (v_nilCheck (a := ⟨V, 0, none⟩) rfl) (s_val (v_field (b := V) (o := 0) s0 rfl) ?_)
  refine s_known (l_load1 (b := V) (o := 0) hone16 rfl hVw rfl) ?_
  refine s_val (v_nilCheck (a := ⟨V, 0, none⟩) rfl) ?_
  refine s_fl (b := V) (o := 0) s1 L.oneI32 rfl rfl hVw rfl ?_
  refine s_callx (hI A w dv l hm.1 (by simp only [List.length_append, pFixed_length]; omega)) rfl fun v1 w1 hp1 => ?_
  have hm1 := hm.post hp1
  refine s_val (v_nilCheck (a := ⟨V, 0, none⟩) rfl) ?_
  refine s_fl (b := V) (o := 0) s2 hone16 rfl rfl (hV.keep hm1.2.2 (by simp)) rfl ?_
  refine s_callx (hI16 B w1 v1 _ hm1.1 (by simp only [List.length_append, pFixed_length]; omega)) rfl fun v2 w2 hp2 => ?_
  have hm2 := hm1.post hp2
  show Tr.sem _ _ _ _ _ _ { w2 with drawn := w2.drawn + 1 }
  have hd : Keeps [] w2 { w2 with drawn := w2.drawn + 1 } := keeps_drawn w2 _ _
  have hm3 := hm2.more hd
  generalize ({ w2 with drawn := w2.drawn + 1 } : World) = w3 at hd hm3 ⊢
  have hV3 := hV.keep hm3.2.2 (by simp)
  refine p_val (v_nilCheck (a := ⟨V, 0, none⟩) rfl) (p_val (v_field (b := V) (o := 0) s3 rfl) ?_)
  refine l_lok (l_loadN (b := V) (o := 0 + 3) aggL rfl hV3 (by simp)) ?_
  refine s_call (xs := []) (hDef w3) fun u4 w4 ⟨hu, k4⟩ => ⟨?_, ?_⟩
  · intro p hp
    simp only [List.mem_singleton] at hp
    subst hp
    exact l_loadN (b := V) (o := 0 + 3) aggL rfl (hV3.keep k4 (by simp)) (by simp)
  subst hu
  refine s_callx (leadSame_gives (a := x) (b := y) (d := z) (tx := tx) (m := om) (a0 := -1) (b0 := -1) (d0 := 0) (w := w4) S0.rd T L hTg hZz) rfl fun u5 w5 ⟨hu, k5⟩ => ?_
  rw [← husd] at hu
  subst hu
  refine p_val (v_not (b := us) rfl) ?_
  have hm5 := (hm3.more k4).more k5
  have hblk5 := hm5.1.lt
  refine ⟨rfl, fun vs w' => ∃ tv, vs = [tv] ∧ Keeps [] w5 w' ∧ Reads w' tv 1 (if us then 0 else 1) (if us then [] else [.int .u32 0]) ∧ ∀ b ∈ blkOf tv, w5.heap.size ≤ b, ?_, ?_⟩
  · refine s_cond (b := !us) rfl (fun hb => ?_) fun hb => ?_
    · have hus0 : us = false := by simpa using hb
      refine s_oneKey T fun sv tv w' hown hk hb => ⟨_, rfl, tv, rfl, hk, ?_, hb⟩
      rw [hus0]
      exact hown.reads
    · have hus0 : us = true := by simpa using hb
      refine ⟨_, rfl, .slice none 0 0, rfl, .refl, ?_, fun b hb => by cases hb⟩
      rw [hus0]
      exact (Own.nil w5 1).reads
  rintro vs w6 _ ⟨tv, rfl, k6, hr6, hb6⟩
  have hm6 := hm5.more k6
  obtain ⟨ta, tcp, te⟩ := (Ro.of_reads hr6).form
  refine s_val (v_len (a := ta) (l := if us then 0 else 1) (c := tcp) T.keys te) ?_
  have hV6 := hV.keep hm6.2.2 (by simp)
  refine s_val (v_nilCheck (a := ⟨V, 0, none⟩) rfl) (s_val (v_field (b := V) (o := 0) s4 rfl) ?_)
  refine s_callx (hLn w6 V (0 + 8) _ uv u hV6 rfl (huT.r.keep hm6.2.2)) rfl fun u7 w7 ⟨hu, hw⟩ => ?_
  subst hu
  subst hw
  have hk1 : (if us then 0 else 1) ≤ 1 := by cases us <;> decide
  generalize hkN : (if us then 0 else 1) = kN at *
  refine s_val (v_arith (kk := .i64) (a := (kN : Nat)) (b := (u.length : Int)) (r := ((kN + u.length : Nat) : Int)) rfl rfl (by simp only [arithOf, Option.some.injEq]; rw [IntKind.wrap_i64]; omega)) ?_
  refine s_val (v_conv (k1 := .i64) (a := ((kN + u.length : Nat) : Int)) S0.rd.int S0.rd.u32 rfl) ?_
  rw [wraps_u32 _ (by omega) (by omega)]
  refine s_callx (hU (kN + u.length) (by omega) w7 v2 _ hm6.1 (by simp only [List.length_append, pFixed_length]; omega)) rfl fun v8 w8 hp8 => ?_
  have hm8 := hm6.post hp8
  refine s_val (v_len (a := ta) (l := kN) (c := tcp) T.keys te) ?_
  have hr8 : Reads w8 tv 1 kN (if us then [] else [.int .u32 0]) := hr6.keep hp8.2.1 fun b hb hb' => by
    have h1 := hb6 b hb
    have h2 := hblk5 b hb'
    omega
  refine s_countV (n := 28) (q := 27) (kk := .i64) (m := (kN : Int)) (ri := [.tmp 26]) (Γ := []) (fun j vr w' => ∃ acc, vr = [acc] ∧ MadeO w0 w' acc (l ++ pFixed A 4 ++ pFixed B 2 ++ pUv (kN + u.length) ++ (if j = 0 then [] else pUv 0 ++ (pUv EL.length ++ EL))) ∧ (j = 0 → Reads w' tv 1 kN (if us then [] else [.int .u32 0]))) (by omega) rfl ⟨v8, rfl, by simpa using hm8, fun _ => hr8⟩ ?_ ?_
  · rintro j hj w9 vr ⟨acc, rfl, hA, hrA⟩ hvr J hJ
    rw [Int.toNat_natCast] at hj
    have hus0 : us = false := by
      cases us with
      | false => rfl
      | true => simp at hkN; omega
    obtain rfl : j = 0 := by omega
    obtain rfl : kN = 1 := by omega
    subst hus0
    simp only [if_true, List.append_nil, if_false, Bool.false_eq_true, List.length_append] at hA hl2
    have hr9 := hrA rfl
    simp only [Bool.false_eq_true, if_false] at hr9
    obtain ⟨b1, o1, q1, e1, _, hx1⟩ := (Ro.of_reads hr9).at (by omega)
    have hc1 := hx1 0 (by omega)
    refine s_val (v_indexAddr (b := b1) (o := o1) (l := 1) (c := q1) (j := 0) (kk := .i64) T.keys (chk_size T.zeroU32) e1 rfl (by omega) (by omega)) ?_
    refine s_lok (l_cell1 T.oneU32 ext_at hc1) ?_
    refine s_val (v_cmp (kk := .u32) (a := 0) (b := 0) (r := true) rfl rfl rfl) ?_
    have hV9 := hV.keep hA.2.2 (by simp)
    refine ⟨rfl, fun vs w' => ∃ acc', vs = [acc'] ∧ MadeO w0 w' acc' (l ++ pFixed A 4 ++ pFixed B 2 ++ pUv (1 + u.length) ++ (pUv 0 ++ (pUv EL.length ++ EL))), ?_, ?_⟩
    · refine s_cond (b := true) rfl (fun _ => ?_) (fun h => by cases h)
      refine s_val (v_nilCheck (a := ⟨V, 0, none⟩) rfl) (s_val (v_field (b := V) (o := 0) s3 rfl) (s_lok (l_loadN (b := V) (o := 0 + 3) aggL rfl hV9 (by simp)) ?_))
      obtain ⟨zz, hzz, hzl⟩ := zL
      refine s_alloc hzz fun w10 h10 k10 z10 => ?_
      refine s_storeAll (b := w9.heap.size) (old := zz.cells.toList) (cs := [.int .i32 x, .int .i32 y, .string (strOf tx), .int .i32 z, .map om]) aggL rfl rfl h10 hzl (fun q hq => ?_) fun w11 h11 k11 => ?_
      · simp only [List.mem_cons, List.not_mem_nil, or_false] at hq
        rcases hq with rfl | rfl | rfl | rfl | rfl <;> rfl
      have hlt9 := hA.1.lt
      have kx : Keeps [] w9 w11 := ((k10.mono (by simp)).trans k11).less fun q hq => .inr (by simp only [List.mem_singleton] at hq; omega)
      have k011 : Keeps [] w0 w11 := hA.2.2.trans kx
      have hA11 := hA.1.keep kx (by simp)
      have hbk : w9.heap.size ∉ blkOf acc := fun hb => by have := hlt9 _ hb; omega
      have htg : TagsA (fun b => b ∉ blkOf acc) w11 m (.map om) := hmT.keep k011 (by simp) fun b _ hlt hb => by have := hA.2.1 b hb; omega
      refine s_callx (hU 0 (by omega) w11 acc _ hA11 (by simp only [List.length_append, pFixed_length]; omega)) rfl fun v12 w12 hp12 => ?_
      obtain ⟨a12, c12, e12⟩ := (Ro.of_reads hp12.1.reads).form
      refine s_val (v_len (a := a12) (l := (l ++ pFixed A 4 ++ pFixed B 2 ++ pUv (1 + u.length) ++ pUv 0).length) (c := c12) S0.rd.bytes e12) ?_
      have hb0 : (l ++ pFixed A 4 ++ pFixed B 2 ++ pUv (1 + u.length) ++ (pUv 0 ++ encLead x y tx z m)).length ≤ maxW := by
        rw [hEL]
        simp only [List.length_append, pFixed_length]
        omega
      refine s_leadB (B := 37) (n := 41) (x := .tmp 39) (bk := w9.heap.size) (wb := w11) (vb := acc) S0 L hI hC hU hLn hE rfl (by decide) rfl (by simp [opBelow]) h11 hbk htg htx hml.1 hml.2 hp12 hb0 fun ρ1 w13 v13 hp13 hρ1 hag1 => ?_
      show Tr.sem _ _ _ _ _ _ { w13 with drawn := w13.drawn + 1 }
      have hd2 : Keeps [] w13 { w13 with drawn := w13.drawn + 1 } := keeps_drawn w13 _ _
      have hp14 := hp13.more hd2
      generalize ({ w13 with drawn := w13.drawn + 1 } : World) = w14 at hd2 hp14 ⊢
      rw [hEL] at hp14
      have hown14 := hp14.1
      rw [← List.append_assoc] at hown14
      have hpos : 0 < (l ++ pFixed A 4 ++ pFixed B 2 ++ pUv (1 + u.length) ++ pUv 0).length := by simp only [List.length_append, pFixed_length]; omega
      obtain ⟨cb, cc, e14, hcle, hcut⟩ := hown14.cut hpos
      generalize hLA : l ++ pFixed A 4 ++ pFixed B 2 ++ pUv (1 + u.length) ++ pUv 0 = LA at *
      have hLAl : LA.length = l.length + 4 + 2 + (pUv (1 + u.length)).length + (pUv 0).length := by rw [← hLA]; simp only [List.length_append, pFixed_length]
      rw [List.length_append] at e14 hcle
      have r59 : ρ1 59 = .slice (some ⟨cb, 0, none⟩) (LA.length + EL.length) cc := by rw [← e14]; exact hρ1
      have r40 : ρ1 40 = .int .i64 (LA.length : Int) := by rw [hag1 40 (by omega)]; rfl
      have r37 : ρ1 37 = ptr w9.heap.size := by rw [hag1 37 (by omega)]; rfl
      refine p_val (v_sliceTo (a := some ⟨cb, 0, none⟩) (l := LA.length + EL.length) (c := cc) (k := .i64) (h := (LA.length : Int)) S0.rd.bytes S0.rd.szU8 r59 r40 (by omega) (by omega)) ?_
      rw [Int.toNat_natCast]
      refine p_val (v_sliceFrom (a := some ⟨cb, 0, none⟩) (l := LA.length + EL.length) (c := cc) (k := .i64) (i := (LA.length : Int)) S0.rd.bytes S0.rd.szU8 (by show ext _ _ _ 59 = _; rw [ext_lt (by omega)]; exact r59) (by show ext _ _ _ 40 = _; rw [ext_lt (by omega)]; exact r40) (by omega) (by omega)) ?_
      rw [Int.toNat_natCast, Nat.add_sub_cancel_left]
      refine p_val (v_len (l := EL.length) S0.rd.bytes ext_at) ?_
      refine s_val (v_conv (k1 := .i64) (a := (EL.length : Int)) S0.rd.int S0.rd.u32 ext_at) ?_
      rw [wraps_u32 _ (by omega) (by omega)]
      have hcutP : WrPost w11 acc (l ++ pFixed A 4 ++ pFixed B 2 ++ pUv (1 + u.length)) (pUv 0) (.slice (some ⟨cb, 0, none⟩) LA.length cc) w14 := by
        refine ⟨by rw [hLA]; exact hcut, hp14.2.1, fun b hb => hp14.2.2 b ?_⟩
        rw [e14]
        exact hb
      refine s_callx (hU EL.length (by omega) w14 (.slice (some ⟨cb, 0, none⟩) LA.length cc) LA hcut (by simp only [List.length_append]; omega)) (by
        simp only [List.map_cons, List.map_nil]
        congr 1) fun v15 w15 hp15 => ?_
      rw [← hLA] at hp15
      have hp15' := hcutP.trans hp15
      have hb1 : (l ++ pFixed A 4 ++ pFixed B 2 ++ pUv (1 + u.length) ++ (pUv 0 ++ pUv EL.length ++ encLead x y tx z m)).length ≤ maxW := by
        rw [hEL]
        simp only [List.length_append, pFixed_length]
        omega
      refine s_leadB (B := 37) (n := 65) (x := .tmp 64) (bk := w9.heap.size) (wb := w11) (vb := acc) S0 L hI hC hU hLn hE (by
        show ext _ _ _ 37 = _
        rw [ext_lt (by omega), ext_lt (by omega), ext_lt (by omega), ext_lt (by omega), ext_lt (by omega)]
        exact r37) (by decide) (by exact ext_at) (by simp [opBelow]) h11 hbk htg htx hml.1 hml.2 hp15' hb1 fun ρ2 w16 v16 hp16 hρ2 hag2 => ?_
      rw [hEL] at hp16
      refine ⟨_, rfl, v16, congrArg (fun q => [q]) hρ2, ?_⟩
      · have hs := kx.size
        have hs0 := hA.2.2.size
        refine ⟨by simpa only [List.append_assoc] using hp16.1, fun b hb => (hp16.2.2 b hb).elim (hA.2.1 b) fun h => by omega, ((k011.mono (by simp)).trans hp16.2.1).less fun b hb => .inr (hA.2.1 b hb)⟩
    · rintro vs w' _ ⟨acc', rfl, hA'⟩
      refine s_val (v_arith (kk := .i64) (a := 0) (b := 1) (r := 1) rfl rfl rfl) ?_
      exact ⟨J, rfl, hJ [_] _ rfl ⟨acc', rfl, by simpa using hA', fun h => by omega⟩⟩
  · rintro w9 vr J ⟨acc, rfl, hA, _⟩ hvr
    rw [Int.toNat_natCast] at hA
    have hV9 := hV.keep hA.2.2 (by simp)
    have hVlt := hV.lt
    refine s_val (v_nilCheck (a := ⟨V, 0, none⟩) rfl) (s_val (v_field (b := V) (o := 0) s4 rfl) ?_)
    have hTGk : (if kN = 0 then [] else pUv 0 ++ (pUv EL.length ++ EL)) = (if us then [] else pUv 0 ++ (pUv EL.length ++ EL)) := by
      subst hkN
      cases us <;> rfl
    rw [hTGk] at hA
    refine s_callx (hE w9 V (0 + 8) _ uv acc u _ hV9 rfl (huT.keep hA.2.2 (by simp) fun b _ hlt hb => by have := hA.2.1 b hb; omega) (fun hb => by have := hA.2.1 V hb; omega) hul.1 hul.2 hA.1 (by simp only [List.length_append, pFixed_length]; omega)) rfl fun v10 w10 hp10 => ?_
    refine s_ret1 ?_
    have := hA.post hp10
    simp only [List.append_assoc] at this
    exact this

end

end Go.Kf


namespace Go.Kf

open Go

def pfLead : List PF := [.mk 3 0 (-1) (-1) (-1) (-1) 0 [], .mk 3 0 (-1) (-1) (-1) (-1) 0 [], .mk 8 0 (-1) (-1) (-1) 0 0 [], .mk 3 0 (-1) (-1) (-1) 0 0 []]

def pfUpd : List PF := [.mk 3 0 (-1) (-1) (-1) 0 0 [], .mk 2 0 (-1) (-1) (-1) 0 0 [], .mk 10 0 (-1) (-1) 0 0 0 pfLead]

/-- What it is filled with. -/
def updVals (F : PT) : List FV := [.one (.int .i16 0), .one (.int .i32 (IntKind.i32.wrap (pAt F 0).n)), .one (.int .i16 (IntKind.i16.wrap (pAt F 1).n)),
  .sub [.one (.int .i32 (IntKind.i32.wrap (pAt (pAt F 2) 0).n)), .one (.int .i32 (IntKind.i32.wrap (pAt (pAt F 2) 1).n)), .text (pAt (pAt F 2) 2).s, .one (.int .i32 (IntKind.i32.wrap (pAt (pAt F 2) 3).n)), .tags (pAt F 2).u], .tags F.u]

theorem unk_asc (fs : List PF) (u : TM) : (pUnknown fs u).Pairwise fun a b => a.1 < b.1 := pUnknownN_asc _ List.Pairwise.nil

theorem encT_sort (fs : List PF) (u : TM) : encT (sortTM (wholeTags (pUnknown fs u))) = pTags (pUnknown fs u) := by
  have h := tags_written (unk_asc fs u)
  have e : (wholeTags (pUnknown fs u)).length = (pUnknown fs u).length := by simp [wholeTags]
  simp only [encPK, e] at h
  exact List.append_cancel_left h

theorem fixed_same {n d : Int} : decide (pFixed n 4 = pFixed d 4) = (IntKind.i32.wrap n == IntKind.i32.wrap d) := by
  by_cases h : pFixed n 4 = pFixed d 4
  · have h1 := rFix_fixed n 4 [] false
    have h2 := rFix_fixed d 4 [] false
    rw [h, h2] at h1
    have h3 := congrArg Prod.fst h1
    simp only at h3
    have h4 := wrap_i32_mod n
    have h5 := wrap_i32_mod d
    rw [← h3, h5] at h4
    simp [h, h4]
  · have hn : ¬ IntKind.i32.wrap n = IntKind.i32.wrap d := fun e => h (by rw [← pFixed_wrap32 n, e, pFixed_wrap32])
    simp [h, hn]

theorem lead_enc (y : PT) : encLead (IntKind.i32.wrap (pAt y 0).n) (IntKind.i32.wrap (pAt y 1).n) (pWhole (pAt y 2).s) (IntKind.i32.wrap (pAt y 3).n) (wholeTags (pUnknown pfLead y.u)) = pPart pfLead 0 true y := by
  rw [pPart_plain (by decide)]
  have e : (wholeTags (pUnknown pfLead y.u)).length = (pUnknown pfLead y.u).length := by simp [wholeTags]
  unfold encLead
  rw [encT_sort, e, pFixed_wrap32, pFixed_wrap32, pFixed_wrap32]
  simp only [pfLead, pPlain, pField_eq, pFieldOf, pValue, pWidth, pNull, pHas, PF.kind, PF.tag, PF.fr, PF.to, PF.nul, pCounted, if_true, List.append_nil, List.append_assoc]
  simp

theorem lead_usual (y : PT) : leadUsual (IntKind.i32.wrap (pAt y 0).n) (IntKind.i32.wrap (pAt y 1).n) (pWhole (pAt y 2).s) (IntKind.i32.wrap (pAt y 3).n) (wholeTags (pUnknown pfLead y.u)) = pUsual (.mk 10 0 (-1) (-1) 0 0 0 pfLead) y := by
  have e1 : (wholeTags (pUnknown pfLead y.u)).isEmpty = (pUnknown pfLead y.u).isEmpty := by simp [wholeTags]
  have e2 : (pWhole (pAt y 2).s).isEmpty = (pAt y 2).s.isEmpty := by
    unfold pWhole
    cases (pAt y 2).s <;> rfl
  unfold leadUsual
  rw [e1, e2, show (-1 : Int) = IntKind.i32.wrap (-1) from rfl, show (0 : Int) = IntKind.i32.wrap 0 from rfl, ← fixed_same, ← fixed_same, ← fixed_same]
  simp only [pUsual, pUsualOf, pfLead, pUsuals, PF.kind, PF.nul, PF.dflt, pWidth]
  simp [Bool.and_assoc]

theorem upd_law (t : PT) : encUpd (updVals (pFit 0 pfUpd t)) = pWrite pfUpd 0 0 t := by
  have hF0 : (pAt (pFit 0 pfUpd t) 0).n = (pAt t 0).n := rfl
  have hF1 : (pAt (pFit 0 pfUpd t) 1).n = (pAt t 1).n := rfl
  have hF20 : (pAt (pAt (pFit 0 pfUpd t) 2) 0).n = (pAt (pAt t 2) 0).n := rfl
  have hF21 : (pAt (pAt (pFit 0 pfUpd t) 2) 1).n = (pAt (pAt t 2) 1).n := rfl
  have hF22 : (pAt (pAt (pFit 0 pfUpd t) 2) 2).s = pWhole (pAt (pAt t 2) 2).s := rfl
  have hF23 : (pAt (pAt (pFit 0 pfUpd t) 2) 3).n = (pAt (pAt t 2) 3).n := rfl
  have hF2u : (pAt (pFit 0 pfUpd t) 2).u = wholeTags (pUnknown pfLead (pAt t 2).u) := rfl
  have hFu : (pFit 0 pfUpd t).u = wholeTags (pUnknown pfUpd t.u) := rfl
  have e : (wholeTags (pUnknown pfUpd t.u)).length = (pUnknown pfUpd t.u).length := by simp [wholeTags]
  unfold updVals
  rw [hF0, hF1, hF20, hF21, hF22, hF23, hF2u, hFu]
  simp only [encUpd, encTagged]
  rw [lead_usual, lead_enc, encT_sort, e, pFixed_wrap32, pFixed_wrap16]
  have hw : pWrite pfUpd 0 0 t = pPart pfUpd 0 true t := rfl
  rw [hw, pPart_tags pfUpd]
  have hpl : pPlain pfUpd 0 true t 0 = pFixed (pAt t 0).n 4 ++ pFixed (pAt t 1).n 2 := by
    simp only [pfUpd, pPlain, pField_eq, pFieldOf, pValue, pWidth, pNull, pHas, PF.kind, PF.tag, PF.fr, PF.to, PF.nul]
    simp
  have hk : pKnown pfUpd 0 = 1 := by decide
  have htg : pTagged pfUpd 0 true t 0 = if pUsual (.mk 10 0 (-1) (-1) 0 0 0 pfLead) (pAt t 2) then [] else [(0, pPart pfLead 0 true (pAt t 2))] := by
    have hfld : pField (.mk 10 0 (-1) (-1) 0 0 0 pfLead) 0 true (pAt t 2) = pPart pfLead 0 true (pAt t 2) := part_written (f := .mk 10 0 (-1) (-1) 0 0 0 pfLead) rfl (by decide) _
    simp only [pfUpd, pTagged, PF.tag, Nat.zero_add, Nat.reduceAdd, hfld]
    cases pUsual (.mk 10 0 (-1) (-1) 0 0 0 pfLead) (pAt t 2) <;> simp
  have hkn : ∀ tg : List (Int × List UInt8), knownTo tg 1 = tg.filter fun p => p.1 == 0 := fun tg => by simp [knownTo]
  rw [hpl, hk, htg, hkn]
  cases pUsual (.mk 10 0 (-1) (-1) 0 0 0 pfLead) (pAt t 2) <;> simp [encTg, pTag1]

theorem upd_ok (t : PT) : okFs (updVals (pFit 0 pfUpd t)) tysUpd := by
  have h0 := small_tags pfUpd t.u
  have h1 := small_tags pfLead (pAt t 2).u
  refine ⟨⟨_, rfl, rfl⟩, ⟨_, rfl, wrap_wrap .i32 _⟩, ⟨_, rfl, wrap_wrap .i16 _⟩, ?_, ⟨rfl, h0⟩, rfl⟩
  exact ⟨⟨_, rfl, wrap_wrap .i32 _⟩, ⟨_, rfl, wrap_wrap .i32 _⟩, ⟨rfl, pWhole_le _⟩, ⟨_, rfl, wrap_wrap .i32 _⟩, ⟨rfl, h1⟩, rfl⟩

end Go.Kf

namespace Go.Kf

open Go

mutual
def kFT : PF → Nat
  | .mk k _ _ _ _ _ e sub => if k = 11 then (if e = 10 then 3 + (kPlainT sub + 8) else 6) else if k = 10 then 3 + (kPlainT sub + 8) else 3
def kPlainT : List PF → Nat
  | [] => 0
  | f :: r => kFT f + 4 + kPlainT r
end

def kPartT (fs : List PF) : Nat := kPlainT fs + 8

theorem pFieldT_len_step {v : Int} {fl : Bool} {f : PF} {K : Nat} (hpart : ∀ t : PT, (pPart f.sub v fl t).length ≤ K * t.wt) (t : PT) : (pField f v fl t).length ≤ (if f.kind = 11 then (if f.elem = 10 then 3 + K else 6) else if f.kind = 10 then 3 + K else 3) * t.wt := by
  have hw6 : 6 ≤ t.wt := by rw [PT.wt_eq]; omega
  by_cases h11 : f.kind = 11
  · rw [if_pos h11, list_written h11]
    generalize hnu : pNull f v t = null
    have hw : PT.wts (if null then [] else pThings t.l) ≤ PT.wts t.l := by
      split
      · simp [PT.wts]
      · exact wts_take _ _
    have hc := pCounted_length fl null (if null then [] else pThings t.l).length 4
    have hwt : 6 + PT.wts t.l ≤ t.wt := by rw [PT.wt_eq]; omega
    rw [List.length_append]
    by_cases h10 : f.elem = 10
    · rw [if_pos h10, h10]
      have h6 := flatten_wt (pp := fun x => pValue (fun y => pPart f.sub v fl y) 10 false fl x) (k := K) (l := if null then [] else pThings t.l) (fun x _ => hpart x)
      have h7 := Nat.mul_le_mul_left K (Nat.le_trans hw (show PT.wts t.l ≤ t.wt by omega))
      rw [Nat.add_mul]
      omega
    · rw [if_neg h10]
      have h6 := flatten_wt (pp := fun x => pValue (fun y => pPart f.sub v fl y) f.elem false fl x) (k := 3) (l := if null then [] else pThings t.l) (fun x _ => pValue_len h10)
      omega
  · rw [if_neg h11, pField_eq]
    unfold pFieldOf
    simp only
    rw [if_neg h11]
    by_cases h10 : f.kind = 10
    · rw [if_pos h10, Nat.add_mul]
      have := hpart t
      by_cases hn : 0 ≤ f.nul
      · rw [if_pos ⟨h10, hn⟩]
        split
        · rw [pFixed_length]; omega
        · rw [List.length_append, pFixed_length]; omega
      · rw [if_neg (fun h => hn h.2), h10]
        have e1 : pValue (fun y => pPart f.sub v fl y) 10 (pNull f v t) fl t = pPart f.sub v fl t := rfl
        rw [e1]
        omega
    · rw [if_neg h10, if_neg (fun h => h10 h.1)]
      exact pValue_len h10

theorem knownTo_len (tg : List (Int × List UInt8)) (K : Nat) : (encTg (knownTo tg K)).length ≤ (encTg tg).length := by
  induction tg with
  | nil =>
    have : knownTo [] K = [] := by simp [knownTo]
    rw [this]
    exact Nat.le_refl _
  | cons p tg ih =>
    have h : ∀ K : Nat, (encTg (knownTo (p :: tg) K)).length = (if 0 ≤ p.1 ∧ p.1 < K then (pTag1 p.1.toNat p.2).length else 0) + (encTg (knownTo tg K)).length := by
      intro K
      induction K with
      | zero =>
        rw [if_neg (by omega)]
        simp [knownTo, encTg]
      | succ K ih2 =>
        rw [knownTo_succ, knownTo_succ, encK_append, encK_append, List.length_append, List.length_append, ih2]
        by_cases hp : p.1 = (K : Int)
        · have hf : List.filter (fun p => p.1 == (K : Int)) (p :: tg) = p :: List.filter (fun p => p.1 == (K : Int)) tg := by rw [List.filter_cons]; simp [hp]
          have e : encTg (p :: tg.filter fun p => p.1 == (K : Int)) = pTag1 p.1.toNat p.2 ++ encTg (tg.filter fun p => p.1 == (K : Int)) := by simp [encTg]
          rw [hf, e, List.length_append, if_neg (by omega), if_pos (by omega)]
          omega
        · have hf : List.filter (fun p => p.1 == (K : Int)) (p :: tg) = List.filter (fun p => p.1 == (K : Int)) tg := by rw [List.filter_cons]; simp [hp]
          rw [hf]
          by_cases h2 : 0 ≤ p.1 ∧ p.1 < (K : Int)
          · rw [if_pos h2, if_pos (by omega)]
            omega
          · rw [if_neg h2, if_neg (by omega)]
            omega
    have e : encTg (p :: tg) = pTag1 p.1.toNat p.2 ++ encTg tg := by simp [encTg]
    rw [h K, e, List.length_append]
    split <;> omega

theorem partT_len {fs : List PF} {v : Int} {fl : Bool} {t : PT} (h : (pPlain fs v fl t 0).length + (encTg (pTagged fs v fl t 0)).length ≤ kPlainT fs * t.wt) : (pPart fs v fl t).length ≤ (kPlainT fs + 8) * t.wt := by
  have h2 := tagsWt_unknown fs t.u
  have h3 := pTags_len (pUnknown fs t.u)
  have h4 := pUv_length ((knownTo (pTagged fs v fl t 0) (pKnown fs 0)).length + (pUnknown fs t.u).length)
  have h5 : 6 + tagsWt t.u ≤ t.wt := by rw [PT.wt_eq]; omega
  have h6 := knownTo_len (pTagged fs v fl t 0) (pKnown fs 0)
  rw [pPart_tags, Nat.add_mul, List.length_append]
  split
  · simp only [List.length_append]; omega
  · simp only [List.length_nil]; omega

mutual
theorem pFieldT_len (v : Int) (fl : Bool) : ∀ (f : PF) (t : PT), (pField f v fl t).length ≤ kFT f * t.wt
  | .mk k fr to nul g d e sub, t => by
    have := pFieldT_len_step (f := .mk k fr to nul g d e sub) (v := v) (fl := fl) (K := kPlainT sub + 8) (fun t => partT_len (pPlainT_len v fl sub t 0)) t
    rw [kFT]
    exact this
theorem pPlainT_len (v : Int) (fl : Bool) : ∀ (fs : List PF) (t : PT) (i : Nat), (pPlain fs v fl t i).length + (encTg (pTagged fs v fl t i)).length ≤ kPlainT fs * t.wt
  | [], t, i => by simp [pPlain, pTagged, encTg]
  | f :: r, t, i => by
    have h1 := pFieldT_len v fl f (pAt t i)
    have h2 := pPlainT_len v fl r t (i + 1)
    have h3 := Nat.mul_le_mul_left (kFT f) (wt_at t i)
    have hw6 : 6 ≤ t.wt := by rw [PT.wt_eq]; omega
    have e1 : pTagged (f :: r) v fl t i = pTag1Of f v fl (pAt t i) ++ pTagged r v fl t (i + 1) := by rw [pTagged]; rfl
    rw [pPlain_cons, e1, encK_append, List.length_append, List.length_append, kPlainT, Nat.add_mul, Nat.add_mul]
    have h5 : (pOne f v fl (pAt t i)).length + (encTg (pTag1Of f v fl (pAt t i))).length ≤ (pField f v fl (pAt t i)).length + 22 := by
      have e0 : (encTg []).length = 0 := rfl
      by_cases hg : f.tag < 0
      · have hz : pTag1Of f v fl (pAt t i) = [] := by unfold pTag1Of; rw [if_neg (fun h => by omega)]
        rw [hz, e0]
        unfold pOne
        split
        · omega
        · simp only [List.length_nil]; omega
      · have hz : pOne f v fl (pAt t i) = [] := by unfold pOne; rw [if_neg (by simp [hg])]
        rw [hz]
        unfold pTag1Of
        split
        · have e : encTg [(f.tag, pField f v fl (pAt t i))] = pUv f.tag.toNat ++ (pUv (pField f v fl (pAt t i)).length ++ pField f v fl (pAt t i)) := by simp [encTg, pTag1]
          have l1 := pUv_length f.tag.toNat
          have l2 := pUv_length (pField f v fl (pAt t i)).length
          rw [e]
          simp only [List.length_append, List.length_nil]
          omega
        · rw [e0]
          simp only [List.length_nil]
          omega
    omega
end

theorem pWriteT_len (fs : List PF) (x v : Int) (t : PT) : (pWrite fs x v t).length ≤ kPartT fs * t.wt := partT_len (pPlainT_len v (pFlex x v) fs t 0)

end Go.Kf



namespace Go.Kf

open Go

section

variable {P : Program} {c : Nums} {s : SN} {w : World}

theorem mkDoorE_gives {f fSet fFill fApp S : Nat} {cells tcs : List Value} {t : PT} {ver : Int} {ts : List Ty} {ss : List FStep} {zs : List FV} {enc : List FV → List UInt8} {ps : List (Nat × Nat)} (F : RdFacts P c) (Z : TyFacts P c c.tTree c.tTrees c.tTagL c.tTag) (hT : treeIn P f noOrc [.tmp 0, .tmp 1] 2 = tMakeDoor c S fSet fFill fApp) (hver : IntKind.i16.wrap ver = ver)
    (hplan : buildPlan P S = some (.int .i16 0 :: cells, ps)) (himm : immL zs = some cells) (hone : oneTy P c.tI16 = true) (hS0 : fieldOff P S 0 = some 0) (hSet : treeIn P fSet noOrc [.tmp 0, .tmp 1] 2 = tSetVersion c S) (hFill : FillOf P fFill ts (fun fs => ∀ st ∈ ss, preS st fs) fun t fs => runF ss t fs) (hidx : fillIdx ss 1 = true) (hlen : ss.length = zs.length) (hpre : ∀ st ∈ ss, preS st (.one (.int .i16 ver) :: zs))
    (hwd : (FV.one (.int .i16 ver) :: zs).map FV.wd = ts.map Ty.wd) (hA : AppToE P fApp ts ver enc) (hok : okFs (.one (.int .i16 ver) :: fillVals ss t zs) ts) (htc : TreeC w t tcs) (htd : t.tidy) (hl : (enc (.one (.int .i16 ver) :: fillVals ss t zs)).length ≤ 1073741824) :
    MadeBy P f [.int .i64 ver, .agg ⟨tcs⟩] w (enc (.one (.int .i16 ver) :: fillVals ss t zs)) := by
  have htl := htc.len
  refine gives_in (ρ := en [.int .i64 ver, .agg ⟨tcs⟩]) F.mix hT (Nat.le_refl _) rfl (by simp [opBelow]) ?_
  unfold tMakeDoor
  refine s_box rfl fun w1 h1 k1 z1 => ?_
  refine s_val (v_build (cells := .int .i16 0 :: cells) hplan (fun p hp => by cases hp) rfl) ?_
  refine s_box rfl fun w2 h2 k2 z2 => ?_
  refine s_val (v_conv (k1 := .i64) (k2 := .i16) (a := ver) F.int F.i16 rfl) ?_
  rw [hver]
  refine s_callx (setVersion_gives F hone hS0 hSet h2 ver) rfl fun u w3 ⟨h3, k3⟩ => ?_
  have s1 := k1.size
  have h13 : Has w3 w.heap.size tcs := (h1.keep k2 (by simp)).keep k3 (by simp only [List.mem_singleton]; omega)
  refine s_lok (l_loadN (b := w.heap.size) (o := 0) Z.agg rfl h13 (by omega)) ?_
  rw [take0 htl]
  have k03 : Keeps [] w w3 := (((k1.trans k2).mono (by simp)).trans k3).less fun x hx => .inr (by simp only [List.mem_singleton] at hx; omega)
  have hfs : FsA (FitA w w3) w3 (.one (.int .i16 ver) :: zs) (.int .i16 ver :: cells) := ⟨[.int .i16 ver], cells, rfl, ⟨rfl, rfl⟩, immL_atA himm _ _⟩
  refine s_callx (hFill w w3 w1.heap.size t tcs _ _ htc htd k03 s1 h3 hfs hwd hpre) rfl fun u w4 ⟨⟨cs', h4, hfs4⟩, k4⟩ => ?_
  have hrun : runF ss t (.one (.int .i16 ver) :: zs) = .one (.int .i16 ver) :: fillVals ss t zs := runF_eq (pre := [.one (.int .i16 ver)]) hidx rfl hlen
  replace hfs4 : FsA anyB w4 (runF ss t (.one (.int .i16 ver) :: zs)) cs' := hfs4
  rw [hrun] at hfs4
  refine s_callx (hA w4 w4 w1.heap.size cs' _ (.slice none 0 0) [] hok rfl h4 hfs4 (MadeO.nil w4) (by rw [List.nil_append]; exact hl)) rfl fun u w5 hm => ?_
  rw [List.nil_append] at hm
  refine s_ret1 ⟨hm.1, ?_⟩
  exact ((k03.mono (by simp)).trans (k4.trans (hm.2.2.mono (by simp)))).less fun x hx => .inr (by simp only [List.mem_singleton] at hx; omega)

theorem mkLawT_gives {f fMax fMsg fVer fFit fOne fGiven fMake n m : Nat} {fs : List PF} {x : Int} {t : PT} {ts : List Value} (S : SpFacts P c s) (T : SpTrees P c s) (M : MkTrees P c s fFit fOne) (Fi : FitTrees P c s) (hSame : treeIn P s.same noOrc [.tmp 0, .tmp 1] 2 = tSame c)
    (hT : treeIn P f noOrc [.tmp 0, .tmp 1] 2 = tMakeLaw c s fMax fMsg fVer fFit fGiven fMake) (hUs : treeIn P s.usual noOrc [.tmp 0, .tmp 1] 2 = tUsual c s) (hpl : PF.fines fs = true) (hlen : fs.length < 65536) (hMsgZero : ∃ z, zeroTy P s.msg = some (z, 2) ∧ z.cells.toList.length = 2)
    (hMax : ∀ w, Gives P fMax [] w fun v w' => v = .int .i64 m ∧ Keeps [] w w') (hVer : ∀ w, Gives P fVer [.int .u8 n, .int .i64 m] w fun v w' => v = .int .i64 (n % (m + 1) : Nat) ∧ w' = w) (hMsg : MsgFn P fMsg fs x) (hGiven : ∀ x, GotOf P fGiven x)
    (hMake : ∀ (w : World) (cs : List Value), TreeC w (pFit (n % (m + 1) : Nat) fs t) cs → MadeBy P fMake [.int .i64 (n % (m + 1) : Nat), .agg ⟨cs⟩] w (pWrite fs x (n % (m + 1) : Nat) t))
    (hle : (pWrite fs x (n % (m + 1) : Nat) t).length ≤ 1073741824) (ht : TreeC w t ts) (hok : t.ok) : Gives P f [.int .u8 n, .agg ⟨ts⟩] w fun v w' => v = .bool true ∧ Keeps [] w w' := by
  have htl := ht.len
  refine gives_in (ρ := en [.int .u8 n, .agg ⟨ts⟩]) S.rd.mix hT (Nat.le_refl _) rfl (by simp [opBelow]) ?_
  refine s_box rfl fun w1 h2 k1 z1 => ?_
  refine s_lok (l_loadN (b := w.heap.size) (o := 0) S.ty.agg rfl h2 (by omega)) ?_
  rw [take0 htl]
  refine s_callx (fits1_gives S Fi (TreeC.keep k1 _ _ ht)) rfl fun u w2 ⟨⟨q, hq⟩, k2⟩ => ?_
  subst hq
  refine s_val (v_not (b := q) rfl) ?_
  refine s_cond (b := !q) rfl (fun _ => s_ret1 ⟨rfl, k1.trans k2⟩) fun _ => ?_
  refine s_callx (hMax w2) rfl fun v w3 ⟨hv, k3⟩ => ?_
  subst hv
  refine s_val (v_cmp (kk := .i64) (a := m) (b := 0) (r := false) rfl rfl (by simp [cmpOf])) ?_
  refine s_cond (b := false) rfl (fun h => by cases h) fun _ => ?_
  refine s_callx (hMsg w3) rfl fun v w4 ⟨⟨fv, hv, hfv⟩, k4⟩ => ?_
  subst hv
  refine s_callx (hVer w4) rfl fun v w5 ⟨hv, hw⟩ => ?_
  subst hw
  subst hv
  have hone : fv.oneCell' = true := by
    obtain ⟨_, h1, _⟩ := hfv
    exact h1.one
  obtain ⟨zm, hzm, hzs⟩ := hMsgZero
  refine s_alloc hzm fun w6 h6 k6 z6 => ?_
  refine s_storeAll (b := w5.heap.size) (old := zm.cells.toList) (cs := [fv, .int .i64 x]) S.msg rfl rfl h6 hzs (fun u hu => ?_) fun w7 h7 k7 => ?_
  · simp only [List.mem_cons, List.not_mem_nil, or_false] at hu
    rcases hu with rfl | rfl
    · exact hone
    · rfl
  show Tr.sem _ _ _ _ _ _ { w7 with drawn := w7.drawn + 1 }
  have hd : Keeps [] w7 { w7 with drawn := w7.drawn + 1 } := keeps_drawn w7 _ _
  generalize ({ w7 with drawn := w7.drawn + 1 } : World) = w8 at hd ⊢
  have k58 : Keeps [] w5 w8 := (((k6.mono (by simp)).trans k7).less fun y hy => .inr (by simp only [List.mem_singleton] at hy; omega)).trans hd
  have hfv8 : FieldsV w8 fs fv := FieldsV.keep k58 hfv
  have k08 : Keeps [] w w8 := (((k1.trans k2).trans k3).trans k4).trans k58
  have h28 : Has w8 w.heap.size ts := h2.keep (((k2.trans k3).trans k4).trans k58) (by simp)
  have h78 := h7.keep hd (by simp)
  refine p_fl (b := w5.heap.size) (o := 0) S.m0 S.oneFields rfl rfl h78 rfl ?_
  refine l_lok (l_loadN (b := w.heap.size) (o := 0) S.ty.agg rfl h28 (by omega)) ?_
  rw [take0 htl]
  refine l_lok (l_loadN (b := w5.heap.size) (o := 0) S.msg rfl h78 (Nat.le_refl _)) ?_
  rw [show (([fv, Value.int .i64 x].drop 0).take 2) = [fv, .int .i64 x] from rfl]
  refine l_lok (l_loadN (b := w.heap.size) (o := 0) S.ty.agg rfl h28 (by omega)) ?_
  rw [take0 htl]
  have ldT : ∀ (w' : World) (ρ : Nat → Value), Keeps [] w8 w' → ρ 2 = ptr w.heap.size → runOp P ρ (.load c.sTree (.tmp 2)) w' = .ok (.value (.agg ⟨ts⟩)) w' := fun w' ρ kk hρ => by
    have := l_loadN (P := P) (ρ := ρ) (w := w') (x := .tmp 2) (b := w.heap.size) (o := 0) S.ty.agg hρ (h28.keep kk (by simp)) (by omega)
    rwa [take0 htl] at this
  have ldM : ∀ (w' : World) (ρ : Nat → Value), Keeps [] w8 w' → ρ 10 = ptr w5.heap.size → runOp P ρ (.load s.msg (.tmp 10)) w' = .ok (.value (.agg ⟨[fv, .int .i64 x]⟩)) w' := fun w' ρ kk hρ =>
    l_loadN (P := P) (ρ := ρ) (w := w') (x := .tmp 10) (b := w5.heap.size) (o := 0) S.msg hρ (h78.keep kk (by simp)) (Nat.le_refl _)
  refine s_call (xs := [.tmp 13, .tmp 9, .tmp 14]) (fitT_all S T M (n % (m + 1) : Nat) hpl hlen w8 w8 t fv ts hfv8 (TreeC.keep k08 _ _ ht) hok .refl) fun u w9 ⟨⟨fcs, hu, hft⟩, k9⟩ => ⟨?_, ?_⟩
  · intro p hp
    simp only [List.mem_cons, List.not_mem_nil, or_false] at hp
    rcases hp with rfl | rfl
    · exact ldT w9 _ k9 rfl
    · exact ldM w9 _ k9 rfl
  subst hu
  refine s_call (xs := [.tmp 17]) (hGiven _ w9 _ fcs hft) fun u w10 ⟨⟨gcs, hu, hgt⟩, k10⟩ => ⟨?_, ?_⟩
  · intro p hp
    simp only [List.mem_cons, List.not_mem_nil, or_false] at hp
    rcases hp with rfl | rfl
    · exact ldT w10 _ (k9.trans k10) rfl
    · exact ldM w10 _ (k9.trans k10) rfl
  subst hu
  refine s_call (xs := [.tmp 9, .tmp 18]) (hMake w10 gcs (TreeC.of_at hgt)) fun u w11 ⟨hown, k11⟩ => ⟨?_, ?_⟩
  · intro p hp
    simp only [List.mem_cons, List.not_mem_nil, or_false] at hp
    rcases hp with rfl | rfl
    · exact ldT w11 _ ((k9.trans k10).trans k11) rfl
    · exact ldM w11 _ ((k9.trans k10).trans k11) rfl
  have k811 := (k9.trans k10).trans k11
  have k011 := k08.trans k811
  have hmx : (1073741824 : Nat) ≤ maxW := by decide
  refine s_callO (writeT_gives S T hUs hSame hpl hlen x (n % (m + 1) : Nat) (hfv8.keep k811) (TreeC.keep k011 _ _ ht) hok (Nat.le_trans hle hmx)) rfl fun u2 w12 hM => ⟨fun p hp => (by cases hp), ?_⟩
  have hlen2 : (pWrite fs x (n % (m + 1) : Nat) t).length < 2 ^ 62 := by omega
  refine s_callx (same_ro S.rd hSame (.inl hlen2) (Ro.of_reads (hown.keep hM.2.2 (by simp)).reads) (Ro.of_reads hM.1.reads)) rfl fun v w13 ⟨hv, kd⟩ => ?_
  refine s_ret1 ⟨?_, (k011.trans hM.2.2).trans kd⟩
  rw [show ev (ext _ 21 [v]) (.tmp 21) = v from ext_at, hv]
  simp

end

end Go.Kf


namespace Go.Kf

open Go

/-- kmsg.New..: a struct set to its defaults, as a value. -/
def tNewV (S fDef : Nat) : Tr := .op (.alloc S) none [] <| .op (.alloc S) none [] <| .op (callOp fDef [.tmp 1]) none [] <| .op (.load S (.tmp 1)) none [] <| .op (.store S (.tmp 0) (.tmp 3)) none [] <| .ret [(.tmp 0, some S)]

def NewVOk (P : Program) (f : Nat) (mid : List Value) : Prop := ∀ w : World, Gives P f [] w fun v w' => v = .agg ⟨mid⟩ ∧ Keeps [] w w'

section

variable {P : Program} {c : Nums} {w : World}

theorem newV_gives {f S fDef s : Nat} {z : Value} {dflt : List FV} {mid : List Value} (hmix : P.follows .mixedOrders = true) (hz : zeroTy P S = some (z, s)) (hagg : aggTy P S = some mid.length) (hzl : z.cells.toList.length = mid.length) (hones : mid.all (·.oneCell') = true) (hD : DefOk P fDef S dflt) (hmid : immL dflt = some mid) (hT : treeIn P f noOrc [] 0 = tNewV S fDef) : NewVOk P f mid := by
  intro w
  refine gives_in (ρ := en []) hmix hT (Nat.le_refl _) rfl (by simp) ?_
  obtain ⟨z', dc, hz', hdc, hdef⟩ := hD
  obtain rfl : z' = z := by
    unfold zeroTy at hz
    cases hi : P.info? S with
    | none => rw [hi] at hz'; cases hz'
    | some inf =>
      rw [hi] at hz'
      simp only [Option.map_some, Option.some.injEq] at hz'
      rw [hi] at hz
      simp only [hz', Option.some.injEq, Prod.mk.injEq] at hz
      exact hz.1
  refine s_alloc hz fun w0 h0 k0 z0 => ?_
  refine s_alloc hz fun w1 h1 k1 z1 => ?_
  have h2 := hdef w1 w0.heap.size [] [] (by simpa using h1)
  refine s_callx h2 rfl fun v w2 ⟨h3, k2⟩ => ?_
  have : dc = mid := immL_eq hmid (hdc 0 w 0)
  subst this
  have h3' : Has w2 w0.heap.size dc := by simpa using h3
  have hl := l_loadN (P := P) (ρ := ext (ext (ext (en []) 0 [ptr w.heap.size]) 1 [ptr w0.heap.size]) 2 [v]) (w := w2) (x := .tmp 1) (b := w0.heap.size) (o := 0) hagg rfl h3' (by omega)
  rw [List.drop_zero, List.take_of_length_le (Nat.le_refl _)] at hl
  refine s_lok hl ?_
  have h02 : Has w2 w.heap.size z'.cells.toList := (h0.keep k1 (by simp)).keep k2 (by simp; omega)
  refine s_storeAll (b := w.heap.size) (old := z'.cells.toList) (cs := dc) hagg rfl rfl h02 hzl (fun u hu => List.all_eq_true.1 hones u hu) fun w3 h3 k3 => ?_
  refine s_retAgg (b := w.heap.size) rfl h3 hagg ⟨rfl, ?_⟩
  · exact (((k0.trans (k1.mono (by simp))).mono (by simp)).trans ((k2.mono (M' := [w.heap.size, w0.heap.size]) (by simp)).trans (k3.mono (by simp)))).less fun x hx => .inr (by simp only [List.mem_cons, List.not_mem_nil, or_false] at hx; omega)

end

end Go.Kf
