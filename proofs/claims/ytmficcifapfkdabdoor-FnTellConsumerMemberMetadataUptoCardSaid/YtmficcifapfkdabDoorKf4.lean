/- The library for this proof, part 4: trees of function bodies, and what the package's functions do. -/
import Derived.Test.YtmficcifapfkdabDoorKf3
import Derived.Carry

namespace Go.Kf

open Go

theorem beFrom_eq : ∀ (l : List UInt8) (a : Nat), Lib.beFrom a l = a * 256 ^ l.length + Lib.beNat l
  | [], a => by simp [Lib.beNat, Lib.beFrom]
  | b :: l, a => by
    have e1 : Lib.beFrom a (b :: l) = Lib.beFrom (a * 256 + b.toNat) l := rfl
    have e2 : Lib.beNat (b :: l) = Lib.beFrom (0 * 256 + b.toNat) l := rfl
    rw [e1, e2, beFrom_eq l, beFrom_eq l (0 * 256 + b.toNat), List.length_cons, Nat.pow_succ]
    simp only [Nat.zero_mul, Nat.zero_add, Nat.add_mul, Nat.add_assoc]
    congr 1
    rw [Nat.mul_assoc, Nat.mul_comm 256]

theorem emod_split (n d : Int) (hd : 0 < d) : n % (d * 256) = (n / d % 256) * d + n % d := by
  have h1 := Int.emod_add_mul_ediv n d
  have h2 := Int.emod_add_mul_ediv (n / d) 256
  have h3 := Int.emod_nonneg n (show d ≠ 0 by omega)
  have h4 := Int.emod_lt_of_pos n hd
  have h5 := Int.emod_nonneg (n / d) (show (256 : Int) ≠ 0 by omega)
  have h6 := Int.emod_lt_of_pos (n / d) (show (0 : Int) < 256 by omega)
  have h7 : n = (n / d % 256) * d + n % d + d * 256 * (n / d / 256) := by
    calc n = n % d + d * (n / d) := h1.symm
      _ = n % d + d * (n / d % 256 + 256 * (n / d / 256)) := by rw [h2]
      _ = (n / d % 256) * d + n % d + d * 256 * (n / d / 256) := by rw [Int.mul_add, Int.mul_comm d (n / d % 256), ← Int.mul_assoc]; omega
  have h8 : (n / d % 256) * d ≤ 255 * d := Int.mul_le_mul_of_nonneg_right (by omega) (by omega)
  have h9 : 0 ≤ (n / d % 256) * d := Int.mul_nonneg h5 (by omega)
  conv => lhs; rw [h7]
  rw [Int.add_mul_emod_self_left, Int.emod_eq_of_lt (by omega) (by omega)]

theorem octOf_toNat (n : Int) (k : Nat) : ((octOf n k).toNat : Int) = n / 2 ^ (8 * k) % 256 := by
  unfold octOf
  have h5 := Int.emod_nonneg (n / 2 ^ (8 * k)) (show (256 : Int) ≠ 0 by omega)
  have h6 := Int.emod_lt_of_pos (n / 2 ^ (8 * k)) (show (0 : Int) < 256 by omega)
  rw [UInt8.toNat_ofNat']
  omega

theorem beNat_fixed (n : Int) : ∀ k : Nat, ((Lib.beNat (pFixed n k) : Nat) : Int) = n % 2 ^ (8 * k)
  | 0 => by simp [pFixed, Lib.beNat, Lib.beFrom, Int.emod_one]
  | k + 1 => by
    have hp : (0 : Int) < 2 ^ (8 * k) := Int.pow_pos (by omega)
    have e1 : (2 : Int) ^ (8 * (k + 1)) = 2 ^ (8 * k) * 256 := by rw [Nat.mul_add, Int.pow_add]; rfl
    have e2 : ((256 ^ k : Nat) : Int) = 2 ^ (8 * k) := by
      rw [Int.pow_mul]
      simp
    rw [pFixed, Lib.beNat, Lib.beFrom, beFrom_eq, pFixed_length, e1, emod_split n _ hp, ← octOf_toNat, ← beNat_fixed n k, ← e2]
    simp

theorem rFix_fixed (n : Int) (N : Nat) (rest : List UInt8) (nl : Bool) : rFix N ⟨pFixed n N ++ rest, false, nl⟩ = ((n % 2 ^ (8 * N)).toNat, ⟨rest, false, nl⟩) := by
  have hl := pFixed_length n N
  unfold rFix
  rw [if_neg (by simp only [List.length_append]; omega)]
  simp only [List.take_left' hl, List.drop_left' hl, ← beNat_fixed n N, Int.toNat_natCast]

theorem pUvN_pos (k n : Nat) : 1 ≤ (pUvN k n).length := by
  cases k with
  | zero => simp [pUvN]
  | succ k => rw [pUvN]; split <;> simp

theorem uvarAt_pUvN : ∀ (k i x n : Nat) (rest : List UInt8), i ≤ 4 → 4 ≤ k + i → n < 2 ^ (32 - 7 * i) → uvarAt i x (pUvN k n ++ rest) = (x + n * 2 ^ (7 * i), ((i + (pUvN k n).length : Nat) : Int)) := by
  intro k
  induction k with
  | zero =>
    intro i x n rest hi hk hn
    obtain rfl : i = 4 := by omega
    have hn : n < 16 := hn
    have e : (UInt8.ofNat n).toNat = n := by rw [UInt8.toNat_ofNat']; omega
    simp only [pUvN, List.singleton_append, uvarAt, if_true, e, if_pos (show n ≤ 15 by omega), List.length_singleton]
    rfl
  | succ k ih =>
    intro i x n rest hi hk hn
    by_cases h4 : i = 4
    · subst h4
      have hn : n < 16 := hn
      have e : (UInt8.ofNat n).toNat = n := by rw [UInt8.toNat_ofNat']; omega
      simp only [pUvN, if_neg (show ¬ 127 < n by omega), List.singleton_append, uvarAt, if_true, e, if_pos (show n ≤ 15 by omega), List.length_singleton]
      rfl
    · by_cases h : 127 < n
      · have e : (UInt8.ofNat (n % 128 + 128)).toNat = n % 128 + 128 := by rw [UInt8.toNat_ofNat']; omega
        have hp : (2 : Nat) ^ (32 - 7 * i) = 2 ^ (32 - 7 * (i + 1)) * 128 := by
          rw [show 32 - 7 * i = 32 - 7 * (i + 1) + 7 by omega, Nat.pow_add]
        have hp2 : (2 : Nat) ^ (7 * (i + 1)) = 128 * 2 ^ (7 * i) := by
          rw [show 7 * (i + 1) = 7 + 7 * i by omega, Nat.pow_add]
        have hdiv : n / 128 < 2 ^ (32 - 7 * (i + 1)) := by
          rw [hp] at hn
          exact Nat.div_lt_of_lt_mul (by rw [Nat.mul_comm]; exact hn)
        simp only [pUvN, if_pos h, List.cons_append, uvarAt, if_neg h4, e, if_neg (show ¬ n % 128 + 128 < 128 by omega)]
        have hm : (n % 128 + 128) % 128 = n % 128 := by omega
        rw [hm, ih (i + 1) _ _ rest (by omega) (by omega) hdiv, hp2, List.length_cons]
        have hs : n % 128 * 2 ^ (7 * i) + n / 128 * (128 * 2 ^ (7 * i)) = n * 2 ^ (7 * i) := by
          rw [← Nat.mul_assoc, ← Nat.add_mul]
          congr 1
          omega
        rw [Nat.add_assoc, hs]
        congr 2
        omega
      · have e : (UInt8.ofNat n).toNat = n := by rw [UInt8.toNat_ofNat']; omega
        simp only [pUvN, if_neg h, List.singleton_append, uvarAt, if_neg h4, e, if_pos (show n < 128 by omega), List.length_singleton]

theorem rUv_pUv (n : Nat) (h : n < 4294967296) (rest : List UInt8) (nl : Bool) : rUv ⟨pUv n ++ rest, false, nl⟩ = (n, ⟨rest, false, nl⟩) := by
  have h1 : uvar (pUv n ++ rest) = (n, (((pUv n).length : Nat) : Int)) := by
    unfold uvar pUv
    rw [uvarAt_pUvN 10 0 0 n rest (by omega) (by omega) h]
    simp
  have h2 : 1 ≤ (pUv n).length := pUvN_pos 10 n
  unfold rUv
  simp only [h1]
  rw [if_neg (by omega), Int.toNat_natCast, List.drop_left' rfl]

theorem rSpan_left (s rest : List UInt8) (nl : Bool) (m : Int) (hm : m = s.length) : rSpan m ⟨s ++ rest, false, nl⟩ = ((s, nl), ⟨rest, false, nl⟩) := by
  unfold rSpan
  subst hm
  rw [if_neg (by simp only [List.length_append]; omega), Int.toNat_natCast, List.take_left' rfl, List.drop_left' rfl]

theorem pWhole_length (l : List UInt8) : (pWhole l).length ≤ 32767 := by unfold pWhole; rw [List.length_take]; omega

theorem wrap_i8_mod (n : Int) : IntKind.i8.wrap ((n % 2 ^ (8 * 1)).toNat : Int) = IntKind.i8.wrap n := by
  simp only [IntKind.wrap, IntKind.bits, IntKind.signed]; simp; omega

theorem wrap_i16_mod (n : Int) : IntKind.i16.wrap ((n % 2 ^ (8 * 2)).toNat : Int) = IntKind.i16.wrap n := by
  simp only [IntKind.wrap, IntKind.bits, IntKind.signed]; simp; omega

theorem wrap_i32_mod (n : Int) : IntKind.i32.wrap ((n % 2 ^ (8 * 4)).toNat : Int) = IntKind.i32.wrap n := by
  simp only [IntKind.wrap, IntKind.bits, IntKind.signed]; simp; omega

theorem wrap_i64_mod (n : Int) : IntKind.i64.wrap ((n % 2 ^ (8 * 8)).toNat : Int) = IntKind.i64.wrap n := by
  simp only [IntKind.wrap, IntKind.bits, IntKind.signed]; simp; omega

theorem wrap_u16_mod (n : Int) : IntKind.u16.wrap ((n % 2 ^ (8 * 2)).toNat : Int) = IntKind.u16.wrap n := by
  simp only [IntKind.wrap, IntKind.bits, IntKind.signed]; simp; omega

theorem wrap_i16_small (n : Nat) (h : n ≤ 32767) : IntKind.i16.wrap (n : Int) = n := by
  simp only [IntKind.wrap, IntKind.bits, IntKind.signed]; simp; omega

theorem wrap_i32_small (n : Nat) (h : n ≤ 32767) : IntKind.i32.wrap (n : Int) = n := by
  simp only [IntKind.wrap, IntKind.bits, IntKind.signed]; simp; omega

/-- Does a function of the reader read what is written of such a kind? -/
def pkFor (kind : Int) (may fl : Bool) : PK → Bool
  | .num N k => !may && ((decide (kind = 1) && decide (N = 1) && decide (k = .i8)) || (decide (kind = 2) && decide (N = 2) && decide (k = .i16)) || (decide (kind = 3) && decide (N = 4) && decide (k = .i32)) || (decide (kind = 4) && decide (N = 8) && decide (k = .i64)) || (decide (kind = 5) && decide (N = 2) && decide (k = .u16)))
  | .bool => !may && decide (kind = 0)
  | .str => decide (kind = 8) && !may && !fl
  | .cstr => decide (kind = 8) && !may && fl
  | .nstr => decide (kind = 8) && may && !fl
  | .cnstr => decide (kind = 8) && may && fl
  | .bytes => decide (kind = 9) && !may && !fl
  | .cbytes => decide (kind = 9) && !may && fl
  | .nbytes => decide (kind = 9) && !fl
  | .cnbytes => decide (kind = 9) && fl
  | .uuid => !may && decide (kind = 7)
  | .tags => false

/-- What is read then. -/
def valOf (null : Bool) (t : PT) : PK → FV
  | .num _ k => .one (.int k (k.wrap t.n))
  | .bool => .one (.bool (t.n % 2 != 0))
  | .str => .text (pWhole t.s)
  | .cstr => .text (pWhole t.s)
  | .nstr => .ntext (if null then none else some (pWhole t.s))
  | .cnstr => .ntext (if null then none else some (pWhole t.s))
  | .bytes => .octs false (pWhole t.s)
  | .cbytes => .octs false (pWhole t.s)
  | .nbytes => .octs null (if null then [] else pWhole t.s)
  | .cnbytes => .octs null (if null then [] else pWhole t.s)
  | .uuid => .uuid (pId t.s)
  | .tags => .tags []

theorem pId_length (s : List UInt8) : (pId s).length = 16 := by unfold pId; rw [List.length_take, List.length_append, List.length_replicate]; omega

theorem PK.reads {kind : Int} {may fl : Bool} {pk : PK} (h : pkFor kind may fl pk = true) (t : PT) {null : Bool} (hn : null = true → may = true) (pp : PT → List UInt8) (rest : List UInt8) :
    pk.run ⟨pValue pp kind null fl t ++ rest, false, false⟩ = (valOf null t pk, ⟨rest, false, false⟩) := by
  have hwl := pWhole_length t.s
  cases pk with
  | num N k =>
    simp only [pkFor, Bool.and_eq_true, Bool.or_eq_true, decide_eq_true_eq] at h
    rcases h.2 with (((⟨⟨rfl, rfl⟩, rfl⟩ | ⟨⟨rfl, rfl⟩, rfl⟩) | ⟨⟨rfl, rfl⟩, rfl⟩) | ⟨⟨rfl, rfl⟩, rfl⟩) | ⟨⟨rfl, rfl⟩, rfl⟩
    · have e : pValue pp 1 null fl t = pFixed t.n 1 := rfl
      simp only [PK.run, e, rFix_fixed, wrap_i8_mod, valOf]
    · have e : pValue pp 2 null fl t = pFixed t.n 2 := rfl
      simp only [PK.run, e, rFix_fixed, wrap_i16_mod, valOf]
    · have e : pValue pp 3 null fl t = pFixed t.n 4 := rfl
      simp only [PK.run, e, rFix_fixed, wrap_i32_mod, valOf]
    · have e : pValue pp 4 null fl t = pFixed t.n 8 := rfl
      simp only [PK.run, e, rFix_fixed, wrap_i64_mod, valOf]
    · have e : pValue pp 5 null fl t = pFixed t.n 2 := rfl
      simp only [PK.run, e, rFix_fixed, wrap_u16_mod, valOf]
  | bool =>
    simp only [pkFor, Bool.and_eq_true, decide_eq_true_eq] at h
    obtain ⟨_, rfl⟩ := h
    have e : pValue pp 0 null fl t = [UInt8.ofNat (t.n % 2).toNat] := rfl
    have e2 : (UInt8.ofNat (t.n % 2).toNat).toNat = (t.n % 2).toNat := by rw [UInt8.toNat_ofNat']; omega
    simp only [PK.run, rBool, e, rFix, List.singleton_append, List.length_cons, if_neg (show ¬ rest.length + 1 < 1 by omega), List.take_succ_cons, List.take_zero, Lib.beNat, Lib.beFrom, e2, List.drop_succ_cons, List.drop_zero, valOf]
    congr 3
    have : t.n % 2 = 0 ∨ t.n % 2 = 1 := by omega
    rcases this with h | h <;> simp [h]
  | str =>
    simp only [pkFor, Bool.and_eq_true, decide_eq_true_eq, Bool.not_eq_true'] at h
    obtain ⟨⟨rfl, rfl⟩, rfl⟩ := h
    have hnf : null = false := by cases null <;> simp_all
    subst hnf
    have e : pValue pp 8 false false t = pFixed (pWhole t.s).length 2 ++ pWhole t.s := rfl
    have e2 : rStr ⟨pFixed (pWhole t.s).length 2 ++ pWhole t.s ++ rest, false, false⟩ = (pWhole t.s, ⟨rest, false, false⟩) := by
      unfold rStr
      rw [List.append_assoc, rFix_fixed]
      simp only [wrap_i16_mod, wrap_i16_small _ hwl, rSpan_left _ _ _ _ rfl]
    simp only [PK.run, e, e2, valOf]
  | cstr =>
    simp only [pkFor, Bool.and_eq_true, decide_eq_true_eq, Bool.not_eq_true'] at h
    obtain ⟨⟨rfl, rfl⟩, rfl⟩ := h
    have hnf : null = false := by cases null <;> simp_all
    subst hnf
    have e : pValue pp 8 false true t = pUv ((pWhole t.s).length + 1) ++ pWhole t.s := rfl
    have e2 : rCStr ⟨pUv ((pWhole t.s).length + 1) ++ pWhole t.s ++ rest, false, false⟩ = (pWhole t.s, ⟨rest, false, false⟩) := by
      unfold rCStr
      rw [List.append_assoc, rUv_pUv _ (by omega)]
      simp only [rSpan_left (pWhole t.s) rest false _ (show (((pWhole t.s).length + 1 : Nat) : Int) - 1 = (pWhole t.s).length by omega)]
    simp only [PK.run, e, e2, valOf]
  | nstr =>
    simp only [pkFor, Bool.and_eq_true, decide_eq_true_eq, Bool.not_eq_true'] at h
    obtain ⟨⟨rfl, rfl⟩, rfl⟩ := h
    cases null with
    | false =>
      have e : pValue pp 8 false false t = pFixed (pWhole t.s).length 2 ++ pWhole t.s := rfl
      have e2 : rNStr ⟨pFixed (pWhole t.s).length 2 ++ pWhole t.s ++ rest, false, false⟩ = (some (pWhole t.s), ⟨rest, false, false⟩) := by
        unfold rNStr
        rw [List.append_assoc, rFix_fixed]
        simp only [wrap_i16_mod, wrap_i16_small _ hwl, rSpan_left _ _ _ _ rfl]
        rw [if_neg (by omega)]
      simp only [PK.run, e, e2, valOf, Bool.false_eq_true, if_false]
    | true =>
      have e : pValue pp 8 true false t = pFixed (-1) 2 := rfl
      have e2 : rNStr ⟨pFixed (-1) 2 ++ rest, false, false⟩ = (none, ⟨rest, false, false⟩) := by
        unfold rNStr
        rw [rFix_fixed]
        simp only [wrap_i16_mod]
        rw [if_pos (by decide)]
      simp only [PK.run, e, e2, valOf, if_true]
  | cnstr =>
    simp only [pkFor, Bool.and_eq_true, decide_eq_true_eq] at h
    obtain ⟨⟨rfl, rfl⟩, rfl⟩ := h
    cases null with
    | false =>
      have e : pValue pp 8 false true t = pUv ((pWhole t.s).length + 1) ++ pWhole t.s := rfl
      have e2 : rCNStr ⟨pUv ((pWhole t.s).length + 1) ++ pWhole t.s ++ rest, false, false⟩ = (some (pWhole t.s), ⟨rest, false, false⟩) := by
        unfold rCNStr
        rw [List.append_assoc, rUv_pUv _ (by omega)]
        simp only [rSpan_left (pWhole t.s) rest false _ (show (((pWhole t.s).length + 1 : Nat) : Int) - 1 = (pWhole t.s).length by omega)]
        rw [if_neg (by omega)]
      simp only [PK.run, e, e2, valOf, Bool.false_eq_true, if_false]
    | true =>
      have e : pValue pp 8 true true t = pUv 0 := rfl
      have e2 : rCNStr ⟨pUv 0 ++ rest, false, false⟩ = (none, ⟨rest, false, false⟩) := by
        unfold rCNStr
        rw [rUv_pUv _ (by omega)]
        simp only
        rw [if_pos (by decide)]
      simp only [PK.run, e, e2, valOf, if_true]
  | bytes =>
    simp only [pkFor, Bool.and_eq_true, decide_eq_true_eq, Bool.not_eq_true'] at h
    obtain ⟨⟨rfl, rfl⟩, rfl⟩ := h
    have hnf : null = false := by cases null <;> simp_all
    subst hnf
    have e : pValue pp 9 false false t = pFixed (pWhole t.s).length 4 ++ pWhole t.s := rfl
    have e2 : rBytes ⟨pFixed (pWhole t.s).length 4 ++ pWhole t.s ++ rest, false, false⟩ = ((pWhole t.s, false), ⟨rest, false, false⟩) := by
      unfold rBytes
      rw [List.append_assoc, rFix_fixed]
      simp only [wrap_i32_mod, wrap_i32_small _ hwl, rSpan_left _ _ _ _ rfl]
      rw [if_neg (by omega)]
    simp only [PK.run, e, e2, valOf]
  | cbytes =>
    simp only [pkFor, Bool.and_eq_true, decide_eq_true_eq, Bool.not_eq_true'] at h
    obtain ⟨⟨rfl, rfl⟩, rfl⟩ := h
    have hnf : null = false := by cases null <;> simp_all
    subst hnf
    have e : pValue pp 9 false true t = pUv ((pWhole t.s).length + 1) ++ pWhole t.s := rfl
    have e2 : rCBytes ⟨pUv ((pWhole t.s).length + 1) ++ pWhole t.s ++ rest, false, false⟩ = ((pWhole t.s, false), ⟨rest, false, false⟩) := by
      unfold rCBytes
      rw [List.append_assoc, rUv_pUv _ (by omega)]
      simp only [rSpan_left (pWhole t.s) rest false _ (show (((pWhole t.s).length + 1 : Nat) : Int) - 1 = (pWhole t.s).length by omega)]
      rw [if_neg (by omega)]
    simp only [PK.run, e, e2, valOf]
  | nbytes =>
    simp only [pkFor, Bool.and_eq_true, decide_eq_true_eq, Bool.not_eq_true'] at h
    obtain ⟨rfl, rfl⟩ := h
    cases null with
    | false =>
      have e : pValue pp 9 false false t = pFixed (pWhole t.s).length 4 ++ pWhole t.s := rfl
      have e2 : rNBytes ⟨pFixed (pWhole t.s).length 4 ++ pWhole t.s ++ rest, false, false⟩ = ((pWhole t.s, false), ⟨rest, false, false⟩) := by
        unfold rNBytes
        rw [List.append_assoc, rFix_fixed]
        simp only [wrap_i32_mod, wrap_i32_small _ hwl, rSpan_left _ _ _ _ rfl]
        rw [if_neg (by omega)]
      simp only [PK.run, e, e2, valOf, Bool.false_eq_true, if_false]
    | true =>
      have e : pValue pp 9 true false t = pFixed (-1) 4 := rfl
      have e2 : rNBytes ⟨pFixed (-1) 4 ++ rest, false, false⟩ = (([], true), ⟨rest, false, false⟩) := by
        unfold rNBytes
        rw [rFix_fixed]
        simp only [wrap_i32_mod]
        rw [if_pos (by decide)]
      simp only [PK.run, e, e2, valOf, if_true]
  | cnbytes =>
    simp only [pkFor, Bool.and_eq_true, decide_eq_true_eq] at h
    obtain ⟨rfl, rfl⟩ := h
    cases null with
    | false =>
      have e : pValue pp 9 false true t = pUv ((pWhole t.s).length + 1) ++ pWhole t.s := rfl
      have e2 : rCNBytes ⟨pUv ((pWhole t.s).length + 1) ++ pWhole t.s ++ rest, false, false⟩ = ((pWhole t.s, false), ⟨rest, false, false⟩) := by
        unfold rCNBytes
        rw [List.append_assoc, rUv_pUv _ (by omega)]
        simp only [rSpan_left (pWhole t.s) rest false _ (show (((pWhole t.s).length + 1 : Nat) : Int) - 1 = (pWhole t.s).length by omega)]
        rw [if_neg (by omega)]
      simp only [PK.run, e, e2, valOf, Bool.false_eq_true, if_false]
    | true =>
      have e : pValue pp 9 true true t = pUv 0 := rfl
      have e2 : rCNBytes ⟨pUv 0 ++ rest, false, false⟩ = (([], true), ⟨rest, false, false⟩) := by
        unfold rCNBytes
        rw [rUv_pUv _ (by omega)]
        simp only
        rw [if_pos (by decide)]
      simp only [PK.run, e, e2, valOf, if_true]
  | uuid =>
    simp only [pkFor, Bool.and_eq_true, decide_eq_true_eq] at h
    obtain ⟨_, rfl⟩ := h
    have hl := pId_length t.s
    have e : pValue pp 7 null fl t = pId t.s := rfl
    simp only [PK.run, e, rUuid, rSpan_left (pId t.s) rest false 16 (by rw [hl]; rfl), valOf, padTo, hl]
    simp [List.take_of_length_le (Nat.le_of_eq hl)]
  | tags => cases h

/-- It is told so. -/
theorem PK.tells {kind : Int} {may fl : Bool} {pk : PK} (h : pkFor kind may fl pk = true) {t : PT} (hok : IntKind.i64.wrap t.n = t.n) {null : Bool} (hn : null = true → may = true) (tt : PT → PT → Bool) :
    (tellPrim (valOf null t pk)).null = null ∧ (null = false → pToldV tt kind t (tellPrim (valOf null t pk)) = true) := by
  cases pk with
  | num N k =>
    simp only [pkFor, Bool.and_eq_true, Bool.or_eq_true, decide_eq_true_eq, Bool.not_eq_true'] at h
    have hnf : null = false := by cases null <;> simp_all
    subst hnf
    rcases h.2 with (((⟨⟨rfl, rfl⟩, rfl⟩ | ⟨⟨rfl, rfl⟩, rfl⟩) | ⟨⟨rfl, rfl⟩, rfl⟩) | ⟨⟨rfl, rfl⟩, rfl⟩) | ⟨⟨rfl, rfl⟩, rfl⟩ <;> refine ⟨rfl, fun _ => ?_⟩ <;> simp [valOf, tellPrim, pToldV, PT.n, pNumber]
    exact hok
  | bool =>
    simp only [pkFor, Bool.and_eq_true, decide_eq_true_eq, Bool.not_eq_true'] at h
    obtain ⟨rfl, rfl⟩ := h
    have hnf : null = false := by cases null <;> simp_all
    subst hnf
    refine ⟨rfl, fun _ => ?_⟩
    have : t.n % 2 = 0 ∨ t.n % 2 = 1 := by omega
    have e : pToldV tt 0 t (tellPrim (valOf false t .bool)) = decide ((if (t.n % 2 != 0) = true then (1 : Int) else 0) = t.n % 2) := rfl
    rw [e]
    rcases this with h | h <;> simp [h]
  | str =>
    simp only [pkFor, Bool.and_eq_true, decide_eq_true_eq, Bool.not_eq_true'] at h
    obtain ⟨⟨rfl, rfl⟩, rfl⟩ := h
    have hnf : null = false := by cases null <;> simp_all
    subst hnf
    exact ⟨rfl, fun _ => by simp [valOf, tellPrim, pToldV, PT.s]⟩
  | cstr =>
    simp only [pkFor, Bool.and_eq_true, decide_eq_true_eq, Bool.not_eq_true'] at h
    obtain ⟨⟨rfl, rfl⟩, rfl⟩ := h
    have hnf : null = false := by cases null <;> simp_all
    subst hnf
    exact ⟨rfl, fun _ => by simp [valOf, tellPrim, pToldV, PT.s]⟩
  | nstr =>
    simp only [pkFor, Bool.and_eq_true, decide_eq_true_eq, Bool.not_eq_true'] at h
    obtain ⟨⟨rfl, rfl⟩, rfl⟩ := h
    cases null
    · exact ⟨rfl, fun _ => by simp [valOf, tellPrim, pToldV, PT.s]⟩
    · exact ⟨rfl, fun h => by cases h⟩
  | cnstr =>
    simp only [pkFor, Bool.and_eq_true, decide_eq_true_eq] at h
    obtain ⟨⟨rfl, rfl⟩, rfl⟩ := h
    cases null
    · exact ⟨rfl, fun _ => by simp [valOf, tellPrim, pToldV, PT.s]⟩
    · exact ⟨rfl, fun h => by cases h⟩
  | bytes =>
    simp only [pkFor, Bool.and_eq_true, decide_eq_true_eq, Bool.not_eq_true'] at h
    obtain ⟨⟨rfl, rfl⟩, rfl⟩ := h
    have hnf : null = false := by cases null <;> simp_all
    subst hnf
    exact ⟨rfl, fun _ => by simp [valOf, tellPrim, pToldV, PT.s]⟩
  | cbytes =>
    simp only [pkFor, Bool.and_eq_true, decide_eq_true_eq, Bool.not_eq_true'] at h
    obtain ⟨⟨rfl, rfl⟩, rfl⟩ := h
    have hnf : null = false := by cases null <;> simp_all
    subst hnf
    exact ⟨rfl, fun _ => by simp [valOf, tellPrim, pToldV, PT.s]⟩
  | nbytes =>
    simp only [pkFor, Bool.and_eq_true, decide_eq_true_eq, Bool.not_eq_true'] at h
    obtain ⟨rfl, rfl⟩ := h
    refine ⟨rfl, fun h => ?_⟩
    subst h
    simp [valOf, tellPrim, pToldV, PT.s]
  | cnbytes =>
    simp only [pkFor, Bool.and_eq_true, decide_eq_true_eq] at h
    obtain ⟨rfl, rfl⟩ := h
    refine ⟨rfl, fun h => ?_⟩
    subst h
    simp [valOf, tellPrim, pToldV, PT.s]
  | uuid =>
    simp only [pkFor, Bool.and_eq_true, decide_eq_true_eq, Bool.not_eq_true'] at h
    obtain ⟨rfl, rfl⟩ := h
    have hnf : null = false := by cases null <;> simp_all
    subst hnf
    exact ⟨rfl, fun _ => by simp [valOf, tellPrim, pToldV, PT.s]⟩
  | tags => cases h

/-- Does a list's length so read be that which is written? -/
def lkFor (may fl : Bool) : LenK → Bool
  | .len => !may && !fl
  | .clen => !may && fl
  | .nlen => may && !fl
  | .nclen => may && fl

theorem LenK.reads {may fl : Bool} {lk : LenK} (h : lkFor may fl lk = true) {null : Bool} (hn : null = true → may = true) {n : Nat} (hnl : n ≤ 32767) (h0 : null = true → n = 0) {rest : List UInt8} (hr : n ≤ rest.length) :
    ∃ m : Int, lk.run ⟨pCounted fl null n 4 ++ rest, false, false⟩ = (m, ⟨rest, false, false⟩) ∧ m.toNat = n ∧ (may = true → lk.nilAt m = null) := by
  have k1 : ∀ m : Int, IntKind.i32.wrap ((m % 2 ^ (8 * 4)).toNat : Int) = IntKind.i32.wrap m := wrap_i32_mod
  have pos : null = false → fl = false → rLen ⟨pCounted fl null n 4 ++ rest, false, false⟩ = ((n : Int), ⟨rest, false, false⟩) := by
    rintro rfl rfl
    have e : pCounted false false n 4 = pFixed n 4 := rfl
    unfold rLen
    rw [e, rFix_fixed]
    simp only [k1, wrap_i32_small n hnl]
    rw [if_neg (by omega)]
  have neg : null = true → fl = false → rLen ⟨pCounted fl null n 4 ++ rest, false, false⟩ = (-1, ⟨rest, false, false⟩) := by
    rintro rfl rfl
    have e : pCounted false true n 4 = pFixed (-1) 4 := rfl
    have e2 : IntKind.i32.wrap (-1) = -1 := by decide
    unfold rLen
    rw [e, rFix_fixed]
    simp only [k1, e2]
    rw [if_neg (by omega)]
  have w2 : IntKind.i32.wrap (IntKind.i32.wrap ((n + 1 : Nat) : Int) - 1) = n := by
    simp only [IntKind.wrap, IntKind.bits, IntKind.signed]; simp; omega
  have cpos : null = false → fl = true → rCLen ⟨pCounted fl null n 4 ++ rest, false, false⟩ = ((n : Int), ⟨rest, false, false⟩) := by
    rintro rfl rfl
    have e : pCounted true false n 4 = pUv (n + 1) := rfl
    unfold rCLen
    rw [e, rUv_pUv _ (by omega)]
    simp only [w2]
    rw [if_neg (by omega)]
  have cneg : null = true → fl = true → rCLen ⟨pCounted fl null n 4 ++ rest, false, false⟩ = (-1, ⟨rest, false, false⟩) := by
    rintro rfl rfl
    have e : pCounted true true n 4 = pUv 0 := rfl
    have e2 : IntKind.i32.wrap (IntKind.i32.wrap ((0 : Nat) : Int) - 1) = -1 := by decide
    unfold rCLen
    rw [e, rUv_pUv _ (by omega)]
    simp only [e2]
    rw [if_neg (by omega)]
  cases lk with
  | len =>
    simp only [lkFor, Bool.and_eq_true, Bool.not_eq_true'] at h
    have hnf : null = false := by cases null <;> simp_all
    exact ⟨n, pos hnf h.2, by simp, fun hm => by rw [h.1] at hm; cases hm⟩
  | clen =>
    simp only [lkFor, Bool.and_eq_true, Bool.not_eq_true'] at h
    have hnf : null = false := by cases null <;> simp_all
    exact ⟨n, cpos hnf h.2, by simp, fun hm => by rw [h.1] at hm; cases hm⟩
  | nlen =>
    simp only [lkFor, Bool.and_eq_true, Bool.not_eq_true'] at h
    cases null with
    | false => exact ⟨n, pos rfl h.2, by simp, fun _ => by simp [LenK.nilAt, LenK.nul]⟩
    | true => exact ⟨-1, neg rfl h.2, by rw [h0 rfl]; rfl, fun _ => by simp [LenK.nilAt, LenK.nul]⟩
  | nclen =>
    simp only [lkFor, Bool.and_eq_true] at h
    cases null with
    | false => exact ⟨n, cpos rfl h.2, by simp, fun _ => by simp [LenK.nilAt, LenK.nul]⟩
    | true => exact ⟨-1, cneg rfl h.2, by rw [h0 rfl]; rfl, fun _ => by simp [LenK.nilAt, LenK.nul]⟩

end Go.Kf

namespace Go.Kf

open Go

def wholeTags (u : TM) : TM := u.map fun q => (q.1, pWhole q.2)

/-- This is what a value of a kind is. -/
def RepV (kind : Int) (may null : Bool) (t : PT) : FV → Prop
  | .one (.int k x) => x = k.wrap t.n ∧ ((kind = 1 ∧ k = .i8) ∨ (kind = 2 ∧ k = .i16) ∨ (kind = 3 ∧ k = .i32) ∨ (kind = 4 ∧ k = .i64) ∨ (kind = 5 ∧ k = .u16))
  | .one (.bool b) => kind = 0 ∧ b = (t.n % 2 != 0)
  | .text l => kind = 8 ∧ null = false ∧ l = pWhole t.s
  | .ntext o => kind = 8 ∧ o = if null then none else some (pWhole t.s)
  | .octs nl l => kind = 9 ∧ (may = true → nl = null) ∧ l = if null then [] else pWhole t.s
  | .uuid l => kind = 7 ∧ l = pId t.s
  | _ => False

mutual
def RepF (v : Int) (fl : Bool) : PF → PT → FV → Prop
  | .mk k fr to nul g d e sub, t, x => match x with
    | .list nl rows => k = 11 ∧ ((decide (0 ≤ nul) && decide (nul ≤ v)) = true → nl = pNull (.mk k fr to nul g d e sub) v t) ∧ rows.length = (if pNull (.mk k fr to nul g d e sub) v t then [] else pThings t.l).length ∧
      ∀ (j : Nat) (y : PT) (r : List FV), (if pNull (.mk k fr to nul g d e sub) v t then [] else pThings t.l)[j]? = some y → rows[j]? = some r → (e = 10 → RepFs v fl sub y r 0 0 ∧ (fl = true → r[sub.length]? = some (.tags (wholeTags (pUnknown sub y.u))))) ∧ (e ≠ 10 → ∃ z, r = [z] ∧ RepV e false false y z)
    | .sub gs => k = 10 ∧ nul < 0 ∧ RepFs v fl sub t gs 0 0 ∧ (fl = true → gs[sub.length]? = some (.tags (wholeTags (pUnknown sub t.u))))
    | x => RepV k (decide (0 ≤ nul) && decide (nul ≤ v)) (pNull (.mk k fr to nul g d e sub) v t) t x
def RepFs (v : Int) (fl : Bool) : List PF → PT → List FV → Nat → Nat → Prop
  | [], _, _, _, _ => True
  | f :: r, t, gs, i, p => (pHas f v = true → ∃ x, gs[p]? = some x ∧ RepF v fl f (pAt t i) x) ∧ RepFs v fl r t gs (i + 1) (p + 1)
end

/-- A whole part's values. -/
def RepPart (v : Int) (fl : Bool) (fs : List PF) (t : PT) (gs : List FV) (p : Nat) : Prop := RepFs v fl fs t gs 0 p ∧ (fl = true → gs[p + fs.length]? = some (.tags (wholeTags (pUnknown fs t.u))))

theorem RepFs.congr {v : Int} {fl : Bool} {gs gs' : List FV} : ∀ {fs : List PF} {t : PT} {i p : Nat}, (∀ q, p ≤ q → q < p + fs.length → gs'[q]? = gs[q]?) → RepFs v fl fs t gs i p → RepFs v fl fs t gs' i p
  | [], _, _, _, _, _ => trivial
  | f :: r, t, i, p, h, h2 => by
    simp only [RepFs] at h2 ⊢
    refine ⟨fun hh => ?_, RepFs.congr (fun q h3 h4 => h q (by omega) (by simp only [List.length_cons]; omega)) h2.2⟩
    rw [h p (Nat.le_refl _) (by simp only [List.length_cons]; omega)]
    exact h2.1 hh

theorem PK.rep {kind : Int} {may fl : Bool} {pk : PK} (h : pkFor kind may fl pk = true) (t : PT) {null : Bool} (hn : null = true → may = true) : RepV kind may null t (valOf null t pk) := by
  cases pk with
  | num N k =>
    simp only [pkFor, Bool.and_eq_true, Bool.or_eq_true, decide_eq_true_eq] at h
    refine ⟨rfl, ?_⟩
    rcases h.2 with (((⟨⟨rfl, rfl⟩, rfl⟩ | ⟨⟨rfl, rfl⟩, rfl⟩) | ⟨⟨rfl, rfl⟩, rfl⟩) | ⟨⟨rfl, rfl⟩, rfl⟩) | ⟨⟨rfl, rfl⟩, rfl⟩ <;> simp
  | bool =>
    simp only [pkFor, Bool.and_eq_true, decide_eq_true_eq] at h
    exact ⟨h.2, rfl⟩
  | str =>
    simp only [pkFor, Bool.and_eq_true, decide_eq_true_eq, Bool.not_eq_true'] at h
    exact ⟨h.1.1, by cases null <;> simp_all, rfl⟩
  | cstr =>
    simp only [pkFor, Bool.and_eq_true, decide_eq_true_eq, Bool.not_eq_true'] at h
    exact ⟨h.1.1, by cases null <;> simp_all, rfl⟩
  | nstr =>
    simp only [pkFor, Bool.and_eq_true, decide_eq_true_eq, Bool.not_eq_true'] at h
    exact ⟨h.1.1, rfl⟩
  | cnstr =>
    simp only [pkFor, Bool.and_eq_true, decide_eq_true_eq] at h
    exact ⟨h.1.1, rfl⟩
  | bytes =>
    simp only [pkFor, Bool.and_eq_true, decide_eq_true_eq, Bool.not_eq_true'] at h
    have hnf : null = false := by cases null <;> simp_all
    subst hnf
    exact ⟨h.1.1, fun _ => rfl, rfl⟩
  | cbytes =>
    simp only [pkFor, Bool.and_eq_true, decide_eq_true_eq, Bool.not_eq_true'] at h
    have hnf : null = false := by cases null <;> simp_all
    subst hnf
    exact ⟨h.1.1, fun _ => rfl, rfl⟩
  | nbytes =>
    simp only [pkFor, Bool.and_eq_true, decide_eq_true_eq, Bool.not_eq_true'] at h
    exact ⟨h.1, fun _ => rfl, rfl⟩
  | cnbytes =>
    simp only [pkFor, Bool.and_eq_true, decide_eq_true_eq] at h
    exact ⟨h.1, fun _ => rfl, rfl⟩
  | uuid =>
    simp only [pkFor, Bool.and_eq_true, decide_eq_true_eq] at h
    exact ⟨h.2, rfl⟩
  | tags => cases h

theorem RepF.one {v : Int} {fl : Bool} {f : PF} {t : PT} {pk : PK} (h : RepV f.kind (decide (0 ≤ f.nul) && decide (f.nul ≤ v)) (pNull f v t) t (valOf (pNull f v t) t pk)) : RepF v fl f t (valOf (pNull f v t) t pk) := by
  cases f
  cases pk <;> exact h

end Go.Kf

namespace Go.Kf

open Go

/-- How a field is told. -/
inductive TD where
  | prim (i : Nat)
  | lprim (i : Nat)
  | lsub (i : Nat) (ds : List TD) (tg : Option Nat)
  | part (i : Nat) (ds : List TD) (tg : Option Nat)

def TD.idx : TD → Nat
  | .prim i => i
  | .lprim i => i
  | .lsub i _ _ => i
  | .part i _ _ => i

def tagsIn (tg : Option Nat) (fs : List FV) : TM := match tg with
  | some k => tellTags (fvGet fs k)
  | none => []

mutual
def TD.run : TD → List FV → PT
  | .prim i, fs => tellPrim (fvGet fs i)
  | .lprim i, fs => tellList (fun r => tellPrim (fvGet r 0)) (fvGet fs i)
  | .lsub i ds tg, fs => tellList (fun r => .mk 0 [] false (TD.runs ds r) (tagsIn tg r)) (fvGet fs i)
  | .part i ds tg, fs => tellPart (fun r => .mk 0 [] false (TD.runs ds r) (tagsIn tg r)) (fvGet fs i)
def TD.runs : List TD → List FV → List PT
  | [], _ => []
  | d :: ds, fs => d.run fs :: TD.runs ds fs
end

def tdGp (ds : List TD) (tg : Option Nat) (fs : List FV) : PT := .mk 0 [] false (TD.runs ds fs) (tagsIn tg fs)

theorem TD.runs_length (fs : List FV) : ∀ ds : List TD, (TD.runs ds fs).length = ds.length
  | [] => rfl
  | d :: ds => by rw [TD.runs, List.length_cons, TD.runs_length fs ds, List.length_cons]

theorem TD.runs_get (fs : List FV) : ∀ (ds : List TD) (j : Nat) (h : j < ds.length) (h2 : j < (TD.runs ds fs).length), (TD.runs ds fs)[j] = ds[j].run fs
  | d :: ds, 0, _, _ => rfl
  | d :: ds, j + 1, h, h2 => TD.runs_get fs ds j (by simpa using h) _

theorem fvGet_congr {fs fs' : List FV} {i : Nat} (h : fs[i]? = fs'[i]?) : fvGet fs i = fvGet fs' i := by
  unfold fvGet
  rw [List.getD_eq_getElem?_getD, List.getD_eq_getElem?_getD, h]

theorem TD.run_congr {d : TD} {fs fs' : List FV} (h : fs[d.idx]? = fs'[d.idx]?) : d.run fs = d.run fs' := by
  cases d <;> simp only [TD.idx] at h <;> simp only [TD.run, fvGet_congr h]

/-- Something is written of each such part. -/
def pPos (sub : List PF) (v : Int) (fl : Bool) : Bool := fl || sub.any fun f => decide (f.tag < 0) && pHas f v && !(decide (f.kind = 10) && decide (f.nul < 0))

def PK.plainText : PK → Bool
  | .str => true
  | .cstr => true
  | _ => false

def rtEnd (fl : Bool) (ss : List Step) (tg : Option Nat) (p : Nat) (dflt : List FV) : Bool := match fl with
  | true => match ss, tg with
    | [.call .tags _ k _ _], some k' => Nat.beq k k' && Nat.beq p k && Nat.blt k dflt.length
    | _, _ => false
  | false => ss.isEmpty && match tg with
    | none => true
    | some k => Nat.ble p k && match dflt[k]? with
      | some (.tags []) => true
      | _ => false

/-- A ghost ahead is left out. -/
def dropG : List Step → List Step
  | .ghost :: ss => ss
  | ss => ss

theorem runSteps_dropG (ss : List Step) (fs : List FV) (r : Rd) : runSteps (dropG ss) fs r = runSteps ss fs r := by
  unfold dropG
  split
  · simp only [runSteps, runStep]
  · rfl

mutual
/-- Is this step that which reads what is written of a field, and is it told by this? d0: what is there ahead. -/
def rtField (v : Int) (fl : Bool) : PF → Step → TD → FV → Bool
  | .mk k _ _ nul _ _ e sub, s, td, d0 => match s, td with
    | .call pk _ _ _ _, .prim _ => pkFor k (decide (0 ≤ nul) && decide (nul ≤ v)) fl pk
    | .uuid _ _ _, .prim _ => pkFor k (decide (0 ≤ nul) && decide (nul ≤ v)) fl .uuid
    | .strP pk _ _ _ _, .prim _ => pkFor k (decide (0 ≤ nul) && decide (nul ≤ v)) fl pk && pk.plainText
    | .listP lk _ _ _ _ pk _ _, .lprim _ => decide (k = 11) && lkFor (decide (0 ≤ nul) && decide (nul ≤ v)) fl lk && pkFor e false fl pk
    | .listS lk _ _ _ _ _ _ _ dflt ss, .lsub _ ds tg => decide (k = 11) && decide (e = 10) && lkFor (decide (0 ≤ nul) && decide (nul ≤ v)) fl lk && pPos sub v fl && rtPlain v fl sub (dropG ss) ds dflt 0 tg
    | .sub _ _ _ _ dss _ ss, .part _ ds tg => decide (k = 10) && decide (nul < 0) && match d0 with
      | .sub gs => rtPlain v fl sub ss ds (applyD dss gs) 0 tg
      | _ => false
    | _, _ => false
def rtPlain (v : Int) (fl : Bool) : List PF → List Step → List TD → List FV → Nat → Option Nat → Bool
  | [], ss, ds, dflt, p, tg => ds.isEmpty && rtEnd fl ss tg p dflt
  | f :: r, ss, ds, dflt, p, tg => match ds with
    | [] => false
    | d :: ds' => Nat.beq d.idx p && match dflt[p]? with
      | none => false
      | some d0 => decide (f.tag < 0) && bif pHas f v then (match ss with
          | [] => false
          | s :: ss' => Nat.beq s.idx p && rtField v fl f s d d0 && rtPlain v fl r ss' ds' dflt (p + 1) tg)
        else pUsualGot f (d.run dflt) && rtPlain v fl r ss ds' dflt (p + 1) tg
end

/-- Unknown tags as they are written: rising, few. -/
structure TagsFine (u : TM) : Prop where
  len : u.length ≤ 32767
  key : ∀ p ∈ u, p.1 < 4294967296
  asc : u.Pairwise fun a b => a.1 < b.1

def pEndB (fl : Bool) (u : TM) : List UInt8 := if fl then pUv u.length ++ pTags u else []

def FieldRT (v : Int) (fl : Bool) (f : PF) (s : Step) (td : TD) (d0 : FV) : Prop :=
  ∀ (t : PT) (fs0 : List FV) (rest : List UInt8) (nl : Bool), t.ok → (nl = true → pField f v fl t ++ rest = []) → fs0[s.idx]? = some d0 →
    ∃ x, runStep s fs0 ⟨pField f v fl t ++ rest, false, nl⟩ = some (fs0.set s.idx x, ⟨rest, false, nl⟩) ∧ (∀ fs, fs[td.idx]? = some x → pTold1 f v fl t (td.run fs) = true) ∧ RepF v fl f t x

def PlainRT (v : Int) (fl : Bool) (fs : List PF) (ss : List Step) (ds : List TD) (dflt : List FV) (p : Nat) (tg : Option Nat) : Prop :=
  ∀ (t : PT) (i : Nat) (u : TM) (fs0 : List FV) (rest : List UInt8) (nl : Bool), t.ok → TagsFine u → (nl = true → (pPlain fs v fl t i ++ pEndB fl u) ++ rest = []) → (∀ q, p ≤ q → fs0[q]? = dflt[q]?) →
    ∃ fs1, runSteps ss fs0 ⟨(pPlain fs v fl t i ++ pEndB fl u) ++ rest, false, nl⟩ = some (fs1, ⟨rest, false, nl⟩) ∧ (∀ q, q < p → fs1[q]? = fs0[q]?) ∧ ds.length = fs.length ∧
      (∀ j (hj : j < fs.length) (hd : j < ds.length), pToldAt fs[j] v fl (pAt t (i + j)) (ds[j].run fs1) = true) ∧ tagsIn tg fs1 = (if fl then wholeTags u else []) ∧ RepFs v fl fs t fs1 i p ∧ (fl = true → fs1[p + fs.length]? = some (.tags (wholeTags u)))

theorem tmSet_new : ∀ {m : TM} {k : Nat} {l : List UInt8}, (∀ p ∈ m, p.1 ≠ k) → tmSet m k l = m ++ [(k, l)]
  | [], _, _, _ => rfl
  | p :: m, k, l, h => by
    rw [tmSet, if_neg (h p (by simp)), tmSet_new fun q hq => h q (by simp [hq])]
    rfl

theorem rTagsN_read : ∀ (u m : TM) (rest : List UInt8), (∀ p ∈ u, p.1 < 4294967296) → u.Pairwise (fun a b => a.1 < b.1) → (∀ p ∈ m, ∀ q ∈ u, p.1 ≠ q.1) →
    rTagsN u.length m ⟨pTags u ++ rest, false, false⟩ = (m ++ wholeTags u, ⟨rest, false, false⟩)
  | [], m, rest, _, _, _ => by simp [rTagsN, pTags, wholeTags]
  | q :: u, m, rest, h1, h2, h3 => by
    have hw := pWhole_length q.2
    have e : pTags (q :: u) ++ rest = pUv q.1 ++ (pUv (pWhole q.2).length ++ (pWhole q.2 ++ (pTags u ++ rest))) := by
      simp only [pTags, List.map_cons, List.flatten_cons, pTag1, List.append_assoc]
    rw [List.length_cons, rTagsN, e]
    simp only [rUv_pUv q.1 (h1 q (by simp)), rUv_pUv (pWhole q.2).length (by omega), rSpan_left (pWhole q.2) (pTags u ++ rest) false _ rfl]
    rw [tmSet_new fun p hp => h3 p hp q (by simp)]
    have h2' := List.pairwise_cons.1 h2
    rw [rTagsN_read u _ rest (fun p hp => h1 p (by simp [hp])) h2'.2 fun p hp x hx => ?_]
    · simp [wholeTags]
    · rcases List.mem_append.1 hp with hp | hp
      · exact h3 p hp x (by simp [hx])
      · simp only [List.mem_singleton] at hp
        subst hp
        exact Nat.ne_of_lt (h2'.1 x hx)

theorem rTags_read {u : TM} (h : TagsFine u) (rest : List UInt8) : rTags ⟨pUv u.length ++ pTags u ++ rest, false, false⟩ = (wholeTags u, ⟨rest, false, false⟩) := by
  have := h.len
  unfold rTags
  rw [List.append_assoc, rUv_pUv _ (by omega)]
  simp only [rTagsN_read u [] rest h.key h.asc (fun p hp => by cases hp), List.nil_append]

theorem sortTM_id {m : TM} (h : m.Pairwise fun a b => a.1 < b.1) : sortTM m = m := by
  have hn : (m.map (·.1)).Nodup := List.Pairwise.map _ (fun a b (h : a.1 < b.1) => Nat.ne_of_lt h) h
  have hs : (m.map fun p => (p.1 : Int)).Pairwise (· ≤ ·) := List.Pairwise.map _ (fun a b (h : a.1 < b.1) => by omega) h
  unfold sortTM
  rw [← sorted_eq (List.Perm.refl _) hs, List.map_map]
  apply List.ext_getElem (by simp)
  intro i h1 h2
  rw [List.getElem_map]
  simp only [Function.comp_def, Int.toNat_natCast]
  rw [tmGet_eq hn (List.getElem?_eq_getElem h2)]

theorem pPut_asc {q : Nat × List UInt8} : ∀ {m : TM}, m.Pairwise (fun a b => a.1 < b.1) → (pPut q m).Pairwise (fun a b => a.1 < b.1) ∧ ∀ p ∈ pPut q m, p = q ∨ p ∈ m
  | [], _ => by simp [pPut]
  | x :: m, h => by
    have h' := List.pairwise_cons.1 h
    obtain ⟨i1, i2⟩ := pPut_asc (q := q) h'.2
    rw [pPut]
    by_cases h1 : x.1 < q.1
    · rw [if_pos h1]
      refine ⟨List.pairwise_cons.2 ⟨fun p hp => ?_, i1⟩, fun p hp => ?_⟩
      · rcases i2 p hp with rfl | hp
        · exact h1
        · exact h'.1 p hp
      · rcases List.mem_cons.1 hp with rfl | hp
        · simp
        · exact (i2 p hp).imp id fun h => by simp [h]
    · rw [if_neg h1]
      by_cases h2 : x.1 = q.1
      · rw [if_pos h2]
        exact ⟨h, fun p hp => .inr hp⟩
      · rw [if_neg h2]
        refine ⟨List.pairwise_cons.2 ⟨fun p hp => ?_, h⟩, fun p hp => ?_⟩
        · rcases List.mem_cons.1 hp with rfl | hp
          · omega
          · have := h'.1 p hp
            omega
        · rcases List.mem_cons.1 hp with rfl | hp
          · simp
          · exact .inr hp

theorem pUnknownN_asc (least : Nat) : ∀ {u out : TM}, out.Pairwise (fun a b => a.1 < b.1) → (pUnknownN least u out).Pairwise fun a b => a.1 < b.1
  | [], _, h => h
  | q :: u, out, h => by
    rw [pUnknownN]
    refine pUnknownN_asc least ?_
    split
    · exact h
    · exact (pPut_asc h).1

theorem unknown_fine (fs : List PF) {t : PT} (h : t.ok) : TagsFine (pUnknown fs t.u) :=
  ⟨pUnknown_length fs t.u, fun p hp => h.u p (pUnknown_mem hp), pUnknownN_asc _ List.Pairwise.nil⟩

theorem pCounted_pos (fl nu : Bool) (n m : Nat) (hm : 1 ≤ m) : 1 ≤ (pCounted fl nu n m).length := by
  unfold pCounted
  split
  · split
    · simp
    · exact pUvN_pos 10 _
  · split <;> rw [pFixed_length] <;> exact hm

theorem pWidth_pos (k : Int) : 1 ≤ pWidth k := by
  unfold pWidth
  repeat' split
  all_goals omega

theorem pValue_pos {pp : PT → List UInt8} {kind : Int} {null fl : Bool} {t : PT} (h : kind ≠ 10) : 1 ≤ (pValue pp kind null fl t).length := by
  unfold pValue
  split
  · simp
  split
  · rw [pId_length]; omega
  split
  · have := pCounted_pos fl null (if null then [] else pWhole t.s).length 2 (by omega)
    simp only [List.length_append]
    omega
  split
  · have := pCounted_pos fl null (if null then [] else pWhole t.s).length 4 (by omega)
    simp only [List.length_append]
    omega
  rw [pFixed_length]
  exact pWidth_pos kind

theorem pField_pos {f : PF} {v : Int} {fl : Bool} {t : PT} (h : ¬ (f.kind = 10 ∧ f.nul < 0)) : 1 ≤ (pField f v fl t).length := by
  rw [pField_eq]
  unfold pFieldOf
  simp only
  split
  · have := pCounted_pos fl (pNull f v t) (if pNull f v t then [] else pThings t.l).length 4 (by omega)
    simp only [List.length_append]
    omega
  split
  · split
    · rw [pFixed_length]; omega
    · rw [List.length_append, pFixed_length]; omega
  · rename_i h1 h2
    exact pValue_pos fun hk => by
      by_cases hn : 0 ≤ f.nul
      · exact h2 ⟨hk, hn⟩
      · exact h ⟨hk, by omega⟩

theorem pPlain_pos {v : Int} {fl : Bool} {t : PT} : ∀ {fs : List PF} {i : Nat}, (fs.any fun f => decide (f.tag < 0) && pHas f v && !(decide (f.kind = 10) && decide (f.nul < 0))) = true → 1 ≤ (pPlain fs v fl t i).length
  | [], _, h => by cases h
  | f :: r, i, h => by
    rw [pPlain_cons, List.length_append]
    rw [List.any_cons, Bool.or_eq_true] at h
    rcases h with h | h
    · simp only [Bool.and_eq_true, Bool.not_eq_true', Bool.and_eq_false_iff, decide_eq_true_eq, decide_eq_false_iff_not] at h
      have hp := pField_pos (f := f) (v := v) (fl := fl) (t := pAt t i) (fun hh => h.2.elim (fun h => h hh.1) fun h => h hh.2)
      unfold pOne
      rw [if_pos (by simp [h.1.1, h.1.2])]
      omega
    · have := pPlain_pos (v := v) (fl := fl) (t := t) (i := i + 1) h
      omega

theorem pPart_pos {sub : List PF} {v : Int} {fl : Bool} {t : PT} (h : pPos sub v fl = true) : 1 ≤ (pPart sub v fl t).length := by
  unfold pPart
  rw [List.length_append]
  unfold pPos at h
  rw [Bool.or_eq_true] at h
  rcases h with rfl | h
  · unfold pEnd
    simp only [if_true, List.length_append]
    have := pUvN_pos 10 (((List.range (pKnown sub 0)).flatMap fun (k : Nat) => (pTagged sub v true t 0).filter fun p => p.1 == (k : Int)).length + (pUnknown sub t.u).length)
    unfold pUv
    omega
  · have := pPlain_pos (fl := fl) (t := t) (i := 0) h
    omega

theorem pNull_may {f : PF} {v : Int} {t : PT} (h : pNull f v t = true) : (decide (0 ≤ f.nul) && decide (f.nul ≤ v)) = true := by
  unfold pNull at h
  simp only [Bool.and_eq_true] at h ⊢
  exact ⟨h.1.2, h.2⟩

theorem pkFor_kind {kind : Int} {may fl : Bool} {pk : PK} (h : pkFor kind may fl pk = true) : kind ≠ 10 ∧ kind ≠ 11 := by
  cases pk <;> simp only [pkFor, Bool.and_eq_true, Bool.or_eq_true, decide_eq_true_eq] at h <;> first | omega | cases h

/-- A field of one value. -/
theorem rt_one {v : Int} {fl : Bool} {f : PF} {pk : PK} (hpk : pkFor f.kind (decide (0 ≤ f.nul) && decide (f.nul ≤ v)) fl pk = true) (t : PT) (rest : List UInt8) (nl : Bool) (hok : t.ok) (hnl : nl = true → pField f v fl t ++ rest = []) :
    nl = false ∧ pk.run ⟨pField f v fl t ++ rest, false, false⟩ = (valOf (pNull f v t) t pk, ⟨rest, false, false⟩) ∧ pTold1 f v fl t (tellPrim (valOf (pNull f v t) t pk)) = true := by
  obtain ⟨k10, k11⟩ := pkFor_kind hpk
  have e : pField f v fl t = pValue (fun y => pPart f.sub v fl y) f.kind (pNull f v t) fl t := by
    rw [pField_eq]
    unfold pFieldOf
    simp only
    rw [if_neg k11, if_neg (fun h => k10 h.1)]
  have hnlf : nl = false := by
    cases nl with
    | false => rfl
    | true =>
      have h1 := hnl rfl
      have h2 := pField_pos (f := f) (v := v) (fl := fl) (t := t) fun h => k10 h.1
      have h3 : (pField f v fl t ++ rest).length = 0 := by rw [h1]; rfl
      rw [List.length_append] at h3
      omega
  obtain ⟨t1, t2⟩ := PK.tells hpk hok.n (null := pNull f v t) pNull_may (fun y z => pTold f.sub v fl y z)
  refine ⟨hnlf, ?_, ?_⟩
  · rw [e]
    exact PK.reads hpk t pNull_may _ rest
  · rw [pTold1_eq, pToldOf_eq, t1]
    simp only [bne_self_eq_false, Bool.and_false, Bool.false_eq_true, if_false]
    unfold pTail
    split
    · rfl
    · rename_i hn
      exact t2 (by simpa using hn)

theorem readP_read {fl : Bool} {e : Int} {pk : PK} (hpk : pkFor e false fl pk = true) (pp : PT → List UInt8) (rest : List UInt8) : ∀ l : List PT,
    readP pk l.length ⟨(l.map fun x => pValue pp e false fl x).flatten ++ rest, false, false⟩ = (l.map fun x => [valOf false x pk], ⟨rest, false, false⟩)
  | [] => by simp [readP]
  | x :: l => by
    have h1 := PK.reads hpk x (null := false) (fun h => h) pp ((l.map fun x => pValue pp e false fl x).flatten ++ rest)
    rw [List.length_cons, readP, List.map_cons, List.flatten_cons, List.append_assoc]
    simp only [h1, readP_read hpk pp rest l, List.map_cons]

theorem flatten_len {pp : PT → List UInt8} : ∀ {l : List PT}, (∀ x ∈ l, 1 ≤ (pp x).length) → l.length ≤ (l.map pp).flatten.length
  | [], _ => by simp
  | x :: l, h => by
    have := flatten_len (pp := pp) (l := l) fun y hy => h y (by simp [hy])
    have := h x (by simp)
    rw [List.map_cons, List.flatten_cons, List.length_append, List.length_cons]
    omega

theorem pThings_length (l : List PT) : (pThings l).length ≤ 32767 := by unfold pThings; rw [List.length_take]; omega

theorem pThings_ok {t : PT} (h : t.ok) : ∀ x ∈ pThings t.l, x.ok := fun x hx => h.l x (List.mem_of_mem_take hx)

/-- What is asked of a list that is told. -/
theorem told_list_of {f : PF} {v : Int} {fl : Bool} {t : PT} {nl : Bool} {tl : List PT} (h11 : f.kind = 11) (hnl : (decide (0 ≤ f.nul) && decide (f.nul ≤ v)) = true → nl = pNull f v t)
    (hl : pNull f v t = false → tl.length = (pThings t.l).length ∧ ∀ j (h1 : j < (pThings t.l).length) (h2 : j < tl.length), (decide (f.elem = 8 ∨ f.elem = 10) && tl[j].null) = false ∧ pToldV (fun y z => pTold f.sub v fl y z) f.elem (pThings t.l)[j] tl[j] = true) : pTold1 f v fl t (.mk 0 [] nl tl []) = true := by
  rw [pTold1_eq, pToldOf_eq]
  have e : ((decide (f.kind = 8) || decide (f.kind = 10) || (decide (0 ≤ f.nul) && decide (f.nul ≤ v))) && ((PT.mk 0 [] nl tl []).null != pNull f v t)) = false := by
    rw [h11]
    cases hm : (decide (0 ≤ f.nul) && decide (f.nul ≤ v)) with
    | false => rfl
    | true => rw [show (PT.mk 0 [] nl tl []).null = nl from rfl, hnl hm]; simp
  rw [e]
  simp only [Bool.false_eq_true, if_false]
  unfold pTail
  split
  · rfl
  · rename_i hn
    obtain ⟨h1, h2⟩ := hl (by simpa using hn)
    rw [show (PT.mk 0 [] nl tl []).l = tl from rfl, Bool.and_eq_true]
    refine ⟨by simpa using h1, (pAll2_get h1.symm).2 fun j hj1 hj2 => ?_⟩
    obtain ⟨h3, h4⟩ := h2 j hj1 hj2
    rw [h3, h4]
    rfl

theorem rt_part {v : Int} {fl : Bool} {sub : List PF} {ss : List Step} {ds : List TD} {dflt : List FV} {tg : Option Nat} (hg : ∀ f ∈ sub, f.tag < 0) (h : PlainRT v fl sub ss ds dflt 0 tg) (t : PT) (rest : List UInt8) (nl : Bool) (hok : t.ok) (hnl : nl = true → pPart sub v fl t ++ rest = []) :
    ∃ fs1, runSteps ss dflt ⟨pPart sub v fl t ++ rest, false, nl⟩ = some (fs1, ⟨rest, false, nl⟩) ∧ pTold sub v fl t (tdGp ds tg fs1) = true ∧ RepPart v fl sub t fs1 0 := by
  have e : pPart sub v fl t = pPlain sub v fl t 0 ++ pEndB fl (pUnknown sub t.u) := pPart_plain hg v fl t
  rw [e] at hnl ⊢
  obtain ⟨fs1, h1, _, h3, h4, h5, h6, h7⟩ := h t 0 (pUnknown sub t.u) dflt rest nl hok (unknown_fine sub hok) hnl fun q _ => rfl
  refine ⟨fs1, h1, ?_, h6, h7⟩
  have el : (tdGp ds tg fs1).l = TD.runs ds fs1 := rfl
  have eu : (tdGp ds tg fs1).u = tagsIn tg fs1 := rfl
  unfold pTold
  rw [Bool.and_eq_true, Bool.and_eq_true, decide_eq_true_eq, el, TD.runs_length]
  refine ⟨⟨h3, pTolds_get.2 fun j hj => ?_⟩, ?_⟩
  · have hd : j < ds.length := by omega
    have e2 : pAt (tdGp ds tg fs1) (0 + j) = ds[j].run fs1 := by
      unfold pAt
      rw [el, Nat.zero_add, List.getD_eq_getElem?_getD, List.getElem?_eq_getElem (by rw [TD.runs_length]; exact hd), TD.runs_get fs1 ds j hd]
      rfl
    rw [e2]
    exact h4 j hj hd
  · unfold pToldEnd
    simp only [eu, h5]
    cases fl with
    | false => rfl
    | true =>
      simp only [if_true, Bool.and_eq_true, decide_eq_true_eq]
      have hlen : (wholeTags (pUnknown sub t.u)).length = (pUnknown sub t.u).length := by simp [wholeTags]
      refine ⟨hlen, (pTagsTold_get hlen.symm).2 fun j h1 h2 => ?_⟩
      simp [wholeTags]

theorem readS_read {v : Int} {fl : Bool} {sub : List PF} {ss : List Step} {ds : List TD} {dflt : List FV} {tg : Option Nat} (hg : ∀ f ∈ sub, f.tag < 0) (h : PlainRT v fl sub ss ds dflt 0 tg) (rest : List UInt8) : ∀ l : List PT, (∀ x ∈ l, x.ok) →
    ∃ rows, readS (fun r => runSteps ss dflt r) l.length ⟨(l.map fun x => pPart sub v fl x).flatten ++ rest, false, false⟩ = some (rows, ⟨rest, false, false⟩) ∧ rows.length = l.length ∧ ∀ j (h1 : j < l.length) (h2 : j < rows.length), (pTold sub v fl l[j] (tdGp ds tg rows[j]) = true ∧ RepPart v fl sub l[j] rows[j] 0)
  | [], _ => ⟨[], by simp [readS], rfl, fun j hj => by simp at hj⟩
  | x :: l, hl => by
    obtain ⟨rows, h1, h2, h3⟩ := readS_read hg h rest l fun y hy => hl y (by simp [hy])
    obtain ⟨fs1, g1, g2⟩ := rt_part hg h x ((l.map fun x => pPart sub v fl x).flatten ++ rest) false (hl x (by simp)) (fun h => by cases h)
    refine ⟨fs1 :: rows, ?_, by simp [h2], fun j hj1 hj2 => ?_⟩
    · rw [List.length_cons, readS, List.map_cons, List.flatten_cons, List.append_assoc]
      simp only [g1, h1]
    · cases j with
      | zero => exact g2
      | succ j => exact h3 j (by simpa using hj1) (by simpa using hj2)

theorem list_written {f : PF} {v : Int} {fl : Bool} {t : PT} (h11 : f.kind = 11) : pField f v fl t = pCounted fl (pNull f v t) (if pNull f v t then [] else pThings t.l).length 4 ++ ((if pNull f v t then [] else pThings t.l).map fun x => pValue (fun y => pPart f.sub v fl y) f.elem false fl x).flatten := by
  rw [pField_eq]
  unfold pFieldOf
  simp only
  rw [if_pos h11]

theorem nl_false {f : PF} {v : Int} {fl nl : Bool} {t : PT} {rest : List UInt8} (h : ¬ (f.kind = 10 ∧ f.nul < 0)) (hnl : nl = true → pField f v fl t ++ rest = []) : nl = false := by
  cases nl with
  | false => rfl
  | true =>
    have h1 := hnl rfl
    have h2 := pField_pos (f := f) (v := v) (fl := fl) (t := t) h
    have h3 : (pField f v fl t ++ rest).length = 0 := by rw [h1]; rfl
    rw [List.length_append] at h3
    omega

mutual
theorem rtField_ok (v : Int) (fl : Bool) : ∀ (f : PF) (s : Step) (td : TD) (d0 : FV), f.plain = true → s.idx = td.idx → rtField v fl f s td d0 = true → FieldRT v fl f s td d0
  | .mk k fr to nul g d e sub, s, td, d0, hpl, hix, h => by
    intro t fs0 rest nl hok hnl hd0
    have hsub : PF.plains sub = true := PF.plain_sub hpl
    have hg : ∀ f ∈ sub, f.tag < 0 := fun f hf => PF.plain_tag (PF.plains_mem hsub f hf)
    match s, td, h with
    | .call pk _ i _ _, .prim i', h =>
      simp only [rtField] at h
      obtain ⟨rfl, h1, h2⟩ := rt_one (f := .mk k fr to nul g d e sub) h t rest nl hok hnl
      refine ⟨_, by simp only [runStep, h1]; rfl, fun fs hf => ?_, RepF.one (f := .mk k fr to nul g d e sub) (PK.rep h t pNull_may)⟩
      simp only [TD.idx] at hf
      simp only [TD.run, fvGet_eq hf]
      exact h2
    | .uuid _ i _, .prim i', h =>
      simp only [rtField] at h
      obtain ⟨rfl, h1, h2⟩ := rt_one (f := .mk k fr to nul g d e sub) h t rest nl hok hnl
      refine ⟨_, by simp only [runStep, h1]; rfl, fun fs hf => ?_, RepF.one (f := .mk k fr to nul g d e sub) (PK.rep h t pNull_may)⟩
      simp only [TD.idx] at hf
      simp only [TD.run, fvGet_eq hf]
      exact h2
    | .strP pk _ i _ _, .prim i', h =>
      simp only [rtField, Bool.and_eq_true] at h
      obtain ⟨rfl, h1, h2⟩ := rt_one (f := .mk k fr to nul g d e sub) h.1 t rest nl hok hnl
      have hv : ∃ l, valOf (pNull (.mk k fr to nul g d e sub) v t) t pk = .text l := by
        cases pk <;> first | exact ⟨_, rfl⟩ | (have := h.2; simp [PK.plainText] at this)
      obtain ⟨l, hl⟩ := hv
      have hrep := PK.rep h.1 t (null := pNull (.mk k fr to nul g d e sub) v t) pNull_may
      rw [hl] at h1 h2 hrep
      have hrep2 : RepF v fl (.mk k fr to nul g d e sub) t (.ntext (some l)) := ⟨hrep.1, by rw [hrep.2.1, hrep.2.2]; rfl⟩
      refine ⟨.ntext (some l), by simp only [runStep, h1]; rfl, fun fs hf => ?_, hrep2⟩
      simp only [TD.idx] at hf
      simp only [TD.run, fvGet_eq hf]
      exact h2
    | .listP lk _ i _ _ pk _ _, .lprim i', h =>
      simp only [rtField, Bool.and_eq_true, decide_eq_true_eq] at h
      obtain ⟨⟨rfl, hlk⟩, hpk⟩ := h
      have k10 := (pkFor_kind hpk).1
      have hlf := nl_false (f := .mk 11 fr to nul g d e sub) (by simp [PF.kind]) hnl
      subst hlf
      have hwr := list_written (f := .mk 11 fr to nul g d e sub) (v := v) (fl := fl) (t := t) rfl
      generalize hnu : pNull (.mk 11 fr to nul g d e sub) v t = null at hwr
      have hL : (if null then [] else pThings t.l).length ≤ 32767 := by
        split
        · simp
        · exact pThings_length _
      have hfl := flatten_len (pp := fun x => pValue (fun y => pPart sub v fl y) e false fl x) (l := if null then [] else pThings t.l) (fun x _ => pValue_pos k10)
      obtain ⟨m, r1, r2, r3⟩ := LenK.reads hlk (null := null) (fun hn => pNull_may (hnu.trans hn)) hL (fun hn => by subst hn; rfl) (rest := ((if null then [] else pThings t.l).map fun x => pValue (fun y => pPart sub v fl y) e false fl x).flatten ++ rest) (by rw [List.length_append]; omega)
      have r4 := readP_read hpk (fun y => pPart sub v fl y) rest (if null then [] else pThings t.l)
      simp only [PF.elem, PF.sub] at hwr
      refine ⟨.list (lk.nilAt m) ((if null then [] else pThings t.l).map fun x => [valOf false x pk]), ?_, fun fs hf => ?_, rfl, fun hm => (r3 hm).trans hnu.symm, by rw [hnu]; simp, fun j y r hy hr => ⟨fun h10 => absurd h10 k10, fun _ => ?_⟩⟩
      · rw [hwr, List.append_assoc]
        simp only [runStep, r1, Bool.false_eq_true, if_false, r2, r4]
        rfl
      · simp only [TD.idx] at hf
        simp only [TD.run, fvGet_eq hf, tellList]
        refine told_list_of (f := .mk 11 fr to nul g d e sub) rfl (fun hm => (r3 hm).trans hnu.symm) fun hn => ?_
        obtain rfl : null = false := hnu.symm.trans hn
        refine ⟨by simp, fun j h1 h2 => ?_⟩
        have hx := pThings_ok hok (pThings t.l)[j] (List.getElem_mem h1)
        obtain ⟨t1, t2⟩ := PK.tells hpk hx.n (null := false) (fun h => h) (fun y z => pTold sub v fl y z)
        simp only [Bool.false_eq_true, if_false, List.getElem_map]
        have e0 : fvGet [valOf false (pThings t.l)[j] pk] 0 = valOf false (pThings t.l)[j] pk := rfl
        rw [e0, t1]
        exact ⟨by simp, t2 rfl⟩
      · rw [hnu] at hy
        rw [List.getElem?_map, hy] at hr
        simp only [Option.map_some, Option.some.injEq] at hr
        exact ⟨_, hr.symm, PK.rep hpk y (fun h => h)⟩
    | .listS lk _ i _ _ _ _ _ dflt ss, .lsub i' ds tg, h =>
      simp only [rtField, Bool.and_eq_true, decide_eq_true_eq] at h
      obtain ⟨⟨⟨⟨rfl, rfl⟩, hlk⟩, hpos⟩, hrt⟩ := h
      have hS : PlainRT v fl sub ss ds dflt 0 tg := by
        have h0 := rtPlain_ok v fl sub (dropG ss) ds dflt 0 tg hsub hrt
        unfold PlainRT at h0 ⊢
        simpa only [runSteps_dropG] using h0
      have hlf := nl_false (f := .mk 11 fr to nul g d 10 sub) (by simp [PF.kind]) hnl
      subst hlf
      have hwr := list_written (f := .mk 11 fr to nul g d 10 sub) (v := v) (fl := fl) (t := t) rfl
      generalize hnu : pNull (.mk 11 fr to nul g d 10 sub) v t = null at hwr
      have hL : (if null then [] else pThings t.l).length ≤ 32767 := by
        split
        · simp
        · exact pThings_length _
      have e10 : (fun x => pValue (fun y => pPart sub v fl y) 10 false fl x) = fun x => pPart sub v fl x := rfl
      simp only [PF.elem, PF.sub, e10] at hwr
      have hfl := flatten_len (pp := fun x => pPart sub v fl x) (l := if null then [] else pThings t.l) (fun x _ => pPart_pos hpos)
      obtain ⟨m, r1, r2, r3⟩ := LenK.reads hlk (null := null) (fun hn => pNull_may (hnu.trans hn)) hL (fun hn => by subst hn; rfl) (rest := ((if null then [] else pThings t.l).map fun x => pPart sub v fl x).flatten ++ rest) (by rw [List.length_append]; omega)
      obtain ⟨rows, r4, r5, r6⟩ := readS_read hg hS rest (if null then [] else pThings t.l) (fun x hx => by
        split at hx
        · cases hx
        · exact pThings_ok hok x hx)
      refine ⟨.list (lk.nilAt m) rows, ?_, fun fs hf => ?_, rfl, fun hm => (r3 hm).trans hnu.symm, by rw [hnu]; exact r5, fun j y r hy hr => ⟨fun _ => ?_, fun h => absurd rfl h⟩⟩
      · rw [hwr, List.append_assoc]
        simp only [runStep, r1, Bool.false_eq_true, if_false, r2, r4]
        rfl
      · simp only [TD.idx] at hf
        simp only [TD.run, fvGet_eq hf, tellList]
        refine told_list_of (f := .mk 11 fr to nul g d 10 sub) rfl (fun hm => (r3 hm).trans hnu.symm) fun hn => ?_
        obtain rfl : null = false := hnu.symm.trans hn
        simp only [Bool.false_eq_true, if_false] at r5 r6
        refine ⟨by simp [r5], fun j h1 h2 => ?_⟩
        simp only [List.getElem_map]
        refine ⟨by simp [PT.null], ?_⟩
        exact (r6 j h1 (by rw [r5]; exact h1)).1
      · rw [hnu] at hy
        obtain ⟨hj1, rfl⟩ := List.getElem?_eq_some_iff.1 hy
        obtain ⟨hj2, rfl⟩ := List.getElem?_eq_some_iff.1 hr
        have := (r6 j hj1 hj2).2
        exact ⟨this.1, by simpa using this.2⟩
    | .sub i _ _ _ dss _ ss, .part i' ds tg, h =>
      simp only [rtField, Bool.and_eq_true, decide_eq_true_eq] at h
      obtain ⟨⟨rfl, hnul⟩, hq⟩ := h
      match d0, hq, hd0 with
      | .sub gs, hq, hd0 =>
        have hS := rtPlain_ok v fl sub ss ds (applyD dss gs) 0 tg hsub hq
        have hnu : pNull (.mk 10 fr to nul g d e sub) v t = false := by
          have hz : decide (0 ≤ nul) = false := decide_eq_false (by omega)
          show (t.null && decide (0 ≤ nul) && decide (nul ≤ v)) = false
          rw [hz]
          simp
        have hwr : pField (.mk 10 fr to nul g d e sub) v fl t = pPart sub v fl t := by
          rw [pField_eq]
          unfold pFieldOf
          simp only [PF.kind, PF.nul]
          rw [if_neg (by omega), if_neg (by omega)]
          rfl
        rw [hwr] at hnl ⊢
        obtain ⟨fs1, r1, r2, r3⟩ := rt_part hg hS t rest nl hok hnl
        refine ⟨.sub fs1, ?_, fun fs hf => ?_, rfl, hnul, r3.1, by simpa using r3.2⟩
        · simp only [Step.idx] at hd0
          simp only [runStep, hd0, r1]
          rfl
        · simp only [TD.idx] at hf
          simp only [TD.run, fvGet_eq hf, tellPart]
          rw [pTold1_eq, pToldOf_eq, hnu]
          have e1 : (PT.mk 0 [] false (TD.runs ds fs1) (tagsIn tg fs1)).null = false := rfl
          rw [e1]
          simp only [bne_self_eq_false, Bool.and_false, Bool.false_eq_true, if_false]
          unfold pTail
          rw [hnu]
          exact r2
theorem rtPlain_ok (v : Int) (fl : Bool) : ∀ (fs : List PF) (ss : List Step) (ds : List TD) (dflt : List FV) (p : Nat) (tg : Option Nat), PF.plains fs = true → rtPlain v fl fs ss ds dflt p tg = true → PlainRT v fl fs ss ds dflt p tg
  | [], ss, ds, dflt, p, tg, _, h => by
    intro t i u fs0 rest nl hok hu hnl hsame
    simp only [rtPlain, Bool.and_eq_true, List.isEmpty_iff] at h
    obtain ⟨rfl, h⟩ := h
    simp only [pPlain, List.nil_append] at hnl ⊢
    cases fl with
    | true =>
      unfold rtEnd at h
      simp only at h
      split at h
      · rename_i f k ty off k'
        simp only [Bool.and_eq_true] at h
        have hk : k = k' := Nat.eq_of_beq_eq_true h.1.1
        have hpk : p = k := Nat.eq_of_beq_eq_true h.1.2
        have hp : p ≤ k := Nat.le_of_eq hpk
        have hlt : k < dflt.length := by
          have := h.2
          unfold Nat.blt at this
          exact Nat.le_of_ble_eq_true this
        subst hk
        have e : pEndB true u = pUv u.length ++ pTags u := rfl
        have hlf : nl = false := by
          cases nl with
          | false => rfl
          | true =>
            have h1 := hnl rfl
            have h2 := pUvN_pos 10 u.length
            have h3 : (pEndB true u ++ rest).length = 0 := by rw [h1]; rfl
            rw [e] at h3
            simp only [List.length_append, pUv] at h3
            omega
        subst hlf
        have hk0 : k < fs0.length := by
          have h1 := hsame k hp
          rw [List.getElem?_eq_getElem hlt] at h1
          exact (List.getElem?_eq_some_iff.1 h1).1
        refine ⟨fs0.set k (.tags (wholeTags u)), ?_, fun q hq => by rw [List.getElem?_set_ne (by omega)], rfl, fun j hj => by simp at hj, ?_, trivial, fun _ => ?_⟩
        · rw [e]
          simp only [runSteps, runStep, PK.run, rTags_read hu rest]
        · have hf : (fs0.set k (.tags (wholeTags u)))[k]? = some (.tags (wholeTags u)) := by rw [List.getElem?_set_self hk0]
          simp only [tagsIn, fvGet_eq hf, tellTags, if_true]
          refine sortTM_id ?_
          unfold wholeTags
          exact List.Pairwise.map _ (fun a b h => h) hu.asc
        · rw [List.length_nil, Nat.add_zero, hpk, List.getElem?_set_self hk0]
      · cases h
    | false =>
      unfold rtEnd at h
      simp only [Bool.and_eq_true, List.isEmpty_iff] at h
      obtain ⟨rfl, h⟩ := h
      have e : pEndB false u = [] := rfl
      refine ⟨fs0, by rw [e]; simp only [runSteps, List.nil_append], fun q _ => rfl, rfl, fun j hj => by simp at hj, ?_, trivial, fun h => by cases h⟩
      simp only [Bool.false_eq_true, if_false]
      unfold tagsIn
      split
      · rename_i k
        simp only [Bool.and_eq_true] at h
        have h1 := hsame k (Nat.le_of_ble_eq_true h.1)
        have h2 := h.2
        split at h2
        · rename_i hd
          rw [hd] at h1
          rw [fvGet_eq h1]
          exact sortTM_nil
        · cases h2
      · rfl
  | f :: r, ss, ds, dflt, p, tg, hpl, h => by
    intro t i u fs0 rest nl hok hu hnl hsame
    simp only [PF.plains, Bool.and_eq_true] at hpl
    have hg := PF.plain_tag hpl.1
    simp only [rtPlain] at h
    match ds, h with
    | d :: ds', h =>
    rw [Bool.and_eq_true] at h
    have hdi : d.idx = p := Nat.eq_of_beq_eq_true h.1
    have h := h.2
    cases hd0 : dflt[p]? with
    | none => rw [hd0] at h; cases h
    | some d0 =>
    rw [hd0] at h
    simp only [decide_eq_true hg, Bool.true_and] at h
    rw [pPlain_cons] at hnl ⊢
    cases hh : pHas f v with
    | true =>
      rw [hh] at h
      simp only [cond_true] at h
      match ss, h with
      | s :: ss', h =>
      simp only [Bool.and_eq_true] at h
      have hsi : s.idx = p := Nat.eq_of_beq_eq_true h.1.1
      have e1 : pOne f v fl (pAt t i) = pField f v fl (pAt t i) := by unfold pOne; rw [hh, decide_eq_true hg]; rfl
      rw [e1] at hnl ⊢
      have hF := rtField_ok v fl f s d d0 hpl.1 (hsi.trans hdi.symm) h.1.2
      have hR := rtPlain_ok v fl r ss' ds' dflt (p + 1) tg hpl.2 h.2
      obtain ⟨x, r1, r2, rr⟩ := hF (pAt t i) fs0 ((pPlain r v fl t (i + 1) ++ pEndB fl u) ++ rest) nl (hok.at i) (fun hn => by have := hnl hn; simpa [List.append_assoc] using this) (by rw [hsi, hsame p (Nat.le_refl _), hd0])
      have hx0 : fs0[p]? = some d0 := by rw [hsame p (Nat.le_refl _), hd0]
      have hlt : p < fs0.length := (List.getElem?_eq_some_iff.1 hx0).1
      obtain ⟨fs1, q1, q2, q3, q4, q5, q6, q7⟩ := hR t (i + 1) u (fs0.set s.idx x) rest nl hok hu (fun hn => by
        have h1 := hnl hn
        simp only [List.append_assoc, List.append_eq_nil_iff] at h1 ⊢
        exact h1.2) (fun q hq => by rw [hsi, List.getElem?_set_ne (by omega)]; exact hsame q (by omega))
      have hat : fs1[p]? = some x := by rw [q2 p (by omega), hsi, List.getElem?_set_self hlt]
      refine ⟨fs1, ?_, fun q hq => ?_, by simp [q3], fun j hj hd => ?_, q5, ⟨fun _ => ⟨x, hat, rr⟩, q6⟩, fun h => by
        have := q7 h
        rwa [List.length_cons, show p + (r.length + 1) = p + 1 + r.length by omega]⟩
      · have e2 : pField f v fl (pAt t i) ++ pPlain r v fl t (i + 1) ++ pEndB fl u ++ rest = pField f v fl (pAt t i) ++ ((pPlain r v fl t (i + 1) ++ pEndB fl u) ++ rest) := by simp only [List.append_assoc]
        rw [e2, runSteps, r1]
        exact q1
      · rw [q2 q (by omega), hsi, List.getElem?_set_ne (by omega)]
      · cases j with
        | zero =>
          simp only [List.getElem_cons_zero, Nat.add_zero]
          unfold pToldAt
          rw [if_pos (.inl ⟨hg, hh⟩)]
          refine r2 fs1 ?_
          rw [hdi, hat]
        | succ j =>
          have := q4 j (by simpa using hj) (by simpa using hd)
          rw [show i + (j + 1) = i + 1 + j by omega]
          exact this
    | false =>
      rw [hh] at h
      simp only [cond_false, Bool.and_eq_true] at h
      have e1 : pOne f v fl (pAt t i) = [] := by unfold pOne; rw [hh]; simp
      rw [e1, List.nil_append] at hnl ⊢
      have hR := rtPlain_ok v fl r ss ds' dflt (p + 1) tg hpl.2 h.2
      obtain ⟨fs1, q1, q2, q3, q4, q5, q6, q7⟩ := hR t (i + 1) u fs0 rest nl hok hu hnl (fun q hq => hsame q (by omega))
      refine ⟨fs1, q1, fun q hq => q2 q (by omega), by simp [q3], fun j hj hd => ?_, q5, ⟨fun h => (by rw [hh] at h; cases h), q6⟩, fun h => by
        have := q7 h
        rwa [List.length_cons, show p + (r.length + 1) = p + 1 + r.length by omega]⟩
      cases j with
      | zero =>
        simp only [List.getElem_cons_zero, Nat.add_zero]
        unfold pToldAt
        rw [if_neg (by rintro (⟨_, h2⟩ | ⟨h2, _⟩); · rw [hh] at h2; cases h2
                       · omega)]
        rw [TD.run_congr (fs' := dflt) (by rw [hdi, q2 p (by omega), hsame p (Nat.le_refl _)])]
        exact h.1
      | succ j =>
        have := q4 j (by simpa using hj) (by simpa using hd)
        rw [show i + (j + 1) = i + 1 + j by omega]
        exact this
end

/-- A message that was written is read, and told as it was. -/
theorem rt_whole {v x : Int} {fs : List PF} {ss : List Step} {ds : List TD} {dflt : List FV} {tg : Option Nat} {p : Nat} (hpl : PF.plains fs = true) (h : rtPlain v (pFlex x v) fs ss ds dflt p tg = true) (t : PT) (hok : t.ok) :
    ∃ fs1, runSteps ss dflt ⟨pWrite fs x v t, false, (pWrite fs x v t).isEmpty⟩ = some (fs1, ⟨[], false, (pWrite fs x v t).isEmpty⟩) ∧ pTold fs v (pFlex x v) t (tdGp ds tg fs1) = true ∧ RepPart v (pFlex x v) fs t fs1 p ∧ ∀ q, q < p → fs1[q]? = dflt[q]? := by
  have hg : ∀ f ∈ fs, f.tag < 0 := fun f hf => PF.plain_tag (PF.plains_mem hpl f hf)
  have hS := rtPlain_ok v (pFlex x v) fs ss ds dflt p tg hpl h
  have e : pWrite fs x v t = pPlain fs v (pFlex x v) t 0 ++ pEndB (pFlex x v) (pUnknown fs t.u) := pPart_plain hg v _ t
  obtain ⟨fs1, h1, h2, h3, h4, h5, h6, h7⟩ := hS t 0 (pUnknown fs t.u) dflt [] (pWrite fs x v t).isEmpty hok (unknown_fine fs hok) (fun hn => by rw [List.append_nil, ← e]; simpa using hn) fun q _ => rfl
  rw [List.append_nil, ← e] at h1
  refine ⟨fs1, h1, ?_, ⟨h6, h7⟩, h2⟩
  have el : (tdGp ds tg fs1).l = TD.runs ds fs1 := rfl
  have eu : (tdGp ds tg fs1).u = tagsIn tg fs1 := rfl
  unfold pTold
  rw [Bool.and_eq_true, Bool.and_eq_true, decide_eq_true_eq, el, TD.runs_length]
  refine ⟨⟨h3, pTolds_get.2 fun j hj => ?_⟩, ?_⟩
  · have hd : j < ds.length := by omega
    have e2 : pAt (tdGp ds tg fs1) (0 + j) = ds[j].run fs1 := by
      unfold pAt
      rw [el, Nat.zero_add, List.getD_eq_getElem?_getD, List.getElem?_eq_getElem (by rw [TD.runs_length]; exact hd), TD.runs_get fs1 ds j hd]
      rfl
    rw [e2]
    exact h4 j hj hd
  · unfold pToldEnd
    simp only [eu, h5]
    cases pFlex x v with
    | false => rfl
    | true =>
      simp only [if_true, Bool.and_eq_true, decide_eq_true_eq]
      have hlen : (wholeTags (pUnknown fs t.u)).length = (pUnknown fs t.u).length := by simp [wholeTags]
      refine ⟨hlen, (pTagsTold_get hlen.symm).2 fun j h1 h2 => ?_⟩
      simp [wholeTags]

end Go.Kf

namespace Go.Kf

open Go

def tFits1 (c : Nums) (s : SN) : Tr :=
  .op (.box c.sTree (.tmp 0)) none [] <|
  .op (.fieldAddr c.sTree (.tmp 1) 1) none [] <|
  .op (.load c.tBytes (.tmp 2)) none [] <|
  .op (.call { callee := (.builtin .len), args := ⟨[(.tmp 3)]⟩, argTypes := ⟨[c.tBytes]⟩ }) none [] <|
  .op (.binOp .gtr c.tInt (.tmp 4) (.const (.int .i64 2147483647)) c.tInt) none [] <|
  .cond (.tmp 5) (
    .ret [((.const (.bool false)), none)]
  ) (
    .op (.fieldAddr c.sTree (.tmp 1) 3) none [] <|
    .op (.load c.sTrees (.tmp 6)) none [] <|
    .op (.call { callee := (.builtin .len), args := ⟨[(.tmp 7)]⟩, argTypes := ⟨[c.sTrees]⟩ }) none [] <|
    .op (.binOp .gtr c.tInt (.tmp 8) (.const (.int .i64 2147483647)) c.tInt) none [] <|
    .cond (.tmp 9) (
      .ret [((.const (.bool false)), none)]
    ) (
      .op (.fieldAddr c.sTree (.tmp 1) 4) none [] <|
      .op (.load c.sTagL (.tmp 10)) none [] <|
      .op (callOp s.fits2 [(.tmp 11)]) none [] <|
      .op (.unOp .not c.tBool (.tmp 12)) none [] <|
      .cond (.tmp 13) (
        .ret [((.const (.bool false)), none)]
      ) (
        .ret [((.const (.bool true)), none)]
      )
    )
  )

def tFits2 (c : Nums) (s : SN) : Tr :=
  .op (.call { callee := (.builtin .len), args := ⟨[(.tmp 0)]⟩, argTypes := ⟨[c.sTagL]⟩ }) none [] <|
  .op (.binOp .gtr c.tInt (.tmp 1) (.const (.int .i64 2147483647)) c.tInt) none [] <|
  .cond (.tmp 2) (
    .ret [((.const (.bool false)), none)]
  ) (
    .op (.call { callee := (.builtin .len), args := ⟨[(.tmp 0)]⟩, argTypes := ⟨[c.sTagL]⟩ }) none [] <|
    .loop 0 [(.const (.bool false)), (.const (.int .i64 0))] <|
    .op (.binOp .lss c.tInt (.tmp 5) (.tmp 3) c.tInt) none [] <|
    .cond (.tmp 6) (
      .op (.indexAddr c.sTagL (.tmp 0) (.tmp 5)) none [] <|
      .op (.load c.sTag (.tmp 7)) none [] <|
      .op (.alloc c.sTag) none [] <|
      .op (.store c.sTag (.tmp 9) (.tmp 8)) none [] <|
      .op (.load c.sTag (.tmp 9)) none [] <|
      .op (callOp s.fits3 [(.tmp 11)]) none [] <|
      .op (.unOp .not c.tBool (.tmp 12)) none [] <|
      .cond (.tmp 13) (
        .ret [((.const (.bool false)), none)]
      ) (
        .op (.binOp .add c.tInt (.tmp 5) (.const (.int .i64 1)) c.tInt) none [] <|
        .to 0 [(.tmp 4), (.tmp 14)]
      )
    ) (
      .ret [((.const (.bool true)), none)]
    )
  )

def tFits3 (c : Nums) : Tr :=
  .op (.box c.sTag (.tmp 0)) none [] <|
  .op (.fieldAddr c.sTag (.tmp 1) 1) none [] <|
  .op (.load c.tBytes (.tmp 2)) none [] <|
  .op (.call { callee := (.builtin .len), args := ⟨[(.tmp 3)]⟩, argTypes := ⟨[c.tBytes]⟩ }) none [] <|
  .op (.binOp .gtr c.tInt (.tmp 4) (.const (.int .i64 2147483647)) c.tInt) none [] <|
  .cond (.tmp 5) (
    .ret [((.const (.bool false)), none)]
  ) (
    .ret [((.const (.bool true)), none)]
  )

/-- The reference's functions' trees. -/
structure SpTrees (P : Program) (c : Nums) (s : SN) : Prop where
  has : treeIn P s.has noOrc [.tmp 0, .tmp 1] 2 = tHas c s
  null : treeIn P s.null noOrc [.tmp 0, .tmp 1, .tmp 2] 3 = tNull c s
  whole : treeIn P s.whole noOrc [.tmp 0] 1 = tWhole c
  things : treeIn P s.things noOrc [.tmp 0] 1 = tThings c
  at_ : treeIn P s.at_ noOrc [.tmp 0, .tmp 1] 2 = tAt c
  uv : treeIn P s.uv noOrc [.tmp 0] 1 = tUv c
  fixed : treeIn P s.fixed noOrc [.tmp 0, .tmp 1] 2 = tFixed c
  width : treeIn P s.width noOrc [.tmp 0] 1 = tWidth c
  counted : treeIn P s.counted noOrc [.tmp 0, .tmp 1, .tmp 2, .tmp 3] 4 = tCounted c s
  value : treeIn P s.value noOrc [.tmp 0, .tmp 1, .tmp 2, .tmp 3, .tmp 4, .tmp 5] 6 = tValue c s
  fld : treeIn P s.fld noOrc [.tmp 0, .tmp 1, .tmp 2, .tmp 3] 4 = tField c s
  part : treeIn P s.part noOrc [.tmp 0, .tmp 1, .tmp 2, .tmp 3] 4 = tPart c s
  known : treeIn P s.known noOrc [.tmp 0] 1 = tKnown c s
  unknown : treeIn P s.unknown noOrc [.tmp 0, .tmp 1] 2 = tUnknown c s
  write : treeIn P s.write noOrc [.tmp 0, .tmp 1, .tmp 2] 3 = tWrite c s

/-- Those of its telling, too. -/
structure TlTrees (P : Program) (c : Nums) (s : SN) : Prop where
  nums : NumTys P c
  flex : treeIn P s.flex noOrc [.tmp 0, .tmp 1] 2 = tFlex c s
  number : treeIn P s.number noOrc [.tmp 0, .tmp 1] 2 = tNumber c
  same : treeIn P s.same noOrc [.tmp 0, .tmp 1] 2 = tSame c
  usualG : treeIn P s.usualG noOrc [.tmp 0, .tmp 1] 2 = tUsualG c s
  told1 : treeIn P s.told1 noOrc [.tmp 0, .tmp 1, .tmp 2, .tmp 3, .tmp 4] 5 = tTold1 c s
  told : treeIn P s.told noOrc [.tmp 0, .tmp 1, .tmp 2, .tmp 3, .tmp 4] 5 = tTold c s

/-- Those of the bounds. -/
structure FitTrees (P : Program) (c : Nums) (s : SN) : Prop where
  fits1 : treeIn P s.fits1 noOrc [.tmp 0] 1 = tFits1 c s
  fits2 : treeIn P s.fits2 noOrc [.tmp 0] 1 = tFits2 c s
  fits3 : treeIn P s.fits3 noOrc [.tmp 0] 1 = tFits3 c

section

variable {P : Program} {c : Nums} {s : SN}

theorem smalls_of (S : SpFacts P c s) (T : SpTrees P c s) : Smalls P s where
  has := fun _ _ _ v h => has_gives S T.has h v
  null := fun _ _ _ _ _ v h ht => null_gives S T.null h ht v
  whole := fun _ _ _ h => whole_gives S T.whole h
  things := fun _ _ _ _ h ht => things_gives S T.things h ht
  at_ := fun _ _ _ i ht => at_gives S T.at_ ht i
  width := fun _ x => width_gives S T.width x
  fixed := fun _ x m hm => fixed_gives S T.fixed x m hm
  uv := fun _ x hx => uv_gives S T.uv x hx
  counted := fun _ fl nu x m hx hm => counted_gives S (fun _ x m hm => fixed_gives S T.fixed x m hm) (fun _ x hx => uv_gives S T.uv x hx) T.counted fl nu x m hx hm

theorem tells_of (S : SpFacts P c s) (L : TlTrees P c s) : Tells P s where
  same := fun _ _ _ _ _ hb h1 h2 => same_ro S.rd L.same hb h1 h2
  number := fun _ kind x => number_gives S L.nums L.number kind x

theorem unknown_all (S : SpFacts P c s) (T : SpTrees P c s) {fs : List PF} (h : PF.plains fs = true) (hl : fs.length < 65536) : UnknownOf P s fs := by
  have ht : ∀ f ∈ fs, f.tag < 0 := fun f hf => PF.plain_tag (PF.plains_mem h f hf)
  refine unknown_gives S (fun w fv hfv => ?_) T.unknown
  rw [pKnown_plain 0 ht]
  exact known_plain S T.known ht hfv (by omega)

mutual
theorem field_all (S : SpFacts P c s) (T : SpTrees P c s) : ∀ f : PF, f.plain = true → FieldOf P s f
  | .mk k fr to n g d e sub, h => by
    have hs := PF.plain_sub h
    have hl := PF.plain_len h
    have hp : PartOf P s sub := part_step S (smalls_of S T) T.known T.part (fun f hf => PF.plain_tag (PF.plains_mem hs f hf)) (by simp only [PF.sub] at hl; omega) (fields_all S T sub hs) (unknown_all S T hs hl)
    exact field_step S (smalls_of S T) T.fld (f := .mk k fr to n g d e sub) (fun w fv t ts kind nu fl v hf ht hok hl => value_gives S (smalls_of S T) T.value hp kind nu fl v hf ht hok hl) hp
theorem fields_all (S : SpFacts P c s) (T : SpTrees P c s) : ∀ fs : List PF, PF.plains fs = true → ∀ f ∈ fs, FieldOf P s f
  | [], _, f, hf => by cases hf
  | x :: l, h, f, hf => by
    simp only [PF.plains, Bool.and_eq_true] at h
    rcases List.mem_cons.1 hf with e | hf
    · rw [e]; exact field_all S T x h.1
    · exact fields_all S T l h.2 f hf
end

theorem part_all (S : SpFacts P c s) (T : SpTrees P c s) {fs : List PF} (h : PF.plains fs = true) (hl : fs.length < 65536) : PartOf P s fs :=
  part_step S (smalls_of S T) T.known T.part (fun f hf => PF.plain_tag (PF.plains_mem h f hf)) (by omega) (fields_all S T fs h) (unknown_all S T h hl)

mutual
theorem usual_all (S : SpFacts P c s) (T : SpTrees P c s) (L : TlTrees P c s) : ∀ f : PF, f.plain = true → UsualOf P s f.sub
  | .mk _ _ _ _ _ _ _ sub, h => usual_step S (smalls_of S T) (tells_of S L).same (tells_of S L).number L.usualG (PF.plain_len h) (usuals_all S T L sub (PF.plain_sub h))
theorem usuals_all (S : SpFacts P c s) (T : SpTrees P c s) (L : TlTrees P c s) : ∀ fs : List PF, PF.plains fs = true → ∀ f ∈ fs, UsualOf P s f.sub
  | [], _, f, hf => by cases hf
  | x :: l, h, f, hf => by
    simp only [PF.plains, Bool.and_eq_true] at h
    rcases List.mem_cons.1 hf with e | hf
    · rw [e]; exact usual_all S T L x h.1
    · exact usuals_all S T L l h.2 f hf
end

theorem usual_one (S : SpFacts P c s) (T : SpTrees P c s) (L : TlTrees P c s) {f : PF} (h : f.plain = true) : UsualOf P s [f] :=
  usual_step S (smalls_of S T) (tells_of S L).same (tells_of S L).number L.usualG (by simp) fun g hg => by
    simp only [List.mem_singleton] at hg
    subst hg
    exact usual_all S T L _ h

mutual
theorem told1_all (S : SpFacts P c s) (T : SpTrees P c s) (L : TlTrees P c s) : ∀ f : PF, f.plain = true → Told1Of P s f
  | .mk k fr to n g d e sub, h => by
    have hs := PF.plain_sub h
    have hl := PF.plain_len h
    have ht : ToldOf P s sub := told_step S (smalls_of S T) (tells_of S L) L.told (fun f hf => PF.plain_tag (PF.plains_mem hs f hf)) hl (tolds_all S T L sub hs) (fun f hf => usual_one S T L (PF.plains_mem hs f hf)) (unknown_all S T hs hl)
    refine told1_gives S (smalls_of S T) (tells_of S L) L.told1 (f := .mk k fr to n g d e sub) ht fun h11 => ⟨PF.plain_elem h h11, ?_⟩
    exact told1_gives S (smalls_of S T) (tells_of S L) L.told1 (f := PF.one (.mk k fr to n g d e sub)) ht fun h => absurd h (PF.plain_elem ‹_› h11)
theorem tolds_all (S : SpFacts P c s) (T : SpTrees P c s) (L : TlTrees P c s) : ∀ fs : List PF, PF.plains fs = true → ∀ f ∈ fs, Told1Of P s f
  | [], _, f, hf => by cases hf
  | x :: l, h, f, hf => by
    simp only [PF.plains, Bool.and_eq_true] at h
    rcases List.mem_cons.1 hf with e | hf
    · rw [e]; exact told1_all S T L x h.1
    · exact tolds_all S T L l h.2 f hf
end

theorem told_all (S : SpFacts P c s) (T : SpTrees P c s) (L : TlTrees P c s) {fs : List PF} (h : PF.plains fs = true) (hl : fs.length < 65536) : ToldOf P s fs :=
  told_step S (smalls_of S T) (tells_of S L) L.told (fun f hf => PF.plain_tag (PF.plains_mem h f hf)) hl (tolds_all S T L fs h) (fun f hf => usual_one S T L (PF.plains_mem h f hf)) (unknown_all S T h hl)

theorem write_gives (S : SpFacts P c s) (T : SpTrees P c s) {fs : List PF} (h : PF.plains fs = true) (hlen : fs.length < 65536) {w : World} {fv : Value} {t : PT} {ts : List Value} (x v : Int) (hfv : FieldsV w fs fv) (ht : TreeC w t ts) (hok : t.ok) (hl : (pWrite fs x v t).length ≤ maxW) :
    YieldsO P s.write [.agg ⟨[fv, .int .i64 x]⟩, .int .i64 v, .agg ⟨ts⟩] w (pWrite fs x v t) := by
  have htl := ht.len
  refine gives_in (ρ := en [_, _, _]) S.rd.mix T.write (Nat.le_refl _) rfl (by simp [opBelow]) ?_
  refine s_box rfl fun w1 hx1 k1 z1 => ?_
  refine s_box rfl fun w2 hy2 k2 z2 => ?_
  have hx2 := hx1.keep k2 (by simp)
  have k02 := k1.trans k2
  have hp := part_all S T h hlen
  refine s_fl S.m0 S.oneFields rfl rfl hx2 rfl (s_fl S.m1 S.oneInt rfl rfl hx2 rfl ?_)
  refine s_val (v_cmp (kk := .i64) (a := x) (b := 0) (r := decide (x ≥ 0)) rfl rfl rfl) ?_
  unfold pWrite at hl ⊢
  refine s_cond (b := decide (x ≥ 0)) rfl (fun hb => ?_) fun hb => ?_
  · refine s_fl S.m1 S.oneInt rfl rfl hx2 rfl ?_
    refine s_val (v_cmp (kk := .i64) (a := v) (b := x) (r := decide (v ≥ x)) rfl rfl rfl) ?_
    have hfx : pFlex x v = decide (v ≥ x) := by
      unfold pFlex
      rw [show decide (0 ≤ x) = true from hb]
      rfl
    rw [hfx] at hl ⊢
    refine s_lok (l_loadN (b := w1.heap.size) (o := 0) S.ty.agg rfl hy2 (by omega)) ?_
    rw [take0 htl]
    exact s_callO (hp w2 fv v _ t ts (hfv.keep k02) (TreeC.keep k02 _ _ ht) hok hl) rfl fun u w3 hM => ⟨fun p hp => (by cases hp), s_ret1 (hM.under k02)⟩
  · have hfx : pFlex x v = false := by
      unfold pFlex
      rw [show decide (0 ≤ x) = false from hb]
      rfl
    rw [hfx] at hl ⊢
    refine s_lok (l_loadN (b := w1.heap.size) (o := 0) S.ty.agg rfl hy2 (by omega)) ?_
    rw [take0 htl]
    exact s_callO (hp w2 fv v _ t ts (hfv.keep k02) (TreeC.keep k02 _ _ ht) hok hl) rfl fun u w3 hM => ⟨fun p hp => (by cases hp), s_ret1 (hM.under k02)⟩

/-- Whether it fits or not. -/
def Answers (P : Program) (f : Nat) (args : List Value) (w : World) : Prop := Gives P f args w fun u w' => (∃ b, u = .bool b) ∧ Keeps [] w w'

theorem fits3_gives (S : SpFacts P c s) (T : FitTrees P c s) {w : World} {kv vv : Value} {l : List UInt8} (h : Ro w vv 1 l.length (bcells l)) : Answers P s.fits3 [.agg ⟨[kv, vv]⟩] w := by
  refine gives_in (ρ := en [_]) S.rd.mix T.fits3 (Nat.le_refl _) rfl (by simp [opBelow]) ?_
  refine s_box rfl fun w1 hx1 k1 z1 => ?_
  obtain ⟨a, cp, e⟩ := h.form
  refine s_fl S.ty.g1 S.rd.oneBytes rfl rfl hx1 rfl (s_val (v_len (a := a) (l := l.length) (c := cp) S.rd.bytes e) ?_)
  refine s_val (v_cmp (kk := .i64) (a := l.length) (b := 2147483647) (r := decide ((l.length : Int) > 2147483647)) rfl rfl rfl) ?_
  exact s_cond (b := decide ((l.length : Int) > 2147483647)) rfl (fun _ => s_ret1 ⟨⟨_, rfl⟩, k1⟩) fun _ => s_ret1 ⟨⟨_, rfl⟩, k1⟩

theorem fits2_gives (S : SpFacts P c s) (T : FitTrees P c s) {w : World} {uv : Value} {u : TM} {ucs : List Value} (h : Ro w uv 2 u.length ucs) (ht : TagsC w u ucs) (hl : u.length < 2 ^ 62) : Answers P s.fits2 [uv] w := by
  refine gives_in (ρ := en [_]) S.rd.mix T.fits2 (Nat.le_refl _) rfl (by simp [opBelow]) ?_
  obtain ⟨a, cp, e⟩ := h.form
  refine s_val (v_len (a := a) (l := u.length) (c := cp) S.ty.slTag e) ?_
  refine s_val (v_cmp (kk := .i64) (a := u.length) (b := 2147483647) (r := decide ((u.length : Int) > 2147483647)) rfl rfl rfl) ?_
  refine s_cond (b := decide ((u.length : Int) > 2147483647)) rfl (fun _ => s_ret1 ⟨⟨_, rfl⟩, .refl⟩) fun _ => ?_
  refine s_val (v_len (a := a) (l := u.length) (c := cp) S.ty.slTag e) ?_
  refine s_countV (n := 4) (q := 3) (kk := .i64) (m := u.length) (ri := [.const (.bool false)]) (Γ := []) (fun j vr w' => vr = [.bool false] ∧ Keeps [] w w') (by omega) rfl ⟨rfl, .refl⟩ ?_ ?_
  · rintro j hj w1 vr ⟨rfl, k1⟩ hvr J hJ
    have hj' : j < u.length := by omega
    refine s_eachT (w0 := w) (tv := uv) (m := u) (j := j) S (h.keep k1) ht rfl rfl hj' fun w2 a2 b vv hh hvv k2 hb => ?_
    refine s_lok (l_loadN (b := b) (o := 0) S.ty.aggTag rfl hh (show 0 + 2 ≤ 2 by omega)) ?_
    refine s_callx (fits3_gives S T (kv := .int .u32 u[j].1) (hvv.keep (k1.trans k2))) rfl fun x w3 ⟨⟨q, hq⟩, k3⟩ => ?_
    subst hq
    refine s_val (v_not (b := q) rfl) ?_
    refine s_cond (b := !q) rfl (fun _ => s_ret1 ⟨⟨_, rfl⟩, (k1.trans k2).trans k3⟩) fun _ => ?_
    refine s_val (v_arith (kk := .i64) (a := j) (b := 1) (r := ((j + 1 : Nat) : Int)) rfl rfl ?_) ?_
    · simp only [arithOf, Option.some.injEq]; rw [IntKind.wrap_i64]; omega
    exact ⟨J, rfl, hJ [_] _ rfl ⟨rfl, (k1.trans k2).trans k3⟩⟩
  · rintro w1 vr J ⟨rfl, k1⟩ hvr
    exact s_ret1 ⟨⟨_, rfl⟩, k1⟩

theorem fits1_gives (S : SpFacts P c s) (T : FitTrees P c s) {w : World} {t : PT} {ts : List Value} (ht : TreeC w t ts) : Answers P s.fits1 [.agg ⟨ts⟩] w := by
  have hl := ht.lens
  obtain ⟨sv, lv, uv, lcs, ucs, rfl, t1, t2, t3, t4, t5⟩ := ht.cells
  refine gives_in (ρ := en [_]) S.rd.mix T.fits1 (Nat.le_refl _) rfl (by simp [opBelow]) ?_
  refine s_box rfl fun w1 hx1 k1 z1 => ?_
  obtain ⟨a, cp, e⟩ := t1.form
  refine s_fl S.ty.f1 S.rd.oneBytes rfl rfl hx1 rfl (s_val (v_len (a := a) (l := t.s.length) (c := cp) S.rd.bytes e) ?_)
  refine s_val (v_cmp (kk := .i64) (a := t.s.length) (b := 2147483647) (r := decide ((t.s.length : Int) > 2147483647)) rfl rfl rfl) ?_
  refine s_cond (b := decide ((t.s.length : Int) > 2147483647)) rfl (fun _ => s_ret1 ⟨⟨_, rfl⟩, k1⟩) fun _ => ?_
  obtain ⟨a2, cp2, e2⟩ := t2.form
  refine s_fl S.ty.f3 S.ty.oneTrees rfl rfl hx1 rfl (s_val (v_len (a := a2) (l := t.l.length) (c := cp2) S.ty.sl e2) ?_)
  refine s_val (v_cmp (kk := .i64) (a := t.l.length) (b := 2147483647) (r := decide ((t.l.length : Int) > 2147483647)) rfl rfl rfl) ?_
  refine s_cond (b := decide ((t.l.length : Int) > 2147483647)) rfl (fun _ => s_ret1 ⟨⟨_, rfl⟩, k1⟩) fun _ => ?_
  refine s_fl S.ty.f4 S.ty.oneTagL rfl rfl hx1 rfl ?_
  refine s_callx (fits2_gives S T (t4.keep k1) (TagsC.keep k1 _ _ t5) (by omega)) rfl fun x w3 ⟨⟨q, hq⟩, k3⟩ => ?_
  subst hq
  refine s_val (v_not (b := q) rfl) ?_
  exact s_cond (b := !q) rfl (fun _ => s_ret1 ⟨⟨_, rfl⟩, k1.trans k3⟩) fun _ => s_ret1 ⟨⟨_, rfl⟩, k1.trans k3⟩

end

end Go.Kf


namespace Go.Kf

open Go

variable {P : Program} {c : Nums} {s : SN}

def chkSp (P : Program) (c : Nums) (s : SN) : Bool :=
  decide (aggTy P s.field = some 8) && decide (fieldOff P s.field 0 = some 0) && decide (fieldOff P s.field 1 = some 1) && decide (fieldOff P s.field 2 = some 2) && decide (fieldOff P s.field 3 = some 3) && decide (fieldOff P s.field 4 = some 4) &&
  decide (fieldOff P s.field 5 = some 5) && decide (fieldOff P s.field 6 = some 6) && decide (fieldOff P s.field 7 = some 7) && oneTy P s.fields && decide (aggTy P s.msg = some 2) && decide (fieldOff P s.msg 0 = some 0) && decide (fieldOff P s.msg 1 = some 1) && oneTy P c.tInt

theorem SpFacts.of (h1 : RdFacts P c) (h2 : TyFacts P c c.sTree c.sTrees c.sTagL c.sTag) (h3 : GotFacts P c) (h4 : RowFacts P s.field 8) (h5 : chkSp P c s = true) (h6 : P.underlying s.fields = some (.slice s.field))
    (h7 : P.underlying c.tU64 = some (.int .u64)) (h8 : zeroTy P c.tU8 = some (.int .u8 0, 1)) (h9 : chkInfo P c.tU8 1 8 = true) (h10 : chkZero P s.field 8 = true) (h11 : chkZero P c.sTag 2 = true) (h12 : buildPlan P c.sTag = some ([.int .u32 0, .slice none 0 0], [(0, 1), (1, 1)])) : SpFacts P c s := by
  unfold chkSp at h5
  simp only [Bool.and_eq_true, decide_eq_true_eq] at h5
  obtain ⟨⟨⟨⟨⟨⟨⟨⟨⟨⟨⟨⟨⟨a1, a2⟩, a3⟩, a4⟩, a5⟩, a6⟩, a7⟩, a8⟩, a9⟩, a10⟩, a11⟩, a12⟩, a13⟩, a14⟩ := h5
  refine ⟨h1, h2, h3, a1, a2, a3, a4, a5, a6, a7, a8, a9, h6, a10, a11, a12, a13, a14, h7, ?_, zero_of h10, zero_of h11, h4, h12⟩
  obtain ⟨inf, z, hi, hz, hs, hc, hb⟩ := info_of h9
  refine ⟨inf, hi, ?_, hs, hb⟩
  unfold zeroTy at h8
  rw [hi] at h8
  simp only [hz, Option.some.injEq, Prod.mk.injEq] at h8
  rw [hz, h8.1]

end Go.Kf


namespace Go.Kf

open Go Go.ChangeShapes Go.WideShapes Go.RowKit

/-- How much a tree says. -/
def tagsWt : TM → Nat
  | [] => 0
  | p :: m => 3 + p.2.length + tagsWt m

mutual
def PT.wt : PT → Nat
  | .mk _ s _ l u => 6 + s.length + PT.wts l + tagsWt u
def PT.wts : List PT → Nat
  | [] => 0
  | t :: r => t.wt + PT.wts r
end

theorem PT.wts_append : ∀ (a b : List PT), PT.wts (a ++ b) = PT.wts a + PT.wts b
  | [], b => by simp [PT.wts]
  | t :: a, b => by rw [List.cons_append, PT.wts, PT.wts_append a b, PT.wts]; omega

theorem tagsWt_append : ∀ (a b : TM), tagsWt (a ++ b) = tagsWt a + tagsWt b
  | [], b => by simp [tagsWt]
  | t :: a, b => by rw [List.cons_append, tagsWt, tagsWt_append a b, tagsWt]; omega

/-- How a reading's bulk is counted. -/
structure BulkLaws {H : Type} (B : DataW H → Nat) (BA : List (DataW H) → Nat) : Prop where
  agg : ∀ l, B (.agg l) = BA l + 1
  slice : ∀ e r, B (.slice e r) = BA e + BA r + 1
  pos : ∀ d, 1 ≤ B d
  nil : BA [] = 0
  cons : ∀ d r, BA (d :: r) = B d + BA r

/-- A struct's fields: their types, where they lie. -/
def chkStruct (P : Program) (t : Nat) (l : List (Nat × Nat)) : Bool := match P.underlying t with
  | some (.struct fs) => decide (fs.toList.map (fun f => (f.type, f.offset)) = l)
  | _ => false

theorem struct_of {P : Program} {t : Nat} {l : List (Nat × Nat)} (h : chkStruct P t l = true) : ∃ fs, P.underlying t = some (.struct fs) ∧ fs.toList.map (fun f => (f.type, f.offset)) = l := by
  unfold chkStruct at h
  split at h
  · rename_i fs hf
    exact ⟨fs, hf, by simpa using h⟩
  · cases h

/-- The tree's types, as a row's reading asks them. -/
structure RowTypes (P : Program) (c : Nums) : Prop where
  tree : chkStruct P c.sTree [(c.tI64, 0), (c.tBytes, 1), (c.tBool, 2), (c.sTrees, 3), (c.sTagL, 4)] = true
  tag : chkStruct P c.sTag [(c.tU32, 0), (c.tBytes, 1)] = true
  cells : [P.cellsOf c.tI64, P.cellsOf c.tBytes, P.cellsOf c.tBool, P.cellsOf c.sTrees, P.cellsOf c.sTagL, P.cellsOf c.tU32, P.cellsOf c.tU8, P.cellsOf c.sTree, P.cellsOf c.sTag] = [1, 1, 1, 1, 1, 1, 1, 5, 2]
  laid : laidOutB P = true
  rr : P.readableRec c.sTree = true
  row : c.sTree < P.types.size

theorem struct_parts {H : Type} {enc : TypeId × Value → H} {P : Program} {w : World} {base : Nat} {sp : Nat → Bool} {hd : Bool} {fuel t : Nat} {cs : List Value} {x : DataW H × List MemPlace} {l : List (Nat × Nat)} (h : chkStruct P t l = true) (hx : DataW.trod enc P w base sp hd fuel t cs = some x) :
    ∃ (xs : List (DataW H × List MemPlace)) (n : Nat), fuel = n + 1 ∧ x.1 = .agg (xs.map (·.1)) ∧ cs.length = P.cellsOf t ∧ xs.length = l.length ∧ ∀ (i : Nat) (p : Nat × Nat), l[i]? = some p → DataW.trod enc P w base sp hd n p.1 ((cs.drop p.2).take (P.cellsOf p.1)) = xs[i]? := by
  obtain ⟨fs, hf, hm⟩ := struct_of h
  obtain ⟨xs, n, h1, h2, h3, h4, h5⟩ := DataW.trod_struct hf hx
  refine ⟨xs, n, h1, by rw [h2], h3, by rw [h4, ← hm]; simp, fun i p hp => ?_⟩
  subst hm
  rw [List.getElem?_map] at hp
  cases hfi : fs.toList[i]? with
  | none => rw [hfi] at hp; cases hp
  | some f =>
    rw [hfi] at hp
    simp only [Option.map_some, Option.some.injEq] at hp
    subst hp
    exact h5 i f (by rwa [Array.getElem?_toList] at hfi)

theorem addr_spot {w : World} {a : Addr} {v : Value} (h : w.cell? a = some v) : a = ⟨a.block, a.off, none⟩ := by
  unfold World.cell? at h
  split at h
  · split at h
    · cases h
    · rename_i hs
      cases a with
      | mk b o s =>
        cases s with
        | none => rfl
        | some _ => simp at hs
  · cases h

section

variable {H : Type} {enc : TypeId × Value → H} {P : Program} {c : Nums} {s : SN} {w : World} {B : DataW H → Nat} {BA : List (DataW H) → Nat}

theorem bulk_len (L : BulkLaws B BA) : ∀ l : List (DataW H), l.length ≤ BA l
  | [] => by simp
  | d :: r => by
    have := L.pos d
    have := bulk_len L r
    rw [L.cons, List.length_cons]
    omega

/-- Octets of an argument. -/
theorem open_octets (S : SpFacts P c s) (T : RowTypes P c) (L : BulkLaws B BA) {fuel : Nat} {cs : List Value} {x : DataW H × List MemPlace} (h : DataW.trod enc P w 0 (fun _ => true) true fuel c.tBytes cs = some x) :
    ∃ v l, cs = [v] ∧ Ro w v 1 l.length (bcells l) ∧ l.length + 1 ≤ B x.1 := by
  have hc := T.cells
  simp only [List.cons.injEq] at hc
  rcases open_ints S.rd.bytes S.rd.u8 hc.2.2.2.2.2.2.1 h with ⟨rfl, rfl⟩ | ⟨a, len, cap, zs, rfl, _, hle, hmx, hzl, rfl, hcell, hwf⟩
  · exact ⟨_, [], rfl, Ro.nil w 1, L.pos _⟩
  · simp only [if_true] at hzl
    have hz8 : ∀ z ∈ zs, ∃ m : Nat, z = m ∧ m < 256 := fun z hz => lit_u8 (hwf z hz)
    refine ⟨_, (zs.take len).map fun z => UInt8.ofNat z.toNat, rfl, ?_, ?_⟩
    · have hlen : ((zs.take len).map fun z => UInt8.ofNat z.toNat).length = len := by rw [List.length_map, List.length_take]; omega
      refine ⟨by rw [bcells_length]; omega, ?_⟩
      rw [hlen]
      by_cases h0 : len = 0
      · exact .inl ⟨h0, _, _, by rw [h0]⟩
      · have hz0 : 0 < zs.length := by omega
        have e0 := hcell 0 hz0
        have ha0 : a.add 0 = a := by simp [Addr.add]
        rw [ha0] at e0
        have hsp := addr_spot e0
        refine .inr ⟨a.block, a.off, cap, by rw [← hsp], cell_block e0, hle, fun i hi => ?_⟩
        have hi' : i < zs.length := by omega
        have e1 := hcell i hi'
        rw [hsp, addr_add] at e1
        rw [e1]
        obtain ⟨m, hm, hlt⟩ := hz8 zs[i] (List.getElem_mem _)
        simp only [bcells, List.getElem?_map, List.getElem?_take, show i < len by omega, if_true, List.getElem?_eq_getElem hi', Option.map_some, List.getD_eq_getElem?_getD, Option.getD_some, hm, Int.toNat_natCast]
        congr 2
        have : (UInt8.ofNat m).toNat = m := by rw [UInt8.toNat_ofNat']; omega
        rw [this]
    · rw [L.slice]
      have := bulk_len L (lits .u8 (zs.take len))
      have e : (lits (H := H) .u8 (zs.take len)).length = (zs.take len).length := by simp [lits]
      rw [List.length_map]
      omega

/-- Elements of an argument's slice, one after another. -/
theorem open_elems {e sz fuel : Nat} {a : Addr} {len : Nat} {elems : List (DataW H × List MemPlace)} (hsz : P.cellsOf e = sz) (hlen : elems.length = len)
    (hel : ∀ i, i < len → (w.cells? 0 (a.add (i * P.cellsOf e)) (P.cellsOf e)).bind (DataW.trod enc P w 0 (fun _ => true) true fuel e) = elems[i]?) :
    ∀ i (hi : i < elems.length), ∃ cs, cs.length = sz ∧ (∀ q, q < sz → w.cell? ((a.add (i * sz)).add q) = cs[q]?) ∧ DataW.trod enc P w 0 (fun _ => true) true fuel e cs = some elems[i] := by
  intro i hi
  have h := hel i (by omega)
  rw [List.getElem?_eq_getElem hi, Option.bind_eq_some_iff] at h
  obtain ⟨cs, h1, h2⟩ := h
  obtain ⟨_, h3, h4⟩ := World.cells?_some h1
  rw [hsz] at h3 h4
  exact ⟨cs, h3, h4, h2⟩

theorem bulk_take (L : BulkLaws B BA) (l : List (DataW H)) {j : Nat} (hj : j < l.length) : BA (l.take (j + 1)) = BA (l.take j) + B l[j] := by
  induction l generalizing j with
  | nil => simp at hj
  | cons d r ih =>
    cases j with
    | zero => simp [L.cons, L.nil]
    | succ j =>
      rw [List.take_succ_cons, L.cons, ih (by simpa using hj), List.take_succ_cons, L.cons, List.getElem_cons_succ]
      omega

/-- Rows of elements, joined. -/
theorem open_row' {sz : Nat} {X : Type} {C : List X → List Value → Prop} {W : List X → Nat} (L : BulkLaws B BA) (hsz : 0 < sz) {a : Addr} {elems : List (DataW H × List MemPlace)} (hC0 : C [] []) (hW0 : W [] = 0)
    (hC : ∀ xs cs i (hi : i < elems.length), xs.length = i → C xs cs → (∀ q, q < i * sz → w.cell? (a.add q) = cs[q]?) → cs.length = i * sz → W xs ≤ BA ((elems.map (·.1)).take i) → ∃ y ys, C (xs ++ [y]) (cs ++ ys) ∧ ys.length = sz ∧ (∀ q, q < sz → w.cell? ((a.add (i * sz)).add q) = ys[q]?) ∧ W (xs ++ [y]) ≤ W xs + B elems[i].1) :
    ∀ k, k ≤ elems.length → ∃ xs cs, xs.length = k ∧ C xs cs ∧ cs.length = k * sz ∧ (∀ q, q < k * sz → w.cell? (a.add q) = cs[q]?) ∧ W xs ≤ BA ((elems.map (·.1)).take k)
  | 0, _ => ⟨[], [], rfl, hC0, by simp, fun q hq => by simp at hq, by rw [hW0]; omega⟩
  | k + 1, hk => by
    obtain ⟨xs, cs, h1, h2, h3, h4, h5⟩ := open_row' L hsz hC0 hW0 hC k (by omega)
    obtain ⟨y, ys, g1, g2, g3, g4⟩ := hC xs cs k (by omega) h1 h2 h4 h3 h5
    refine ⟨xs ++ [y], cs ++ ys, by rw [List.length_append, h1]; rfl, g1, by rw [List.length_append, h3, g2, Nat.add_mul]; omega, fun q hq => ?_, ?_⟩
    · by_cases hq2 : q < k * sz
      · rw [List.getElem?_append_left (by omega)]
        exact h4 q hq2
      · rw [List.getElem?_append_right (by omega), h3]
        have h6 : q - k * sz < sz := by rw [Nat.add_mul] at hq; omega
        have h7 := g3 (q - k * sz) h6
        rw [← h7]
        congr 1
        have hsp : ∃ b o, a.add (k * sz) = ⟨b, o, none⟩ ∧ ∀ r, a.add (k * sz + r) = ⟨b, o + r, none⟩ := by
          have h8 := g3 0 hsz
          have h9 : ys[0]? ≠ none := by rw [List.getElem?_eq_getElem (by omega)]; simp
          cases hv : w.cell? ((a.add (k * sz)).add 0) with
          | none => rw [hv] at h8; exact absurd h8.symm h9
          | some v =>
            have e0 : (a.add (k * sz)).add 0 = a.add (k * sz) := by simp [Addr.add]
            rw [e0] at hv
            have hs := addr_spot hv
            refine ⟨(a.add (k * sz)).block, (a.add (k * sz)).off, hs, fun r => ?_⟩
            by_cases hk0 : k * sz = 0
            · rw [hk0, Nat.zero_add]
              have e1 : a.add 0 = a := by simp [Addr.add]
              rw [hk0, e1] at hs
              rw [e1]
              rw [hs, addr_add]
            · have e2 : a.add (k * sz + r) = { a with off := a.off + (k * sz + r), spot := none } := by simp [Addr.add]; omega
              have e3 : a.add (k * sz) = { a with off := a.off + k * sz, spot := none } := by simp [Addr.add, hk0]
              rw [e2, e3]
              simp only [Nat.add_assoc]
        obtain ⟨b, o, e1, e2⟩ := hsp
        rw [e1, addr_add, show q = k * sz + (q - k * sz) by omega, e2]
        congr 1
        omega
    · rw [bulk_take L _ (by simpa using by omega)]
      simp only [List.getElem_map]
      omega

theorem bulk_mem (L : BulkLaws B BA) {d : DataW H} : ∀ {l : List (DataW H)}, d ∈ l → B d ≤ BA l
  | [], h => by cases h
  | y :: l, h => by
    rw [L.cons]
    rcases List.mem_cons.1 h with rfl | h
    · omega
    · have := bulk_mem L h
      omega

theorem TreesC.append : ∀ {a b : List PT} {x y : List Value}, TreesC w a x → TreesC w b y → TreesC w (a ++ b) (x ++ y)
  | [], b, x, y, h1, h2 => by simp only [TreesC] at h1; subst h1; exact h2
  | t :: a, b, x, y, ⟨c1, c2, e, h1, h3⟩, h2 => ⟨c1, c2 ++ y, by rw [e, List.append_assoc], h1, TreesC.append h3 h2⟩

/-- Cells that a slice shows. -/
theorem ro_of_cells {a : Addr} {len cap sz : Nat} {cs : List Value} (hsz : 0 < sz) (hl : cs.length = len * sz) (hc : len ≤ cap) (h : ∀ q, q < len * sz → w.cell? (a.add q) = cs[q]?) : Ro w (.slice (some a) len cap) sz len cs := by
  refine ⟨hl, ?_⟩
  by_cases h0 : len = 0
  · exact .inl ⟨h0, _, _, by rw [h0]⟩
  · have hpos : 0 < len * sz := Nat.mul_pos (by omega) hsz
    have e0 := h 0 hpos
    have ha0 : a.add 0 = a := by simp [Addr.add]
    rw [ha0, List.getElem?_eq_getElem (by omega)] at e0
    have hsp := addr_spot e0
    refine .inr ⟨a.block, a.off, cap, by rw [← hsp], cell_block e0, hc, fun i hi => ?_⟩
    have e1 := h i hi
    rwa [hsp, addr_add] at e1

theorem wf_u32 {n : Int} (h : (Lit.int .u32 n).wf = true) : ∃ m : Nat, n = m ∧ m < 4294967296 := by
  simp only [Lit.wf, Bool.and_eq_true, decide_eq_true_eq] at h
  have e1 : IntKind.u32.min = 0 := rfl
  have e2 : IntKind.u32.max = 4294967295 := rfl
  rw [e1, e2] at h
  exact ⟨n.toNat, by omega, by omega⟩

theorem wf_i64 {n : Int} (h : (Lit.int .i64 n).wf = true) : IntKind.i64.wrap n = n := by
  simp only [Lit.wf, Bool.and_eq_true, decide_eq_true_eq] at h
  have e1 : IntKind.i64.min = -9223372036854775808 := rfl
  have e2 : IntKind.i64.max = 9223372036854775807 := rfl
  rw [e1, e2] at h
  exact i64_small (by omega) (by omega)

/-- A tag of an argument. -/
theorem open_tag (S : SpFacts P c s) (T : RowTypes P c) (L : BulkLaws B BA) {fuel : Nat} {cs : List Value} {x : DataW H × List MemPlace} (h : DataW.trod enc P w 0 (fun _ => true) true fuel c.sTag cs = some x) :
    ∃ q : Nat × List UInt8, TagsC w [q] cs ∧ q.1 < 4294967296 ∧ 3 + q.2.length ≤ B x.1 := by
  have hc := T.cells
  simp only [List.cons.injEq] at hc
  obtain ⟨c1, c2, c3, c4, c5, c6, c7, c8, c9, _⟩ := hc
  obtain ⟨xs, n, rfl, hx1, hlen, hxl, hget⟩ := struct_parts T.tag h
  rw [c9] at hlen
  match xs, hxl with
  | [y0, y1], _ =>
  match cs, hlen with
  | [v0, v1], _ =>
  have h0 := hget 0 (c.tU32, 0) rfl
  have h1 := hget 1 (c.tBytes, 1) rfl
  rw [c6] at h0
  rw [c2] at h1
  obtain ⟨n0, e0, hy0, w0⟩ := DataW.trod_int S.rd.u32 (show _ = some y0 from h0)
  obtain ⟨v, l, e1, hro, hb⟩ := open_octets S T L (show _ = some y1 from h1)
  obtain ⟨m, rfl, hm⟩ := wf_u32 w0
  simp at e0 e1
  subst e0
  subst e1
  refine ⟨(m, l), ⟨v1, [], rfl, hro, rfl⟩, hm, ?_⟩
  rw [hx1, L.agg]
  simp only [List.map_cons, List.map_nil, L.cons, L.nil]
  have := L.pos y0.1
  omega

/-- A tree of an argument. -/
theorem open_tree (S : SpFacts P c s) (T : RowTypes P c) (L : BulkLaws B BA) : ∀ (fuel : Nat) {cs : List Value} {x : DataW H × List MemPlace}, DataW.trod enc P w 0 (fun _ => true) true fuel c.sTree cs = some x → B x.1 < 4294967296 →
    ∃ t : PT, TreeC w t cs ∧ t.ok ∧ t.wt ≤ B x.1 := by
  intro fuel
  induction fuel using Nat.strongRecOn with
  | ind fuel ih =>
  intro cs x h hB
  have hc := T.cells
  simp only [List.cons.injEq] at hc
  obtain ⟨c1, c2, c3, c4, c5, c6, c7, c8, c9, _⟩ := hc
  obtain ⟨xs, n, rfl, hx1, hlen, hxl, hget⟩ := struct_parts T.tree h
  rw [c8] at hlen
  match xs, hxl with
  | [y0, y1, y2, y3, y4], _ =>
  match cs, hlen with
  | [v0, v1, v2, v3, v4], _ =>
  have h0 := hget 0 (c.tI64, 0) rfl
  have h1 := hget 1 (c.tBytes, 1) rfl
  have h2 := hget 2 (c.tBool, 2) rfl
  have h3 := hget 3 (c.sTrees, 3) rfl
  have h4 := hget 4 (c.sTagL, 4) rfl
  rw [c1] at h0
  rw [c2] at h1
  rw [c3] at h2
  rw [c4] at h3
  rw [c5] at h4
  rw [hx1, L.agg] at hB ⊢
  simp only [List.map_cons, List.map_nil, L.cons, L.nil] at hB ⊢
  obtain ⟨n0, e0, hy0, w0⟩ := DataW.trod_int S.ty.i64 (show _ = some y0 from h0)
  obtain ⟨sv, l, e1, hro, hb1⟩ := open_octets S T L (show _ = some y1 from h1)
  obtain ⟨b, e2, hy2⟩ := DataW.trod_bool S.ty.bool (show _ = some y2 from h2)
  simp at e0 e1 e2
  subst e0
  subst e1
  subst e2
  have p0 := L.pos y0.1
  have p2 := L.pos y2.1
  -- the things
  obtain ⟨tl, lcs, hl1, hl2, hl3, hl4⟩ : ∃ (tl : List PT) (lcs : List Value), Ro w v3 5 tl.length lcs ∧ TreesC w tl lcs ∧ (∀ t ∈ tl, t.ok) ∧ PT.wts tl + 1 ≤ B y3.1 := by
    rcases DataW.trod_slice S.ty.sl (show _ = some y3 from h3) with ⟨e3, rfl⟩ | ⟨a, len, cap, elems, rest, m, hm, e3, rfl, _, hle, _, hel0, hel, _⟩
    · simp at e3
      subst e3
      exact ⟨[], [], Ro.nil w 5, rfl, (fun t ht => by cases ht), L.pos _⟩
    · simp at e3
      subst e3
      have hE := open_elems (e := c.sTree) (sz := 5) (len := len) c8 hel0 hel
      simp only at hB ⊢
      rw [L.slice] at hB ⊢
      obtain ⟨tl, lcs, k1, k2, k3, k4, k5⟩ := open_row' (w := w) (sz := 5) (X := PT) (C := fun ts cs => TreesC w ts cs ∧ ∀ t ∈ ts, t.ok) (W := PT.wts) L (by omega) (a := a) (elems := elems) ⟨rfl, fun t ht => by cases ht⟩ rfl (by
        intro ts cs i hi _ hC _ _ _
        obtain ⟨ys, g1, g2, g3⟩ := hE i hi
        have hbm : B elems[i].1 ≤ BA (elems.map (·.1)) := bulk_mem L (List.mem_map.2 ⟨_, List.getElem_mem hi, rfl⟩)
        obtain ⟨t, t1, t2, t3⟩ := ih m (by omega) g3 (by omega)
        refine ⟨t, ys, ⟨TreesC.append hC.1 ⟨ys, [], by simp, t1, rfl⟩, fun u hu => ?_⟩, g1, g2, ?_⟩
        · rcases List.mem_append.1 hu with hu | hu
          · exact hC.2 u hu
          · simp only [List.mem_singleton] at hu; subst hu; exact t2
        · rw [PT.wts_append]
          simp only [PT.wts]
          omega) elems.length (Nat.le_refl _)
      rw [List.take_of_length_le (by simp)] at k5
      refine ⟨tl, lcs, ?_, k2.1, k2.2, by omega⟩
      rw [k1, hel0]
      rw [hel0] at k3 k4
      exact ro_of_cells (by omega) k3 hle k4
  obtain ⟨ul, ucs, hu1, hu2, hu3, hu4, hu5⟩ : ∃ (ul : TM) (ucs : List Value), Ro w v4 2 ul.length ucs ∧ TagsC w ul ucs ∧ (∀ p ∈ ul, p.1 < 4294967296) ∧ tagsWt ul + 1 ≤ B y4.1 ∧ ul.length ≤ tagsWt ul := by
    rcases DataW.trod_slice S.ty.slTag (show _ = some y4 from h4) with ⟨e3, rfl⟩ | ⟨a, len, cap, elems, rest, m, hm, e3, rfl, _, hle, _, hel0, hel, _⟩
    · simp at e3
      subst e3
      exact ⟨[], [], Ro.nil w 2, rfl, (fun t ht => by cases ht), L.pos _, Nat.le_refl _⟩
    · simp at e3
      subst e3
      have hE := open_elems (e := c.sTag) (sz := 2) (len := len) c9 hel0 hel
      simp only at hB ⊢
      rw [L.slice] at hB ⊢
      obtain ⟨tl, lcs, k1, k2, k3, k4, k5⟩ := open_row' (w := w) (sz := 2) (X := Nat × List UInt8) (C := fun ts cs => TagsC w ts cs ∧ (∀ p ∈ ts, p.1 < 4294967296) ∧ ts.length ≤ tagsWt ts) (W := tagsWt) L (by omega) (a := a) (elems := elems) ⟨rfl, (fun t ht => by cases ht), Nat.le_refl _⟩ rfl (by
        intro ts cs i hi _ hC _ _ _
        obtain ⟨ys, g1, g2, g3⟩ := hE i hi
        obtain ⟨q, t1, t2, t3⟩ := open_tag S T L g3
        refine ⟨q, ys, ⟨TagsC.append hC.1 t1, fun u hu => ?_, ?_⟩, g1, g2, ?_⟩
        · rcases List.mem_append.1 hu with hu | hu
          · exact hC.2.1 u hu
          · simp only [List.mem_singleton] at hu; subst hu; exact t2
        · have := hC.2.2
          rw [tagsWt_append, List.length_append]
          simp only [tagsWt, List.length_singleton]
          omega
        · rw [tagsWt_append]
          simp only [tagsWt]
          omega) elems.length (Nat.le_refl _)
      rw [List.take_of_length_le (by simp)] at k5
      refine ⟨tl, lcs, ?_, k2.1, k2.2.1, by omega, k2.2.2⟩
      rw [k1, hel0]
      rw [hel0] at k3 k4
      exact ro_of_cells (by omega) k3 hle k4
  have hwl : tl.length ≤ PT.wts tl := by
    clear hl1 hl2 hl3 hl4
    induction tl with
    | nil => simp [PT.wts]
    | cons t r ihr =>
      have : 1 ≤ t.wt := by cases t; simp only [PT.wt]; omega
      simp only [PT.wts, List.length_cons]
      omega
  refine ⟨.mk n0 l b tl ul, ⟨v1, v3, v4, lcs, ucs, rfl, hro, hl1, hl2, hu1, hu2, by omega, by omega, by omega⟩, ⟨wf_i64 w0, hu3, PT.oks_of hl3⟩, ?_⟩
  simp only [PT.wt]
  omega

end

end Go.Kf


namespace Go.Kf

open Go

mutual
def kF : PF → Nat
  | .mk k _ _ _ _ _ e sub => if k = 11 then (if e = 10 then 3 + kPart sub else 6) else if k = 10 then 3 + kPart sub else 3
def kPart : List PF → Nat
  | [] => 8
  | f :: r => kF f + kPart r
end

def kPlain : List PF → Nat
  | [] => 0
  | f :: r => kF f + kPlain r

theorem kPart_eq : ∀ fs : List PF, kPart fs = kPlain fs + 8
  | [] => rfl
  | f :: r => by rw [kPart, kPlain, kPart_eq r]; omega

theorem PT.wt_eq (t : PT) : t.wt = 6 + t.s.length + PT.wts t.l + tagsWt t.u := by cases t; rfl

theorem wts_mem {x : PT} : ∀ {l : List PT}, x ∈ l → x.wt ≤ PT.wts l
  | [], h => by cases h
  | y :: l, h => by
    rw [PT.wts]
    rcases List.mem_cons.1 h with rfl | h
    · omega
    · have := wts_mem h
      omega

theorem wt_at (t : PT) (i : Nat) : (pAt t i).wt ≤ t.wt := by
  rw [PT.wt_eq t]
  unfold pAt
  rw [List.getD_eq_getElem?_getD]
  by_cases h : i < t.l.length
  · rw [List.getElem?_eq_getElem h]
    have := wts_mem (List.getElem_mem h)
    simp only [Option.getD_some]
    omega
  · rw [List.getElem?_eq_none (by omega)]
    have : PT.zero.wt = 6 := rfl
    simp only [Option.getD_none]
    omega

theorem wts_take (n : Nat) : ∀ l : List PT, PT.wts (l.take n) ≤ PT.wts l := by
  induction n with
  | zero => intro l; simp [PT.wts]
  | succ n ih =>
    intro l
    cases l with
    | nil => simp [PT.wts]
    | cons x l => rw [List.take_succ_cons, PT.wts, PT.wts]; have := ih l; omega

theorem tagsWt_take (n : Nat) : ∀ l : TM, tagsWt (l.take n) ≤ tagsWt l := by
  induction n with
  | zero => intro l; simp [tagsWt]
  | succ n ih =>
    intro l
    cases l with
    | nil => simp [tagsWt]
    | cons x l => rw [List.take_succ_cons, tagsWt, tagsWt]; have := ih l; omega

theorem tagsWt_put (q : Nat × List UInt8) : ∀ m : TM, tagsWt (pPut q m) ≤ tagsWt m + 3 + q.2.length
  | [] => by simp [pPut, tagsWt]
  | p :: m => by
    have := tagsWt_put q m
    rw [pPut]
    split
    · simp only [tagsWt]; omega
    · split
      · simp only [tagsWt]; omega
      · simp only [tagsWt]; omega

theorem tagsWt_unknownN (least : Nat) : ∀ u out : TM, tagsWt (pUnknownN least u out) ≤ tagsWt u + tagsWt out
  | [], out => by simp [pUnknownN, tagsWt]
  | q :: u, out => by
    rw [pUnknownN]
    have h1 := tagsWt_unknownN least u (if q.1 < least then out else pPut q out)
    have h2 := tagsWt_put q out
    rw [tagsWt]
    split at h1 <;> rename_i hq
    · rw [if_pos hq]; omega
    · rw [if_neg hq]; omega

theorem tagsWt_unknown (fs : List PF) (u : TM) : tagsWt (pUnknown fs u) ≤ tagsWt u := by
  have h1 := tagsWt_unknownN (pKnown fs 0) (u.take 32767) []
  have h2 := tagsWt_take 32767 u
  have h3 : tagsWt ([] : TM) = 0 := rfl
  unfold pUnknown
  omega

theorem pTags_len : ∀ m : TM, (pTags m).length ≤ 8 * tagsWt m
  | [] => by simp [pTags]
  | q :: m => by
    have h1 := pTags_len m
    have h2 : (pTags (q :: m)).length = (pUv q.1).length + (pUv (pWhole q.2).length).length + (pWhole q.2).length + (pTags m).length := by
      simp only [pTags, List.map_cons, List.flatten_cons, pTag1, List.length_append]
    have h3 := pUv_length q.1
    have h4 := pUv_length (pWhole q.2).length
    have h5 : (pWhole q.2).length ≤ q.2.length := by unfold pWhole; rw [List.length_take]; omega
    rw [h2, tagsWt]
    omega

theorem pValue_len {pp : PT → List UInt8} {kind : Int} {null fl : Bool} {t : PT} (h : kind ≠ 10) : (pValue pp kind null fl t).length ≤ 3 * t.wt := by
  have hw : 6 + t.s.length ≤ t.wt := by rw [PT.wt_eq]; omega
  have hs : (if null then [] else pWhole t.s).length ≤ t.s.length := by
    split
    · simp
    · unfold pWhole; rw [List.length_take]; omega
  unfold pValue
  split
  · simp only [List.length_singleton]; omega
  split
  · rw [pId_length]; omega
  split
  · have := pCounted_length fl null (if null then [] else pWhole t.s).length 2
    simp only [List.length_append]
    omega
  split
  · have := pCounted_length fl null (if null then [] else pWhole t.s).length 4
    simp only [List.length_append]
    omega
  rw [pFixed_length]
  have := pWidth_le kind
  omega

theorem flatten_wt {pp : PT → List UInt8} {k : Nat} : ∀ {l : List PT}, (∀ x ∈ l, (pp x).length ≤ k * x.wt) → (l.map pp).flatten.length ≤ k * PT.wts l
  | [], _ => by simp
  | x :: l, h => by
    have := flatten_wt (pp := pp) (k := k) (l := l) fun y hy => h y (by simp [hy])
    have := h x (by simp)
    rw [List.map_cons, List.flatten_cons, List.length_append, PT.wts, Nat.mul_add]
    omega

theorem kF_eq (f : PF) : kF f = if f.kind = 11 then (if f.elem = 10 then 3 + kPart f.sub else 6) else if f.kind = 10 then 3 + kPart f.sub else 3 := by cases f; rw [kF]; rfl

theorem pField_len_step {v : Int} {fl : Bool} {f : PF} (hpart : ∀ t : PT, (pPart f.sub v fl t).length ≤ kPart f.sub * t.wt) (t : PT) : (pField f v fl t).length ≤ kF f * t.wt := by
  have hw6 : 6 ≤ t.wt := by rw [PT.wt_eq]; omega
  rw [kF_eq]
  by_cases h11 : f.kind = 11
  · rw [if_pos h11, list_written h11]
    generalize hnu : pNull f v t = null
    have hw : PT.wts (if null then [] else pThings t.l) ≤ PT.wts t.l := by
      split
      · simp [PT.wts]
      · exact wts_take _ _
    have hc := pCounted_length fl null (if null then [] else pThings t.l).length 4
    have hwt : 6 + PT.wts t.l ≤ t.wt := by rw [PT.wt_eq]; omega
    rw [List.length_append]
    by_cases h10 : f.elem = 10
    · rw [if_pos h10, h10]
      have h6 := flatten_wt (pp := fun x => pValue (fun y => pPart f.sub v fl y) 10 false fl x) (k := kPart f.sub) (l := if null then [] else pThings t.l) (fun x _ => hpart x)
      have h7 := Nat.mul_le_mul_left (kPart f.sub) (Nat.le_trans hw (show PT.wts t.l ≤ t.wt by omega))
      rw [Nat.add_mul]
      omega
    · rw [if_neg h10]
      have h6 := flatten_wt (pp := fun x => pValue (fun y => pPart f.sub v fl y) f.elem false fl x) (k := 3) (l := if null then [] else pThings t.l) (fun x _ => pValue_len h10)
      omega
  · rw [if_neg h11, pField_eq]
    unfold pFieldOf
    simp only
    rw [if_neg h11]
    by_cases h10 : f.kind = 10
    · rw [if_pos h10, Nat.add_mul]
      have := hpart t
      by_cases hn : 0 ≤ f.nul
      · rw [if_pos ⟨h10, hn⟩]
        split
        · rw [pFixed_length]; omega
        · rw [List.length_append, pFixed_length]; omega
      · rw [if_neg (fun h => hn h.2), h10]
        have e1 : pValue (fun y => pPart f.sub v fl y) 10 (pNull f v t) fl t = pPart f.sub v fl t := rfl
        rw [e1]
        omega
    · rw [if_neg h10, if_neg (fun h => h10 h.1)]
      exact pValue_len h10

mutual
theorem pField_len (v : Int) (fl : Bool) : ∀ (f : PF), f.plain = true → ∀ t : PT, (pField f v fl t).length ≤ kF f * t.wt
  | .mk k fr to nul g d e sub, hpl, t => by
    have hsub : PF.plains sub = true := PF.plain_sub hpl
    have hg : ∀ f ∈ sub, f.tag < 0 := fun f hf => PF.plain_tag (PF.plains_mem hsub f hf)
    refine pField_len_step (f := .mk k fr to nul g d e sub) (fun t => ?_) t
    show (pPart sub v fl t).length ≤ kPart sub * t.wt
    have h1 := pPlain_len v fl sub hsub t 0
    have h2 := tagsWt_unknown sub t.u
    have h3 := pTags_len (pUnknown sub t.u)
    have h4 := pUv_length (pUnknown sub t.u).length
    have h5 : 6 + tagsWt t.u ≤ t.wt := by rw [PT.wt_eq]; omega
    rw [pPart_plain hg, kPart_eq, Nat.add_mul, List.length_append]
    split
    · rw [List.length_append]; omega
    · simp only [List.length_nil]; omega
theorem pPlain_len (v : Int) (fl : Bool) : ∀ (fs : List PF), PF.plains fs = true → ∀ (t : PT) (i : Nat), (pPlain fs v fl t i).length ≤ kPlain fs * t.wt
  | [], _, t, i => by simp [pPlain]
  | f :: r, hpl, t, i => by
    simp only [PF.plains, Bool.and_eq_true] at hpl
    have h1 := pField_len v fl f hpl.1 (pAt t i)
    have h2 := pPlain_len v fl r hpl.2 t (i + 1)
    have h3 := Nat.mul_le_mul_left (kF f) (wt_at t i)
    rw [pPlain_cons, List.length_append, kPlain, Nat.add_mul]
    unfold pOne
    split
    · omega
    · simp only [List.length_nil]; omega
end

theorem pWrite_len {fs : List PF} (hpl : PF.plains fs = true) (x v : Int) (t : PT) : (pWrite fs x v t).length ≤ kPart fs * t.wt := by
  have hg : ∀ f ∈ fs, f.tag < 0 := fun f hf => PF.plain_tag (PF.plains_mem hpl f hf)
  have h1 := pPlain_len v (pFlex x v) fs hpl t 0
  have h2 := tagsWt_unknown fs t.u
  have h3 := pTags_len (pUnknown fs t.u)
  have h4 := pUv_length (pUnknown fs t.u).length
  have h5 : 6 + tagsWt t.u ≤ t.wt := by rw [PT.wt_eq]; omega
  unfold pWrite
  rw [pPart_plain hg, kPart_eq, Nat.add_mul, List.length_append]
  split
  · rw [List.length_append]; omega
  · simp only [List.length_nil]; omega

end Go.Kf


namespace Go.Kf

open Go

/-- The step that reads the version. -/
def verStep (c : Nums) (f16 : Nat) : Step := .call (.num 2 .i16) f16 0 c.tI16 0

def gReadFromK (c : Nums) (e : Fns) (S fDef f16 : Nat) (v : Option Int) (ss : List Step) : Tr :=
  .op (callOp fDef [.tmp 0]) none [] <| .op (.build c.tRd ⟨[(0, .tmp 1)]⟩) none [] <| .op (.alloc c.tRd) none [] <| .op (.store c.tRd (.tmp 5) (.tmp 4)) none [] <|
  gStep c e (.tmp 5) (verStep c f16) (.tmp 0) S 7 0 (.const .nilIface) fun n d res =>
  .op (.nilCheck (.tmp 0)) none [] <| .op (.fieldAddr S (.tmp n) 0) none [] <| .op (.load c.tI16 (.tmp (n + 1))) (v.map fun v => .int .i16 v) [] <|
  gSteps c e (.tmp 5) ss (.tmp 0) S (n + 3) d res fun n _ _ => .op (callOp e.complete [.tmp 5]) none [] <| .ret [(.tmp n, none)]

section

variable {P : Program} {c : Nums} {w : World}

theorem readFromK_gives {e : Fns} {f S fDef f16 : Nat} {ds : List Dset} {ls : List Nat} {ss : List Step} {v : Option Int} {orc : Nat → Option Value} {uns : Bool} {fs0 fs1 : List FV} {mid1 : List Value} (F : RdFacts P c) (A : RfFacts P c S) (hOk : hasRet ss = true → OkGives P e.ok) (hCo : CompGives P e.complete c.gErr) (h16 : RdAny P f16 (.num 2 .i16)) (hsz16 : (P.info? c.tI16).map (·.size) = some 1) (hpl : PlaceOk P S ls 0 0 1)
    (hT : treeIn P f orc [.tmp 0, .tmp 1, .const (.bool uns)] 3 = gReadFromK c e S fDef f16 v ss) (hDef : DefSets P fDef ls ds) (hok : StepsOk P c S ls ss) (hdeep : deepsOk ss = true) (hsh : shapesOk fs0 ds = true) (h0 : fs0.map FV.wd = ls) (h01 : applyD ds fs0 = fs1) (himm : immL fs1 = some mid1)
    (hidx : ∀ x : FV, idxOk (fs1.set 0 x) ss = true) (hl1 : fs1.map FV.wd = ls) {V D : Nat} {mid0 : List Value} {l : List UInt8} {src e0 : Value} (hv : ∀ x r', (PK.num 2 .i16).run ⟨l, false, nilOf src⟩ = (x, r') → ∀ y, v = some y → x = .one (.int .i16 y)) (hV : Has w V mid0) (hf0 : ∀ D lo, FsAt D w lo fs0 mid0) (hsrc : Reads w src 1 l.length (bcells l)) (hblk : ∀ b ∈ blkOf src, b = D) (hD : D < w.heap.size) (hVD : V ≠ D) (he : ErrAt w c.gErr e0) (hgV : c.gErr ≠ V) (hlen : l.length ≤ 1073741824) :
    Gives P f [ptr V, src, .bool uns] w fun u w' => Keeps [V] w w' ∧ RfPost D V e0 w w' u (runSteps (verStep c f16 :: ss) fs1 ⟨l, false, nilOf src⟩) := by
  have hVl := hV.lt
  refine gives_in (ρ := en [ptr V, src]) F.mix hT (Nat.le_refl _) rfl (by simp [opBelow]) ?_
  unfold gReadFromK
  have hd := hDef D w V w.heap.size [] [] mid0 fs0 hVD hVl hsh h0 (by simpa using hV) (hf0 D w.heap.size)
  refine s_callx hd rfl fun u1 w1 ⟨⟨mid', hh1, hf1⟩, k1⟩ => ?_
  simp only [List.nil_append, List.append_nil] at hh1
  rw [h01] at hf1
  obtain rfl := immL_eq himm hf1
  obtain ⟨a, cp, hav, _⟩ := hsrc.form
  obtain ⟨z, hplan, rfl⟩ := A.plan
  refine s_val (v_build (cells := [src, .bool false]) hplan (fun p hp => by simp only [List.mem_singleton] at hp; subst hp; show src.oneCell' = true; rw [hav]; rfl) (by rfl)) ?_
  obtain ⟨w2, e2, h2, k2, s2⟩ := a_alloc (P := P) (ρ := ext (ext (en [ptr V, src]) 3 [u1]) 4 [.agg ⟨[src, .bool false]⟩]) (w := w1) A.zero
  refine s_act e2 (fun p hp => (by cases hp)) ?_
  obtain ⟨w3, e3, h3, k3⟩ := a_storeCells (P := P) (ρ := ext (ext (ext (en [ptr V, src]) 3 [u1]) 4 [.agg ⟨[src, .bool false]⟩]) 5 [ptr w1.heap.size]) (w := w2) (t := c.tRd) (x := .tmp 5) (y := .tmp 4) (b := w1.heap.size) (o := 0) (vs := [src, .bool false]) A.size rfl rfl h2 (show (2 : Nat) ≤ 2 from Nat.le_refl _) (by
    intro q hq
    simp only [List.mem_cons, List.not_mem_nil, or_false] at hq
    rcases hq with rfl | rfl
    · rw [hav]; rfl
    · rfl)
  refine s_unit e3 (fun p hp => (by cases hp)) ?_
  have h3' : Has w3 w1.heap.size [src, .bool false] := h3
  have k13 : Keeps [] w1 w3 := ((k2.mono (by simp)).trans k3).less fun x hx => .inr (by simp only [List.mem_singleton] at hx; omega)
  have hs1 := k1.size
  have hh3 := hh1.keep k13 (by simp)
  have kw3 : Keeps [V] w w3 := k1.trans (k13.mono (by simp))
  have hst : StAt w3 w1.heap.size D V c.gErr (w1.heap.size + 1) e0 ⟨l, false, nilOf src⟩ [] [] fs1 :=
    ⟨⟨by omega, Nat.lt_of_lt_of_le hD kw3.size, src, h3', hsrc.keep kw3 (fun b hb => by simp only [List.mem_singleton]; rw [hblk b hb]; exact fun e => hVD e.symm), rfl, hblk⟩, ⟨mid', by simpa using hh3, immL_at himm D w3 _⟩, he.keep kw3 (by simpa using hgV), (by have := he.2; omega), hgV, by omega, hVD, by omega, by omega, h3'.lt, hlen⟩
  have hcall := sem_call (R := fun u w' => Keeps [V] w w' ∧ RfPost D V e0 w w' u (runSteps (verStep c f16 :: ss) fs1 ⟨l, false, nilOf src⟩)) (rb := w1.heap.size) (D := D) (e := e) (rd := .tmp 5) (ev0 := e0) (c := c) (S := S) (ls := ls) (i := 0) (ty := c.tI16) (off := 0) h16 hpl hsz16
  refine hcall (.tmp 0) (.const .nilIface) 7 _ [] _ w3 V (w1.heap.size + 1) [] [] fs1 ⟨l, false, nilOf src⟩ (by simp [opBelow]) rfl (by simp [opBelow]) rfl trivial hst hl1 rfl ?_ ?_
  · rintro fs' r' hrun n' Γ' ρ' w' res' hle hΔ hag hbr hst' hls' kk'
    have hV' : ρ' 0 = ptr V := hag 0 (by omega)
    have hfs' : fs' = fs1.set 0 ((PK.num 2 .i16).run ⟨l, false, nilOf src⟩).1 ∧ r' = ((PK.num 2 .i16).run ⟨l, false, nilOf src⟩).2 := by
      simp only [runStep, Option.some.injEq, Prod.mk.injEq] at hrun
      exact ⟨hrun.1.symm, hrun.2.symm⟩
    -- the version's cell
    obtain ⟨mid2, hm2, hf2⟩ := hst'.st
    have hlen1 : 0 < fs1.length := by
      have := hpl.wd
      rw [← hl1] at this
      rw [List.getElem?_map] at this
      cases hf : fs1[0]? with
      | none => rw [hf] at this; cases this
      | some _ => exact (List.getElem?_eq_some_iff.1 hf).1
    obtain ⟨kk0, hx0⟩ : ∃ q, ((PK.num 2 .i16).run ⟨l, false, nilOf src⟩).1 = .one (.int .i16 q) := ⟨_, rfl⟩
    have hget : fs'[0]? = some (.one (.int .i16 kk0)) := by rw [hfs'.1, List.getElem?_set_self hlen1, hx0]
    have hcell : mid2[0]? = some (.int .i16 kk0) := by
      obtain ⟨a1, m1, z1, em, ha1, hm1, _⟩ := hf2.split hget
      have : a1 = [] := List.eq_nil_of_length_eq_zero (by rw [ha1]; rfl)
      subst this
      rw [em, hm1.1]
      rfl
    have hm2' : Has w' V mid2 := by simpa using hm2
    refine s_val (v_nilCheck (a := ⟨V, 0, none⟩) hV') (s_val (v_field (b := V) (o := 0) A.ver ext_at) ?_)
    have hld : runOp P (ext (ext ρ' n' [.pointer (some ⟨V, 0, none⟩)]) (n' + 1) [.pointer (some ⟨V, 0 + 0, none⟩)]) (.load c.tI16 (.tmp (n' + 1))) w' = .ok (.value (.int .i16 kk0)) w' := l_load1 (b := V) (o := 0) A.oneI16 ext_at hm2' hcell
    have hrest : (gSteps c e (.tmp 5) ss (.tmp 0) S (n' + 3) Γ'.length res' fun n _ _ => .op (callOp e.complete [.tmp 5]) none [] <| .ret [(.tmp n, none)]).sem P (fun u w' => Keeps [V] w w' ∧ RfPost D V e0 w w' u (runSteps (verStep c f16 :: ss) fs1 ⟨l, false, nilOf src⟩)) Γ' (n' + 3) (ext (ext (ext ρ' n' [.pointer (some ⟨V, 0, none⟩)]) (n' + 1) [.pointer (some ⟨V, 0 + 0, none⟩)]) (n' + 2) [.int .i16 kk0]) w' := by
      have hag2 : ∀ x, x < 7 → ext (ext (ext ρ' n' [.pointer (some ⟨V, 0, none⟩)]) (n' + 1) [.pointer (some ⟨V, 0 + 0, none⟩)]) (n' + 2) [.int .i16 kk0] x = ext (ext (ext (ext (en [ptr V, src]) 3 [u1]) 4 [.agg ⟨[src, .bool false]⟩]) 5 [ptr w1.heap.size]) 6 [undef] x := fun x hx => by
        rw [ext_lt (by omega), ext_lt (by omega), ext_lt (by omega)]; exact hag x hx
      have hsem := sem_steps (R := fun u w' => Keeps [V] w w' ∧ RfPost D V e0 w w' u (runSteps (verStep c f16 :: ss) fs1 ⟨l, false, nilOf src⟩)) (rb := w1.heap.size) (D := D) (rd := .tmp 5) (ev0 := e0) F hCo ss S ls hOk hok hdeep
      refine hsem (.tmp 0) res' (n' + 3) _ Γ' _ w' V (w1.heap.size + 1) [] [] fs' r' (by show 5 < n' + 3; omega) (hag2 5 (by omega)) (by show 0 < n' + 3; omega) (hag2 0 (by omega)) (opBelow_mono hbr (by omega)) hst' hls' (by rw [hfs'.1]; exact hidx _) ?_ ?_
      · rintro fs2 r2 hrun2 n2 Γ2 ρ2 w2' res2 hle2 hΔ2 hagx _ hst2 _ kk2
        have hc := hCo w2' w1.heap.size D r2 e0 hst2.rd hst2.err
        refine s_callx hc (by simp only [List.map_cons, List.map_nil]; rw [ev_agree (x := .tmp 5) (n := n' + 3) (by show 5 < n' + 3; omega) hagx]; exact congrArg (fun q => [q]) (hag2 5 (by omega))) fun u w4 hu => ?_
        obtain ⟨rfl, rfl⟩ := hu
        refine s_ret1 ?_
        rw [show ev (ext ρ2 n2 [if r2.bad = true then e0 else Value.nilIface]) (.tmp n2) = if r2.bad = true then e0 else Value.nilIface from ext_at]
        have kall : Keeps [V] w w4 := ((kw3.mono (by simp)).trans (kk'.trans kk2) : Keeps [w1.heap.size, V] w w4).less fun x hx => by
          simp only [List.mem_cons, List.not_mem_nil, or_false] at hx ⊢
          omega
        refine ⟨kall, ?_⟩
        have hrs : runSteps (verStep c f16 :: ss) fs1 ⟨l, false, nilOf src⟩ = some (fs2, r2) := by
          rw [runSteps, verStep, hrun]
          exact hrun2
        rw [hrs]
        simp only [RfPost]
        cases hb : r2.bad with
        | true => rfl
        | false =>
          obtain ⟨mid, hm, hf⟩ := hst2.st
          exact ⟨rfl, mid, by simpa using hm, FsAt.mono (by omega) _ _ hf⟩
      · intro hn w2' kk2
        have kall : Keeps [V] w w2' := ((kw3.mono (by simp)).trans (kk'.trans kk2) : Keeps [w1.heap.size, V] w w2').less fun x hx => by
          simp only [List.mem_cons, List.not_mem_nil, or_false] at hx ⊢
          omega
        refine ⟨kall, ?_⟩
        have hrs : runSteps (verStep c f16 :: ss) fs1 ⟨l, false, nilOf src⟩ = none := by
          rw [runSteps, verStep, hrun]
          exact hn
        rw [hrs]
        rfl
    cases v with
    | none => exact s_lok hld hrest
    | some y =>
      have hy := hv _ _ (Prod.ext rfl rfl : (PK.num 2 .i16).run ⟨l, false, nilOf src⟩ = (((PK.num 2 .i16).run ⟨l, false, nilOf src⟩).1, ((PK.num 2 .i16).run ⟨l, false, nilOf src⟩).2)) y rfl
      rw [hx0] at hy
      injection hy with hy
      injection hy with _ hy
      subst hy
      exact s_known hld hrest
  · intro hn w' kk'
    simp only [runStep] at hn
    cases hn

/-- rt_whole, whatever the octets' slice is. -/
theorem rt_wholeN {v x : Int} {fs : List PF} {ss : List Step} {ds : List TD} {dflt : List FV} {tg : Option Nat} {p : Nat} (hpl : PF.plains fs = true) (h : rtPlain v (pFlex x v) fs ss ds dflt p tg = true) (t : PT) (hok : t.ok) (nl : Bool) (hnl : nl = true → pWrite fs x v t = []) :
    ∃ fs1, runSteps ss dflt ⟨pWrite fs x v t, false, nl⟩ = some (fs1, ⟨[], false, nl⟩) ∧ pTold fs v (pFlex x v) t (tdGp ds tg fs1) = true ∧ ∀ q, q < p → fs1[q]? = dflt[q]? := by
  have hg : ∀ f ∈ fs, f.tag < 0 := fun f hf => PF.plain_tag (PF.plains_mem hpl f hf)
  have hS := rtPlain_ok v (pFlex x v) fs ss ds dflt p tg hpl h
  have e : pWrite fs x v t = pPlain fs v (pFlex x v) t 0 ++ pEndB (pFlex x v) (pUnknown fs t.u) := pPart_plain hg v _ t
  obtain ⟨fs1, h1, h2, h3, h4, h5, h6, h7⟩ := hS t 0 (pUnknown fs t.u) dflt [] nl hok (unknown_fine fs hok) (fun hn => by rw [List.append_nil, ← e]; exact hnl hn) fun q _ => rfl
  rw [List.append_nil, ← e] at h1
  refine ⟨fs1, h1, ?_, h2⟩
  have el : (tdGp ds tg fs1).l = TD.runs ds fs1 := rfl
  have eu : (tdGp ds tg fs1).u = tagsIn tg fs1 := rfl
  unfold pTold
  rw [Bool.and_eq_true, Bool.and_eq_true, decide_eq_true_eq, el, TD.runs_length]
  refine ⟨⟨h3, pTolds_get.2 fun j hj => ?_⟩, ?_⟩
  · have hd : j < ds.length := by omega
    have e2 : pAt (tdGp ds tg fs1) (0 + j) = ds[j].run fs1 := by
      unfold pAt
      rw [el, Nat.zero_add, List.getD_eq_getElem?_getD, List.getElem?_eq_getElem (by rw [TD.runs_length]; exact hd), TD.runs_get fs1 ds j hd]
      rfl
    rw [e2]
    exact h4 j hj hd
  · unfold pToldEnd
    simp only [eu, h5]
    cases pFlex x v with
    | false => rfl
    | true =>
      simp only [if_true, Bool.and_eq_true, decide_eq_true_eq]
      have hlen : (wholeTags (pUnknown fs t.u)).length = (pUnknown fs t.u).length := by simp [wholeTags]
      refine ⟨hlen, (pTagsTold_get hlen.symm).2 fun j h1 h2 => ?_⟩
      simp [wholeTags]

theorem run_ver {v : Int} (hv : IntKind.i16.wrap v = v) (rest : List UInt8) (nl : Bool) : (PK.num 2 .i16).run ⟨pFixed v 2 ++ rest, false, nl⟩ = (.one (.int .i16 v), ⟨rest, false, nl⟩) := by
  have h := rFix_fixed v 2 rest nl
  show (FV.one (.int .i16 (IntKind.i16.wrap ((rFix 2 ⟨pFixed v 2 ++ rest, false, nl⟩).1 : Int))), (rFix 2 ⟨pFixed v 2 ++ rest, false, nl⟩).2) = _
  rw [h]
  have e : IntKind.i16.wrap (((v % 2 ^ (8 * 2)).toNat : Nat) : Int) = v := by
    have h2 : (((v % 2 ^ (8 * 2)).toNat : Nat) : Int) = v % 2 ^ (8 * 2) := Int.toNat_of_nonneg (Int.emod_nonneg _ (by decide))
    rw [h2]
    simp only [IntKind.wrap, IntKind.bits, IntKind.signed] at hv ⊢
    simp at hv ⊢
    omega
  simp only [e]

end

end Go.Kf

namespace Go.Kf

open Go

/-- A field as it is typed: what is set, in order; the function that yields its parts. -/
structure FB where
  parts : List (Nat × Int)
  sub : Option Nat

def setParts : List Int → List (Nat × Int) → List Int
  | z, [] => z
  | z, p :: r => setParts (z.set p.1 p.2) r

def FB.pf (b : FB) (sub : List PF) : PF := match setParts [0, 0, 0, 0, 0, 0, 0] b.parts with
  | [k, f, t, n, g, d, e] => .mk k f t n g d e sub
  | _ => .mk 0 0 0 0 0 0 0 sub

def idxd : Nat → List Operand → List (Nat × Operand)
  | _, [] => []
  | k, x :: r => (k, x) :: idxd (k + 1) r

def gFB (s : SN) : List FB → Nat → List Operand → (Nat → List Operand → Tr) → Tr
  | [], n, acc, k => k n acc
  | ⟨ps, none⟩ :: r, n, acc, k => .op (.build s.field ⟨ps.map fun p => (p.1, .const (.int .i64 p.2))⟩) none [] (gFB s r (n + 1) (acc ++ [.tmp n]) k)
  | ⟨ps, some f⟩ :: r, n, acc, k => .op (callOp f []) none [] <| .op (.build s.field ⟨(ps.map fun p => (p.1, .const (.int .i64 p.2))) ++ [(7, .tmp n)]⟩) none [] (gFB s r (n + 2) (acc ++ [.tmp (n + 1)]) k)

def gFieldsFn (s : SN) (fbs : List FB) : Tr := gFB s fbs 0 [] fun n acc => .op (.buildSlice s.fields acc.length ⟨idxd 0 acc⟩) none [] <| .ret [(.tmp n, none)]

def gMsgFn (s : SN) (fbs : List FB) (x : Int) : Tr := .op (.alloc s.msg) none [] <| gFB s fbs 1 [] fun n acc => .op (.buildSlice s.fields acc.length ⟨idxd 0 acc⟩) none [] <|
  .op (.build s.msg ⟨[(1, .const (.int .i64 x)), (0, .tmp n)]⟩) none [] <| .op (.store s.msg (.tmp 0) (.tmp (n + 1))) none [] <| .ret [(.tmp 0, some s.msg)]

/-- The types' plans. -/
structure FbFacts (P : Program) (s : SN) : Prop where
  field : buildPlan P s.field = some ([.int .i64 0, .int .i64 0, .int .i64 0, .int .i64 0, .int .i64 0, .int .i64 0, .int .i64 0, .slice none 0 0], [(0, 1), (1, 1), (2, 1), (3, 1), (4, 1), (5, 1), (6, 1), (7, 1)])
  msg : buildPlan P s.msg = some ([.slice none 0 0, .int .i64 0], [(0, 1), (1, 1)])
  zero : zeroTy P s.msg = some (.agg ⟨[.slice none 0 0, .int .i64 0]⟩, 2)

/-- A function that yields a list of fields. -/
def FieldsFn (P : Program) (f : Nat) (fs : List PF) : Prop := ∀ w, Gives P f [] w fun v w' => FieldsV w' fs v ∧ Keeps [] w w'

/-- A function that yields a message. -/
def MsgFn (P : Program) (f : Nat) (fs : List PF) (x : Int) : Prop := ∀ w, Gives P f [] w fun v w' => (∃ fv, v = .agg ⟨[fv, .int .i64 x]⟩ ∧ FieldsV w' fs fv) ∧ Keeps [] w w'

def FbsOk (P : Program) : List FB → List PF → Prop
  | [], fs => fs = []
  | b :: r, fs => ∃ f fr, fs = f :: fr ∧ b.parts.all (fun p => Nat.blt p.1 7) = true ∧ (match b.sub with
    | none => f = b.pf []
    | some g => ∃ sub, FieldsFn P g sub ∧ f = b.pf sub) ∧ FbsOk P r fr

section

variable {P : Program} {c : Nums} {s : SN} {R : Value → World → Prop} {Γ : List (List Value → World → Prop)} {n : Nat} {ρ : Nat → Value} {w : World} {k : Tr}

theorem setParts_length : ∀ (ps : List (Nat × Int)) (z : List Int), (setParts z ps).length = z.length
  | [], _ => rfl
  | p :: r, z => by rw [setParts, setParts_length r]; simp

def plan8 : List (Nat × Nat) := [(0, 1), (1, 1), (2, 1), (3, 1), (4, 1), (5, 1), (6, 1), (7, 1)]

theorem plan8_at {i : Nat} (h : i < 8) : plan8[i]? = some (i, 1) := by
  have : i = 0 ∨ i = 1 ∨ i = 2 ∨ i = 3 ∨ i = 4 ∨ i = 5 ∨ i = 6 ∨ i = 7 := by omega
  rcases this with rfl | rfl | rfl | rfl | rfl | rfl | rfl | rfl <;> rfl

theorem fill_parts (tail : List (Nat × Value)) : ∀ (ps : List (Nat × Int)) (z : List Int), z.length = 7 → ps.all (fun p => Nat.blt p.1 7) = true →
    fillOnes plan8 (z.map (Value.int .i64) ++ [.slice none 0 0]) ((ps.map fun p => (p.1, Value.int .i64 p.2)) ++ tail) = fillOnes plan8 ((setParts z ps).map (Value.int .i64) ++ [.slice none 0 0]) tail
  | [], z, _, _ => rfl
  | p :: r, z, hz, h => by
    rw [List.all_cons, Bool.and_eq_true] at h
    have hp : p.1 < 7 := Nat.le_of_ble_eq_true h.1
    rw [List.map_cons, List.cons_append, fillOnes, plan8_at (by omega)]
    simp only
    rw [if_pos ⟨trivial, by simp; omega⟩, List.set_append_left _ _ (by simp; omega), ← List.map_set, setParts]
    exact fill_parts tail r _ (by simpa using hz) h.2

/-- A field, built. -/
theorem field_built {w' : World} (b : FB) (h : b.parts.all (fun p => Nat.blt p.1 7) = true) :
    (∃ cells, fillOnes plan8 [.int .i64 0, .int .i64 0, .int .i64 0, .int .i64 0, .int .i64 0, .int .i64 0, .int .i64 0, .slice none 0 0] (b.parts.map fun p => (p.1, Value.int .i64 p.2)) = some cells ∧ FieldC w' (b.pf []) cells) ∧
    ∀ (v : Value) (sub : List PF), FieldsV w' sub v → ∃ cells, fillOnes plan8 [.int .i64 0, .int .i64 0, .int .i64 0, .int .i64 0, .int .i64 0, .int .i64 0, .int .i64 0, .slice none 0 0] ((b.parts.map fun p => (p.1, Value.int .i64 p.2)) ++ [(7, v)]) = some cells ∧ FieldC w' (b.pf sub) cells := by
  have hl := setParts_length b.parts [0, 0, 0, 0, 0, 0, 0]
  have h0 := fill_parts [] b.parts [0, 0, 0, 0, 0, 0, 0] rfl h
  have h1 := fun v => fill_parts [(7, v)] b.parts [0, 0, 0, 0, 0, 0, 0] rfl h
  have ez : List.map (Value.int .i64) [0, 0, 0, 0, 0, 0, 0] ++ [Value.slice none 0 0] = [.int .i64 0, .int .i64 0, .int .i64 0, .int .i64 0, .int .i64 0, .int .i64 0, .int .i64 0, .slice none 0 0] := rfl
  rw [ez, List.append_nil] at h0
  simp only [ez] at h1
  unfold FB.pf
  generalize setParts [0, 0, 0, 0, 0, 0, 0] b.parts = z at hl h0 h1
  match z, hl with
  | [k, f, t, n, g, d, e], _ =>
    refine ⟨⟨_, h0, _, [], rfl, Ro.nil w' 8, rfl⟩, fun v sub hv => ?_⟩
    obtain ⟨scs, s1, s2⟩ := hv
    refine ⟨[.int .i64 k, .int .i64 f, .int .i64 t, .int .i64 n, .int .i64 g, .int .i64 d, .int .i64 e, v], ?_, v, scs, rfl, s1, s2⟩
    rw [h1 v]
    rfl

theorem Has.cells? {w : World} {b : Nat} {cs : List Value} (h : Has w b cs) (i : Nat) : w.cell? ⟨b, i, none⟩ = cs[i]? := by
  obtain ⟨t, fr, hb, _⟩ := h
  unfold World.cell?
  rw [show (⟨b, i, none⟩ : Addr).block = b from rfl, hb]
  simp

/-- Rows of eight cells don't lie in a small block. -/
theorem Ro.keepSmall {w w' : World} {b : Nat} {cs : List Value} (hb : Has w b cs) (hs : cs.length < 8) (hk : Keeps [b] w w') {v : Value} {n : Nat} {xs : List Value} (h : Ro w v 8 n xs) : Ro w' v 8 n xs := by
  refine ⟨h.1, ?_⟩
  rcases h.2 with h0 | ⟨d, o, cap, rfl, hd, hc, hx⟩
  · exact .inl h0
  · by_cases hn : n = 0
    · exact .inl ⟨hn, _, _, by rw [hn]⟩
    have hne : d ≠ b := by
      intro e
      subst e
      have h7 := hx 7 (by omega)
      rw [hb.cells?, List.getElem?_eq_none (by omega), List.getElem?_eq_getElem (by rw [h.1]; omega)] at h7
      cases h7
    exact .inr ⟨d, o, cap, rfl, Nat.lt_of_lt_of_le hd hk.size, hc, fun i hi => by rw [cell_keep hk hd (by simpa using hne)]; exact hx i hi⟩

mutual
theorem FieldC.keepSmall {w w' : World} {b : Nat} {ds : List Value} (hb : Has w b ds) (hs : ds.length < 8) (hk : Keeps [b] w w') : ∀ (f : PF) (cs : List Value), FieldC w f cs → FieldC w' f cs
  | .mk _ _ _ _ _ _ _ sub, _, ⟨sv, scs, e, h1, h2⟩ => ⟨sv, scs, e, Ro.keepSmall hb hs hk h1, FieldsC.keepSmall hb hs hk sub scs h2⟩
theorem FieldsC.keepSmall {w w' : World} {b : Nat} {ds : List Value} (hb : Has w b ds) (hs : ds.length < 8) (hk : Keeps [b] w w') : ∀ (fs : List PF) (cs : List Value), FieldsC w fs cs → FieldsC w' fs cs
  | [], _, h => h
  | f :: fs, _, ⟨c1, c2, e, h1, h2⟩ => ⟨c1, c2, e, FieldC.keepSmall hb hs hk f c1 h1, FieldsC.keepSmall hb hs hk fs c2 h2⟩
end

/-- What has been built so far. -/
def AccOk (ρ : Nat → Value) (w : World) (n : Nat) : List Operand → List PF → Prop
  | [], fs => fs = []
  | x :: r, fs => ∃ f fr cs, fs = f :: fr ∧ opBelow n x ∧ ev ρ x = .agg ⟨cs⟩ ∧ FieldC w f cs ∧ AccOk ρ w n r fr

theorem AccOk.more {ρ ρ' : Nat → Value} {w w' : World} {n n' : Nat} (hn : n ≤ n') (hρ : ∀ x, opBelow n x → ev ρ' x = ev ρ x) (hk : Keeps [] w w') : ∀ {xs : List Operand} {fs : List PF}, AccOk ρ w n xs fs → AccOk ρ' w' n' xs fs
  | [], _, h => h
  | x :: _, _, ⟨f, fr, cs, e, h1, h2, h3, h4⟩ => ⟨f, fr, cs, e, h1.mono hn, (hρ x h1).trans h2, FieldC.keep hk f cs h3, AccOk.more hn hρ hk h4⟩

theorem AccOk.snoc {f : PF} {x : Operand} {cs : List Value} (h1 : opBelow n x) (h2 : ev ρ x = .agg ⟨cs⟩) (h3 : FieldC w f cs) : ∀ {xs : List Operand} {fs : List PF}, AccOk ρ w n xs fs → AccOk ρ w n (xs ++ [x]) (fs ++ [f])
  | [], _, h => by simp only [AccOk] at h; subst h; exact ⟨f, [], cs, rfl, h1, h2, h3, rfl⟩
  | y :: r, _, ⟨g, fr, ds, e, q1, q2, q3, q4⟩ => ⟨g, fr ++ [f], ds, by rw [e]; rfl, q1, q2, q3, AccOk.snoc h1 h2 h3 q4⟩

theorem gFB_sem (S : SpFacts P c s) (B : FbFacts P s) {K : Nat → List Operand → Tr} : ∀ (fbs : List FB) (fs : List PF) (n : Nat) (acc : List Operand) (accs : List PF) (ρ : Nat → Value) (w : World), FbsOk P fbs fs → AccOk ρ w n acc accs →
    (∀ n' acc' ρ' w', n ≤ n' → Keeps [] w w' → (∀ x, opBelow n x → ev ρ' x = ev ρ x) → AccOk ρ' w' n' acc' (accs ++ fs) → acc'.length = (accs ++ fs).length → (K n' acc').sem P R Γ n' ρ' w') → acc.length = accs.length → (gFB s fbs n acc K).sem P R Γ n ρ w
  | [], fs, n, acc, accs, ρ, w, hf, ha, hk, hl => by
    simp only [FbsOk] at hf
    subst hf
    have := hk n acc ρ w (Nat.le_refl _) .refl (fun _ _ => rfl)
    simp only [List.append_nil] at this
    exact this ha hl
  | ⟨ps, none⟩ :: r, fs, n, acc, accs, ρ, w, hf, ha, hk, hl => by
    obtain ⟨f, fr, rfl, hp, he, hr⟩ := hf
    simp only at he
    obtain ⟨cells, hc1, hc2⟩ := (field_built (w' := w) ⟨ps, none⟩ hp).1
    simp only [gFB]
    refine s_val (v_build (cells := cells) B.field (fun p hp => ?_) ?_) ?_
    · obtain ⟨q, _, rfl⟩ := List.mem_map.1 hp
      rfl
    · rw [List.map_map]
      exact hc1
    refine gFB_sem S B r fr (n + 1) (acc ++ [.tmp n]) (accs ++ [f]) _ w hr ?_ (fun n' acc' ρ' w' hn kk hρ hacc hlen => ?_) (by simp [hl])
    · rw [he]
      have e0 : ev (ext ρ n [.agg ⟨cells⟩]) (.tmp n) = .agg ⟨cells⟩ := ext_at
      exact AccOk.snoc (by simp [opBelow]) e0 hc2 (AccOk.more (Nat.le_succ n) (fun x hx => ev_ext hx) .refl ha)
    · rw [List.append_assoc] at hacc hlen
      exact hk n' acc' ρ' w' (by omega) kk (fun x hx => (hρ x (hx.mono (Nat.le_succ n))).trans (ev_ext hx)) hacc hlen
  | ⟨ps, some g⟩ :: r, fs, n, acc, accs, ρ, w, hf, ha, hk, hl => by
    obtain ⟨f, fr, rfl, hp, he, hr⟩ := hf
    simp only at he
    obtain ⟨sub, hg, he⟩ := he
    simp only [gFB]
    refine s_callx (hg w) rfl fun v w1 ⟨hv, k1⟩ => ?_
    obtain ⟨cells, hc1, hc2⟩ := (field_built (w' := w1) ⟨ps, some g⟩ hp).2 v sub hv
    have hone : v.oneCell' = true := by
      obtain ⟨_, h1, _⟩ := hv
      exact h1.one
    refine s_val (v_build (cells := cells) B.field (fun p hp => ?_) ?_) ?_
    · rcases List.mem_append.1 hp with hp | hp
      · obtain ⟨q, _, rfl⟩ := List.mem_map.1 hp
        rfl
      · simp only [List.mem_singleton] at hp
        subst hp
        show (ev _ (.tmp n)).oneCell' = true
        rw [show ev (ext ρ n [v]) (.tmp n) = v from ext_at]
        exact hone
    · rw [List.map_append, List.map_map]
      have e1 : [(7, Operand.tmp n)].map (fun p : Nat × Operand => (p.1, ev (ext ρ n [v]) p.2)) = [(7, v)] := by
        simp only [List.map_cons, List.map_nil]
        rw [show ev (ext ρ n [v]) (.tmp n) = v from ext_at]
      rw [e1]
      exact hc1
    refine gFB_sem S B r fr (n + 2) (acc ++ [.tmp (n + 1)]) (accs ++ [f]) _ w1 hr ?_ (fun n' acc' ρ' w' hn kk hρ hacc hlen => ?_) (by simp [hl])
    · rw [he]
      have e0 : ev (ext (ext ρ n [v]) (n + 1) [.agg ⟨cells⟩]) (.tmp (n + 1)) = .agg ⟨cells⟩ := ext_at
      exact AccOk.snoc (by simp [opBelow]) e0 hc2 (AccOk.more (by omega) (fun x hx => (ev_ext (hx.mono (Nat.le_succ n))).trans (ev_ext hx)) k1 ha)
    · rw [List.append_assoc] at hacc hlen
      exact hk n' acc' ρ' w' (by omega) (k1.trans kk) (fun x hx => (hρ x (hx.mono (by omega))).trans ((ev_ext (hx.mono (Nat.le_succ n))).trans (ev_ext hx))) hacc hlen

theorem setRow (l : List Value) : ∀ (i : Nat) (acc : Array Value), i + l.length ≤ acc.size → (l.zipIdx i).foldl (fun (a : Array Value) (p : Value × Nat) => a.setIfInBounds p.2 p.1) acc = ⟨acc.toList.take i ++ l ++ acc.toList.drop (i + l.length)⟩ := by
  induction l with
  | nil =>
    intro i acc h
    apply Array.ext'
    simp
  | cons v l ih =>
    intro i acc h
    simp only [List.length_cons] at h
    simp only [List.zipIdx_cons, List.foldl_cons]
    rw [ih (i + 1) _ (by simp; omega)]
    apply Array.ext'
    simp only [Array.toList_setIfInBounds]
    rw [List.take_set, List.take_succ_eq_append_getElem (by simp; omega), List.set_append_right _ _ (by simp; omega)]
    have h3 : i - (acc.toList.take i).length = 0 := by simp; omega
    rw [h3, List.drop_set_of_lt (by omega)]
    simp only [List.set_cons_zero, List.append_assoc, List.singleton_append, List.length_cons]
    rw [show i + 1 + l.length = i + (l.length + 1) by omega]

theorem fill_rows {sz : Nat} : ∀ (xs : List (Value)) (css : List (List Value)) (k : Nat) (acc : Array Value), xs.map Value.cells = css.map (fun l => (⟨l⟩ : Array Value)) → (∀ l ∈ css, l.length = sz) → acc.size = (k + xs.length) * sz →
    Instr.fill (fun i => some (i * sz, sz)) acc ((xs.zipIdx k).map fun p => (p.2, p.1)) = some ⟨acc.toList.take (k * sz) ++ css.flatten⟩
  | [], css, k, acc, h1, h2, h3 => by
    have : css = [] := by simpa using h1.symm
    subst this
    simp only [List.zipIdx_nil, List.map_nil, Instr.fill, List.flatten_nil, List.append_nil, Option.some.injEq]
    apply Array.ext'
    simp only [List.length_nil, Nat.add_zero] at h3
    rw [List.take_of_length_le (by simp; omega)]
  | x :: xs, [], k, acc, h1, h2, h3 => by simp at h1
  | x :: xs, l :: css, k, acc, h1, h2, h3 => by
    simp only [List.map_cons, List.cons.injEq] at h1
    have hl := h2 l (by simp)
    simp only [List.length_cons] at h3
    have h4 : (k + 1 + xs.length) * sz = (k + (xs.length + 1)) * sz := by congr 1; omega
    have h5 : (k + (xs.length + 1)) * sz = k * sz + sz + xs.length * sz := by rw [Nat.add_mul, Nat.add_mul]; omega
    simp only [List.zipIdx_cons, List.map_cons]
    unfold Instr.fill
    simp only [h1.1]
    rw [if_neg (by simp [hl]; omega)]
    have e := setRow l (k * sz) acc (by rw [h3, h5, hl]; omega)
    have this : ∀ (l : List Value) (j m : Nat) (acc : Array Value), List.foldl (fun (cells : Array Value) (x : Value × Nat) => cells.setIfInBounds (m + x.2) x.1) acc (l.zipIdx j) = List.foldl (fun (a : Array Value) (p : Value × Nat) => a.setIfInBounds p.2 p.1) acc (l.zipIdx (m + j)) := by
      intro l
      induction l with
      | nil => intros; rfl
      | cons y l ih => intro j m acc; simp only [List.zipIdx_cons, List.foldl_cons]; rw [ih]; rfl
    have e2 : (Array.foldl (fun (cells : Array Value) (x : Value × Nat) => cells.setIfInBounds (k * sz + x.2) x.1) acc (Array.zipIdx (⟨l⟩ : Array Value))) = ⟨acc.toList.take (k * sz) ++ l ++ acc.toList.drop (k * sz + l.length)⟩ := by
      rw [← e, ← Array.foldl_toList, Array.toList_zipIdx]
      exact this l 0 (k * sz) acc
    have e3 : Instr.fill (fun i => some (i * sz, sz)) ⟨acc.toList.take (k * sz) ++ l ++ acc.toList.drop (k * sz + l.length)⟩ ((xs.zipIdx (k + 1)).map fun p => (p.2, p.1)) = some ⟨acc.toList.take (k * sz) ++ (l :: css).flatten⟩ := by
      have hk1 : k * sz ≤ acc.toList.length := by simp only [Array.length_toList]; omega
      have hk2 : (acc.toList.take (k * sz) ++ l).length = (k + 1) * sz := by rw [List.length_append, List.length_take, hl, Nat.min_eq_left hk1, Nat.add_mul]; omega
      rw [fill_rows xs css (k + 1) _ h1.2 (fun l' hl' => h2 l' (by simp [hl'])) (by
        simp only [List.size_toArray, List.length_append, List.length_take, List.length_drop, Array.length_toList]
        omega)]
      simp only [Option.some.injEq]
      rw [List.take_left' hk2, List.flatten_cons, List.append_assoc]
    exact (congrArg (fun a => Instr.fill (fun i => some (i * sz, sz)) a ((xs.zipIdx (k + 1)).map fun p => (p.2, p.1))) e2).trans e3

theorem idxd_map (ρ : Nat → Value) : ∀ (ops : List Operand) (k : Nat), (idxd k ops).map (fun p => (p.1, ev ρ p.2)) = ((ops.map (ev ρ)).zipIdx k).map fun p => (p.2, p.1)
  | [], _ => rfl
  | x :: r, k => by simp only [idxd, List.map_cons, List.zipIdx_cons, idxd_map ρ r (k + 1)]

/-- []T{x, y, ..} -/
theorem a_sliceMany {t e sz : Nat} {z : Value} {ops : List Operand} {css : List (List Value)} (ht : P.underlying t = some (.slice e)) (hz : zeroTy P e = some (z, sz)) (hpos : 0 < ops.length * sz) (hn : ops.length * sz ≤ 2 ^ 24)
    (hx : ops.map (fun x => (ev ρ x).cells) = css.map (fun l => (⟨l⟩ : Array Value))) (hl : ∀ l ∈ css, l.length = sz) :
    ∃ w', runOp P ρ (.buildSlice t ops.length ⟨idxd 0 ops⟩) w = .ok (.value (.slice (some ⟨w.heap.size, 0, none⟩) ops.length ops.length)) w' ∧ Has w' w.heap.size css.flatten ∧ Keeps [] w w' ∧ w'.heap.size = w.heap.size + 1 := by
  have hs := zeroTy_spec (w := w) hz
  refine ⟨{ w with heap := w.heap.push (.cells ⟨css.flatten⟩ e) }, ?_, has_alloc w _ e, keeps_alloc w _ _, by simp⟩
  have hfill := fill_rows (ops.map (ev ρ)) css 0 ((Array.range (ops.length * sz)).map (z.cells[· % z.cells.size]!)) (by rw [List.map_map]; exact hx) hl (by simp)
  rw [Nat.zero_mul, List.take_zero, List.nil_append] at hfill
  unfold runOp bareOp
  simp only [execOp, Instr.buildSlice, Sem.run_bind, run_under ht, Result.andThen_ok, size_run hs.2]
  rw [if_neg (by omega)]
  simp only [Sem.run_pure, Result.andThen_ok, if_neg (show ¬ ops.length * sz = 0 by omega), Sem.run_bind, hs.1]
  have e1 : (Array.map (fun x : Nat × Operand => (x.1, ev ρ x.2)) ⟨idxd 0 ops⟩).toList = ((ops.map (ev ρ)).zipIdx 0).map fun p => (p.2, p.1) := by
    rw [Array.toList_map]
    exact idxd_map ρ ops 0
  simp only [e1, hfill]
  simp [newRow]

theorem AccOk.list {n : Nat} : ∀ {xs : List Operand} {fs : List PF}, AccOk ρ w n xs fs → ∃ css : List (List Value), xs.map (fun x => (ev ρ x).cells) = css.map (fun l => (⟨l⟩ : Array Value)) ∧ (∀ l ∈ css, l.length = 8) ∧ FieldsC w fs css.flatten ∧ fs.length = xs.length ∧ css.length = xs.length
  | [], _, h => by simp only [AccOk] at h; subst h; exact ⟨[], rfl, (fun l hl => by cases hl), rfl, rfl, rfl⟩
  | x :: r, _, ⟨f, fr, cs, e, h1, h2, h3, h4⟩ => by
    obtain ⟨css, g1, g2, g3, g4, g5⟩ := AccOk.list h4
    subst e
    refine ⟨cs :: css, ?_, fun l hl => ?_, ⟨cs, css.flatten, rfl, h3, g3⟩, by simp [g4], by simp [g5]⟩
    · simp only [List.map_cons, h2, g1]
      rfl
    · rcases List.mem_cons.1 hl with rfl | hl
      · exact h3.len
      · exact g2 l hl

/-- The list of fields, behind their building. -/
theorem s_fieldList {acc : List Operand} {fs : List PF} (S : SpFacts P c s) (ha : AccOk ρ w n acc fs) (h0 : 0 < acc.length) (h1 : acc.length ≤ 1000) (hk : ∀ v w', FieldsV w' fs v → Keeps [] w w' → k.sem P R Γ (n + 1) (ext ρ n [v]) w') :
    (Tr.op (.buildSlice s.fields acc.length ⟨idxd 0 acc⟩) none [] k).sem P R Γ n ρ w := by
  obtain ⟨css, g1, g2, g3, g4, g5⟩ := ha.list
  obtain ⟨z, hz, _⟩ := S.zField
  obtain ⟨w', e1, hh, kk, _⟩ := a_sliceMany (P := P) (ρ := ρ) (w := w) (sz := 8) S.sl hz (by omega) (by omega) g1 g2
  refine s_act e1 (fun p hp => by cases hp) (hk _ w' ⟨css.flatten, ?_, FieldsC.keep kk fs _ g3⟩ kk)
  have hfl : ∀ l : List (List Value), (∀ x ∈ l, x.length = 8) → l.flatten.length = l.length * 8 := by
    intro l
    induction l with
    | nil => intro _; rfl
    | cons x l ih => intro h; rw [List.flatten_cons, List.length_append, ih fun y hy => h y (by simp [hy]), h x (by simp), List.length_cons]; omega
  refine ⟨by rw [hfl css g2, g5, g4], .inr ⟨w.heap.size, 0, acc.length, by rw [g4], hh.lt, by omega, fun i hi => ?_⟩⟩
  rw [Nat.zero_add]
  have hi' : i < css.flatten.length := by rw [hfl css g2, g5, ← g4]; exact hi
  rw [List.getElem?_eq_getElem hi']
  exact hh.cell (List.getElem?_eq_getElem hi')

theorem FbsOk.len : ∀ {fbs : List FB} {fs : List PF}, FbsOk P fbs fs → fs.length = fbs.length
  | [], _, h => by simp only [FbsOk] at h; subst h; rfl
  | _ :: r, _, ⟨f, fr, e, _, _, h⟩ => by subst e; simp [FbsOk.len h]

theorem fieldsFn_gives (S : SpFacts P c s) (B : FbFacts P s) {f : Nat} {fbs : List FB} {fs : List PF} (hT : treeIn P f noOrc [] 0 = gFieldsFn s fbs) (hf : FbsOk P fbs fs) (h0 : Nat.blt 0 fbs.length = true) (h1 : Nat.ble fbs.length 1000 = true) : FieldsFn P f fs := by
  intro w
  have hl := hf.len
  have q0 : 0 < fbs.length := Nat.le_of_ble_eq_true h0
  have q1 : fbs.length ≤ 1000 := Nat.le_of_ble_eq_true h1
  refine gives_in (ρ := en []) S.rd.mix hT (Nat.le_refl _) rfl (by simp) ?_
  refine gFB_sem S B fbs fs 0 [] [] (en []) w hf rfl (fun n' acc' ρ' w' _ kk _ ha hlen => ?_) rfl
  rw [List.nil_append] at ha hlen
  exact s_fieldList S ha (by omega) (by omega) fun v w2 hv k2 => s_ret1 ⟨by rw [show ev (ext ρ' n' [v]) (.tmp n') = v from ext_at]; exact hv, kk.trans k2⟩

theorem msgFn_gives (S : SpFacts P c s) (B : FbFacts P s) {f : Nat} {fbs : List FB} {fs : List PF} {x : Int} (hT : treeIn P f noOrc [] 0 = gMsgFn s fbs x) (hf : FbsOk P fbs fs) (h0 : Nat.blt 0 fbs.length = true) (h1 : Nat.ble fbs.length 1000 = true) : MsgFn P f fs x := by
  intro w
  have hl := hf.len
  have q0 : 0 < fbs.length := Nat.le_of_ble_eq_true h0
  have q1 : fbs.length ≤ 1000 := Nat.le_of_ble_eq_true h1
  refine gives_in (ρ := en []) S.rd.mix hT (Nat.le_refl _) rfl (by simp) ?_
  refine s_alloc B.zero fun w1 hz1 k1 z1 => ?_
  refine gFB_sem S B fbs fs 1 [] [] _ w1 hf rfl (fun n' acc' ρ' w' hn kk hρ ha hlen => ?_) rfl
  rw [List.nil_append] at ha hlen
  have hr0 : ρ' 0 = ptr w.heap.size := hρ (.tmp 0) (by simp [opBelow])
  refine s_fieldList S ha (by omega) (by omega) fun v w2 hv k2 => ?_
  have hone : v.oneCell' = true := by
    obtain ⟨_, h1, _⟩ := hv
    exact h1.one
  have ev1 : ev (ext ρ' n' [v]) (.tmp n') = v := ext_at
  refine s_val (v_build (cells := [v, .int .i64 x]) B.msg (fun p hp => ?_) ?_) ?_
  · simp only [List.mem_cons, List.not_mem_nil, or_false] at hp
    rcases hp with rfl | rfl
    · rfl
    · rw [ev1]; exact hone
  · simp only [List.map_cons, List.map_nil, ev1]
    rfl
  have hz2 := (hz1.keep kk (by simp)).keep k2 (by simp)
  refine s_storeAll (b := w.heap.size) (old := [.slice none 0 0, .int .i64 0]) (cs := [v, .int .i64 x]) S.msg ?_ ?_ hz2 rfl (fun u hu => ?_) fun w3 h3 k3 => ?_
  · show ext _ _ _ 0 = _
    rw [ext_lt (by omega), ext_lt (by omega)]
    exact hr0
  · rw [show ev (ext (ext ρ' n' [v]) (n' + 1) [.agg ⟨[v, .int .i64 x]⟩]) (.tmp (n' + 1)) = .agg ⟨[v, .int .i64 x]⟩ from ext_at]
    rfl
  · simp only [List.mem_cons, List.not_mem_nil, or_false] at hu
    rcases hu with rfl | rfl
    · exact hone
    · rfl
  have k03 : Keeps [] w w3 := ((((k1.trans kk).trans k2).mono (by simp)).trans k3).less fun x hx => .inr (by simp only [List.mem_singleton] at hx; omega)
  refine s_retAgg (b := w.heap.size) (cs := [v, .int .i64 x]) ?_ h3 S.msg ⟨⟨v, rfl, ?_⟩, k03⟩
  · show ext _ _ _ 0 = _
    rw [ext_lt (by omega), ext_lt (by omega), ext_lt (by omega)]
    exact hr0
  · obtain ⟨cs, f1, f2⟩ := hv
    exact ⟨cs, Ro.keepSmall hz2 (by decide) k3 f1, FieldsC.keepSmall hz2 (by decide) k3 fs cs f2⟩

end

end Go.Kf


namespace Go.Kf

open Go

section

variable {P : Program} {c : Nums} {s : SN} {w : World}

theorem DataIn.of_own {v : Value} {l : List UInt8} (h : Own w v 1 l.length (bcells l)) : DataIn w v l := by
  rcases h.2 with ⟨rfl, h0⟩ | ⟨b, cap, spare, rfl, hh, hc, _, _⟩
  · exact .inl ⟨rfl, List.eq_nil_of_length_eq_zero h0⟩
  · refine .inr ⟨_, cap, rfl, fun i hi => ?_⟩
    rw [addr_add, Nat.zero_add]
    refine hh.cell ?_
    rw [List.getElem?_append_left (by rw [bcells_length]; exact hi)]
    simp [bcells, hi]

theorem FieldsV.keepSmall {w' : World} {b : Nat} {ds : List Value} (hb : Has w b ds) (hs : ds.length < 8) (hk : Keeps [b] w w') {fs : List PF} {v : Value} (h : FieldsV w fs v) : FieldsV w' fs v := by
  obtain ⟨cs, h1, h2⟩ := h
  exact ⟨cs, h1.keepSmall hb hs hk, FieldsC.keepSmall hb hs hk fs cs h2⟩

end

end Go.Kf



namespace Go.Kf

open Go

def PT.setN (x : Int) : PT → PT | .mk _ s nl l u => .mk x s nl l u

theorem TreeAt.setN {w : World} {A : Nat → Prop} {t : PT} {cs : List Value} (x : Int) (h : TreeAt w A t cs) : TreeAt w A (t.setN x) (cs.set 0 (.int .i64 x)) := by
  cases t with
  | mk n s nl l u =>
    obtain ⟨sv, lv, uv, lcs, rfl, h1, h2, h3, h4, h5⟩ := h
    exact ⟨sv, lv, uv, lcs, rfl, h1, h2, h3, h4, h5⟩

/-- The version that has been read. -/
def verOf : List FV → Int
  | .one (.int _ x) :: _ => x
  | _ => 0

/-- What octets are told as. -/
def kOut (ss : List Step) (fs1 : List FV) (g : List FV → PT) (l : List UInt8) : Option PT := match runSteps ss fs1 ⟨l, false, l.isEmpty⟩ with
  | some (fs, r) => if r.bad then none else some ((g fs).setN (verOf fs))
  | none => none

/-- The cell of the version. -/
theorem ver_cell {D lo : Nat} {w : World} {fs : List FV} {mid : List Value} {ts : List Ty} (hok : okFs fs (.num .i16 :: ts)) (hf : FsAt D w lo fs mid) : mid[0]? = some (.int .i16 (verOf fs)) ∧ IntKind.i16.wrap (verOf fs) = verOf fs := by
  match fs, hok with
  | f :: fs, hok =>
    obtain ⟨g, hg, h0⟩ := okFs_get (i := 0) hok rfl
    obtain ⟨x, rfl, hx⟩ := okF_num h0
    obtain rfl : f = .one (.int .i16 x) := by simpa using hg
    obtain ⟨a1, m1, z1, em, ha1, hm1, _⟩ := hf.split (i := 0) (f := .one (.int .i16 x)) rfl
    have : a1 = [] := List.eq_nil_of_length_eq_zero (by rw [ha1]; rfl)
    subst this
    refine ⟨?_, hx⟩
    rw [em, hm1.1]
    rfl

/-- The reading and the telling of what is kept. -/
def KeptRT (P : Program) (c : Nums) (fRead fTell : Nat) (mid0 : List Value) (e0 : Value) (out : List UInt8 → Option PT) (l : List UInt8) : Prop := ∀ (w : World) (V D : Nat) (src : Value), Has w V mid0 → Reads w src 1 l.length (bcells l) → nilOf src = l.isEmpty → (∀ b ∈ blkOf src, b = D) → D < w.heap.size → V ≠ D → ErrAt w c.gErr e0 → c.gErr ≠ V →
  Gives P fRead [ptr V, src] w fun u w' => Keeps [V] w w' ∧ match out l with
    | some t => u = .nilIface ∧ ∃ t0 ver mid, t = t0.setN ver ∧ IntKind.i16.wrap ver = ver ∧ Has w' V mid ∧ mid[0]? = some (.int .i16 ver) ∧ Gives P fTell [ptr V] w' fun v w2 => (∃ cs, v = .agg ⟨cs⟩ ∧ TreeAt w2 (fun b => w'.heap.size ≤ b) t0 cs) ∧ Keeps [] w' w2
    | none => u = e0

theorem keptRT_of {P : Program} {c : Nums} {e : Fns} {f g fTell S fDef f16 : Nat} {ds : List Dset} {ls : List Nat} {ss : List Step} {vo : Option Int} {orc : Nat → Option Value} {uns : Bool} {fs0 fs1 : List FV} {mid0 mid1 : List Value} {ts : List Ty} {gp : List FV → PT} (F : RdFacts P c) (A : RfFacts P c S) (hOk : hasRet ss = true → OkGives P e.ok) (hCo : CompGives P e.complete c.gErr) (h16 : RdAny P f16 (.num 2 .i16)) (hsz16 : (P.info? c.tI16).map (·.size) = some 1) (hpl : PlaceOk P S ls 0 0 1)
    (hT : treeIn P g orc [.tmp 0, .tmp 1, .const (.bool uns)] 3 = gReadFromK c e S fDef f16 vo ss) (hW : treeIn P f noOrc [.tmp 0, .tmp 1] 2 = tWrap g uns) (hDef : DefSets P fDef ls ds) (hok : StepsOk P c S ls ss) (hdeep : deepsOk ss = true) (hsh : shapesOk fs0 ds = true) (h0 : fs0.map FV.wd = ls) (h01 : applyD ds fs0 = fs1)
    (himm0 : immL fs0 = some mid0) (himm : immL fs1 = some mid1) (hidx : ∀ x : FV, idxOk (fs1.set 0 x) ss = true) (hl1 : fs1.map FV.wd = ls) (hty : tySteps (.num .i16 :: ts) (verStep c f16 :: ss) = true) (htd : okImms fs1 (.num .i16 :: ts) = true) (hTell : TellOf P fTell (.num .i16 :: ts) gp) {e0 : Value} {l : List UInt8}
    (hv : ∀ x r', (PK.num 2 .i16).run ⟨l, false, l.isEmpty⟩ = (x, r') → ∀ y, vo = some y → x = .one (.int .i16 y)) (hl : l.length ≤ 1073741824) : KeptRT P c f fTell mid0 e0 (kOut (verStep c f16 :: ss) fs1 gp) l := by
  intro w V D src hV hr hn hb hD hVD he hgV
  refine wrap_gives F.mix hW ((readFromK_gives F A hOk hCo h16 hsz16 hpl hT hDef hok hdeep hsh h0 h01 himm hidx hl1 (by rw [hn]; exact hv) hV (fun D lo => immL_at himm0 D w lo) hr hb hD hVD he hgV hl).mono fun u w' ⟨kk, hp⟩ => ⟨kk, ?_⟩)
  rw [hn] at hp
  unfold kOut
  cases hrun : runSteps (verStep c f16 :: ss) fs1 ⟨l, false, l.isEmpty⟩ with
  | none => rw [hrun] at hp; exact hp
  | some x =>
    obtain ⟨fs, r⟩ := x
    rw [hrun] at hp
    simp only [RfPost] at hp
    cases hbad : r.bad with
    | true =>
      rw [hbad] at hp
      simp only [hbad, if_true] at hp ⊢
      exact hp
    | false =>
      rw [hbad] at hp
      obtain ⟨hu, mid, hm, hf⟩ := hp
      simp only [hbad, Bool.false_eq_true, if_false]
      have hokf := runSteps_ok _ _ fs1 _ fs r hty (okImms_ok htd) hl hrun
      have hvc := ver_cell hokf hf
      exact ⟨hu, gp fs, verOf fs, mid, rfl, hvc.2, hm, hvc.1, hTell w' D V w.heap.size [] [] mid fs hokf (by simpa using hm) hf⟩

end Go.Kf


namespace Go.Kf

open Go

def tKept (c : Nums) (s : SN) : Tr :=
  .op (.box s.msg (.tmp 0)) none [] <| .op (.box c.sTree (.tmp 2)) none [] <| .draw <| .lok (.load s.msg (.tmp 3)) none <| .lok (.load c.sTree (.tmp 4)) none <|
  .op (callOp s.fixed [.tmp 1, .const (.int .i64 2)]) none [(.load c.sTree (.tmp 4), 6), (.load s.msg (.tmp 3), 5)] <| .op (callOp s.write [.tmp 5, .tmp 1, .tmp 6]) none [] <|
  .op (.call { callee := .builtin .append, args := ⟨[.tmp 7, .tmp 8]⟩, argTypes := ⟨[c.tBytes, c.tBytes]⟩ }) none [] <| .ret [(.tmp 9, none)]

def pKept (fs : List PF) (x v : Int) (t : PT) : List UInt8 := pFixed v 2 ++ pWrite fs x v t

section

variable {P : Program} {c : Nums} {s : SN} {w : World}

theorem kept_gives {f : Nat} (S : SpFacts P c s) (T : SpTrees P c s) (hT : treeIn P f noOrc [.tmp 0, .tmp 1, .tmp 2] 3 = tKept c s) {fs : List PF} (h : PF.plains fs = true) (hlen : fs.length < 65536) {fv : Value} {t : PT} {ts : List Value} (x v : Int) (hfv : FieldsV w fs fv) (ht : TreeC w t ts) (hok : t.ok) (hl : (pKept fs x v t).length ≤ maxW) :
    YieldsO P f [.agg ⟨[fv, .int .i64 x]⟩, .int .i64 v, .agg ⟨ts⟩] w (pKept fs x v t) := by
  have htl := ht.len
  have hl2 : (pFixed v 2 ++ pWrite fs x v t).length ≤ maxW := hl
  rw [List.length_append] at hl2
  refine gives_in (ρ := en [_, _, _]) S.rd.mix hT (Nat.le_refl _) rfl (by simp [opBelow]) ?_
  refine s_box rfl fun w1 hx1 k1 z1 => ?_
  refine s_box rfl fun w2 hy2 k2 z2 => ?_
  have hx2 := hx1.keep k2 (by simp)
  show Tr.sem _ _ _ _ _ _ { w2 with drawn := w2.drawn + 1 }
  have hd : Keeps [] w2 { w2 with drawn := w2.drawn + 1 } := keeps_drawn w2 _ _
  generalize ({ w2 with drawn := w2.drawn + 1 } : World) = w3 at hd ⊢
  have hx3 := hx2.keep hd (by simp)
  have hy3 := hy2.keep hd (by simp)
  have k03 := (k1.trans k2).trans hd
  refine l_lok (l_loadN (b := w.heap.size) (o := 0) S.msg rfl hx3 (Nat.le_refl _)) ?_
  rw [show (([fv, Value.int .i64 x].drop 0).take 2) = [fv, .int .i64 x] from rfl]
  refine l_lok (l_loadN (b := w1.heap.size) (o := 0) S.ty.agg rfl hy3 (by omega)) ?_
  rw [take0 htl]
  refine s_callO (fixed_gives S T.fixed v 2 (by decide)) rfl fun u w4 hM => ⟨?_, ?_⟩
  · intro p hp
    simp only [List.mem_cons, List.not_mem_nil, or_false] at hp
    rcases hp with rfl | rfl
    · have := l_loadN (P := P) (ρ := en []) (w := w4) (x := .const (ptr w1.heap.size)) (b := w1.heap.size) (o := 0) S.ty.agg rfl (hy3.keep hM.2.2 (by simp)) (by omega)
      rw [take0 htl] at this
      exact this
    · exact l_loadN (P := P) (ρ := en []) (w := w4) (x := .const (ptr w.heap.size)) (b := w.heap.size) (o := 0) S.msg rfl (hx3.keep hM.2.2 (by simp)) (Nat.le_refl _)
  have k04 := k03.trans hM.2.2
  refine s_callO (write_gives S T h hlen x v (hfv.keep k04) (TreeC.keep k04 _ _ ht) hok (by omega)) rfl fun u2 w5 hM2 => ⟨fun p hp => (by cases hp), ?_⟩
  have hm : MadeO w3 w5 u (pFixed v 2) := MadeO.more hM hM2.2.2
  refine s_appendO (v := u) (u := u2) (l1 := pFixed v 2) (l2 := pWrite fs x v t) S rfl rfl hm (hM2.1.reads.src S.rd.bytes (bcells_one _)) (by rw [List.length_append]; exact hl2) fun v' w6 hm6 _ => ⟨fun p hp => (by cases hp), ?_⟩
  exact s_ret1 ⟨hm6.1, fun b hb => Nat.le_trans k03.size (hm6.2.1 b hb), k03.trans hm6.2.2⟩

end

end Go.Kf


namespace Go.Kf

open Go

/-- kmsg.New..: a struct set to its defaults, as a value. -/
def tNewV (S fDef : Nat) : Tr := .op (.alloc S) none [] <| .op (.alloc S) none [] <| .op (callOp fDef [.tmp 1]) none [] <| .op (.load S (.tmp 1)) none [] <| .op (.store S (.tmp 0) (.tmp 3)) none [] <| .ret [(.tmp 0, some S)]

def NewVOk (P : Program) (f : Nat) (mid : List Value) : Prop := ∀ w : World, Gives P f [] w fun v w' => v = .agg ⟨mid⟩ ∧ Keeps [] w w'

def tKeptDoor (c : Nums) (S fNew fRead fTell : Nat) : Tr :=
  .op (.alloc c.tTree) none [] <| .op (callOp fNew []) none [] <| .op (.alloc S) none [] <| .op (.store S (.tmp 3) (.tmp 2)) none [] <|
  .op (.call { callee := .builtin .append, args := ⟨[nilV, .tmp 0]⟩, argTypes := ⟨[c.tBytes, c.tBytes]⟩ }) none [] <| .op (callOp fRead [.tmp 3, .tmp 5]) none [] <| .op (.binOp .neq c.tErr (.tmp 6) (.const .nilIface) c.tErr) none [] <|
  .cond (.tmp 7) (.op (.build c.tTree ⟨[]⟩) none [] <| .op (.store c.tTree (.tmp 1) (.tmp 8)) none [] <| .ret [(.tmp 1, some c.tTree), (.const (.bool false), none)]) <|
  .op (callOp fTell [.tmp 3]) none [] <| .op (.alloc c.tTree) none [] <| .op (.store c.tTree (.tmp 9) (.tmp 8)) none [] <|
  .op (.fieldAddr S (.tmp 3) 0) none [] <| .op (.load c.tI16 (.tmp 11)) none [] <| .op (.convert c.tI16 c.tI64 (.tmp 12)) none [] <| .op (.fieldAddr c.tTree (.tmp 9) 0) none [] <| .op (.store c.tI64 (.tmp 14) (.tmp 13)) none [] <|
  .op (.load c.tTree (.tmp 9)) none [] <| .op (.store c.tTree (.tmp 1) (.tmp 16)) none [] <| .ret [(.tmp 1, some c.tTree), (.const (.bool true), none)]

section

variable {P : Program} {c : Nums} {w : World}

theorem newV_gives {f S fDef s : Nat} {z : Value} {dflt : List FV} {mid : List Value} (hmix : P.follows .mixedOrders = true) (hz : zeroTy P S = some (z, s)) (hagg : aggTy P S = some mid.length) (hzl : z.cells.toList.length = mid.length) (hones : mid.all (·.oneCell') = true) (hD : DefOk P fDef S dflt) (hmid : immL dflt = some mid) (hT : treeIn P f noOrc [] 0 = tNewV S fDef) : NewVOk P f mid := by
  intro w
  refine gives_in (ρ := en []) hmix hT (Nat.le_refl _) rfl (by simp) ?_
  obtain ⟨z', dc, hz', hdc, hdef⟩ := hD
  obtain rfl : z' = z := by
    unfold zeroTy at hz
    cases hi : P.info? S with
    | none => rw [hi] at hz'; cases hz'
    | some inf =>
      rw [hi] at hz'
      simp only [Option.map_some, Option.some.injEq] at hz'
      rw [hi] at hz
      simp only [hz', Option.some.injEq, Prod.mk.injEq] at hz
      exact hz.1
  refine s_alloc hz fun w0 h0 k0 z0 => ?_
  refine s_alloc hz fun w1 h1 k1 z1 => ?_
  have h2 := hdef w1 w0.heap.size [] [] (by simpa using h1)
  refine s_callx h2 rfl fun v w2 ⟨h3, k2⟩ => ?_
  have : dc = mid := immL_eq hmid (hdc 0 w 0)
  subst this
  have h3' : Has w2 w0.heap.size dc := by simpa using h3
  have hl := l_loadN (P := P) (ρ := ext (ext (ext (en []) 0 [ptr w.heap.size]) 1 [ptr w0.heap.size]) 2 [v]) (w := w2) (x := .tmp 1) (b := w0.heap.size) (o := 0) hagg rfl h3' (by omega)
  rw [List.drop_zero, List.take_of_length_le (Nat.le_refl _)] at hl
  refine s_lok hl ?_
  have h02 : Has w2 w.heap.size z'.cells.toList := (h0.keep k1 (by simp)).keep k2 (by simp; omega)
  refine s_storeAll (b := w.heap.size) (old := z'.cells.toList) (cs := dc) hagg rfl rfl h02 hzl (fun u hu => List.all_eq_true.1 hones u hu) fun w3 h3 k3 => ?_
  refine s_retAgg (b := w.heap.size) rfl h3 hagg ⟨rfl, ?_⟩
  · exact (((k0.trans (k1.mono (by simp))).mono (by simp)).trans ((k2.mono (M' := [w.heap.size, w0.heap.size]) (by simp)).trans (k3.mono (by simp)))).less fun x hx => .inr (by simp only [List.mem_cons, List.not_mem_nil, or_false] at hx; omega)

theorem keptDoor_gives {f fNew fRead fTell S s : Nat} {z : Value} {mid : List Value} {e0 : Value} {out : List UInt8 → Option PT} {data : Value} {l : List UInt8} (F : RdFacts P c) (O : OctFacts P c) (K : TellFacts P c) (Z : TyFacts P c c.tTree c.tTrees c.tTagL c.tTag) (hT : treeIn P f noOrc [.tmp 0] 1 = tKeptDoor c S fNew fRead fTell)
    (herr : ∃ ms, P.underlying c.tErr = some (.interface ms)) (he0 : ∃ d y, e0 = .iface d y) (hN : NewVOk P fNew mid) (hz : zeroTy P S = some (z, s)) (hzl : z.cells.toList.length = mid.length) (hagg : aggTy P S = some mid.length) (hones : mid.all (·.oneCell') = true) (hS0 : fieldOff P S 0 = some 0) (hone : oneTy P c.tI16 = true)
    (hRT : KeptRT P c fRead fTell mid e0 out l) (hl : l.length ≤ 1073741824) (hr : DataIn w data l) (he : ErrAt w c.gErr e0) : Gives P f [data] w fun v w' => DoorPost w w' v (out l) ∧ Keeps [] w w' := by
  refine gives_in (ρ := en [data]) F.mix hT (Nat.le_refl _) rfl (by simp [opBelow]) ?_
  refine s_alloc K.zero fun w1 h1 k1 z1 => ?_
  refine s_callx (hN w1) rfl fun v w2 ⟨hv, k2⟩ => ?_
  subst hv
  refine s_alloc hz fun w3a h3a k3a z3a => ?_
  refine s_storeAll (b := w2.heap.size) (old := z.cells.toList) (cs := mid) hagg rfl rfl h3a hzl (fun u hu => List.all_eq_true.1 hones u hu) fun w3 h3 k3b => ?_
  have s2 := k2.size
  have k23 : Keeps [] w2 w3 := ((k3a.mono (by simp)).trans k3b).less fun x hx => .inr (by simp only [List.mem_singleton] at hx; omega)
  have s3 := k23.size
  have k13 : Keeps [] w1 w3 := k2.trans k23
  have k03 := k1.trans k13
  have hr3 := hr.keep k03
  obtain ⟨src, w4, e4, ho4, k4, hb4, hnil⟩ := copy_octets (ρ := ext (ext (ext (ext (en [data]) 1 [ptr w.heap.size]) 2 [.agg ⟨mid⟩]) 3 [ptr w2.heap.size]) 4 [undef]) (x := .tmp 0) (v := data) F O rfl hr3 hl
  refine s_act e4 (fun p hp => (by cases hp)) ?_
  have h4 := h3.keep k4 (by simp)
  have k04 := k03.trans k4
  have he4 := he.keep k04 (by simp)
  have s4 := k4.size
  have hgl := he.2
  have hV4 := h4.lt
  obtain ⟨D, hD1, hD2, hD3⟩ : ∃ D, (∀ b ∈ blkOf src, b = D) ∧ D < w4.heap.size ∧ w2.heap.size ≠ D := by
    rcases ho4.2 with ⟨rfl, _⟩ | ⟨b, cap, spare, rfl, hh, _⟩
    · exact ⟨c.gErr, (fun b hb => by cases hb), by omega, by omega⟩
    · exact ⟨b, (fun x hx => by simpa [blkOf] using hx), hh.lt, by have := hb4 b (by simp [blkOf]); have := h3.lt; omega⟩
  refine s_callx (hRT w4 w2.heap.size D src h4 ho4.reads hnil hD1 hD2 hD3 he4 (by omega)) rfl fun u w5 ⟨k5, hout⟩ => ?_
  have h15 : Has w5 w.heap.size zeroTree := ((h1.keep k13 (by simp)).keep k4 (by simp)).keep k5 (by simp; omega)
  have k05 : Keeps [] w w5 := ((k04.mono (by simp)).trans k5).less fun x hx => .inr (by simp only [List.mem_singleton] at hx; omega)
  obtain ⟨ms, hms⟩ := herr
  cases ho : out l with
  | none =>
    rw [ho] at hout
    subst hout
    obtain ⟨d, y, rfl⟩ := he0
    refine s_val (v_neqNil (v := .iface d y) (r := true) hms rfl (.inr ⟨d, y, rfl, rfl⟩)) ?_
    refine s_cond (b := true) rfl (fun _ => ?_) (fun h => by cases h)
    refine s_val (v_build (cells := zeroTree) K.plan (fun p hp => by cases hp) rfl) ?_
    refine s_storeAll (b := w.heap.size) (old := zeroTree) (cs := zeroTree) Z.agg rfl rfl h15 rfl (zeroTree_at w (fun _ => True)).ones fun w6 h6 k6 => ?_
    refine s_retTold (b := w.heap.size) rfl h6 Z.agg ⟨rfl, ?_⟩
    exact ((k05.mono (by simp)).trans k6).less fun x hx => .inr (by simp only [List.mem_singleton] at hx; omega)
  | some t =>
    rw [ho] at hout
    obtain ⟨rfl, t0, ver, mid', rfl, hver, hm5, hmv, hTell⟩ := hout
    refine s_val (v_neqNil (v := .nilIface) (r := false) hms rfl (.inl ⟨rfl, rfl⟩)) ?_
    refine s_cond (b := false) rfl (fun h => by cases h) fun _ => ?_
    refine s_callx hTell rfl fun v w6 ⟨⟨cs, hv, ht⟩, k6⟩ => ?_
    subst hv
    have hcl := ht.len
    have s5 := k5.size
    have s6 := k6.size
    refine s_alloc K.zero fun w7 h7 k7 z7 => ?_
    refine s_storeAll (b := w6.heap.size) (old := zeroTree) (cs := cs) (by rw [hcl]; exact Z.agg) rfl rfl h7 (by rw [hcl]; rfl) ht.ones fun w8 h8 k8 => ?_
    have k68 : Keeps [] w6 w8 := ((k7.mono (by simp)).trans k8).less fun x hx => .inr (by simp only [List.mem_singleton] at hx; omega)
    have hm8 := (hm5.keep k6 (by simp)).keep k68 (by simp)
    refine s_fl (b := w2.heap.size) (o := 0) hS0 hone rfl rfl hm8 hmv ?_
    refine s_val (v_conv (k1 := .i16) (k2 := .i64) (a := ver) F.i16 Z.i64 rfl) ?_
    have hver64 : IntKind.i64.wrap ver = ver := by
      simp only [IntKind.wrap, IntKind.bits, IntKind.signed] at hver ⊢
      simp at hver ⊢
      omega
    rw [hver64]
    refine s_val (v_field (b := w6.heap.size) (o := 0) Z.f0 rfl) ?_
    obtain ⟨w9, e9, h9, k9⟩ := a_store1 (P := P) (w := w8) (t := c.tI64) (x := .tmp 14) (y := .tmp 13) (b := w6.heap.size) (o := 0) (v := .int .i64 ver) (ρ := ext (ext (ext (ext (ext (ext (ext (ext (ext (ext (ext (ext (ext (ext (en [data]) 1 [ptr w.heap.size]) 2 [.agg ⟨mid⟩]) 3 [ptr w2.heap.size]) 4 [undef]) 5 [src]) 6 [.nilIface]) 7 [.bool false]) 8 [.agg ⟨cs⟩]) 9 [ptr w6.heap.size]) 10 [undef]) 11 [ptr w2.heap.size]) 12 [.int .i16 ver]) 13 [.int .i64 ver]) 14 [ptr w6.heap.size]) Z.oneI64 rfl rfl rfl h8 (by omega)
    refine s_unit e9 (fun p hp => (by cases hp)) ?_
    have htr := ht.setN ver
    have k89 : Keeps [] w6 w9 := ((k68.mono (by simp)).trans k9).less fun x hx => .inr (by simp only [List.mem_singleton] at hx; omega)
    have hl9 := l_loadN (P := P) (ρ := ext (ext (ext (ext (ext (ext (ext (ext (ext (ext (ext (ext (ext (ext (ext (en [data]) 1 [ptr w.heap.size]) 2 [.agg ⟨mid⟩]) 3 [ptr w2.heap.size]) 4 [undef]) 5 [src]) 6 [.nilIface]) 7 [.bool false]) 8 [.agg ⟨cs⟩]) 9 [ptr w6.heap.size]) 10 [undef]) 11 [ptr w2.heap.size]) 12 [.int .i16 ver]) 13 [.int .i64 ver]) 14 [ptr w6.heap.size]) 15 [undef]) (w := w9) (x := .tmp 9) (b := w6.heap.size) (o := 0) Z.agg rfl h9 (by simp; omega)
    rw [show ((cs.set 0 (.int .i64 ver)).drop 0).take 5 = cs.set 0 (.int .i64 ver) by rw [List.drop_zero, List.take_of_length_le (by simp; omega)]] at hl9
    refine s_lok hl9 ?_
    have hsl : (cs.set 0 (.int .i64 ver)).length = 5 := by simp [hcl]
    refine s_storeAll (b := w.heap.size) (old := zeroTree) (cs := cs.set 0 (.int .i64 ver)) (by rw [hsl]; exact Z.agg) rfl rfl ((h15.keep k6 (by simp)).keep k89 (by simp)) (by rw [hsl]; rfl) htr.ones fun wa ha ka => ?_
    refine s_retTold (b := w.heap.size) rfl ha (by rw [hsl]; exact Z.agg) ⟨⟨_, rfl, ?_⟩, ?_⟩
    · exact TreeAt.keep ((k89.mono (by simp)).trans ka) (fun b hb h' => by simp only [List.mem_singleton] at hb; omega) (fun b h' _ => by omega) _ _ htr
    · exact ((((k05.trans k6).trans k89).mono (by simp)).trans ka).less fun x hx => .inr (by simp only [List.mem_singleton] at hx; omega)

end

end Go.Kf


namespace Go.Kf

open Go

def tTellLawK (c : Nums) (s : SN) (m fMsg fKept fTell fGot : Nat) : Tr :=
  .op (.box c.sTree (.tmp 1)) none [] <| .op (.load c.sTree (.tmp 2)) none [] <| .op (callOp s.fits1 [.tmp 3]) none [] <| .op (.unOp .not c.tBool (.tmp 4)) none [] <|
  .cond (.tmp 5) (.ret [(.const (.bool true), none)]) <| .op (callOp fMsg []) none [] <| .op (.convert c.tU8 c.tInt (.tmp 0)) none [] <| .op (.binOp .rem c.tInt (.tmp 7) (.const (.int .i64 (m : Int))) c.tInt) none [] <| .op (.alloc s.msg) none [] <| .op (.store s.msg (.tmp 9) (.tmp 6)) none [] <|
  .op (.load s.msg (.tmp 9)) none [] <| .op (.load c.sTree (.tmp 2)) none [] <| .op (callOp fKept [.tmp 11, .tmp 8, .tmp 12]) none [] <| .op (callOp fTell [.tmp 13]) none [] <|
  .op (.extract (.tmp 14) 0) none [] <| .op (.extract (.tmp 14) 1) none [] <| .op (.alloc c.tTree) none [] <| .op (.store c.tTree (.tmp 17) (.tmp 15)) none [] <| .draw <|
  .cond (.tmp 16) (.pur (.fieldAddr c.tTree (.tmp 17) 0) none <| .lok (.load c.tI64 (.tmp 19)) none <| .pur (.binOp .eql c.tI64 (.tmp 20) (.tmp 8) c.tI64) none <|
    .cond (.tmp 21) (.pur (.fieldAddr s.msg (.tmp 9) 0) none <| .lok (.load s.fields (.tmp 22)) none <| .lok (.load s.msg (.tmp 9)) none <| .lok (.load c.sTree (.tmp 2)) none <| .lok (.load c.tTree (.tmp 17)) none <|
      .op (callOp s.flex [.tmp 24, .tmp 8]) none [(.load c.tTree (.tmp 17), 26), (.load c.sTree (.tmp 2), 25), (.load s.fields (.tmp 22), 23), (.load c.tI64 (.tmp 19), 20)] <|
      .op (callOp fGot [.tmp 26]) none [(.load c.sTree (.tmp 2), 25), (.load s.fields (.tmp 22), 23), (.load c.tI64 (.tmp 19), 20)] <|
      .op (callOp s.told [.tmp 23, .tmp 8, .tmp 27, .tmp 25, .tmp 28]) none [(.load c.tI64 (.tmp 19), 20)] <| .ret [(.tmp 29, none)]) (.ret [(.const (.bool false), none)])) (.ret [(.const (.bool false), none)])

section

variable {P : Program} {c : Nums} {s : SN} {w : World}

theorem tellLawK_gives {f fMsg fKept fTell fGot n m : Nat} {fs : List PF} {x : Int} {e0 : Value} {out : List UInt8 → Option PT} {t : PT} {ts : List Value} (S : SpFacts P c s) (T : SpTrees P c s) (L : TlTrees P c s) (Fi : FitTrees P c s) (K : TellFacts P c) (Z : TyFacts P c c.tTree c.tTrees c.tTagL c.tTag)
    (hT : treeIn P f noOrc [.tmp 0, .tmp 1] 2 = tTellLawK c s m fMsg fKept fTell fGot) (hKept : treeIn P fKept noOrc [.tmp 0, .tmp 1, .tmp 2] 3 = tKept c s) (hpl : PF.plains fs = true) (hlen : fs.length < 65536)
    (hMsgZero : ∃ z, zeroTy P s.msg = some (z, 2) ∧ z.cells.toList.length = 2) (hm : 0 < m) (hn : n < 256) (hMsg : MsgFn P fMsg fs x)
    (hTell : ∀ (w : World) (data : Value), DataIn w data (pKept fs x (n % m : Nat) t) → ErrAt w c.gErr e0 → Gives P fTell [data] w fun v w' => DoorPost w w' v (out (pKept fs x (n % m : Nat) t)) ∧ Keeps [] w w')
    (hout : ∃ g, out (pKept fs x (n % m : Nat) t) = some g ∧ g.n = (n % m : Nat) ∧ pTold fs (n % m : Nat) (pFlex x (n % m : Nat)) t g = true) (hle : (pKept fs x (n % m : Nat) t).length ≤ 1073741824)
    (hGot : ∀ x, GotOf P fGot x) (ht : TreeC w t ts) (hok : t.ok) (he : ErrAt w c.gErr e0) : Gives P f [.int .u8 n, .agg ⟨ts⟩] w fun v w' => v = .bool true ∧ Keeps [] w w' := by
  have htl := ht.len
  refine gives_in (ρ := en [.int .u8 n, .agg ⟨ts⟩]) S.rd.mix hT (Nat.le_refl _) rfl (by simp [opBelow]) ?_
  refine s_box rfl fun w1 h2 k1 z1 => ?_
  refine s_lok (l_loadN (b := w.heap.size) (o := 0) S.ty.agg rfl h2 (by omega)) ?_
  rw [take0 htl]
  refine s_callx (fits1_gives S Fi (TreeC.keep k1 _ _ ht)) rfl fun u w2 ⟨⟨q, hq⟩, k2⟩ => ?_
  subst hq
  refine s_val (v_not (b := q) rfl) ?_
  refine s_cond (b := !q) rfl (fun _ => s_ret1 ⟨rfl, k1.trans k2⟩) fun _ => ?_
  refine s_callx (hMsg w2) rfl fun v w4 ⟨⟨fv, hv, hfv⟩, k4⟩ => ?_
  subst hv
  refine s_val (v_conv (k1 := .u8) (a := n) S.rd.u8 S.rd.int rfl) ?_
  rw [i64_small (by omega) (by omega)]
  refine s_val (v_rem (a := n) (b := m) rfl rfl hm) ?_
  have hone : fv.oneCell' = true := by
    obtain ⟨_, h1, _⟩ := hfv
    exact h1.one
  obtain ⟨zm, hzm, hzs⟩ := hMsgZero
  refine s_alloc hzm fun w6 h6 k6 z6 => ?_
  refine s_storeAll (b := w4.heap.size) (old := zm.cells.toList) (cs := [fv, .int .i64 x]) S.msg rfl rfl h6 hzs (fun u hu => ?_) fun w7 h7 k7 => ?_
  · simp only [List.mem_cons, List.not_mem_nil, or_false] at hu
    rcases hu with rfl | rfl
    · exact hone
    · rfl
  have k57 : Keeps [] w4 w7 := ((k6.mono (by simp)).trans k7).less fun y hy => .inr (by simp only [List.mem_singleton] at hy; omega)
  have hfv7 : FieldsV w7 fs fv := FieldsV.keep k57 hfv
  have k07 : Keeps [] w w7 := ((k1.trans k2).trans k4).trans k57
  have h27 : Has w7 w.heap.size ts := h2.keep ((k2.trans k4).trans k57) (by simp)
  refine s_lok (l_loadN (b := w4.heap.size) (o := 0) S.msg rfl h7 (Nat.le_refl _)) ?_
  rw [show (([fv, Value.int .i64 x].drop 0).take 2) = [fv, .int .i64 x] from rfl]
  refine s_lok (l_loadN (b := w.heap.size) (o := 0) S.ty.agg rfl h27 (by omega)) ?_
  rw [take0 htl]
  have hmx : (1073741824 : Nat) ≤ maxW := by decide
  refine s_callO (kept_gives S T hKept hpl hlen x (n % m : Nat) hfv7 (TreeC.keep k07 _ _ ht) hok (Nat.le_trans hle hmx)) rfl fun u w8 hM => ⟨fun p hp => (by cases hp), ?_⟩
  have k08 := k07.trans hM.2.2
  refine s_callx (hTell w8 u (DataIn.of_own hM.1) (he.keep k08 (by simp))) rfl fun v w9 ⟨hd, k9⟩ => ?_
  obtain ⟨g, hg1, hgn, hg2⟩ := hout
  rw [hg1] at hd
  obtain ⟨cs, rfl, htr⟩ := hd
  have hcl := htr.len
  refine s_val (v_extract (vs := #[.agg ⟨cs⟩, .bool true]) rfl rfl) ?_
  refine s_val (v_extract (vs := #[.agg ⟨cs⟩, .bool true]) rfl rfl) ?_
  refine s_alloc K.zero fun wa ha ka za => ?_
  refine s_storeAll (b := w9.heap.size) (old := zeroTree) (cs := cs) (by rw [hcl]; exact Z.agg) rfl rfl ha (by rw [hcl]; rfl) htr.ones fun wb hb kb => ?_
  have k9b : Keeps [] w9 wb := ((ka.mono (by simp)).trans kb).less fun y hy => .inr (by simp only [List.mem_singleton] at hy; omega)
  show Tr.sem _ _ _ _ _ _ { wb with drawn := wb.drawn + 1 }
  have hd : Keeps [] wb { wb with drawn := wb.drawn + 1 } := keeps_drawn wb _ _
  generalize ({ wb with drawn := wb.drawn + 1 } : World) = wc at hd ⊢
  have k7c : Keeps [] w7 wc := ((hM.2.2.trans k9).trans k9b).trans hd
  have k0c := k07.trans k7c
  have h7c := h7.keep k7c (by simp)
  have h2c := h27.keep k7c (by simp)
  have hbc := hb.keep hd (by simp)
  have hc0 : cs[0]? = some (.int .i64 (n % m : Nat)) := by
    cases g with
    | mk gn gs gnl gl gu =>
      obtain ⟨sv, lv, uv, lcs, rfl, _⟩ := htr
      simp only [PT.n] at hgn
      rw [hgn]
      rfl
  refine s_cond (b := true) rfl (fun _ => ?_) (fun h => by cases h)
  refine p_fl (b := w9.heap.size) (o := 0) Z.f0 Z.oneI64 rfl rfl hbc hc0 ?_
  refine p_val (v_cmp (kk := .i64) (a := (n % m : Nat)) (b := (n % m : Nat)) (r := true) rfl rfl (by simp [cmpOf])) ?_
  refine s_cond (b := true) rfl (fun _ => ?_) (fun h => by cases h)
  refine p_val (v_field (b := w4.heap.size) (o := 0) S.m0 rfl) ?_
  refine l_lok (l_load1 (b := w4.heap.size) (o := 0) S.oneFields rfl h7c rfl) ?_
  refine l_lok (l_loadN (b := w4.heap.size) (o := 0) S.msg rfl h7c (Nat.le_refl _)) ?_
  rw [show (([fv, Value.int .i64 x].drop 0).take 2) = [fv, .int .i64 x] from rfl]
  refine l_lok (l_loadN (b := w.heap.size) (o := 0) S.ty.agg rfl h2c (by omega)) ?_
  rw [take0 htl]
  refine l_lok (l_loadN (b := w9.heap.size) (o := 0) Z.agg rfl hbc (by omega)) ?_
  rw [take0 hcl]
  have ldT : ∀ (w' : World) (ρ : Nat → Value), Keeps [] wc w' → ρ 2 = ptr w.heap.size → runOp P ρ (.load c.sTree (.tmp 2)) w' = .ok (.value (.agg ⟨ts⟩)) w' := fun w' ρ kk hρ => by
    have := l_loadN (P := P) (ρ := ρ) (w := w') (x := .tmp 2) (b := w.heap.size) (o := 0) S.ty.agg hρ (h2c.keep kk (by simp)) (by omega)
    rwa [take0 htl] at this
  have ldF : ∀ (w' : World) (ρ : Nat → Value), Keeps [] wc w' → ρ 22 = ptr w4.heap.size 0 → runOp P ρ (.load s.fields (.tmp 22)) w' = .ok (.value fv) w' := fun w' ρ kk hρ =>
    l_load1 (P := P) (ρ := ρ) (w := w') (x := .tmp 22) (b := w4.heap.size) (o := 0) S.oneFields hρ (h7c.keep kk (by simp)) rfl
  have ldN : ∀ (w' : World) (ρ : Nat → Value), Keeps [] wc w' → ρ 19 = ptr w9.heap.size 0 → runOp P ρ (.load c.tI64 (.tmp 19)) w' = .ok (.value (.int .i64 (n % m : Nat))) w' := fun w' ρ kk hρ =>
    l_load1 (P := P) (ρ := ρ) (w := w') (x := .tmp 19) (b := w9.heap.size) (o := 0) Z.oneI64 hρ (hbc.keep kk (by simp)) hc0
  refine s_call (xs := [.tmp 24, .tmp 8]) (flex_gives S L.flex fv x (n % m : Nat)) fun u wd ⟨hu, kd⟩ => ⟨?_, ?_⟩
  · intro p hp
    simp only [List.mem_cons, List.not_mem_nil, or_false] at hp
    rcases hp with rfl | rfl | rfl | rfl
    · have := l_loadN (P := P) (ρ := en []) (w := wd) (x := .const (ptr w9.heap.size)) (b := w9.heap.size) (o := 0) Z.agg rfl (hbc.keep kd (by simp)) (by omega)
      rw [take0 hcl] at this
      exact this
    · exact ldT wd _ kd rfl
    · exact ldF wd _ kd rfl
    · exact ldN wd _ kd rfl
  subst hu
  have htc : TreeAt wd (fun b => w8.heap.size ≤ b) g cs := TreeAt.keep ((k9b.trans hd).trans kd) (fun b hb => by cases hb) (fun _ h _ => h) _ _ htr
  refine s_call (xs := [.tmp 26]) (hGot g wd _ cs htc) fun u we ⟨⟨gs, hu, hgt⟩, ke⟩ => ⟨?_, ?_⟩
  · intro p hp
    simp only [List.mem_cons, List.not_mem_nil, or_false] at hp
    rcases hp with rfl | rfl | rfl
    · exact ldT we _ (kd.trans ke) rfl
    · exact ldF we _ (kd.trans ke) rfl
    · exact ldN we _ (kd.trans ke) rfl
  subst hu
  have k7e := (k7c.trans kd).trans ke
  refine s_call (xs := [.tmp 23, .tmp 8, .tmp 27, .tmp 25, .tmp 28]) (told_all S T L hpl hlen we fv (n % m : Nat) (pFlex x (n % m : Nat)) t g ts gs (hfv7.keep k7e) (TreeC.keep (k07.trans k7e) _ _ ht) (TreeC.of_at hgt) hok) fun u wf ⟨hu, kf⟩ => ⟨?_, ?_⟩
  · intro p hp
    simp only [List.mem_cons, List.not_mem_nil, or_false] at hp
    subst hp
    exact ldN wf _ ((kd.trans ke).trans kf) rfl
  rw [hg2] at hu
  exact s_ret1 ⟨hu, (k07.trans k7e).trans kf⟩

theorem pTolds_setN (v x : Int) (flex : Bool) (t g : PT) : ∀ (fs : List PF) (i : Nat), pTolds fs v flex t (g.setN x) i = pTolds fs v flex t g i
  | [], _ => rfl
  | f :: r, i => by
    have e : pAt (g.setN x) i = pAt g i := by cases g; rfl
    simp only [pTolds, e, pTolds_setN v x flex t g r (i + 1)]

/-- What is kept is told as it was. -/
theorem kOut_kept {v x : Int} {fs : List PF} {ss : List Step} {ds : List TD} {dflt : List FV} {tg : Option Nat} {f16 : Nat} {cT : Nums} {gp : List FV → PT} (hpl : PF.plains fs = true) (hg : ∀ gs, gp gs = tdGp ds tg gs) (hv : IntKind.i16.wrap v = v) (hd : dflt.length ≠ 0) (h : rtPlain v (pFlex x v) fs ss ds (dflt.set 0 (.one (.int .i16 v))) 1 tg = true) (t : PT) (hok : t.ok) :
    ∃ g, kOut (verStep cT f16 :: ss) dflt gp (pKept fs x v t) = some g ∧ g.n = v ∧ pTold fs v (pFlex x v) t g = true := by
  obtain ⟨fs1, h1, h2, h3⟩ := rt_wholeN hpl h t hok false (fun h => by cases h)
  have hne : (pKept fs x v t).isEmpty = false := by
    unfold pKept
    cases hp : pFixed v 2 with
    | nil => have := pFixed_length v 2; rw [hp] at this; simp at this
    | cons a b => rfl
  refine ⟨(gp fs1).setN v, ?_, ?_, ?_⟩
  · unfold kOut
    rw [hne]
    have e1 : runStep (verStep cT f16) dflt ⟨pKept fs x v t, false, false⟩ = some (dflt.set 0 (.one (.int .i16 v)), ⟨pWrite fs x v t, false, false⟩) := by
      simp only [verStep, runStep, pKept, run_ver hv]
    have hz : verOf fs1 = v := by
      have h30 := h3 0 (by omega)
      rw [List.getElem?_set_self (by omega)] at h30
      cases fs1 with
      | nil => cases h30
      | cons a r =>
        simp only [List.getElem?_cons_zero, Option.some.injEq] at h30
        rw [h30]
        rfl
    simp only [runSteps, e1, h1, Bool.false_eq_true, if_false, hz]
  · cases gp fs1; rfl
  · have e2 : pTold fs v (pFlex x v) t ((gp fs1).setN v) = pTold fs v (pFlex x v) t (gp fs1) := by
      have e3 := pTolds_setN v v (pFlex x v) t (gp fs1) fs 0
      unfold pTold
      rw [e3]
      cases gp fs1; rfl
    rw [e2, hg]
    exact h2

/-- The version that stands ahead of what is kept. -/
theorem kept_ver {v x : Int} {fs : List PF} {t : PT} (hv : IntKind.i16.wrap v = v) : ∀ y r', (PK.num 2 .i16).run ⟨pKept fs x v t, false, (pKept fs x v t).isEmpty⟩ = (y, r') → ∀ z, some v = some z → y = .one (.int .i16 z) := by
  intro y r' h z hz
  cases hz
  unfold pKept at h
  rw [run_ver hv] at h
  simp only [Prod.mk.injEq] at h
  exact h.1.symm

end

end Go.Kf

namespace Go.Kf

open Go Go.ChangeShapes Go.WideShapes Go.RowKit

theorem below_keeps {w w' : World} (h : Keeps [] w w') : Below w.heap.size w w' := ⟨h.os, h.tape, h.output, h.size, fun k hk => h.block k hk (by simp)⟩

theorem law_rowT {H : Type} {enc : TypeId × Value → H} {P : Program} {c : Nums} {sn : SN} {fn : Func} {s : ChangeSpec} {tU tB : Nat} {B : DataW H → Nat} {BA : List (DataW H) → Nat} (S : SpFacts P c sn) (T : RowTypes P c) (L : BulkLaws B BA)
    (hp : fn.params = #[tU, c.sTree]) (hr : fn.resultTypes = #[tB]) (hu : P.underlying tU = some (.int .u8)) (hb : P.underlying tB = some .bool)
    (hs : ∀ (H : Type) (d1 d2 : DataW H), s.fn H [d1, d2] = { results := [.lit (.bool true)], args := [d1, d2] }) (hvs : s.vars = []) {W : World} {base : Nat} {args : Array Value} {ds gs : List (DataW H)} {before : List MemPlace}
    (hval : ∀ (j : Nat) t v, fn.params[j]? = some t → args[j]? = some v → Value.okWide P W .any base t v) (hW : DataW.Whole enc P fn.params.toList s.vars false W args.toList ds gs before) (hB : BA (ds ++ gs) ≤ 1048576) :
    ∃ (n : Nat) (t : PT) (ts : List Value), n < 256 ∧ args = #[.int .u8 n, .agg ⟨ts⟩] ∧ TreeC W t ts ∧ t.ok ∧ t.wt ≤ 1048576 ∧ ∀ W', Keeps [] W W' → s.post enc P fn false true false false W args (.bool true) W' := by
  have hlt := hW.lt
  have hW0 := hW
  obtain ⟨p, q, hA, hV, rfl, hfz, hnd⟩ := hW
  rw [hvs] at hV
  obtain ⟨rfl, rfl⟩ := trodVars_none hV
  rw [hp] at hA hval
  obtain ⟨v0, vs0, d0, ds0, p0, q0, hargs, rfl, rfl, h0, r0⟩ := trodAll_cons hA
  obtain ⟨v1, vs1, d1, ds1, p1, q1, rfl, rfl, rfl, h1, r1⟩ := trodAll_cons r0
  obtain ⟨rfl, rfl, rfl⟩ := trodAll_nil r1
  obtain rfl : args = #[v0, v1] := by cases args; simp_all
  obtain ⟨n0, rfl, rfl, rfl, hw0⟩ := open_int hu (hval 0 tU v0 rfl rfl) h0
  obtain ⟨n, rfl, hn⟩ := lit_u8 hw0
  obtain ⟨fs, hfs, _⟩ := struct_of T.tree
  obtain ⟨cs, rfl, _⟩ := okWide_struct hfs (hval 1 c.sTree v1 rfl rfl)
  simp only [List.append_nil, L.cons, L.nil] at hB
  obtain ⟨fuel, hf⟩ := id h1
  obtain ⟨ts⟩ := cs
  obtain ⟨t, ht, hok, hwt⟩ := open_tree S T L fuel (x := (d1, p1)) hf (by show B d1 < _; omega)
  have hwt : t.wt ≤ B d1 := hwt
  refine ⟨n, t, ts, hn, rfl, ht, hok, by omega, fun W' hk => ?_⟩
  refine ⟨_, _, _, [], [] ++ (p1 ++ []), [], hW0, ?_, ?_, ?_, ?_, fun h => by cases h⟩
  · rw [List.append_nil, hs, hr]
    exact trodAll_cons_mk (shut_bool hb _) trodAll_mk0
  · rw [List.append_nil, hs, hp]
    refine trodAll_cons_mk ⟨1, trod_int_mk 0 hu hw0⟩ (trodAll_cons_mk (Below.trod T.laid T.rr T.row h1 (below_keeps hk) fun x hx => hlt x (by simpa using hx)) trodAll_mk0)
  · rw [hvs, List.append_nil, hs]; rfl
  · exact World.keptBut_mono (fun p hp => ⟨hp, .inr (.inl (by simpa using hp))⟩) (keptBut_keeps hk _)

end Go.Kf
