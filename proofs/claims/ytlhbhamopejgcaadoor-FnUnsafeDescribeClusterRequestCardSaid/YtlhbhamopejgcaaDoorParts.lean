/- The types and the reader's functions, at this seat. -/
import Derived.Test.YtlhbhamopejgcaaDoorKf3
import Derived.Test.YtlhbhamopejgcaaDoorBin
namespace Go.Proofs.YtlhbhamopejgcaaDoor
open Go Go.Kf

noncomputable abbrev P : Program := Tryd.prog
def N : Nums := { tInt := 3, tBool := 4, tU8 := 5, tI8 := 87, tI16 := 47, tU16 := 88, tI32 := 21, tU32 := 61, tI64 := 2, tU64 := 84, tUint := 109, tStr := 9, tBytes := 22, tErr := 55, tPStr := 99999, tUuid := 99999, tRd := 93, tBig := 113, gBig := 0, gErr := 1, tTags := 72, tMap := 70, tKeys := 100, tTree := 37, tTrees := 34, tTagL := 35, tTag := 63, sTree := 26, sTrees := 23, sTagL := 24, sTag := 64 }

theorem rdF : RdFacts P N := ⟨by kernel_rfl, by kernel_rfl, by kernel_rfl, by kernel_rfl, by kernel_rfl, by kernel_rfl, by kernel_rfl, by kernel_rfl, by kernel_rfl, by kernel_rfl, by kernel_rfl, by kernel_rfl, by kernel_rfl, by kernel_rfl, by kernel_rfl, by kernel_rfl⟩
theorem tyY : TyFacts P N N.sTree N.sTrees N.sTagL N.sTag := ⟨by kernel_rfl, by kernel_rfl, by kernel_rfl, by kernel_rfl, by kernel_rfl, by kernel_rfl, by kernel_rfl, by kernel_rfl, by kernel_rfl, by kernel_rfl, by kernel_rfl, by kernel_rfl, by kernel_rfl, by kernel_rfl, by kernel_rfl, by kernel_rfl, by kernel_rfl⟩
theorem tyZ : TyFacts P N N.tTree N.tTrees N.tTagL N.tTag := ⟨by kernel_rfl, by kernel_rfl, by kernel_rfl, by kernel_rfl, by kernel_rfl, by kernel_rfl, by kernel_rfl, by kernel_rfl, by kernel_rfl, by kernel_rfl, by kernel_rfl, by kernel_rfl, by kernel_rfl, by kernel_rfl, by kernel_rfl, by kernel_rfl, by kernel_rfl⟩
theorem rowT : RowFacts P N.tTree 5 := .of (by kernel_rfl) (by kernel_rfl) (by decide)
theorem rowS : RowFacts P N.sTree 5 := .of (by kernel_rfl) (by kernel_rfl) (by decide)
theorem rowSg : RowFacts P N.sTag 2 := .of (by kernel_rfl) (by kernel_rfl) (by decide)
theorem rowTg : RowFacts P N.tTag 2 := .of (by kernel_rfl) (by kernel_rfl) (by decide)
theorem tellF : TellFacts P N := ⟨by kernel_rfl, by kernel_rfl, rowT, by kernel_rfl⟩
theorem gotF : GotFacts P N := .of (by kernel_rfl) (by kernel_rfl) (by kernel_rfl) (by kernel_rfl) (by kernel_rfl) rowS rowSg
theorem octF : OctFacts P N := .of (by kernel_rfl)
theorem oneStr : oneTy P N.tStr = true := by kernel_rfl
theorem hBe16 : BeGives P 66 2 .u16 := be16 Tryd.laysBin36 rfl (by kernel_rfl)
theorem hBe32 : BeGives P 65 4 .u32 := be32 Tryd.laysBin39 rfl (by kernel_rfl)
theorem hBe64 : BeGives P 76 8 .u64 := be64 Tryd.laysBin42 rfl (by kernel_rfl)
theorem hSpan : RdSpan P 70 := span_gives rdF (by kernel_rfl)
theorem hInt16 : RdNum P 51 2 .i16 := fix_gives rdF (by kernel_rfl : P.underlying N.tU16 = some (.int .u16)) rdF.i16 hBe16 rfl (by kernel_rfl)
theorem hInt32 : RdNum P 50 4 .i32 := fix_gives rdF rdF.u32 rdF.i32 hBe32 rfl (by kernel_rfl)
theorem hU64 : RdNum P 67 8 .u64 := fix0_gives rdF hBe64 wrap_u64 rfl (by kernel_rfl)
theorem hInt64 : RdNum P 52 8 .i64 := conv_gives rdF (by kernel_rfl : P.underlying N.tU64 = some (.int .u64)) (by kernel_rfl : P.underlying N.tI64 = some (.int .i64)) hU64 wrap_i64_u64 (by kernel_rfl)
theorem hInt8 : RdNum P 64 1 .i8 := int8_gives rdF (by kernel_rfl) (by kernel_rfl)
theorem hBool : RdBool P 63 := bool_gives rdF (by kernel_rfl)
theorem hUv : UvGives P 77 := uvarint_gives rdF (by kernel_rfl)
theorem hUvarint : RdUv P 68 := rdUvarint_gives rdF hUv (by kernel_rfl)
theorem hComplete : CompGives P 54 N.gErr := fun _ _ _ _ _ h he => complete_gives rdF (by kernel_rfl) h he
def E : Fns := ⟨99999, 54⟩
theorem aInt8 : RdAny P 64 (.num 1 .i8) := any_num hInt8
theorem aInt16 : RdAny P 51 (.num 2 .i16) := any_num hInt16
theorem aInt32 : RdAny P 50 (.num 4 .i32) := any_num hInt32
theorem aInt64 : RdAny P 52 (.num 8 .i64) := any_num hInt64
theorem aBool : RdAny P 63 .bool := any_bool hBool
theorem hSame : SameGives P 33 := same_gives rdF (by kernel_rfl)
theorem hSameTree : ∀ x, SameTreeOf P 16 x := sameTree_gives rdF tyY hSame (by kernel_rfl)
theorem hGot : ∀ x, GotOf P 12 x := got_gives rdF tyY tyZ gotF (by kernel_rfl)
theorem tagF : TagFacts P N := ⟨by kernel_rfl, by kernel_rfl, by kernel_rfl, by kernel_rfl, by kernel_rfl, by kernel_rfl, by kernel_rfl, by kernel_rfl, by kernel_rfl, by kernel_rfl⟩
theorem hSpanA : RdSpanA P 70 := spanA_gives rdF (by kernel_rfl)
theorem hTagSet : TagSet P 69 := tagSet_gives rdF tagF (by kernel_rfl)
theorem aTags : RdAny P 53 .tags := readTags_gives rdF tagF hUvarint hSpanA hTagSet (by kernel_rfl)
noncomputable def siT : TypeInfo := (P.info? 100).get (by kernel_rfl)
noncomputable def siE : TypeInfo := (P.info? 61).get (by kernel_rfl)
theorem siK (n : Nat) (h2 : 2 ≤ n) : Lib.swapperK n siE 10 = 6 := by
  have a : siE.hasPointers = false := by kernel_rfl
  have b : siE.bytes = 4 := by kernel_rfl
  have c : (n == 0) = false := by simp; omega
  have d : (n == 1) = false := by simp; omega
  simp [Lib.swapperK, a, b, c, d]
theorem sortAt : SortAt P N 55 56 := {
  many := fun blk cap d lb w h2 hsz hless hH hblk => Any.sort_Slice_sorted Tryd.laysGg6 100 61 siT siE (by kernel_rfl) (by kernel_rfl) (by kernel_rfl) (by kernel_rfl) 10 (fun _ => by kernel_rfl) (by kernel_rfl) (fun _ => by kernel_rfl) encK (fun _ => rfl) Go.Sort.ltInt Go.Sort.swo_ltInt 56 lb (enters_of Tryd.func56 (by kernel_rfl) rfl) blk 0 cap d h2 hsz 83 (by rw [siK _ h2]; kernel_rfl) true (fun args W => run_callFunc_extern Tryd.func83 (by kernel_rfl) (by kernel_rfl) (by kernel_rfl) (e := Extern.ReflectliteSwapper.swap true) (by kernel_rfl) args W) w hless hH hblk
  one := fun p cap lb w => Any.sort_Slice_tiny Tryd.laysGg6 100 61 siT siE (by kernel_rfl) (by kernel_rfl) (by kernel_rfl) (by kernel_rfl) 10 (fun _ => by kernel_rfl) p 1 cap (Nat.le_refl _) 79 (by rw [show Lib.swapperK 1 siE 10 = 2 from rfl]; kernel_rfl) (.func 56) #[] lb w }
theorem hSort : SortGives P N 55 56 := sort_gives rdF tagF (by kernel_rfl) sortAt (by kernel_rfl)
theorem hEach : EachGives P 36 := each_gives rdF tagF hSort (by kernel_rfl)
theorem hSorted : SortedGives P 38 := sorted_gives rdF tyZ (by kernel_rfl)
theorem tagPlan : buildPlan P N.tTag = some ([.int .u32 0, .slice none 0 0], [(0, 1), (1, 1)]) := by kernel_rfl
theorem cBool : TellCellTy P 48 .bool := boolTree_gives rdF tyZ tellF (by kernel_rfl)
end Go.Proofs.YtlhbhamopejgcaaDoor
