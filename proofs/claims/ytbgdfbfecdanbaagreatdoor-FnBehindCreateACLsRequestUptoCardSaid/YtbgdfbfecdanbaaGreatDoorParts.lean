/- The types and the reader's functions, at this seat. -/
import Derived.Test.YtbgdfbfecdanbaaGreatDoorKf5
import Derived.Test.YtbgdfbfecdanbaaGreatDoorBin
namespace Go.Proofs.YtbgdfbfecdanbaaGreatDoor
open Go Go.Kf

noncomputable abbrev P : Program := Tryz.prog
def N : Nums := { tInt := 3, tBool := 4, tU8 := 5, tI8 := 88, tI16 := 40, tU16 := 113, tI32 := 21, tU32 := 55, tI64 := 2, tU64 := 71, tUint := 102, tStr := 9, tBytes := 22, tErr := 50, tPStr := 78, tUuid := 99999, tRd := 104, tBig := 120, gBig := 0, gErr := 1, tTags := 62, tMap := 60, tKeys := 126, tTree := 26, tTrees := 23, tTagL := 24, tTag := 57, sTree := 26, sTrees := 23, sTagL := 24, sTag := 57 }

theorem rdF : RdFacts P N := ⟨by kernel_rfl, by kernel_rfl, by kernel_rfl, by kernel_rfl, by kernel_rfl, by kernel_rfl, by kernel_rfl, by kernel_rfl, by kernel_rfl, by kernel_rfl, by kernel_rfl, by kernel_rfl, by kernel_rfl, by kernel_rfl, by kernel_rfl, by kernel_rfl⟩
theorem strF : StrFacts P N := .of (by kernel_rfl) (by kernel_rfl)
theorem tyY : TyFacts P N N.sTree N.sTrees N.sTagL N.sTag := ⟨by kernel_rfl, by kernel_rfl, by kernel_rfl, by kernel_rfl, by kernel_rfl, by kernel_rfl, by kernel_rfl, by kernel_rfl, by kernel_rfl, by kernel_rfl, by kernel_rfl, by kernel_rfl, by kernel_rfl, by kernel_rfl, by kernel_rfl, by kernel_rfl, by kernel_rfl⟩
theorem tyZ : TyFacts P N N.tTree N.tTrees N.tTagL N.tTag := ⟨by kernel_rfl, by kernel_rfl, by kernel_rfl, by kernel_rfl, by kernel_rfl, by kernel_rfl, by kernel_rfl, by kernel_rfl, by kernel_rfl, by kernel_rfl, by kernel_rfl, by kernel_rfl, by kernel_rfl, by kernel_rfl, by kernel_rfl, by kernel_rfl, by kernel_rfl⟩
theorem rowT : RowFacts P N.tTree 5 := .of (by kernel_rfl) (by kernel_rfl) (by decide)
theorem rowS : RowFacts P N.sTree 5 := .of (by kernel_rfl) (by kernel_rfl) (by decide)
theorem rowSg : RowFacts P N.sTag 2 := .of (by kernel_rfl) (by kernel_rfl) (by decide)
theorem rowTg : RowFacts P N.tTag 2 := .of (by kernel_rfl) (by kernel_rfl) (by decide)
theorem tellF : TellFacts P N := ⟨by kernel_rfl, by kernel_rfl, rowT, by kernel_rfl⟩
theorem gotF : GotFacts P N := .of (by kernel_rfl) (by kernel_rfl) (by kernel_rfl) (by kernel_rfl) (by kernel_rfl) rowS rowSg
theorem octF : OctFacts P N := .of (by kernel_rfl)
theorem oneStr : oneTy P N.tStr = true := by kernel_rfl
theorem hBe16 : BeGives P 84 2 .u16 := be16 Tryz.laysBin36 rfl (by kernel_rfl)
theorem hBe32 : BeGives P 83 4 .u32 := be32 Tryz.laysBin39 rfl (by kernel_rfl)
theorem hSpan : RdSpan P 87 := span_gives rdF (by kernel_rfl)
theorem hInt16 : RdNum P 61 2 .i16 := fix_gives rdF (by kernel_rfl : P.underlying N.tU16 = some (.int .u16)) rdF.i16 hBe16 rfl (by kernel_rfl)
theorem hInt32 : RdNum P 60 4 .i32 := fix_gives rdF rdF.u32 rdF.i32 hBe32 rfl (by kernel_rfl)
theorem hInt8 : RdNum P 82 1 .i8 := int8_gives rdF (by kernel_rfl) (by kernel_rfl)
theorem hUtext : TextGives P 86 := unsafeString_gives rdF (by kernel_rfl)
theorem hUv : UvGives P 92 := uvarint_gives rdF (by kernel_rfl)
theorem hUvarint : RdUv P 85 := rdUvarint_gives rdF hUv (by kernel_rfl)
theorem hArrayLen : LenOk P 63 .len := arrayLen_gives rdF hInt32 (by kernel_rfl)
theorem hCompactArrayLen : LenOk P 62 .clen := compactArrayLen_gives rdF hUvarint (by kernel_rfl)
theorem hOk : OkGives P 64 := fun _ _ _ _ h => ok_gives rdF (by kernel_rfl) h
theorem hComplete : CompGives P 65 N.gErr := fun _ _ _ _ _ h he => complete_gives rdF (by kernel_rfl) h he
def E : Fns := ⟨64, 65⟩
theorem aInt8 : RdAny P 82 (.num 1 .i8) := any_num hInt8
theorem aInt16 : RdAny P 61 (.num 2 .i16) := any_num hInt16
theorem aInt32 : RdAny P 60 (.num 4 .i32) := any_num hInt32
theorem hString : RdStr P 70 rStr := string_gives (g := none) rdF hInt16 hSpan (fun _ h => by cases h) (by kernel_rfl)
theorem aString : RdAny P 70 .str := any_str hString
theorem hUnsafeString : RdStr P 68 rStr := string_gives (g := some 86) rdF hInt16 hSpan (fun _ h => by cases h; exact hUtext) (by kernel_rfl)
theorem aUnsafeString : RdAny P 68 .str := any_str hUnsafeString
theorem hCompactString : RdStr P 69 rCStr := compactString_gives (g := none) rdF hUvarint hSpan (fun _ h => by cases h) (by kernel_rfl)
theorem aCompactString : RdAny P 69 .cstr := any_cstr hCompactString
theorem hUnsafeCompactString : RdStr P 67 rCStr := compactString_gives (g := some 86) rdF hUvarint hSpan (fun _ h => by cases h; exact hUtext) (by kernel_rfl)
theorem aUnsafeCompactString : RdAny P 67 .cstr := any_cstr hUnsafeCompactString
theorem hNullableString : RdNStr P 74 rNStr := nullableString_gives (g := none) rdF strF hInt16 hSpan (fun _ h => by cases h) (by kernel_rfl)
theorem aNullableString : RdAny P 74 .nstr := any_nstr hNullableString
theorem hUnsafeNullableString : RdNStr P 73 rNStr := nullableString_gives (g := some 86) rdF strF hInt16 hSpan (fun _ h => by cases h; exact hUtext) (by kernel_rfl)
theorem aUnsafeNullableString : RdAny P 73 .nstr := any_nstr hUnsafeNullableString
theorem hCompactNullableString : RdNStr P 72 rCNStr := compactNullableString_gives (g := none) rdF strF hUvarint hSpan (fun _ h => by cases h) (by kernel_rfl)
theorem aCompactNullableString : RdAny P 72 .cnstr := any_cnstr hCompactNullableString
theorem hUnsafeCompactNullableString : RdNStr P 71 rCNStr := compactNullableString_gives (g := some 86) rdF strF hUvarint hSpan (fun _ h => by cases h; exact hUtext) (by kernel_rfl)
theorem aUnsafeCompactNullableString : RdAny P 71 .cnstr := any_cnstr hUnsafeCompactNullableString
theorem tagF : TagFacts P N := ⟨by kernel_rfl, by kernel_rfl, by kernel_rfl, by kernel_rfl, by kernel_rfl, by kernel_rfl, by kernel_rfl, by kernel_rfl, by kernel_rfl, by kernel_rfl⟩
theorem hSpanA : RdSpanA P 87 := spanA_gives rdF (by kernel_rfl)
theorem hTagSet : TagSet P 88 := tagSet_gives rdF tagF (by kernel_rfl)
theorem aTags : RdAny P 75 .tags := readTags_gives rdF tagF hUvarint hSpanA hTagSet (by kernel_rfl)
noncomputable def siT : TypeInfo := (P.info? 126).get (by kernel_rfl)
noncomputable def siE : TypeInfo := (P.info? 55).get (by kernel_rfl)
theorem siK (n : Nat) (h2 : 2 ≤ n) : Lib.swapperK n siE 10 = 6 := by
  have a : siE.hasPointers = false := by kernel_rfl
  have b : siE.bytes = 4 := by kernel_rfl
  have c : (n == 0) = false := by simp; omega
  have d : (n == 1) = false := by simp; omega
  simp [Lib.swapperK, a, b, c, d]
theorem sortAt : SortAt P N 90 91 := {
  many := fun blk cap d lb w h2 hsz hless hH hblk => Any.sort_Slice_sorted Tryz.laysGg6 126 55 siT siE (by kernel_rfl) (by kernel_rfl) (by kernel_rfl) (by kernel_rfl) 10 (fun _ => by kernel_rfl) (by kernel_rfl) (fun _ => by kernel_rfl) encK (fun _ => rfl) Go.Sort.ltInt Go.Sort.swo_ltInt 91 lb (enters_of Tryz.func91 (by kernel_rfl) rfl) blk 0 cap d h2 hsz 103 (by rw [siK _ h2]; kernel_rfl) true (fun args W => run_callFunc_extern Tryz.func103 (by kernel_rfl) (by kernel_rfl) (by kernel_rfl) (e := Extern.ReflectliteSwapper.swap true) (by kernel_rfl) args W) w hless hH hblk
  one := fun p cap lb w => Any.sort_Slice_tiny Tryz.laysGg6 126 55 siT siE (by kernel_rfl) (by kernel_rfl) (by kernel_rfl) (by kernel_rfl) 10 (fun _ => by kernel_rfl) p 1 cap (Nat.le_refl _) 99 (by rw [show Lib.swapperK 1 siE 10 = 2 from rfl]; kernel_rfl) (.func 91) #[] lb w }
theorem hSort : SortGives P N 90 91 := sort_gives rdF tagF (by kernel_rfl) sortAt (by kernel_rfl)
theorem hEach : EachGives P 79 := each_gives rdF tagF hSort (by kernel_rfl)
theorem tagPlan : buildPlan P N.tTag = some ([.int .u32 0, .slice none 0 0], [(0, 1), (1, 1)]) := by kernel_rfl
end Go.Proofs.YtbgdfbfecdanbaaGreatDoor
