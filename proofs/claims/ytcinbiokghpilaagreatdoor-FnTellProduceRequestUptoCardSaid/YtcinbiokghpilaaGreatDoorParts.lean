/- The types and the reader's functions, at this seat. -/
import Derived.Test.YtcinbiokghpilaaGreatDoorKf5
import Derived.Test.YtcinbiokghpilaaGreatDoorBin
namespace Go.Proofs.YtcinbiokghpilaaGreatDoor
open Go Go.Kf

noncomputable abbrev P : Program := Tryz.prog
def N : Nums := { tInt := 3, tBool := 4, tU8 := 5, tI8 := 86, tI16 := 46, tU16 := 135, tI32 := 21, tU32 := 63, tI64 := 2, tU64 := 94, tUint := 134, tStr := 9, tBytes := 22, tErr := 54, tPStr := 105, tUuid := 77, tRd := 119, tBig := 147, gBig := 0, gErr := 1, tTags := 82, tMap := 80, tKeys := 129, tTree := 37, tTrees := 34, tTagL := 35, tTag := 68, sTree := 26, sTrees := 23, sTagL := 24, sTag := 65 }

theorem rdF : RdFacts P N := ⟨by kernel_rfl, by kernel_rfl, by kernel_rfl, by kernel_rfl, by kernel_rfl, by kernel_rfl, by kernel_rfl, by kernel_rfl, by kernel_rfl, by kernel_rfl, by kernel_rfl, by kernel_rfl, by kernel_rfl, by kernel_rfl, by kernel_rfl, by kernel_rfl⟩
theorem strF : StrFacts P N := .of (by kernel_rfl) (by kernel_rfl)
theorem tyY : TyFacts P N N.sTree N.sTrees N.sTagL N.sTag := ⟨by kernel_rfl, by kernel_rfl, by kernel_rfl, by kernel_rfl, by kernel_rfl, by kernel_rfl, by kernel_rfl, by kernel_rfl, by kernel_rfl, by kernel_rfl, by kernel_rfl, by kernel_rfl, by kernel_rfl, by kernel_rfl, by kernel_rfl, by kernel_rfl, by kernel_rfl⟩
theorem tyZ : TyFacts P N N.tTree N.tTrees N.tTagL N.tTag := ⟨by kernel_rfl, by kernel_rfl, by kernel_rfl, by kernel_rfl, by kernel_rfl, by kernel_rfl, by kernel_rfl, by kernel_rfl, by kernel_rfl, by kernel_rfl, by kernel_rfl, by kernel_rfl, by kernel_rfl, by kernel_rfl, by kernel_rfl, by kernel_rfl, by kernel_rfl⟩
theorem rowT : RowFacts P N.tTree 5 := .of (by kernel_rfl) (by kernel_rfl) (by decide)
theorem rowS : RowFacts P N.sTree 5 := .of (by kernel_rfl) (by kernel_rfl) (by decide)
theorem rowSg : RowFacts P N.sTag 2 := .of (by kernel_rfl) (by kernel_rfl) (by decide)
theorem rowTg : RowFacts P N.tTag 2 := .of (by kernel_rfl) (by kernel_rfl) (by decide)
theorem tellF : TellFacts P N := ⟨by kernel_rfl, by kernel_rfl, rowT, by kernel_rfl⟩
theorem gotF : GotFacts P N := .of (by kernel_rfl) (by kernel_rfl) (by kernel_rfl) (by kernel_rfl) (by kernel_rfl) rowS rowSg
theorem octF : OctFacts P N := .of (by kernel_rfl)
theorem oneStr : oneTy P N.tStr = true := by kernel_rfl
theorem uuidF : UuidFacts P N := ⟨by kernel_rfl, by kernel_rfl, _, (by kernel_rfl : zeroTy P N.tUuid = some (.agg ⟨bcells (List.replicate 16 0)⟩, 16)), rfl⟩
theorem hBe16 : BeGives P 107 2 .u16 := be16 Tryz.laysBin36 rfl (by kernel_rfl)
theorem hBe32 : BeGives P 106 4 .u32 := be32 Tryz.laysBin39 rfl (by kernel_rfl)
theorem hSpan : RdSpan P 108 := span_gives rdF (by kernel_rfl)
theorem hInt16 : RdNum P 75 2 .i16 := fix_gives rdF (by kernel_rfl : P.underlying N.tU16 = some (.int .u16)) rdF.i16 hBe16 rfl (by kernel_rfl)
theorem hInt32 : RdNum P 74 4 .i32 := fix_gives rdF rdF.u32 rdF.i32 hBe32 rfl (by kernel_rfl)
theorem hInt8 : RdNum P 81 1 .i8 := int8_gives rdF (by kernel_rfl) (by kernel_rfl)
theorem hBool : RdBool P 82 := bool_gives rdF (by kernel_rfl)
theorem hUtext : TextGives P 110 := unsafeString_gives rdF (by kernel_rfl)
theorem hUv : UvGives P 120 := uvarint_gives rdF (by kernel_rfl)
theorem hUvarint : RdUv P 109 := rdUvarint_gives rdF hUv (by kernel_rfl)
theorem hArrayLen : LenOk P 78 .len := arrayLen_gives rdF hInt32 (by kernel_rfl)
theorem hCompactArrayLen : LenOk P 77 .clen := compactArrayLen_gives rdF hUvarint (by kernel_rfl)
theorem hOk : OkGives P 79 := fun _ _ _ _ h => ok_gives rdF (by kernel_rfl) h
theorem hComplete : CompGives P 80 N.gErr := fun _ _ _ _ _ h he => complete_gives rdF (by kernel_rfl) h he
def E : Fns := ⟨79, 80⟩
theorem aInt8 : RdAny P 81 (.num 1 .i8) := any_num hInt8
theorem aInt16 : RdAny P 75 (.num 2 .i16) := any_num hInt16
theorem aInt32 : RdAny P 74 (.num 4 .i32) := any_num hInt32
theorem aBool : RdAny P 82 .bool := any_bool hBool
theorem hString : RdStr P 86 rStr := string_gives (g := none) rdF hInt16 hSpan (fun _ h => by cases h) (by kernel_rfl)
theorem aString : RdAny P 86 .str := any_str hString
theorem hUnsafeString : RdStr P 84 rStr := string_gives (g := some 110) rdF hInt16 hSpan (fun _ h => by cases h; exact hUtext) (by kernel_rfl)
theorem aUnsafeString : RdAny P 84 .str := any_str hUnsafeString
theorem hCompactString : RdStr P 85 rCStr := compactString_gives (g := none) rdF hUvarint hSpan (fun _ h => by cases h) (by kernel_rfl)
theorem aCompactString : RdAny P 85 .cstr := any_cstr hCompactString
theorem hUnsafeCompactString : RdStr P 83 rCStr := compactString_gives (g := some 110) rdF hUvarint hSpan (fun _ h => by cases h; exact hUtext) (by kernel_rfl)
theorem aUnsafeCompactString : RdAny P 83 .cstr := any_cstr hUnsafeCompactString
theorem hNullableString : RdNStr P 96 rNStr := nullableString_gives (g := none) rdF strF hInt16 hSpan (fun _ h => by cases h) (by kernel_rfl)
theorem aNullableString : RdAny P 96 .nstr := any_nstr hNullableString
theorem hUnsafeNullableString : RdNStr P 95 rNStr := nullableString_gives (g := some 110) rdF strF hInt16 hSpan (fun _ h => by cases h; exact hUtext) (by kernel_rfl)
theorem aUnsafeNullableString : RdAny P 95 .nstr := any_nstr hUnsafeNullableString
theorem hCompactNullableString : RdNStr P 94 rCNStr := compactNullableString_gives (g := none) rdF strF hUvarint hSpan (fun _ h => by cases h) (by kernel_rfl)
theorem aCompactNullableString : RdAny P 94 .cnstr := any_cnstr hCompactNullableString
theorem hUnsafeCompactNullableString : RdNStr P 93 rCNStr := compactNullableString_gives (g := some 110) rdF strF hUvarint hSpan (fun _ h => by cases h; exact hUtext) (by kernel_rfl)
theorem aUnsafeCompactNullableString : RdAny P 93 .cnstr := any_cnstr hUnsafeCompactNullableString
theorem hNullableBytes : RdOct P 103 rNBytes := nullableBytes_gives rdF hInt32 hSpan (by kernel_rfl)
theorem aNullableBytes : RdAny P 103 .nbytes := any_nbytes hNullableBytes
theorem hCompactNullableBytes : RdOct P 102 rCNBytes := compactNullableBytes_gives rdF hUvarint hSpan (by kernel_rfl)
theorem aCompactNullableBytes : RdAny P 102 .cnbytes := any_cnbytes hCompactNullableBytes
theorem hUuid : RdUuid P 76 := rdUuid_gives rdF uuidF hSpan (by kernel_rfl)
theorem aUuid : RdAny P 76 .uuid := any_uuid hUuid
theorem hGot : ∀ x, GotOf P 14 x := got_gives rdF tyY tyZ gotF (by kernel_rfl)
theorem cText : TellCellTy P 71 .ntext := textTree_gives rdF tyZ tellF oneStr (by kernel_rfl : P.underlying N.tPStr = some (.pointer 9)) (by kernel_rfl)
theorem cOcts : TellCellTy P 118 .octs := octetsTree_gives rdF octF tyZ tellF (by kernel_rfl)
theorem tagF : TagFacts P N := ⟨by kernel_rfl, by kernel_rfl, by kernel_rfl, by kernel_rfl, by kernel_rfl, by kernel_rfl, by kernel_rfl, by kernel_rfl, by kernel_rfl, by kernel_rfl⟩
theorem hSpanA : RdSpanA P 108 := spanA_gives rdF (by kernel_rfl)
theorem hTagSet : TagSet P 111 := tagSet_gives rdF tagF (by kernel_rfl)
theorem aTags : RdAny P 87 .tags := readTags_gives rdF tagF hUvarint hSpanA hTagSet (by kernel_rfl)
noncomputable def siT : TypeInfo := (P.info? 129).get (by kernel_rfl)
noncomputable def siE : TypeInfo := (P.info? 63).get (by kernel_rfl)
theorem siK (n : Nat) (h2 : 2 ≤ n) : Lib.swapperK n siE 10 = 6 := by
  have a : siE.hasPointers = false := by kernel_rfl
  have b : siE.bytes = 4 := by kernel_rfl
  have c : (n == 0) = false := by simp; omega
  have d : (n == 1) = false := by simp; omega
  simp [Lib.swapperK, a, b, c, d]
theorem sortAt : SortAt P N 88 89 := {
  many := fun blk cap d lb w h2 hsz hless hH hblk => Any.sort_Slice_sorted Tryz.laysGg6 129 63 siT siE (by kernel_rfl) (by kernel_rfl) (by kernel_rfl) (by kernel_rfl) 10 (fun _ => by kernel_rfl) (by kernel_rfl) (fun _ => by kernel_rfl) encK (fun _ => rfl) Go.Sort.ltInt Go.Sort.swo_ltInt 89 lb (enters_of Tryz.func89 (by kernel_rfl) rfl) blk 0 cap d h2 hsz 126 (by rw [siK _ h2]; kernel_rfl) true (fun args W => run_callFunc_extern Tryz.func126 (by kernel_rfl) (by kernel_rfl) (by kernel_rfl) (e := Extern.ReflectliteSwapper.swap true) (by kernel_rfl) args W) w hless hH hblk
  one := fun p cap lb w => Any.sort_Slice_tiny Tryz.laysGg6 129 63 siT siE (by kernel_rfl) (by kernel_rfl) (by kernel_rfl) (by kernel_rfl) 10 (fun _ => by kernel_rfl) p 1 cap (Nat.le_refl _) 122 (by rw [show Lib.swapperK 1 siE 10 = 2 from rfl]; kernel_rfl) (.func 89) #[] lb w }
theorem hSort : SortGives P N 88 89 := sort_gives rdF tagF (by kernel_rfl) sortAt (by kernel_rfl)
theorem hEach : EachGives P 52 := each_gives rdF tagF hSort (by kernel_rfl)
theorem hSorted : SortedGives P 54 := sorted_gives rdF tyZ (by kernel_rfl)
theorem tagPlan : buildPlan P N.tTag = some ([.int .u32 0, .slice none 0 0], [(0, 1), (1, 1)]) := by kernel_rfl
theorem cBool : TellCellTy P 51 .bool := boolTree_gives rdF tyZ tellF (by kernel_rfl)
end Go.Proofs.YtcinbiokghpilaaGreatDoor
