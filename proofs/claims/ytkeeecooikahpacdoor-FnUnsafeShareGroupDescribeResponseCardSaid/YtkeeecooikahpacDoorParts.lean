/- The types and the reader's functions, at this seat. -/
import Derived.Test.YtkeeecooikahpacDoorKf3
import Derived.Test.YtkeeecooikahpacDoorBin
namespace Go.Proofs.YtkeeecooikahpacDoor
open Go Go.Kf

noncomputable abbrev P : Program := Tryd.prog
def N : Nums := { tInt := 3, tBool := 4, tU8 := 5, tI8 := 99999, tI16 := 38, tU16 := 101, tI32 := 21, tU32 := 48, tI64 := 2, tU64 := 126, tUint := 114, tStr := 9, tBytes := 22, tErr := 44, tPStr := 61, tUuid := 84, tRd := 69, tBig := 98, gBig := 0, gErr := 1, tTags := 55, tMap := 53, tKeys := 94, tTree := 27, tTrees := 24, tTagL := 25, tTag := 51, sTree := 35, sTrees := 32, sTagL := 33, sTag := 50 }

theorem rdF : RdFacts P N := ⟨by kernel_rfl, by kernel_rfl, by kernel_rfl, by kernel_rfl, by kernel_rfl, by kernel_rfl, by kernel_rfl, by kernel_rfl, by kernel_rfl, by kernel_rfl, by kernel_rfl, by kernel_rfl, by kernel_rfl, by kernel_rfl, by kernel_rfl, by kernel_rfl⟩
theorem strF : StrFacts P N := .of (by kernel_rfl) (by kernel_rfl)
theorem tyY : TyFacts P N N.sTree N.sTrees N.sTagL N.sTag := ⟨by kernel_rfl, by kernel_rfl, by kernel_rfl, by kernel_rfl, by kernel_rfl, by kernel_rfl, by kernel_rfl, by kernel_rfl, by kernel_rfl, by kernel_rfl, by kernel_rfl, by kernel_rfl, by kernel_rfl, by kernel_rfl, by kernel_rfl, by kernel_rfl, by kernel_rfl⟩
theorem tyZ : TyFacts P N N.tTree N.tTrees N.tTagL N.tTag := ⟨by kernel_rfl, by kernel_rfl, by kernel_rfl, by kernel_rfl, by kernel_rfl, by kernel_rfl, by kernel_rfl, by kernel_rfl, by kernel_rfl, by kernel_rfl, by kernel_rfl, by kernel_rfl, by kernel_rfl, by kernel_rfl, by kernel_rfl, by kernel_rfl, by kernel_rfl⟩
theorem rowT : RowFacts P N.tTree 5 := .of (by kernel_rfl) (by kernel_rfl) (by decide)
theorem rowS : RowFacts P N.sTree 5 := .of (by kernel_rfl) (by kernel_rfl) (by decide)
theorem rowSg : RowFacts P N.sTag 2 := .of (by kernel_rfl) (by kernel_rfl) (by decide)
theorem rowTg : RowFacts P N.tTag 2 := .of (by kernel_rfl) (by kernel_rfl) (by decide)
theorem tellF : TellFacts P N := ⟨by kernel_rfl, by kernel_rfl, rowT, by kernel_rfl⟩
theorem gotF : GotFacts P N := .of (by kernel_rfl) (by kernel_rfl) (by kernel_rfl) (by kernel_rfl) (by kernel_rfl) rowS rowSg
theorem octF : OctFacts P N := .of (by kernel_rfl)
theorem oneStr : oneTy P N.tStr = true := by kernel_rfl
theorem uuidF : UuidFacts P N := ⟨by kernel_rfl, by kernel_rfl, _, (by kernel_rfl : zeroTy P N.tUuid = some (.agg ⟨bcells (List.replicate 16 0)⟩, 16)), rfl⟩
theorem hBe16 : BeGives P 50 2 .u16 := be16 Tryd.laysBin36 rfl (by kernel_rfl)
theorem hBe32 : BeGives P 48 4 .u32 := be32 Tryd.laysBin39 rfl (by kernel_rfl)
theorem hSpan : RdSpan P 52 := span_gives rdF (by kernel_rfl)
theorem hInt16 : RdNum P 29 2 .i16 := fix_gives rdF (by kernel_rfl : P.underlying N.tU16 = some (.int .u16)) rdF.i16 hBe16 rfl (by kernel_rfl)
theorem hInt32 : RdNum P 23 4 .i32 := fix_gives rdF rdF.u32 rdF.i32 hBe32 rfl (by kernel_rfl)
theorem hUtext : TextGives P 51 := unsafeString_gives rdF (by kernel_rfl)
theorem hUv : UvGives P 61 := uvarint_gives rdF (by kernel_rfl)
theorem hUvarint : RdUv P 49 := rdUvarint_gives rdF hUv (by kernel_rfl)
theorem hArrayLen : LenOk P 25 .len := arrayLen_gives rdF hInt32 (by kernel_rfl)
theorem hCompactArrayLen : LenOk P 24 .clen := compactArrayLen_gives rdF hUvarint (by kernel_rfl)
theorem hOk : OkGives P 26 := fun _ _ _ _ h => ok_gives rdF (by kernel_rfl) h
theorem hComplete : CompGives P 27 N.gErr := fun _ _ _ _ _ h he => complete_gives rdF (by kernel_rfl) h he
def E : Fns := ⟨26, 27⟩
theorem aInt16 : RdAny P 29 (.num 2 .i16) := any_num hInt16
theorem aInt32 : RdAny P 23 (.num 4 .i32) := any_num hInt32
theorem hString : RdStr P 37 rStr := string_gives (g := none) rdF hInt16 hSpan (fun _ h => by cases h) (by kernel_rfl)
theorem aString : RdAny P 37 .str := any_str hString
theorem hUnsafeString : RdStr P 35 rStr := string_gives (g := some 51) rdF hInt16 hSpan (fun _ h => by cases h; exact hUtext) (by kernel_rfl)
theorem aUnsafeString : RdAny P 35 .str := any_str hUnsafeString
theorem hCompactString : RdStr P 36 rCStr := compactString_gives (g := none) rdF hUvarint hSpan (fun _ h => by cases h) (by kernel_rfl)
theorem aCompactString : RdAny P 36 .cstr := any_cstr hCompactString
theorem hUnsafeCompactString : RdStr P 34 rCStr := compactString_gives (g := some 51) rdF hUvarint hSpan (fun _ h => by cases h; exact hUtext) (by kernel_rfl)
theorem aUnsafeCompactString : RdAny P 34 .cstr := any_cstr hUnsafeCompactString
theorem hNullableString : RdNStr P 33 rNStr := nullableString_gives (g := none) rdF strF hInt16 hSpan (fun _ h => by cases h) (by kernel_rfl)
theorem aNullableString : RdAny P 33 .nstr := any_nstr hNullableString
theorem hUnsafeNullableString : RdNStr P 32 rNStr := nullableString_gives (g := some 51) rdF strF hInt16 hSpan (fun _ h => by cases h; exact hUtext) (by kernel_rfl)
theorem aUnsafeNullableString : RdAny P 32 .nstr := any_nstr hUnsafeNullableString
theorem hCompactNullableString : RdNStr P 31 rCNStr := compactNullableString_gives (g := none) rdF strF hUvarint hSpan (fun _ h => by cases h) (by kernel_rfl)
theorem aCompactNullableString : RdAny P 31 .cnstr := any_cnstr hCompactNullableString
theorem hUnsafeCompactNullableString : RdNStr P 30 rCNStr := compactNullableString_gives (g := some 51) rdF strF hUvarint hSpan (fun _ h => by cases h; exact hUtext) (by kernel_rfl)
theorem aUnsafeCompactNullableString : RdAny P 30 .cnstr := any_cnstr hUnsafeCompactNullableString
theorem hUuid : RdUuid P 41 := rdUuid_gives rdF uuidF hSpan (by kernel_rfl)
theorem aUuid : RdAny P 41 .uuid := any_uuid hUuid
theorem hSame : SameGives P 16 := same_gives rdF (by kernel_rfl)
theorem hSameTree : ∀ x, SameTreeOf P 8 x := sameTree_gives rdF tyY hSame (by kernel_rfl)
theorem hGot : ∀ x, GotOf P 9 x := got_gives rdF tyY tyZ gotF (by kernel_rfl)
theorem cText : TellCellTy P 43 .ntext := textTree_gives rdF tyZ tellF oneStr (by kernel_rfl : P.underlying N.tPStr = some (.pointer 9)) (by kernel_rfl)
theorem tagF : TagFacts P N := ⟨by kernel_rfl, by kernel_rfl, by kernel_rfl, by kernel_rfl, by kernel_rfl, by kernel_rfl, by kernel_rfl, by kernel_rfl, by kernel_rfl, by kernel_rfl⟩
theorem hSpanA : RdSpanA P 52 := spanA_gives rdF (by kernel_rfl)
theorem hTagSet : TagSet P 53 := tagSet_gives rdF tagF (by kernel_rfl)
theorem aTags : RdAny P 42 .tags := readTags_gives rdF tagF hUvarint hSpanA hTagSet (by kernel_rfl)
noncomputable def siT : TypeInfo := (P.info? 94).get (by kernel_rfl)
noncomputable def siE : TypeInfo := (P.info? 48).get (by kernel_rfl)
theorem siK (n : Nat) (h2 : 2 ≤ n) : Lib.swapperK n siE 10 = 6 := by
  have a : siE.hasPointers = false := by kernel_rfl
  have b : siE.bytes = 4 := by kernel_rfl
  have c : (n == 0) = false := by simp; omega
  have d : (n == 1) = false := by simp; omega
  simp [Lib.swapperK, a, b, c, d]
theorem sortAt : SortAt P N 46 47 := {
  many := fun blk cap d lb w h2 hsz hless hH hblk => Any.sort_Slice_sorted Tryd.laysGg6 94 48 siT siE (by kernel_rfl) (by kernel_rfl) (by kernel_rfl) (by kernel_rfl) 10 (fun _ => by kernel_rfl) (by kernel_rfl) (fun _ => by kernel_rfl) encK (fun _ => rfl) Go.Sort.ltInt Go.Sort.swo_ltInt 47 lb (enters_of Tryd.func47 (by kernel_rfl) rfl) blk 0 cap d h2 hsz 69 (by rw [siK _ h2]; kernel_rfl) true (fun args W => run_callFunc_extern Tryd.func69 (by kernel_rfl) (by kernel_rfl) (by kernel_rfl) (e := Extern.ReflectliteSwapper.swap true) (by kernel_rfl) args W) w hless hH hblk
  one := fun p cap lb w => Any.sort_Slice_tiny Tryd.laysGg6 94 48 siT siE (by kernel_rfl) (by kernel_rfl) (by kernel_rfl) (by kernel_rfl) 10 (fun _ => by kernel_rfl) p 1 cap (Nat.le_refl _) 65 (by rw [show Lib.swapperK 1 siE 10 = 2 from rfl]; kernel_rfl) (.func 47) #[] lb w }
theorem hSort : SortGives P N 46 47 := sort_gives rdF tagF (by kernel_rfl) sortAt (by kernel_rfl)
theorem hEach : EachGives P 20 := each_gives rdF tagF hSort (by kernel_rfl)
theorem hSorted : SortedGives P 22 := sorted_gives rdF tyZ (by kernel_rfl)
theorem tagPlan : buildPlan P N.tTag = some ([.int .u32 0, .slice none 0 0], [(0, 1), (1, 1)]) := by kernel_rfl
end Go.Proofs.YtkeeecooikahpacDoor
