/- The types and the reader's functions, at this seat. -/
import Derived.Test.YtmficcifapfkdacGreatDoorKf4
import Derived.Test.YtmficcifapfkdacGreatDoorBin
namespace Go.Proofs.YtmficcifapfkdacGreatDoor
open Go Go.Kf

noncomputable abbrev P : Program := Tryz.prog
def N : Nums := { tInt := 3, tBool := 4, tU8 := 5, tI8 := 99999, tI16 := 40, tU16 := 114, tI32 := 21, tU32 := 53, tI64 := 2, tU64 := 69, tUint := 90, tStr := 9, tBytes := 22, tErr := 50, tPStr := 99999, tUuid := 99999, tRd := 92, tBig := 110, gBig := 1, gErr := 0, tTags := 60, tMap := 58, tKeys := 115, tTree := 26, tTrees := 23, tTagL := 24, tTag := 55, sTree := 26, sTrees := 23, sTagL := 24, sTag := 55 }

theorem rdF : RdFacts P N := ⟨by kernel_rfl, by kernel_rfl, by kernel_rfl, by kernel_rfl, by kernel_rfl, by kernel_rfl, by kernel_rfl, by kernel_rfl, by kernel_rfl, by kernel_rfl, by kernel_rfl, by kernel_rfl, by kernel_rfl, by kernel_rfl, by kernel_rfl⟩
theorem tyY : TyFacts P N N.sTree N.sTrees N.sTagL N.sTag := ⟨by kernel_rfl, by kernel_rfl, by kernel_rfl, by kernel_rfl, by kernel_rfl, by kernel_rfl, by kernel_rfl, by kernel_rfl, by kernel_rfl, by kernel_rfl, by kernel_rfl, by kernel_rfl, by kernel_rfl, by kernel_rfl, by kernel_rfl, by kernel_rfl, by kernel_rfl⟩
theorem tyZ : TyFacts P N N.tTree N.tTrees N.tTagL N.tTag := ⟨by kernel_rfl, by kernel_rfl, by kernel_rfl, by kernel_rfl, by kernel_rfl, by kernel_rfl, by kernel_rfl, by kernel_rfl, by kernel_rfl, by kernel_rfl, by kernel_rfl, by kernel_rfl, by kernel_rfl, by kernel_rfl, by kernel_rfl, by kernel_rfl, by kernel_rfl⟩
theorem rowT : RowFacts P N.tTree 5 := .of (by kernel_rfl) (by kernel_rfl) (by decide)
theorem rowS : RowFacts P N.sTree 5 := .of (by kernel_rfl) (by kernel_rfl) (by decide)
theorem rowSg : RowFacts P N.sTag 2 := .of (by kernel_rfl) (by kernel_rfl) (by decide)
theorem rowTg : RowFacts P N.tTag 2 := .of (by kernel_rfl) (by kernel_rfl) (by decide)
theorem tellF : TellFacts P N := ⟨by kernel_rfl, by kernel_rfl, rowT, by kernel_rfl⟩
theorem gotF : GotFacts P N := .of (by kernel_rfl) (by kernel_rfl) (by kernel_rfl) (by kernel_rfl) (by kernel_rfl) rowS rowSg
theorem octF : OctFacts P N := .of (by kernel_rfl)
theorem oneStr : oneTy P N.tStr = true := by kernel_rfl
theorem hBe16 : BeGives P 77 2 .u16 := be16 Tryz.laysBin36 rfl (by kernel_rfl)
theorem hBe32 : BeGives P 69 4 .u32 := be32 Tryz.laysBin39 rfl (by kernel_rfl)
theorem hBe64 : BeGives P 78 8 .u64 := be64 Tryz.laysBin42 rfl (by kernel_rfl)
theorem hSpan : RdSpan P 67 := span_gives rdF (by kernel_rfl)
theorem hInt16 : RdNum P 68 2 .i16 := fix_gives rdF (by kernel_rfl : P.underlying N.tU16 = some (.int .u16)) rdF.i16 hBe16 rfl (by kernel_rfl) (by kernel_rfl)
theorem hInt32 : RdNum P 56 4 .i32 := fix_gives rdF rdF.u32 rdF.i32 hBe32 rfl (by kernel_rfl) (by kernel_rfl)
theorem hU64 : RdNum P 70 8 .u64 := fix0_gives rdF hBe64 wrap_u64 rfl (by kernel_rfl) (by kernel_rfl)
theorem hInt64 : RdNum P 57 8 .i64 := conv_gives rdF (by kernel_rfl : P.underlying N.tU64 = some (.int .u64)) (by kernel_rfl : P.underlying N.tI64 = some (.int .i64)) hU64 wrap_i64_u64 (by kernel_rfl)
theorem hUtext : TextGives P 66 := unsafeString_gives rdF (by kernel_rfl)
theorem hUv : UvGives P 76 := uvarint_gives rdF (by kernel_rfl)
theorem hUvarint : RdUv P 65 := rdUvarint_gives rdF hUv (by kernel_rfl)
theorem hArrayLen : LenOk P 47 .len := arrayLen_gives rdF hInt32 (by kernel_rfl)
theorem hCompactArrayLen : LenOk P 46 .clen := compactArrayLen_gives rdF hUvarint (by kernel_rfl)
theorem hOk : OkGives P 48 := fun _ _ _ _ h => ok_gives rdF (by kernel_rfl) h
theorem hComplete : CompGives P 49 N.gErr := fun _ _ _ _ _ h he => complete_gives rdF (by kernel_rfl) h he
def E : Fns := ⟨48, 49⟩
theorem aInt16 : RdAny P 68 (.num 2 .i16) := any_num hInt16
theorem aInt32 : RdAny P 56 (.num 4 .i32) := any_num hInt32
theorem aInt64 : RdAny P 57 (.num 8 .i64) := any_num hInt64
theorem hString : RdStr P 54 rStr := string_gives (g := none) rdF hInt16 hSpan (fun _ h => by cases h) (by kernel_rfl)
theorem aString : RdAny P 54 .str := any_str hString
theorem hUnsafeString : RdStr P 52 rStr := string_gives (g := some 66) rdF hInt16 hSpan (fun _ h => by cases h; exact hUtext) (by kernel_rfl)
theorem aUnsafeString : RdAny P 52 .str := any_str hUnsafeString
theorem hCompactString : RdStr P 53 rCStr := compactString_gives (g := none) rdF hUvarint hSpan (fun _ h => by cases h) (by kernel_rfl)
theorem aCompactString : RdAny P 53 .cstr := any_cstr hCompactString
theorem hUnsafeCompactString : RdStr P 51 rCStr := compactString_gives (g := some 66) rdF hUvarint hSpan (fun _ h => by cases h; exact hUtext) (by kernel_rfl)
theorem aUnsafeCompactString : RdAny P 51 .cstr := any_cstr hUnsafeCompactString
theorem tagF : TagFacts P N := ⟨by kernel_rfl, by kernel_rfl, by kernel_rfl, by kernel_rfl, by kernel_rfl, by kernel_rfl, by kernel_rfl, by kernel_rfl, by kernel_rfl, by kernel_rfl⟩
theorem hSpanA : RdSpanA P 67 := spanA_gives rdF (by kernel_rfl)
theorem hTagSet : TagSet P 71 := tagSet_gives rdF tagF (by kernel_rfl)
theorem aTags : RdAny P 58 .tags := readTags_gives rdF tagF hUvarint hSpanA hTagSet (by kernel_rfl)
noncomputable def siT : TypeInfo := (P.info? 115).get (by kernel_rfl)
noncomputable def siE : TypeInfo := (P.info? 53).get (by kernel_rfl)
theorem siK (n : Nat) (h2 : 2 ≤ n) : Lib.swapperK n siE 10 = 6 := by
  have a : siE.hasPointers = false := by kernel_rfl
  have b : siE.bytes = 4 := by kernel_rfl
  have c : (n == 0) = false := by simp; omega
  have d : (n == 1) = false := by simp; omega
  simp [Lib.swapperK, a, b, c, d]
theorem sortAt : SortAt P N 74 75 := {
  many := fun blk cap d lb w h2 hsz hless hH hblk => Any.sort_Slice_sorted Tryz.laysGg6 115 53 siT siE (by kernel_rfl) (by kernel_rfl) (by kernel_rfl) (by kernel_rfl) 10 (fun _ => by kernel_rfl) (by kernel_rfl) (fun _ => by kernel_rfl) encK (fun _ => rfl) Go.Sort.ltInt Go.Sort.swo_ltInt 75 lb (enters_of Tryz.func75 (by kernel_rfl) rfl) blk 0 cap d h2 hsz 89 (by rw [siK _ h2]; kernel_rfl) true (fun args W => run_callFunc_extern Tryz.func89 (by kernel_rfl) (by kernel_rfl) (by kernel_rfl) (e := Extern.ReflectliteSwapper.swap true) (by kernel_rfl) args W) w hless hH hblk
  one := fun p cap lb w => Any.sort_Slice_tiny Tryz.laysGg6 115 53 siT siE (by kernel_rfl) (by kernel_rfl) (by kernel_rfl) (by kernel_rfl) 10 (fun _ => by kernel_rfl) p 1 cap (Nat.le_refl _) 85 (by rw [show Lib.swapperK 1 siE 10 = 2 from rfl]; kernel_rfl) (.func 75) #[] lb w }
theorem hSort : SortGives P N 74 75 := sort_gives rdF tagF (by kernel_rfl) sortAt (by kernel_rfl)
theorem hEach : EachGives P 63 := each_gives rdF tagF hSort (by kernel_rfl)
theorem tagPlan : buildPlan P N.tTag = some ([.int .u32 0, .slice none 0 0], [(0, 1), (1, 1)]) := by kernel_rfl
end Go.Proofs.YtmficcifapfkdacGreatDoor
