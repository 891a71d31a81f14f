/- The types and the reader's functions, at this seat. -/
import Derived.Test.YteeamkddgccpeaaGreatDoorKf4
import Derived.Test.YteeamkddgccpeaaGreatDoorBin
namespace Go.Proofs.YteeamkddgccpeaaGreatDoor
open Go Go.Kf

noncomputable abbrev P : Program := Tryz.prog
def N : Nums := { tInt := 3, tBool := 4, tU8 := 5, tI8 := 99999, tI16 := 45, tU16 := 114, tI32 := 21, tU32 := 58, tI64 := 2, tU64 := 73, tUint := 90, tStr := 9, tBytes := 24, tErr := 54, tPStr := 100, tUuid := 99999, tRd := 92, tBig := 120, gBig := 1, gErr := 0, tTags := 65, tMap := 63, tKeys := 142, tTree := 28, tTrees := 25, tTagL := 26, tTag := 60, sTree := 28, sTrees := 25, sTagL := 26, sTag := 60 }

theorem rdF : RdFacts P N := ⟨by kernel_rfl, by kernel_rfl, by kernel_rfl, by kernel_rfl, by kernel_rfl, by kernel_rfl, by kernel_rfl, by kernel_rfl, by kernel_rfl, by kernel_rfl, by kernel_rfl, by kernel_rfl, by kernel_rfl, by kernel_rfl, by kernel_rfl⟩
theorem strF : StrFacts P N := .of (by kernel_rfl) (by kernel_rfl)
theorem tyY : TyFacts P N N.sTree N.sTrees N.sTagL N.sTag := ⟨by kernel_rfl, by kernel_rfl, by kernel_rfl, by kernel_rfl, by kernel_rfl, by kernel_rfl, by kernel_rfl, by kernel_rfl, by kernel_rfl, by kernel_rfl, by kernel_rfl, by kernel_rfl, by kernel_rfl, by kernel_rfl, by kernel_rfl, by kernel_rfl, by kernel_rfl⟩
theorem tyZ : TyFacts P N N.tTree N.tTrees N.tTagL N.tTag := ⟨by kernel_rfl, by kernel_rfl, by kernel_rfl, by kernel_rfl, by kernel_rfl, by kernel_rfl, by kernel_rfl, by kernel_rfl, by kernel_rfl, by kernel_rfl, by kernel_rfl, by kernel_rfl, by kernel_rfl, by kernel_rfl, by kernel_rfl, by kernel_rfl, by kernel_rfl⟩
theorem rowT : RowFacts P N.tTree 5 := .of (by kernel_rfl) (by kernel_rfl) (by decide)
theorem rowS : RowFacts P N.sTree 5 := .of (by kernel_rfl) (by kernel_rfl) (by decide)
theorem rowSg : RowFacts P N.sTag 2 := .of (by kernel_rfl) (by kernel_rfl) (by decide)
theorem rowTg : RowFacts P N.tTag 2 := .of (by kernel_rfl) (by kernel_rfl) (by decide)
theorem tellF : TellFacts P N := ⟨by kernel_rfl, by kernel_rfl, rowT, by kernel_rfl⟩
theorem gotF : GotFacts P N := .of (by kernel_rfl) (by kernel_rfl) (by kernel_rfl) (by kernel_rfl) (by kernel_rfl) rowS rowSg
theorem octF : OctFacts P N := .of (by kernel_rfl)
theorem oneStr : oneTy P N.tStr = true := by kernel_rfl
theorem hBe16 : BeGives P 65 2 .u16 := be16 Tryz.laysBin36 rfl (by kernel_rfl)
theorem hBe32 : BeGives P 64 4 .u32 := be32 Tryz.laysBin39 rfl (by kernel_rfl)
theorem hSpan : RdSpan P 57 := span_gives rdF (by kernel_rfl)
theorem hInt16 : RdNum P 58 2 .i16 := fix_gives rdF (by kernel_rfl : P.underlying N.tU16 = some (.int .u16)) rdF.i16 hBe16 rfl (by kernel_rfl) (by kernel_rfl)
theorem hInt32 : RdNum P 55 4 .i32 := fix_gives rdF rdF.u32 rdF.i32 hBe32 rfl (by kernel_rfl) (by kernel_rfl)
theorem hUtext : TextGives P 56 := unsafeString_gives rdF (by kernel_rfl)
theorem hUv : UvGives P 63 := uvarint_gives rdF (by kernel_rfl)
theorem hUvarint : RdUv P 54 := rdUvarint_gives rdF hUv (by kernel_rfl)
theorem hArrayLen : LenOk P 42 .len := arrayLen_gives rdF hInt32 (by kernel_rfl)
theorem hCompactArrayLen : LenOk P 41 .clen := compactArrayLen_gives rdF hUvarint (by kernel_rfl)
theorem hOk : OkGives P 43 := fun _ _ _ _ h => ok_gives rdF (by kernel_rfl) h
theorem hComplete : CompGives P 44 N.gErr := fun _ _ _ _ _ h he => complete_gives rdF (by kernel_rfl) h he
def E : Fns := ⟨43, 44⟩
theorem aInt16 : RdAny P 58 (.num 2 .i16) := any_num hInt16
theorem aInt32 : RdAny P 55 (.num 4 .i32) := any_num hInt32
theorem hString : RdStr P 48 rStr := string_gives (g := none) rdF hInt16 hSpan (fun _ h => by cases h) (by kernel_rfl)
theorem aString : RdAny P 48 .str := any_str hString
theorem hUnsafeString : RdStr P 46 rStr := string_gives (g := some 56) rdF hInt16 hSpan (fun _ h => by cases h; exact hUtext) (by kernel_rfl)
theorem aUnsafeString : RdAny P 46 .str := any_str hUnsafeString
theorem hCompactString : RdStr P 47 rCStr := compactString_gives (g := none) rdF hUvarint hSpan (fun _ h => by cases h) (by kernel_rfl)
theorem aCompactString : RdAny P 47 .cstr := any_cstr hCompactString
theorem hUnsafeCompactString : RdStr P 45 rCStr := compactString_gives (g := some 56) rdF hUvarint hSpan (fun _ h => by cases h; exact hUtext) (by kernel_rfl)
theorem aUnsafeCompactString : RdAny P 45 .cstr := any_cstr hUnsafeCompactString
theorem tagF : TagFacts P N := ⟨by kernel_rfl, by kernel_rfl, by kernel_rfl, by kernel_rfl, by kernel_rfl, by kernel_rfl, by kernel_rfl, by kernel_rfl, by kernel_rfl, by kernel_rfl⟩
theorem hSpanA : RdSpanA P 57 := spanA_gives rdF (by kernel_rfl)
theorem hTagSet : TagSet P 59 := tagSet_gives rdF tagF (by kernel_rfl)
theorem aTags : RdAny P 49 .tags := readTags_gives rdF tagF hUvarint hSpanA hTagSet (by kernel_rfl)
noncomputable def siT : TypeInfo := (P.info? 142).get (by kernel_rfl)
noncomputable def siE : TypeInfo := (P.info? 58).get (by kernel_rfl)
theorem siK (n : Nat) (h2 : 2 ≤ n) : Lib.swapperK n siE 10 = 6 := by
  have a : siE.hasPointers = false := by kernel_rfl
  have b : siE.bytes = 4 := by kernel_rfl
  have c : (n == 0) = false := by simp; omega
  have d : (n == 1) = false := by simp; omega
  simp [Lib.swapperK, a, b, c, d]
theorem sortAt : SortAt P N 96 97 := {
  many := fun blk cap d lb w h2 hsz hless hH hblk => Any.sort_Slice_sorted Tryz.laysGg6 142 58 siT siE (by kernel_rfl) (by kernel_rfl) (by kernel_rfl) (by kernel_rfl) 10 (fun _ => by kernel_rfl) (by kernel_rfl) (fun _ => by kernel_rfl) encK (fun _ => rfl) Go.Sort.ltInt Go.Sort.swo_ltInt 97 lb (enters_of Tryz.func97 (by kernel_rfl) rfl) blk 0 cap d h2 hsz 108 (by rw [siK _ h2]; kernel_rfl) true (fun args W => run_callFunc_extern Tryz.func108 (by kernel_rfl) (by kernel_rfl) (by kernel_rfl) (e := Extern.ReflectliteSwapper.swap true) (by kernel_rfl) args W) w hless hH hblk
  one := fun p cap lb w => Any.sort_Slice_tiny Tryz.laysGg6 142 58 siT siE (by kernel_rfl) (by kernel_rfl) (by kernel_rfl) (by kernel_rfl) 10 (fun _ => by kernel_rfl) p 1 cap (Nat.le_refl _) 104 (by rw [show Lib.swapperK 1 siE 10 = 2 from rfl]; kernel_rfl) (.func 97) #[] lb w }
theorem hSort : SortGives P N 96 97 := sort_gives rdF tagF (by kernel_rfl) sortAt (by kernel_rfl)
theorem hEach : EachGives P 93 := each_gives rdF tagF hSort (by kernel_rfl)
theorem tagPlan : buildPlan P N.tTag = some ([.int .u32 0, .slice none 0 0], [(0, 1), (1, 1)]) := by kernel_rfl
end Go.Proofs.YteeamkddgccpeaaGreatDoor
