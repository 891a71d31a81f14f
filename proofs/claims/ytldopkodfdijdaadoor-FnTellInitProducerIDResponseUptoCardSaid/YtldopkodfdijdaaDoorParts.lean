/- The types and the reader's functions, at this seat. -/
import Derived.Test.YtldopkodfdijdaaDoorKf5
import Derived.Test.YtldopkodfdijdaaDoorBin
namespace Go.Proofs.YtldopkodfdijdaaDoor
open Go Go.Kf

noncomputable abbrev P : Program := Tryd.prog
def N : Nums := { tInt := 3, tBool := 4, tU8 := 5, tI8 := 108, tI16 := 46, tU16 := 109, tI32 := 21, tU32 := 63, tI64 := 2, tU64 := 86, tUint := 107, tStr := 9, tBytes := 22, tErr := 54, tPStr := 99999, tUuid := 99999, tRd := 95, tBig := 112, gBig := 0, gErr := 1, tTags := 75, tMap := 73, tKeys := 102, tTree := 37, tTrees := 34, tTagL := 35, tTag := 68, sTree := 26, sTrees := 23, sTagL := 24, sTag := 65 }

theorem rdF : RdFacts P N := ⟨by kernel_rfl, by kernel_rfl, by kernel_rfl, by kernel_rfl, by kernel_rfl, by kernel_rfl, by kernel_rfl, by kernel_rfl, by kernel_rfl, by kernel_rfl, by kernel_rfl, by kernel_rfl, by kernel_rfl, by kernel_rfl, by kernel_rfl, by kernel_rfl⟩
theorem tyY : TyFacts P N N.sTree N.sTrees N.sTagL N.sTag := ⟨by kernel_rfl, by kernel_rfl, by kernel_rfl, by kernel_rfl, by kernel_rfl, by kernel_rfl, by kernel_rfl, by kernel_rfl, by kernel_rfl, by kernel_rfl, by kernel_rfl, by kernel_rfl, by kernel_rfl, by kernel_rfl, by kernel_rfl, by kernel_rfl, by kernel_rfl⟩
theorem tyZ : TyFacts P N N.tTree N.tTrees N.tTagL N.tTag := ⟨by kernel_rfl, by kernel_rfl, by kernel_rfl, by kernel_rfl, by kernel_rfl, by kernel_rfl, by kernel_rfl, by kernel_rfl, by kernel_rfl, by kernel_rfl, by kernel_rfl, by kernel_rfl, by kernel_rfl, by kernel_rfl, by kernel_rfl, by kernel_rfl, by kernel_rfl⟩
theorem rowT : RowFacts P N.tTree 5 := .of (by kernel_rfl) (by kernel_rfl) (by decide)
theorem rowS : RowFacts P N.sTree 5 := .of (by kernel_rfl) (by kernel_rfl) (by decide)
theorem rowSg : RowFacts P N.sTag 2 := .of (by kernel_rfl) (by kernel_rfl) (by decide)
theorem rowTg : RowFacts P N.tTag 2 := .of (by kernel_rfl) (by kernel_rfl) (by decide)
theorem tellF : TellFacts P N := ⟨by kernel_rfl, by kernel_rfl, rowT, by kernel_rfl⟩
theorem gotF : GotFacts P N := .of (by kernel_rfl) (by kernel_rfl) (by kernel_rfl) (by kernel_rfl) (by kernel_rfl) rowS rowSg
theorem octF : OctFacts P N := .of (by kernel_rfl)
theorem oneStr : oneTy P N.tStr = true := by kernel_rfl
theorem hBe16 : BeGives P 66 2 .u16 := be16 Tryd.laysBin36 rfl (by kernel_rfl)
theorem hBe32 : BeGives P 65 4 .u32 := be32 Tryd.laysBin39 rfl (by kernel_rfl)
theorem hBe64 : BeGives P 96 8 .u64 := be64 Tryd.laysBin42 rfl (by kernel_rfl)
theorem hSpan : RdSpan P 69 := span_gives rdF (by kernel_rfl)
theorem hInt16 : RdNum P 56 2 .i16 := fix_gives rdF (by kernel_rfl : P.underlying N.tU16 = some (.int .u16)) rdF.i16 hBe16 rfl (by kernel_rfl)
theorem hInt32 : RdNum P 55 4 .i32 := fix_gives rdF rdF.u32 rdF.i32 hBe32 rfl (by kernel_rfl)
theorem hU64 : RdNum P 75 8 .u64 := fix0_gives rdF hBe64 wrap_u64 rfl (by kernel_rfl)
theorem hInt64 : RdNum P 64 8 .i64 := conv_gives rdF (by kernel_rfl : P.underlying N.tU64 = some (.int .u64)) (by kernel_rfl : P.underlying N.tI64 = some (.int .i64)) hU64 wrap_i64_u64 (by kernel_rfl)
theorem hBool : RdBool P 57 := bool_gives rdF (by kernel_rfl)
theorem hUv : UvGives P 76 := uvarint_gives rdF (by kernel_rfl)
theorem hUvarint : RdUv P 67 := rdUvarint_gives rdF hUv (by kernel_rfl)
theorem hComplete : CompGives P 59 N.gErr := fun _ _ _ _ _ h he => complete_gives rdF (by kernel_rfl) h he
def E : Fns := ⟨99999, 59⟩
theorem aInt16 : RdAny P 56 (.num 2 .i16) := any_num hInt16
theorem aInt32 : RdAny P 55 (.num 4 .i32) := any_num hInt32
theorem aInt64 : RdAny P 64 (.num 8 .i64) := any_num hInt64
theorem aBool : RdAny P 57 .bool := any_bool hBool
theorem hGot : ∀ x, GotOf P 13 x := got_gives rdF tyY tyZ gotF (by kernel_rfl)
theorem tagF : TagFacts P N := ⟨by kernel_rfl, by kernel_rfl, by kernel_rfl, by kernel_rfl, by kernel_rfl, by kernel_rfl, by kernel_rfl, by kernel_rfl, by kernel_rfl, by kernel_rfl⟩
theorem hSpanA : RdSpanA P 69 := spanA_gives rdF (by kernel_rfl)
theorem hTagSet : TagSet P 68 := tagSet_gives rdF tagF (by kernel_rfl)
theorem aTags : RdAny P 58 .tags := readTags_gives rdF tagF hUvarint hSpanA hTagSet (by kernel_rfl)
noncomputable def siT : TypeInfo := (P.info? 102).get (by kernel_rfl)
noncomputable def siE : TypeInfo := (P.info? 63).get (by kernel_rfl)
theorem siK (n : Nat) (h2 : 2 ≤ n) : Lib.swapperK n siE 10 = 6 := by
  have a : siE.hasPointers = false := by kernel_rfl
  have b : siE.bytes = 4 := by kernel_rfl
  have c : (n == 0) = false := by simp; omega
  have d : (n == 1) = false := by simp; omega
  simp [Lib.swapperK, a, b, c, d]
theorem sortAt : SortAt P N 60 61 := {
  many := fun blk cap d lb w h2 hsz hless hH hblk => Any.sort_Slice_sorted Tryd.laysGg6 102 63 siT siE (by kernel_rfl) (by kernel_rfl) (by kernel_rfl) (by kernel_rfl) 10 (fun _ => by kernel_rfl) (by kernel_rfl) (fun _ => by kernel_rfl) encK (fun _ => rfl) Go.Sort.ltInt Go.Sort.swo_ltInt 61 lb (enters_of Tryd.func61 (by kernel_rfl) rfl) blk 0 cap d h2 hsz 82 (by rw [siK _ h2]; kernel_rfl) true (fun args W => run_callFunc_extern Tryd.func82 (by kernel_rfl) (by kernel_rfl) (by kernel_rfl) (e := Extern.ReflectliteSwapper.swap true) (by kernel_rfl) args W) w hless hH hblk
  one := fun p cap lb w => Any.sort_Slice_tiny Tryd.laysGg6 102 63 siT siE (by kernel_rfl) (by kernel_rfl) (by kernel_rfl) (by kernel_rfl) 10 (fun _ => by kernel_rfl) p 1 cap (Nat.le_refl _) 78 (by rw [show Lib.swapperK 1 siE 10 = 2 from rfl]; kernel_rfl) (.func 61) #[] lb w }
theorem hSort : SortGives P N 60 61 := sort_gives rdF tagF (by kernel_rfl) sortAt (by kernel_rfl)
theorem hEach : EachGives P 41 := each_gives rdF tagF hSort (by kernel_rfl)
theorem hSorted : SortedGives P 43 := sorted_gives rdF tyZ (by kernel_rfl)
theorem tagPlan : buildPlan P N.tTag = some ([.int .u32 0, .slice none 0 0], [(0, 1), (1, 1)]) := by kernel_rfl
theorem cBool : TellCellTy P 40 .bool := boolTree_gives rdF tyZ tellF (by kernel_rfl)
end Go.Proofs.YtldopkodfdijdaaDoor
