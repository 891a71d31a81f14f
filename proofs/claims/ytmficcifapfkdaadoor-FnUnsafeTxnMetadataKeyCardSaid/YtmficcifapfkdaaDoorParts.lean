/- The types and the reader's functions, at this seat. -/
import Derived.Test.YtmficcifapfkdaaDoorKf3
import Derived.Test.YtmficcifapfkdaaDoorBin
namespace Go.Proofs.YtmficcifapfkdaaDoor
open Go Go.Kf

noncomputable abbrev P : Program := Tryd.prog
def N : Nums := { tInt := 3, tBool := 4, tU8 := 5, tI8 := 99999, tI16 := 41, tU16 := 75, tI32 := 21, tU32 := 54, tI64 := 2, tU64 := 71, tUint := 86, tStr := 9, tBytes := 22, tErr := 46, tPStr := 99999, tUuid := 99999, tRd := 61, tBig := 77, gBig := 0, gErr := 1, tTags := 99999, tMap := 99999, tKeys := 99999, tTree := 26, tTrees := 23, tTagL := 24, tTag := 57, sTree := 37, sTrees := 34, sTagL := 35, sTag := 56 }

theorem rdF : RdFacts P N := ⟨by kernel_rfl, by kernel_rfl, by kernel_rfl, by kernel_rfl, by kernel_rfl, by kernel_rfl, by kernel_rfl, by kernel_rfl, by kernel_rfl, by kernel_rfl, by kernel_rfl, by kernel_rfl, by kernel_rfl, by kernel_rfl, by kernel_rfl⟩
theorem tyY : TyFacts P N N.sTree N.sTrees N.sTagL N.sTag := ⟨by kernel_rfl, by kernel_rfl, by kernel_rfl, by kernel_rfl, by kernel_rfl, by kernel_rfl, by kernel_rfl, by kernel_rfl, by kernel_rfl, by kernel_rfl, by kernel_rfl, by kernel_rfl, by kernel_rfl, by kernel_rfl, by kernel_rfl, by kernel_rfl, by kernel_rfl⟩
theorem tyZ : TyFacts P N N.tTree N.tTrees N.tTagL N.tTag := ⟨by kernel_rfl, by kernel_rfl, by kernel_rfl, by kernel_rfl, by kernel_rfl, by kernel_rfl, by kernel_rfl, by kernel_rfl, by kernel_rfl, by kernel_rfl, by kernel_rfl, by kernel_rfl, by kernel_rfl, by kernel_rfl, by kernel_rfl, by kernel_rfl, by kernel_rfl⟩
theorem rowT : RowFacts P N.tTree 5 := .of (by kernel_rfl) (by kernel_rfl) (by decide)
theorem rowS : RowFacts P N.sTree 5 := .of (by kernel_rfl) (by kernel_rfl) (by decide)
theorem rowSg : RowFacts P N.sTag 2 := .of (by kernel_rfl) (by kernel_rfl) (by decide)
theorem rowTg : RowFacts P N.tTag 2 := .of (by kernel_rfl) (by kernel_rfl) (by decide)
theorem tellF : TellFacts P N := ⟨by kernel_rfl, by kernel_rfl, rowT, by kernel_rfl⟩
theorem gotF : GotFacts P N := .of (by kernel_rfl) (by kernel_rfl) (by kernel_rfl) (by kernel_rfl) (by kernel_rfl) rowS rowSg
theorem octF : OctFacts P N := .of (by kernel_rfl)
theorem oneStr : oneTy P N.tStr = true := by kernel_rfl
theorem hBe16 : BeGives P 32 2 .u16 := be16 Tryd.laysBin36 rfl (by kernel_rfl)
theorem hSpan : RdSpan P 34 := span_gives rdF (by kernel_rfl)
theorem hInt16 : RdNum P 20 2 .i16 := fix_gives rdF (by kernel_rfl : P.underlying N.tU16 = some (.int .u16)) rdF.i16 hBe16 rfl (by kernel_rfl) (by kernel_rfl)
theorem hUtext : TextGives P 33 := unsafeString_gives rdF (by kernel_rfl)
theorem hComplete : CompGives P 23 N.gErr := fun _ _ _ _ _ h he => complete_gives rdF (by kernel_rfl) h he
def E : Fns := ⟨99999, 23⟩
theorem aInt16 : RdAny P 20 (.num 2 .i16) := any_num hInt16
theorem hString : RdStr P 22 rStr := string_gives (g := none) rdF hInt16 hSpan (fun _ h => by cases h) (by kernel_rfl)
theorem aString : RdAny P 22 .str := any_str hString
theorem hUnsafeString : RdStr P 21 rStr := string_gives (g := some 33) rdF hInt16 hSpan (fun _ h => by cases h; exact hUtext) (by kernel_rfl)
theorem aUnsafeString : RdAny P 21 .str := any_str hUnsafeString
theorem hSame : SameGives P 16 := same_gives rdF (by kernel_rfl)
theorem hSameTree : ∀ x, SameTreeOf P 8 x := sameTree_gives rdF tyY hSame (by kernel_rfl)
theorem hGot : ∀ x, GotOf P 9 x := got_gives rdF tyY tyZ gotF (by kernel_rfl)
end Go.Proofs.YtmficcifapfkdaaDoor
