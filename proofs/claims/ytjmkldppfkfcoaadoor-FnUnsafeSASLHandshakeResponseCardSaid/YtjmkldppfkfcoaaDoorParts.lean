/- The types and the reader's functions, at this seat. -/
import Derived.Test.YtjmkldppfkfcoaaDoorKf3
import Derived.Test.YtjmkldppfkfcoaaDoorBin
namespace Go.Proofs.YtjmkldppfkfcoaaDoor
open Go Go.Kf

noncomputable abbrev P : Program := Tryd.prog
def N : Nums := { tInt := 3, tBool := 4, tU8 := 5, tI8 := 99999, tI16 := 38, tU16 := 63, tI32 := 21, tU32 := 48, tI64 := 2, tU64 := 99999, tUint := 69, tStr := 9, tBytes := 22, tErr := 44, tPStr := 99999, tUuid := 99999, tRd := 57, tBig := 65, gBig := 0, gErr := 1, tTags := 99999, tMap := 99999, tKeys := 99999, tTree := 27, tTrees := 24, tTagL := 25, tTag := 51, sTree := 35, sTrees := 32, sTagL := 33, sTag := 50 }

theorem rdF : RdFacts P N := ⟨by kernel_rfl, by kernel_rfl, by kernel_rfl, by kernel_rfl, by kernel_rfl, by kernel_rfl, by kernel_rfl, by kernel_rfl, by kernel_rfl, by kernel_rfl, by kernel_rfl, by kernel_rfl, by kernel_rfl, by kernel_rfl, by kernel_rfl, by kernel_rfl, by kernel_rfl⟩
theorem tyY : TyFacts P N N.sTree N.sTrees N.sTagL N.sTag := ⟨by kernel_rfl, by kernel_rfl, by kernel_rfl, by kernel_rfl, by kernel_rfl, by kernel_rfl, by kernel_rfl, by kernel_rfl, by kernel_rfl, by kernel_rfl, by kernel_rfl, by kernel_rfl, by kernel_rfl, by kernel_rfl, by kernel_rfl, by kernel_rfl, by kernel_rfl⟩
theorem tyZ : TyFacts P N N.tTree N.tTrees N.tTagL N.tTag := ⟨by kernel_rfl, by kernel_rfl, by kernel_rfl, by kernel_rfl, by kernel_rfl, by kernel_rfl, by kernel_rfl, by kernel_rfl, by kernel_rfl, by kernel_rfl, by kernel_rfl, by kernel_rfl, by kernel_rfl, by kernel_rfl, by kernel_rfl, by kernel_rfl, by kernel_rfl⟩
theorem rowT : RowFacts P N.tTree 5 := .of (by kernel_rfl) (by kernel_rfl) (by decide)
theorem rowS : RowFacts P N.sTree 5 := .of (by kernel_rfl) (by kernel_rfl) (by decide)
theorem rowSg : RowFacts P N.sTag 2 := .of (by kernel_rfl) (by kernel_rfl) (by decide)
theorem rowTg : RowFacts P N.tTag 2 := .of (by kernel_rfl) (by kernel_rfl) (by decide)
theorem tellF : TellFacts P N := ⟨by kernel_rfl, by kernel_rfl, rowT, by kernel_rfl⟩
theorem gotF : GotFacts P N := .of (by kernel_rfl) (by kernel_rfl) (by kernel_rfl) (by kernel_rfl) (by kernel_rfl) rowS rowSg
theorem octF : OctFacts P N := .of (by kernel_rfl)
theorem oneStr : oneTy P N.tStr = true := by kernel_rfl
theorem hBe16 : BeGives P 25 2 .u16 := be16 Tryd.laysBin36 rfl (by kernel_rfl)
theorem hBe32 : BeGives P 29 4 .u32 := be32 Tryd.laysBin39 rfl (by kernel_rfl)
theorem hSpan : RdSpan P 28 := span_gives rdF (by kernel_rfl)
theorem hInt16 : RdNum P 19 2 .i16 := fix_gives rdF rdF.u16 rdF.i16 hBe16 rfl (by kernel_rfl)
theorem hInt32 : RdNum P 26 4 .i32 := fix_gives rdF rdF.u32 rdF.i32 hBe32 rfl (by kernel_rfl)
theorem hUtext : TextGives P 27 := unsafeString_gives rdF (by kernel_rfl)
theorem hArrayLen : LenOk P 20 .len := arrayLen_gives rdF hInt32 (by kernel_rfl)
theorem hOk : OkGives P 21 := fun _ _ _ _ h => ok_gives rdF (by kernel_rfl) h
theorem hComplete : CompGives P 22 N.gErr := fun _ _ _ _ _ h he => complete_gives rdF (by kernel_rfl) h he
def E : Fns := ⟨21, 22⟩
theorem aInt16 : RdAny P 19 (.num 2 .i16) := any_num hInt16
theorem aInt32 : RdAny P 26 (.num 4 .i32) := any_num hInt32
theorem hString : RdStr P 24 rStr := string_gives (g := none) rdF hInt16 hSpan (fun _ h => by cases h) (by kernel_rfl)
theorem aString : RdAny P 24 .str := any_str hString
theorem hUnsafeString : RdStr P 23 rStr := string_gives (g := some 27) rdF hInt16 hSpan (fun _ h => by cases h; exact hUtext) (by kernel_rfl)
theorem aUnsafeString : RdAny P 23 .str := any_str hUnsafeString
theorem hSame : SameGives P 16 := same_gives rdF (by kernel_rfl)
theorem hSameTree : ∀ x, SameTreeOf P 8 x := sameTree_gives rdF tyY hSame (by kernel_rfl)
theorem hGot : ∀ x, GotOf P 9 x := got_gives rdF tyY tyZ gotF (by kernel_rfl)
end Go.Proofs.YtjmkldppfkfcoaaDoor
