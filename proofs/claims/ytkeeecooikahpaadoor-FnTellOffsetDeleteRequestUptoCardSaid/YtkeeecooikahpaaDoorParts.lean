/- The types and the reader's functions, at this seat. -/
import Derived.Test.YtkeeecooikahpaaDoorKf5
import Derived.Test.YtkeeecooikahpaaDoorBin
namespace Go.Proofs.YtkeeecooikahpaaDoor
open Go Go.Kf

noncomputable abbrev P : Program := Tryd.prog
def N : Nums := { tInt := 3, tBool := 4, tU8 := 5, tI8 := 102, tI16 := 46, tU16 := 103, tI32 := 21, tU32 := 64, tI64 := 2, tU64 := 83, tUint := 101, tStr := 9, tBytes := 22, tErr := 55, tPStr := 99999, tUuid := 99999, tRd := 90, tBig := 108, gBig := 1, gErr := 0, tTags := 99999, tMap := 99999, tKeys := 99999, tTree := 37, tTrees := 34, tTagL := 35, tTag := 69, sTree := 26, sTrees := 23, sTagL := 24, sTag := 66 }

theorem rdF : RdFacts P N := ⟨by kernel_rfl, by kernel_rfl, by kernel_rfl, by kernel_rfl, by kernel_rfl, by kernel_rfl, by kernel_rfl, by kernel_rfl, by kernel_rfl, by kernel_rfl, by kernel_rfl, by kernel_rfl, by kernel_rfl, by kernel_rfl, by kernel_rfl, by kernel_rfl⟩
theorem tyY : TyFacts P N N.sTree N.sTrees N.sTagL N.sTag := ⟨by kernel_rfl, by kernel_rfl, by kernel_rfl, by kernel_rfl, by kernel_rfl, by kernel_rfl, by kernel_rfl, by kernel_rfl, by kernel_rfl, by kernel_rfl, by kernel_rfl, by kernel_rfl, by kernel_rfl, by kernel_rfl, by kernel_rfl, by kernel_rfl, by kernel_rfl⟩
theorem tyZ : TyFacts P N N.tTree N.tTrees N.tTagL N.tTag := ⟨by kernel_rfl, by kernel_rfl, by kernel_rfl, by kernel_rfl, by kernel_rfl, by kernel_rfl, by kernel_rfl, by kernel_rfl, by kernel_rfl, by kernel_rfl, by kernel_rfl, by kernel_rfl, by kernel_rfl, by kernel_rfl, by kernel_rfl, by kernel_rfl, by kernel_rfl⟩
theorem rowT : RowFacts P N.tTree 5 := .of (by kernel_rfl) (by kernel_rfl) (by decide)
theorem rowS : RowFacts P N.sTree 5 := .of (by kernel_rfl) (by kernel_rfl) (by decide)
theorem rowSg : RowFacts P N.sTag 2 := .of (by kernel_rfl) (by kernel_rfl) (by decide)
theorem rowTg : RowFacts P N.tTag 2 := .of (by kernel_rfl) (by kernel_rfl) (by decide)
theorem tellF : TellFacts P N := ⟨by kernel_rfl, by kernel_rfl, rowT, by kernel_rfl⟩
theorem gotF : GotFacts P N := .of (by kernel_rfl) (by kernel_rfl) (by kernel_rfl) (by kernel_rfl) (by kernel_rfl) rowS rowSg
theorem octF : OctFacts P N := .of (by kernel_rfl)
theorem oneStr : oneTy P N.tStr = true := by kernel_rfl
theorem hBe16 : BeGives P 57 2 .u16 := be16 Tryd.laysBin36 rfl (by kernel_rfl)
theorem hBe32 : BeGives P 56 4 .u32 := be32 Tryd.laysBin39 rfl (by kernel_rfl)
theorem hSpan : RdSpan P 55 := span_gives rdF (by kernel_rfl)
theorem hInt16 : RdNum P 53 2 .i16 := fix_gives rdF (by kernel_rfl : P.underlying N.tU16 = some (.int .u16)) rdF.i16 hBe16 rfl (by kernel_rfl)
theorem hInt32 : RdNum P 49 4 .i32 := fix_gives rdF rdF.u32 rdF.i32 hBe32 rfl (by kernel_rfl)
theorem hUtext : TextGives P 54 := unsafeString_gives rdF (by kernel_rfl)
theorem hArrayLen : LenOk P 44 .len := arrayLen_gives rdF hInt32 (by kernel_rfl)
theorem hOk : OkGives P 45 := fun _ _ _ _ h => ok_gives rdF (by kernel_rfl) h
theorem hComplete : CompGives P 46 N.gErr := fun _ _ _ _ _ h he => complete_gives rdF (by kernel_rfl) h he
def E : Fns := ⟨45, 46⟩
theorem aInt16 : RdAny P 53 (.num 2 .i16) := any_num hInt16
theorem aInt32 : RdAny P 49 (.num 4 .i32) := any_num hInt32
theorem hString : RdStr P 43 rStr := string_gives (g := none) rdF hInt16 hSpan (fun _ h => by cases h) (by kernel_rfl)
theorem aString : RdAny P 43 .str := any_str hString
theorem hUnsafeString : RdStr P 42 rStr := string_gives (g := some 54) rdF hInt16 hSpan (fun _ h => by cases h; exact hUtext) (by kernel_rfl)
theorem aUnsafeString : RdAny P 42 .str := any_str hUnsafeString
theorem hGot : ∀ x, GotOf P 12 x := got_gives rdF tyY tyZ gotF (by kernel_rfl)
end Go.Proofs.YtkeeecooikahpaaDoor
