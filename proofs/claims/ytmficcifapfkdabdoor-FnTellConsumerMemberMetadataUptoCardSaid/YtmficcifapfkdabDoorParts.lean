/- The types and the reader's functions, at this seat. -/
import Derived.Test.YtmficcifapfkdabDoorKf4
import Derived.Test.YtmficcifapfkdabDoorBin
namespace Go.Proofs.YtmficcifapfkdabDoor
open Go Go.Kf

noncomputable abbrev P : Program := Tryd.prog
def N : Nums := { tInt := 3, tBool := 4, tU8 := 5, tI8 := 98, tI16 := 47, tU16 := 99, tI32 := 21, tU32 := 65, tI64 := 2, tU64 := 97, tUint := 109, tStr := 9, tBytes := 22, tErr := 55, tPStr := 50, tUuid := 99999, tRd := 87, tBig := 102, gBig := 0, gErr := 1, tTags := 99999, tMap := 99999, tKeys := 99999, tTree := 35, tTrees := 32, tTagL := 33, tTag := 70, sTree := 26, sTrees := 23, sTagL := 24, sTag := 67 }

theorem rdF : RdFacts P N := ⟨by kernel_rfl, by kernel_rfl, by kernel_rfl, by kernel_rfl, by kernel_rfl, by kernel_rfl, by kernel_rfl, by kernel_rfl, by kernel_rfl, by kernel_rfl, by kernel_rfl, by kernel_rfl, by kernel_rfl, by kernel_rfl, by kernel_rfl⟩
theorem strF : StrFacts P N := .of (by kernel_rfl) (by kernel_rfl)
theorem tyY : TyFacts P N N.sTree N.sTrees N.sTagL N.sTag := ⟨by kernel_rfl, by kernel_rfl, by kernel_rfl, by kernel_rfl, by kernel_rfl, by kernel_rfl, by kernel_rfl, by kernel_rfl, by kernel_rfl, by kernel_rfl, by kernel_rfl, by kernel_rfl, by kernel_rfl, by kernel_rfl, by kernel_rfl, by kernel_rfl, by kernel_rfl⟩
theorem tyZ : TyFacts P N N.tTree N.tTrees N.tTagL N.tTag := ⟨by kernel_rfl, by kernel_rfl, by kernel_rfl, by kernel_rfl, by kernel_rfl, by kernel_rfl, by kernel_rfl, by kernel_rfl, by kernel_rfl, by kernel_rfl, by kernel_rfl, by kernel_rfl, by kernel_rfl, by kernel_rfl, by kernel_rfl, by kernel_rfl, by kernel_rfl⟩
theorem rowT : RowFacts P N.tTree 5 := .of (by kernel_rfl) (by kernel_rfl) (by decide)
theorem rowS : RowFacts P N.sTree 5 := .of (by kernel_rfl) (by kernel_rfl) (by decide)
theorem rowSg : RowFacts P N.sTag 2 := .of (by kernel_rfl) (by kernel_rfl) (by decide)
theorem rowTg : RowFacts P N.tTag 2 := .of (by kernel_rfl) (by kernel_rfl) (by decide)
theorem tellF : TellFacts P N := ⟨by kernel_rfl, by kernel_rfl, rowT, by kernel_rfl⟩
theorem gotF : GotFacts P N := .of (by kernel_rfl) (by kernel_rfl) (by kernel_rfl) (by kernel_rfl) (by kernel_rfl) rowS rowSg
theorem octF : OctFacts P N := .of (by kernel_rfl)
theorem oneStr : oneTy P N.tStr = true := by kernel_rfl
theorem hBe16 : BeGives P 51 2 .u16 := be16 Tryd.laysBin36 rfl (by kernel_rfl)
theorem hBe32 : BeGives P 54 4 .u32 := be32 Tryd.laysBin39 rfl (by kernel_rfl)
theorem hSpan : RdSpan P 53 := span_gives rdF (by kernel_rfl)
theorem hInt16 : RdNum P 38 2 .i16 := fix_gives rdF (by kernel_rfl : P.underlying N.tU16 = some (.int .u16)) rdF.i16 hBe16 rfl (by kernel_rfl) (by kernel_rfl)
theorem hInt32 : RdNum P 46 4 .i32 := fix_gives rdF rdF.u32 rdF.i32 hBe32 rfl (by kernel_rfl) (by kernel_rfl)
theorem hUtext : TextGives P 52 := unsafeString_gives rdF (by kernel_rfl)
theorem hArrayLen : LenOk P 39 .len := arrayLen_gives rdF hInt32 (by kernel_rfl)
theorem hOk : OkGives P 40 := fun _ _ _ _ h => ok_gives rdF (by kernel_rfl) h
theorem hComplete : CompGives P 41 N.gErr := fun _ _ _ _ _ h he => complete_gives rdF (by kernel_rfl) h he
def E : Fns := ⟨40, 41⟩
theorem aInt16 : RdAny P 38 (.num 2 .i16) := any_num hInt16
theorem aInt32 : RdAny P 46 (.num 4 .i32) := any_num hInt32
theorem hString : RdStr P 43 rStr := string_gives (g := none) rdF hInt16 hSpan (fun _ h => by cases h) (by kernel_rfl)
theorem aString : RdAny P 43 .str := any_str hString
theorem hUnsafeString : RdStr P 42 rStr := string_gives (g := some 52) rdF hInt16 hSpan (fun _ h => by cases h; exact hUtext) (by kernel_rfl)
theorem aUnsafeString : RdAny P 42 .str := any_str hUnsafeString
theorem hNullableString : RdNStr P 48 rNStr := nullableString_gives (g := none) rdF strF hInt16 hSpan (fun _ h => by cases h) (by kernel_rfl)
theorem aNullableString : RdAny P 48 .nstr := any_nstr hNullableString
theorem hUnsafeNullableString : RdNStr P 47 rNStr := nullableString_gives (g := some 52) rdF strF hInt16 hSpan (fun _ h => by cases h; exact hUtext) (by kernel_rfl)
theorem aUnsafeNullableString : RdAny P 47 .nstr := any_nstr hUnsafeNullableString
theorem hNullableBytes : RdOct P 44 rNBytes := nullableBytes_gives rdF hInt32 hSpan (by kernel_rfl)
theorem aNullableBytes : RdAny P 44 .nbytes := any_nbytes hNullableBytes
theorem hGot : ∀ x, GotOf P 10 x := got_gives rdF tyY tyZ gotF (by kernel_rfl)
theorem cText : TellCellTy P 31 .ntext := textTree_gives rdF tyZ tellF oneStr (by kernel_rfl : P.underlying N.tPStr = some (.pointer 9)) (by kernel_rfl)
theorem cOcts : TellCellTy P 29 .octs := octetsTree_gives rdF octF tyZ tellF (by kernel_rfl)
end Go.Proofs.YtmficcifapfkdabDoor
