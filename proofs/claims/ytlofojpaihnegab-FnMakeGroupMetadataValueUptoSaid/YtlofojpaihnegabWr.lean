/- The writer's functions, at this seat. -/
import Derived.Test.YtlofojpaihnegabSpec
namespace Go.Proofs.Ytlofojpaihnegab
open Go Go.Kf

theorem hLen32 : ∀ (w : World) (x : Nat), x < 4294967296 → Gives P 55 [.int .u32 x] w fun u w' => w' = w ∧ ∃ m : Nat, u = .int .i64 m ∧ BitsOk x m := fun w x hx => len32_gives spF (by kernel_rfl) x hx
theorem hUvLen : ∀ (w : World) (x : Nat), x < 4294967296 → Gives P 48 [.int .u32 x] w fun u w' => w' = w ∧ u = .int .i64 ((pUv x).length : Int) := fun w x hx => uvLen_gives spF hLen32 (by kernel_rfl) x hx
theorem wUv : ∀ x : Nat, x < 4294967296 → WrV P 37 [.int .u32 x] (pUv x) := fun x hx => appUv_gives spF hUvLen (by kernel_rfl) x hx
theorem wU16 : ∀ x : Int, WrV P 45 [.int .u16 x] (pFixed x 2) := fun x => appU16_gives spF (by kernel_rfl) (by kernel_rfl) x
theorem wU32 : ∀ x : Int, WrV P 46 [.int .u32 x] (pFixed x 4) := fun x => appU32_gives spF (by kernel_rfl) x
theorem wU64 : ∀ x : Int, WrV P 47 [.int .u64 x] (pFixed x 8) := fun x => appU64_gives spF (by kernel_rfl) x
theorem xAppendUint16 : WrAny P 45 (.num 2 .u16) := wrAny_num wU16
theorem wI16 : ∀ x : Int, WrV P 26 [.int .i16 x] (pFixed x 2) := fun x => appInt_gives spF rdF.i16 (by kernel_rfl : P.underlying N.tU16 = some (.int .u16)) (by kernel_rfl) wU16 pFixed_wrapu16 x
theorem xAppendInt16 : WrAny P 26 (.num 2 .i16) := wrAny_num wI16
theorem wI32 : ∀ x : Int, WrV P 29 [.int .i32 x] (pFixed x 4) := fun x => appInt_gives spF rdF.i32 rdF.u32 (by kernel_rfl) wU32 pFixed_wrapu32 x
theorem xAppendInt32 : WrAny P 29 (.num 4 .i32) := wrAny_num wI32
theorem wI64 : ∀ x : Int, WrV P 32 [.int .i64 x] (pFixed x 8) := fun x => appInt_gives spF tyY.i64 spF.u64 (by kernel_rfl) wU64 pFixed_wrapu64 x
theorem xAppendInt64 : WrAny P 32 (.num 8 .i64) := wrAny_num wI64
theorem wLen : WrLen P 34 .len := fun n _ => appInt_gives (k1 := .i64) spF rdF.int rdF.i32 (by kernel_rfl) wI32 pFixed_wrap32 n
theorem wCLen : WrLen P 33 .clen := fun n hn => appCLen_gives spF wUv (by kernel_rfl) n hn
theorem wStr : ∀ y : List UInt8, WrV P 28 [.string (strOf y)] (pFixed y.length 2 ++ y) := fun y => appStr_gives spF wI16 (by kernel_rfl) y
theorem xAppendString : WrAny P 28 .str := wrAny_str wStr
theorem wCStr : ∀ y : List UInt8, y.length ≤ big → WrV P 27 [.string (strOf y)] (pUv (y.length + 1) ++ y) := fun y hy => appCStr_gives spF wUv (by kernel_rfl) y hy
theorem xAppendCompactString : WrAny P 27 .cstr := wrAny_cstr wCStr
theorem xAppendNullableString : WrAny P 31 .nstr := wrAny_nstr (nstr_of (appNStr_gives spF oneStr (by kernel_rfl : P.underlying N.tPStr = some (.pointer 9)) (wI16 (-1)) (fun y _ => wStr y) (by kernel_rfl)))
theorem xAppendCompactNullableString : WrAny P 30 .cnstr := wrAny_cnstr (cnstr_of (appNStr_gives spF oneStr (by kernel_rfl : P.underlying N.tPStr = some (.pointer 9)) (wUv 0 (by decide)) wCStr (by kernel_rfl)))
theorem wBytes : WrOct P 36 fun _ y => pFixed y.length 4 ++ y := appBytes_gives spF wI32 (by kernel_rfl)
theorem xAppendBytes : WrAny P 36 .bytes := wrAny_oct rfl (fun _ _ h => h) (fun _ _ => rfl) wBytes
theorem wCBytes : WrOct P 35 fun _ y => pUv (y.length + 1) ++ y := appCBytes_gives spF wUv (by kernel_rfl)
theorem xAppendCompactBytes : WrAny P 35 .cbytes := wrAny_oct rfl (fun _ _ h => h) (fun _ _ => rfl) wCBytes
theorem hTagsLen : TagsLen P 38 := tagsLen_gives rdF tagF (by kernel_rfl)
theorem wEach : WrTags P 39 := appEach_gives (g := 50) spF wUv hEach (by kernel_rfl) (by kernel_rfl)
theorem sameT : treeIn P sn.same noOrc [.tmp 0, .tmp 1] 2 = tSame N := by kernel_rfl
end Go.Proofs.Ytlofojpaihnegab
