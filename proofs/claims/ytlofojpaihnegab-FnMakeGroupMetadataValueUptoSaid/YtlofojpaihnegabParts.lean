/- The types and the reader's functions, at this seat. -/
import Derived.Test.YtlofojpaihnegabKf4
import Derived.Test.YtlofojpaihnegabBin
namespace Go.Proofs.Ytlofojpaihnegab
open Go Go.Kf

noncomputable abbrev P : Program := Try.prog
def N : Nums := { tInt := 3, tBool := 4, tU8 := 5, tI8 := 99999, tI16 := 47, tU16 := 89, tI32 := 21, tU32 := 57, tI64 := 2, tU64 := 91, tUint := 93, tStr := 9, tBytes := 22, tErr := 3, tPStr := 48, tUuid := 99999, tRd := 59, tBig := 99999, gBig := 99999, gErr := 99999, tTags := 52, tMap := 50, tKeys := 99, tTree := 37, tTrees := 34, tTagL := 35, tTag := 60, sTree := 26, sTrees := 23, sTagL := 24, sTag := 59 }

theorem rdF : RdFacts P N := ⟨by kernel_rfl, by kernel_rfl, by kernel_rfl, by kernel_rfl, by kernel_rfl, by kernel_rfl, by kernel_rfl, by kernel_rfl, by kernel_rfl, by kernel_rfl, by kernel_rfl, by kernel_rfl, by kernel_rfl, by kernel_rfl, by kernel_rfl⟩
theorem strF : StrFacts P N := .of (by kernel_rfl) (by kernel_rfl)
theorem tyY : TyFacts P N N.sTree N.sTrees N.sTagL N.sTag := ⟨by kernel_rfl, by kernel_rfl, by kernel_rfl, by kernel_rfl, by kernel_rfl, by kernel_rfl, by kernel_rfl, by kernel_rfl, by kernel_rfl, by kernel_rfl, by kernel_rfl, by kernel_rfl, by kernel_rfl, by kernel_rfl, by kernel_rfl, by kernel_rfl, by kernel_rfl⟩
theorem tyZ : TyFacts P N N.tTree N.tTrees N.tTagL N.tTag := ⟨by kernel_rfl, by kernel_rfl, by kernel_rfl, by kernel_rfl, by kernel_rfl, by kernel_rfl, by kernel_rfl, by kernel_rfl, by kernel_rfl, by kernel_rfl, by kernel_rfl, by kernel_rfl, by kernel_rfl, by kernel_rfl, by kernel_rfl, by kernel_rfl, by kernel_rfl⟩
theorem rowT : RowFacts P N.tTree 5 := .of (by kernel_rfl) (by kernel_rfl) (by decide)
theorem rowS : RowFacts P N.sTree 5 := .of (by kernel_rfl) (by kernel_rfl) (by decide)
theorem rowSg : RowFacts P N.sTag 2 := .of (by kernel_rfl) (by kernel_rfl) (by decide)
theorem rowTg : RowFacts P N.tTag 2 := .of (by kernel_rfl) (by kernel_rfl) (by decide)
theorem tellF : TellFacts P N := ⟨by kernel_rfl, by kernel_rfl, rowT, by kernel_rfl⟩
theorem gotF : GotFacts P N := .of (by kernel_rfl) (by kernel_rfl) (by kernel_rfl) (by kernel_rfl) (by kernel_rfl) rowS rowSg
theorem octF : OctFacts P N := .of (by kernel_rfl)
theorem oneStr : oneTy P N.tStr = true := by kernel_rfl
theorem tagF : TagFacts P N := ⟨by kernel_rfl, by kernel_rfl, by kernel_rfl, by kernel_rfl, by kernel_rfl, by kernel_rfl, by kernel_rfl, by kernel_rfl, by kernel_rfl, by kernel_rfl⟩
noncomputable def siT : TypeInfo := (P.info? 99).get (by kernel_rfl)
noncomputable def siE : TypeInfo := (P.info? 57).get (by kernel_rfl)
theorem siK (n : Nat) (h2 : 2 ≤ n) : Lib.swapperK n siE 10 = 6 := by
  have a : siE.hasPointers = false := by kernel_rfl
  have b : siE.bytes = 4 := by kernel_rfl
  have c : (n == 0) = false := by simp; omega
  have d : (n == 1) = false := by simp; omega
  simp [Lib.swapperK, a, b, c, d]
theorem sortAt : SortAt P N 56 57 := {
  many := fun blk cap d lb w h2 hsz hless hH hblk => Any.sort_Slice_sorted Try.laysGg6 99 57 siT siE (by kernel_rfl) (by kernel_rfl) (by kernel_rfl) (by kernel_rfl) 10 (fun _ => by kernel_rfl) (by kernel_rfl) (fun _ => by kernel_rfl) encK (fun _ => rfl) Go.Sort.ltInt Go.Sort.swo_ltInt 57 lb (enters_of Try.func57 (by kernel_rfl) rfl) blk 0 cap d h2 hsz 71 (by rw [siK _ h2]; kernel_rfl) true (fun args W => run_callFunc_extern Try.func71 (by kernel_rfl) (by kernel_rfl) (by kernel_rfl) (e := Extern.ReflectliteSwapper.swap true) (by kernel_rfl) args W) w hless hH hblk
  one := fun p cap lb w => Any.sort_Slice_tiny Try.laysGg6 99 57 siT siE (by kernel_rfl) (by kernel_rfl) (by kernel_rfl) (by kernel_rfl) 10 (fun _ => by kernel_rfl) p 1 cap (Nat.le_refl _) 67 (by rw [show Lib.swapperK 1 siE 10 = 2 from rfl]; kernel_rfl) (.func 57) #[] lb w }
theorem hSort : SortGives P N 56 57 := sort_gives rdF tagF (by kernel_rfl) sortAt (by kernel_rfl)
theorem hEach : EachGives P 49 := each_gives rdF tagF hSort (by kernel_rfl)
theorem tagPlan : buildPlan P N.tTag = some ([.int .u32 0, .slice none 0 0], [(0, 1), (1, 1)]) := by kernel_rfl
end Go.Proofs.Ytlofojpaihnegab
