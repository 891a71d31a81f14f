/- The reference's functions, at this seat. -/
import Derived.Test.YtgodapplcokkjaaGreatParts
namespace Go.Proofs.YtgodapplcokkjaaGreat
open Go Go.Kf

def sn : SN := { field := 50, fields := 29, msg := 31, has := 47, null := 44, whole := 23, things := 45, at_ := 21, uv := 50, fixed := 61, width := 62, counted := 59, value := 60, fld := 48, part := 24, known := 46, usual := 49, unknown := 22, write := 12, flex := 99999, number := 99999, usualG := 99999, told1 := 99999, told := 99999, same := 8, fits1 := 4, fits2 := 13, fits3 := 25 }
theorem fbF : FbFacts P sn := ⟨by kernel_rfl, by kernel_rfl, by kernel_rfl⟩
theorem rowF : RowFacts P sn.field 8 := .of (by kernel_rfl) (by kernel_rfl) (by decide)
theorem spF : SpFacts P N sn := .of rdF tyY gotF rowF (by kernel_rfl) (by kernel_rfl) (by kernel_rfl) (by kernel_rfl) (by kernel_rfl) (by kernel_rfl) (by kernel_rfl) (by kernel_rfl)
theorem spT : SpTrees P N sn := ⟨by kernel_rfl, by kernel_rfl, by kernel_rfl, by kernel_rfl, by kernel_rfl, by kernel_rfl, by kernel_rfl, by kernel_rfl, by kernel_rfl, by kernel_rfl, by kernel_rfl, by kernel_rfl, by kernel_rfl, by kernel_rfl, by kernel_rfl⟩
theorem fitT : FitTrees P N sn := ⟨by kernel_rfl, by kernel_rfl, by kernel_rfl⟩
theorem rowTy : RowTypes P N := ⟨by kernel_rfl, by kernel_rfl, by kernel_rfl, by kernel_rfl, by kernel_rfl, of_decide_eq_true (by kernel_rfl)⟩
end Go.Proofs.YtgodapplcokkjaaGreat
