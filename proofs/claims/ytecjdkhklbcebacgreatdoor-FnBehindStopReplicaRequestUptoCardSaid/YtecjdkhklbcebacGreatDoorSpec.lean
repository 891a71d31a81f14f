/- The reference's functions, at this seat. -/
import Derived.Test.YtecjdkhklbcebacGreatDoorParts
namespace Go.Proofs.YtecjdkhklbcebacGreatDoor
open Go Go.Kf

def sn : SN := { field := 45, fields := 29, msg := 31, has := 32, null := 58, whole := 39, things := 59, at_ := 34, uv := 37, fixed := 62, width := 63, counted := 60, value := 61, fld := 33, part := 19, known := 35, usual := 36, unknown := 38, write := 9, flex := 99999, number := 99999, usualG := 99999, told1 := 99999, told := 99999, same := 11, fits1 := 5, fits2 := 15, fits3 := 29 }
theorem fbF : FbFacts P sn := ⟨by kernel_rfl, by kernel_rfl, by kernel_rfl⟩
theorem rowF : RowFacts P sn.field 8 := .of (by kernel_rfl) (by kernel_rfl) (by decide)
theorem spF : SpFacts P N sn := .of rdF tyY gotF rowF (by kernel_rfl) (by kernel_rfl) (by kernel_rfl) (by kernel_rfl) (by kernel_rfl) (by kernel_rfl) (by kernel_rfl) (by kernel_rfl)
theorem spT : SpTrees P N sn := ⟨by kernel_rfl, by kernel_rfl, by kernel_rfl, by kernel_rfl, by kernel_rfl, by kernel_rfl, by kernel_rfl, by kernel_rfl, by kernel_rfl, by kernel_rfl, by kernel_rfl, by kernel_rfl, by kernel_rfl, by kernel_rfl, by kernel_rfl⟩
theorem fitT : FitTrees P N sn := ⟨by kernel_rfl, by kernel_rfl, by kernel_rfl⟩
theorem rowTy : RowTypes P N := ⟨by kernel_rfl, by kernel_rfl, by kernel_rfl, by kernel_rfl, by kernel_rfl, of_decide_eq_true (by kernel_rfl)⟩
end Go.Proofs.YtecjdkhklbcebacGreatDoor
