/- The reference's functions, at this seat. -/
import Derived.Test.YtecjdkhklbcebabGreatDoorParts
namespace Go.Proofs.YtecjdkhklbcebabGreatDoor
open Go Go.Kf

def sn : SN := { field := 45, fields := 29, msg := 31, has := 30, null := 54, whole := 37, things := 55, at_ := 32, uv := 35, fixed := 58, width := 59, counted := 56, value := 57, fld := 31, part := 18, known := 33, usual := 34, unknown := 36, write := 9, flex := 99999, number := 99999, usualG := 99999, told1 := 99999, told := 99999, same := 11, fits1 := 5, fits2 := 15, fits3 := 28 }
theorem fbF : FbFacts P sn := ⟨by kernel_rfl, by kernel_rfl, by kernel_rfl⟩
theorem rowF : RowFacts P sn.field 8 := .of (by kernel_rfl) (by kernel_rfl) (by decide)
theorem spF : SpFacts P N sn := .of rdF tyY gotF rowF (by kernel_rfl) (by kernel_rfl) (by kernel_rfl) (by kernel_rfl) (by kernel_rfl) (by kernel_rfl) (by kernel_rfl) (by kernel_rfl)
theorem spT : SpTrees P N sn := ⟨by kernel_rfl, by kernel_rfl, by kernel_rfl, by kernel_rfl, by kernel_rfl, by kernel_rfl, by kernel_rfl, by kernel_rfl, by kernel_rfl, by kernel_rfl, by kernel_rfl, by kernel_rfl, by kernel_rfl, by kernel_rfl, by kernel_rfl⟩
theorem fitT : FitTrees P N sn := ⟨by kernel_rfl, by kernel_rfl, by kernel_rfl⟩
theorem rowTy : RowTypes P N := ⟨by kernel_rfl, by kernel_rfl, by kernel_rfl, by kernel_rfl, by kernel_rfl, of_decide_eq_true (by kernel_rfl)⟩
end Go.Proofs.YtecjdkhklbcebabGreatDoor
