/- The reference's functions, at this seat. -/
import Derived.Test.YtecjdkhklbcebadGreatDoorParts
namespace Go.Proofs.YtecjdkhklbcebadGreatDoor
open Go Go.Kf

def sn : SN := { field := 45, fields := 29, msg := 31, has := 34, null := 61, whole := 41, things := 62, at_ := 36, uv := 39, fixed := 65, width := 66, counted := 63, value := 64, fld := 35, part := 20, known := 37, usual := 38, unknown := 40, write := 9, flex := 99999, number := 99999, usualG := 99999, told1 := 99999, told := 99999, same := 11, fits1 := 5, fits2 := 15, fits3 := 31 }
theorem fbF : FbFacts P sn := ⟨by kernel_rfl, by kernel_rfl, by kernel_rfl⟩
theorem rowF : RowFacts P sn.field 8 := .of (by kernel_rfl) (by kernel_rfl) (by decide)
theorem spF : SpFacts P N sn := .of rdF tyY gotF rowF (by kernel_rfl) (by kernel_rfl) (by kernel_rfl) (by kernel_rfl) (by kernel_rfl) (by kernel_rfl) (by kernel_rfl) (by kernel_rfl)
theorem spT : SpTrees P N sn := ⟨by kernel_rfl, by kernel_rfl, by kernel_rfl, by kernel_rfl, by kernel_rfl, by kernel_rfl, by kernel_rfl, by kernel_rfl, by kernel_rfl, by kernel_rfl, by kernel_rfl, by kernel_rfl, by kernel_rfl, by kernel_rfl, by kernel_rfl⟩
theorem fitT : FitTrees P N sn := ⟨by kernel_rfl, by kernel_rfl, by kernel_rfl⟩
theorem rowTy : RowTypes P N := ⟨by kernel_rfl, by kernel_rfl, by kernel_rfl, by kernel_rfl, by kernel_rfl, of_decide_eq_true (by kernel_rfl)⟩
end Go.Proofs.YtecjdkhklbcebadGreatDoor
