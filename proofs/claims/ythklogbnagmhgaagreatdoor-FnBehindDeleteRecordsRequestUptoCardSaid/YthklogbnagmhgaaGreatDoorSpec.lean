/- The reference's functions, at this seat. -/
import Derived.Test.YthklogbnagmhgaaGreatDoorParts
namespace Go.Proofs.YthklogbnagmhgaaGreatDoor
open Go Go.Kf

def sn : SN := { field := 46, fields := 29, msg := 31, has := 41, null := 66, whole := 48, things := 67, at_ := 43, uv := 46, fixed := 70, width := 71, counted := 68, value := 69, fld := 42, part := 23, known := 44, usual := 45, unknown := 47, write := 10, flex := 99999, number := 99999, usualG := 99999, told1 := 99999, told := 99999, same := 12, fits1 := 6, fits2 := 19, fits3 := 38 }
theorem fbF : FbFacts P sn := ⟨by kernel_rfl, by kernel_rfl, by kernel_rfl⟩
theorem rowF : RowFacts P sn.field 8 := .of (by kernel_rfl) (by kernel_rfl) (by decide)
theorem spF : SpFacts P N sn := .of rdF tyY gotF rowF (by kernel_rfl) (by kernel_rfl) (by kernel_rfl) (by kernel_rfl) (by kernel_rfl) (by kernel_rfl) (by kernel_rfl) (by kernel_rfl)
theorem spT : SpTrees P N sn := ⟨by kernel_rfl, by kernel_rfl, by kernel_rfl, by kernel_rfl, by kernel_rfl, by kernel_rfl, by kernel_rfl, by kernel_rfl, by kernel_rfl, by kernel_rfl, by kernel_rfl, by kernel_rfl, by kernel_rfl, by kernel_rfl, by kernel_rfl⟩
theorem fitT : FitTrees P N sn := ⟨by kernel_rfl, by kernel_rfl, by kernel_rfl⟩
theorem rowTy : RowTypes P N := ⟨by kernel_rfl, by kernel_rfl, by kernel_rfl, by kernel_rfl, by kernel_rfl, of_decide_eq_true (by kernel_rfl)⟩
end Go.Proofs.YthklogbnagmhgaaGreatDoor
