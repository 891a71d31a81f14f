/- The reference's functions, at this seat. -/
import Derived.Test.YtmficcifapfkdacGreatDoorParts
namespace Go.Proofs.YtmficcifapfkdacGreatDoor
open Go Go.Kf

def sn : SN := { field := 46, fields := 29, msg := 31, has := 22, null := 40, whole := 29, things := 41, at_ := 24, uv := 27, fixed := 44, width := 45, counted := 42, value := 43, fld := 23, part := 15, known := 25, usual := 26, unknown := 28, write := 8, flex := 99999, number := 99999, usualG := 99999, told1 := 99999, told := 99999, same := 10, fits1 := 4, fits2 := 11, fits3 := 19 }
theorem fbF : FbFacts P sn := ⟨by kernel_rfl, by kernel_rfl, by kernel_rfl⟩
theorem rowF : RowFacts P sn.field 8 := .of (by kernel_rfl) (by kernel_rfl) (by decide)
theorem spF : SpFacts P N sn := .of rdF tyY gotF rowF (by kernel_rfl) (by kernel_rfl) (by kernel_rfl) (by kernel_rfl) (by kernel_rfl) (by kernel_rfl) (by kernel_rfl) (by kernel_rfl)
theorem spT : SpTrees P N sn := ⟨by kernel_rfl, by kernel_rfl, by kernel_rfl, by kernel_rfl, by kernel_rfl, by kernel_rfl, by kernel_rfl, by kernel_rfl, by kernel_rfl, by kernel_rfl, by kernel_rfl, by kernel_rfl, by kernel_rfl, by kernel_rfl, by kernel_rfl⟩
theorem fitT : FitTrees P N sn := ⟨by kernel_rfl, by kernel_rfl, by kernel_rfl⟩
theorem rowTy : RowTypes P N := ⟨by kernel_rfl, by kernel_rfl, by kernel_rfl, by kernel_rfl, by kernel_rfl, of_decide_eq_true (by kernel_rfl)⟩
end Go.Proofs.YtmficcifapfkdacGreatDoor
