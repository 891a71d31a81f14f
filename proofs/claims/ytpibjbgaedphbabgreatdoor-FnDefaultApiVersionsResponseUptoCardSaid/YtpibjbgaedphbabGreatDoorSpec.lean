/- The reference's functions, at this seat. -/
import Derived.Test.YtpibjbgaedphbabGreatDoorParts
namespace Go.Proofs.YtpibjbgaedphbabGreatDoor
open Go Go.Kf

def sn : SN := { field := 50, fields := 29, msg := 31, has := 34, null := 65, whole := 40, things := 66, at_ := 23, uv := 38, fixed := 69, width := 71, counted := 67, value := 68, fld := 35, part := 22, known := 36, usual := 37, unknown := 39, write := 9, flex := 99999, number := 24, usualG := 99999, told1 := 99999, told := 99999, same := 70, fits1 := 4, fits2 := 12, fits3 := 25 }
theorem fbF : FbFacts P sn := ⟨by kernel_rfl, by kernel_rfl, by kernel_rfl⟩
theorem rowF : RowFacts P sn.field 8 := .of (by kernel_rfl) (by kernel_rfl) (by decide)
theorem spF : SpFacts P N sn := .of rdF tyY gotF rowF (by kernel_rfl) (by kernel_rfl) (by kernel_rfl) (by kernel_rfl) (by kernel_rfl) (by kernel_rfl) (by kernel_rfl) (by kernel_rfl)
theorem spT : SpTrees P N sn := ⟨by kernel_rfl, by kernel_rfl, by kernel_rfl, by kernel_rfl, by kernel_rfl, by kernel_rfl, by kernel_rfl, by kernel_rfl, by kernel_rfl, by kernel_rfl, by kernel_rfl, by kernel_rfl, by kernel_rfl, by kernel_rfl, by kernel_rfl⟩
theorem fitT : FitTrees P N sn := ⟨by kernel_rfl, by kernel_rfl, by kernel_rfl⟩
theorem rowTy : RowTypes P N := ⟨by kernel_rfl, by kernel_rfl, by kernel_rfl, by kernel_rfl, by kernel_rfl, of_decide_eq_true (by kernel_rfl)⟩
end Go.Proofs.YtpibjbgaedphbabGreatDoor
