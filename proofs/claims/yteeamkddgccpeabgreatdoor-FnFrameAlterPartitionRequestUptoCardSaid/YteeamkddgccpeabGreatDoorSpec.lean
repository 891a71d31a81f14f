/- The reference's functions, at this seat. -/
import Derived.Test.YteeamkddgccpeabGreatDoorParts
namespace Go.Proofs.YteeamkddgccpeabGreatDoor
open Go Go.Kf

def sn : SN := { field := 50, fields := 32, msg := 34, has := 26, null := 39, whole := 33, things := 40, at_ := 28, uv := 31, fixed := 22, width := 43, counted := 41, value := 42, fld := 27, part := 18, known := 29, usual := 30, unknown := 32, write := 9, flex := 13, number := 99999, usualG := 99999, told1 := 99999, told := 99999, same := 11, fits1 := 5, fits2 := 14, fits3 := 23 }
theorem fbF : FbFacts P sn := ⟨by kernel_rfl, by kernel_rfl, by kernel_rfl⟩
theorem rowF : RowFacts P sn.field 8 := .of (by kernel_rfl) (by kernel_rfl) (by decide)
theorem spF : SpFacts P N sn := .of rdF tyY gotF rowF (by kernel_rfl) (by kernel_rfl) (by kernel_rfl) (by kernel_rfl) (by kernel_rfl) (by kernel_rfl) (by kernel_rfl) (by kernel_rfl)
theorem spT : SpTrees P N sn := ⟨by kernel_rfl, by kernel_rfl, by kernel_rfl, by kernel_rfl, by kernel_rfl, by kernel_rfl, by kernel_rfl, by kernel_rfl, by kernel_rfl, by kernel_rfl, by kernel_rfl, by kernel_rfl, by kernel_rfl, by kernel_rfl, by kernel_rfl⟩
theorem fitT : FitTrees P N sn := ⟨by kernel_rfl, by kernel_rfl, by kernel_rfl⟩
theorem rowTy : RowTypes P N := ⟨by kernel_rfl, by kernel_rfl, by kernel_rfl, by kernel_rfl, by kernel_rfl, of_decide_eq_true (by kernel_rfl)⟩
end Go.Proofs.YteeamkddgccpeabGreatDoor
