/- The reference's functions, at this seat. -/
import Derived.Test.YteeamkddgccpeaaGreatDoorParts
namespace Go.Proofs.YteeamkddgccpeaaGreatDoor
open Go Go.Kf

def sn : SN := { field := 50, fields := 32, msg := 34, has := 24, null := 36, whole := 31, things := 37, at_ := 26, uv := 29, fixed := 21, width := 40, counted := 38, value := 39, fld := 25, part := 17, known := 27, usual := 28, unknown := 30, write := 9, flex := 13, number := 99999, usualG := 99999, told1 := 99999, told := 99999, same := 11, fits1 := 5, fits2 := 14, fits3 := 22 }
theorem fbF : FbFacts P sn := ⟨by kernel_rfl, by kernel_rfl, by kernel_rfl⟩
theorem rowF : RowFacts P sn.field 8 := .of (by kernel_rfl) (by kernel_rfl) (by decide)
theorem spF : SpFacts P N sn := .of rdF tyY gotF rowF (by kernel_rfl) (by kernel_rfl) (by kernel_rfl) (by kernel_rfl) (by kernel_rfl) (by kernel_rfl) (by kernel_rfl) (by kernel_rfl)
theorem spT : SpTrees P N sn := ⟨by kernel_rfl, by kernel_rfl, by kernel_rfl, by kernel_rfl, by kernel_rfl, by kernel_rfl, by kernel_rfl, by kernel_rfl, by kernel_rfl, by kernel_rfl, by kernel_rfl, by kernel_rfl, by kernel_rfl, by kernel_rfl, by kernel_rfl⟩
theorem fitT : FitTrees P N sn := ⟨by kernel_rfl, by kernel_rfl, by kernel_rfl⟩
theorem rowTy : RowTypes P N := ⟨by kernel_rfl, by kernel_rfl, by kernel_rfl, by kernel_rfl, by kernel_rfl, of_decide_eq_true (by kernel_rfl)⟩
end Go.Proofs.YteeamkddgccpeaaGreatDoor
