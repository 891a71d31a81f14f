/- The reference's functions, at this seat. -/
import Derived.Test.YtkeeecooikahpabDoorParts
namespace Go.Proofs.YtkeeecooikahpabDoor
open Go Go.Kf

def sn : SN := { field := 51, fields := 29, msg := 31, has := 21, null := 39, whole := 27, things := 40, at_ := 20, uv := 36, fixed := 37, width := 38, counted := 47, value := 48, fld := 34, part := 19, known := 35, usual := 22, unknown := 25, write := 9, flex := 11, number := 41, usualG := 24, told1 := 23, told := 10, same := 26, fits1 := 4, fits2 := 13, fits3 := 28 }
theorem fbF : FbFacts P sn := ⟨by kernel_rfl, by kernel_rfl, by kernel_rfl⟩
theorem rowF : RowFacts P sn.field 8 := .of (by kernel_rfl) (by kernel_rfl) (by decide)
theorem spF : SpFacts P N sn := .of rdF tyY gotF rowF (by kernel_rfl) (by kernel_rfl) (by kernel_rfl) (by kernel_rfl) (by kernel_rfl) (by kernel_rfl) (by kernel_rfl) (by kernel_rfl)
theorem spT : SpTrees P N sn := ⟨by kernel_rfl, by kernel_rfl, by kernel_rfl, by kernel_rfl, by kernel_rfl, by kernel_rfl, by kernel_rfl, by kernel_rfl, by kernel_rfl, by kernel_rfl, by kernel_rfl, by kernel_rfl, by kernel_rfl, by kernel_rfl, by kernel_rfl⟩
theorem tlT : TlTrees P N sn := ⟨by kernel_rfl, by kernel_rfl, by kernel_rfl, by kernel_rfl, by kernel_rfl, by kernel_rfl⟩
theorem fitT : FitTrees P N sn := ⟨by kernel_rfl, by kernel_rfl, by kernel_rfl⟩
theorem rowTy : RowTypes P N := ⟨by kernel_rfl, by kernel_rfl, by kernel_rfl, by kernel_rfl, by kernel_rfl, of_decide_eq_true (by kernel_rfl)⟩
end Go.Proofs.YtkeeecooikahpabDoor
