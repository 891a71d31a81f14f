/- The reference's functions, at this seat. -/
import Derived.Test.YtkeeecooikahpaaDoorParts
namespace Go.Proofs.YtkeeecooikahpaaDoor
open Go Go.Kf

def sn : SN := { field := 51, fields := 29, msg := 31, has := 22, null := 39, whole := 28, things := 40, at_ := 21, uv := 36, fixed := 37, width := 38, counted := 51, value := 52, fld := 34, part := 20, known := 35, usual := 23, unknown := 26, write := 9, flex := 11, number := 41, usualG := 25, told1 := 24, told := 10, same := 27, fits1 := 4, fits2 := 13, fits3 := 29 }
theorem fbF : FbFacts P sn := ⟨by kernel_rfl, by kernel_rfl, by kernel_rfl⟩
theorem rowF : RowFacts P sn.field 8 := .of (by kernel_rfl) (by kernel_rfl) (by decide)
theorem spF : SpFacts P N sn := .of rdF tyY gotF rowF (by kernel_rfl) (by kernel_rfl) (by kernel_rfl) (by kernel_rfl) (by kernel_rfl) (by kernel_rfl) (by kernel_rfl) (by kernel_rfl)
theorem spT : SpTrees P N sn := ⟨by kernel_rfl, by kernel_rfl, by kernel_rfl, by kernel_rfl, by kernel_rfl, by kernel_rfl, by kernel_rfl, by kernel_rfl, by kernel_rfl, by kernel_rfl, by kernel_rfl, by kernel_rfl, by kernel_rfl, by kernel_rfl, by kernel_rfl⟩
theorem tlT : TlTrees P N sn := ⟨by kernel_rfl, by kernel_rfl, by kernel_rfl, by kernel_rfl, by kernel_rfl, by kernel_rfl⟩
theorem fitT : FitTrees P N sn := ⟨by kernel_rfl, by kernel_rfl, by kernel_rfl⟩
theorem rowTy : RowTypes P N := ⟨by kernel_rfl, by kernel_rfl, by kernel_rfl, by kernel_rfl, by kernel_rfl, of_decide_eq_true (by kernel_rfl)⟩
end Go.Proofs.YtkeeecooikahpaaDoor
