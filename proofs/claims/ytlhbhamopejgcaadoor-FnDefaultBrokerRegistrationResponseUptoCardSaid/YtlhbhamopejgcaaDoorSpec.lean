/- The reference's functions, at this seat. -/
import Derived.Test.YtlhbhamopejgcaaDoorParts
namespace Go.Proofs.YtlhbhamopejgcaaDoor
open Go Go.Kf

def sn : SN := { field := 52, fields := 29, msg := 31, has := 39, null := 57, whole := 45, things := 58, at_ := 25, uv := 43, fixed := 61, width := 62, counted := 59, value := 60, fld := 40, part := 24, known := 41, usual := 42, unknown := 44, write := 10, flex := 99999, number := 26, usualG := 99999, told1 := 99999, told := 99999, same := 33, fits1 := 5, fits2 := 17, fits3 := 34 }
theorem fbF : FbFacts P sn := ⟨by kernel_rfl, by kernel_rfl, by kernel_rfl⟩
theorem rowF : RowFacts P sn.field 8 := .of (by kernel_rfl) (by kernel_rfl) (by decide)
theorem spF : SpFacts P N sn := .of rdF tyY gotF rowF (by kernel_rfl) (by kernel_rfl) (by kernel_rfl) (by kernel_rfl) (by kernel_rfl) (by kernel_rfl) (by kernel_rfl) (by kernel_rfl)
theorem spT : SpTrees P N sn := ⟨by kernel_rfl, by kernel_rfl, by kernel_rfl, by kernel_rfl, by kernel_rfl, by kernel_rfl, by kernel_rfl, by kernel_rfl, by kernel_rfl, by kernel_rfl, by kernel_rfl, by kernel_rfl, by kernel_rfl, by kernel_rfl, by kernel_rfl⟩
theorem fitT : FitTrees P N sn := ⟨by kernel_rfl, by kernel_rfl, by kernel_rfl⟩
theorem rowTy : RowTypes P N := ⟨by kernel_rfl, by kernel_rfl, by kernel_rfl, by kernel_rfl, by kernel_rfl, of_decide_eq_true (by kernel_rfl)⟩
end Go.Proofs.YtlhbhamopejgcaaDoor
