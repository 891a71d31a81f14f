/- The reference's functions, at this seat. -/
import Derived.Test.YtkdgpkilomlmpaaParts
namespace Go.Proofs.Ytkdgpkilomlmpaa
open Go Go.Kf

def sn : SN := { field := 50, fields := 29, msg := 31, has := 46, null := 43, whole := 26, things := 44, at_ := 24, uv := 49, fixed := 65, width := 66, counted := 63, value := 64, fld := 47, part := 27, known := 45, usual := 48, unknown := 25, write := 13, flex := 99999, number := 99999, usualG := 99999, told1 := 99999, told := 99999, same := 9, fits1 := 5, fits2 := 17, fits3 := 34 }
theorem fbF : FbFacts P sn := ⟨by kernel_rfl, by kernel_rfl, by kernel_rfl⟩
theorem rowF : RowFacts P sn.field 8 := .of (by kernel_rfl) (by kernel_rfl) (by decide)
theorem spF : SpFacts P N sn := .of rdF tyY gotF rowF (by kernel_rfl) (by kernel_rfl) (by kernel_rfl) (by kernel_rfl) (by kernel_rfl) (by kernel_rfl) (by kernel_rfl) (by kernel_rfl)
theorem spT : SpTrees P N sn := ⟨by kernel_rfl, by kernel_rfl, by kernel_rfl, by kernel_rfl, by kernel_rfl, by kernel_rfl, by kernel_rfl, by kernel_rfl, by kernel_rfl, by kernel_rfl, by kernel_rfl, by kernel_rfl, by kernel_rfl, by kernel_rfl, by kernel_rfl⟩
theorem fitT : FitTrees P N sn := ⟨by kernel_rfl, by kernel_rfl, by kernel_rfl⟩
theorem rowTy : RowTypes P N := ⟨by kernel_rfl, by kernel_rfl, by kernel_rfl, by kernel_rfl, by kernel_rfl, of_decide_eq_true (by kernel_rfl)⟩
end Go.Proofs.Ytkdgpkilomlmpaa
