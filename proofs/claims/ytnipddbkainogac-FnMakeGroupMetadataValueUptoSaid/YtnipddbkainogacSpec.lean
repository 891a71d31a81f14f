/- The reference's functions, at this seat. -/
import Derived.Test.YtnipddbkainogacParts
namespace Go.Proofs.Ytnipddbkainogac
open Go Go.Kf

def sn : SN := { field := 50, fields := 29, msg := 31, has := 51, null := 48, whole := 27, things := 49, at_ := 25, uv := 54, fixed := 32, width := 72, counted := 70, value := 71, fld := 52, part := 28, known := 50, usual := 53, unknown := 26, write := 13, flex := 99999, number := 99999, usualG := 99999, told1 := 99999, told := 99999, same := 9, fits1 := 5, fits2 := 17, fits3 := 33 }
theorem fbF : FbFacts P sn := ⟨by kernel_rfl, by kernel_rfl, by kernel_rfl⟩
theorem rowF : RowFacts P sn.field 8 := .of (by kernel_rfl) (by kernel_rfl) (by decide)
theorem spF : SpFacts P N sn := .of rdF tyY gotF rowF (by kernel_rfl) (by kernel_rfl) (by kernel_rfl) (by kernel_rfl) (by kernel_rfl) (by kernel_rfl) (by kernel_rfl) (by kernel_rfl)
theorem spT : SpTrees P N sn := ⟨by kernel_rfl, by kernel_rfl, by kernel_rfl, by kernel_rfl, by kernel_rfl, by kernel_rfl, by kernel_rfl, by kernel_rfl, by kernel_rfl, by kernel_rfl, by kernel_rfl, by kernel_rfl, by kernel_rfl, by kernel_rfl, by kernel_rfl⟩
theorem fitT : FitTrees P N sn := ⟨by kernel_rfl, by kernel_rfl, by kernel_rfl⟩
theorem rowTy : RowTypes P N := ⟨by kernel_rfl, by kernel_rfl, by kernel_rfl, by kernel_rfl, by kernel_rfl, of_decide_eq_true (by kernel_rfl)⟩
end Go.Proofs.Ytnipddbkainogac
