/- The reference's functions, at this seat. -/
import Derived.Test.YtlofojpaihnegabParts
namespace Go.Proofs.Ytlofojpaihnegab
open Go Go.Kf

def sn : SN := { field := 44, fields := 28, msg := 30, has := 51, null := 40, whole := 18, things := 41, at_ := 16, uv := 54, fixed := 19, width := 60, counted := 58, value := 59, fld := 52, part := 43, known := 42, usual := 53, unknown := 17, write := 20, flex := 99999, number := 99999, usualG := 99999, told1 := 99999, told := 99999, same := 6, fits1 := 4, fits2 := 11, fits3 := 21 }
theorem fbF : FbFacts P sn := ⟨by kernel_rfl, by kernel_rfl, by kernel_rfl⟩
theorem rowF : RowFacts P sn.field 8 := .of (by kernel_rfl) (by kernel_rfl) (by decide)
theorem spF : SpFacts P N sn := .of rdF tyY gotF rowF (by kernel_rfl) (by kernel_rfl) (by kernel_rfl) (by kernel_rfl) (by kernel_rfl) (by kernel_rfl) (by kernel_rfl) (by kernel_rfl)
theorem spT : SpTrees P N sn := ⟨by kernel_rfl, by kernel_rfl, by kernel_rfl, by kernel_rfl, by kernel_rfl, by kernel_rfl, by kernel_rfl, by kernel_rfl, by kernel_rfl, by kernel_rfl, by kernel_rfl, by kernel_rfl, by kernel_rfl, by kernel_rfl, by kernel_rfl⟩
theorem fitT : FitTrees P N sn := ⟨by kernel_rfl, by kernel_rfl, by kernel_rfl⟩
theorem rowTy : RowTypes P N := ⟨by kernel_rfl, by kernel_rfl, by kernel_rfl, by kernel_rfl, by kernel_rfl, of_decide_eq_true (by kernel_rfl)⟩
end Go.Proofs.Ytlofojpaihnegab
