/- The reference's functions, at this seat. -/
import Derived.Test.YtlofojpaihnegaaParts
namespace Go.Proofs.Ytlofojpaihnegaa
open Go Go.Kf

def sn : SN := { field := 50, fields := 29, msg := 31, has := 44, null := 41, whole := 23, things := 42, at_ := 21, uv := 47, fixed := 56, width := 57, counted := 54, value := 55, fld := 45, part := 24, known := 43, usual := 46, unknown := 22, write := 12, flex := 99999, number := 99999, usualG := 99999, told1 := 99999, told := 99999, same := 8, fits1 := 4, fits2 := 13, fits3 := 25 }
theorem fbF : FbFacts P sn := ⟨by kernel_rfl, by kernel_rfl, by kernel_rfl⟩
theorem rowF : RowFacts P sn.field 8 := .of (by kernel_rfl) (by kernel_rfl) (by decide)
theorem spF : SpFacts P N sn := .of rdF tyY gotF rowF (by kernel_rfl) (by kernel_rfl) (by kernel_rfl) (by kernel_rfl) (by kernel_rfl) (by kernel_rfl) (by kernel_rfl) (by kernel_rfl)
theorem spT : SpTrees P N sn := ⟨by kernel_rfl, by kernel_rfl, by kernel_rfl, by kernel_rfl, by kernel_rfl, by kernel_rfl, by kernel_rfl, by kernel_rfl, by kernel_rfl, by kernel_rfl, by kernel_rfl, by kernel_rfl, by kernel_rfl, by kernel_rfl, by kernel_rfl⟩
theorem fitT : FitTrees P N sn := ⟨by kernel_rfl, by kernel_rfl, by kernel_rfl⟩
theorem rowTy : RowTypes P N := ⟨by kernel_rfl, by kernel_rfl, by kernel_rfl, by kernel_rfl, by kernel_rfl, of_decide_eq_true (by kernel_rfl)⟩
end Go.Proofs.Ytlofojpaihnegaa
