/- AlterClientQuotasResponse: the reference's fields. -/
import Derived.Test.YtcinbiokghpilaaGreatDoorSpec
namespace Go.Proofs.YtcinbiokghpilaaGreatDoor
open Go Go.Kf

def fb_sAlterClientQuotasResponseEntryEntity : List FB := [⟨[(0, 8), (2, (-1)), (3, (-1)), (4, (-1))], none⟩, ⟨[(0, 8), (2, (-1)), (3, 0), (4, (-1))], none⟩]
def pf_sAlterClientQuotasResponseEntryEntity : List PF := [.mk 8 0 (-1) (-1) (-1) 0 0 [], .mk 8 0 (-1) 0 (-1) 0 0 []]
theorem ok_sAlterClientQuotasResponseEntryEntity : FieldsFn P 64 pf_sAlterClientQuotasResponseEntryEntity := fieldsFn_gives (fbs := fb_sAlterClientQuotasResponseEntryEntity) spF fbF (by kernel_rfl) ⟨_, _, rfl, rfl, rfl, ⟨_, _, rfl, rfl, rfl, rfl⟩⟩ rfl rfl

def fb_sAlterClientQuotasResponseEntry : List FB := [⟨[(0, 2), (2, (-1)), (3, (-1)), (4, (-1))], none⟩, ⟨[(0, 8), (2, (-1)), (3, 0), (4, (-1))], none⟩, ⟨[(0, 11), (2, (-1)), (3, (-1)), (4, (-1)), (6, 10)], some 64⟩]
def pf_sAlterClientQuotasResponseEntry : List PF := [.mk 2 0 (-1) (-1) (-1) 0 0 [], .mk 8 0 (-1) 0 (-1) 0 0 [], .mk 11 0 (-1) (-1) (-1) 0 10 pf_sAlterClientQuotasResponseEntryEntity]
theorem ok_sAlterClientQuotasResponseEntry : FieldsFn P 38 pf_sAlterClientQuotasResponseEntry := fieldsFn_gives (fbs := fb_sAlterClientQuotasResponseEntry) spF fbF (by kernel_rfl) ⟨_, _, rfl, rfl, rfl, ⟨_, _, rfl, rfl, rfl, ⟨_, _, rfl, rfl, ⟨_, ok_sAlterClientQuotasResponseEntryEntity, rfl⟩, rfl⟩⟩⟩ rfl rfl

def fb_ : List FB := [⟨[(0, 3), (2, (-1)), (3, (-1)), (4, (-1))], none⟩, ⟨[(0, 11), (2, (-1)), (3, (-1)), (4, (-1)), (6, 10)], some 38⟩]
def pf : List PF := [.mk 3 0 (-1) (-1) (-1) 0 0 [], .mk 11 0 (-1) (-1) (-1) 0 10 pf_sAlterClientQuotasResponseEntry]
theorem msgOk : MsgFn P 16 pf 1 := msgFn_gives (fbs := fb_) spF fbF (by kernel_rfl) ⟨_, _, rfl, rfl, rfl, ⟨_, _, rfl, rfl, ⟨_, ok_sAlterClientQuotasResponseEntry, rfl⟩, rfl⟩⟩ rfl rfl
theorem plainOk : PF.plains pf = true := by kernel_rfl
theorem kOk : kPart pf ≤ 1024 := of_decide_eq_true (by kernel_rfl)
end Go.Proofs.YtcinbiokghpilaaGreatDoor
