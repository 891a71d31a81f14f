/- AlterUserSCRAMCredentialsResponse: the reference's fields. -/
import Derived.Test.YtlofojpaihnegaaSpec
namespace Go.Proofs.Ytlofojpaihnegaa
open Go Go.Kf

def fb_sAlterUserSCRAMCredentialsResponseResult : List FB := [⟨[(0, 8), (2, (-1)), (3, (-1)), (4, (-1))], none⟩, ⟨[(0, 2), (2, (-1)), (3, (-1)), (4, (-1))], none⟩, ⟨[(0, 8), (2, (-1)), (3, 0), (4, (-1))], none⟩]
def pf_sAlterUserSCRAMCredentialsResponseResult : List PF := [.mk 8 0 (-1) (-1) (-1) 0 0 [], .mk 2 0 (-1) (-1) (-1) 0 0 [], .mk 8 0 (-1) 0 (-1) 0 0 []]
theorem ok_sAlterUserSCRAMCredentialsResponseResult : FieldsFn P 16 pf_sAlterUserSCRAMCredentialsResponseResult := fieldsFn_gives (fbs := fb_sAlterUserSCRAMCredentialsResponseResult) spF fbF (by kernel_rfl) ⟨_, _, rfl, rfl, rfl, ⟨_, _, rfl, rfl, rfl, ⟨_, _, rfl, rfl, rfl, rfl⟩⟩⟩ rfl rfl

def fb_ : List FB := [⟨[(0, 3), (2, (-1)), (3, (-1)), (4, (-1))], none⟩, ⟨[(0, 11), (2, (-1)), (3, (-1)), (4, (-1)), (6, 10)], some 16⟩]
def pf : List PF := [.mk 3 0 (-1) (-1) (-1) 0 0 [], .mk 11 0 (-1) (-1) (-1) 0 10 pf_sAlterUserSCRAMCredentialsResponseResult]
theorem msgOk : MsgFn P 6 pf 0 := msgFn_gives (fbs := fb_) spF fbF (by kernel_rfl) ⟨_, _, rfl, rfl, rfl, ⟨_, _, rfl, rfl, ⟨_, ok_sAlterUserSCRAMCredentialsResponseResult, rfl⟩, rfl⟩⟩ rfl rfl
theorem plainOk : PF.plains pf = true := by kernel_rfl
theorem kOk : kPart pf ≤ 1024 := of_decide_eq_true (by kernel_rfl)
end Go.Proofs.Ytlofojpaihnegaa
