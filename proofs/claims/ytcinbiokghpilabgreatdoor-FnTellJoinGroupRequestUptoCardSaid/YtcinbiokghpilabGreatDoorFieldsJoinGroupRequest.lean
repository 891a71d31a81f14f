/- JoinGroupRequest: the reference's fields. -/
import Derived.Test.YtcinbiokghpilabGreatDoorSpec
namespace Go.Proofs.YtcinbiokghpilabGreatDoor
open Go Go.Kf

def fb_sJoinGroupRequestProtocol : List FB := [⟨[(0, 8), (2, (-1)), (3, (-1)), (4, (-1))], none⟩, ⟨[(0, 9), (2, (-1)), (3, (-1)), (4, (-1))], none⟩]
def pf_sJoinGroupRequestProtocol : List PF := [.mk 8 0 (-1) (-1) (-1) 0 0 [], .mk 9 0 (-1) (-1) (-1) 0 0 []]
theorem ok_sJoinGroupRequestProtocol : FieldsFn P 24 pf_sJoinGroupRequestProtocol := fieldsFn_gives (fbs := fb_sJoinGroupRequestProtocol) spF fbF (by kernel_rfl) ⟨_, _, rfl, rfl, rfl, ⟨_, _, rfl, rfl, rfl, rfl⟩⟩ rfl rfl

def fb_ : List FB := [⟨[(0, 8), (2, (-1)), (3, (-1)), (4, (-1))], none⟩, ⟨[(0, 3), (2, (-1)), (3, (-1)), (4, (-1))], none⟩, ⟨[(0, 3), (1, 1), (2, (-1)), (3, (-1)), (4, (-1)), (5, (-1))], none⟩, ⟨[(0, 8), (2, (-1)), (3, (-1)), (4, (-1))], none⟩, ⟨[(0, 8), (1, 5), (2, (-1)), (3, 5), (4, (-1))], none⟩, ⟨[(0, 8), (2, (-1)), (3, (-1)), (4, (-1))], none⟩, ⟨[(0, 11), (2, (-1)), (3, (-1)), (4, (-1)), (6, 10)], some 24⟩, ⟨[(0, 8), (1, 8), (2, (-1)), (3, 8), (4, (-1))], none⟩]
def pf : List PF := [.mk 8 0 (-1) (-1) (-1) 0 0 [], .mk 3 0 (-1) (-1) (-1) 0 0 [], .mk 3 1 (-1) (-1) (-1) (-1) 0 [], .mk 8 0 (-1) (-1) (-1) 0 0 [], .mk 8 5 (-1) 5 (-1) 0 0 [], .mk 8 0 (-1) (-1) (-1) 0 0 [], .mk 11 0 (-1) (-1) (-1) 0 10 pf_sJoinGroupRequestProtocol, .mk 8 8 (-1) 8 (-1) 0 0 []]
theorem msgOk : MsgFn P 8 pf 6 := msgFn_gives (fbs := fb_) spF fbF (by kernel_rfl) ⟨_, _, rfl, rfl, rfl, ⟨_, _, rfl, rfl, rfl, ⟨_, _, rfl, rfl, rfl, ⟨_, _, rfl, rfl, rfl, ⟨_, _, rfl, rfl, rfl, ⟨_, _, rfl, rfl, rfl, ⟨_, _, rfl, rfl, ⟨_, ok_sJoinGroupRequestProtocol, rfl⟩, ⟨_, _, rfl, rfl, rfl, rfl⟩⟩⟩⟩⟩⟩⟩⟩ rfl rfl
theorem plainOk : PF.plains pf = true := by kernel_rfl
theorem kOk : kPart pf ≤ 1024 := of_decide_eq_true (by kernel_rfl)
end Go.Proofs.YtcinbiokghpilabGreatDoor
