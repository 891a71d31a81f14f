/- LeaveGroupResponse: the reference's fields. -/
import Derived.Test.YtbgdfbfecdanbaaGreatDoorSpec
namespace Go.Proofs.YtbgdfbfecdanbaaGreatDoor
open Go Go.Kf

def fb_sLeaveGroupResponseMember : List FB := [⟨[(0, 8), (2, (-1)), (3, (-1)), (4, (-1))], none⟩, ⟨[(0, 8), (2, (-1)), (3, 0), (4, (-1))], none⟩, ⟨[(0, 2), (2, (-1)), (3, (-1)), (4, (-1))], none⟩]
def pf_sLeaveGroupResponseMember : List PF := [.mk 8 0 (-1) (-1) (-1) 0 0 [], .mk 8 0 (-1) 0 (-1) 0 0 [], .mk 2 0 (-1) (-1) (-1) 0 0 []]
theorem ok_sLeaveGroupResponseMember : FieldsFn P 18 pf_sLeaveGroupResponseMember := fieldsFn_gives (fbs := fb_sLeaveGroupResponseMember) spF fbF (by kernel_rfl) ⟨_, _, rfl, rfl, rfl, ⟨_, _, rfl, rfl, rfl, ⟨_, _, rfl, rfl, rfl, rfl⟩⟩⟩ rfl rfl

def fb_ : List FB := [⟨[(0, 3), (1, 1), (2, (-1)), (3, (-1)), (4, (-1))], none⟩, ⟨[(0, 2), (2, (-1)), (3, (-1)), (4, (-1))], none⟩, ⟨[(0, 11), (1, 3), (2, (-1)), (3, (-1)), (4, (-1)), (6, 10)], some 18⟩]
def pf : List PF := [.mk 3 1 (-1) (-1) (-1) 0 0 [], .mk 2 0 (-1) (-1) (-1) 0 0 [], .mk 11 3 (-1) (-1) (-1) 0 10 pf_sLeaveGroupResponseMember]
theorem msgOk : MsgFn P 7 pf 4 := msgFn_gives (fbs := fb_) spF fbF (by kernel_rfl) ⟨_, _, rfl, rfl, rfl, ⟨_, _, rfl, rfl, rfl, ⟨_, _, rfl, rfl, ⟨_, ok_sLeaveGroupResponseMember, rfl⟩, rfl⟩⟩⟩ rfl rfl
theorem plainOk : PF.plains pf = true := by kernel_rfl
theorem kOk : kPart pf ≤ 1024 := of_decide_eq_true (by kernel_rfl)
end Go.Proofs.YtbgdfbfecdanbaaGreatDoor
