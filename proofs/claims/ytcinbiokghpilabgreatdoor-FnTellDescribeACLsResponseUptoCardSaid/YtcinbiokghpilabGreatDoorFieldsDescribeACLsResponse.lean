/- DescribeACLsResponse: the reference's fields. -/
import Derived.Test.YtcinbiokghpilabGreatDoorSpec
namespace Go.Proofs.YtcinbiokghpilabGreatDoor
open Go Go.Kf

def fb_sDescribeACLsResponseResourceACL : List FB := [⟨[(0, 8), (2, (-1)), (3, (-1)), (4, (-1))], none⟩, ⟨[(0, 8), (2, (-1)), (3, (-1)), (4, (-1))], none⟩, ⟨[(0, 1), (2, (-1)), (3, (-1)), (4, (-1))], none⟩, ⟨[(0, 1), (2, (-1)), (3, (-1)), (4, (-1))], none⟩]
def pf_sDescribeACLsResponseResourceACL : List PF := [.mk 8 0 (-1) (-1) (-1) 0 0 [], .mk 8 0 (-1) (-1) (-1) 0 0 [], .mk 1 0 (-1) (-1) (-1) 0 0 [], .mk 1 0 (-1) (-1) (-1) 0 0 []]
theorem ok_sDescribeACLsResponseResourceACL : FieldsFn P 71 pf_sDescribeACLsResponseResourceACL := fieldsFn_gives (fbs := fb_sDescribeACLsResponseResourceACL) spF fbF (by kernel_rfl) ⟨_, _, rfl, rfl, rfl, ⟨_, _, rfl, rfl, rfl, ⟨_, _, rfl, rfl, rfl, ⟨_, _, rfl, rfl, rfl, rfl⟩⟩⟩⟩ rfl rfl

def fb_sDescribeACLsResponseResource : List FB := [⟨[(0, 1), (2, (-1)), (3, (-1)), (4, (-1))], none⟩, ⟨[(0, 8), (2, (-1)), (3, (-1)), (4, (-1))], none⟩, ⟨[(0, 1), (1, 1), (2, (-1)), (3, (-1)), (4, (-1)), (5, 3)], none⟩, ⟨[(0, 11), (2, (-1)), (3, (-1)), (4, (-1)), (6, 10)], some 71⟩]
def pf_sDescribeACLsResponseResource : List PF := [.mk 1 0 (-1) (-1) (-1) 0 0 [], .mk 8 0 (-1) (-1) (-1) 0 0 [], .mk 1 1 (-1) (-1) (-1) 3 0 [], .mk 11 0 (-1) (-1) (-1) 0 10 pf_sDescribeACLsResponseResourceACL]
theorem ok_sDescribeACLsResponseResource : FieldsFn P 45 pf_sDescribeACLsResponseResource := fieldsFn_gives (fbs := fb_sDescribeACLsResponseResource) spF fbF (by kernel_rfl) ⟨_, _, rfl, rfl, rfl, ⟨_, _, rfl, rfl, rfl, ⟨_, _, rfl, rfl, rfl, ⟨_, _, rfl, rfl, ⟨_, ok_sDescribeACLsResponseResourceACL, rfl⟩, rfl⟩⟩⟩⟩ rfl rfl

def fb_ : List FB := [⟨[(0, 3), (2, (-1)), (3, (-1)), (4, (-1))], none⟩, ⟨[(0, 2), (2, (-1)), (3, (-1)), (4, (-1))], none⟩, ⟨[(0, 8), (2, (-1)), (3, 0), (4, (-1))], none⟩, ⟨[(0, 11), (2, (-1)), (3, (-1)), (4, (-1)), (6, 10)], some 45⟩]
def pf : List PF := [.mk 3 0 (-1) (-1) (-1) 0 0 [], .mk 2 0 (-1) (-1) (-1) 0 0 [], .mk 8 0 (-1) 0 (-1) 0 0 [], .mk 11 0 (-1) (-1) (-1) 0 10 pf_sDescribeACLsResponseResource]
theorem msgOk : MsgFn P 19 pf 2 := msgFn_gives (fbs := fb_) spF fbF (by kernel_rfl) ⟨_, _, rfl, rfl, rfl, ⟨_, _, rfl, rfl, rfl, ⟨_, _, rfl, rfl, rfl, ⟨_, _, rfl, rfl, ⟨_, ok_sDescribeACLsResponseResource, rfl⟩, rfl⟩⟩⟩⟩ rfl rfl
theorem plainOk : PF.plains pf = true := by kernel_rfl
theorem kOk : kPart pf ≤ 1024 := of_decide_eq_true (by kernel_rfl)
end Go.Proofs.YtcinbiokghpilabGreatDoor
