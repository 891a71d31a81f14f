/- DescribeGroupsRequest: the reference's fields. -/
import Derived.Test.YtipfcpfmcoklbaaDoorSpec
namespace Go.Proofs.YtipfcpfmcoklbaaDoor
open Go Go.Kf

def fb_ : List FB := [⟨[(0, 11), (2, (-1)), (3, (-1)), (4, (-1)), (6, 8)], none⟩, ⟨[(0, 0), (1, 3), (2, (-1)), (3, (-1)), (4, (-1))], none⟩]
def pf : List PF := [.mk 11 0 (-1) (-1) (-1) 0 8 [], .mk 0 3 (-1) (-1) (-1) 0 0 []]
theorem msgOk : MsgFn P 7 pf 5 := msgFn_gives (fbs := fb_) spF fbF (by kernel_rfl) ⟨_, _, rfl, rfl, rfl, ⟨_, _, rfl, rfl, rfl, rfl⟩⟩ rfl rfl
theorem plainOk : PF.plains pf = true := by kernel_rfl
theorem kOk : kPart pf ≤ 1024 := of_decide_eq_true (by kernel_rfl)
end Go.Proofs.YtipfcpfmcoklbaaDoor
