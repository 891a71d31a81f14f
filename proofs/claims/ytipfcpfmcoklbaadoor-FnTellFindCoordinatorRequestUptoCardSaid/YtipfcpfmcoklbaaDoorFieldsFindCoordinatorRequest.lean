/- FindCoordinatorRequest: the reference's fields. -/
import Derived.Test.YtipfcpfmcoklbaaDoorSpec
namespace Go.Proofs.YtipfcpfmcoklbaaDoor
open Go Go.Kf

def fb_ : List FB := [⟨[(0, 8), (2, 3), (3, (-1)), (4, (-1))], none⟩, ⟨[(0, 1), (1, 1), (2, (-1)), (3, (-1)), (4, (-1))], none⟩, ⟨[(0, 11), (1, 4), (2, (-1)), (3, (-1)), (4, (-1)), (6, 8)], none⟩]
def pf : List PF := [.mk 8 0 3 (-1) (-1) 0 0 [], .mk 1 1 (-1) (-1) (-1) 0 0 [], .mk 11 4 (-1) (-1) (-1) 0 8 []]
theorem msgOk : MsgFn P 15 pf 3 := msgFn_gives (fbs := fb_) spF fbF (by kernel_rfl) ⟨_, _, rfl, rfl, rfl, ⟨_, _, rfl, rfl, rfl, ⟨_, _, rfl, rfl, rfl, rfl⟩⟩⟩ rfl rfl
theorem plainOk : PF.plains pf = true := by kernel_rfl
theorem kOk : kPart pf ≤ 1024 := of_decide_eq_true (by kernel_rfl)
end Go.Proofs.YtipfcpfmcoklbaaDoor
