/- ApiVersionsResponse: the reference's fields. -/
import Derived.Test.YtpibjbgaedphbabGreatDoorSpec
namespace Go.Proofs.YtpibjbgaedphbabGreatDoor
open Go Go.Kf

def fb_sApiVersionsResponseApiKey : List FB := [⟨[(0, 2), (2, (-1)), (3, (-1)), (4, (-1))], none⟩, ⟨[(0, 2), (2, (-1)), (3, (-1)), (4, (-1))], none⟩, ⟨[(0, 2), (2, (-1)), (3, (-1)), (4, (-1))], none⟩]
def pf_sApiVersionsResponseApiKey : List PF := [.mk 2 0 (-1) (-1) (-1) 0 0 [], .mk 2 0 (-1) (-1) (-1) 0 0 [], .mk 2 0 (-1) (-1) (-1) 0 0 []]
theorem ok_sApiVersionsResponseApiKey : FieldsFn P 15 pf_sApiVersionsResponseApiKey := fieldsFn_gives (fbs := fb_sApiVersionsResponseApiKey) spF fbF (by kernel_rfl) ⟨_, _, rfl, rfl, rfl, ⟨_, _, rfl, rfl, rfl, ⟨_, _, rfl, rfl, rfl, rfl⟩⟩⟩ rfl rfl

def fb_sApiVersionsResponseSupportedFeature : List FB := [⟨[(0, 8), (2, (-1)), (3, (-1)), (4, (-1))], none⟩, ⟨[(0, 2), (2, (-1)), (3, (-1)), (4, (-1))], none⟩, ⟨[(0, 2), (2, (-1)), (3, (-1)), (4, (-1))], none⟩]
def pf_sApiVersionsResponseSupportedFeature : List PF := [.mk 8 0 (-1) (-1) (-1) 0 0 [], .mk 2 0 (-1) (-1) (-1) 0 0 [], .mk 2 0 (-1) (-1) (-1) 0 0 []]
theorem ok_sApiVersionsResponseSupportedFeature : FieldsFn P 16 pf_sApiVersionsResponseSupportedFeature := fieldsFn_gives (fbs := fb_sApiVersionsResponseSupportedFeature) spF fbF (by kernel_rfl) ⟨_, _, rfl, rfl, rfl, ⟨_, _, rfl, rfl, rfl, ⟨_, _, rfl, rfl, rfl, rfl⟩⟩⟩ rfl rfl

def fb_sApiVersionsResponseFinalizedFeature : List FB := [⟨[(0, 8), (2, (-1)), (3, (-1)), (4, (-1))], none⟩, ⟨[(0, 2), (2, (-1)), (3, (-1)), (4, (-1))], none⟩, ⟨[(0, 2), (2, (-1)), (3, (-1)), (4, (-1))], none⟩]
def pf_sApiVersionsResponseFinalizedFeature : List PF := [.mk 8 0 (-1) (-1) (-1) 0 0 [], .mk 2 0 (-1) (-1) (-1) 0 0 [], .mk 2 0 (-1) (-1) (-1) 0 0 []]
theorem ok_sApiVersionsResponseFinalizedFeature : FieldsFn P 17 pf_sApiVersionsResponseFinalizedFeature := fieldsFn_gives (fbs := fb_sApiVersionsResponseFinalizedFeature) spF fbF (by kernel_rfl) ⟨_, _, rfl, rfl, rfl, ⟨_, _, rfl, rfl, rfl, ⟨_, _, rfl, rfl, rfl, rfl⟩⟩⟩ rfl rfl

def fb_ : List FB := [⟨[(0, 2), (2, (-1)), (3, (-1)), (4, (-1))], none⟩, ⟨[(0, 11), (2, (-1)), (3, (-1)), (4, (-1)), (6, 10)], some 15⟩, ⟨[(0, 3), (1, 1), (2, (-1)), (3, (-1)), (4, (-1))], none⟩, ⟨[(0, 11), (2, (-1)), (3, (-1)), (4, 0), (6, 10)], some 16⟩, ⟨[(0, 4), (2, (-1)), (3, (-1)), (4, 1), (5, (-1))], none⟩, ⟨[(0, 11), (2, (-1)), (3, (-1)), (4, 2), (6, 10)], some 17⟩, ⟨[(0, 0), (2, (-1)), (3, (-1)), (4, 3)], none⟩]
def pf : List PF := [.mk 2 0 (-1) (-1) (-1) 0 0 [], .mk 11 0 (-1) (-1) (-1) 0 10 pf_sApiVersionsResponseApiKey, .mk 3 1 (-1) (-1) (-1) 0 0 [], .mk 11 0 (-1) (-1) 0 0 10 pf_sApiVersionsResponseSupportedFeature, .mk 4 0 (-1) (-1) 1 (-1) 0 [], .mk 11 0 (-1) (-1) 2 0 10 pf_sApiVersionsResponseFinalizedFeature, .mk 0 0 (-1) (-1) 3 0 0 []]
theorem msgOk : MsgFn P 6 pf 3 := msgFn_gives (fbs := fb_) spF fbF (by kernel_rfl) ⟨_, _, rfl, rfl, rfl, ⟨_, _, rfl, rfl, ⟨_, ok_sApiVersionsResponseApiKey, rfl⟩, ⟨_, _, rfl, rfl, rfl, ⟨_, _, rfl, rfl, ⟨_, ok_sApiVersionsResponseSupportedFeature, rfl⟩, ⟨_, _, rfl, rfl, rfl, ⟨_, _, rfl, rfl, ⟨_, ok_sApiVersionsResponseFinalizedFeature, rfl⟩, ⟨_, _, rfl, rfl, rfl, rfl⟩⟩⟩⟩⟩⟩⟩ rfl rfl
theorem fineOk : PF.fines pf = true := by kernel_rfl
theorem kOk : kPartT pf ≤ 1024 := of_decide_eq_true (by kernel_rfl)
def pfA : List PF := pf.take 3
def pfB : List PF := pf.drop 3
theorem pfAB : pfA ++ pfB = pf := rfl
theorem pfAok : ∀ f ∈ pfA, f.tag < 0 := fun f hf => by
  have h : pfA.all (fun f => decide (f.tag < 0)) = true := by kernel_rfl
  simpa using List.all_eq_true.1 h f hf
theorem pfBok : ascTags pfB (-1) = true := by kernel_rfl
end Go.Proofs.YtpibjbgaedphbabGreatDoor
