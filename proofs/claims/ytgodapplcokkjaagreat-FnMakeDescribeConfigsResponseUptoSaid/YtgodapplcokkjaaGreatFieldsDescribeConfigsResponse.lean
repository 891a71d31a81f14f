/- DescribeConfigsResponse: the reference's fields. -/
import Derived.Test.YtgodapplcokkjaaGreatSpec
namespace Go.Proofs.YtgodapplcokkjaaGreat
open Go Go.Kf

def fb_sDescribeConfigsResponseResourceConfigConfigSynonym : List FB := [⟨[(0, 8), (2, (-1)), (3, (-1)), (4, (-1))], none⟩, ⟨[(0, 8), (2, (-1)), (3, 0), (4, (-1))], none⟩, ⟨[(0, 1), (2, (-1)), (3, (-1)), (4, (-1))], none⟩]
def pf_sDescribeConfigsResponseResourceConfigConfigSynonym : List PF := [.mk 8 0 (-1) (-1) (-1) 0 0 [], .mk 8 0 (-1) 0 (-1) 0 0 [], .mk 1 0 (-1) (-1) (-1) 0 0 []]
theorem ok_sDescribeConfigsResponseResourceConfigConfigSynonym : FieldsFn P 51 pf_sDescribeConfigsResponseResourceConfigConfigSynonym := fieldsFn_gives (fbs := fb_sDescribeConfigsResponseResourceConfigConfigSynonym) spF fbF (by kernel_rfl) ⟨_, _, rfl, rfl, rfl, ⟨_, _, rfl, rfl, rfl, ⟨_, _, rfl, rfl, rfl, rfl⟩⟩⟩ rfl rfl

def fb_sDescribeConfigsResponseResourceConfig : List FB := [⟨[(0, 8), (2, (-1)), (3, (-1)), (4, (-1))], none⟩, ⟨[(0, 8), (2, (-1)), (3, 0), (4, (-1))], none⟩, ⟨[(0, 0), (2, (-1)), (3, (-1)), (4, (-1))], none⟩, ⟨[(0, 0), (2, 0), (3, (-1)), (4, (-1))], none⟩, ⟨[(0, 1), (1, 1), (2, (-1)), (3, (-1)), (4, (-1)), (5, (-1))], none⟩, ⟨[(0, 0), (2, (-1)), (3, (-1)), (4, (-1))], none⟩, ⟨[(0, 11), (1, 1), (2, (-1)), (3, (-1)), (4, (-1)), (6, 10)], some 51⟩, ⟨[(0, 1), (1, 3), (2, (-1)), (3, (-1)), (4, (-1))], none⟩, ⟨[(0, 8), (1, 3), (2, (-1)), (3, 3), (4, (-1))], none⟩]
def pf_sDescribeConfigsResponseResourceConfig : List PF := [.mk 8 0 (-1) (-1) (-1) 0 0 [], .mk 8 0 (-1) 0 (-1) 0 0 [], .mk 0 0 (-1) (-1) (-1) 0 0 [], .mk 0 0 0 (-1) (-1) 0 0 [], .mk 1 1 (-1) (-1) (-1) (-1) 0 [], .mk 0 0 (-1) (-1) (-1) 0 0 [], .mk 11 1 (-1) (-1) (-1) 0 10 pf_sDescribeConfigsResponseResourceConfigConfigSynonym, .mk 1 3 (-1) (-1) (-1) 0 0 [], .mk 8 3 (-1) 3 (-1) 0 0 []]
theorem ok_sDescribeConfigsResponseResourceConfig : FieldsFn P 27 pf_sDescribeConfigsResponseResourceConfig := fieldsFn_gives (fbs := fb_sDescribeConfigsResponseResourceConfig) spF fbF (by kernel_rfl) ⟨_, _, rfl, rfl, rfl, ⟨_, _, rfl, rfl, rfl, ⟨_, _, rfl, rfl, rfl, ⟨_, _, rfl, rfl, rfl, ⟨_, _, rfl, rfl, rfl, ⟨_, _, rfl, rfl, rfl, ⟨_, _, rfl, rfl, ⟨_, ok_sDescribeConfigsResponseResourceConfigConfigSynonym, rfl⟩, ⟨_, _, rfl, rfl, rfl, ⟨_, _, rfl, rfl, rfl, rfl⟩⟩⟩⟩⟩⟩⟩⟩⟩ rfl rfl

def fb_sDescribeConfigsResponseResource : List FB := [⟨[(0, 2), (2, (-1)), (3, (-1)), (4, (-1))], none⟩, ⟨[(0, 8), (2, (-1)), (3, 0), (4, (-1))], none⟩, ⟨[(0, 1), (2, (-1)), (3, (-1)), (4, (-1))], none⟩, ⟨[(0, 8), (2, (-1)), (3, (-1)), (4, (-1))], none⟩, ⟨[(0, 11), (2, (-1)), (3, (-1)), (4, (-1)), (6, 10)], some 27⟩]
def pf_sDescribeConfigsResponseResource : List PF := [.mk 2 0 (-1) (-1) (-1) 0 0 [], .mk 8 0 (-1) 0 (-1) 0 0 [], .mk 1 0 (-1) (-1) (-1) 0 0 [], .mk 8 0 (-1) (-1) (-1) 0 0 [], .mk 11 0 (-1) (-1) (-1) 0 10 pf_sDescribeConfigsResponseResourceConfig]
theorem ok_sDescribeConfigsResponseResource : FieldsFn P 16 pf_sDescribeConfigsResponseResource := fieldsFn_gives (fbs := fb_sDescribeConfigsResponseResource) spF fbF (by kernel_rfl) ⟨_, _, rfl, rfl, rfl, ⟨_, _, rfl, rfl, rfl, ⟨_, _, rfl, rfl, rfl, ⟨_, _, rfl, rfl, rfl, ⟨_, _, rfl, rfl, ⟨_, ok_sDescribeConfigsResponseResourceConfig, rfl⟩, rfl⟩⟩⟩⟩⟩ rfl rfl

def fb_ : List FB := [⟨[(0, 3), (2, (-1)), (3, (-1)), (4, (-1))], none⟩, ⟨[(0, 11), (2, (-1)), (3, (-1)), (4, (-1)), (6, 10)], some 16⟩]
def pf : List PF := [.mk 3 0 (-1) (-1) (-1) 0 0 [], .mk 11 0 (-1) (-1) (-1) 0 10 pf_sDescribeConfigsResponseResource]
theorem msgOk : MsgFn P 6 pf 4 := msgFn_gives (fbs := fb_) spF fbF (by kernel_rfl) ⟨_, _, rfl, rfl, rfl, ⟨_, _, rfl, rfl, ⟨_, ok_sDescribeConfigsResponseResource, rfl⟩, rfl⟩⟩ rfl rfl
theorem plainOk : PF.plains pf = true := by kernel_rfl
theorem kOk : kPart pf ≤ 1024 := of_decide_eq_true (by kernel_rfl)
end Go.Proofs.YtgodapplcokkjaaGreat
