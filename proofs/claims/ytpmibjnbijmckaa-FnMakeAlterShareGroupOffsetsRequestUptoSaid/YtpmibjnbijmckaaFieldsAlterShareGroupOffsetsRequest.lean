/- AlterShareGroupOffsetsRequest: the reference's fields. -/
import Derived.Test.YtpmibjnbijmckaaSpec
namespace Go.Proofs.Ytpmibjnbijmckaa
open Go Go.Kf

def fb_sAlterShareGroupOffsetsRequestTopicPartition : List FB := [⟨[(0, 3), (2, (-1)), (3, (-1)), (4, (-1))], none⟩, ⟨[(0, 4), (2, (-1)), (3, (-1)), (4, (-1))], none⟩]
def pf_sAlterShareGroupOffsetsRequestTopicPartition : List PF := [.mk 3 0 (-1) (-1) (-1) 0 0 [], .mk 4 0 (-1) (-1) (-1) 0 0 []]
theorem ok_sAlterShareGroupOffsetsRequestTopicPartition : FieldsFn P 27 pf_sAlterShareGroupOffsetsRequestTopicPartition := fieldsFn_gives (fbs := fb_sAlterShareGroupOffsetsRequestTopicPartition) spF fbF (by kernel_rfl) ⟨_, _, rfl, rfl, rfl, ⟨_, _, rfl, rfl, rfl, rfl⟩⟩ rfl rfl

def fb_sAlterShareGroupOffsetsRequestTopic : List FB := [⟨[(0, 8), (2, (-1)), (3, (-1)), (4, (-1))], none⟩, ⟨[(0, 11), (2, (-1)), (3, (-1)), (4, (-1)), (6, 10)], some 27⟩]
def pf_sAlterShareGroupOffsetsRequestTopic : List PF := [.mk 8 0 (-1) (-1) (-1) 0 0 [], .mk 11 0 (-1) (-1) (-1) 0 10 pf_sAlterShareGroupOffsetsRequestTopicPartition]
theorem ok_sAlterShareGroupOffsetsRequestTopic : FieldsFn P 16 pf_sAlterShareGroupOffsetsRequestTopic := fieldsFn_gives (fbs := fb_sAlterShareGroupOffsetsRequestTopic) spF fbF (by kernel_rfl) ⟨_, _, rfl, rfl, rfl, ⟨_, _, rfl, rfl, ⟨_, ok_sAlterShareGroupOffsetsRequestTopicPartition, rfl⟩, rfl⟩⟩ rfl rfl

def fb_ : List FB := [⟨[(0, 8), (2, (-1)), (3, (-1)), (4, (-1))], none⟩, ⟨[(0, 11), (2, (-1)), (3, (-1)), (4, (-1)), (6, 10)], some 16⟩]
def pf : List PF := [.mk 8 0 (-1) (-1) (-1) 0 0 [], .mk 11 0 (-1) (-1) (-1) 0 10 pf_sAlterShareGroupOffsetsRequestTopic]
theorem msgOk : MsgFn P 6 pf 0 := msgFn_gives (fbs := fb_) spF fbF (by kernel_rfl) ⟨_, _, rfl, rfl, rfl, ⟨_, _, rfl, rfl, ⟨_, ok_sAlterShareGroupOffsetsRequestTopic, rfl⟩, rfl⟩⟩ rfl rfl
theorem plainOk : PF.plains pf = true := by kernel_rfl
theorem kOk : kPart pf ≤ 1024 := of_decide_eq_true (by kernel_rfl)
end Go.Proofs.Ytpmibjnbijmckaa
