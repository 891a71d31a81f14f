/- DescribeLogDirsResponse: the reference's fields. -/
import Derived.Test.YtcinbiokghpilabGreatDoorSpec
namespace Go.Proofs.YtcinbiokghpilabGreatDoor
open Go Go.Kf

def fb_sDescribeLogDirsResponseDirTopicPartition : List FB := [⟨[(0, 3), (2, (-1)), (3, (-1)), (4, (-1))], none⟩, ⟨[(0, 4), (2, (-1)), (3, (-1)), (4, (-1))], none⟩, ⟨[(0, 4), (2, (-1)), (3, (-1)), (4, (-1))], none⟩, ⟨[(0, 0), (2, (-1)), (3, (-1)), (4, (-1))], none⟩]
def pf_sDescribeLogDirsResponseDirTopicPartition : List PF := [.mk 3 0 (-1) (-1) (-1) 0 0 [], .mk 4 0 (-1) (-1) (-1) 0 0 [], .mk 4 0 (-1) (-1) (-1) 0 0 [], .mk 0 0 (-1) (-1) (-1) 0 0 []]
theorem ok_sDescribeLogDirsResponseDirTopicPartition : FieldsFn P 98 pf_sDescribeLogDirsResponseDirTopicPartition := fieldsFn_gives (fbs := fb_sDescribeLogDirsResponseDirTopicPartition) spF fbF (by kernel_rfl) ⟨_, _, rfl, rfl, rfl, ⟨_, _, rfl, rfl, rfl, ⟨_, _, rfl, rfl, rfl, ⟨_, _, rfl, rfl, rfl, rfl⟩⟩⟩⟩ rfl rfl

def fb_sDescribeLogDirsResponseDirTopic : List FB := [⟨[(0, 8), (2, (-1)), (3, (-1)), (4, (-1))], none⟩, ⟨[(0, 11), (2, (-1)), (3, (-1)), (4, (-1)), (6, 10)], some 98⟩]
def pf_sDescribeLogDirsResponseDirTopic : List PF := [.mk 8 0 (-1) (-1) (-1) 0 0 [], .mk 11 0 (-1) (-1) (-1) 0 10 pf_sDescribeLogDirsResponseDirTopicPartition]
theorem ok_sDescribeLogDirsResponseDirTopic : FieldsFn P 66 pf_sDescribeLogDirsResponseDirTopic := fieldsFn_gives (fbs := fb_sDescribeLogDirsResponseDirTopic) spF fbF (by kernel_rfl) ⟨_, _, rfl, rfl, rfl, ⟨_, _, rfl, rfl, ⟨_, ok_sDescribeLogDirsResponseDirTopicPartition, rfl⟩, rfl⟩⟩ rfl rfl

def fb_sDescribeLogDirsResponseDir : List FB := [⟨[(0, 2), (2, (-1)), (3, (-1)), (4, (-1))], none⟩, ⟨[(0, 8), (2, (-1)), (3, (-1)), (4, (-1))], none⟩, ⟨[(0, 11), (2, (-1)), (3, (-1)), (4, (-1)), (6, 10)], some 66⟩, ⟨[(0, 4), (1, 4), (2, (-1)), (3, (-1)), (4, (-1)), (5, (-1))], none⟩, ⟨[(0, 4), (1, 4), (2, (-1)), (3, (-1)), (4, (-1)), (5, (-1))], none⟩, ⟨[(0, 0), (1, 5), (2, (-1)), (3, (-1)), (4, (-1))], none⟩]
def pf_sDescribeLogDirsResponseDir : List PF := [.mk 2 0 (-1) (-1) (-1) 0 0 [], .mk 8 0 (-1) (-1) (-1) 0 0 [], .mk 11 0 (-1) (-1) (-1) 0 10 pf_sDescribeLogDirsResponseDirTopic, .mk 4 4 (-1) (-1) (-1) (-1) 0 [], .mk 4 4 (-1) (-1) (-1) (-1) 0 [], .mk 0 5 (-1) (-1) (-1) 0 0 []]
theorem ok_sDescribeLogDirsResponseDir : FieldsFn P 39 pf_sDescribeLogDirsResponseDir := fieldsFn_gives (fbs := fb_sDescribeLogDirsResponseDir) spF fbF (by kernel_rfl) ⟨_, _, rfl, rfl, rfl, ⟨_, _, rfl, rfl, rfl, ⟨_, _, rfl, rfl, ⟨_, ok_sDescribeLogDirsResponseDirTopic, rfl⟩, ⟨_, _, rfl, rfl, rfl, ⟨_, _, rfl, rfl, rfl, ⟨_, _, rfl, rfl, rfl, rfl⟩⟩⟩⟩⟩⟩ rfl rfl

def fb_ : List FB := [⟨[(0, 3), (2, (-1)), (3, (-1)), (4, (-1))], none⟩, ⟨[(0, 2), (1, 3), (2, (-1)), (3, (-1)), (4, (-1))], none⟩, ⟨[(0, 11), (2, (-1)), (3, (-1)), (4, (-1)), (6, 10)], some 39⟩]
def pf : List PF := [.mk 3 0 (-1) (-1) (-1) 0 0 [], .mk 2 3 (-1) (-1) (-1) 0 0 [], .mk 11 0 (-1) (-1) (-1) 0 10 pf_sDescribeLogDirsResponseDir]
theorem msgOk : MsgFn P 16 pf 2 := msgFn_gives (fbs := fb_) spF fbF (by kernel_rfl) ⟨_, _, rfl, rfl, rfl, ⟨_, _, rfl, rfl, rfl, ⟨_, _, rfl, rfl, ⟨_, ok_sDescribeLogDirsResponseDir, rfl⟩, rfl⟩⟩⟩ rfl rfl
theorem plainOk : PF.plains pf = true := by kernel_rfl
theorem kOk : kPart pf ≤ 1024 := of_decide_eq_true (by kernel_rfl)
end Go.Proofs.YtcinbiokghpilabGreatDoor
