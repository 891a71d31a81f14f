/- AlterShareGroupOffsetsRequest: its fields, how it is read and told. -/
import Derived.Test.YtpmibjnbijmckaaParts
namespace Go.Proofs.Ytpmibjnbijmckaa
open Go Go.Kf

def tysAlterShareGroupOffsetsRequestTopicPartition : List Ty := [.num .i32, .num .i64, .tags]
def lsAlterShareGroupOffsetsRequestTopicPartition : List Nat := [1, 1, 1]
def zfAlterShareGroupOffsetsRequestTopicPartition : List FV := [.one (.int .i32 0), .one (.int .i64 0), .tags []]
def tysAlterShareGroupOffsetsRequestTopic : List Ty := [.text, .list (tysAlterShareGroupOffsetsRequestTopicPartition), .tags]
def lsAlterShareGroupOffsetsRequestTopic : List Nat := [1, 1, 1]
def zfAlterShareGroupOffsetsRequestTopic : List FV := [.text [], .list true [], .tags []]
def tysAlterShareGroupOffsetsRequest : List Ty := [.num .i16, .text, .list (tysAlterShareGroupOffsetsRequestTopic), .tags]
def lsAlterShareGroupOffsetsRequest : List Nat := [1, 1, 1, 1]
def zfAlterShareGroupOffsetsRequest : List FV := [.one (.int .i16 0), .text [], .list true [], .tags []]
def dfAlterShareGroupOffsetsRequest : List FV := [.one (.int .i16 0), .text [], .list true [], .tags []]
def dsAlterShareGroupOffsetsRequest : List Dset := []
theorem dsokAlterShareGroupOffsetsRequest : DsetsOk P 57 lsAlterShareGroupOffsetsRequest dsAlterShareGroupOffsetsRequest := trivial
theorem defAlterShareGroupOffsetsRequest : DefSets P 26 lsAlterShareGroupOffsetsRequest dsAlterShareGroupOffsetsRequest := default_gives rdF.mix (by kernel_rfl) dsokAlterShareGroupOffsetsRequest
theorem dokAlterShareGroupOffsetsRequest : DefOk P 26 57 dfAlterShareGroupOffsetsRequest := DefSets.ok (z := .agg ⟨[.int .i16 0, .string (strOf []), .slice none 0 0, .map none]⟩) (zfs := zfAlterShareGroupOffsetsRequest) (dc := [.int .i16 0, .string (strOf []), .slice none 0 0, .map none]) defAlterShareGroupOffsetsRequest (by kernel_rfl) (by kernel_rfl) rfl rfl rfl (by kernel_rfl)
end Go.Proofs.Ytpmibjnbijmckaa
