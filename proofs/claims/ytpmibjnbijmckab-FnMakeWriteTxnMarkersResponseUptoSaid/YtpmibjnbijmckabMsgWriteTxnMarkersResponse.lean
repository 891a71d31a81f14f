/- WriteTxnMarkersResponse: its fields, how it is read and told. -/
import Derived.Test.YtpmibjnbijmckabParts
namespace Go.Proofs.Ytpmibjnbijmckab
open Go Go.Kf

def tysWriteTxnMarkersResponseMarkerTopicPartition : List Ty := [.num .i32, .num .i16, .tags]
def lsWriteTxnMarkersResponseMarkerTopicPartition : List Nat := [1, 1, 1]
def zfWriteTxnMarkersResponseMarkerTopicPartition : List FV := [.one (.int .i32 0), .one (.int .i16 0), .tags []]
def tysWriteTxnMarkersResponseMarkerTopic : List Ty := [.text, .list (tysWriteTxnMarkersResponseMarkerTopicPartition), .tags]
def lsWriteTxnMarkersResponseMarkerTopic : List Nat := [1, 1, 1]
def zfWriteTxnMarkersResponseMarkerTopic : List FV := [.text [], .list true [], .tags []]
def tysWriteTxnMarkersResponseMarker : List Ty := [.num .i64, .list (tysWriteTxnMarkersResponseMarkerTopic), .tags]
def lsWriteTxnMarkersResponseMarker : List Nat := [1, 1, 1]
def zfWriteTxnMarkersResponseMarker : List FV := [.one (.int .i64 0), .list true [], .tags []]
def tysWriteTxnMarkersResponse : List Ty := [.num .i16, .list (tysWriteTxnMarkersResponseMarker), .tags]
def lsWriteTxnMarkersResponse : List Nat := [1, 1, 1]
def zfWriteTxnMarkersResponse : List FV := [.one (.int .i16 0), .list true [], .tags []]
def dfWriteTxnMarkersResponse : List FV := [.one (.int .i16 0), .list true [], .tags []]
def dsWriteTxnMarkersResponse : List Dset := []
theorem dsokWriteTxnMarkersResponse : DsetsOk P 57 lsWriteTxnMarkersResponse dsWriteTxnMarkersResponse := trivial
theorem defWriteTxnMarkersResponse : DefSets P 26 lsWriteTxnMarkersResponse dsWriteTxnMarkersResponse := default_gives rdF.mix (by kernel_rfl) dsokWriteTxnMarkersResponse
theorem dokWriteTxnMarkersResponse : DefOk P 26 57 dfWriteTxnMarkersResponse := DefSets.ok (z := .agg ⟨[.int .i16 0, .slice none 0 0, .map none]⟩) (zfs := zfWriteTxnMarkersResponse) (dc := [.int .i16 0, .slice none 0 0, .map none]) defWriteTxnMarkersResponse (by kernel_rfl) (by kernel_rfl) rfl rfl rfl (by kernel_rfl)
end Go.Proofs.Ytpmibjnbijmckab
