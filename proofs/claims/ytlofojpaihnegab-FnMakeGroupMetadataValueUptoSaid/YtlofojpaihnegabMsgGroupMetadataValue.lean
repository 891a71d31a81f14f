/- GroupMetadataValue: its fields, how it is read and told. -/
import Derived.Test.YtlofojpaihnegabParts
namespace Go.Proofs.Ytlofojpaihnegab
open Go Go.Kf

def tysGroupMetadataValueMember : List Ty := [.text, .ntext, .text, .text, .num .i32, .num .i32, .octs, .octs, .tags]
def lsGroupMetadataValueMember : List Nat := [1, 1, 1, 1, 1, 1, 1, 1, 1]
def zfGroupMetadataValueMember : List FV := [.text [], .ntext none, .text [], .text [], .one (.int .i32 0), .one (.int .i32 0), .octs true [], .octs true [], .tags []]
def tysGroupMetadataValue : List Ty := [.num .i16, .text, .num .i32, .ntext, .ntext, .num .i64, .list (tysGroupMetadataValueMember), .tags]
def lsGroupMetadataValue : List Nat := [1, 1, 1, 1, 1, 1, 1, 1]
def zfGroupMetadataValue : List FV := [.one (.int .i16 0), .text [], .one (.int .i32 0), .ntext none, .ntext none, .one (.int .i64 0), .list true [], .tags []]
end Go.Proofs.Ytlofojpaihnegab
