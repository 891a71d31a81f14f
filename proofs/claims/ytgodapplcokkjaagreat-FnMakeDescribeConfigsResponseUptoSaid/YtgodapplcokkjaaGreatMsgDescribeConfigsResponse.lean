/- DescribeConfigsResponse: its fields, how it is read and told. -/
import Derived.Test.YtgodapplcokkjaaGreatParts
namespace Go.Proofs.YtgodapplcokkjaaGreat
open Go Go.Kf

def tysDescribeConfigsResponseResourceConfigConfigSynonym : List Ty := [.text, .ntext, .num .i8, .tags]
def lsDescribeConfigsResponseResourceConfigConfigSynonym : List Nat := [1, 1, 1, 1]
def zfDescribeConfigsResponseResourceConfigConfigSynonym : List FV := [.text [], .ntext none, .one (.int .i8 0), .tags []]
def tysDescribeConfigsResponseResourceConfig : List Ty := [.text, .ntext, .bool, .bool, .num .i8, .bool, .list (tysDescribeConfigsResponseResourceConfigConfigSynonym), .num .i8, .ntext, .tags]
def lsDescribeConfigsResponseResourceConfig : List Nat := [1, 1, 1, 1, 1, 1, 1, 1, 1, 1]
def zfDescribeConfigsResponseResourceConfig : List FV := [.text [], .ntext none, .one (.bool false), .one (.bool false), .one (.int .i8 0), .one (.bool false), .list true [], .one (.int .i8 0), .ntext none, .tags []]
def tysDescribeConfigsResponseResource : List Ty := [.num .i16, .ntext, .num .i8, .text, .list (tysDescribeConfigsResponseResourceConfig), .tags]
def lsDescribeConfigsResponseResource : List Nat := [1, 1, 1, 1, 1, 1]
def zfDescribeConfigsResponseResource : List FV := [.one (.int .i16 0), .ntext none, .one (.int .i8 0), .text [], .list true [], .tags []]
def tysDescribeConfigsResponse : List Ty := [.num .i16, .num .i32, .list (tysDescribeConfigsResponseResource), .tags]
def lsDescribeConfigsResponse : List Nat := [1, 1, 1, 1]
def zfDescribeConfigsResponse : List FV := [.one (.int .i16 0), .one (.int .i32 0), .list true [], .tags []]
def dfDescribeConfigsResponse : List FV := [.one (.int .i16 0), .one (.int .i32 0), .list true [], .tags []]
def dsDescribeConfigsResponse : List Dset := []
theorem dsokDescribeConfigsResponse : DsetsOk P 57 lsDescribeConfigsResponse dsDescribeConfigsResponse := trivial
theorem defDescribeConfigsResponse : DefSets P 26 lsDescribeConfigsResponse dsDescribeConfigsResponse := default_gives rdF.mix (by kernel_rfl) dsokDescribeConfigsResponse
theorem dokDescribeConfigsResponse : DefOk P 26 57 dfDescribeConfigsResponse := DefSets.ok (z := .agg ⟨[.int .i16 0, .int .i32 0, .slice none 0 0, .map none]⟩) (zfs := zfDescribeConfigsResponse) (dc := [.int .i16 0, .int .i32 0, .slice none 0 0, .map none]) defDescribeConfigsResponse (by kernel_rfl) (by kernel_rfl) rfl rfl rfl (by kernel_rfl)
end Go.Proofs.YtgodapplcokkjaaGreat
