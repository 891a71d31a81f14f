/- AlterUserSCRAMCredentialsResponse: its fields, how it is read and told. -/
import Derived.Test.YtlofojpaihnegaaParts
namespace Go.Proofs.Ytlofojpaihnegaa
open Go Go.Kf

def tysAlterUserSCRAMCredentialsResponseResult : List Ty := [.text, .num .i16, .ntext, .tags]
def lsAlterUserSCRAMCredentialsResponseResult : List Nat := [1, 1, 1, 1]
def zfAlterUserSCRAMCredentialsResponseResult : List FV := [.text [], .one (.int .i16 0), .ntext none, .tags []]
def tysAlterUserSCRAMCredentialsResponse : List Ty := [.num .i16, .num .i32, .list (tysAlterUserSCRAMCredentialsResponseResult), .tags]
def lsAlterUserSCRAMCredentialsResponse : List Nat := [1, 1, 1, 1]
def zfAlterUserSCRAMCredentialsResponse : List FV := [.one (.int .i16 0), .one (.int .i32 0), .list true [], .tags []]
def dfAlterUserSCRAMCredentialsResponse : List FV := [.one (.int .i16 0), .one (.int .i32 0), .list true [], .tags []]
def dsAlterUserSCRAMCredentialsResponse : List Dset := []
theorem dsokAlterUserSCRAMCredentialsResponse : DsetsOk P 57 lsAlterUserSCRAMCredentialsResponse dsAlterUserSCRAMCredentialsResponse := trivial
theorem defAlterUserSCRAMCredentialsResponse : DefSets P 26 lsAlterUserSCRAMCredentialsResponse dsAlterUserSCRAMCredentialsResponse := default_gives rdF.mix (by kernel_rfl) dsokAlterUserSCRAMCredentialsResponse
theorem dokAlterUserSCRAMCredentialsResponse : DefOk P 26 57 dfAlterUserSCRAMCredentialsResponse := DefSets.ok (z := .agg ⟨[.int .i16 0, .int .i32 0, .slice none 0 0, .map none]⟩) (zfs := zfAlterUserSCRAMCredentialsResponse) (dc := [.int .i16 0, .int .i32 0, .slice none 0 0, .map none]) defAlterUserSCRAMCredentialsResponse (by kernel_rfl) (by kernel_rfl) rfl rfl rfl (by kernel_rfl)
end Go.Proofs.Ytlofojpaihnegaa
