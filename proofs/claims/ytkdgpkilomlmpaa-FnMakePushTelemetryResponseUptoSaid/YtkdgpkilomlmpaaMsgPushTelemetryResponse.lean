/- PushTelemetryResponse: its fields, how it is read and told. -/
import Derived.Test.YtkdgpkilomlmpaaParts
namespace Go.Proofs.Ytkdgpkilomlmpaa
open Go Go.Kf

def tysPushTelemetryResponse : List Ty := [.num .i16, .num .i32, .num .i16, .tags]
def lsPushTelemetryResponse : List Nat := [1, 1, 1, 1]
def zfPushTelemetryResponse : List FV := [.one (.int .i16 0), .one (.int .i32 0), .one (.int .i16 0), .tags []]
def dfPushTelemetryResponse : List FV := [.one (.int .i16 0), .one (.int .i32 0), .one (.int .i16 0), .tags []]
def dsPushTelemetryResponse : List Dset := []
theorem dsokPushTelemetryResponse : DsetsOk P 55 lsPushTelemetryResponse dsPushTelemetryResponse := trivial
theorem defPushTelemetryResponse : DefSets P 35 lsPushTelemetryResponse dsPushTelemetryResponse := default_gives rdF.mix (by kernel_rfl) dsokPushTelemetryResponse
theorem dokPushTelemetryResponse : DefOk P 35 55 dfPushTelemetryResponse := DefSets.ok (z := .agg ⟨[.int .i16 0, .int .i32 0, .int .i16 0, .map none]⟩) (zfs := zfPushTelemetryResponse) (dc := [.int .i16 0, .int .i32 0, .int .i16 0, .map none]) defPushTelemetryResponse (by kernel_rfl) (by kernel_rfl) rfl rfl rfl (by kernel_rfl)
end Go.Proofs.Ytkdgpkilomlmpaa
