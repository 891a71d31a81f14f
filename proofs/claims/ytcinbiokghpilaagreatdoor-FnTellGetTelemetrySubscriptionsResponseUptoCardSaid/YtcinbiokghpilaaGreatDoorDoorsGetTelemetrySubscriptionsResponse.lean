/- GetTelemetrySubscriptionsResponse: its doors. -/
import Derived.Test.YtcinbiokghpilaaGreatDoorMsgGetTelemetrySubscriptionsResponse
namespace Go.Proofs.YtcinbiokghpilaaGreatDoor
open Go Go.Kf

theorem rfA : RfFacts P N 84 := .of (by kernel_rfl) (by kernel_rfl) (by kernel_rfl) (by kernel_rfl) (by kernel_rfl)
theorem errI : ∃ ms, P.underlying N.tErr = some (.interface ms) := iface_of (by kernel_rfl)
def mid : List Value := [.int .i32 0, .int .i16 0, .int .u8 0, .int .u8 0, .int .u8 0, .int .u8 0, .int .u8 0, .int .u8 0, .int .u8 0, .int .u8 0, .int .u8 0, .int .u8 0, .int .u8 0, .int .u8 0, .int .u8 0, .int .u8 0, .int .u8 0, .int .u8 0, .int .i32 0, .slice none 0 0, .int .i32 0, .int .i32 0, .bool false, .slice none 0 0, .map none]
def fsAt (v : Int) : List FV := .one (.int .i16 v) :: [.one (.int .i32 0), .one (.int .i16 0), .uuid (List.replicate 16 0), .one (.int .i32 0), .list true [], .one (.int .i32 0), .one (.int .i32 0), .one (.bool false), .list true [], .tags []]
theorem newOk : NewOk P 22 (.int .i16 0 :: mid) := new_gives rdF.mix (by kernel_rfl : zeroTy P 84 = some (.agg ⟨.int .i16 0 :: [.int .i32 0, .int .i16 0, .int .u8 0, .int .u8 0, .int .u8 0, .int .u8 0, .int .u8 0, .int .u8 0, .int .u8 0, .int .u8 0, .int .u8 0, .int .u8 0, .int .u8 0, .int .u8 0, .int .u8 0, .int .u8 0, .int .u8 0, .int .u8 0, .int .i32 0, .slice none 0 0, .int .i32 0, .int .i32 0, .bool false, .slice none 0 0, .map none]⟩, 26)) dokGetTelemetrySubscriptionsResponse (by kernel_rfl) (by kernel_rfl)

def ss0s : List Step := [.call (.num 4 .i32) 74 1 21 1, .call (.num 2 .i16) 75 2 46 2, .uuid 76 3 3, .call (.num 4 .i32) 74 4 21 19, .listP .clen 77 5 78 20 (.num 1 .i8) 81 86, .call (.num 4 .i32) 74 6 21 21, .call (.num 4 .i32) 74 7 21 22, .call .bool 82 8 4 23, .listP .clen 77 9 79 24 .cstr 85 9, .call .tags 87 10 82 25]
theorem ok0s : StepsOk P N 84 lsGetTelemetrySubscriptionsResponse ss0s := ⟨⟨aInt32, ⟨by kernel_rfl, rfl, rfl⟩, by kernel_rfl⟩, ⟨aInt16, ⟨by kernel_rfl, rfl, rfl⟩, by kernel_rfl⟩, ⟨aUuid, ⟨by kernel_rfl, rfl, rfl⟩, uuidF⟩, ⟨aInt32, ⟨by kernel_rfl, rfl, rfl⟩, by kernel_rfl⟩, ⟨hCompactArrayLen, ⟨by kernel_rfl, rfl, rfl⟩, .of (by kernel_rfl) (by kernel_rfl) (by kernel_rfl) (by decide), aInt8⟩, ⟨aInt32, ⟨by kernel_rfl, rfl, rfl⟩, by kernel_rfl⟩, ⟨aInt32, ⟨by kernel_rfl, rfl, rfl⟩, by kernel_rfl⟩, ⟨aBool, ⟨by kernel_rfl, rfl, rfl⟩, by kernel_rfl⟩, ⟨hCompactArrayLen, ⟨by kernel_rfl, rfl, rfl⟩, .of (by kernel_rfl) (by kernel_rfl) (by kernel_rfl) (by decide), aCompactString⟩, ⟨aTags, ⟨by kernel_rfl, rfl, rfl⟩, by kernel_rfl⟩, trivial⟩
theorem door0s {w : World} {l : List UInt8} {data e0 : Value} (hl : l.length ≤ 1073741824) (hd : DataIn w data l) (he : ErrAt w N.gErr e0) (he0 : ∃ d y, e0 = .iface d y) : Gives P 10 [.int .i64 0, data] w fun u w' => DoorPost w w' u (toldOf ss0s (fsAt 0) gpGetTelemetrySubscriptionsResponse l) ∧ Keeps [] w w' :=
  door_ver (e := E) (fNew := 22) (fSet := 24) (fRead := 25) (fRf := 50) (fDef := 49) (fTell := 26) (S := 84) (ds := dsGetTelemetrySubscriptionsResponse) (ls := lsGetTelemetrySubscriptionsResponse) (ss := ss0s) (v := 0) (uns := false) (fs0 := fsAt 0) (mid := mid) (mid1 := .int .i16 0 :: mid) (ts := tysGetTelemetrySubscriptionsResponse)
    rdF octF tellF tyZ rfA (fun _ => hOk) hComplete errI newOk defGetTelemetrySubscriptionsResponse toldGetTelemetrySubscriptionsResponse (by kernel_rfl) (by kernel_rfl) (by kernel_rfl) (by kernel_rfl) ok0s rfl rfl rfl rfl rfl (by kernel_rfl) (by kernel_rfl) rfl rfl rfl rfl (by decide) hl hd he he0

def ssAll : List (List Step) := [ss0s]
def outOf (l : List UInt8) (v : Nat) : Option PT := toldOf (ssAll.getD v []) (fsAt v) gpGetTelemetrySubscriptionsResponse l

theorem out0 (l : List UInt8) : outOf l 0 = toldOf ss0s (fsAt 0) gpGetTelemetrySubscriptionsResponse l := rfl
theorem allTell (w : World) (v : Nat) (l : List UInt8) (data e0 : Value) (hv : v ≤ 0) (hl : l.length ≤ 1073741824) (hd : DataIn w data l) (he : ErrAt w N.gErr e0) (he0 : ∃ d y, e0 = .iface d y) : Gives P 10 [.int .i64 v, data] w fun u w' => DoorPost w w' u (outOf l v) ∧ Keeps [] w w' := by
  have h : v = 0 := by omega
  rcases h with rfl
  · rw [out0]; exact door0s hl hd he he0

theorem maxOk (w : World) : Gives P 7 [] w fun v w' => v = .int .i64 (0 : Nat) ∧ Keeps [] w w' := max_gives (fNew := 22) (fMax := 23) (m := 0) rdF newOk (by kernel_rfl) (by kernel_rfl) rfl
theorem verOk (n : Nat) (hn : n < 256) (w : World) : Gives P 9 [.int .u8 n, .int .i64 (0 : Nat)] w fun v w' => v = .int .i64 (n % (0 + 1) : Nat) ∧ w' = w := version_gives rdF (by kernel_rfl) hn (by decide)

end Go.Proofs.YtcinbiokghpilaaGreatDoor
