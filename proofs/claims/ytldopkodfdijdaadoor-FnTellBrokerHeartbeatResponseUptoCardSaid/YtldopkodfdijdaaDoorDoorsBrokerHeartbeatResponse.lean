/- BrokerHeartbeatResponse: its doors. -/
import Derived.Test.YtldopkodfdijdaaDoorMsgBrokerHeartbeatResponse
namespace Go.Proofs.YtldopkodfdijdaaDoor
open Go Go.Kf

theorem rfA : RfFacts P N 77 := .of (by kernel_rfl) (by kernel_rfl) (by kernel_rfl) (by kernel_rfl) (by kernel_rfl)
theorem errI : ∃ ms, P.underlying N.tErr = some (.interface ms) := iface_of (by kernel_rfl)
def mid : List Value := [.int .i32 0, .int .i16 0, .bool false, .bool true, .bool false, .map none]
def fsAt (v : Int) : List FV := .one (.int .i16 v) :: [.one (.int .i32 0), .one (.int .i16 0), .one (.bool false), .one (.bool true), .one (.bool false), .tags []]
theorem newOk : NewOk P 18 (.int .i16 0 :: mid) := new_gives rdF.mix (by kernel_rfl : zeroTy P 77 = some (.agg ⟨.int .i16 0 :: [.int .i32 0, .int .i16 0, .bool false, .bool false, .bool false, .map none]⟩, 7)) dokBrokerHeartbeatResponse (by kernel_rfl) (by kernel_rfl)

def ss0s : List Step := [.call (.num 4 .i32) 55 1 21 1, .call (.num 2 .i16) 56 2 46 2, .call .bool 57 3 4 3, .call .bool 57 4 4 4, .call .bool 57 5 4 5, .call .tags 58 6 75 6]
theorem ok0s : StepsOk P N 77 lsBrokerHeartbeatResponse ss0s := ⟨⟨aInt32, ⟨by kernel_rfl, rfl, rfl⟩, by kernel_rfl⟩, ⟨aInt16, ⟨by kernel_rfl, rfl, rfl⟩, by kernel_rfl⟩, ⟨aBool, ⟨by kernel_rfl, rfl, rfl⟩, by kernel_rfl⟩, ⟨aBool, ⟨by kernel_rfl, rfl, rfl⟩, by kernel_rfl⟩, ⟨aBool, ⟨by kernel_rfl, rfl, rfl⟩, by kernel_rfl⟩, ⟨aTags, ⟨by kernel_rfl, rfl, rfl⟩, by kernel_rfl⟩, trivial⟩
theorem door0s {w : World} {l : List UInt8} {data e0 : Value} (hl : l.length ≤ 1073741824) (hd : DataIn w data l) (he : ErrAt w N.gErr e0) (he0 : ∃ d y, e0 = .iface d y) : Gives P 9 [.int .i64 0, data] w fun u w' => DoorPost w w' u (toldOf ss0s (fsAt 0) gpBrokerHeartbeatResponse l) ∧ Keeps [] w w' :=
  door_ver (e := E) (fNew := 18) (fSet := 20) (fRead := 21) (fRf := 39) (fDef := 38) (fTell := 22) (S := 77) (ds := dsBrokerHeartbeatResponse) (ls := lsBrokerHeartbeatResponse) (ss := ss0s) (v := 0) (uns := false) (fs0 := fsAt 0) (mid := mid) (mid1 := .int .i16 0 :: mid) (ts := tysBrokerHeartbeatResponse)
    rdF octF tellF tyZ rfA (fun h => by cases h) hComplete errI newOk defBrokerHeartbeatResponse toldBrokerHeartbeatResponse (by kernel_rfl) (by kernel_rfl) (by kernel_rfl) (by kernel_rfl) ok0s rfl rfl rfl rfl rfl (by kernel_rfl) (by kernel_rfl) rfl rfl rfl rfl (by decide) hl hd he he0

def ss1s : List Step := [.call (.num 4 .i32) 55 1 21 1, .call (.num 2 .i16) 56 2 46 2, .call .bool 57 3 4 3, .call .bool 57 4 4 4, .call .bool 57 5 4 5, .call .tags 58 6 75 6]
theorem ok1s : StepsOk P N 77 lsBrokerHeartbeatResponse ss1s := ⟨⟨aInt32, ⟨by kernel_rfl, rfl, rfl⟩, by kernel_rfl⟩, ⟨aInt16, ⟨by kernel_rfl, rfl, rfl⟩, by kernel_rfl⟩, ⟨aBool, ⟨by kernel_rfl, rfl, rfl⟩, by kernel_rfl⟩, ⟨aBool, ⟨by kernel_rfl, rfl, rfl⟩, by kernel_rfl⟩, ⟨aBool, ⟨by kernel_rfl, rfl, rfl⟩, by kernel_rfl⟩, ⟨aTags, ⟨by kernel_rfl, rfl, rfl⟩, by kernel_rfl⟩, trivial⟩
theorem door1s {w : World} {l : List UInt8} {data e0 : Value} (hl : l.length ≤ 1073741824) (hd : DataIn w data l) (he : ErrAt w N.gErr e0) (he0 : ∃ d y, e0 = .iface d y) : Gives P 9 [.int .i64 1, data] w fun u w' => DoorPost w w' u (toldOf ss1s (fsAt 1) gpBrokerHeartbeatResponse l) ∧ Keeps [] w w' :=
  door_ver (e := E) (fNew := 18) (fSet := 20) (fRead := 21) (fRf := 39) (fDef := 38) (fTell := 22) (S := 77) (ds := dsBrokerHeartbeatResponse) (ls := lsBrokerHeartbeatResponse) (ss := ss1s) (v := 1) (uns := false) (fs0 := fsAt 1) (mid := mid) (mid1 := .int .i16 1 :: mid) (ts := tysBrokerHeartbeatResponse)
    rdF octF tellF tyZ rfA (fun h => by cases h) hComplete errI newOk defBrokerHeartbeatResponse toldBrokerHeartbeatResponse (by kernel_rfl) (by kernel_rfl) (by kernel_rfl) (by kernel_rfl) ok1s rfl rfl rfl rfl rfl (by kernel_rfl) (by kernel_rfl) rfl rfl rfl rfl (by decide) hl hd he he0

def ss2s : List Step := [.call (.num 4 .i32) 55 1 21 1, .call (.num 2 .i16) 56 2 46 2, .call .bool 57 3 4 3, .call .bool 57 4 4 4, .call .bool 57 5 4 5, .call .tags 58 6 75 6]
theorem ok2s : StepsOk P N 77 lsBrokerHeartbeatResponse ss2s := ⟨⟨aInt32, ⟨by kernel_rfl, rfl, rfl⟩, by kernel_rfl⟩, ⟨aInt16, ⟨by kernel_rfl, rfl, rfl⟩, by kernel_rfl⟩, ⟨aBool, ⟨by kernel_rfl, rfl, rfl⟩, by kernel_rfl⟩, ⟨aBool, ⟨by kernel_rfl, rfl, rfl⟩, by kernel_rfl⟩, ⟨aBool, ⟨by kernel_rfl, rfl, rfl⟩, by kernel_rfl⟩, ⟨aTags, ⟨by kernel_rfl, rfl, rfl⟩, by kernel_rfl⟩, trivial⟩
theorem door2s {w : World} {l : List UInt8} {data e0 : Value} (hl : l.length ≤ 1073741824) (hd : DataIn w data l) (he : ErrAt w N.gErr e0) (he0 : ∃ d y, e0 = .iface d y) : Gives P 9 [.int .i64 2, data] w fun u w' => DoorPost w w' u (toldOf ss2s (fsAt 2) gpBrokerHeartbeatResponse l) ∧ Keeps [] w w' :=
  door_ver (e := E) (fNew := 18) (fSet := 20) (fRead := 21) (fRf := 39) (fDef := 38) (fTell := 22) (S := 77) (ds := dsBrokerHeartbeatResponse) (ls := lsBrokerHeartbeatResponse) (ss := ss2s) (v := 2) (uns := false) (fs0 := fsAt 2) (mid := mid) (mid1 := .int .i16 2 :: mid) (ts := tysBrokerHeartbeatResponse)
    rdF octF tellF tyZ rfA (fun h => by cases h) hComplete errI newOk defBrokerHeartbeatResponse toldBrokerHeartbeatResponse (by kernel_rfl) (by kernel_rfl) (by kernel_rfl) (by kernel_rfl) ok2s rfl rfl rfl rfl rfl (by kernel_rfl) (by kernel_rfl) rfl rfl rfl rfl (by decide) hl hd he he0

def ssAll : List (List Step) := [ss0s, ss1s, ss2s]
def outOf (l : List UInt8) (v : Nat) : Option PT := toldOf (ssAll.getD v []) (fsAt v) gpBrokerHeartbeatResponse l

theorem out0 (l : List UInt8) : outOf l 0 = toldOf ss0s (fsAt 0) gpBrokerHeartbeatResponse l := rfl
theorem out1 (l : List UInt8) : outOf l 1 = toldOf ss1s (fsAt 1) gpBrokerHeartbeatResponse l := rfl
theorem out2 (l : List UInt8) : outOf l 2 = toldOf ss2s (fsAt 2) gpBrokerHeartbeatResponse l := rfl
theorem allTell (w : World) (v : Nat) (l : List UInt8) (data e0 : Value) (hv : v ≤ 2) (hl : l.length ≤ 1073741824) (hd : DataIn w data l) (he : ErrAt w N.gErr e0) (he0 : ∃ d y, e0 = .iface d y) : Gives P 9 [.int .i64 v, data] w fun u w' => DoorPost w w' u (outOf l v) ∧ Keeps [] w w' := by
  have h : v = 0 ∨ v = 1 ∨ v = 2 := by omega
  rcases h with rfl | rfl | rfl
  · rw [out0]; exact door0s hl hd he he0
  · rw [out1]; exact door1s hl hd he he0
  · rw [out2]; exact door2s hl hd he he0

theorem maxOk (w : World) : Gives P 6 [] w fun v w' => v = .int .i64 (2 : Nat) ∧ Keeps [] w w' := max_gives (fNew := 18) (fMax := 19) (m := 2) rdF newOk (by kernel_rfl) (by kernel_rfl) rfl
theorem verOk (n : Nat) (hn : n < 256) (w : World) : Gives P 8 [.int .u8 n, .int .i64 (2 : Nat)] w fun v w' => v = .int .i64 (n % (2 + 1) : Nat) ∧ w' = w := version_gives rdF (by kernel_rfl) hn (by decide)

end Go.Proofs.YtldopkodfdijdaaDoor
