/- ControlledShutdownResponse: its doors. -/
import Derived.Test.YtbanlccechdemadDoorMsgControlledShutdownResponse
namespace Go.Proofs.YtbanlccechdemadDoor
open Go Go.Kf

theorem rfA : RfFacts P N 57 := .of (by kernel_rfl) (by kernel_rfl) (by kernel_rfl) (by kernel_rfl) (by kernel_rfl)
theorem errI : ∃ ms, P.underlying N.tErr = some (.interface ms) := iface_of (by kernel_rfl)
def mid : List Value := [.int .i16 0, .slice none 0 0, .map none]
def fsAt (v : Int) : List FV := .one (.int .i16 v) :: [.one (.int .i16 0), .list true [], .tags []]
theorem newOk : NewOk P 10 (.int .i16 0 :: mid) := new_gives rdF.mix (by kernel_rfl : zeroTy P 57 = some (.agg ⟨.int .i16 0 :: [.int .i16 0, .slice none 0 0, .map none]⟩, 4)) dokControlledShutdownResponse (by kernel_rfl) (by kernel_rfl)

def ss0s : List Step := [.call (.num 2 .i16) 23 1 38 1, .listS .len 25 2 52 2 62 3 28 dfControlledShutdownResponsePartitionsRemaining [.call .str 32 0 9 0, .call (.num 4 .i32) 33 1 21 1]]
theorem ok0s : StepsOk P N 57 lsControlledShutdownResponse ss0s := ⟨⟨aInt16, ⟨by kernel_rfl, rfl, rfl⟩, by kernel_rfl⟩, ⟨hArrayLen, ⟨by kernel_rfl, rfl, rfl⟩, .of (by kernel_rfl) (by kernel_rfl) (by kernel_rfl) (by decide), dokControlledShutdownResponsePartitionsRemaining, rfl, ⟨⟨aString, ⟨by kernel_rfl, rfl, rfl⟩, by kernel_rfl⟩, ⟨aInt32, ⟨by kernel_rfl, rfl, rfl⟩, by kernel_rfl⟩, trivial⟩⟩, trivial⟩
theorem door0s {w : World} {l : List UInt8} {data e0 : Value} (hl : l.length ≤ 1000) (hd : DataIn w data l) (he : ErrAt w N.gErr e0) (he0 : ∃ d y, e0 = .iface d y) : Gives P 5 [.int .i64 0, data] w fun u w' => DoorPost w w' u (toldOf ss0s (fsAt 0) gpControlledShutdownResponse l) ∧ Keeps [] w w' :=
  door_ver (e := E) (fNew := 10) (fSet := 12) (fRead := 13) (fRf := 18) (fDef := 17) (fTell := 14) (S := 57) (ds := dsControlledShutdownResponse) (ls := lsControlledShutdownResponse) (ss := ss0s) (v := 0) (uns := false) (fs0 := fsAt 0) (mid := mid) (mid1 := .int .i16 0 :: mid) (ts := tysControlledShutdownResponse)
    rdF octF tellF tyZ rfA (fun _ => hOk) hComplete errI newOk defControlledShutdownResponse toldControlledShutdownResponse (by kernel_rfl) (by kernel_rfl) (by kernel_rfl) (by kernel_rfl) ok0s rfl rfl rfl rfl (by kernel_rfl) (by kernel_rfl) rfl rfl rfl rfl (by decide) hl hd he he0

def ss0u : List Step := [.call (.num 2 .i16) 23 1 38 1, .listS .len 25 2 52 2 62 3 28 dfControlledShutdownResponsePartitionsRemaining [.call .str 30 0 9 0, .call (.num 4 .i32) 33 1 21 1]]
theorem ok0u : StepsOk P N 57 lsControlledShutdownResponse ss0u := ⟨⟨aInt16, ⟨by kernel_rfl, rfl, rfl⟩, by kernel_rfl⟩, ⟨hArrayLen, ⟨by kernel_rfl, rfl, rfl⟩, .of (by kernel_rfl) (by kernel_rfl) (by kernel_rfl) (by decide), dokControlledShutdownResponsePartitionsRemaining, rfl, ⟨⟨aUnsafeString, ⟨by kernel_rfl, rfl, rfl⟩, by kernel_rfl⟩, ⟨aInt32, ⟨by kernel_rfl, rfl, rfl⟩, by kernel_rfl⟩, trivial⟩⟩, trivial⟩
theorem door0u {w : World} {l : List UInt8} {data e0 : Value} (hl : l.length ≤ 1000) (hd : DataIn w data l) (he : ErrAt w N.gErr e0) (he0 : ∃ d y, e0 = .iface d y) : Gives P 7 [.int .i64 0, data] w fun u w' => DoorPost w w' u (toldOf ss0s (fsAt 0) gpControlledShutdownResponse l) ∧ Keeps [] w w' :=
  door_ver (e := E) (fNew := 10) (fSet := 12) (fRead := 15) (fRf := 18) (fDef := 17) (fTell := 14) (S := 57) (ds := dsControlledShutdownResponse) (ls := lsControlledShutdownResponse) (ss := ss0u) (v := 0) (uns := true) (fs0 := fsAt 0) (mid := mid) (mid1 := .int .i16 0 :: mid) (ts := tysControlledShutdownResponse)
    rdF octF tellF tyZ rfA (fun _ => hOk) hComplete errI newOk defControlledShutdownResponse toldControlledShutdownResponse (by kernel_rfl) (by kernel_rfl) (by kernel_rfl) (by kernel_rfl) ok0u rfl rfl rfl rfl (by kernel_rfl) (by kernel_rfl) rfl rfl rfl rfl (by decide) hl hd he he0

def ss1s : List Step := [.call (.num 2 .i16) 23 1 38 1, .listS .len 25 2 52 2 62 3 28 dfControlledShutdownResponsePartitionsRemaining [.call .str 32 0 9 0, .call (.num 4 .i32) 33 1 21 1]]
theorem ok1s : StepsOk P N 57 lsControlledShutdownResponse ss1s := ⟨⟨aInt16, ⟨by kernel_rfl, rfl, rfl⟩, by kernel_rfl⟩, ⟨hArrayLen, ⟨by kernel_rfl, rfl, rfl⟩, .of (by kernel_rfl) (by kernel_rfl) (by kernel_rfl) (by decide), dokControlledShutdownResponsePartitionsRemaining, rfl, ⟨⟨aString, ⟨by kernel_rfl, rfl, rfl⟩, by kernel_rfl⟩, ⟨aInt32, ⟨by kernel_rfl, rfl, rfl⟩, by kernel_rfl⟩, trivial⟩⟩, trivial⟩
theorem door1s {w : World} {l : List UInt8} {data e0 : Value} (hl : l.length ≤ 1000) (hd : DataIn w data l) (he : ErrAt w N.gErr e0) (he0 : ∃ d y, e0 = .iface d y) : Gives P 5 [.int .i64 1, data] w fun u w' => DoorPost w w' u (toldOf ss1s (fsAt 1) gpControlledShutdownResponse l) ∧ Keeps [] w w' :=
  door_ver (e := E) (fNew := 10) (fSet := 12) (fRead := 13) (fRf := 18) (fDef := 17) (fTell := 14) (S := 57) (ds := dsControlledShutdownResponse) (ls := lsControlledShutdownResponse) (ss := ss1s) (v := 1) (uns := false) (fs0 := fsAt 1) (mid := mid) (mid1 := .int .i16 1 :: mid) (ts := tysControlledShutdownResponse)
    rdF octF tellF tyZ rfA (fun _ => hOk) hComplete errI newOk defControlledShutdownResponse toldControlledShutdownResponse (by kernel_rfl) (by kernel_rfl) (by kernel_rfl) (by kernel_rfl) ok1s rfl rfl rfl rfl (by kernel_rfl) (by kernel_rfl) rfl rfl rfl rfl (by decide) hl hd he he0

def ss1u : List Step := [.call (.num 2 .i16) 23 1 38 1, .listS .len 25 2 52 2 62 3 28 dfControlledShutdownResponsePartitionsRemaining [.call .str 30 0 9 0, .call (.num 4 .i32) 33 1 21 1]]
theorem ok1u : StepsOk P N 57 lsControlledShutdownResponse ss1u := ⟨⟨aInt16, ⟨by kernel_rfl, rfl, rfl⟩, by kernel_rfl⟩, ⟨hArrayLen, ⟨by kernel_rfl, rfl, rfl⟩, .of (by kernel_rfl) (by kernel_rfl) (by kernel_rfl) (by decide), dokControlledShutdownResponsePartitionsRemaining, rfl, ⟨⟨aUnsafeString, ⟨by kernel_rfl, rfl, rfl⟩, by kernel_rfl⟩, ⟨aInt32, ⟨by kernel_rfl, rfl, rfl⟩, by kernel_rfl⟩, trivial⟩⟩, trivial⟩
theorem door1u {w : World} {l : List UInt8} {data e0 : Value} (hl : l.length ≤ 1000) (hd : DataIn w data l) (he : ErrAt w N.gErr e0) (he0 : ∃ d y, e0 = .iface d y) : Gives P 7 [.int .i64 1, data] w fun u w' => DoorPost w w' u (toldOf ss1s (fsAt 1) gpControlledShutdownResponse l) ∧ Keeps [] w w' :=
  door_ver (e := E) (fNew := 10) (fSet := 12) (fRead := 15) (fRf := 18) (fDef := 17) (fTell := 14) (S := 57) (ds := dsControlledShutdownResponse) (ls := lsControlledShutdownResponse) (ss := ss1u) (v := 1) (uns := true) (fs0 := fsAt 1) (mid := mid) (mid1 := .int .i16 1 :: mid) (ts := tysControlledShutdownResponse)
    rdF octF tellF tyZ rfA (fun _ => hOk) hComplete errI newOk defControlledShutdownResponse toldControlledShutdownResponse (by kernel_rfl) (by kernel_rfl) (by kernel_rfl) (by kernel_rfl) ok1u rfl rfl rfl rfl (by kernel_rfl) (by kernel_rfl) rfl rfl rfl rfl (by decide) hl hd he he0

def ss2s : List Step := [.call (.num 2 .i16) 23 1 38 1, .listS .len 25 2 52 2 62 3 28 dfControlledShutdownResponsePartitionsRemaining [.call .str 32 0 9 0, .call (.num 4 .i32) 33 1 21 1]]
theorem ok2s : StepsOk P N 57 lsControlledShutdownResponse ss2s := ⟨⟨aInt16, ⟨by kernel_rfl, rfl, rfl⟩, by kernel_rfl⟩, ⟨hArrayLen, ⟨by kernel_rfl, rfl, rfl⟩, .of (by kernel_rfl) (by kernel_rfl) (by kernel_rfl) (by decide), dokControlledShutdownResponsePartitionsRemaining, rfl, ⟨⟨aString, ⟨by kernel_rfl, rfl, rfl⟩, by kernel_rfl⟩, ⟨aInt32, ⟨by kernel_rfl, rfl, rfl⟩, by kernel_rfl⟩, trivial⟩⟩, trivial⟩
theorem door2s {w : World} {l : List UInt8} {data e0 : Value} (hl : l.length ≤ 1000) (hd : DataIn w data l) (he : ErrAt w N.gErr e0) (he0 : ∃ d y, e0 = .iface d y) : Gives P 5 [.int .i64 2, data] w fun u w' => DoorPost w w' u (toldOf ss2s (fsAt 2) gpControlledShutdownResponse l) ∧ Keeps [] w w' :=
  door_ver (e := E) (fNew := 10) (fSet := 12) (fRead := 13) (fRf := 18) (fDef := 17) (fTell := 14) (S := 57) (ds := dsControlledShutdownResponse) (ls := lsControlledShutdownResponse) (ss := ss2s) (v := 2) (uns := false) (fs0 := fsAt 2) (mid := mid) (mid1 := .int .i16 2 :: mid) (ts := tysControlledShutdownResponse)
    rdF octF tellF tyZ rfA (fun _ => hOk) hComplete errI newOk defControlledShutdownResponse toldControlledShutdownResponse (by kernel_rfl) (by kernel_rfl) (by kernel_rfl) (by kernel_rfl) ok2s rfl rfl rfl rfl (by kernel_rfl) (by kernel_rfl) rfl rfl rfl rfl (by decide) hl hd he he0

def ss2u : List Step := [.call (.num 2 .i16) 23 1 38 1, .listS .len 25 2 52 2 62 3 28 dfControlledShutdownResponsePartitionsRemaining [.call .str 30 0 9 0, .call (.num 4 .i32) 33 1 21 1]]
theorem ok2u : StepsOk P N 57 lsControlledShutdownResponse ss2u := ⟨⟨aInt16, ⟨by kernel_rfl, rfl, rfl⟩, by kernel_rfl⟩, ⟨hArrayLen, ⟨by kernel_rfl, rfl, rfl⟩, .of (by kernel_rfl) (by kernel_rfl) (by kernel_rfl) (by decide), dokControlledShutdownResponsePartitionsRemaining, rfl, ⟨⟨aUnsafeString, ⟨by kernel_rfl, rfl, rfl⟩, by kernel_rfl⟩, ⟨aInt32, ⟨by kernel_rfl, rfl, rfl⟩, by kernel_rfl⟩, trivial⟩⟩, trivial⟩
theorem door2u {w : World} {l : List UInt8} {data e0 : Value} (hl : l.length ≤ 1000) (hd : DataIn w data l) (he : ErrAt w N.gErr e0) (he0 : ∃ d y, e0 = .iface d y) : Gives P 7 [.int .i64 2, data] w fun u w' => DoorPost w w' u (toldOf ss2s (fsAt 2) gpControlledShutdownResponse l) ∧ Keeps [] w w' :=
  door_ver (e := E) (fNew := 10) (fSet := 12) (fRead := 15) (fRf := 18) (fDef := 17) (fTell := 14) (S := 57) (ds := dsControlledShutdownResponse) (ls := lsControlledShutdownResponse) (ss := ss2u) (v := 2) (uns := true) (fs0 := fsAt 2) (mid := mid) (mid1 := .int .i16 2 :: mid) (ts := tysControlledShutdownResponse)
    rdF octF tellF tyZ rfA (fun _ => hOk) hComplete errI newOk defControlledShutdownResponse toldControlledShutdownResponse (by kernel_rfl) (by kernel_rfl) (by kernel_rfl) (by kernel_rfl) ok2u rfl rfl rfl rfl (by kernel_rfl) (by kernel_rfl) rfl rfl rfl rfl (by decide) hl hd he he0

def ss3s : List Step := [.call (.num 2 .i16) 23 1 38 1, .listS .clen 24 2 52 2 62 3 28 dfControlledShutdownResponsePartitionsRemaining [.call .cstr 31 0 9 0, .call (.num 4 .i32) 33 1 21 1, .call .tags 34 2 55 2], .call .tags 34 3 55 3]
theorem ok3s : StepsOk P N 57 lsControlledShutdownResponse ss3s := ⟨⟨aInt16, ⟨by kernel_rfl, rfl, rfl⟩, by kernel_rfl⟩, ⟨hCompactArrayLen, ⟨by kernel_rfl, rfl, rfl⟩, .of (by kernel_rfl) (by kernel_rfl) (by kernel_rfl) (by decide), dokControlledShutdownResponsePartitionsRemaining, rfl, ⟨⟨aCompactString, ⟨by kernel_rfl, rfl, rfl⟩, by kernel_rfl⟩, ⟨aInt32, ⟨by kernel_rfl, rfl, rfl⟩, by kernel_rfl⟩, ⟨aTags, ⟨by kernel_rfl, rfl, rfl⟩, by kernel_rfl⟩, trivial⟩⟩, ⟨aTags, ⟨by kernel_rfl, rfl, rfl⟩, by kernel_rfl⟩, trivial⟩
theorem door3s {w : World} {l : List UInt8} {data e0 : Value} (hl : l.length ≤ 1000) (hd : DataIn w data l) (he : ErrAt w N.gErr e0) (he0 : ∃ d y, e0 = .iface d y) : Gives P 5 [.int .i64 3, data] w fun u w' => DoorPost w w' u (toldOf ss3s (fsAt 3) gpControlledShutdownResponse l) ∧ Keeps [] w w' :=
  door_ver (e := E) (fNew := 10) (fSet := 12) (fRead := 13) (fRf := 18) (fDef := 17) (fTell := 14) (S := 57) (ds := dsControlledShutdownResponse) (ls := lsControlledShutdownResponse) (ss := ss3s) (v := 3) (uns := false) (fs0 := fsAt 3) (mid := mid) (mid1 := .int .i16 3 :: mid) (ts := tysControlledShutdownResponse)
    rdF octF tellF tyZ rfA (fun _ => hOk) hComplete errI newOk defControlledShutdownResponse toldControlledShutdownResponse (by kernel_rfl) (by kernel_rfl) (by kernel_rfl) (by kernel_rfl) ok3s rfl rfl rfl rfl (by kernel_rfl) (by kernel_rfl) rfl rfl rfl rfl (by decide) hl hd he he0

def ss3u : List Step := [.call (.num 2 .i16) 23 1 38 1, .listS .clen 24 2 52 2 62 3 28 dfControlledShutdownResponsePartitionsRemaining [.call .cstr 29 0 9 0, .call (.num 4 .i32) 33 1 21 1, .call .tags 34 2 55 2], .call .tags 34 3 55 3]
theorem ok3u : StepsOk P N 57 lsControlledShutdownResponse ss3u := ⟨⟨aInt16, ⟨by kernel_rfl, rfl, rfl⟩, by kernel_rfl⟩, ⟨hCompactArrayLen, ⟨by kernel_rfl, rfl, rfl⟩, .of (by kernel_rfl) (by kernel_rfl) (by kernel_rfl) (by decide), dokControlledShutdownResponsePartitionsRemaining, rfl, ⟨⟨aUnsafeCompactString, ⟨by kernel_rfl, rfl, rfl⟩, by kernel_rfl⟩, ⟨aInt32, ⟨by kernel_rfl, rfl, rfl⟩, by kernel_rfl⟩, ⟨aTags, ⟨by kernel_rfl, rfl, rfl⟩, by kernel_rfl⟩, trivial⟩⟩, ⟨aTags, ⟨by kernel_rfl, rfl, rfl⟩, by kernel_rfl⟩, trivial⟩
theorem door3u {w : World} {l : List UInt8} {data e0 : Value} (hl : l.length ≤ 1000) (hd : DataIn w data l) (he : ErrAt w N.gErr e0) (he0 : ∃ d y, e0 = .iface d y) : Gives P 7 [.int .i64 3, data] w fun u w' => DoorPost w w' u (toldOf ss3s (fsAt 3) gpControlledShutdownResponse l) ∧ Keeps [] w w' :=
  door_ver (e := E) (fNew := 10) (fSet := 12) (fRead := 15) (fRf := 18) (fDef := 17) (fTell := 14) (S := 57) (ds := dsControlledShutdownResponse) (ls := lsControlledShutdownResponse) (ss := ss3u) (v := 3) (uns := true) (fs0 := fsAt 3) (mid := mid) (mid1 := .int .i16 3 :: mid) (ts := tysControlledShutdownResponse)
    rdF octF tellF tyZ rfA (fun _ => hOk) hComplete errI newOk defControlledShutdownResponse toldControlledShutdownResponse (by kernel_rfl) (by kernel_rfl) (by kernel_rfl) (by kernel_rfl) ok3u rfl rfl rfl rfl (by kernel_rfl) (by kernel_rfl) rfl rfl rfl rfl (by decide) hl hd he he0

def ssAll : List (List Step) := [ss0s, ss1s, ss2s, ss3s]
def outOf (l : List UInt8) (v : Nat) : Option PT := toldOf (ssAll.getD v []) (fsAt v) gpControlledShutdownResponse l

theorem out0 (l : List UInt8) : outOf l 0 = toldOf ss0s (fsAt 0) gpControlledShutdownResponse l := rfl
theorem out1 (l : List UInt8) : outOf l 1 = toldOf ss1s (fsAt 1) gpControlledShutdownResponse l := rfl
theorem out2 (l : List UInt8) : outOf l 2 = toldOf ss2s (fsAt 2) gpControlledShutdownResponse l := rfl
theorem out3 (l : List UInt8) : outOf l 3 = toldOf ss3s (fsAt 3) gpControlledShutdownResponse l := rfl
theorem allTell (w : World) (v : Nat) (l : List UInt8) (data e0 : Value) (hv : v ≤ 3) (hl : l.length ≤ 1000) (hd : DataIn w data l) (he : ErrAt w N.gErr e0) (he0 : ∃ d y, e0 = .iface d y) : Gives P 5 [.int .i64 v, data] w fun u w' => DoorPost w w' u (outOf l v) ∧ Keeps [] w w' := by
  have h : v = 0 ∨ v = 1 ∨ v = 2 ∨ v = 3 := by omega
  rcases h with rfl | rfl | rfl | rfl
  · rw [out0]; exact door0s hl hd he he0
  · rw [out1]; exact door1s hl hd he he0
  · rw [out2]; exact door2s hl hd he he0
  · rw [out3]; exact door3s hl hd he he0

theorem allUnsafe (w : World) (v : Nat) (l : List UInt8) (data e0 : Value) (hv : v ≤ 3) (hl : l.length ≤ 1000) (hd : DataIn w data l) (he : ErrAt w N.gErr e0) (he0 : ∃ d y, e0 = .iface d y) : Gives P 7 [.int .i64 v, data] w fun u w' => DoorPost w w' u (outOf l v) ∧ Keeps [] w w' := by
  have h : v = 0 ∨ v = 1 ∨ v = 2 ∨ v = 3 := by omega
  rcases h with rfl | rfl | rfl | rfl
  · rw [out0]; exact door0u hl hd he he0
  · rw [out1]; exact door1u hl hd he he0
  · rw [out2]; exact door2u hl hd he he0
  · rw [out3]; exact door3u hl hd he he0

theorem maxOk (w : World) : Gives P 4 [] w fun v w' => v = .int .i64 (3 : Nat) ∧ Keeps [] w w' := max_gives (fNew := 10) (fMax := 11) (m := 3) rdF newOk (by kernel_rfl) (by kernel_rfl) rfl
theorem verOk (n : Nat) (hn : n < 256) (w : World) : Gives P 6 [.int .u8 n, .int .i64 (3 : Nat)] w fun v w' => v = .int .i64 (n % (3 + 1) : Nat) ∧ w' = w := version_gives rdF (by kernel_rfl) hn (by decide)

/-- The law: whatever the octets. -/
theorem lawOk (w : World) (n : Nat) (hn : n < 256) (data e0 : Value) (l : List UInt8) (hd : DataIn w data l) (he : ErrAt w N.gErr e0) (he0 : ∃ d y, e0 = .iface d y) : Gives P 3 [.int .u8 n, data] w fun v w' => v = .bool true ∧ Keeps [] w w' :=
  unsafeLaw_gives (m := 3) (out := outOf l) (e0 := e0) (l := l) rdF tellF tyZ (by kernel_rfl) maxOk (verOk n hn) (fun w hl hd he => allTell w _ l data e0 (Nat.le_of_lt_succ (Nat.mod_lt _ (by decide))) hl hd he he0) (fun w hl hd he => allUnsafe w _ l data e0 (Nat.le_of_lt_succ (Nat.mod_lt _ (by decide))) hl hd he he0) hGot hSameTree hd he
end Go.Proofs.YtbanlccechdemadDoor
