/- SyncGroupResponse: its doors. -/
import Derived.Test.YtipfcpfmcoklbabGreatDoorMsgSyncGroupResponse
namespace Go.Proofs.YtipfcpfmcoklbabGreatDoor
open Go Go.Kf

theorem rfA : RfFacts P N 79 := .of (by kernel_rfl) (by kernel_rfl) (by kernel_rfl) (by kernel_rfl) (by kernel_rfl)
theorem errI : ∃ ms, P.underlying N.tErr = some (.interface ms) := iface_of (by kernel_rfl)
def mid : List Value := [.int .i32 0, .int .i16 0, .pointer none, .pointer none, .slice none 0 0, .map none]
def fsAt (v : Int) : List FV := .one (.int .i16 v) :: [.one (.int .i32 0), .one (.int .i16 0), .ntext none, .ntext none, .octs true [], .tags []]
theorem newOk : NewOk P 18 (.int .i16 0 :: mid) := new_gives rdF.mix (by kernel_rfl : zeroTy P 79 = some (.agg ⟨.int .i16 0 :: [.int .i32 0, .int .i16 0, .pointer none, .pointer none, .slice none 0 0, .map none]⟩, 7)) dokSyncGroupResponse (by kernel_rfl) (by kernel_rfl)

def ss0s : List Step := [.call (.num 2 .i16) 60 2 46 2, .call .bytes 66 5 22 5]
theorem ok0s : StepsOk P N 79 lsSyncGroupResponse ss0s := ⟨⟨aInt16, ⟨by kernel_rfl, rfl, rfl⟩, by kernel_rfl⟩, ⟨aBytes, ⟨by kernel_rfl, rfl, rfl⟩, by kernel_rfl⟩, trivial⟩
theorem door0s {w : World} {l : List UInt8} {data e0 : Value} (hl : l.length ≤ 1073741824) (hd : DataIn w data l) (he : ErrAt w N.gErr e0) (he0 : ∃ d y, e0 = .iface d y) : Gives P 9 [.int .i64 0, data] w fun u w' => DoorPost w w' u (toldOf ss0s (fsAt 0) gpSyncGroupResponse l) ∧ Keeps [] w w' :=
  door_ver (e := E) (fNew := 18) (fSet := 20) (fRead := 21) (fRf := 40) (fDef := 39) (fTell := 22) (S := 79) (ds := dsSyncGroupResponse) (ls := lsSyncGroupResponse) (ss := ss0s) (v := 0) (uns := false) (fs0 := fsAt 0) (mid := mid) (mid1 := .int .i16 0 :: mid) (ts := tysSyncGroupResponse)
    rdF octF tellF tyZ rfA (fun _ => hOk) hComplete errI newOk defSyncGroupResponse toldSyncGroupResponse (by kernel_rfl) (by kernel_rfl) (by kernel_rfl) (by kernel_rfl) ok0s rfl rfl rfl rfl rfl (by kernel_rfl) (by kernel_rfl) rfl rfl rfl rfl (by decide) hl hd he he0

def ss1s : List Step := [.call (.num 4 .i32) 59 1 21 1, .call (.num 2 .i16) 60 2 46 2, .call .bytes 66 5 22 5]
theorem ok1s : StepsOk P N 79 lsSyncGroupResponse ss1s := ⟨⟨aInt32, ⟨by kernel_rfl, rfl, rfl⟩, by kernel_rfl⟩, ⟨aInt16, ⟨by kernel_rfl, rfl, rfl⟩, by kernel_rfl⟩, ⟨aBytes, ⟨by kernel_rfl, rfl, rfl⟩, by kernel_rfl⟩, trivial⟩
theorem door1s {w : World} {l : List UInt8} {data e0 : Value} (hl : l.length ≤ 1073741824) (hd : DataIn w data l) (he : ErrAt w N.gErr e0) (he0 : ∃ d y, e0 = .iface d y) : Gives P 9 [.int .i64 1, data] w fun u w' => DoorPost w w' u (toldOf ss1s (fsAt 1) gpSyncGroupResponse l) ∧ Keeps [] w w' :=
  door_ver (e := E) (fNew := 18) (fSet := 20) (fRead := 21) (fRf := 40) (fDef := 39) (fTell := 22) (S := 79) (ds := dsSyncGroupResponse) (ls := lsSyncGroupResponse) (ss := ss1s) (v := 1) (uns := false) (fs0 := fsAt 1) (mid := mid) (mid1 := .int .i16 1 :: mid) (ts := tysSyncGroupResponse)
    rdF octF tellF tyZ rfA (fun _ => hOk) hComplete errI newOk defSyncGroupResponse toldSyncGroupResponse (by kernel_rfl) (by kernel_rfl) (by kernel_rfl) (by kernel_rfl) ok1s rfl rfl rfl rfl rfl (by kernel_rfl) (by kernel_rfl) rfl rfl rfl rfl (by decide) hl hd he he0

def ss2s : List Step := [.call (.num 4 .i32) 59 1 21 1, .call (.num 2 .i16) 60 2 46 2, .call .bytes 66 5 22 5]
theorem ok2s : StepsOk P N 79 lsSyncGroupResponse ss2s := ⟨⟨aInt32, ⟨by kernel_rfl, rfl, rfl⟩, by kernel_rfl⟩, ⟨aInt16, ⟨by kernel_rfl, rfl, rfl⟩, by kernel_rfl⟩, ⟨aBytes, ⟨by kernel_rfl, rfl, rfl⟩, by kernel_rfl⟩, trivial⟩
theorem door2s {w : World} {l : List UInt8} {data e0 : Value} (hl : l.length ≤ 1073741824) (hd : DataIn w data l) (he : ErrAt w N.gErr e0) (he0 : ∃ d y, e0 = .iface d y) : Gives P 9 [.int .i64 2, data] w fun u w' => DoorPost w w' u (toldOf ss2s (fsAt 2) gpSyncGroupResponse l) ∧ Keeps [] w w' :=
  door_ver (e := E) (fNew := 18) (fSet := 20) (fRead := 21) (fRf := 40) (fDef := 39) (fTell := 22) (S := 79) (ds := dsSyncGroupResponse) (ls := lsSyncGroupResponse) (ss := ss2s) (v := 2) (uns := false) (fs0 := fsAt 2) (mid := mid) (mid1 := .int .i16 2 :: mid) (ts := tysSyncGroupResponse)
    rdF octF tellF tyZ rfA (fun _ => hOk) hComplete errI newOk defSyncGroupResponse toldSyncGroupResponse (by kernel_rfl) (by kernel_rfl) (by kernel_rfl) (by kernel_rfl) ok2s rfl rfl rfl rfl rfl (by kernel_rfl) (by kernel_rfl) rfl rfl rfl rfl (by decide) hl hd he he0

def ss3s : List Step := [.call (.num 4 .i32) 59 1 21 1, .call (.num 2 .i16) 60 2 46 2, .call .bytes 66 5 22 5]
theorem ok3s : StepsOk P N 79 lsSyncGroupResponse ss3s := ⟨⟨aInt32, ⟨by kernel_rfl, rfl, rfl⟩, by kernel_rfl⟩, ⟨aInt16, ⟨by kernel_rfl, rfl, rfl⟩, by kernel_rfl⟩, ⟨aBytes, ⟨by kernel_rfl, rfl, rfl⟩, by kernel_rfl⟩, trivial⟩
theorem door3s {w : World} {l : List UInt8} {data e0 : Value} (hl : l.length ≤ 1073741824) (hd : DataIn w data l) (he : ErrAt w N.gErr e0) (he0 : ∃ d y, e0 = .iface d y) : Gives P 9 [.int .i64 3, data] w fun u w' => DoorPost w w' u (toldOf ss3s (fsAt 3) gpSyncGroupResponse l) ∧ Keeps [] w w' :=
  door_ver (e := E) (fNew := 18) (fSet := 20) (fRead := 21) (fRf := 40) (fDef := 39) (fTell := 22) (S := 79) (ds := dsSyncGroupResponse) (ls := lsSyncGroupResponse) (ss := ss3s) (v := 3) (uns := false) (fs0 := fsAt 3) (mid := mid) (mid1 := .int .i16 3 :: mid) (ts := tysSyncGroupResponse)
    rdF octF tellF tyZ rfA (fun _ => hOk) hComplete errI newOk defSyncGroupResponse toldSyncGroupResponse (by kernel_rfl) (by kernel_rfl) (by kernel_rfl) (by kernel_rfl) ok3s rfl rfl rfl rfl rfl (by kernel_rfl) (by kernel_rfl) rfl rfl rfl rfl (by decide) hl hd he he0

def ss4s : List Step := [.call (.num 4 .i32) 59 1 21 1, .call (.num 2 .i16) 60 2 46 2, .call .cbytes 65 5 22 5, .call .tags 67 6 77 6]
theorem ok4s : StepsOk P N 79 lsSyncGroupResponse ss4s := ⟨⟨aInt32, ⟨by kernel_rfl, rfl, rfl⟩, by kernel_rfl⟩, ⟨aInt16, ⟨by kernel_rfl, rfl, rfl⟩, by kernel_rfl⟩, ⟨aCompactBytes, ⟨by kernel_rfl, rfl, rfl⟩, by kernel_rfl⟩, ⟨aTags, ⟨by kernel_rfl, rfl, rfl⟩, by kernel_rfl⟩, trivial⟩
theorem door4s {w : World} {l : List UInt8} {data e0 : Value} (hl : l.length ≤ 1073741824) (hd : DataIn w data l) (he : ErrAt w N.gErr e0) (he0 : ∃ d y, e0 = .iface d y) : Gives P 9 [.int .i64 4, data] w fun u w' => DoorPost w w' u (toldOf ss4s (fsAt 4) gpSyncGroupResponse l) ∧ Keeps [] w w' :=
  door_ver (e := E) (fNew := 18) (fSet := 20) (fRead := 21) (fRf := 40) (fDef := 39) (fTell := 22) (S := 79) (ds := dsSyncGroupResponse) (ls := lsSyncGroupResponse) (ss := ss4s) (v := 4) (uns := false) (fs0 := fsAt 4) (mid := mid) (mid1 := .int .i16 4 :: mid) (ts := tysSyncGroupResponse)
    rdF octF tellF tyZ rfA (fun _ => hOk) hComplete errI newOk defSyncGroupResponse toldSyncGroupResponse (by kernel_rfl) (by kernel_rfl) (by kernel_rfl) (by kernel_rfl) ok4s rfl rfl rfl rfl rfl (by kernel_rfl) (by kernel_rfl) rfl rfl rfl rfl (by decide) hl hd he he0

def ss5s : List Step := [.call (.num 4 .i32) 59 1 21 1, .call (.num 2 .i16) 60 2 46 2, .call .cnstr 62 3 74 3, .call .cnstr 62 4 74 4, .call .cbytes 65 5 22 5, .call .tags 67 6 77 6]
theorem ok5s : StepsOk P N 79 lsSyncGroupResponse ss5s := ⟨⟨aInt32, ⟨by kernel_rfl, rfl, rfl⟩, by kernel_rfl⟩, ⟨aInt16, ⟨by kernel_rfl, rfl, rfl⟩, by kernel_rfl⟩, ⟨aCompactNullableString, ⟨by kernel_rfl, rfl, rfl⟩, by kernel_rfl⟩, ⟨aCompactNullableString, ⟨by kernel_rfl, rfl, rfl⟩, by kernel_rfl⟩, ⟨aCompactBytes, ⟨by kernel_rfl, rfl, rfl⟩, by kernel_rfl⟩, ⟨aTags, ⟨by kernel_rfl, rfl, rfl⟩, by kernel_rfl⟩, trivial⟩
theorem door5s {w : World} {l : List UInt8} {data e0 : Value} (hl : l.length ≤ 1073741824) (hd : DataIn w data l) (he : ErrAt w N.gErr e0) (he0 : ∃ d y, e0 = .iface d y) : Gives P 9 [.int .i64 5, data] w fun u w' => DoorPost w w' u (toldOf ss5s (fsAt 5) gpSyncGroupResponse l) ∧ Keeps [] w w' :=
  door_ver (e := E) (fNew := 18) (fSet := 20) (fRead := 21) (fRf := 40) (fDef := 39) (fTell := 22) (S := 79) (ds := dsSyncGroupResponse) (ls := lsSyncGroupResponse) (ss := ss5s) (v := 5) (uns := false) (fs0 := fsAt 5) (mid := mid) (mid1 := .int .i16 5 :: mid) (ts := tysSyncGroupResponse)
    rdF octF tellF tyZ rfA (fun _ => hOk) hComplete errI newOk defSyncGroupResponse toldSyncGroupResponse (by kernel_rfl) (by kernel_rfl) (by kernel_rfl) (by kernel_rfl) ok5s rfl rfl rfl rfl rfl (by kernel_rfl) (by kernel_rfl) rfl rfl rfl rfl (by decide) hl hd he he0

def ssAll : List (List Step) := [ss0s, ss1s, ss2s, ss3s, ss4s, ss5s]
def outOf (l : List UInt8) (v : Nat) : Option PT := toldOf (ssAll.getD v []) (fsAt v) gpSyncGroupResponse l

theorem out0 (l : List UInt8) : outOf l 0 = toldOf ss0s (fsAt 0) gpSyncGroupResponse l := rfl
theorem out1 (l : List UInt8) : outOf l 1 = toldOf ss1s (fsAt 1) gpSyncGroupResponse l := rfl
theorem out2 (l : List UInt8) : outOf l 2 = toldOf ss2s (fsAt 2) gpSyncGroupResponse l := rfl
theorem out3 (l : List UInt8) : outOf l 3 = toldOf ss3s (fsAt 3) gpSyncGroupResponse l := rfl
theorem out4 (l : List UInt8) : outOf l 4 = toldOf ss4s (fsAt 4) gpSyncGroupResponse l := rfl
theorem out5 (l : List UInt8) : outOf l 5 = toldOf ss5s (fsAt 5) gpSyncGroupResponse l := rfl
theorem allTell (w : World) (v : Nat) (l : List UInt8) (data e0 : Value) (hv : v ≤ 5) (hl : l.length ≤ 1073741824) (hd : DataIn w data l) (he : ErrAt w N.gErr e0) (he0 : ∃ d y, e0 = .iface d y) : Gives P 9 [.int .i64 v, data] w fun u w' => DoorPost w w' u (outOf l v) ∧ Keeps [] w w' := by
  have h : v = 0 ∨ v = 1 ∨ v = 2 ∨ v = 3 ∨ v = 4 ∨ v = 5 := by omega
  rcases h with rfl | rfl | rfl | rfl | rfl | rfl
  · rw [out0]; exact door0s hl hd he he0
  · rw [out1]; exact door1s hl hd he he0
  · rw [out2]; exact door2s hl hd he he0
  · rw [out3]; exact door3s hl hd he he0
  · rw [out4]; exact door4s hl hd he he0
  · rw [out5]; exact door5s hl hd he he0

theorem maxOk (w : World) : Gives P 6 [] w fun v w' => v = .int .i64 (5 : Nat) ∧ Keeps [] w w' := max_gives (fNew := 18) (fMax := 19) (m := 5) rdF newOk (by kernel_rfl) (by kernel_rfl) rfl
theorem verOk (n : Nat) (hn : n < 256) (w : World) : Gives P 8 [.int .u8 n, .int .i64 (5 : Nat)] w fun v w' => v = .int .i64 (n % (5 + 1) : Nat) ∧ w' = w := version_gives rdF (by kernel_rfl) hn (by decide)

end Go.Proofs.YtipfcpfmcoklbabGreatDoor
