/- FindCoordinatorRequest: its doors. -/
import Derived.Test.YtipfcpfmcoklbaaDoorMsgFindCoordinatorRequest
namespace Go.Proofs.YtipfcpfmcoklbaaDoor
open Go Go.Kf

theorem rfA : RfFacts P N 95 := .of (by kernel_rfl) (by kernel_rfl) (by kernel_rfl) (by kernel_rfl) (by kernel_rfl)
theorem errI : ∃ ms, P.underlying N.tErr = some (.interface ms) := iface_of (by kernel_rfl)
def mid : List Value := [.string (strOf []), .int .i8 0, .slice none 0 0, .map none]
def fsAt (v : Int) : List FV := .one (.int .i16 v) :: [.text [], .one (.int .i8 0), .list true [], .tags []]
theorem newOk : NewOk P 32 (.int .i16 0 :: mid) := new_gives rdF.mix (by kernel_rfl : zeroTy P 95 = some (.agg ⟨.int .i16 0 :: [.string (strOf []), .int .i8 0, .slice none 0 0, .map none]⟩, 5)) dokFindCoordinatorRequest (by kernel_rfl) (by kernel_rfl)

def ss0s : List Step := [.call .str 62 1 9 1]
theorem ok0s : StepsOk P N 95 lsFindCoordinatorRequest ss0s := ⟨⟨aString, ⟨by kernel_rfl, rfl, rfl⟩, by kernel_rfl⟩, trivial⟩
theorem door0s {w : World} {l : List UInt8} {data e0 : Value} (hl : l.length ≤ 1073741824) (hd : DataIn w data l) (he : ErrAt w N.gErr e0) (he0 : ∃ d y, e0 = .iface d y) : Gives P 16 [.int .i64 0, data] w fun u w' => DoorPost w w' u (toldOf ss0s (fsAt 0) gpFindCoordinatorRequest l) ∧ Keeps [] w w' :=
  door_ver (e := E) (fNew := 32) (fSet := 34) (fRead := 35) (fRf := 53) (fDef := 52) (fTell := 36) (S := 95) (ds := dsFindCoordinatorRequest) (ls := lsFindCoordinatorRequest) (ss := ss0s) (v := 0) (uns := false) (fs0 := fsAt 0) (mid := mid) (mid1 := .int .i16 0 :: mid) (ts := tysFindCoordinatorRequest)
    rdF octF tellF tyZ rfA (fun _ => hOk) hComplete errI newOk defFindCoordinatorRequest toldFindCoordinatorRequest (by kernel_rfl) (by kernel_rfl) (by kernel_rfl) (by kernel_rfl) ok0s rfl rfl rfl rfl rfl (by kernel_rfl) (by kernel_rfl) rfl rfl rfl rfl (by decide) hl hd he he0

def ss1s : List Step := [.call .str 62 1 9 1, .call (.num 1 .i8) 69 2 93 2]
theorem ok1s : StepsOk P N 95 lsFindCoordinatorRequest ss1s := ⟨⟨aString, ⟨by kernel_rfl, rfl, rfl⟩, by kernel_rfl⟩, ⟨aInt8, ⟨by kernel_rfl, rfl, rfl⟩, by kernel_rfl⟩, trivial⟩
theorem door1s {w : World} {l : List UInt8} {data e0 : Value} (hl : l.length ≤ 1073741824) (hd : DataIn w data l) (he : ErrAt w N.gErr e0) (he0 : ∃ d y, e0 = .iface d y) : Gives P 16 [.int .i64 1, data] w fun u w' => DoorPost w w' u (toldOf ss1s (fsAt 1) gpFindCoordinatorRequest l) ∧ Keeps [] w w' :=
  door_ver (e := E) (fNew := 32) (fSet := 34) (fRead := 35) (fRf := 53) (fDef := 52) (fTell := 36) (S := 95) (ds := dsFindCoordinatorRequest) (ls := lsFindCoordinatorRequest) (ss := ss1s) (v := 1) (uns := false) (fs0 := fsAt 1) (mid := mid) (mid1 := .int .i16 1 :: mid) (ts := tysFindCoordinatorRequest)
    rdF octF tellF tyZ rfA (fun _ => hOk) hComplete errI newOk defFindCoordinatorRequest toldFindCoordinatorRequest (by kernel_rfl) (by kernel_rfl) (by kernel_rfl) (by kernel_rfl) ok1s rfl rfl rfl rfl rfl (by kernel_rfl) (by kernel_rfl) rfl rfl rfl rfl (by decide) hl hd he he0

def ss2s : List Step := [.call .str 62 1 9 1, .call (.num 1 .i8) 69 2 93 2]
theorem ok2s : StepsOk P N 95 lsFindCoordinatorRequest ss2s := ⟨⟨aString, ⟨by kernel_rfl, rfl, rfl⟩, by kernel_rfl⟩, ⟨aInt8, ⟨by kernel_rfl, rfl, rfl⟩, by kernel_rfl⟩, trivial⟩
theorem door2s {w : World} {l : List UInt8} {data e0 : Value} (hl : l.length ≤ 1073741824) (hd : DataIn w data l) (he : ErrAt w N.gErr e0) (he0 : ∃ d y, e0 = .iface d y) : Gives P 16 [.int .i64 2, data] w fun u w' => DoorPost w w' u (toldOf ss2s (fsAt 2) gpFindCoordinatorRequest l) ∧ Keeps [] w w' :=
  door_ver (e := E) (fNew := 32) (fSet := 34) (fRead := 35) (fRf := 53) (fDef := 52) (fTell := 36) (S := 95) (ds := dsFindCoordinatorRequest) (ls := lsFindCoordinatorRequest) (ss := ss2s) (v := 2) (uns := false) (fs0 := fsAt 2) (mid := mid) (mid1 := .int .i16 2 :: mid) (ts := tysFindCoordinatorRequest)
    rdF octF tellF tyZ rfA (fun _ => hOk) hComplete errI newOk defFindCoordinatorRequest toldFindCoordinatorRequest (by kernel_rfl) (by kernel_rfl) (by kernel_rfl) (by kernel_rfl) ok2s rfl rfl rfl rfl rfl (by kernel_rfl) (by kernel_rfl) rfl rfl rfl rfl (by decide) hl hd he he0

def ss3s : List Step := [.call .cstr 61 1 9 1, .call (.num 1 .i8) 69 2 93 2, .call .tags 64 4 76 4]
theorem ok3s : StepsOk P N 95 lsFindCoordinatorRequest ss3s := ⟨⟨aCompactString, ⟨by kernel_rfl, rfl, rfl⟩, by kernel_rfl⟩, ⟨aInt8, ⟨by kernel_rfl, rfl, rfl⟩, by kernel_rfl⟩, ⟨aTags, ⟨by kernel_rfl, rfl, rfl⟩, by kernel_rfl⟩, trivial⟩
theorem door3s {w : World} {l : List UInt8} {data e0 : Value} (hl : l.length ≤ 1073741824) (hd : DataIn w data l) (he : ErrAt w N.gErr e0) (he0 : ∃ d y, e0 = .iface d y) : Gives P 16 [.int .i64 3, data] w fun u w' => DoorPost w w' u (toldOf ss3s (fsAt 3) gpFindCoordinatorRequest l) ∧ Keeps [] w w' :=
  door_ver (e := E) (fNew := 32) (fSet := 34) (fRead := 35) (fRf := 53) (fDef := 52) (fTell := 36) (S := 95) (ds := dsFindCoordinatorRequest) (ls := lsFindCoordinatorRequest) (ss := ss3s) (v := 3) (uns := false) (fs0 := fsAt 3) (mid := mid) (mid1 := .int .i16 3 :: mid) (ts := tysFindCoordinatorRequest)
    rdF octF tellF tyZ rfA (fun _ => hOk) hComplete errI newOk defFindCoordinatorRequest toldFindCoordinatorRequest (by kernel_rfl) (by kernel_rfl) (by kernel_rfl) (by kernel_rfl) ok3s rfl rfl rfl rfl rfl (by kernel_rfl) (by kernel_rfl) rfl rfl rfl rfl (by decide) hl hd he he0

def ss4s : List Step := [.call (.num 1 .i8) 69 2 93 2, .listP .clen 55 3 73 3 .cstr 61 9, .call .tags 64 4 76 4]
theorem ok4s : StepsOk P N 95 lsFindCoordinatorRequest ss4s := ⟨⟨aInt8, ⟨by kernel_rfl, rfl, rfl⟩, by kernel_rfl⟩, ⟨hCompactArrayLen, ⟨by kernel_rfl, rfl, rfl⟩, .of (by kernel_rfl) (by kernel_rfl) (by kernel_rfl) (by decide), aCompactString⟩, ⟨aTags, ⟨by kernel_rfl, rfl, rfl⟩, by kernel_rfl⟩, trivial⟩
theorem door4s {w : World} {l : List UInt8} {data e0 : Value} (hl : l.length ≤ 1073741824) (hd : DataIn w data l) (he : ErrAt w N.gErr e0) (he0 : ∃ d y, e0 = .iface d y) : Gives P 16 [.int .i64 4, data] w fun u w' => DoorPost w w' u (toldOf ss4s (fsAt 4) gpFindCoordinatorRequest l) ∧ Keeps [] w w' :=
  door_ver (e := E) (fNew := 32) (fSet := 34) (fRead := 35) (fRf := 53) (fDef := 52) (fTell := 36) (S := 95) (ds := dsFindCoordinatorRequest) (ls := lsFindCoordinatorRequest) (ss := ss4s) (v := 4) (uns := false) (fs0 := fsAt 4) (mid := mid) (mid1 := .int .i16 4 :: mid) (ts := tysFindCoordinatorRequest)
    rdF octF tellF tyZ rfA (fun _ => hOk) hComplete errI newOk defFindCoordinatorRequest toldFindCoordinatorRequest (by kernel_rfl) (by kernel_rfl) (by kernel_rfl) (by kernel_rfl) ok4s rfl rfl rfl rfl rfl (by kernel_rfl) (by kernel_rfl) rfl rfl rfl rfl (by decide) hl hd he he0

def ss5s : List Step := [.call (.num 1 .i8) 69 2 93 2, .listP .clen 55 3 73 3 .cstr 61 9, .call .tags 64 4 76 4]
theorem ok5s : StepsOk P N 95 lsFindCoordinatorRequest ss5s := ⟨⟨aInt8, ⟨by kernel_rfl, rfl, rfl⟩, by kernel_rfl⟩, ⟨hCompactArrayLen, ⟨by kernel_rfl, rfl, rfl⟩, .of (by kernel_rfl) (by kernel_rfl) (by kernel_rfl) (by decide), aCompactString⟩, ⟨aTags, ⟨by kernel_rfl, rfl, rfl⟩, by kernel_rfl⟩, trivial⟩
theorem door5s {w : World} {l : List UInt8} {data e0 : Value} (hl : l.length ≤ 1073741824) (hd : DataIn w data l) (he : ErrAt w N.gErr e0) (he0 : ∃ d y, e0 = .iface d y) : Gives P 16 [.int .i64 5, data] w fun u w' => DoorPost w w' u (toldOf ss5s (fsAt 5) gpFindCoordinatorRequest l) ∧ Keeps [] w w' :=
  door_ver (e := E) (fNew := 32) (fSet := 34) (fRead := 35) (fRf := 53) (fDef := 52) (fTell := 36) (S := 95) (ds := dsFindCoordinatorRequest) (ls := lsFindCoordinatorRequest) (ss := ss5s) (v := 5) (uns := false) (fs0 := fsAt 5) (mid := mid) (mid1 := .int .i16 5 :: mid) (ts := tysFindCoordinatorRequest)
    rdF octF tellF tyZ rfA (fun _ => hOk) hComplete errI newOk defFindCoordinatorRequest toldFindCoordinatorRequest (by kernel_rfl) (by kernel_rfl) (by kernel_rfl) (by kernel_rfl) ok5s rfl rfl rfl rfl rfl (by kernel_rfl) (by kernel_rfl) rfl rfl rfl rfl (by decide) hl hd he he0

def ss6s : List Step := [.call (.num 1 .i8) 69 2 93 2, .listP .clen 55 3 73 3 .cstr 61 9, .call .tags 64 4 76 4]
theorem ok6s : StepsOk P N 95 lsFindCoordinatorRequest ss6s := ⟨⟨aInt8, ⟨by kernel_rfl, rfl, rfl⟩, by kernel_rfl⟩, ⟨hCompactArrayLen, ⟨by kernel_rfl, rfl, rfl⟩, .of (by kernel_rfl) (by kernel_rfl) (by kernel_rfl) (by decide), aCompactString⟩, ⟨aTags, ⟨by kernel_rfl, rfl, rfl⟩, by kernel_rfl⟩, trivial⟩
theorem door6s {w : World} {l : List UInt8} {data e0 : Value} (hl : l.length ≤ 1073741824) (hd : DataIn w data l) (he : ErrAt w N.gErr e0) (he0 : ∃ d y, e0 = .iface d y) : Gives P 16 [.int .i64 6, data] w fun u w' => DoorPost w w' u (toldOf ss6s (fsAt 6) gpFindCoordinatorRequest l) ∧ Keeps [] w w' :=
  door_ver (e := E) (fNew := 32) (fSet := 34) (fRead := 35) (fRf := 53) (fDef := 52) (fTell := 36) (S := 95) (ds := dsFindCoordinatorRequest) (ls := lsFindCoordinatorRequest) (ss := ss6s) (v := 6) (uns := false) (fs0 := fsAt 6) (mid := mid) (mid1 := .int .i16 6 :: mid) (ts := tysFindCoordinatorRequest)
    rdF octF tellF tyZ rfA (fun _ => hOk) hComplete errI newOk defFindCoordinatorRequest toldFindCoordinatorRequest (by kernel_rfl) (by kernel_rfl) (by kernel_rfl) (by kernel_rfl) ok6s rfl rfl rfl rfl rfl (by kernel_rfl) (by kernel_rfl) rfl rfl rfl rfl (by decide) hl hd he he0

def ssAll : List (List Step) := [ss0s, ss1s, ss2s, ss3s, ss4s, ss5s, ss6s]
def outOf (l : List UInt8) (v : Nat) : Option PT := toldOf (ssAll.getD v []) (fsAt v) gpFindCoordinatorRequest l

theorem out0 (l : List UInt8) : outOf l 0 = toldOf ss0s (fsAt 0) gpFindCoordinatorRequest l := rfl
theorem out1 (l : List UInt8) : outOf l 1 = toldOf ss1s (fsAt 1) gpFindCoordinatorRequest l := rfl
theorem out2 (l : List UInt8) : outOf l 2 = toldOf ss2s (fsAt 2) gpFindCoordinatorRequest l := rfl
theorem out3 (l : List UInt8) : outOf l 3 = toldOf ss3s (fsAt 3) gpFindCoordinatorRequest l := rfl
theorem out4 (l : List UInt8) : outOf l 4 = toldOf ss4s (fsAt 4) gpFindCoordinatorRequest l := rfl
theorem out5 (l : List UInt8) : outOf l 5 = toldOf ss5s (fsAt 5) gpFindCoordinatorRequest l := rfl
theorem out6 (l : List UInt8) : outOf l 6 = toldOf ss6s (fsAt 6) gpFindCoordinatorRequest l := rfl
theorem allTell (w : World) (v : Nat) (l : List UInt8) (data e0 : Value) (hv : v ≤ 6) (hl : l.length ≤ 1073741824) (hd : DataIn w data l) (he : ErrAt w N.gErr e0) (he0 : ∃ d y, e0 = .iface d y) : Gives P 16 [.int .i64 v, data] w fun u w' => DoorPost w w' u (outOf l v) ∧ Keeps [] w w' := by
  have h : v = 0 ∨ v = 1 ∨ v = 2 ∨ v = 3 ∨ v = 4 ∨ v = 5 ∨ v = 6 := by omega
  rcases h with rfl | rfl | rfl | rfl | rfl | rfl | rfl
  · rw [out0]; exact door0s hl hd he he0
  · rw [out1]; exact door1s hl hd he he0
  · rw [out2]; exact door2s hl hd he he0
  · rw [out3]; exact door3s hl hd he he0
  · rw [out4]; exact door4s hl hd he he0
  · rw [out5]; exact door5s hl hd he he0
  · rw [out6]; exact door6s hl hd he he0

theorem maxOk (w : World) : Gives P 14 [] w fun v w' => v = .int .i64 (6 : Nat) ∧ Keeps [] w w' := max_gives (fNew := 32) (fMax := 33) (m := 6) rdF newOk (by kernel_rfl) (by kernel_rfl) rfl
theorem verOk (n : Nat) (hn : n < 256) (w : World) : Gives P 8 [.int .u8 n, .int .i64 (6 : Nat)] w fun v w' => v = .int .i64 (n % (6 + 1) : Nat) ∧ w' = w := version_gives rdF (by kernel_rfl) hn (by decide)

end Go.Proofs.YtipfcpfmcoklbaaDoor
