/- EndTxnResponse: its doors. -/
import Derived.Test.YtnmoigejkmikhaaDoorMsgEndTxnResponse
namespace Go.Proofs.YtnmoigejkmikhaaDoor
open Go Go.Kf

theorem rfA : RfFacts P N 90 := .of (by kernel_rfl) (by kernel_rfl) (by kernel_rfl) (by kernel_rfl) (by kernel_rfl)
theorem errI : ∃ ms, P.underlying N.tErr = some (.interface ms) := iface_of (by kernel_rfl)
def mid : List Value := [.int .i32 0, .int .i16 0, .int .i64 (-1), .int .i16 (-1), .map none]
def fsAt (v : Int) : List FV := .one (.int .i16 v) :: [.one (.int .i32 0), .one (.int .i16 0), .one (.int .i64 (-1)), .one (.int .i16 (-1)), .tags []]
theorem newOk : NewOk P 31 (.int .i16 0 :: mid) := new_gives rdF.mix (by kernel_rfl : zeroTy P 90 = some (.agg ⟨.int .i16 0 :: [.int .i32 0, .int .i16 0, .int .i64 0, .int .i16 0, .map none]⟩, 6)) dokEndTxnResponse (by kernel_rfl) (by kernel_rfl)

def ss0s : List Step := [.call (.num 4 .i32) 52 1 21 1, .call (.num 2 .i16) 68 2 38 2]
theorem ok0s : StepsOk P N 90 lsEndTxnResponse ss0s := ⟨⟨aInt32, ⟨by kernel_rfl, rfl, rfl⟩, by kernel_rfl⟩, ⟨aInt16, ⟨by kernel_rfl, rfl, rfl⟩, by kernel_rfl⟩, trivial⟩
theorem door0s {w : World} {l : List UInt8} {data e0 : Value} (hl : l.length ≤ 1000) (hd : DataIn w data l) (he : ErrAt w N.gErr e0) (he0 : ∃ d y, e0 = .iface d y) : Gives P 16 [.int .i64 0, data] w fun u w' => DoorPost w w' u (toldOf ss0s (fsAt 0) gpEndTxnResponse l) ∧ Keeps [] w w' :=
  door_ver (e := E) (fNew := 31) (fSet := 33) (fRead := 34) (fRf := 50) (fDef := 49) (fTell := 35) (S := 90) (ds := dsEndTxnResponse) (ls := lsEndTxnResponse) (ss := ss0s) (v := 0) (uns := false) (fs0 := fsAt 0) (mid := mid) (mid1 := .int .i16 0 :: mid) (ts := tysEndTxnResponse)
    rdF octF tellF tyZ rfA (fun _ => hOk) hComplete errI newOk defEndTxnResponse toldEndTxnResponse (by kernel_rfl) (by kernel_rfl) (by kernel_rfl) (by kernel_rfl) ok0s rfl rfl rfl rfl rfl (by kernel_rfl) (by kernel_rfl) rfl rfl rfl rfl (by decide) hl hd he he0

def ss0u : List Step := [.call (.num 4 .i32) 52 1 21 1, .call (.num 2 .i16) 68 2 38 2]
theorem ok0u : StepsOk P N 90 lsEndTxnResponse ss0u := ⟨⟨aInt32, ⟨by kernel_rfl, rfl, rfl⟩, by kernel_rfl⟩, ⟨aInt16, ⟨by kernel_rfl, rfl, rfl⟩, by kernel_rfl⟩, trivial⟩
theorem door0u {w : World} {l : List UInt8} {data e0 : Value} (hl : l.length ≤ 1000) (hd : DataIn w data l) (he : ErrAt w N.gErr e0) (he0 : ∃ d y, e0 = .iface d y) : Gives P 17 [.int .i64 0, data] w fun u w' => DoorPost w w' u (toldOf ss0s (fsAt 0) gpEndTxnResponse l) ∧ Keeps [] w w' :=
  door_ver (e := E) (fNew := 31) (fSet := 33) (fRead := 36) (fRf := 50) (fDef := 49) (fTell := 35) (S := 90) (ds := dsEndTxnResponse) (ls := lsEndTxnResponse) (ss := ss0u) (v := 0) (uns := true) (fs0 := fsAt 0) (mid := mid) (mid1 := .int .i16 0 :: mid) (ts := tysEndTxnResponse)
    rdF octF tellF tyZ rfA (fun _ => hOk) hComplete errI newOk defEndTxnResponse toldEndTxnResponse (by kernel_rfl) (by kernel_rfl) (by kernel_rfl) (by kernel_rfl) ok0u rfl rfl rfl rfl rfl (by kernel_rfl) (by kernel_rfl) rfl rfl rfl rfl (by decide) hl hd he he0

def ss1s : List Step := [.call (.num 4 .i32) 52 1 21 1, .call (.num 2 .i16) 68 2 38 2]
theorem ok1s : StepsOk P N 90 lsEndTxnResponse ss1s := ⟨⟨aInt32, ⟨by kernel_rfl, rfl, rfl⟩, by kernel_rfl⟩, ⟨aInt16, ⟨by kernel_rfl, rfl, rfl⟩, by kernel_rfl⟩, trivial⟩
theorem door1s {w : World} {l : List UInt8} {data e0 : Value} (hl : l.length ≤ 1000) (hd : DataIn w data l) (he : ErrAt w N.gErr e0) (he0 : ∃ d y, e0 = .iface d y) : Gives P 16 [.int .i64 1, data] w fun u w' => DoorPost w w' u (toldOf ss1s (fsAt 1) gpEndTxnResponse l) ∧ Keeps [] w w' :=
  door_ver (e := E) (fNew := 31) (fSet := 33) (fRead := 34) (fRf := 50) (fDef := 49) (fTell := 35) (S := 90) (ds := dsEndTxnResponse) (ls := lsEndTxnResponse) (ss := ss1s) (v := 1) (uns := false) (fs0 := fsAt 1) (mid := mid) (mid1 := .int .i16 1 :: mid) (ts := tysEndTxnResponse)
    rdF octF tellF tyZ rfA (fun _ => hOk) hComplete errI newOk defEndTxnResponse toldEndTxnResponse (by kernel_rfl) (by kernel_rfl) (by kernel_rfl) (by kernel_rfl) ok1s rfl rfl rfl rfl rfl (by kernel_rfl) (by kernel_rfl) rfl rfl rfl rfl (by decide) hl hd he he0

def ss1u : List Step := [.call (.num 4 .i32) 52 1 21 1, .call (.num 2 .i16) 68 2 38 2]
theorem ok1u : StepsOk P N 90 lsEndTxnResponse ss1u := ⟨⟨aInt32, ⟨by kernel_rfl, rfl, rfl⟩, by kernel_rfl⟩, ⟨aInt16, ⟨by kernel_rfl, rfl, rfl⟩, by kernel_rfl⟩, trivial⟩
theorem door1u {w : World} {l : List UInt8} {data e0 : Value} (hl : l.length ≤ 1000) (hd : DataIn w data l) (he : ErrAt w N.gErr e0) (he0 : ∃ d y, e0 = .iface d y) : Gives P 17 [.int .i64 1, data] w fun u w' => DoorPost w w' u (toldOf ss1s (fsAt 1) gpEndTxnResponse l) ∧ Keeps [] w w' :=
  door_ver (e := E) (fNew := 31) (fSet := 33) (fRead := 36) (fRf := 50) (fDef := 49) (fTell := 35) (S := 90) (ds := dsEndTxnResponse) (ls := lsEndTxnResponse) (ss := ss1u) (v := 1) (uns := true) (fs0 := fsAt 1) (mid := mid) (mid1 := .int .i16 1 :: mid) (ts := tysEndTxnResponse)
    rdF octF tellF tyZ rfA (fun _ => hOk) hComplete errI newOk defEndTxnResponse toldEndTxnResponse (by kernel_rfl) (by kernel_rfl) (by kernel_rfl) (by kernel_rfl) ok1u rfl rfl rfl rfl rfl (by kernel_rfl) (by kernel_rfl) rfl rfl rfl rfl (by decide) hl hd he he0

def ss2s : List Step := [.call (.num 4 .i32) 52 1 21 1, .call (.num 2 .i16) 68 2 38 2]
theorem ok2s : StepsOk P N 90 lsEndTxnResponse ss2s := ⟨⟨aInt32, ⟨by kernel_rfl, rfl, rfl⟩, by kernel_rfl⟩, ⟨aInt16, ⟨by kernel_rfl, rfl, rfl⟩, by kernel_rfl⟩, trivial⟩
theorem door2s {w : World} {l : List UInt8} {data e0 : Value} (hl : l.length ≤ 1000) (hd : DataIn w data l) (he : ErrAt w N.gErr e0) (he0 : ∃ d y, e0 = .iface d y) : Gives P 16 [.int .i64 2, data] w fun u w' => DoorPost w w' u (toldOf ss2s (fsAt 2) gpEndTxnResponse l) ∧ Keeps [] w w' :=
  door_ver (e := E) (fNew := 31) (fSet := 33) (fRead := 34) (fRf := 50) (fDef := 49) (fTell := 35) (S := 90) (ds := dsEndTxnResponse) (ls := lsEndTxnResponse) (ss := ss2s) (v := 2) (uns := false) (fs0 := fsAt 2) (mid := mid) (mid1 := .int .i16 2 :: mid) (ts := tysEndTxnResponse)
    rdF octF tellF tyZ rfA (fun _ => hOk) hComplete errI newOk defEndTxnResponse toldEndTxnResponse (by kernel_rfl) (by kernel_rfl) (by kernel_rfl) (by kernel_rfl) ok2s rfl rfl rfl rfl rfl (by kernel_rfl) (by kernel_rfl) rfl rfl rfl rfl (by decide) hl hd he he0

def ss2u : List Step := [.call (.num 4 .i32) 52 1 21 1, .call (.num 2 .i16) 68 2 38 2]
theorem ok2u : StepsOk P N 90 lsEndTxnResponse ss2u := ⟨⟨aInt32, ⟨by kernel_rfl, rfl, rfl⟩, by kernel_rfl⟩, ⟨aInt16, ⟨by kernel_rfl, rfl, rfl⟩, by kernel_rfl⟩, trivial⟩
theorem door2u {w : World} {l : List UInt8} {data e0 : Value} (hl : l.length ≤ 1000) (hd : DataIn w data l) (he : ErrAt w N.gErr e0) (he0 : ∃ d y, e0 = .iface d y) : Gives P 17 [.int .i64 2, data] w fun u w' => DoorPost w w' u (toldOf ss2s (fsAt 2) gpEndTxnResponse l) ∧ Keeps [] w w' :=
  door_ver (e := E) (fNew := 31) (fSet := 33) (fRead := 36) (fRf := 50) (fDef := 49) (fTell := 35) (S := 90) (ds := dsEndTxnResponse) (ls := lsEndTxnResponse) (ss := ss2u) (v := 2) (uns := true) (fs0 := fsAt 2) (mid := mid) (mid1 := .int .i16 2 :: mid) (ts := tysEndTxnResponse)
    rdF octF tellF tyZ rfA (fun _ => hOk) hComplete errI newOk defEndTxnResponse toldEndTxnResponse (by kernel_rfl) (by kernel_rfl) (by kernel_rfl) (by kernel_rfl) ok2u rfl rfl rfl rfl rfl (by kernel_rfl) (by kernel_rfl) rfl rfl rfl rfl (by decide) hl hd he he0

def ss3s : List Step := [.call (.num 4 .i32) 52 1 21 1, .call (.num 2 .i16) 68 2 38 2, .call .tags 66 5 63 5]
theorem ok3s : StepsOk P N 90 lsEndTxnResponse ss3s := ⟨⟨aInt32, ⟨by kernel_rfl, rfl, rfl⟩, by kernel_rfl⟩, ⟨aInt16, ⟨by kernel_rfl, rfl, rfl⟩, by kernel_rfl⟩, ⟨aTags, ⟨by kernel_rfl, rfl, rfl⟩, by kernel_rfl⟩, trivial⟩
theorem door3s {w : World} {l : List UInt8} {data e0 : Value} (hl : l.length ≤ 1000) (hd : DataIn w data l) (he : ErrAt w N.gErr e0) (he0 : ∃ d y, e0 = .iface d y) : Gives P 16 [.int .i64 3, data] w fun u w' => DoorPost w w' u (toldOf ss3s (fsAt 3) gpEndTxnResponse l) ∧ Keeps [] w w' :=
  door_ver (e := E) (fNew := 31) (fSet := 33) (fRead := 34) (fRf := 50) (fDef := 49) (fTell := 35) (S := 90) (ds := dsEndTxnResponse) (ls := lsEndTxnResponse) (ss := ss3s) (v := 3) (uns := false) (fs0 := fsAt 3) (mid := mid) (mid1 := .int .i16 3 :: mid) (ts := tysEndTxnResponse)
    rdF octF tellF tyZ rfA (fun _ => hOk) hComplete errI newOk defEndTxnResponse toldEndTxnResponse (by kernel_rfl) (by kernel_rfl) (by kernel_rfl) (by kernel_rfl) ok3s rfl rfl rfl rfl rfl (by kernel_rfl) (by kernel_rfl) rfl rfl rfl rfl (by decide) hl hd he he0

def ss3u : List Step := [.call (.num 4 .i32) 52 1 21 1, .call (.num 2 .i16) 68 2 38 2, .call .tags 66 5 63 5]
theorem ok3u : StepsOk P N 90 lsEndTxnResponse ss3u := ⟨⟨aInt32, ⟨by kernel_rfl, rfl, rfl⟩, by kernel_rfl⟩, ⟨aInt16, ⟨by kernel_rfl, rfl, rfl⟩, by kernel_rfl⟩, ⟨aTags, ⟨by kernel_rfl, rfl, rfl⟩, by kernel_rfl⟩, trivial⟩
theorem door3u {w : World} {l : List UInt8} {data e0 : Value} (hl : l.length ≤ 1000) (hd : DataIn w data l) (he : ErrAt w N.gErr e0) (he0 : ∃ d y, e0 = .iface d y) : Gives P 17 [.int .i64 3, data] w fun u w' => DoorPost w w' u (toldOf ss3s (fsAt 3) gpEndTxnResponse l) ∧ Keeps [] w w' :=
  door_ver (e := E) (fNew := 31) (fSet := 33) (fRead := 36) (fRf := 50) (fDef := 49) (fTell := 35) (S := 90) (ds := dsEndTxnResponse) (ls := lsEndTxnResponse) (ss := ss3u) (v := 3) (uns := true) (fs0 := fsAt 3) (mid := mid) (mid1 := .int .i16 3 :: mid) (ts := tysEndTxnResponse)
    rdF octF tellF tyZ rfA (fun _ => hOk) hComplete errI newOk defEndTxnResponse toldEndTxnResponse (by kernel_rfl) (by kernel_rfl) (by kernel_rfl) (by kernel_rfl) ok3u rfl rfl rfl rfl rfl (by kernel_rfl) (by kernel_rfl) rfl rfl rfl rfl (by decide) hl hd he he0

def ss4s : List Step := [.call (.num 4 .i32) 52 1 21 1, .call (.num 2 .i16) 68 2 38 2, .call .tags 66 5 63 5]
theorem ok4s : StepsOk P N 90 lsEndTxnResponse ss4s := ⟨⟨aInt32, ⟨by kernel_rfl, rfl, rfl⟩, by kernel_rfl⟩, ⟨aInt16, ⟨by kernel_rfl, rfl, rfl⟩, by kernel_rfl⟩, ⟨aTags, ⟨by kernel_rfl, rfl, rfl⟩, by kernel_rfl⟩, trivial⟩
theorem door4s {w : World} {l : List UInt8} {data e0 : Value} (hl : l.length ≤ 1000) (hd : DataIn w data l) (he : ErrAt w N.gErr e0) (he0 : ∃ d y, e0 = .iface d y) : Gives P 16 [.int .i64 4, data] w fun u w' => DoorPost w w' u (toldOf ss4s (fsAt 4) gpEndTxnResponse l) ∧ Keeps [] w w' :=
  door_ver (e := E) (fNew := 31) (fSet := 33) (fRead := 34) (fRf := 50) (fDef := 49) (fTell := 35) (S := 90) (ds := dsEndTxnResponse) (ls := lsEndTxnResponse) (ss := ss4s) (v := 4) (uns := false) (fs0 := fsAt 4) (mid := mid) (mid1 := .int .i16 4 :: mid) (ts := tysEndTxnResponse)
    rdF octF tellF tyZ rfA (fun _ => hOk) hComplete errI newOk defEndTxnResponse toldEndTxnResponse (by kernel_rfl) (by kernel_rfl) (by kernel_rfl) (by kernel_rfl) ok4s rfl rfl rfl rfl rfl (by kernel_rfl) (by kernel_rfl) rfl rfl rfl rfl (by decide) hl hd he he0

def ss4u : List Step := [.call (.num 4 .i32) 52 1 21 1, .call (.num 2 .i16) 68 2 38 2, .call .tags 66 5 63 5]
theorem ok4u : StepsOk P N 90 lsEndTxnResponse ss4u := ⟨⟨aInt32, ⟨by kernel_rfl, rfl, rfl⟩, by kernel_rfl⟩, ⟨aInt16, ⟨by kernel_rfl, rfl, rfl⟩, by kernel_rfl⟩, ⟨aTags, ⟨by kernel_rfl, rfl, rfl⟩, by kernel_rfl⟩, trivial⟩
theorem door4u {w : World} {l : List UInt8} {data e0 : Value} (hl : l.length ≤ 1000) (hd : DataIn w data l) (he : ErrAt w N.gErr e0) (he0 : ∃ d y, e0 = .iface d y) : Gives P 17 [.int .i64 4, data] w fun u w' => DoorPost w w' u (toldOf ss4s (fsAt 4) gpEndTxnResponse l) ∧ Keeps [] w w' :=
  door_ver (e := E) (fNew := 31) (fSet := 33) (fRead := 36) (fRf := 50) (fDef := 49) (fTell := 35) (S := 90) (ds := dsEndTxnResponse) (ls := lsEndTxnResponse) (ss := ss4u) (v := 4) (uns := true) (fs0 := fsAt 4) (mid := mid) (mid1 := .int .i16 4 :: mid) (ts := tysEndTxnResponse)
    rdF octF tellF tyZ rfA (fun _ => hOk) hComplete errI newOk defEndTxnResponse toldEndTxnResponse (by kernel_rfl) (by kernel_rfl) (by kernel_rfl) (by kernel_rfl) ok4u rfl rfl rfl rfl rfl (by kernel_rfl) (by kernel_rfl) rfl rfl rfl rfl (by decide) hl hd he he0

def ss5s : List Step := [.call (.num 4 .i32) 52 1 21 1, .call (.num 2 .i16) 68 2 38 2, .call (.num 8 .i64) 84 3 2 3, .call (.num 2 .i16) 68 4 38 4, .call .tags 66 5 63 5]
theorem ok5s : StepsOk P N 90 lsEndTxnResponse ss5s := ⟨⟨aInt32, ⟨by kernel_rfl, rfl, rfl⟩, by kernel_rfl⟩, ⟨aInt16, ⟨by kernel_rfl, rfl, rfl⟩, by kernel_rfl⟩, ⟨aInt64, ⟨by kernel_rfl, rfl, rfl⟩, by kernel_rfl⟩, ⟨aInt16, ⟨by kernel_rfl, rfl, rfl⟩, by kernel_rfl⟩, ⟨aTags, ⟨by kernel_rfl, rfl, rfl⟩, by kernel_rfl⟩, trivial⟩
theorem door5s {w : World} {l : List UInt8} {data e0 : Value} (hl : l.length ≤ 1000) (hd : DataIn w data l) (he : ErrAt w N.gErr e0) (he0 : ∃ d y, e0 = .iface d y) : Gives P 16 [.int .i64 5, data] w fun u w' => DoorPost w w' u (toldOf ss5s (fsAt 5) gpEndTxnResponse l) ∧ Keeps [] w w' :=
  door_ver (e := E) (fNew := 31) (fSet := 33) (fRead := 34) (fRf := 50) (fDef := 49) (fTell := 35) (S := 90) (ds := dsEndTxnResponse) (ls := lsEndTxnResponse) (ss := ss5s) (v := 5) (uns := false) (fs0 := fsAt 5) (mid := mid) (mid1 := .int .i16 5 :: mid) (ts := tysEndTxnResponse)
    rdF octF tellF tyZ rfA (fun _ => hOk) hComplete errI newOk defEndTxnResponse toldEndTxnResponse (by kernel_rfl) (by kernel_rfl) (by kernel_rfl) (by kernel_rfl) ok5s rfl rfl rfl rfl rfl (by kernel_rfl) (by kernel_rfl) rfl rfl rfl rfl (by decide) hl hd he he0

def ss5u : List Step := [.call (.num 4 .i32) 52 1 21 1, .call (.num 2 .i16) 68 2 38 2, .call (.num 8 .i64) 84 3 2 3, .call (.num 2 .i16) 68 4 38 4, .call .tags 66 5 63 5]
theorem ok5u : StepsOk P N 90 lsEndTxnResponse ss5u := ⟨⟨aInt32, ⟨by kernel_rfl, rfl, rfl⟩, by kernel_rfl⟩, ⟨aInt16, ⟨by kernel_rfl, rfl, rfl⟩, by kernel_rfl⟩, ⟨aInt64, ⟨by kernel_rfl, rfl, rfl⟩, by kernel_rfl⟩, ⟨aInt16, ⟨by kernel_rfl, rfl, rfl⟩, by kernel_rfl⟩, ⟨aTags, ⟨by kernel_rfl, rfl, rfl⟩, by kernel_rfl⟩, trivial⟩
theorem door5u {w : World} {l : List UInt8} {data e0 : Value} (hl : l.length ≤ 1000) (hd : DataIn w data l) (he : ErrAt w N.gErr e0) (he0 : ∃ d y, e0 = .iface d y) : Gives P 17 [.int .i64 5, data] w fun u w' => DoorPost w w' u (toldOf ss5s (fsAt 5) gpEndTxnResponse l) ∧ Keeps [] w w' :=
  door_ver (e := E) (fNew := 31) (fSet := 33) (fRead := 36) (fRf := 50) (fDef := 49) (fTell := 35) (S := 90) (ds := dsEndTxnResponse) (ls := lsEndTxnResponse) (ss := ss5u) (v := 5) (uns := true) (fs0 := fsAt 5) (mid := mid) (mid1 := .int .i16 5 :: mid) (ts := tysEndTxnResponse)
    rdF octF tellF tyZ rfA (fun _ => hOk) hComplete errI newOk defEndTxnResponse toldEndTxnResponse (by kernel_rfl) (by kernel_rfl) (by kernel_rfl) (by kernel_rfl) ok5u rfl rfl rfl rfl rfl (by kernel_rfl) (by kernel_rfl) rfl rfl rfl rfl (by decide) hl hd he he0

def ssAll : List (List Step) := [ss0s, ss1s, ss2s, ss3s, ss4s, ss5s]
def outOf (l : List UInt8) (v : Nat) : Option PT := toldOf (ssAll.getD v []) (fsAt v) gpEndTxnResponse l

theorem out0 (l : List UInt8) : outOf l 0 = toldOf ss0s (fsAt 0) gpEndTxnResponse l := rfl
theorem out1 (l : List UInt8) : outOf l 1 = toldOf ss1s (fsAt 1) gpEndTxnResponse l := rfl
theorem out2 (l : List UInt8) : outOf l 2 = toldOf ss2s (fsAt 2) gpEndTxnResponse l := rfl
theorem out3 (l : List UInt8) : outOf l 3 = toldOf ss3s (fsAt 3) gpEndTxnResponse l := rfl
theorem out4 (l : List UInt8) : outOf l 4 = toldOf ss4s (fsAt 4) gpEndTxnResponse l := rfl
theorem out5 (l : List UInt8) : outOf l 5 = toldOf ss5s (fsAt 5) gpEndTxnResponse l := rfl
theorem allTell (w : World) (v : Nat) (l : List UInt8) (data e0 : Value) (hv : v ≤ 5) (hl : l.length ≤ 1000) (hd : DataIn w data l) (he : ErrAt w N.gErr e0) (he0 : ∃ d y, e0 = .iface d y) : Gives P 16 [.int .i64 v, data] w fun u w' => DoorPost w w' u (outOf l v) ∧ Keeps [] w w' := by
  have h : v = 0 ∨ v = 1 ∨ v = 2 ∨ v = 3 ∨ v = 4 ∨ v = 5 := by omega
  rcases h with rfl | rfl | rfl | rfl | rfl | rfl
  · rw [out0]; exact door0s hl hd he he0
  · rw [out1]; exact door1s hl hd he he0
  · rw [out2]; exact door2s hl hd he he0
  · rw [out3]; exact door3s hl hd he he0
  · rw [out4]; exact door4s hl hd he he0
  · rw [out5]; exact door5s hl hd he he0

theorem allUnsafe (w : World) (v : Nat) (l : List UInt8) (data e0 : Value) (hv : v ≤ 5) (hl : l.length ≤ 1000) (hd : DataIn w data l) (he : ErrAt w N.gErr e0) (he0 : ∃ d y, e0 = .iface d y) : Gives P 17 [.int .i64 v, data] w fun u w' => DoorPost w w' u (outOf l v) ∧ Keeps [] w w' := by
  have h : v = 0 ∨ v = 1 ∨ v = 2 ∨ v = 3 ∨ v = 4 ∨ v = 5 := by omega
  rcases h with rfl | rfl | rfl | rfl | rfl | rfl
  · rw [out0]; exact door0u hl hd he he0
  · rw [out1]; exact door1u hl hd he he0
  · rw [out2]; exact door2u hl hd he he0
  · rw [out3]; exact door3u hl hd he he0
  · rw [out4]; exact door4u hl hd he he0
  · rw [out5]; exact door5u hl hd he he0

theorem maxOk (w : World) : Gives P 15 [] w fun v w' => v = .int .i64 (5 : Nat) ∧ Keeps [] w w' := max_gives (fNew := 31) (fMax := 32) (m := 5) rdF newOk (by kernel_rfl) (by kernel_rfl) rfl
theorem verOk (n : Nat) (hn : n < 256) (w : World) : Gives P 8 [.int .u8 n, .int .i64 (5 : Nat)] w fun v w' => v = .int .i64 (n % (5 + 1) : Nat) ∧ w' = w := version_gives rdF (by kernel_rfl) hn (by decide)

/-- The law: whatever the octets. -/
theorem lawOk (w : World) (n : Nat) (hn : n < 256) (data e0 : Value) (l : List UInt8) (hd : DataIn w data l) (he : ErrAt w N.gErr e0) (he0 : ∃ d y, e0 = .iface d y) : Gives P 5 [.int .u8 n, data] w fun v w' => v = .bool true ∧ Keeps [] w w' :=
  unsafeLaw_gives (m := 5) (out := outOf l) (e0 := e0) (l := l) rdF tellF tyZ (by kernel_rfl) maxOk (verOk n hn) (fun w hl hd he => allTell w _ l data e0 (Nat.le_of_lt_succ (Nat.mod_lt _ (by decide))) hl hd he he0) (fun w hl hd he => allUnsafe w _ l data e0 (Nat.le_of_lt_succ (Nat.mod_lt _ (by decide))) hl hd he he0) hGot hSameTree hd he
end Go.Proofs.YtnmoigejkmikhaaDoor
