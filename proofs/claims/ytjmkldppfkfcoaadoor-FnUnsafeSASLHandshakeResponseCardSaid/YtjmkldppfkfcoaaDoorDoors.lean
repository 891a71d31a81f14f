/- SASLHandshakeResponse: its doors. -/
import Derived.Test.YtjmkldppfkfcoaaDoorMsg
namespace Go.Proofs.YtjmkldppfkfcoaaDoor
open Go Go.Kf

theorem rfA : RfFacts P N 54 := .of (by kernel_rfl) (by kernel_rfl) (by kernel_rfl) (by kernel_rfl) (by kernel_rfl)
theorem errI : ∃ ms, P.underlying N.tErr = some (.interface ms) := iface_of (by kernel_rfl)
def mid : List Value := [.int .i16 0, .slice none 0 0]
def fsAt (v : Int) : List FV := .one (.int .i16 v) :: [.one (.int .i16 0), .list true []]
theorem newOk : NewOk P 10 (.int .i16 0 :: mid) := new_gives rdF.mix (by kernel_rfl : zeroTy P 54 = some (.agg ⟨.int .i16 0 :: [.int .i16 0, .slice none 0 0]⟩, 3)) dokSASLHandshakeResponse (by kernel_rfl) (by kernel_rfl)

def ss0s : List Step := [.call (.num 2 .i16) 19 1 38 1, .listP .len 20 2 52 2 .str 24 9]
theorem ok0s : StepsOk P N 54 lsSASLHandshakeResponse ss0s := ⟨⟨aInt16, ⟨by kernel_rfl, rfl, rfl⟩, by kernel_rfl⟩, ⟨hArrayLen, ⟨by kernel_rfl, rfl, rfl⟩, .of (by kernel_rfl) (by kernel_rfl) (by kernel_rfl) (by decide), aString⟩, trivial⟩
theorem door0s {w : World} {l : List UInt8} {data e0 : Value} (hl : l.length ≤ 1000) (hd : DataIn w data l) (he : ErrAt w N.gErr e0) (he0 : ∃ d y, e0 = .iface d y) : Gives P 5 [.int .i64 0, data] w fun u w' => DoorPost w w' u (toldOf ss0s (fsAt 0) gpSASLHandshakeResponse l) ∧ Keeps [] w w' :=
  door_ver (e := E) (fNew := 10) (fSet := 12) (fRead := 13) (fRf := 18) (fDef := 17) (fTell := 14) (S := 54) (ds := dsSASLHandshakeResponse) (ls := lsSASLHandshakeResponse) (ss := ss0s) (v := 0) (uns := false) (fs0 := fsAt 0) (mid := mid) (mid1 := .int .i16 0 :: mid) (ts := tysSASLHandshakeResponse)
    rdF octF tellF tyZ rfA hOk hComplete errI newOk defSASLHandshakeResponse toldSASLHandshakeResponse (by kernel_rfl) (by kernel_rfl) (by kernel_rfl) (by kernel_rfl) ok0s rfl rfl rfl rfl (by kernel_rfl) (by kernel_rfl) rfl rfl rfl rfl (by decide) hl hd he he0

def ss0u : List Step := [.call (.num 2 .i16) 19 1 38 1, .listP .len 20 2 52 2 .str 23 9]
theorem ok0u : StepsOk P N 54 lsSASLHandshakeResponse ss0u := ⟨⟨aInt16, ⟨by kernel_rfl, rfl, rfl⟩, by kernel_rfl⟩, ⟨hArrayLen, ⟨by kernel_rfl, rfl, rfl⟩, .of (by kernel_rfl) (by kernel_rfl) (by kernel_rfl) (by decide), aUnsafeString⟩, trivial⟩
theorem door0u {w : World} {l : List UInt8} {data e0 : Value} (hl : l.length ≤ 1000) (hd : DataIn w data l) (he : ErrAt w N.gErr e0) (he0 : ∃ d y, e0 = .iface d y) : Gives P 7 [.int .i64 0, data] w fun u w' => DoorPost w w' u (toldOf ss0s (fsAt 0) gpSASLHandshakeResponse l) ∧ Keeps [] w w' :=
  door_ver (e := E) (fNew := 10) (fSet := 12) (fRead := 15) (fRf := 18) (fDef := 17) (fTell := 14) (S := 54) (ds := dsSASLHandshakeResponse) (ls := lsSASLHandshakeResponse) (ss := ss0u) (v := 0) (uns := true) (fs0 := fsAt 0) (mid := mid) (mid1 := .int .i16 0 :: mid) (ts := tysSASLHandshakeResponse)
    rdF octF tellF tyZ rfA hOk hComplete errI newOk defSASLHandshakeResponse toldSASLHandshakeResponse (by kernel_rfl) (by kernel_rfl) (by kernel_rfl) (by kernel_rfl) ok0u rfl rfl rfl rfl (by kernel_rfl) (by kernel_rfl) rfl rfl rfl rfl (by decide) hl hd he he0

def ss1s : List Step := [.call (.num 2 .i16) 19 1 38 1, .listP .len 20 2 52 2 .str 24 9]
theorem ok1s : StepsOk P N 54 lsSASLHandshakeResponse ss1s := ⟨⟨aInt16, ⟨by kernel_rfl, rfl, rfl⟩, by kernel_rfl⟩, ⟨hArrayLen, ⟨by kernel_rfl, rfl, rfl⟩, .of (by kernel_rfl) (by kernel_rfl) (by kernel_rfl) (by decide), aString⟩, trivial⟩
theorem door1s {w : World} {l : List UInt8} {data e0 : Value} (hl : l.length ≤ 1000) (hd : DataIn w data l) (he : ErrAt w N.gErr e0) (he0 : ∃ d y, e0 = .iface d y) : Gives P 5 [.int .i64 1, data] w fun u w' => DoorPost w w' u (toldOf ss1s (fsAt 1) gpSASLHandshakeResponse l) ∧ Keeps [] w w' :=
  door_ver (e := E) (fNew := 10) (fSet := 12) (fRead := 13) (fRf := 18) (fDef := 17) (fTell := 14) (S := 54) (ds := dsSASLHandshakeResponse) (ls := lsSASLHandshakeResponse) (ss := ss1s) (v := 1) (uns := false) (fs0 := fsAt 1) (mid := mid) (mid1 := .int .i16 1 :: mid) (ts := tysSASLHandshakeResponse)
    rdF octF tellF tyZ rfA hOk hComplete errI newOk defSASLHandshakeResponse toldSASLHandshakeResponse (by kernel_rfl) (by kernel_rfl) (by kernel_rfl) (by kernel_rfl) ok1s rfl rfl rfl rfl (by kernel_rfl) (by kernel_rfl) rfl rfl rfl rfl (by decide) hl hd he he0

def ss1u : List Step := [.call (.num 2 .i16) 19 1 38 1, .listP .len 20 2 52 2 .str 23 9]
theorem ok1u : StepsOk P N 54 lsSASLHandshakeResponse ss1u := ⟨⟨aInt16, ⟨by kernel_rfl, rfl, rfl⟩, by kernel_rfl⟩, ⟨hArrayLen, ⟨by kernel_rfl, rfl, rfl⟩, .of (by kernel_rfl) (by kernel_rfl) (by kernel_rfl) (by decide), aUnsafeString⟩, trivial⟩
theorem door1u {w : World} {l : List UInt8} {data e0 : Value} (hl : l.length ≤ 1000) (hd : DataIn w data l) (he : ErrAt w N.gErr e0) (he0 : ∃ d y, e0 = .iface d y) : Gives P 7 [.int .i64 1, data] w fun u w' => DoorPost w w' u (toldOf ss1s (fsAt 1) gpSASLHandshakeResponse l) ∧ Keeps [] w w' :=
  door_ver (e := E) (fNew := 10) (fSet := 12) (fRead := 15) (fRf := 18) (fDef := 17) (fTell := 14) (S := 54) (ds := dsSASLHandshakeResponse) (ls := lsSASLHandshakeResponse) (ss := ss1u) (v := 1) (uns := true) (fs0 := fsAt 1) (mid := mid) (mid1 := .int .i16 1 :: mid) (ts := tysSASLHandshakeResponse)
    rdF octF tellF tyZ rfA hOk hComplete errI newOk defSASLHandshakeResponse toldSASLHandshakeResponse (by kernel_rfl) (by kernel_rfl) (by kernel_rfl) (by kernel_rfl) ok1u rfl rfl rfl rfl (by kernel_rfl) (by kernel_rfl) rfl rfl rfl rfl (by decide) hl hd he he0

def outOf (l : List UInt8) : Nat → Option PT
  | 0 => toldOf ss0s (fsAt 0) gpSASLHandshakeResponse l
  | _ => toldOf ss1s (fsAt 1) gpSASLHandshakeResponse l

theorem allTell (w : World) (v : Nat) (l : List UInt8) (data e0 : Value) (hv : v ≤ 1) (hl : l.length ≤ 1000) (hd : DataIn w data l) (he : ErrAt w N.gErr e0) (he0 : ∃ d y, e0 = .iface d y) : Gives P 5 [.int .i64 v, data] w fun u w' => DoorPost w w' u (outOf l v) ∧ Keeps [] w w' := by
  match v, hv with
  | 0, _ => exact door0s hl hd he he0
  | 1, _ => exact door1s hl hd he he0
  | n + 2, h => exact absurd h (by omega)

theorem allUnsafe (w : World) (v : Nat) (l : List UInt8) (data e0 : Value) (hv : v ≤ 1) (hl : l.length ≤ 1000) (hd : DataIn w data l) (he : ErrAt w N.gErr e0) (he0 : ∃ d y, e0 = .iface d y) : Gives P 7 [.int .i64 v, data] w fun u w' => DoorPost w w' u (outOf l v) ∧ Keeps [] w w' := by
  match v, hv with
  | 0, _ => exact door0u hl hd he he0
  | 1, _ => exact door1u hl hd he he0
  | n + 2, h => exact absurd h (by omega)

theorem maxOk (w : World) : Gives P 4 [] w fun v w' => v = .int .i64 (1 : Nat) ∧ Keeps [] w w' := max_gives (fNew := 10) (fMax := 11) (m := 1) rdF newOk (by kernel_rfl) (by kernel_rfl) rfl
theorem verOk (n : Nat) (hn : n < 256) (w : World) : Gives P 6 [.int .u8 n, .int .i64 (1 : Nat)] w fun v w' => v = .int .i64 (n % (1 + 1) : Nat) ∧ w' = w := version_gives rdF (by kernel_rfl) hn (by decide)

/-- The law: whatever the octets. -/
theorem lawOk (w : World) (n : Nat) (hn : n < 256) (data e0 : Value) (l : List UInt8) (hd : DataIn w data l) (he : ErrAt w N.gErr e0) (he0 : ∃ d y, e0 = .iface d y) : Gives P 3 [.int .u8 n, data] w fun v w' => v = .bool true ∧ Keeps [] w w' :=
  unsafeLaw_gives (m := 1) (out := outOf l) (e0 := e0) (l := l) rdF tellF tyZ (by kernel_rfl) maxOk (verOk n hn) (fun w hl hd he => allTell w _ l data e0 (Nat.le_of_lt_succ (Nat.mod_lt _ (by decide))) hl hd he he0) (fun w hl hd he => allUnsafe w _ l data e0 (Nat.le_of_lt_succ (Nat.mod_lt _ (by decide))) hl hd he he0) hGot hSameTree hd he
end Go.Proofs.YtjmkldppfkfcoaaDoor
