/- DescribeQuorumRequest: its doors. -/
import Derived.Test.YtdldgadhbiohcaaDoorMsgDescribeQuorumRequest
namespace Go.Proofs.YtdldgadhbiohcaaDoor
open Go Go.Kf

theorem rfA : RfFacts P N 67 := .of (by kernel_rfl) (by kernel_rfl) (by kernel_rfl) (by kernel_rfl) (by kernel_rfl)
theorem errI : ∃ ms, P.underlying N.tErr = some (.interface ms) := iface_of (by kernel_rfl)
def mid : List Value := [.slice none 0 0, .map none]
def fsAt (v : Int) : List FV := .one (.int .i16 v) :: [.list true [], .tags []]
theorem newOk : NewOk P 21 (.int .i16 0 :: mid) := new_gives rdF.mix (by kernel_rfl : zeroTy P 67 = some (.agg ⟨.int .i16 0 :: [.slice none 0 0, .map none]⟩, 3)) dokDescribeQuorumRequest (by kernel_rfl) (by kernel_rfl)

def ss0s : List Step := [.listS .clen 36 1 65 1 72 3 47 dfDescribeQuorumRequestTopic [.call .cstr 42 0 9 0, .listS .clen 36 1 70 1 87 2 48 dfDescribeQuorumRequestTopicPartition [.call (.num 4 .i32) 49 0 21 0, .call .tags 44 1 58 1], .call .tags 44 2 58 2], .call .tags 44 2 58 2]
theorem ok0s : StepsOk P N 67 lsDescribeQuorumRequest ss0s := ⟨⟨hCompactArrayLen, ⟨by kernel_rfl, rfl, rfl⟩, .of (by kernel_rfl) (by kernel_rfl) (by kernel_rfl) (by decide), dokDescribeQuorumRequestTopic, rfl, ⟨⟨aCompactString, ⟨by kernel_rfl, rfl, rfl⟩, by kernel_rfl⟩, ⟨hCompactArrayLen, ⟨by kernel_rfl, rfl, rfl⟩, .of (by kernel_rfl) (by kernel_rfl) (by kernel_rfl) (by decide), dokDescribeQuorumRequestTopicPartition, rfl, ⟨⟨aInt32, ⟨by kernel_rfl, rfl, rfl⟩, by kernel_rfl⟩, ⟨aTags, ⟨by kernel_rfl, rfl, rfl⟩, by kernel_rfl⟩, trivial⟩⟩, ⟨aTags, ⟨by kernel_rfl, rfl, rfl⟩, by kernel_rfl⟩, trivial⟩⟩, ⟨aTags, ⟨by kernel_rfl, rfl, rfl⟩, by kernel_rfl⟩, trivial⟩
theorem door0s {w : World} {l : List UInt8} {data e0 : Value} (hl : l.length ≤ 1000) (hd : DataIn w data l) (he : ErrAt w N.gErr e0) (he0 : ∃ d y, e0 = .iface d y) : Gives P 12 [.int .i64 0, data] w fun u w' => DoorPost w w' u (toldOf ss0s (fsAt 0) gpDescribeQuorumRequest l) ∧ Keeps [] w w' :=
  door_ver (e := E) (fNew := 21) (fSet := 23) (fRead := 24) (fRf := 33) (fDef := 32) (fTell := 25) (S := 67) (ds := dsDescribeQuorumRequest) (ls := lsDescribeQuorumRequest) (ss := ss0s) (v := 0) (uns := false) (fs0 := fsAt 0) (mid := mid) (mid1 := .int .i16 0 :: mid) (ts := tysDescribeQuorumRequest)
    rdF octF tellF tyZ rfA (fun _ => hOk) hComplete errI newOk defDescribeQuorumRequest toldDescribeQuorumRequest (by kernel_rfl) (by kernel_rfl) (by kernel_rfl) (by kernel_rfl) ok0s rfl rfl rfl rfl (by kernel_rfl) (by kernel_rfl) rfl rfl rfl rfl (by decide) hl hd he he0

def ss0u : List Step := [.listS .clen 36 1 65 1 72 3 47 dfDescribeQuorumRequestTopic [.call .cstr 40 0 9 0, .listS .clen 36 1 70 1 87 2 48 dfDescribeQuorumRequestTopicPartition [.call (.num 4 .i32) 49 0 21 0, .call .tags 44 1 58 1], .call .tags 44 2 58 2], .call .tags 44 2 58 2]
theorem ok0u : StepsOk P N 67 lsDescribeQuorumRequest ss0u := ⟨⟨hCompactArrayLen, ⟨by kernel_rfl, rfl, rfl⟩, .of (by kernel_rfl) (by kernel_rfl) (by kernel_rfl) (by decide), dokDescribeQuorumRequestTopic, rfl, ⟨⟨aUnsafeCompactString, ⟨by kernel_rfl, rfl, rfl⟩, by kernel_rfl⟩, ⟨hCompactArrayLen, ⟨by kernel_rfl, rfl, rfl⟩, .of (by kernel_rfl) (by kernel_rfl) (by kernel_rfl) (by decide), dokDescribeQuorumRequestTopicPartition, rfl, ⟨⟨aInt32, ⟨by kernel_rfl, rfl, rfl⟩, by kernel_rfl⟩, ⟨aTags, ⟨by kernel_rfl, rfl, rfl⟩, by kernel_rfl⟩, trivial⟩⟩, ⟨aTags, ⟨by kernel_rfl, rfl, rfl⟩, by kernel_rfl⟩, trivial⟩⟩, ⟨aTags, ⟨by kernel_rfl, rfl, rfl⟩, by kernel_rfl⟩, trivial⟩
theorem door0u {w : World} {l : List UInt8} {data e0 : Value} (hl : l.length ≤ 1000) (hd : DataIn w data l) (he : ErrAt w N.gErr e0) (he0 : ∃ d y, e0 = .iface d y) : Gives P 13 [.int .i64 0, data] w fun u w' => DoorPost w w' u (toldOf ss0s (fsAt 0) gpDescribeQuorumRequest l) ∧ Keeps [] w w' :=
  door_ver (e := E) (fNew := 21) (fSet := 23) (fRead := 26) (fRf := 33) (fDef := 32) (fTell := 25) (S := 67) (ds := dsDescribeQuorumRequest) (ls := lsDescribeQuorumRequest) (ss := ss0u) (v := 0) (uns := true) (fs0 := fsAt 0) (mid := mid) (mid1 := .int .i16 0 :: mid) (ts := tysDescribeQuorumRequest)
    rdF octF tellF tyZ rfA (fun _ => hOk) hComplete errI newOk defDescribeQuorumRequest toldDescribeQuorumRequest (by kernel_rfl) (by kernel_rfl) (by kernel_rfl) (by kernel_rfl) ok0u rfl rfl rfl rfl (by kernel_rfl) (by kernel_rfl) rfl rfl rfl rfl (by decide) hl hd he he0

def ss1s : List Step := [.listS .clen 36 1 65 1 72 3 47 dfDescribeQuorumRequestTopic [.call .cstr 42 0 9 0, .listS .clen 36 1 70 1 87 2 48 dfDescribeQuorumRequestTopicPartition [.call (.num 4 .i32) 49 0 21 0, .call .tags 44 1 58 1], .call .tags 44 2 58 2], .call .tags 44 2 58 2]
theorem ok1s : StepsOk P N 67 lsDescribeQuorumRequest ss1s := ⟨⟨hCompactArrayLen, ⟨by kernel_rfl, rfl, rfl⟩, .of (by kernel_rfl) (by kernel_rfl) (by kernel_rfl) (by decide), dokDescribeQuorumRequestTopic, rfl, ⟨⟨aCompactString, ⟨by kernel_rfl, rfl, rfl⟩, by kernel_rfl⟩, ⟨hCompactArrayLen, ⟨by kernel_rfl, rfl, rfl⟩, .of (by kernel_rfl) (by kernel_rfl) (by kernel_rfl) (by decide), dokDescribeQuorumRequestTopicPartition, rfl, ⟨⟨aInt32, ⟨by kernel_rfl, rfl, rfl⟩, by kernel_rfl⟩, ⟨aTags, ⟨by kernel_rfl, rfl, rfl⟩, by kernel_rfl⟩, trivial⟩⟩, ⟨aTags, ⟨by kernel_rfl, rfl, rfl⟩, by kernel_rfl⟩, trivial⟩⟩, ⟨aTags, ⟨by kernel_rfl, rfl, rfl⟩, by kernel_rfl⟩, trivial⟩
theorem door1s {w : World} {l : List UInt8} {data e0 : Value} (hl : l.length ≤ 1000) (hd : DataIn w data l) (he : ErrAt w N.gErr e0) (he0 : ∃ d y, e0 = .iface d y) : Gives P 12 [.int .i64 1, data] w fun u w' => DoorPost w w' u (toldOf ss1s (fsAt 1) gpDescribeQuorumRequest l) ∧ Keeps [] w w' :=
  door_ver (e := E) (fNew := 21) (fSet := 23) (fRead := 24) (fRf := 33) (fDef := 32) (fTell := 25) (S := 67) (ds := dsDescribeQuorumRequest) (ls := lsDescribeQuorumRequest) (ss := ss1s) (v := 1) (uns := false) (fs0 := fsAt 1) (mid := mid) (mid1 := .int .i16 1 :: mid) (ts := tysDescribeQuorumRequest)
    rdF octF tellF tyZ rfA (fun _ => hOk) hComplete errI newOk defDescribeQuorumRequest toldDescribeQuorumRequest (by kernel_rfl) (by kernel_rfl) (by kernel_rfl) (by kernel_rfl) ok1s rfl rfl rfl rfl (by kernel_rfl) (by kernel_rfl) rfl rfl rfl rfl (by decide) hl hd he he0

def ss1u : List Step := [.listS .clen 36 1 65 1 72 3 47 dfDescribeQuorumRequestTopic [.call .cstr 40 0 9 0, .listS .clen 36 1 70 1 87 2 48 dfDescribeQuorumRequestTopicPartition [.call (.num 4 .i32) 49 0 21 0, .call .tags 44 1 58 1], .call .tags 44 2 58 2], .call .tags 44 2 58 2]
theorem ok1u : StepsOk P N 67 lsDescribeQuorumRequest ss1u := ⟨⟨hCompactArrayLen, ⟨by kernel_rfl, rfl, rfl⟩, .of (by kernel_rfl) (by kernel_rfl) (by kernel_rfl) (by decide), dokDescribeQuorumRequestTopic, rfl, ⟨⟨aUnsafeCompactString, ⟨by kernel_rfl, rfl, rfl⟩, by kernel_rfl⟩, ⟨hCompactArrayLen, ⟨by kernel_rfl, rfl, rfl⟩, .of (by kernel_rfl) (by kernel_rfl) (by kernel_rfl) (by decide), dokDescribeQuorumRequestTopicPartition, rfl, ⟨⟨aInt32, ⟨by kernel_rfl, rfl, rfl⟩, by kernel_rfl⟩, ⟨aTags, ⟨by kernel_rfl, rfl, rfl⟩, by kernel_rfl⟩, trivial⟩⟩, ⟨aTags, ⟨by kernel_rfl, rfl, rfl⟩, by kernel_rfl⟩, trivial⟩⟩, ⟨aTags, ⟨by kernel_rfl, rfl, rfl⟩, by kernel_rfl⟩, trivial⟩
theorem door1u {w : World} {l : List UInt8} {data e0 : Value} (hl : l.length ≤ 1000) (hd : DataIn w data l) (he : ErrAt w N.gErr e0) (he0 : ∃ d y, e0 = .iface d y) : Gives P 13 [.int .i64 1, data] w fun u w' => DoorPost w w' u (toldOf ss1s (fsAt 1) gpDescribeQuorumRequest l) ∧ Keeps [] w w' :=
  door_ver (e := E) (fNew := 21) (fSet := 23) (fRead := 26) (fRf := 33) (fDef := 32) (fTell := 25) (S := 67) (ds := dsDescribeQuorumRequest) (ls := lsDescribeQuorumRequest) (ss := ss1u) (v := 1) (uns := true) (fs0 := fsAt 1) (mid := mid) (mid1 := .int .i16 1 :: mid) (ts := tysDescribeQuorumRequest)
    rdF octF tellF tyZ rfA (fun _ => hOk) hComplete errI newOk defDescribeQuorumRequest toldDescribeQuorumRequest (by kernel_rfl) (by kernel_rfl) (by kernel_rfl) (by kernel_rfl) ok1u rfl rfl rfl rfl (by kernel_rfl) (by kernel_rfl) rfl rfl rfl rfl (by decide) hl hd he he0

def ss2s : List Step := [.listS .clen 36 1 65 1 72 3 47 dfDescribeQuorumRequestTopic [.call .cstr 42 0 9 0, .listS .clen 36 1 70 1 87 2 48 dfDescribeQuorumRequestTopicPartition [.call (.num 4 .i32) 49 0 21 0, .call .tags 44 1 58 1], .call .tags 44 2 58 2], .call .tags 44 2 58 2]
theorem ok2s : StepsOk P N 67 lsDescribeQuorumRequest ss2s := ⟨⟨hCompactArrayLen, ⟨by kernel_rfl, rfl, rfl⟩, .of (by kernel_rfl) (by kernel_rfl) (by kernel_rfl) (by decide), dokDescribeQuorumRequestTopic, rfl, ⟨⟨aCompactString, ⟨by kernel_rfl, rfl, rfl⟩, by kernel_rfl⟩, ⟨hCompactArrayLen, ⟨by kernel_rfl, rfl, rfl⟩, .of (by kernel_rfl) (by kernel_rfl) (by kernel_rfl) (by decide), dokDescribeQuorumRequestTopicPartition, rfl, ⟨⟨aInt32, ⟨by kernel_rfl, rfl, rfl⟩, by kernel_rfl⟩, ⟨aTags, ⟨by kernel_rfl, rfl, rfl⟩, by kernel_rfl⟩, trivial⟩⟩, ⟨aTags, ⟨by kernel_rfl, rfl, rfl⟩, by kernel_rfl⟩, trivial⟩⟩, ⟨aTags, ⟨by kernel_rfl, rfl, rfl⟩, by kernel_rfl⟩, trivial⟩
theorem door2s {w : World} {l : List UInt8} {data e0 : Value} (hl : l.length ≤ 1000) (hd : DataIn w data l) (he : ErrAt w N.gErr e0) (he0 : ∃ d y, e0 = .iface d y) : Gives P 12 [.int .i64 2, data] w fun u w' => DoorPost w w' u (toldOf ss2s (fsAt 2) gpDescribeQuorumRequest l) ∧ Keeps [] w w' :=
  door_ver (e := E) (fNew := 21) (fSet := 23) (fRead := 24) (fRf := 33) (fDef := 32) (fTell := 25) (S := 67) (ds := dsDescribeQuorumRequest) (ls := lsDescribeQuorumRequest) (ss := ss2s) (v := 2) (uns := false) (fs0 := fsAt 2) (mid := mid) (mid1 := .int .i16 2 :: mid) (ts := tysDescribeQuorumRequest)
    rdF octF tellF tyZ rfA (fun _ => hOk) hComplete errI newOk defDescribeQuorumRequest toldDescribeQuorumRequest (by kernel_rfl) (by kernel_rfl) (by kernel_rfl) (by kernel_rfl) ok2s rfl rfl rfl rfl (by kernel_rfl) (by kernel_rfl) rfl rfl rfl rfl (by decide) hl hd he he0

def ss2u : List Step := [.listS .clen 36 1 65 1 72 3 47 dfDescribeQuorumRequestTopic [.call .cstr 40 0 9 0, .listS .clen 36 1 70 1 87 2 48 dfDescribeQuorumRequestTopicPartition [.call (.num 4 .i32) 49 0 21 0, .call .tags 44 1 58 1], .call .tags 44 2 58 2], .call .tags 44 2 58 2]
theorem ok2u : StepsOk P N 67 lsDescribeQuorumRequest ss2u := ⟨⟨hCompactArrayLen, ⟨by kernel_rfl, rfl, rfl⟩, .of (by kernel_rfl) (by kernel_rfl) (by kernel_rfl) (by decide), dokDescribeQuorumRequestTopic, rfl, ⟨⟨aUnsafeCompactString, ⟨by kernel_rfl, rfl, rfl⟩, by kernel_rfl⟩, ⟨hCompactArrayLen, ⟨by kernel_rfl, rfl, rfl⟩, .of (by kernel_rfl) (by kernel_rfl) (by kernel_rfl) (by decide), dokDescribeQuorumRequestTopicPartition, rfl, ⟨⟨aInt32, ⟨by kernel_rfl, rfl, rfl⟩, by kernel_rfl⟩, ⟨aTags, ⟨by kernel_rfl, rfl, rfl⟩, by kernel_rfl⟩, trivial⟩⟩, ⟨aTags, ⟨by kernel_rfl, rfl, rfl⟩, by kernel_rfl⟩, trivial⟩⟩, ⟨aTags, ⟨by kernel_rfl, rfl, rfl⟩, by kernel_rfl⟩, trivial⟩
theorem door2u {w : World} {l : List UInt8} {data e0 : Value} (hl : l.length ≤ 1000) (hd : DataIn w data l) (he : ErrAt w N.gErr e0) (he0 : ∃ d y, e0 = .iface d y) : Gives P 13 [.int .i64 2, data] w fun u w' => DoorPost w w' u (toldOf ss2s (fsAt 2) gpDescribeQuorumRequest l) ∧ Keeps [] w w' :=
  door_ver (e := E) (fNew := 21) (fSet := 23) (fRead := 26) (fRf := 33) (fDef := 32) (fTell := 25) (S := 67) (ds := dsDescribeQuorumRequest) (ls := lsDescribeQuorumRequest) (ss := ss2u) (v := 2) (uns := true) (fs0 := fsAt 2) (mid := mid) (mid1 := .int .i16 2 :: mid) (ts := tysDescribeQuorumRequest)
    rdF octF tellF tyZ rfA (fun _ => hOk) hComplete errI newOk defDescribeQuorumRequest toldDescribeQuorumRequest (by kernel_rfl) (by kernel_rfl) (by kernel_rfl) (by kernel_rfl) ok2u rfl rfl rfl rfl (by kernel_rfl) (by kernel_rfl) rfl rfl rfl rfl (by decide) hl hd he he0

def ssAll : List (List Step) := [ss0s, ss1s, ss2s]
def outOf (l : List UInt8) (v : Nat) : Option PT := toldOf (ssAll.getD v []) (fsAt v) gpDescribeQuorumRequest l

theorem out0 (l : List UInt8) : outOf l 0 = toldOf ss0s (fsAt 0) gpDescribeQuorumRequest l := rfl
theorem out1 (l : List UInt8) : outOf l 1 = toldOf ss1s (fsAt 1) gpDescribeQuorumRequest l := rfl
theorem out2 (l : List UInt8) : outOf l 2 = toldOf ss2s (fsAt 2) gpDescribeQuorumRequest l := rfl
theorem allTell (w : World) (v : Nat) (l : List UInt8) (data e0 : Value) (hv : v ≤ 2) (hl : l.length ≤ 1000) (hd : DataIn w data l) (he : ErrAt w N.gErr e0) (he0 : ∃ d y, e0 = .iface d y) : Gives P 12 [.int .i64 v, data] w fun u w' => DoorPost w w' u (outOf l v) ∧ Keeps [] w w' := by
  have h : v = 0 ∨ v = 1 ∨ v = 2 := by omega
  rcases h with rfl | rfl | rfl
  · rw [out0]; exact door0s hl hd he he0
  · rw [out1]; exact door1s hl hd he he0
  · rw [out2]; exact door2s hl hd he he0

theorem allUnsafe (w : World) (v : Nat) (l : List UInt8) (data e0 : Value) (hv : v ≤ 2) (hl : l.length ≤ 1000) (hd : DataIn w data l) (he : ErrAt w N.gErr e0) (he0 : ∃ d y, e0 = .iface d y) : Gives P 13 [.int .i64 v, data] w fun u w' => DoorPost w w' u (outOf l v) ∧ Keeps [] w w' := by
  have h : v = 0 ∨ v = 1 ∨ v = 2 := by omega
  rcases h with rfl | rfl | rfl
  · rw [out0]; exact door0u hl hd he he0
  · rw [out1]; exact door1u hl hd he he0
  · rw [out2]; exact door2u hl hd he he0

theorem maxOk (w : World) : Gives P 11 [] w fun v w' => v = .int .i64 (2 : Nat) ∧ Keeps [] w w' := max_gives (fNew := 21) (fMax := 22) (m := 2) rdF newOk (by kernel_rfl) (by kernel_rfl) rfl
theorem verOk (n : Nat) (hn : n < 256) (w : World) : Gives P 7 [.int .u8 n, .int .i64 (2 : Nat)] w fun v w' => v = .int .i64 (n % (2 + 1) : Nat) ∧ w' = w := version_gives rdF (by kernel_rfl) hn (by decide)

/-- The law: whatever the octets. -/
theorem lawOk (w : World) (n : Nat) (hn : n < 256) (data e0 : Value) (l : List UInt8) (hd : DataIn w data l) (he : ErrAt w N.gErr e0) (he0 : ∃ d y, e0 = .iface d y) : Gives P 4 [.int .u8 n, data] w fun v w' => v = .bool true ∧ Keeps [] w w' :=
  unsafeLaw_gives (m := 2) (out := outOf l) (e0 := e0) (l := l) rdF tellF tyZ (by kernel_rfl) maxOk (verOk n hn) (fun w hl hd he => allTell w _ l data e0 (Nat.le_of_lt_succ (Nat.mod_lt _ (by decide))) hl hd he he0) (fun w hl hd he => allUnsafe w _ l data e0 (Nat.le_of_lt_succ (Nat.mod_lt _ (by decide))) hl hd he he0) hGot hSameTree hd he
end Go.Proofs.YtdldgadhbiohcaaDoor
