/- ReadShareGroupStateSummaryRequest: its doors. -/
import Derived.Test.YtipfcpfmcoklbabGreatDoorMsgReadShareGroupStateSummaryRequest
namespace Go.Proofs.YtipfcpfmcoklbabGreatDoor
open Go Go.Kf

theorem rfA : RfFacts P N 97 := .of (by kernel_rfl) (by kernel_rfl) (by kernel_rfl) (by kernel_rfl) (by kernel_rfl)
theorem errI : ∃ ms, P.underlying N.tErr = some (.interface ms) := iface_of (by kernel_rfl)
def mid : List Value := [.string (strOf []), .slice none 0 0, .map none]
def fsAt (v : Int) : List FV := .one (.int .i16 v) :: [.text [], .list true [], .tags []]
theorem newOk : NewOk P 32 (.int .i16 0 :: mid) := new_gives rdF.mix (by kernel_rfl : zeroTy P 97 = some (.agg ⟨.int .i16 0 :: [.string (strOf []), .slice none 0 0, .map none]⟩, 4)) dokReadShareGroupStateSummaryRequest (by kernel_rfl) (by kernel_rfl)

def ss0s : List Step := [.call .cstr 75 1 9 1, .listS .clen 77 2 95 2 103 18 80 dfReadShareGroupStateSummaryRequestTopic [.uuid 81 0 0, .listS .clen 77 1 101 16 126 3 82 dfReadShareGroupStateSummaryRequestTopicPartition [.call (.num 4 .i32) 59 0 21 0, .call (.num 4 .i32) 59 1 21 1, .call .tags 67 2 77 2], .call .tags 67 2 77 17], .call .tags 67 3 77 3]
theorem ok0s : StepsOk P N 97 lsReadShareGroupStateSummaryRequest ss0s := ⟨⟨aCompactString, ⟨by kernel_rfl, rfl, rfl⟩, by kernel_rfl⟩, ⟨hCompactArrayLen, ⟨by kernel_rfl, rfl, rfl⟩, .of (by kernel_rfl) (by kernel_rfl) (by kernel_rfl) (by decide), dokReadShareGroupStateSummaryRequestTopic, rfl, ⟨⟨aUuid, ⟨by kernel_rfl, rfl, rfl⟩, uuidF⟩, ⟨hCompactArrayLen, ⟨by kernel_rfl, rfl, rfl⟩, .of (by kernel_rfl) (by kernel_rfl) (by kernel_rfl) (by decide), dokReadShareGroupStateSummaryRequestTopicPartition, rfl, ⟨⟨aInt32, ⟨by kernel_rfl, rfl, rfl⟩, by kernel_rfl⟩, ⟨aInt32, ⟨by kernel_rfl, rfl, rfl⟩, by kernel_rfl⟩, ⟨aTags, ⟨by kernel_rfl, rfl, rfl⟩, by kernel_rfl⟩, trivial⟩⟩, ⟨aTags, ⟨by kernel_rfl, rfl, rfl⟩, by kernel_rfl⟩, trivial⟩⟩, ⟨aTags, ⟨by kernel_rfl, rfl, rfl⟩, by kernel_rfl⟩, trivial⟩
theorem door0s {w : World} {l : List UInt8} {data e0 : Value} (hl : l.length ≤ 1073741824) (hd : DataIn w data l) (he : ErrAt w N.gErr e0) (he0 : ∃ d y, e0 = .iface d y) : Gives P 16 [.int .i64 0, data] w fun u w' => DoorPost w w' u (toldOf ss0s (fsAt 0) gpReadShareGroupStateSummaryRequest l) ∧ Keeps [] w w' :=
  door_ver (e := E) (fNew := 32) (fSet := 35) (fRead := 36) (fRf := 56) (fDef := 54) (fTell := 37) (S := 97) (ds := dsReadShareGroupStateSummaryRequest) (ls := lsReadShareGroupStateSummaryRequest) (ss := ss0s) (v := 0) (uns := false) (fs0 := fsAt 0) (mid := mid) (mid1 := .int .i16 0 :: mid) (ts := tysReadShareGroupStateSummaryRequest)
    rdF octF tellF tyZ rfA (fun _ => hOk) hComplete errI newOk defReadShareGroupStateSummaryRequest toldReadShareGroupStateSummaryRequest (by kernel_rfl) (by kernel_rfl) (by kernel_rfl) (by kernel_rfl) ok0s rfl rfl rfl rfl rfl (by kernel_rfl) (by kernel_rfl) rfl rfl rfl rfl (by decide) hl hd he he0

def ss1s : List Step := [.call .cstr 75 1 9 1, .listS .clen 77 2 95 2 103 18 80 dfReadShareGroupStateSummaryRequestTopic [.uuid 81 0 0, .listS .clen 77 1 101 16 126 3 82 dfReadShareGroupStateSummaryRequestTopicPartition [.call (.num 4 .i32) 59 0 21 0, .call (.num 4 .i32) 59 1 21 1, .call .tags 67 2 77 2], .call .tags 67 2 77 17], .call .tags 67 3 77 3]
theorem ok1s : StepsOk P N 97 lsReadShareGroupStateSummaryRequest ss1s := ⟨⟨aCompactString, ⟨by kernel_rfl, rfl, rfl⟩, by kernel_rfl⟩, ⟨hCompactArrayLen, ⟨by kernel_rfl, rfl, rfl⟩, .of (by kernel_rfl) (by kernel_rfl) (by kernel_rfl) (by decide), dokReadShareGroupStateSummaryRequestTopic, rfl, ⟨⟨aUuid, ⟨by kernel_rfl, rfl, rfl⟩, uuidF⟩, ⟨hCompactArrayLen, ⟨by kernel_rfl, rfl, rfl⟩, .of (by kernel_rfl) (by kernel_rfl) (by kernel_rfl) (by decide), dokReadShareGroupStateSummaryRequestTopicPartition, rfl, ⟨⟨aInt32, ⟨by kernel_rfl, rfl, rfl⟩, by kernel_rfl⟩, ⟨aInt32, ⟨by kernel_rfl, rfl, rfl⟩, by kernel_rfl⟩, ⟨aTags, ⟨by kernel_rfl, rfl, rfl⟩, by kernel_rfl⟩, trivial⟩⟩, ⟨aTags, ⟨by kernel_rfl, rfl, rfl⟩, by kernel_rfl⟩, trivial⟩⟩, ⟨aTags, ⟨by kernel_rfl, rfl, rfl⟩, by kernel_rfl⟩, trivial⟩
theorem door1s {w : World} {l : List UInt8} {data e0 : Value} (hl : l.length ≤ 1073741824) (hd : DataIn w data l) (he : ErrAt w N.gErr e0) (he0 : ∃ d y, e0 = .iface d y) : Gives P 16 [.int .i64 1, data] w fun u w' => DoorPost w w' u (toldOf ss1s (fsAt 1) gpReadShareGroupStateSummaryRequest l) ∧ Keeps [] w w' :=
  door_ver (e := E) (fNew := 32) (fSet := 35) (fRead := 36) (fRf := 56) (fDef := 54) (fTell := 37) (S := 97) (ds := dsReadShareGroupStateSummaryRequest) (ls := lsReadShareGroupStateSummaryRequest) (ss := ss1s) (v := 1) (uns := false) (fs0 := fsAt 1) (mid := mid) (mid1 := .int .i16 1 :: mid) (ts := tysReadShareGroupStateSummaryRequest)
    rdF octF tellF tyZ rfA (fun _ => hOk) hComplete errI newOk defReadShareGroupStateSummaryRequest toldReadShareGroupStateSummaryRequest (by kernel_rfl) (by kernel_rfl) (by kernel_rfl) (by kernel_rfl) ok1s rfl rfl rfl rfl rfl (by kernel_rfl) (by kernel_rfl) rfl rfl rfl rfl (by decide) hl hd he he0

def ssAll : List (List Step) := [ss0s, ss1s]
def outOf (l : List UInt8) (v : Nat) : Option PT := toldOf (ssAll.getD v []) (fsAt v) gpReadShareGroupStateSummaryRequest l

theorem out0 (l : List UInt8) : outOf l 0 = toldOf ss0s (fsAt 0) gpReadShareGroupStateSummaryRequest l := rfl
theorem out1 (l : List UInt8) : outOf l 1 = toldOf ss1s (fsAt 1) gpReadShareGroupStateSummaryRequest l := rfl
theorem allTell (w : World) (v : Nat) (l : List UInt8) (data e0 : Value) (hv : v ≤ 1) (hl : l.length ≤ 1073741824) (hd : DataIn w data l) (he : ErrAt w N.gErr e0) (he0 : ∃ d y, e0 = .iface d y) : Gives P 16 [.int .i64 v, data] w fun u w' => DoorPost w w' u (outOf l v) ∧ Keeps [] w w' := by
  have h : v = 0 ∨ v = 1 := by omega
  rcases h with rfl | rfl
  · rw [out0]; exact door0s hl hd he he0
  · rw [out1]; exact door1s hl hd he he0

theorem maxOk (w : World) : Gives P 14 [] w fun v w' => v = .int .i64 (1 : Nat) ∧ Keeps [] w w' := max_gives (fNew := 32) (fMax := 33) (m := 1) rdF newOk (by kernel_rfl) (by kernel_rfl) rfl
theorem verOk (n : Nat) (hn : n < 256) (w : World) : Gives P 8 [.int .u8 n, .int .i64 (1 : Nat)] w fun v w' => v = .int .i64 (n % (1 + 1) : Nat) ∧ w' = w := version_gives rdF (by kernel_rfl) hn (by decide)

end Go.Proofs.YtipfcpfmcoklbabGreatDoor
