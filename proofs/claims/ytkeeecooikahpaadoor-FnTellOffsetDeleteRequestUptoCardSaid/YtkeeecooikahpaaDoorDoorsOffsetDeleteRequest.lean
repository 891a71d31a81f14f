/- OffsetDeleteRequest: its doors. -/
import Derived.Test.YtkeeecooikahpaaDoorMsgOffsetDeleteRequest
namespace Go.Proofs.YtkeeecooikahpaaDoor
open Go Go.Kf

theorem rfA : RfFacts P N 73 := .of (by kernel_rfl) (by kernel_rfl) (by kernel_rfl) (by kernel_rfl) (by kernel_rfl)
theorem errI : ∃ ms, P.underlying N.tErr = some (.interface ms) := iface_of (by kernel_rfl)
def mid : List Value := [.string (strOf []), .slice none 0 0]
def fsAt (v : Int) : List FV := .one (.int .i16 v) :: [.text [], .list true []]
theorem newOk : NewOk P 14 (.int .i16 0 :: mid) := new_gives rdF.mix (by kernel_rfl : zeroTy P 73 = some (.agg ⟨.int .i16 0 :: [.string (strOf []), .slice none 0 0]⟩, 3)) dokOffsetDeleteRequest (by kernel_rfl) (by kernel_rfl)

def ss0s : List Step := [.call .str 43 1 9 1, .listS .len 44 2 71 2 79 2 47 dfOffsetDeleteRequestTopic [.call .str 43 0 9 0, .listS .len 44 1 77 1 97 1 48 dfOffsetDeleteRequestTopicPartition [.call (.num 4 .i32) 49 0 21 0]]]
theorem ok0s : StepsOk P N 73 lsOffsetDeleteRequest ss0s := ⟨⟨aString, ⟨by kernel_rfl, rfl, rfl⟩, by kernel_rfl⟩, ⟨hArrayLen, ⟨by kernel_rfl, rfl, rfl⟩, .of (by kernel_rfl) (by kernel_rfl) (by kernel_rfl) (by decide), dokOffsetDeleteRequestTopic, rfl, ⟨⟨aString, ⟨by kernel_rfl, rfl, rfl⟩, by kernel_rfl⟩, ⟨hArrayLen, ⟨by kernel_rfl, rfl, rfl⟩, .of (by kernel_rfl) (by kernel_rfl) (by kernel_rfl) (by decide), dokOffsetDeleteRequestTopicPartition, rfl, ⟨⟨aInt32, ⟨by kernel_rfl, rfl, rfl⟩, by kernel_rfl⟩, trivial⟩⟩, trivial⟩⟩, trivial⟩
theorem door0s {w : World} {l : List UInt8} {data e0 : Value} (hl : l.length ≤ 1073741824) (hd : DataIn w data l) (he : ErrAt w N.gErr e0) (he0 : ∃ d y, e0 = .iface d y) : Gives P 8 [.int .i64 0, data] w fun u w' => DoorPost w w' u (toldOf ss0s (fsAt 0) gpOffsetDeleteRequest l) ∧ Keeps [] w w' :=
  door_ver (e := E) (fNew := 14) (fSet := 17) (fRead := 18) (fRf := 32) (fDef := 30) (fTell := 19) (S := 73) (ds := dsOffsetDeleteRequest) (ls := lsOffsetDeleteRequest) (ss := ss0s) (v := 0) (uns := false) (fs0 := fsAt 0) (mid := mid) (mid1 := .int .i16 0 :: mid) (ts := tysOffsetDeleteRequest)
    rdF octF tellF tyZ rfA (fun _ => hOk) hComplete errI newOk defOffsetDeleteRequest toldOffsetDeleteRequest (by kernel_rfl) (by kernel_rfl) (by kernel_rfl) (by kernel_rfl) ok0s rfl rfl rfl rfl rfl (by kernel_rfl) (by kernel_rfl) rfl rfl rfl rfl (by decide) hl hd he he0

def ssAll : List (List Step) := [ss0s]
def outOf (l : List UInt8) (v : Nat) : Option PT := toldOf (ssAll.getD v []) (fsAt v) gpOffsetDeleteRequest l

theorem out0 (l : List UInt8) : outOf l 0 = toldOf ss0s (fsAt 0) gpOffsetDeleteRequest l := rfl
theorem allTell (w : World) (v : Nat) (l : List UInt8) (data e0 : Value) (hv : v ≤ 0) (hl : l.length ≤ 1073741824) (hd : DataIn w data l) (he : ErrAt w N.gErr e0) (he0 : ∃ d y, e0 = .iface d y) : Gives P 8 [.int .i64 v, data] w fun u w' => DoorPost w w' u (outOf l v) ∧ Keeps [] w w' := by
  have h : v = 0 := by omega
  rcases h with rfl
  · rw [out0]; exact door0s hl hd he he0

theorem maxOk (w : World) : Gives P 5 [] w fun v w' => v = .int .i64 (0 : Nat) ∧ Keeps [] w w' := max_gives (fNew := 14) (fMax := 15) (m := 0) rdF newOk (by kernel_rfl) (by kernel_rfl) rfl
theorem verOk (n : Nat) (hn : n < 256) (w : World) : Gives P 7 [.int .u8 n, .int .i64 (0 : Nat)] w fun v w' => v = .int .i64 (n % (0 + 1) : Nat) ∧ w' = w := version_gives rdF (by kernel_rfl) hn (by decide)

end Go.Proofs.YtkeeecooikahpaaDoor
