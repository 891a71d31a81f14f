/- UnregisterBrokerRequest: its doors. -/
import Derived.Test.YtkeeecooikahpabDoorMsgUnregisterBrokerRequest
namespace Go.Proofs.YtkeeecooikahpabDoor
open Go Go.Kf

theorem rfA : RfFacts P N 74 := .of (by kernel_rfl) (by kernel_rfl) (by kernel_rfl) (by kernel_rfl) (by kernel_rfl)
theorem errI : ∃ ms, P.underlying N.tErr = some (.interface ms) := iface_of (by kernel_rfl)
def mid : List Value := [.int .i32 0, .map none]
def fsAt (v : Int) : List FV := .one (.int .i16 v) :: [.one (.int .i32 0), .tags []]
theorem newOk : NewOk P 14 (.int .i16 0 :: mid) := new_gives rdF.mix (by kernel_rfl : zeroTy P 74 = some (.agg ⟨.int .i16 0 :: [.int .i32 0, .map none]⟩, 3)) dokUnregisterBrokerRequest (by kernel_rfl) (by kernel_rfl)

def ss0s : List Step := [.call (.num 4 .i32) 42 1 21 1, .call .tags 43 2 72 2]
theorem ok0s : StepsOk P N 74 lsUnregisterBrokerRequest ss0s := ⟨⟨aInt32, ⟨by kernel_rfl, rfl, rfl⟩, by kernel_rfl⟩, ⟨aTags, ⟨by kernel_rfl, rfl, rfl⟩, by kernel_rfl⟩, trivial⟩
theorem door0s {w : World} {l : List UInt8} {data e0 : Value} (hl : l.length ≤ 1073741824) (hd : DataIn w data l) (he : ErrAt w N.gErr e0) (he0 : ∃ d y, e0 = .iface d y) : Gives P 8 [.int .i64 0, data] w fun u w' => DoorPost w w' u (toldOf ss0s (fsAt 0) gpUnregisterBrokerRequest l) ∧ Keeps [] w w' :=
  door_ver (e := E) (fNew := 14) (fSet := 16) (fRead := 17) (fRf := 30) (fDef := 29) (fTell := 18) (S := 74) (ds := dsUnregisterBrokerRequest) (ls := lsUnregisterBrokerRequest) (ss := ss0s) (v := 0) (uns := false) (fs0 := fsAt 0) (mid := mid) (mid1 := .int .i16 0 :: mid) (ts := tysUnregisterBrokerRequest)
    rdF octF tellF tyZ rfA (fun h => by cases h) hComplete errI newOk defUnregisterBrokerRequest toldUnregisterBrokerRequest (by kernel_rfl) (by kernel_rfl) (by kernel_rfl) (by kernel_rfl) ok0s rfl rfl rfl rfl rfl (by kernel_rfl) (by kernel_rfl) rfl rfl rfl rfl (by decide) hl hd he he0

def ssAll : List (List Step) := [ss0s]
def outOf (l : List UInt8) (v : Nat) : Option PT := toldOf (ssAll.getD v []) (fsAt v) gpUnregisterBrokerRequest l

theorem out0 (l : List UInt8) : outOf l 0 = toldOf ss0s (fsAt 0) gpUnregisterBrokerRequest l := rfl
theorem allTell (w : World) (v : Nat) (l : List UInt8) (data e0 : Value) (hv : v ≤ 0) (hl : l.length ≤ 1073741824) (hd : DataIn w data l) (he : ErrAt w N.gErr e0) (he0 : ∃ d y, e0 = .iface d y) : Gives P 8 [.int .i64 v, data] w fun u w' => DoorPost w w' u (outOf l v) ∧ Keeps [] w w' := by
  have h : v = 0 := by omega
  rcases h with rfl
  · rw [out0]; exact door0s hl hd he he0

theorem maxOk (w : World) : Gives P 5 [] w fun v w' => v = .int .i64 (0 : Nat) ∧ Keeps [] w w' := max_gives (fNew := 14) (fMax := 15) (m := 0) rdF newOk (by kernel_rfl) (by kernel_rfl) rfl
theorem verOk (n : Nat) (hn : n < 256) (w : World) : Gives P 7 [.int .u8 n, .int .i64 (0 : Nat)] w fun v w' => v = .int .i64 (n % (0 + 1) : Nat) ∧ w' = w := version_gives rdF (by kernel_rfl) hn (by decide)

end Go.Proofs.YtkeeecooikahpabDoor
