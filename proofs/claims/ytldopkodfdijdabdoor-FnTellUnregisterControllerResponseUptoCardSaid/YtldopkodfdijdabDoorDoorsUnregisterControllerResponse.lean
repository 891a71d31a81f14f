/- UnregisterControllerResponse: its doors. -/
import Derived.Test.YtldopkodfdijdabDoorMsgUnregisterControllerResponse
namespace Go.Proofs.YtldopkodfdijdabDoor
open Go Go.Kf

theorem rfA : RfFacts P N 93 := .of (by kernel_rfl) (by kernel_rfl) (by kernel_rfl) (by kernel_rfl) (by kernel_rfl)
theorem errI : ∃ ms, P.underlying N.tErr = some (.interface ms) := iface_of (by kernel_rfl)
def mid : List Value := [.int .i32 0, .int .i16 0, .pointer none, .map none]
def fsAt (v : Int) : List FV := .one (.int .i16 v) :: [.one (.int .i32 0), .one (.int .i16 0), .ntext none, .tags []]
theorem newOk : NewOk P 32 (.int .i16 0 :: mid) := new_gives rdF.mix (by kernel_rfl : zeroTy P 93 = some (.agg ⟨.int .i16 0 :: [.int .i32 0, .int .i16 0, .pointer none, .map none]⟩, 5)) dokUnregisterControllerResponse (by kernel_rfl) (by kernel_rfl)

def ss0s : List Step := [.call (.num 4 .i32) 55 1 21 1, .call (.num 2 .i16) 56 2 46 2, .call .cnstr 58 3 73 3, .call .tags 61 4 76 4]
theorem ok0s : StepsOk P N 93 lsUnregisterControllerResponse ss0s := ⟨⟨aInt32, ⟨by kernel_rfl, rfl, rfl⟩, by kernel_rfl⟩, ⟨aInt16, ⟨by kernel_rfl, rfl, rfl⟩, by kernel_rfl⟩, ⟨aCompactNullableString, ⟨by kernel_rfl, rfl, rfl⟩, by kernel_rfl⟩, ⟨aTags, ⟨by kernel_rfl, rfl, rfl⟩, by kernel_rfl⟩, trivial⟩
theorem door0s {w : World} {l : List UInt8} {data e0 : Value} (hl : l.length ≤ 1073741824) (hd : DataIn w data l) (he : ErrAt w N.gErr e0) (he0 : ∃ d y, e0 = .iface d y) : Gives P 16 [.int .i64 0, data] w fun u w' => DoorPost w w' u (toldOf ss0s (fsAt 0) gpUnregisterControllerResponse l) ∧ Keeps [] w w' :=
  door_ver (e := E) (fNew := 32) (fSet := 34) (fRead := 35) (fRf := 53) (fDef := 52) (fTell := 36) (S := 93) (ds := dsUnregisterControllerResponse) (ls := lsUnregisterControllerResponse) (ss := ss0s) (v := 0) (uns := false) (fs0 := fsAt 0) (mid := mid) (mid1 := .int .i16 0 :: mid) (ts := tysUnregisterControllerResponse)
    rdF octF tellF tyZ rfA (fun h => by cases h) hComplete errI newOk defUnregisterControllerResponse toldUnregisterControllerResponse (by kernel_rfl) (by kernel_rfl) (by kernel_rfl) (by kernel_rfl) ok0s rfl rfl rfl rfl rfl (by kernel_rfl) (by kernel_rfl) rfl rfl rfl rfl (by decide) hl hd he he0

def ssAll : List (List Step) := [ss0s]
def outOf (l : List UInt8) (v : Nat) : Option PT := toldOf (ssAll.getD v []) (fsAt v) gpUnregisterControllerResponse l

theorem out0 (l : List UInt8) : outOf l 0 = toldOf ss0s (fsAt 0) gpUnregisterControllerResponse l := rfl
theorem allTell (w : World) (v : Nat) (l : List UInt8) (data e0 : Value) (hv : v ≤ 0) (hl : l.length ≤ 1073741824) (hd : DataIn w data l) (he : ErrAt w N.gErr e0) (he0 : ∃ d y, e0 = .iface d y) : Gives P 16 [.int .i64 v, data] w fun u w' => DoorPost w w' u (outOf l v) ∧ Keeps [] w w' := by
  have h : v = 0 := by omega
  rcases h with rfl
  · rw [out0]; exact door0s hl hd he he0

theorem maxOk (w : World) : Gives P 14 [] w fun v w' => v = .int .i64 (0 : Nat) ∧ Keeps [] w w' := max_gives (fNew := 32) (fMax := 33) (m := 0) rdF newOk (by kernel_rfl) (by kernel_rfl) rfl
theorem verOk (n : Nat) (hn : n < 256) (w : World) : Gives P 8 [.int .u8 n, .int .i64 (0 : Nat)] w fun v w' => v = .int .i64 (n % (0 + 1) : Nat) ∧ w' = w := version_gives rdF (by kernel_rfl) hn (by decide)

end Go.Proofs.YtldopkodfdijdabDoor
