/- AllocateProducerIDsRequest: its doors. -/
import Derived.Test.YteemamacjglldaaDoorMsgAllocateProducerIDsRequest
namespace Go.Proofs.YteemamacjglldaaDoor
open Go Go.Kf

theorem rfA : RfFacts P N 74 := .of (by kernel_rfl) (by kernel_rfl) (by kernel_rfl) (by kernel_rfl) (by kernel_rfl)
theorem errI : ∃ ms, P.underlying N.tErr = some (.interface ms) := iface_of (by kernel_rfl)
def mid : List Value := [.int .i32 0, .int .i64 (-1), .map none]
def fsAt (v : Int) : List FV := .one (.int .i16 v) :: [.one (.int .i32 0), .one (.int .i64 (-1)), .tags []]
theorem newOk : NewOk P 21 (.int .i16 0 :: mid) := new_gives rdF.mix (by kernel_rfl : zeroTy P 74 = some (.agg ⟨.int .i16 0 :: [.int .i32 0, .int .i64 0, .map none]⟩, 4)) dokAllocateProducerIDsRequest (by kernel_rfl) (by kernel_rfl)

def ss0s : List Step := [.call (.num 4 .i32) 58 1 21 1, .call (.num 8 .i64) 59 2 2 2, .call .tags 52 3 58 3]
theorem ok0s : StepsOk P N 74 lsAllocateProducerIDsRequest ss0s := ⟨⟨aInt32, ⟨by kernel_rfl, rfl, rfl⟩, by kernel_rfl⟩, ⟨aInt64, ⟨by kernel_rfl, rfl, rfl⟩, by kernel_rfl⟩, ⟨aTags, ⟨by kernel_rfl, rfl, rfl⟩, by kernel_rfl⟩, trivial⟩
theorem door0s {w : World} {l : List UInt8} {data e0 : Value} (hl : l.length ≤ 1000) (hd : DataIn w data l) (he : ErrAt w N.gErr e0) (he0 : ∃ d y, e0 = .iface d y) : Gives P 12 [.int .i64 0, data] w fun u w' => DoorPost w w' u (toldOf ss0s (fsAt 0) gpAllocateProducerIDsRequest l) ∧ Keeps [] w w' :=
  door_ver (e := E) (fNew := 21) (fSet := 23) (fRead := 24) (fRf := 35) (fDef := 34) (fTell := 25) (S := 74) (ds := dsAllocateProducerIDsRequest) (ls := lsAllocateProducerIDsRequest) (ss := ss0s) (v := 0) (uns := false) (fs0 := fsAt 0) (mid := mid) (mid1 := .int .i16 0 :: mid) (ts := tysAllocateProducerIDsRequest)
    rdF octF tellF tyZ rfA (fun _ => hOk) hComplete errI newOk defAllocateProducerIDsRequest toldAllocateProducerIDsRequest (by kernel_rfl) (by kernel_rfl) (by kernel_rfl) (by kernel_rfl) ok0s rfl rfl rfl rfl rfl (by kernel_rfl) (by kernel_rfl) rfl rfl rfl rfl (by decide) hl hd he he0

def ss0u : List Step := [.call (.num 4 .i32) 58 1 21 1, .call (.num 8 .i64) 59 2 2 2, .call .tags 52 3 58 3]
theorem ok0u : StepsOk P N 74 lsAllocateProducerIDsRequest ss0u := ⟨⟨aInt32, ⟨by kernel_rfl, rfl, rfl⟩, by kernel_rfl⟩, ⟨aInt64, ⟨by kernel_rfl, rfl, rfl⟩, by kernel_rfl⟩, ⟨aTags, ⟨by kernel_rfl, rfl, rfl⟩, by kernel_rfl⟩, trivial⟩
theorem door0u {w : World} {l : List UInt8} {data e0 : Value} (hl : l.length ≤ 1000) (hd : DataIn w data l) (he : ErrAt w N.gErr e0) (he0 : ∃ d y, e0 = .iface d y) : Gives P 13 [.int .i64 0, data] w fun u w' => DoorPost w w' u (toldOf ss0s (fsAt 0) gpAllocateProducerIDsRequest l) ∧ Keeps [] w w' :=
  door_ver (e := E) (fNew := 21) (fSet := 23) (fRead := 26) (fRf := 35) (fDef := 34) (fTell := 25) (S := 74) (ds := dsAllocateProducerIDsRequest) (ls := lsAllocateProducerIDsRequest) (ss := ss0u) (v := 0) (uns := true) (fs0 := fsAt 0) (mid := mid) (mid1 := .int .i16 0 :: mid) (ts := tysAllocateProducerIDsRequest)
    rdF octF tellF tyZ rfA (fun _ => hOk) hComplete errI newOk defAllocateProducerIDsRequest toldAllocateProducerIDsRequest (by kernel_rfl) (by kernel_rfl) (by kernel_rfl) (by kernel_rfl) ok0u rfl rfl rfl rfl rfl (by kernel_rfl) (by kernel_rfl) rfl rfl rfl rfl (by decide) hl hd he he0

def ssAll : List (List Step) := [ss0s]
def outOf (l : List UInt8) (v : Nat) : Option PT := toldOf (ssAll.getD v []) (fsAt v) gpAllocateProducerIDsRequest l

theorem out0 (l : List UInt8) : outOf l 0 = toldOf ss0s (fsAt 0) gpAllocateProducerIDsRequest l := rfl
theorem allTell (w : World) (v : Nat) (l : List UInt8) (data e0 : Value) (hv : v ≤ 0) (hl : l.length ≤ 1000) (hd : DataIn w data l) (he : ErrAt w N.gErr e0) (he0 : ∃ d y, e0 = .iface d y) : Gives P 12 [.int .i64 v, data] w fun u w' => DoorPost w w' u (outOf l v) ∧ Keeps [] w w' := by
  have h : v = 0 := by omega
  rcases h with rfl
  · rw [out0]; exact door0s hl hd he he0

theorem allUnsafe (w : World) (v : Nat) (l : List UInt8) (data e0 : Value) (hv : v ≤ 0) (hl : l.length ≤ 1000) (hd : DataIn w data l) (he : ErrAt w N.gErr e0) (he0 : ∃ d y, e0 = .iface d y) : Gives P 13 [.int .i64 v, data] w fun u w' => DoorPost w w' u (outOf l v) ∧ Keeps [] w w' := by
  have h : v = 0 := by omega
  rcases h with rfl
  · rw [out0]; exact door0u hl hd he he0

theorem maxOk (w : World) : Gives P 11 [] w fun v w' => v = .int .i64 (0 : Nat) ∧ Keeps [] w w' := max_gives (fNew := 21) (fMax := 22) (m := 0) rdF newOk (by kernel_rfl) (by kernel_rfl) rfl
theorem verOk (n : Nat) (hn : n < 256) (w : World) : Gives P 7 [.int .u8 n, .int .i64 (0 : Nat)] w fun v w' => v = .int .i64 (n % (0 + 1) : Nat) ∧ w' = w := version_gives rdF (by kernel_rfl) hn (by decide)

/-- The law: whatever the octets. -/
theorem lawOk (w : World) (n : Nat) (hn : n < 256) (data e0 : Value) (l : List UInt8) (hd : DataIn w data l) (he : ErrAt w N.gErr e0) (he0 : ∃ d y, e0 = .iface d y) : Gives P 4 [.int .u8 n, data] w fun v w' => v = .bool true ∧ Keeps [] w w' :=
  unsafeLaw_gives (m := 0) (out := outOf l) (e0 := e0) (l := l) rdF tellF tyZ (by kernel_rfl) maxOk (verOk n hn) (fun w hl hd he => allTell w _ l data e0 (Nat.le_of_lt_succ (Nat.mod_lt _ (by decide))) hl hd he he0) (fun w hl hd he => allUnsafe w _ l data e0 (Nat.le_of_lt_succ (Nat.mod_lt _ (by decide))) hl hd he he0) hGot hSameTree hd he
end Go.Proofs.YteemamacjglldaaDoor
