/- DescribeClusterRequest: its doors. -/
import Derived.Test.YtlhbhamopejgcaaDoorMsgDescribeClusterRequest
namespace Go.Proofs.YtlhbhamopejgcaaDoor
open Go Go.Kf

theorem rfA : RfFacts P N 90 := .of (by kernel_rfl) (by kernel_rfl) (by kernel_rfl) (by kernel_rfl) (by kernel_rfl)
theorem errI : ∃ ms, P.underlying N.tErr = some (.interface ms) := iface_of (by kernel_rfl)
def mid : List Value := [.bool false, .int .i8 1, .bool false, .map none]
def fsAt (v : Int) : List FV := .one (.int .i16 v) :: [.one (.bool false), .one (.int .i8 1), .one (.bool false), .tags []]
theorem newOk : NewOk P 27 (.int .i16 0 :: mid) := new_gives rdF.mix (by kernel_rfl : zeroTy P 90 = some (.agg ⟨.int .i16 0 :: [.bool false, .int .i8 0, .bool false, .map none]⟩, 5)) dokDescribeClusterRequest (by kernel_rfl) (by kernel_rfl)

def ss0s : List Step := [.call .bool 63 1 4 1, .call .tags 53 4 72 4]
theorem ok0s : StepsOk P N 90 lsDescribeClusterRequest ss0s := ⟨⟨aBool, ⟨by kernel_rfl, rfl, rfl⟩, by kernel_rfl⟩, ⟨aTags, ⟨by kernel_rfl, rfl, rfl⟩, by kernel_rfl⟩, trivial⟩
theorem door0s {w : World} {l : List UInt8} {data e0 : Value} (hl : l.length ≤ 1073741824) (hd : DataIn w data l) (he : ErrAt w N.gErr e0) (he0 : ∃ d y, e0 = .iface d y) : Gives P 14 [.int .i64 0, data] w fun u w' => DoorPost w w' u (toldOf ss0s (fsAt 0) gpDescribeClusterRequest l) ∧ Keeps [] w w' :=
  door_ver (e := E) (fNew := 27) (fSet := 29) (fRead := 30) (fRf := 47) (fDef := 46) (fTell := 31) (S := 90) (ds := dsDescribeClusterRequest) (ls := lsDescribeClusterRequest) (ss := ss0s) (v := 0) (uns := false) (fs0 := fsAt 0) (mid := mid) (mid1 := .int .i16 0 :: mid) (ts := tysDescribeClusterRequest)
    rdF octF tellF tyZ rfA (fun h => by cases h) hComplete errI newOk defDescribeClusterRequest toldDescribeClusterRequest (by kernel_rfl) (by kernel_rfl) (by kernel_rfl) (by kernel_rfl) ok0s rfl rfl rfl rfl rfl (by kernel_rfl) (by kernel_rfl) rfl rfl rfl rfl (by decide) hl hd he he0

def ss0u : List Step := [.call .bool 63 1 4 1, .call .tags 53 4 72 4]
theorem ok0u : StepsOk P N 90 lsDescribeClusterRequest ss0u := ⟨⟨aBool, ⟨by kernel_rfl, rfl, rfl⟩, by kernel_rfl⟩, ⟨aTags, ⟨by kernel_rfl, rfl, rfl⟩, by kernel_rfl⟩, trivial⟩
theorem door0u {w : World} {l : List UInt8} {data e0 : Value} (hl : l.length ≤ 1073741824) (hd : DataIn w data l) (he : ErrAt w N.gErr e0) (he0 : ∃ d y, e0 = .iface d y) : Gives P 15 [.int .i64 0, data] w fun u w' => DoorPost w w' u (toldOf ss0s (fsAt 0) gpDescribeClusterRequest l) ∧ Keeps [] w w' :=
  told_same (show eraseSs ss0u = eraseSs ss0s by kernel_rfl) (fsAt 0) gpDescribeClusterRequest l ▸
  door_ver (e := E) (fNew := 27) (fSet := 29) (fRead := 32) (fRf := 47) (fDef := 46) (fTell := 31) (S := 90) (ds := dsDescribeClusterRequest) (ls := lsDescribeClusterRequest) (ss := ss0u) (v := 0) (uns := true) (fs0 := fsAt 0) (mid := mid) (mid1 := .int .i16 0 :: mid) (ts := tysDescribeClusterRequest)
    rdF octF tellF tyZ rfA (fun h => by cases h) hComplete errI newOk defDescribeClusterRequest toldDescribeClusterRequest (by kernel_rfl) (by kernel_rfl) (by kernel_rfl) (by kernel_rfl) ok0u rfl rfl rfl rfl rfl (by kernel_rfl) (by kernel_rfl) rfl rfl rfl rfl (by decide) hl hd he he0

def ss1s : List Step := [.call .bool 63 1 4 1, .call (.num 1 .i8) 64 2 87 2, .call .tags 53 4 72 4]
theorem ok1s : StepsOk P N 90 lsDescribeClusterRequest ss1s := ⟨⟨aBool, ⟨by kernel_rfl, rfl, rfl⟩, by kernel_rfl⟩, ⟨aInt8, ⟨by kernel_rfl, rfl, rfl⟩, by kernel_rfl⟩, ⟨aTags, ⟨by kernel_rfl, rfl, rfl⟩, by kernel_rfl⟩, trivial⟩
theorem door1s {w : World} {l : List UInt8} {data e0 : Value} (hl : l.length ≤ 1073741824) (hd : DataIn w data l) (he : ErrAt w N.gErr e0) (he0 : ∃ d y, e0 = .iface d y) : Gives P 14 [.int .i64 1, data] w fun u w' => DoorPost w w' u (toldOf ss1s (fsAt 1) gpDescribeClusterRequest l) ∧ Keeps [] w w' :=
  door_ver (e := E) (fNew := 27) (fSet := 29) (fRead := 30) (fRf := 47) (fDef := 46) (fTell := 31) (S := 90) (ds := dsDescribeClusterRequest) (ls := lsDescribeClusterRequest) (ss := ss1s) (v := 1) (uns := false) (fs0 := fsAt 1) (mid := mid) (mid1 := .int .i16 1 :: mid) (ts := tysDescribeClusterRequest)
    rdF octF tellF tyZ rfA (fun h => by cases h) hComplete errI newOk defDescribeClusterRequest toldDescribeClusterRequest (by kernel_rfl) (by kernel_rfl) (by kernel_rfl) (by kernel_rfl) ok1s rfl rfl rfl rfl rfl (by kernel_rfl) (by kernel_rfl) rfl rfl rfl rfl (by decide) hl hd he he0

def ss1u : List Step := [.call .bool 63 1 4 1, .call (.num 1 .i8) 64 2 87 2, .call .tags 53 4 72 4]
theorem ok1u : StepsOk P N 90 lsDescribeClusterRequest ss1u := ⟨⟨aBool, ⟨by kernel_rfl, rfl, rfl⟩, by kernel_rfl⟩, ⟨aInt8, ⟨by kernel_rfl, rfl, rfl⟩, by kernel_rfl⟩, ⟨aTags, ⟨by kernel_rfl, rfl, rfl⟩, by kernel_rfl⟩, trivial⟩
theorem door1u {w : World} {l : List UInt8} {data e0 : Value} (hl : l.length ≤ 1073741824) (hd : DataIn w data l) (he : ErrAt w N.gErr e0) (he0 : ∃ d y, e0 = .iface d y) : Gives P 15 [.int .i64 1, data] w fun u w' => DoorPost w w' u (toldOf ss1s (fsAt 1) gpDescribeClusterRequest l) ∧ Keeps [] w w' :=
  told_same (show eraseSs ss1u = eraseSs ss1s by kernel_rfl) (fsAt 1) gpDescribeClusterRequest l ▸
  door_ver (e := E) (fNew := 27) (fSet := 29) (fRead := 32) (fRf := 47) (fDef := 46) (fTell := 31) (S := 90) (ds := dsDescribeClusterRequest) (ls := lsDescribeClusterRequest) (ss := ss1u) (v := 1) (uns := true) (fs0 := fsAt 1) (mid := mid) (mid1 := .int .i16 1 :: mid) (ts := tysDescribeClusterRequest)
    rdF octF tellF tyZ rfA (fun h => by cases h) hComplete errI newOk defDescribeClusterRequest toldDescribeClusterRequest (by kernel_rfl) (by kernel_rfl) (by kernel_rfl) (by kernel_rfl) ok1u rfl rfl rfl rfl rfl (by kernel_rfl) (by kernel_rfl) rfl rfl rfl rfl (by decide) hl hd he he0

def ss2s : List Step := [.call .bool 63 1 4 1, .call (.num 1 .i8) 64 2 87 2, .call .bool 63 3 4 3, .call .tags 53 4 72 4]
theorem ok2s : StepsOk P N 90 lsDescribeClusterRequest ss2s := ⟨⟨aBool, ⟨by kernel_rfl, rfl, rfl⟩, by kernel_rfl⟩, ⟨aInt8, ⟨by kernel_rfl, rfl, rfl⟩, by kernel_rfl⟩, ⟨aBool, ⟨by kernel_rfl, rfl, rfl⟩, by kernel_rfl⟩, ⟨aTags, ⟨by kernel_rfl, rfl, rfl⟩, by kernel_rfl⟩, trivial⟩
theorem door2s {w : World} {l : List UInt8} {data e0 : Value} (hl : l.length ≤ 1073741824) (hd : DataIn w data l) (he : ErrAt w N.gErr e0) (he0 : ∃ d y, e0 = .iface d y) : Gives P 14 [.int .i64 2, data] w fun u w' => DoorPost w w' u (toldOf ss2s (fsAt 2) gpDescribeClusterRequest l) ∧ Keeps [] w w' :=
  door_ver (e := E) (fNew := 27) (fSet := 29) (fRead := 30) (fRf := 47) (fDef := 46) (fTell := 31) (S := 90) (ds := dsDescribeClusterRequest) (ls := lsDescribeClusterRequest) (ss := ss2s) (v := 2) (uns := false) (fs0 := fsAt 2) (mid := mid) (mid1 := .int .i16 2 :: mid) (ts := tysDescribeClusterRequest)
    rdF octF tellF tyZ rfA (fun h => by cases h) hComplete errI newOk defDescribeClusterRequest toldDescribeClusterRequest (by kernel_rfl) (by kernel_rfl) (by kernel_rfl) (by kernel_rfl) ok2s rfl rfl rfl rfl rfl (by kernel_rfl) (by kernel_rfl) rfl rfl rfl rfl (by decide) hl hd he he0

def ss2u : List Step := [.call .bool 63 1 4 1, .call (.num 1 .i8) 64 2 87 2, .call .bool 63 3 4 3, .call .tags 53 4 72 4]
theorem ok2u : StepsOk P N 90 lsDescribeClusterRequest ss2u := ⟨⟨aBool, ⟨by kernel_rfl, rfl, rfl⟩, by kernel_rfl⟩, ⟨aInt8, ⟨by kernel_rfl, rfl, rfl⟩, by kernel_rfl⟩, ⟨aBool, ⟨by kernel_rfl, rfl, rfl⟩, by kernel_rfl⟩, ⟨aTags, ⟨by kernel_rfl, rfl, rfl⟩, by kernel_rfl⟩, trivial⟩
theorem door2u {w : World} {l : List UInt8} {data e0 : Value} (hl : l.length ≤ 1073741824) (hd : DataIn w data l) (he : ErrAt w N.gErr e0) (he0 : ∃ d y, e0 = .iface d y) : Gives P 15 [.int .i64 2, data] w fun u w' => DoorPost w w' u (toldOf ss2s (fsAt 2) gpDescribeClusterRequest l) ∧ Keeps [] w w' :=
  told_same (show eraseSs ss2u = eraseSs ss2s by kernel_rfl) (fsAt 2) gpDescribeClusterRequest l ▸
  door_ver (e := E) (fNew := 27) (fSet := 29) (fRead := 32) (fRf := 47) (fDef := 46) (fTell := 31) (S := 90) (ds := dsDescribeClusterRequest) (ls := lsDescribeClusterRequest) (ss := ss2u) (v := 2) (uns := true) (fs0 := fsAt 2) (mid := mid) (mid1 := .int .i16 2 :: mid) (ts := tysDescribeClusterRequest)
    rdF octF tellF tyZ rfA (fun h => by cases h) hComplete errI newOk defDescribeClusterRequest toldDescribeClusterRequest (by kernel_rfl) (by kernel_rfl) (by kernel_rfl) (by kernel_rfl) ok2u rfl rfl rfl rfl rfl (by kernel_rfl) (by kernel_rfl) rfl rfl rfl rfl (by decide) hl hd he he0

def ssAll : List (List Step) := [ss0s, ss1s, ss2s]
def outOf (l : List UInt8) (v : Nat) : Option PT := toldOf (ssAll.getD v []) (fsAt v) gpDescribeClusterRequest l

theorem out0 (l : List UInt8) : outOf l 0 = toldOf ss0s (fsAt 0) gpDescribeClusterRequest l := rfl
theorem out1 (l : List UInt8) : outOf l 1 = toldOf ss1s (fsAt 1) gpDescribeClusterRequest l := rfl
theorem out2 (l : List UInt8) : outOf l 2 = toldOf ss2s (fsAt 2) gpDescribeClusterRequest l := rfl
theorem allTell (w : World) (v : Nat) (l : List UInt8) (data e0 : Value) (hv : v ≤ 2) (hl : l.length ≤ 1073741824) (hd : DataIn w data l) (he : ErrAt w N.gErr e0) (he0 : ∃ d y, e0 = .iface d y) : Gives P 14 [.int .i64 v, data] w fun u w' => DoorPost w w' u (outOf l v) ∧ Keeps [] w w' := by
  have h : v = 0 ∨ v = 1 ∨ v = 2 := by omega
  rcases h with rfl | rfl | rfl
  · rw [out0]; exact door0s hl hd he he0
  · rw [out1]; exact door1s hl hd he he0
  · rw [out2]; exact door2s hl hd he he0

theorem allUnsafe (w : World) (v : Nat) (l : List UInt8) (data e0 : Value) (hv : v ≤ 2) (hl : l.length ≤ 1073741824) (hd : DataIn w data l) (he : ErrAt w N.gErr e0) (he0 : ∃ d y, e0 = .iface d y) : Gives P 15 [.int .i64 v, data] w fun u w' => DoorPost w w' u (outOf l v) ∧ Keeps [] w w' := by
  have h : v = 0 ∨ v = 1 ∨ v = 2 := by omega
  rcases h with rfl | rfl | rfl
  · rw [out0]; exact door0u hl hd he he0
  · rw [out1]; exact door1u hl hd he he0
  · rw [out2]; exact door2u hl hd he he0

theorem maxOk (w : World) : Gives P 13 [] w fun v w' => v = .int .i64 (2 : Nat) ∧ Keeps [] w w' := max_gives (fNew := 27) (fMax := 28) (m := 2) rdF newOk (by kernel_rfl) (by kernel_rfl) rfl
theorem verOk (n : Nat) (hn : n < 256) (w : World) : Gives P 8 [.int .u8 n, .int .i64 (2 : Nat)] w fun v w' => v = .int .i64 (n % (2 + 1) : Nat) ∧ w' = w := version_gives rdF (by kernel_rfl) hn (by decide)

/-- The law: whatever the octets. -/
theorem lawOk (w : World) (n : Nat) (hn : n < 256) (data e0 : Value) (l : List UInt8) (hd : DataIn w data l) (he : ErrAt w N.gErr e0) (he0 : ∃ d y, e0 = .iface d y) : Gives P 4 [.int .u8 n, data] w fun v w' => v = .bool true ∧ Keeps [] w w' :=
  unsafeLaw_gives (m := 2) (out := outOf l) (e0 := e0) (l := l) rdF tellF tyZ (by kernel_rfl) maxOk (verOk n hn) (fun w hl hd he => allTell w _ l data e0 (Nat.le_of_lt_succ (Nat.mod_lt _ (by decide))) (Nat.le_trans hl (by decide)) hd he he0) (fun w hl hd he => allUnsafe w _ l data e0 (Nat.le_of_lt_succ (Nat.mod_lt _ (by decide))) (Nat.le_trans hl (by decide)) hd he he0) hGot hSameTree hd he
end Go.Proofs.YtlhbhamopejgcaaDoor
