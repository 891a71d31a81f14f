/- IncrementalAlterConfigsRequest: its doors. -/
import Derived.Test.YteemamacjglldaaDoorMsgIncrementalAlterConfigsRequest
namespace Go.Proofs.YteemamacjglldaaDoor
open Go Go.Kf

theorem rfA : RfFacts P N 60 := .of (by kernel_rfl) (by kernel_rfl) (by kernel_rfl) (by kernel_rfl) (by kernel_rfl)
theorem errI : ∃ ms, P.underlying N.tErr = some (.interface ms) := iface_of (by kernel_rfl)
def mid : List Value := [.slice none 0 0, .bool false, .map none]
def fsAt (v : Int) : List FV := .one (.int .i16 v) :: [.list true [], .one (.bool false), .tags []]
theorem newOk : NewOk P 14 (.int .i16 0 :: mid) := new_gives rdF.mix (by kernel_rfl : zeroTy P 60 = some (.agg ⟨.int .i16 0 :: [.slice none 0 0, .bool false, .map none]⟩, 4)) dokIncrementalAlterConfigsRequest (by kernel_rfl) (by kernel_rfl)

def ss0s : List Step := [.listS .len 38 1 55 1 68 4 41 dfIncrementalAlterConfigsRequestResource [.call (.num 1 .i8) 42 0 65 0, .call .str 46 1 9 1, .listS .len 38 2 66 2 86 4 47 dfIncrementalAlterConfigsRequestResourceConfig [.call .str 46 0 9 0, .call (.num 1 .i8) 42 1 83 1, .call .nstr 51 2 84 2]], .call .bool 53 2 4 2]
theorem ok0s : StepsOk P N 60 lsIncrementalAlterConfigsRequest ss0s := ⟨⟨hArrayLen, ⟨by kernel_rfl, rfl, rfl⟩, .of (by kernel_rfl) (by kernel_rfl) (by kernel_rfl) (by decide), dokIncrementalAlterConfigsRequestResource, rfl, ⟨⟨aInt8, ⟨by kernel_rfl, rfl, rfl⟩, by kernel_rfl⟩, ⟨aString, ⟨by kernel_rfl, rfl, rfl⟩, by kernel_rfl⟩, ⟨hArrayLen, ⟨by kernel_rfl, rfl, rfl⟩, .of (by kernel_rfl) (by kernel_rfl) (by kernel_rfl) (by decide), dokIncrementalAlterConfigsRequestResourceConfig, rfl, ⟨⟨aString, ⟨by kernel_rfl, rfl, rfl⟩, by kernel_rfl⟩, ⟨aInt8, ⟨by kernel_rfl, rfl, rfl⟩, by kernel_rfl⟩, ⟨aNullableString, ⟨by kernel_rfl, rfl, rfl⟩, by kernel_rfl⟩, trivial⟩⟩, trivial⟩⟩, ⟨aBool, ⟨by kernel_rfl, rfl, rfl⟩, by kernel_rfl⟩, trivial⟩
theorem door0s {w : World} {l : List UInt8} {data e0 : Value} (hl : l.length ≤ 1000) (hd : DataIn w data l) (he : ErrAt w N.gErr e0) (he0 : ∃ d y, e0 = .iface d y) : Gives P 6 [.int .i64 0, data] w fun u w' => DoorPost w w' u (toldOf ss0s (fsAt 0) gpIncrementalAlterConfigsRequest l) ∧ Keeps [] w w' :=
  door_ver (e := E) (fNew := 14) (fSet := 16) (fRead := 17) (fRf := 28) (fDef := 27) (fTell := 18) (S := 60) (ds := dsIncrementalAlterConfigsRequest) (ls := lsIncrementalAlterConfigsRequest) (ss := ss0s) (v := 0) (uns := false) (fs0 := fsAt 0) (mid := mid) (mid1 := .int .i16 0 :: mid) (ts := tysIncrementalAlterConfigsRequest)
    rdF octF tellF tyZ rfA (fun _ => hOk) hComplete errI newOk defIncrementalAlterConfigsRequest toldIncrementalAlterConfigsRequest (by kernel_rfl) (by kernel_rfl) (by kernel_rfl) (by kernel_rfl) ok0s rfl rfl rfl rfl rfl (by kernel_rfl) (by kernel_rfl) rfl rfl rfl rfl (by decide) hl hd he he0

def ss0u : List Step := [.listS .len 38 1 55 1 68 4 41 dfIncrementalAlterConfigsRequestResource [.call (.num 1 .i8) 42 0 65 0, .call .str 44 1 9 1, .listS .len 38 2 66 2 86 4 47 dfIncrementalAlterConfigsRequestResourceConfig [.call .str 44 0 9 0, .call (.num 1 .i8) 42 1 83 1, .call .nstr 50 2 84 2]], .call .bool 53 2 4 2]
theorem ok0u : StepsOk P N 60 lsIncrementalAlterConfigsRequest ss0u := ⟨⟨hArrayLen, ⟨by kernel_rfl, rfl, rfl⟩, .of (by kernel_rfl) (by kernel_rfl) (by kernel_rfl) (by decide), dokIncrementalAlterConfigsRequestResource, rfl, ⟨⟨aInt8, ⟨by kernel_rfl, rfl, rfl⟩, by kernel_rfl⟩, ⟨aUnsafeString, ⟨by kernel_rfl, rfl, rfl⟩, by kernel_rfl⟩, ⟨hArrayLen, ⟨by kernel_rfl, rfl, rfl⟩, .of (by kernel_rfl) (by kernel_rfl) (by kernel_rfl) (by decide), dokIncrementalAlterConfigsRequestResourceConfig, rfl, ⟨⟨aUnsafeString, ⟨by kernel_rfl, rfl, rfl⟩, by kernel_rfl⟩, ⟨aInt8, ⟨by kernel_rfl, rfl, rfl⟩, by kernel_rfl⟩, ⟨aUnsafeNullableString, ⟨by kernel_rfl, rfl, rfl⟩, by kernel_rfl⟩, trivial⟩⟩, trivial⟩⟩, ⟨aBool, ⟨by kernel_rfl, rfl, rfl⟩, by kernel_rfl⟩, trivial⟩
theorem door0u {w : World} {l : List UInt8} {data e0 : Value} (hl : l.length ≤ 1000) (hd : DataIn w data l) (he : ErrAt w N.gErr e0) (he0 : ∃ d y, e0 = .iface d y) : Gives P 8 [.int .i64 0, data] w fun u w' => DoorPost w w' u (toldOf ss0s (fsAt 0) gpIncrementalAlterConfigsRequest l) ∧ Keeps [] w w' :=
  door_ver (e := E) (fNew := 14) (fSet := 16) (fRead := 19) (fRf := 28) (fDef := 27) (fTell := 18) (S := 60) (ds := dsIncrementalAlterConfigsRequest) (ls := lsIncrementalAlterConfigsRequest) (ss := ss0u) (v := 0) (uns := true) (fs0 := fsAt 0) (mid := mid) (mid1 := .int .i16 0 :: mid) (ts := tysIncrementalAlterConfigsRequest)
    rdF octF tellF tyZ rfA (fun _ => hOk) hComplete errI newOk defIncrementalAlterConfigsRequest toldIncrementalAlterConfigsRequest (by kernel_rfl) (by kernel_rfl) (by kernel_rfl) (by kernel_rfl) ok0u rfl rfl rfl rfl rfl (by kernel_rfl) (by kernel_rfl) rfl rfl rfl rfl (by decide) hl hd he he0

def ss1s : List Step := [.listS .clen 37 1 55 1 68 4 41 dfIncrementalAlterConfigsRequestResource [.call (.num 1 .i8) 42 0 65 0, .call .cstr 45 1 9 1, .listS .clen 37 2 66 2 86 4 47 dfIncrementalAlterConfigsRequestResourceConfig [.call .cstr 45 0 9 0, .call (.num 1 .i8) 42 1 83 1, .call .cnstr 49 2 84 2, .call .tags 52 3 58 3], .call .tags 52 3 58 3], .call .bool 53 2 4 2, .call .tags 52 3 58 3]
theorem ok1s : StepsOk P N 60 lsIncrementalAlterConfigsRequest ss1s := ⟨⟨hCompactArrayLen, ⟨by kernel_rfl, rfl, rfl⟩, .of (by kernel_rfl) (by kernel_rfl) (by kernel_rfl) (by decide), dokIncrementalAlterConfigsRequestResource, rfl, ⟨⟨aInt8, ⟨by kernel_rfl, rfl, rfl⟩, by kernel_rfl⟩, ⟨aCompactString, ⟨by kernel_rfl, rfl, rfl⟩, by kernel_rfl⟩, ⟨hCompactArrayLen, ⟨by kernel_rfl, rfl, rfl⟩, .of (by kernel_rfl) (by kernel_rfl) (by kernel_rfl) (by decide), dokIncrementalAlterConfigsRequestResourceConfig, rfl, ⟨⟨aCompactString, ⟨by kernel_rfl, rfl, rfl⟩, by kernel_rfl⟩, ⟨aInt8, ⟨by kernel_rfl, rfl, rfl⟩, by kernel_rfl⟩, ⟨aCompactNullableString, ⟨by kernel_rfl, rfl, rfl⟩, by kernel_rfl⟩, ⟨aTags, ⟨by kernel_rfl, rfl, rfl⟩, by kernel_rfl⟩, trivial⟩⟩, ⟨aTags, ⟨by kernel_rfl, rfl, rfl⟩, by kernel_rfl⟩, trivial⟩⟩, ⟨aBool, ⟨by kernel_rfl, rfl, rfl⟩, by kernel_rfl⟩, ⟨aTags, ⟨by kernel_rfl, rfl, rfl⟩, by kernel_rfl⟩, trivial⟩
theorem door1s {w : World} {l : List UInt8} {data e0 : Value} (hl : l.length ≤ 1000) (hd : DataIn w data l) (he : ErrAt w N.gErr e0) (he0 : ∃ d y, e0 = .iface d y) : Gives P 6 [.int .i64 1, data] w fun u w' => DoorPost w w' u (toldOf ss1s (fsAt 1) gpIncrementalAlterConfigsRequest l) ∧ Keeps [] w w' :=
  door_ver (e := E) (fNew := 14) (fSet := 16) (fRead := 17) (fRf := 28) (fDef := 27) (fTell := 18) (S := 60) (ds := dsIncrementalAlterConfigsRequest) (ls := lsIncrementalAlterConfigsRequest) (ss := ss1s) (v := 1) (uns := false) (fs0 := fsAt 1) (mid := mid) (mid1 := .int .i16 1 :: mid) (ts := tysIncrementalAlterConfigsRequest)
    rdF octF tellF tyZ rfA (fun _ => hOk) hComplete errI newOk defIncrementalAlterConfigsRequest toldIncrementalAlterConfigsRequest (by kernel_rfl) (by kernel_rfl) (by kernel_rfl) (by kernel_rfl) ok1s rfl rfl rfl rfl rfl (by kernel_rfl) (by kernel_rfl) rfl rfl rfl rfl (by decide) hl hd he he0

def ss1u : List Step := [.listS .clen 37 1 55 1 68 4 41 dfIncrementalAlterConfigsRequestResource [.call (.num 1 .i8) 42 0 65 0, .call .cstr 43 1 9 1, .listS .clen 37 2 66 2 86 4 47 dfIncrementalAlterConfigsRequestResourceConfig [.call .cstr 43 0 9 0, .call (.num 1 .i8) 42 1 83 1, .call .cnstr 48 2 84 2, .call .tags 52 3 58 3], .call .tags 52 3 58 3], .call .bool 53 2 4 2, .call .tags 52 3 58 3]
theorem ok1u : StepsOk P N 60 lsIncrementalAlterConfigsRequest ss1u := ⟨⟨hCompactArrayLen, ⟨by kernel_rfl, rfl, rfl⟩, .of (by kernel_rfl) (by kernel_rfl) (by kernel_rfl) (by decide), dokIncrementalAlterConfigsRequestResource, rfl, ⟨⟨aInt8, ⟨by kernel_rfl, rfl, rfl⟩, by kernel_rfl⟩, ⟨aUnsafeCompactString, ⟨by kernel_rfl, rfl, rfl⟩, by kernel_rfl⟩, ⟨hCompactArrayLen, ⟨by kernel_rfl, rfl, rfl⟩, .of (by kernel_rfl) (by kernel_rfl) (by kernel_rfl) (by decide), dokIncrementalAlterConfigsRequestResourceConfig, rfl, ⟨⟨aUnsafeCompactString, ⟨by kernel_rfl, rfl, rfl⟩, by kernel_rfl⟩, ⟨aInt8, ⟨by kernel_rfl, rfl, rfl⟩, by kernel_rfl⟩, ⟨aUnsafeCompactNullableString, ⟨by kernel_rfl, rfl, rfl⟩, by kernel_rfl⟩, ⟨aTags, ⟨by kernel_rfl, rfl, rfl⟩, by kernel_rfl⟩, trivial⟩⟩, ⟨aTags, ⟨by kernel_rfl, rfl, rfl⟩, by kernel_rfl⟩, trivial⟩⟩, ⟨aBool, ⟨by kernel_rfl, rfl, rfl⟩, by kernel_rfl⟩, ⟨aTags, ⟨by kernel_rfl, rfl, rfl⟩, by kernel_rfl⟩, trivial⟩
theorem door1u {w : World} {l : List UInt8} {data e0 : Value} (hl : l.length ≤ 1000) (hd : DataIn w data l) (he : ErrAt w N.gErr e0) (he0 : ∃ d y, e0 = .iface d y) : Gives P 8 [.int .i64 1, data] w fun u w' => DoorPost w w' u (toldOf ss1s (fsAt 1) gpIncrementalAlterConfigsRequest l) ∧ Keeps [] w w' :=
  door_ver (e := E) (fNew := 14) (fSet := 16) (fRead := 19) (fRf := 28) (fDef := 27) (fTell := 18) (S := 60) (ds := dsIncrementalAlterConfigsRequest) (ls := lsIncrementalAlterConfigsRequest) (ss := ss1u) (v := 1) (uns := true) (fs0 := fsAt 1) (mid := mid) (mid1 := .int .i16 1 :: mid) (ts := tysIncrementalAlterConfigsRequest)
    rdF octF tellF tyZ rfA (fun _ => hOk) hComplete errI newOk defIncrementalAlterConfigsRequest toldIncrementalAlterConfigsRequest (by kernel_rfl) (by kernel_rfl) (by kernel_rfl) (by kernel_rfl) ok1u rfl rfl rfl rfl rfl (by kernel_rfl) (by kernel_rfl) rfl rfl rfl rfl (by decide) hl hd he he0

def ssAll : List (List Step) := [ss0s, ss1s]
def outOf (l : List UInt8) (v : Nat) : Option PT := toldOf (ssAll.getD v []) (fsAt v) gpIncrementalAlterConfigsRequest l

theorem out0 (l : List UInt8) : outOf l 0 = toldOf ss0s (fsAt 0) gpIncrementalAlterConfigsRequest l := rfl
theorem out1 (l : List UInt8) : outOf l 1 = toldOf ss1s (fsAt 1) gpIncrementalAlterConfigsRequest l := rfl
theorem allTell (w : World) (v : Nat) (l : List UInt8) (data e0 : Value) (hv : v ≤ 1) (hl : l.length ≤ 1000) (hd : DataIn w data l) (he : ErrAt w N.gErr e0) (he0 : ∃ d y, e0 = .iface d y) : Gives P 6 [.int .i64 v, data] w fun u w' => DoorPost w w' u (outOf l v) ∧ Keeps [] w w' := by
  have h : v = 0 ∨ v = 1 := by omega
  rcases h with rfl | rfl
  · rw [out0]; exact door0s hl hd he he0
  · rw [out1]; exact door1s hl hd he he0

theorem allUnsafe (w : World) (v : Nat) (l : List UInt8) (data e0 : Value) (hv : v ≤ 1) (hl : l.length ≤ 1000) (hd : DataIn w data l) (he : ErrAt w N.gErr e0) (he0 : ∃ d y, e0 = .iface d y) : Gives P 8 [.int .i64 v, data] w fun u w' => DoorPost w w' u (outOf l v) ∧ Keeps [] w w' := by
  have h : v = 0 ∨ v = 1 := by omega
  rcases h with rfl | rfl
  · rw [out0]; exact door0u hl hd he he0
  · rw [out1]; exact door1u hl hd he he0

theorem maxOk (w : World) : Gives P 5 [] w fun v w' => v = .int .i64 (1 : Nat) ∧ Keeps [] w w' := max_gives (fNew := 14) (fMax := 15) (m := 1) rdF newOk (by kernel_rfl) (by kernel_rfl) rfl
theorem verOk (n : Nat) (hn : n < 256) (w : World) : Gives P 7 [.int .u8 n, .int .i64 (1 : Nat)] w fun v w' => v = .int .i64 (n % (1 + 1) : Nat) ∧ w' = w := version_gives rdF (by kernel_rfl) hn (by decide)

/-- The law: whatever the octets. -/
theorem lawOk (w : World) (n : Nat) (hn : n < 256) (data e0 : Value) (l : List UInt8) (hd : DataIn w data l) (he : ErrAt w N.gErr e0) (he0 : ∃ d y, e0 = .iface d y) : Gives P 3 [.int .u8 n, data] w fun v w' => v = .bool true ∧ Keeps [] w w' :=
  unsafeLaw_gives (m := 1) (out := outOf l) (e0 := e0) (l := l) rdF tellF tyZ (by kernel_rfl) maxOk (verOk n hn) (fun w hl hd he => allTell w _ l data e0 (Nat.le_of_lt_succ (Nat.mod_lt _ (by decide))) hl hd he he0) (fun w hl hd he => allUnsafe w _ l data e0 (Nat.le_of_lt_succ (Nat.mod_lt _ (by decide))) hl hd he he0) hGot hSameTree hd he
end Go.Proofs.YteemamacjglldaaDoor
