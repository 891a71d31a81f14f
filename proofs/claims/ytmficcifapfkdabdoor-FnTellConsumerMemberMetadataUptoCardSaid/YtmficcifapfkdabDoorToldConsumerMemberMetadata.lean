/- ConsumerMemberMetadata: its doors. -/
import Derived.Test.YtmficcifapfkdabDoorMsgConsumerMemberMetadata
import Derived.Test.YtmficcifapfkdabDoorFieldsConsumerMemberMetadata
namespace Go.Proofs.YtmficcifapfkdabDoor
open Go Go.Kf

theorem rfA : RfFacts P N 52 := .of (by kernel_rfl) (by kernel_rfl) (by kernel_rfl) (by kernel_rfl) (by kernel_rfl)
theorem errI : ∃ ms, P.underlying N.tErr = some (.interface ms) := iface_of (by kernel_rfl)
def mid0 : List Value := [.int .i16 0, .slice none 0 0, .slice none 0 0, .slice none 0 0, .int .i32 (-1), .pointer none]
def tyt : List Ty := [.list [.text], .octs, .list (tysConsumerMemberMetadataOwnedPartition), .num .i32, .ntext]
theorem newV : NewVOk P 13 mid0 := newV_gives (S := 52) (s := 6) (z := .agg ⟨[.int .i16 0, .slice none 0 0, .slice none 0 0, .slice none 0 0, .int .i32 0, .pointer none]⟩) (dflt := dfConsumerMemberMetadata) rdF.mix (by kernel_rfl) (by kernel_rfl) rfl (by kernel_rfl) dokConsumerMemberMetadata (by kernel_rfl) (by kernel_rfl)
def ss0s : List Step := [.listP .len 39 1 48 1 .str 43 9, .call .nbytes 44 2 22 2]
theorem ok0s : StepsOk P N 52 lsConsumerMemberMetadata ss0s := ⟨⟨hArrayLen, ⟨by kernel_rfl, rfl, rfl⟩, .of (by kernel_rfl) (by kernel_rfl) (by kernel_rfl) (by decide), aString⟩, ⟨aNullableBytes, ⟨by kernel_rfl, rfl, rfl⟩, by kernel_rfl⟩, trivial⟩
theorem rt0s {e0 : Value} {l : List UInt8} (hv : ∀ x r', (PK.num 2 .i16).run ⟨l, false, l.isEmpty⟩ = (x, r') → ∀ y, (some 0) = some y → x = .one (.int .i16 y)) (hl : l.length ≤ 1073741824) : KeptRT P N 14 15 mid0 e0 (kOut (verStep N 38 :: ss0s) dfConsumerMemberMetadata gpConsumerMemberMetadata) l :=
  keptRT_of (e := E) (g := 28) (S := 52) (fDef := 27) (ds := dsConsumerMemberMetadata) (ls := lsConsumerMemberMetadata) (ss := ss0s) (vo := (some 0)) (orc := orcV 13 0) (uns := false) (fs0 := dfConsumerMemberMetadata) (fs1 := dfConsumerMemberMetadata) (mid0 := mid0) (mid1 := mid0) (ts := tyt)
    rdF rfA (fun _ => hOk) hComplete aInt16 (by kernel_rfl) ⟨by kernel_rfl, rfl, rfl⟩ (by kernel_rfl) (by kernel_rfl) defConsumerMemberMetadata ok0s rfl rfl rfl rfl (by kernel_rfl) (by kernel_rfl) (fun _ => rfl) rfl rfl rfl toldConsumerMemberMetadata hv hl
theorem door0s {w : World} {l : List UInt8} {data e0 : Value} (hv : ∀ x r', (PK.num 2 .i16).run ⟨l, false, l.isEmpty⟩ = (x, r') → ∀ y, (some 0) = some y → x = .one (.int .i16 y)) (hl : l.length ≤ 1073741824) (hd : DataIn w data l) (he : ErrAt w N.gErr e0) (he0 : ∃ d y, e0 = .iface d y) : Gives P 6 [data] w fun u w' => DoorPost w w' u (kOut (verStep N 38 :: ss0s) dfConsumerMemberMetadata gpConsumerMemberMetadata l) ∧ Keeps [] w w' :=
  keptDoor_gives (S := 52) (s := 6) (z := .agg ⟨[.int .i16 0, .slice none 0 0, .slice none 0 0, .slice none 0 0, .int .i32 0, .pointer none]⟩) (mid := mid0) rdF octF tellF tyZ (by kernel_rfl) errI he0 newV (by kernel_rfl) rfl (by kernel_rfl) (by kernel_rfl) rfA.ver rfA.oneI16 (rt0s hv hl) hl hd he

def ss1s : List Step := [.listP .len 39 1 48 1 .str 43 9, .call .nbytes 44 2 22 2, .listS .len 39 3 49 3 78 2 45 dfConsumerMemberMetadataOwnedPartition [.call .str 43 0 9 0, .listP .len 39 1 76 1 (.num 4 .i32) 46 21]]
theorem ok1s : StepsOk P N 52 lsConsumerMemberMetadata ss1s := ⟨⟨hArrayLen, ⟨by kernel_rfl, rfl, rfl⟩, .of (by kernel_rfl) (by kernel_rfl) (by kernel_rfl) (by decide), aString⟩, ⟨aNullableBytes, ⟨by kernel_rfl, rfl, rfl⟩, by kernel_rfl⟩, ⟨hArrayLen, ⟨by kernel_rfl, rfl, rfl⟩, .of (by kernel_rfl) (by kernel_rfl) (by kernel_rfl) (by decide), dokConsumerMemberMetadataOwnedPartition, rfl, ⟨⟨aString, ⟨by kernel_rfl, rfl, rfl⟩, by kernel_rfl⟩, ⟨hArrayLen, ⟨by kernel_rfl, rfl, rfl⟩, .of (by kernel_rfl) (by kernel_rfl) (by kernel_rfl) (by decide), aInt32⟩, trivial⟩⟩, trivial⟩
theorem rt1s {e0 : Value} {l : List UInt8} (hv : ∀ x r', (PK.num 2 .i16).run ⟨l, false, l.isEmpty⟩ = (x, r') → ∀ y, (some 1) = some y → x = .one (.int .i16 y)) (hl : l.length ≤ 1073741824) : KeptRT P N 14 15 mid0 e0 (kOut (verStep N 38 :: ss1s) dfConsumerMemberMetadata gpConsumerMemberMetadata) l :=
  keptRT_of (e := E) (g := 28) (S := 52) (fDef := 27) (ds := dsConsumerMemberMetadata) (ls := lsConsumerMemberMetadata) (ss := ss1s) (vo := (some 1)) (orc := orcV 13 1) (uns := false) (fs0 := dfConsumerMemberMetadata) (fs1 := dfConsumerMemberMetadata) (mid0 := mid0) (mid1 := mid0) (ts := tyt)
    rdF rfA (fun _ => hOk) hComplete aInt16 (by kernel_rfl) ⟨by kernel_rfl, rfl, rfl⟩ (by kernel_rfl) (by kernel_rfl) defConsumerMemberMetadata ok1s rfl rfl rfl rfl (by kernel_rfl) (by kernel_rfl) (fun _ => rfl) rfl rfl rfl toldConsumerMemberMetadata hv hl
theorem door1s {w : World} {l : List UInt8} {data e0 : Value} (hv : ∀ x r', (PK.num 2 .i16).run ⟨l, false, l.isEmpty⟩ = (x, r') → ∀ y, (some 1) = some y → x = .one (.int .i16 y)) (hl : l.length ≤ 1073741824) (hd : DataIn w data l) (he : ErrAt w N.gErr e0) (he0 : ∃ d y, e0 = .iface d y) : Gives P 6 [data] w fun u w' => DoorPost w w' u (kOut (verStep N 38 :: ss1s) dfConsumerMemberMetadata gpConsumerMemberMetadata l) ∧ Keeps [] w w' :=
  keptDoor_gives (S := 52) (s := 6) (z := .agg ⟨[.int .i16 0, .slice none 0 0, .slice none 0 0, .slice none 0 0, .int .i32 0, .pointer none]⟩) (mid := mid0) rdF octF tellF tyZ (by kernel_rfl) errI he0 newV (by kernel_rfl) rfl (by kernel_rfl) (by kernel_rfl) rfA.ver rfA.oneI16 (rt1s hv hl) hl hd he

def ss2s : List Step := [.listP .len 39 1 48 1 .str 43 9, .call .nbytes 44 2 22 2, .listS .len 39 3 49 3 78 2 45 dfConsumerMemberMetadataOwnedPartition [.call .str 43 0 9 0, .listP .len 39 1 76 1 (.num 4 .i32) 46 21], .call (.num 4 .i32) 46 4 21 4]
theorem ok2s : StepsOk P N 52 lsConsumerMemberMetadata ss2s := ⟨⟨hArrayLen, ⟨by kernel_rfl, rfl, rfl⟩, .of (by kernel_rfl) (by kernel_rfl) (by kernel_rfl) (by decide), aString⟩, ⟨aNullableBytes, ⟨by kernel_rfl, rfl, rfl⟩, by kernel_rfl⟩, ⟨hArrayLen, ⟨by kernel_rfl, rfl, rfl⟩, .of (by kernel_rfl) (by kernel_rfl) (by kernel_rfl) (by decide), dokConsumerMemberMetadataOwnedPartition, rfl, ⟨⟨aString, ⟨by kernel_rfl, rfl, rfl⟩, by kernel_rfl⟩, ⟨hArrayLen, ⟨by kernel_rfl, rfl, rfl⟩, .of (by kernel_rfl) (by kernel_rfl) (by kernel_rfl) (by decide), aInt32⟩, trivial⟩⟩, ⟨aInt32, ⟨by kernel_rfl, rfl, rfl⟩, by kernel_rfl⟩, trivial⟩
theorem rt2s {e0 : Value} {l : List UInt8} (hv : ∀ x r', (PK.num 2 .i16).run ⟨l, false, l.isEmpty⟩ = (x, r') → ∀ y, (some 2) = some y → x = .one (.int .i16 y)) (hl : l.length ≤ 1073741824) : KeptRT P N 14 15 mid0 e0 (kOut (verStep N 38 :: ss2s) dfConsumerMemberMetadata gpConsumerMemberMetadata) l :=
  keptRT_of (e := E) (g := 28) (S := 52) (fDef := 27) (ds := dsConsumerMemberMetadata) (ls := lsConsumerMemberMetadata) (ss := ss2s) (vo := (some 2)) (orc := orcV 13 2) (uns := false) (fs0 := dfConsumerMemberMetadata) (fs1 := dfConsumerMemberMetadata) (mid0 := mid0) (mid1 := mid0) (ts := tyt)
    rdF rfA (fun _ => hOk) hComplete aInt16 (by kernel_rfl) ⟨by kernel_rfl, rfl, rfl⟩ (by kernel_rfl) (by kernel_rfl) defConsumerMemberMetadata ok2s rfl rfl rfl rfl (by kernel_rfl) (by kernel_rfl) (fun _ => rfl) rfl rfl rfl toldConsumerMemberMetadata hv hl
theorem door2s {w : World} {l : List UInt8} {data e0 : Value} (hv : ∀ x r', (PK.num 2 .i16).run ⟨l, false, l.isEmpty⟩ = (x, r') → ∀ y, (some 2) = some y → x = .one (.int .i16 y)) (hl : l.length ≤ 1073741824) (hd : DataIn w data l) (he : ErrAt w N.gErr e0) (he0 : ∃ d y, e0 = .iface d y) : Gives P 6 [data] w fun u w' => DoorPost w w' u (kOut (verStep N 38 :: ss2s) dfConsumerMemberMetadata gpConsumerMemberMetadata l) ∧ Keeps [] w w' :=
  keptDoor_gives (S := 52) (s := 6) (z := .agg ⟨[.int .i16 0, .slice none 0 0, .slice none 0 0, .slice none 0 0, .int .i32 0, .pointer none]⟩) (mid := mid0) rdF octF tellF tyZ (by kernel_rfl) errI he0 newV (by kernel_rfl) rfl (by kernel_rfl) (by kernel_rfl) rfA.ver rfA.oneI16 (rt2s hv hl) hl hd he

def ss3s : List Step := [.listP .len 39 1 48 1 .str 43 9, .call .nbytes 44 2 22 2, .listS .len 39 3 49 3 78 2 45 dfConsumerMemberMetadataOwnedPartition [.call .str 43 0 9 0, .listP .len 39 1 76 1 (.num 4 .i32) 46 21], .call (.num 4 .i32) 46 4 21 4, .call .nstr 48 5 50 5]
theorem ok3s : StepsOk P N 52 lsConsumerMemberMetadata ss3s := ⟨⟨hArrayLen, ⟨by kernel_rfl, rfl, rfl⟩, .of (by kernel_rfl) (by kernel_rfl) (by kernel_rfl) (by decide), aString⟩, ⟨aNullableBytes, ⟨by kernel_rfl, rfl, rfl⟩, by kernel_rfl⟩, ⟨hArrayLen, ⟨by kernel_rfl, rfl, rfl⟩, .of (by kernel_rfl) (by kernel_rfl) (by kernel_rfl) (by decide), dokConsumerMemberMetadataOwnedPartition, rfl, ⟨⟨aString, ⟨by kernel_rfl, rfl, rfl⟩, by kernel_rfl⟩, ⟨hArrayLen, ⟨by kernel_rfl, rfl, rfl⟩, .of (by kernel_rfl) (by kernel_rfl) (by kernel_rfl) (by decide), aInt32⟩, trivial⟩⟩, ⟨aInt32, ⟨by kernel_rfl, rfl, rfl⟩, by kernel_rfl⟩, ⟨aNullableString, ⟨by kernel_rfl, rfl, rfl⟩, by kernel_rfl⟩, trivial⟩
theorem rt3s {e0 : Value} {l : List UInt8} (hv : ∀ x r', (PK.num 2 .i16).run ⟨l, false, l.isEmpty⟩ = (x, r') → ∀ y, (some 3) = some y → x = .one (.int .i16 y)) (hl : l.length ≤ 1073741824) : KeptRT P N 14 15 mid0 e0 (kOut (verStep N 38 :: ss3s) dfConsumerMemberMetadata gpConsumerMemberMetadata) l :=
  keptRT_of (e := E) (g := 28) (S := 52) (fDef := 27) (ds := dsConsumerMemberMetadata) (ls := lsConsumerMemberMetadata) (ss := ss3s) (vo := (some 3)) (orc := orcV 13 3) (uns := false) (fs0 := dfConsumerMemberMetadata) (fs1 := dfConsumerMemberMetadata) (mid0 := mid0) (mid1 := mid0) (ts := tyt)
    rdF rfA (fun _ => hOk) hComplete aInt16 (by kernel_rfl) ⟨by kernel_rfl, rfl, rfl⟩ (by kernel_rfl) (by kernel_rfl) defConsumerMemberMetadata ok3s rfl rfl rfl rfl (by kernel_rfl) (by kernel_rfl) (fun _ => rfl) rfl rfl rfl toldConsumerMemberMetadata hv hl
theorem door3s {w : World} {l : List UInt8} {data e0 : Value} (hv : ∀ x r', (PK.num 2 .i16).run ⟨l, false, l.isEmpty⟩ = (x, r') → ∀ y, (some 3) = some y → x = .one (.int .i16 y)) (hl : l.length ≤ 1073741824) (hd : DataIn w data l) (he : ErrAt w N.gErr e0) (he0 : ∃ d y, e0 = .iface d y) : Gives P 6 [data] w fun u w' => DoorPost w w' u (kOut (verStep N 38 :: ss3s) dfConsumerMemberMetadata gpConsumerMemberMetadata l) ∧ Keeps [] w w' :=
  keptDoor_gives (S := 52) (s := 6) (z := .agg ⟨[.int .i16 0, .slice none 0 0, .slice none 0 0, .slice none 0 0, .int .i32 0, .pointer none]⟩) (mid := mid0) rdF octF tellF tyZ (by kernel_rfl) errI he0 newV (by kernel_rfl) rfl (by kernel_rfl) (by kernel_rfl) rfA.ver rfA.oneI16 (rt3s hv hl) hl hd he

def tdConsumerMemberMetadataOwnedPartition : List TD := [.prim 0, .lprim 1]
def tgConsumerMemberMetadataOwnedPartition : Option Nat := none
def tdConsumerMemberMetadata : List TD := [.lprim 1, .prim 2, .lsub 3 tdConsumerMemberMetadataOwnedPartition tgConsumerMemberMetadataOwnedPartition, .prim 4, .prim 5]
def tgConsumerMemberMetadata : Option Nat := none
theorem gpTd : gpConsumerMemberMetadata = tdGp tdConsumerMemberMetadata tgConsumerMemberMetadata := by kernel_rfl
theorem kOk2 : kPart pf ≤ 1023 := of_decide_eq_true (by kernel_rfl)
def ssAll : List (List Step) := [ss0s, ss1s, ss2s, ss3s]
def outK (v : Nat) (l : List UInt8) : Option PT := kOut (verStep N 38 :: ssAll.getD v []) dfConsumerMemberMetadata gpConsumerMemberMetadata l

theorem out0 (l : List UInt8) : outK 0 l = kOut (verStep N 38 :: ss0s) dfConsumerMemberMetadata gpConsumerMemberMetadata l := rfl
theorem told0 (t : PT) (hok : t.ok) : ∃ g, outK 0 (pKept pf (-1) 0 t) = some g ∧ g.n = (0 : Int) ∧ pTold pf 0 (pFlex (-1) 0) t g = true := by
  rw [out0]
  exact kOut_kept (ds := tdConsumerMemberMetadata) (tg := tgConsumerMemberMetadata) plainOk (fun gs => congrFun gpTd gs) (by decide) (by decide) (by kernel_rfl) t hok
theorem out1 (l : List UInt8) : outK 1 l = kOut (verStep N 38 :: ss1s) dfConsumerMemberMetadata gpConsumerMemberMetadata l := rfl
theorem told1 (t : PT) (hok : t.ok) : ∃ g, outK 1 (pKept pf (-1) 1 t) = some g ∧ g.n = (1 : Int) ∧ pTold pf 1 (pFlex (-1) 1) t g = true := by
  rw [out1]
  exact kOut_kept (ds := tdConsumerMemberMetadata) (tg := tgConsumerMemberMetadata) plainOk (fun gs => congrFun gpTd gs) (by decide) (by decide) (by kernel_rfl) t hok
theorem out2 (l : List UInt8) : outK 2 l = kOut (verStep N 38 :: ss2s) dfConsumerMemberMetadata gpConsumerMemberMetadata l := rfl
theorem told2 (t : PT) (hok : t.ok) : ∃ g, outK 2 (pKept pf (-1) 2 t) = some g ∧ g.n = (2 : Int) ∧ pTold pf 2 (pFlex (-1) 2) t g = true := by
  rw [out2]
  exact kOut_kept (ds := tdConsumerMemberMetadata) (tg := tgConsumerMemberMetadata) plainOk (fun gs => congrFun gpTd gs) (by decide) (by decide) (by kernel_rfl) t hok
theorem out3 (l : List UInt8) : outK 3 l = kOut (verStep N 38 :: ss3s) dfConsumerMemberMetadata gpConsumerMemberMetadata l := rfl
theorem told3 (t : PT) (hok : t.ok) : ∃ g, outK 3 (pKept pf (-1) 3 t) = some g ∧ g.n = (3 : Int) ∧ pTold pf 3 (pFlex (-1) 3) t g = true := by
  rw [out3]
  exact kOut_kept (ds := tdConsumerMemberMetadata) (tg := tgConsumerMemberMetadata) plainOk (fun gs => congrFun gpTd gs) (by decide) (by decide) (by kernel_rfl) t hok
theorem allTold (v : Nat) (hv : v < 4) (t : PT) (hok : t.ok) : ∃ g, outK v (pKept pf (-1) v t) = some g ∧ g.n = (v : Int) ∧ pTold pf v (pFlex (-1) v) t g = true := by
  have h : v = 0 ∨ v = 1 ∨ v = 2 ∨ v = 3 := by omega
  rcases h with rfl | rfl | rfl | rfl
  · exact told0 t hok
  · exact told1 t hok
  · exact told2 t hok
  · exact told3 t hok
theorem allTell (v : Nat) (hv : v < 4) (t : PT) (hle : (pKept pf (-1) v t).length ≤ 1073741824) (w : World) (data e0 : Value) (hd : DataIn w data (pKept pf (-1) v t)) (he : ErrAt w N.gErr e0) (he0 : ∃ d y, e0 = .iface d y) : Gives P 6 [data] w fun u w' => DoorPost w w' u (outK v (pKept pf (-1) v t)) ∧ Keeps [] w w' := by
  have h : v = 0 ∨ v = 1 ∨ v = 2 ∨ v = 3 := by omega
  rcases h with rfl | rfl | rfl | rfl
  · rw [out0]; exact door0s (kept_ver (by decide)) hle hd he he0
  · rw [out1]; exact door1s (kept_ver (by decide)) hle hd he he0
  · rw [out2]; exact door2s (kept_ver (by decide)) hle hd he he0
  · rw [out3]; exact door3s (kept_ver (by decide)) hle hd he he0
/-- The law: whatever the tree. -/
theorem lawOk (w : World) (n : Nat) (hn : n < 256) (t : PT) (ts : List Value) (e0 : Value) (ht : TreeC w t ts) (hok : t.ok) (hwt : t.wt ≤ 1048576) (he : ErrAt w N.gErr e0) (he0 : ∃ d y, e0 = .iface d y) : Gives P 3 [.int .u8 n, .agg ⟨ts⟩] w fun v w' => v = .bool true ∧ Keeps [] w w' :=
  have hv : n % 4 < 4 := Nat.mod_lt _ (by decide)
  have hle : (pKept pf (-1) (n % 4 : Nat) t).length ≤ 1073741824 := by
    have h := Nat.le_trans (pWrite_len plainOk (-1) (n % 4 : Nat) t) (Nat.mul_le_mul kOk2 hwt)
    unfold pKept
    rw [List.length_append, pFixed_length]
    omega
  tellLawK_gives (fKept := 7) (m := 4) (fs := pf) (x := (-1)) (out := outK (n % 4)) (e0 := e0) spF spT tlT fitT tellF tyZ (by kernel_rfl) (by kernel_rfl) plainOk (by decide) ⟨_, fbF.zero, rfl⟩ (by decide) hn msgOk (fun w data hd he => allTell _ hv t hle w data e0 hd he he0) (allTold _ hv t hok) hle hGot ht hok he
end Go.Proofs.YtmficcifapfkdabDoor
