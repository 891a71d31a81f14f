/- ConsumerGroupHeartbeatRequest: read, and Default called. -/
import Derived.Test.YtlhbhamopejgcaaGreatDoorRMsgConsumerGroupHeartbeatRequest
import Derived.Test.YtlhbhamopejgcaaGreatDoorRFieldsConsumerGroupHeartbeatRequest
namespace Go.Proofs.YtlhbhamopejgcaaGreatDoorR
open Go Go.Kf

def tdConsumerGroupHeartbeatRequestTopic : List TD := [.prim 0, .lprim 1]
def tgConsumerGroupHeartbeatRequestTopic : Option Nat := some 2
def tdConsumerGroupHeartbeatRequest : List TD := [.prim 1, .prim 2, .prim 3, .prim 4, .prim 5, .prim 6, .lprim 7, .prim 8, .prim 9, .lsub 10 tdConsumerGroupHeartbeatRequestTopic tgConsumerGroupHeartbeatRequestTopic]
def tgConsumerGroupHeartbeatRequest : Option Nat := some 11
theorem gpTd : gpConsumerGroupHeartbeatRequest = tdGp tdConsumerGroupHeartbeatRequest tgConsumerGroupHeartbeatRequest := by kernel_rfl
theorem rfA : RfFacts P N 72 := .of (by kernel_rfl) (by kernel_rfl) (by kernel_rfl) (by kernel_rfl) (by kernel_rfl)
theorem errI : ∃ ms, P.underlying N.tErr = some (.interface ms) := iface_of (by kernel_rfl)
def mid : List Value := [.string (strOf []), .string (strOf []), .int .i32 0, .pointer none, .pointer none, .int .i32 (-1), .slice none 0 0, .pointer none, .pointer none, .slice none 0 0, .map none]
def fsAt (v : Int) : List FV := .one (.int .i16 v) :: [.text [], .text [], .one (.int .i32 0), .ntext none, .ntext none, .one (.int .i32 (-1)), .list true [], .ntext none, .ntext none, .list true [], .tags []]
theorem newOk : NewOk P 13 (.int .i16 0 :: mid) := new_gives rdF.mix (by kernel_rfl : zeroTy P 72 = some (.agg ⟨.int .i16 0 :: [.string (strOf []), .string (strOf []), .int .i32 0, .pointer none, .pointer none, .int .i32 0, .slice none 0 0, .pointer none, .pointer none, .slice none 0 0, .map none]⟩, 12)) dokConsumerGroupHeartbeatRequest (by kernel_rfl) (by kernel_rfl)

def ss0s : List Step := [.call .cstr 39 1 9 1, .call .cstr 39 2 9 2, .call (.num 4 .i32) 41 3 21 3, .call .cnstr 43 4 65 4, .call .cnstr 43 5 65 5, .call (.num 4 .i32) 41 6 21 6, .listP .nclen 46 7 66 7 .cstr 39 9, .call .cnstr 43 9 65 9, .listS .nclen 46 10 67 10 80 18 50 dfConsumerGroupHeartbeatRequestTopic [.uuid 51 0 0, .listP .clen 46 1 78 16 (.num 4 .i32) 41 21, .call .tags 52 2 70 17], .call .tags 52 11 70 11]
theorem ok0s : StepsOk P N 72 lsConsumerGroupHeartbeatRequest ss0s := ⟨⟨aCompactString, ⟨by kernel_rfl, rfl, rfl⟩, by kernel_rfl⟩, ⟨aCompactString, ⟨by kernel_rfl, rfl, rfl⟩, by kernel_rfl⟩, ⟨aInt32, ⟨by kernel_rfl, rfl, rfl⟩, by kernel_rfl⟩, ⟨aCompactNullableString, ⟨by kernel_rfl, rfl, rfl⟩, by kernel_rfl⟩, ⟨aCompactNullableString, ⟨by kernel_rfl, rfl, rfl⟩, by kernel_rfl⟩, ⟨aInt32, ⟨by kernel_rfl, rfl, rfl⟩, by kernel_rfl⟩, ⟨hCompactArrayLen, ⟨by kernel_rfl, rfl, rfl⟩, .of (by kernel_rfl) (by kernel_rfl) (by kernel_rfl) (by decide), aCompactString⟩, ⟨aCompactNullableString, ⟨by kernel_rfl, rfl, rfl⟩, by kernel_rfl⟩, ⟨hCompactArrayLen, ⟨by kernel_rfl, rfl, rfl⟩, .of (by kernel_rfl) (by kernel_rfl) (by kernel_rfl) (by decide), dokConsumerGroupHeartbeatRequestTopic, rfl, ⟨⟨aUuid, ⟨by kernel_rfl, rfl, rfl⟩, uuidF⟩, ⟨hCompactArrayLen, ⟨by kernel_rfl, rfl, rfl⟩, .of (by kernel_rfl) (by kernel_rfl) (by kernel_rfl) (by decide), aInt32⟩, ⟨aTags, ⟨by kernel_rfl, rfl, rfl⟩, by kernel_rfl⟩, trivial⟩⟩, ⟨aTags, ⟨by kernel_rfl, rfl, rfl⟩, by kernel_rfl⟩, trivial⟩
theorem rd0 (t : PT) (hok : t.ok) (hle : (pWrite pf 0 0 t).length ≤ 1073741824) : ∃ fs1, (∀ e0, ReadsTo P N 17 0 mid e0 (pWrite pf 0 0 t) fs1) ∧ RepPart 0 (pFlex 0 0) pf t fs1 1 ∧ okFs fs1 tysConsumerGroupHeartbeatRequest ∧ fs1[0]? = some (.one (.int .i16 0)) := by
  obtain ⟨fs1, h1, _, h3, h4⟩ := rt_whole (p := 1) plainOk (by kernel_rfl : rtPlain 0 (pFlex 0 0) pf ss0s tdConsumerGroupHeartbeatRequest (fsAt 0) 1 tgConsumerGroupHeartbeatRequest = true) t hok
  refine ⟨fs1, fun e0 => readsTo_of (e := E) (g := 24) (S := 72) (fDef := 18) (ds := dsConsumerGroupHeartbeatRequest) (ls := lsConsumerGroupHeartbeatRequest) (ss := ss0s) (uns := false) (fs0 := fsAt 0) (fs1 := fsAt 0) (mid1 := .int .i16 0 :: mid) rdF rfA (fun _ => hOk) hComplete (by kernel_rfl) (by kernel_rfl) defConsumerGroupHeartbeatRequest ok0s rfl rfl rfl rfl rfl (by kernel_rfl) (by kernel_rfl) rfl rfl hle h1 rfl, h3, ?_, ?_⟩
  · exact runSteps_ok ss0s tysConsumerGroupHeartbeatRequest (fsAt 0) _ fs1 _ rfl (okImms_ok rfl) hle h1
  · rw [h4 0 (by decide)]; rfl

theorem dft0 (w : World) (t : PT) (hok : t.ok) (hle : (pWrite pf 0 0 t).length ≤ 1073741824) (data e0 : Value) (hr : DataIn w data (pWrite pf 0 0 t)) (he : ErrAt w N.gErr e0) : Gives P 8 [.int .i64 0, data] w fun u w' => (∃ g, DoorPost w w' u (some g) ∧ pDefs pf g 0 = true) ∧ Keeps [] w w' := by
  obtain ⟨fs1, h1, h2, h3, h4⟩ := rd0 t hok hle
  refine (dftDoor_gives (S := 72) (fSet := 16) (ds := dsConsumerGroupHeartbeatRequest) (ts := tysConsumerGroupHeartbeatRequest) rdF octF tellF tyZ (by kernel_rfl) errI (by decide) newOk (by kernel_rfl) (by kernel_rfl) (by kernel_rfl) (h1 e0) defConsumerGroupHeartbeatRequest (by kernel_rfl) (by kernel_rfl) h3 toldConsumerGroupHeartbeatRequest hle hr he).mono fun u w' h => ⟨⟨_, h.1, ?_⟩, h.2⟩
  rw [gpTd]
  exact df_message (p := 1) (gs := fs1) (by kernel_rfl) (by kernel_rfl) (by have := congrArg List.length (okFs_map _ _ h3); simp only [List.length_map] at this; rw [this]; decide)

def ss1s : List Step := [.call .cstr 39 1 9 1, .call .cstr 39 2 9 2, .call (.num 4 .i32) 41 3 21 3, .call .cnstr 43 4 65 4, .call .cnstr 43 5 65 5, .call (.num 4 .i32) 41 6 21 6, .listP .nclen 46 7 66 7 .cstr 39 9, .call .cnstr 43 8 65 8, .call .cnstr 43 9 65 9, .listS .nclen 46 10 67 10 80 18 50 dfConsumerGroupHeartbeatRequestTopic [.uuid 51 0 0, .listP .clen 46 1 78 16 (.num 4 .i32) 41 21, .call .tags 52 2 70 17], .call .tags 52 11 70 11]
theorem ok1s : StepsOk P N 72 lsConsumerGroupHeartbeatRequest ss1s := ⟨⟨aCompactString, ⟨by kernel_rfl, rfl, rfl⟩, by kernel_rfl⟩, ⟨aCompactString, ⟨by kernel_rfl, rfl, rfl⟩, by kernel_rfl⟩, ⟨aInt32, ⟨by kernel_rfl, rfl, rfl⟩, by kernel_rfl⟩, ⟨aCompactNullableString, ⟨by kernel_rfl, rfl, rfl⟩, by kernel_rfl⟩, ⟨aCompactNullableString, ⟨by kernel_rfl, rfl, rfl⟩, by kernel_rfl⟩, ⟨aInt32, ⟨by kernel_rfl, rfl, rfl⟩, by kernel_rfl⟩, ⟨hCompactArrayLen, ⟨by kernel_rfl, rfl, rfl⟩, .of (by kernel_rfl) (by kernel_rfl) (by kernel_rfl) (by decide), aCompactString⟩, ⟨aCompactNullableString, ⟨by kernel_rfl, rfl, rfl⟩, by kernel_rfl⟩, ⟨aCompactNullableString, ⟨by kernel_rfl, rfl, rfl⟩, by kernel_rfl⟩, ⟨hCompactArrayLen, ⟨by kernel_rfl, rfl, rfl⟩, .of (by kernel_rfl) (by kernel_rfl) (by kernel_rfl) (by decide), dokConsumerGroupHeartbeatRequestTopic, rfl, ⟨⟨aUuid, ⟨by kernel_rfl, rfl, rfl⟩, uuidF⟩, ⟨hCompactArrayLen, ⟨by kernel_rfl, rfl, rfl⟩, .of (by kernel_rfl) (by kernel_rfl) (by kernel_rfl) (by decide), aInt32⟩, ⟨aTags, ⟨by kernel_rfl, rfl, rfl⟩, by kernel_rfl⟩, trivial⟩⟩, ⟨aTags, ⟨by kernel_rfl, rfl, rfl⟩, by kernel_rfl⟩, trivial⟩
theorem rd1 (t : PT) (hok : t.ok) (hle : (pWrite pf 0 1 t).length ≤ 1073741824) : ∃ fs1, (∀ e0, ReadsTo P N 17 1 mid e0 (pWrite pf 0 1 t) fs1) ∧ RepPart 1 (pFlex 0 1) pf t fs1 1 ∧ okFs fs1 tysConsumerGroupHeartbeatRequest ∧ fs1[0]? = some (.one (.int .i16 1)) := by
  obtain ⟨fs1, h1, _, h3, h4⟩ := rt_whole (p := 1) plainOk (by kernel_rfl : rtPlain 1 (pFlex 0 1) pf ss1s tdConsumerGroupHeartbeatRequest (fsAt 1) 1 tgConsumerGroupHeartbeatRequest = true) t hok
  refine ⟨fs1, fun e0 => readsTo_of (e := E) (g := 24) (S := 72) (fDef := 18) (ds := dsConsumerGroupHeartbeatRequest) (ls := lsConsumerGroupHeartbeatRequest) (ss := ss1s) (uns := false) (fs0 := fsAt 1) (fs1 := fsAt 1) (mid1 := .int .i16 1 :: mid) rdF rfA (fun _ => hOk) hComplete (by kernel_rfl) (by kernel_rfl) defConsumerGroupHeartbeatRequest ok1s rfl rfl rfl rfl rfl (by kernel_rfl) (by kernel_rfl) rfl rfl hle h1 rfl, h3, ?_, ?_⟩
  · exact runSteps_ok ss1s tysConsumerGroupHeartbeatRequest (fsAt 1) _ fs1 _ rfl (okImms_ok rfl) hle h1
  · rw [h4 0 (by decide)]; rfl

theorem dft1 (w : World) (t : PT) (hok : t.ok) (hle : (pWrite pf 0 1 t).length ≤ 1073741824) (data e0 : Value) (hr : DataIn w data (pWrite pf 0 1 t)) (he : ErrAt w N.gErr e0) : Gives P 8 [.int .i64 1, data] w fun u w' => (∃ g, DoorPost w w' u (some g) ∧ pDefs pf g 0 = true) ∧ Keeps [] w w' := by
  obtain ⟨fs1, h1, h2, h3, h4⟩ := rd1 t hok hle
  refine (dftDoor_gives (S := 72) (fSet := 16) (ds := dsConsumerGroupHeartbeatRequest) (ts := tysConsumerGroupHeartbeatRequest) rdF octF tellF tyZ (by kernel_rfl) errI (by decide) newOk (by kernel_rfl) (by kernel_rfl) (by kernel_rfl) (h1 e0) defConsumerGroupHeartbeatRequest (by kernel_rfl) (by kernel_rfl) h3 toldConsumerGroupHeartbeatRequest hle hr he).mono fun u w' h => ⟨⟨_, h.1, ?_⟩, h.2⟩
  rw [gpTd]
  exact df_message (p := 1) (gs := fs1) (by kernel_rfl) (by kernel_rfl) (by have := congrArg List.length (okFs_map _ _ h3); simp only [List.length_map] at this; rw [this]; decide)

theorem dftAll (v : Nat) (hv : v ≤ 1) (w : World) (t : PT) (hok : t.ok) (hle : (pWrite pf 0 v t).length ≤ 1073741824) (data e0 : Value) (hr : DataIn w data (pWrite pf 0 v t)) (he : ErrAt w N.gErr e0) : Gives P 8 [.int .i64 v, data] w fun u w' => (∃ g, DoorPost w w' u (some g) ∧ pDefs pf g 0 = true) ∧ Keeps [] w w' := by
  have h : v = 0 ∨ v = 1 := by omega
  rcases h with rfl | rfl
  · exact dft0 w t hok hle data e0 hr he
  · exact dft1 w t hok hle data e0 hr he
theorem maxOk (w : World) : Gives P 5 [] w fun v w' => v = .int .i64 (1 : Nat) ∧ Keeps [] w w' := max_gives (fNew := 13) (fMax := 14) (m := 1) rdF newOk (by kernel_rfl) (by kernel_rfl) rfl
theorem verOk (n : Nat) (hn : n < 256) (w : World) : Gives P 7 [.int .u8 n, .int .i64 (1 : Nat)] w fun v w' => v = .int .i64 (n % (1 + 1) : Nat) ∧ w' = w := version_gives rdF (by kernel_rfl) hn (by decide)

/-- The law: whatever the tree. -/
theorem lawOk (w : World) (n : Nat) (hn : n < 256) (t : PT) (ts : List Value) (e0 : Value) (ht : TreeC w t ts) (hok : t.ok) (hwt : t.wt ≤ 1048576) (he : ErrAt w N.gErr e0) (_ : ∃ d y, e0 = .iface d y) : Gives P 3 [.int .u8 n, .agg ⟨ts⟩] w fun v w' => v = .bool true ∧ Keeps [] w w' :=
  have hv : n % (1 + 1) ≤ 1 := Nat.le_of_lt_succ (Nat.mod_lt _ (by decide))
  have hle : (pWrite pf 0 (n % (1 + 1) : Nat) t).length ≤ 1073741824 := Nat.le_trans (pWrite_len plainOk _ _ t) (Nat.mul_le_mul kOk hwt)
  dftLaw_gives (m := 1) (fs := pf) (x := 0) (e0 := e0) (fDfts := 10) spF spT (by kernel_rfl) (by kernel_rfl) (by kernel_rfl) fitT tellF tyZ (by kernel_rfl) plainOk (by decide) ⟨_, fbF.zero, rfl⟩ maxOk (verOk n hn) msgOk (fun w data hr he => dftAll _ hv w t hok hle data e0 hr he) hle hGot ht hok he
end Go.Proofs.YtlhbhamopejgcaaGreatDoorR
