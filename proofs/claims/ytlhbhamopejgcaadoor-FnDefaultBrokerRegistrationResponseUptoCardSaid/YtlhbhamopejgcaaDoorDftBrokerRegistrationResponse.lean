/- BrokerRegistrationResponse: read, and Default called. -/
import Derived.Test.YtlhbhamopejgcaaDoorMsgBrokerRegistrationResponse
import Derived.Test.YtlhbhamopejgcaaDoorFieldsBrokerRegistrationResponse
namespace Go.Proofs.YtlhbhamopejgcaaDoor
open Go Go.Kf

def tdBrokerRegistrationResponse : List TD := [.prim 1, .prim 2, .prim 3]
def tgBrokerRegistrationResponse : Option Nat := some 4
theorem gpTd : gpBrokerRegistrationResponse = tdGp tdBrokerRegistrationResponse tgBrokerRegistrationResponse := by kernel_rfl
theorem rfA : RfFacts P N 74 := .of (by kernel_rfl) (by kernel_rfl) (by kernel_rfl) (by kernel_rfl) (by kernel_rfl)
theorem errI : ∃ ms, P.underlying N.tErr = some (.interface ms) := iface_of (by kernel_rfl)
def mid : List Value := [.int .i32 0, .int .i16 0, .int .i64 (-1), .map none]
def fsAt (v : Int) : List FV := .one (.int .i16 v) :: [.one (.int .i32 0), .one (.int .i16 0), .one (.int .i64 (-1)), .tags []]
theorem newOk : NewOk P 18 (.int .i16 0 :: mid) := new_gives rdF.mix (by kernel_rfl : zeroTy P 74 = some (.agg ⟨.int .i16 0 :: [.int .i32 0, .int .i16 0, .int .i64 0, .map none]⟩, 5)) dokBrokerRegistrationResponse (by kernel_rfl) (by kernel_rfl)

def ss0s : List Step := [.call (.num 4 .i32) 50 1 21 1, .call (.num 2 .i16) 51 2 47 2, .call (.num 8 .i64) 52 3 2 3, .call .tags 53 4 72 4]
theorem ok0s : StepsOk P N 74 lsBrokerRegistrationResponse ss0s := ⟨⟨aInt32, ⟨by kernel_rfl, rfl, rfl⟩, by kernel_rfl⟩, ⟨aInt16, ⟨by kernel_rfl, rfl, rfl⟩, by kernel_rfl⟩, ⟨aInt64, ⟨by kernel_rfl, rfl, rfl⟩, by kernel_rfl⟩, ⟨aTags, ⟨by kernel_rfl, rfl, rfl⟩, by kernel_rfl⟩, trivial⟩
theorem rd0 (t : PT) (hok : t.ok) (hle : (pWrite pf 0 0 t).length ≤ 1073741824) : ∃ fs1, (∀ e0, ReadsTo P N 21 0 mid e0 (pWrite pf 0 0 t) fs1) ∧ RepPart 0 (pFlex 0 0) pf t fs1 1 ∧ okFs fs1 tysBrokerRegistrationResponse ∧ fs1[0]? = some (.one (.int .i16 0)) := by
  obtain ⟨fs1, h1, _, h3, h4⟩ := rt_whole (p := 1) plainOk (by kernel_rfl : rtPlain 0 (pFlex 0 0) pf ss0s tdBrokerRegistrationResponse (fsAt 0) 1 tgBrokerRegistrationResponse = true) t hok
  refine ⟨fs1, fun e0 => readsTo_of (e := E) (g := 35) (S := 74) (fDef := 22) (ds := dsBrokerRegistrationResponse) (ls := lsBrokerRegistrationResponse) (ss := ss0s) (uns := false) (fs0 := fsAt 0) (fs1 := fsAt 0) (mid1 := .int .i16 0 :: mid) rdF rfA (fun h => by cases h) hComplete (by kernel_rfl) (by kernel_rfl) defBrokerRegistrationResponse ok0s rfl rfl rfl rfl rfl (by kernel_rfl) (by kernel_rfl) rfl rfl hle h1 rfl, h3, ?_, ?_⟩
  · exact runSteps_ok ss0s tysBrokerRegistrationResponse (fsAt 0) _ fs1 _ rfl (okImms_ok rfl) hle h1
  · rw [h4 0 (by decide)]; rfl

theorem dft0 (w : World) (t : PT) (hok : t.ok) (hle : (pWrite pf 0 0 t).length ≤ 1073741824) (data e0 : Value) (hr : DataIn w data (pWrite pf 0 0 t)) (he : ErrAt w N.gErr e0) : Gives P 9 [.int .i64 0, data] w fun u w' => (∃ g, DoorPost w w' u (some g) ∧ pDefs pf g 0 = true) ∧ Keeps [] w w' := by
  obtain ⟨fs1, h1, h2, h3, h4⟩ := rd0 t hok hle
  refine (dftDoor_gives (S := 74) (fSet := 20) (ds := dsBrokerRegistrationResponse) (ts := tysBrokerRegistrationResponse) rdF octF tellF tyZ (by kernel_rfl) errI (by decide) newOk (by kernel_rfl) (by kernel_rfl) (by kernel_rfl) (h1 e0) defBrokerRegistrationResponse (by kernel_rfl) (by kernel_rfl) h3 toldBrokerRegistrationResponse hle hr he).mono fun u w' h => ⟨⟨_, h.1, ?_⟩, h.2⟩
  rw [gpTd]
  exact df_message (p := 1) (gs := fs1) (by kernel_rfl) (by kernel_rfl) (by have := congrArg List.length (okFs_map _ _ h3); simp only [List.length_map] at this; rw [this]; decide)

def ss1s : List Step := [.call (.num 4 .i32) 50 1 21 1, .call (.num 2 .i16) 51 2 47 2, .call (.num 8 .i64) 52 3 2 3, .call .tags 53 4 72 4]
theorem ok1s : StepsOk P N 74 lsBrokerRegistrationResponse ss1s := ⟨⟨aInt32, ⟨by kernel_rfl, rfl, rfl⟩, by kernel_rfl⟩, ⟨aInt16, ⟨by kernel_rfl, rfl, rfl⟩, by kernel_rfl⟩, ⟨aInt64, ⟨by kernel_rfl, rfl, rfl⟩, by kernel_rfl⟩, ⟨aTags, ⟨by kernel_rfl, rfl, rfl⟩, by kernel_rfl⟩, trivial⟩
theorem rd1 (t : PT) (hok : t.ok) (hle : (pWrite pf 0 1 t).length ≤ 1073741824) : ∃ fs1, (∀ e0, ReadsTo P N 21 1 mid e0 (pWrite pf 0 1 t) fs1) ∧ RepPart 1 (pFlex 0 1) pf t fs1 1 ∧ okFs fs1 tysBrokerRegistrationResponse ∧ fs1[0]? = some (.one (.int .i16 1)) := by
  obtain ⟨fs1, h1, _, h3, h4⟩ := rt_whole (p := 1) plainOk (by kernel_rfl : rtPlain 1 (pFlex 0 1) pf ss1s tdBrokerRegistrationResponse (fsAt 1) 1 tgBrokerRegistrationResponse = true) t hok
  refine ⟨fs1, fun e0 => readsTo_of (e := E) (g := 35) (S := 74) (fDef := 22) (ds := dsBrokerRegistrationResponse) (ls := lsBrokerRegistrationResponse) (ss := ss1s) (uns := false) (fs0 := fsAt 1) (fs1 := fsAt 1) (mid1 := .int .i16 1 :: mid) rdF rfA (fun h => by cases h) hComplete (by kernel_rfl) (by kernel_rfl) defBrokerRegistrationResponse ok1s rfl rfl rfl rfl rfl (by kernel_rfl) (by kernel_rfl) rfl rfl hle h1 rfl, h3, ?_, ?_⟩
  · exact runSteps_ok ss1s tysBrokerRegistrationResponse (fsAt 1) _ fs1 _ rfl (okImms_ok rfl) hle h1
  · rw [h4 0 (by decide)]; rfl

theorem dft1 (w : World) (t : PT) (hok : t.ok) (hle : (pWrite pf 0 1 t).length ≤ 1073741824) (data e0 : Value) (hr : DataIn w data (pWrite pf 0 1 t)) (he : ErrAt w N.gErr e0) : Gives P 9 [.int .i64 1, data] w fun u w' => (∃ g, DoorPost w w' u (some g) ∧ pDefs pf g 0 = true) ∧ Keeps [] w w' := by
  obtain ⟨fs1, h1, h2, h3, h4⟩ := rd1 t hok hle
  refine (dftDoor_gives (S := 74) (fSet := 20) (ds := dsBrokerRegistrationResponse) (ts := tysBrokerRegistrationResponse) rdF octF tellF tyZ (by kernel_rfl) errI (by decide) newOk (by kernel_rfl) (by kernel_rfl) (by kernel_rfl) (h1 e0) defBrokerRegistrationResponse (by kernel_rfl) (by kernel_rfl) h3 toldBrokerRegistrationResponse hle hr he).mono fun u w' h => ⟨⟨_, h.1, ?_⟩, h.2⟩
  rw [gpTd]
  exact df_message (p := 1) (gs := fs1) (by kernel_rfl) (by kernel_rfl) (by have := congrArg List.length (okFs_map _ _ h3); simp only [List.length_map] at this; rw [this]; decide)

def ss2s : List Step := [.call (.num 4 .i32) 50 1 21 1, .call (.num 2 .i16) 51 2 47 2, .call (.num 8 .i64) 52 3 2 3, .call .tags 53 4 72 4]
theorem ok2s : StepsOk P N 74 lsBrokerRegistrationResponse ss2s := ⟨⟨aInt32, ⟨by kernel_rfl, rfl, rfl⟩, by kernel_rfl⟩, ⟨aInt16, ⟨by kernel_rfl, rfl, rfl⟩, by kernel_rfl⟩, ⟨aInt64, ⟨by kernel_rfl, rfl, rfl⟩, by kernel_rfl⟩, ⟨aTags, ⟨by kernel_rfl, rfl, rfl⟩, by kernel_rfl⟩, trivial⟩
theorem rd2 (t : PT) (hok : t.ok) (hle : (pWrite pf 0 2 t).length ≤ 1073741824) : ∃ fs1, (∀ e0, ReadsTo P N 21 2 mid e0 (pWrite pf 0 2 t) fs1) ∧ RepPart 2 (pFlex 0 2) pf t fs1 1 ∧ okFs fs1 tysBrokerRegistrationResponse ∧ fs1[0]? = some (.one (.int .i16 2)) := by
  obtain ⟨fs1, h1, _, h3, h4⟩ := rt_whole (p := 1) plainOk (by kernel_rfl : rtPlain 2 (pFlex 0 2) pf ss2s tdBrokerRegistrationResponse (fsAt 2) 1 tgBrokerRegistrationResponse = true) t hok
  refine ⟨fs1, fun e0 => readsTo_of (e := E) (g := 35) (S := 74) (fDef := 22) (ds := dsBrokerRegistrationResponse) (ls := lsBrokerRegistrationResponse) (ss := ss2s) (uns := false) (fs0 := fsAt 2) (fs1 := fsAt 2) (mid1 := .int .i16 2 :: mid) rdF rfA (fun h => by cases h) hComplete (by kernel_rfl) (by kernel_rfl) defBrokerRegistrationResponse ok2s rfl rfl rfl rfl rfl (by kernel_rfl) (by kernel_rfl) rfl rfl hle h1 rfl, h3, ?_, ?_⟩
  · exact runSteps_ok ss2s tysBrokerRegistrationResponse (fsAt 2) _ fs1 _ rfl (okImms_ok rfl) hle h1
  · rw [h4 0 (by decide)]; rfl

theorem dft2 (w : World) (t : PT) (hok : t.ok) (hle : (pWrite pf 0 2 t).length ≤ 1073741824) (data e0 : Value) (hr : DataIn w data (pWrite pf 0 2 t)) (he : ErrAt w N.gErr e0) : Gives P 9 [.int .i64 2, data] w fun u w' => (∃ g, DoorPost w w' u (some g) ∧ pDefs pf g 0 = true) ∧ Keeps [] w w' := by
  obtain ⟨fs1, h1, h2, h3, h4⟩ := rd2 t hok hle
  refine (dftDoor_gives (S := 74) (fSet := 20) (ds := dsBrokerRegistrationResponse) (ts := tysBrokerRegistrationResponse) rdF octF tellF tyZ (by kernel_rfl) errI (by decide) newOk (by kernel_rfl) (by kernel_rfl) (by kernel_rfl) (h1 e0) defBrokerRegistrationResponse (by kernel_rfl) (by kernel_rfl) h3 toldBrokerRegistrationResponse hle hr he).mono fun u w' h => ⟨⟨_, h.1, ?_⟩, h.2⟩
  rw [gpTd]
  exact df_message (p := 1) (gs := fs1) (by kernel_rfl) (by kernel_rfl) (by have := congrArg List.length (okFs_map _ _ h3); simp only [List.length_map] at this; rw [this]; decide)

def ss3s : List Step := [.call (.num 4 .i32) 50 1 21 1, .call (.num 2 .i16) 51 2 47 2, .call (.num 8 .i64) 52 3 2 3, .call .tags 53 4 72 4]
theorem ok3s : StepsOk P N 74 lsBrokerRegistrationResponse ss3s := ⟨⟨aInt32, ⟨by kernel_rfl, rfl, rfl⟩, by kernel_rfl⟩, ⟨aInt16, ⟨by kernel_rfl, rfl, rfl⟩, by kernel_rfl⟩, ⟨aInt64, ⟨by kernel_rfl, rfl, rfl⟩, by kernel_rfl⟩, ⟨aTags, ⟨by kernel_rfl, rfl, rfl⟩, by kernel_rfl⟩, trivial⟩
theorem rd3 (t : PT) (hok : t.ok) (hle : (pWrite pf 0 3 t).length ≤ 1073741824) : ∃ fs1, (∀ e0, ReadsTo P N 21 3 mid e0 (pWrite pf 0 3 t) fs1) ∧ RepPart 3 (pFlex 0 3) pf t fs1 1 ∧ okFs fs1 tysBrokerRegistrationResponse ∧ fs1[0]? = some (.one (.int .i16 3)) := by
  obtain ⟨fs1, h1, _, h3, h4⟩ := rt_whole (p := 1) plainOk (by kernel_rfl : rtPlain 3 (pFlex 0 3) pf ss3s tdBrokerRegistrationResponse (fsAt 3) 1 tgBrokerRegistrationResponse = true) t hok
  refine ⟨fs1, fun e0 => readsTo_of (e := E) (g := 35) (S := 74) (fDef := 22) (ds := dsBrokerRegistrationResponse) (ls := lsBrokerRegistrationResponse) (ss := ss3s) (uns := false) (fs0 := fsAt 3) (fs1 := fsAt 3) (mid1 := .int .i16 3 :: mid) rdF rfA (fun h => by cases h) hComplete (by kernel_rfl) (by kernel_rfl) defBrokerRegistrationResponse ok3s rfl rfl rfl rfl rfl (by kernel_rfl) (by kernel_rfl) rfl rfl hle h1 rfl, h3, ?_, ?_⟩
  · exact runSteps_ok ss3s tysBrokerRegistrationResponse (fsAt 3) _ fs1 _ rfl (okImms_ok rfl) hle h1
  · rw [h4 0 (by decide)]; rfl

theorem dft3 (w : World) (t : PT) (hok : t.ok) (hle : (pWrite pf 0 3 t).length ≤ 1073741824) (data e0 : Value) (hr : DataIn w data (pWrite pf 0 3 t)) (he : ErrAt w N.gErr e0) : Gives P 9 [.int .i64 3, data] w fun u w' => (∃ g, DoorPost w w' u (some g) ∧ pDefs pf g 0 = true) ∧ Keeps [] w w' := by
  obtain ⟨fs1, h1, h2, h3, h4⟩ := rd3 t hok hle
  refine (dftDoor_gives (S := 74) (fSet := 20) (ds := dsBrokerRegistrationResponse) (ts := tysBrokerRegistrationResponse) rdF octF tellF tyZ (by kernel_rfl) errI (by decide) newOk (by kernel_rfl) (by kernel_rfl) (by kernel_rfl) (h1 e0) defBrokerRegistrationResponse (by kernel_rfl) (by kernel_rfl) h3 toldBrokerRegistrationResponse hle hr he).mono fun u w' h => ⟨⟨_, h.1, ?_⟩, h.2⟩
  rw [gpTd]
  exact df_message (p := 1) (gs := fs1) (by kernel_rfl) (by kernel_rfl) (by have := congrArg List.length (okFs_map _ _ h3); simp only [List.length_map] at this; rw [this]; decide)

def ss4s : List Step := [.call (.num 4 .i32) 50 1 21 1, .call (.num 2 .i16) 51 2 47 2, .call (.num 8 .i64) 52 3 2 3, .call .tags 53 4 72 4]
theorem ok4s : StepsOk P N 74 lsBrokerRegistrationResponse ss4s := ⟨⟨aInt32, ⟨by kernel_rfl, rfl, rfl⟩, by kernel_rfl⟩, ⟨aInt16, ⟨by kernel_rfl, rfl, rfl⟩, by kernel_rfl⟩, ⟨aInt64, ⟨by kernel_rfl, rfl, rfl⟩, by kernel_rfl⟩, ⟨aTags, ⟨by kernel_rfl, rfl, rfl⟩, by kernel_rfl⟩, trivial⟩
theorem rd4 (t : PT) (hok : t.ok) (hle : (pWrite pf 0 4 t).length ≤ 1073741824) : ∃ fs1, (∀ e0, ReadsTo P N 21 4 mid e0 (pWrite pf 0 4 t) fs1) ∧ RepPart 4 (pFlex 0 4) pf t fs1 1 ∧ okFs fs1 tysBrokerRegistrationResponse ∧ fs1[0]? = some (.one (.int .i16 4)) := by
  obtain ⟨fs1, h1, _, h3, h4⟩ := rt_whole (p := 1) plainOk (by kernel_rfl : rtPlain 4 (pFlex 0 4) pf ss4s tdBrokerRegistrationResponse (fsAt 4) 1 tgBrokerRegistrationResponse = true) t hok
  refine ⟨fs1, fun e0 => readsTo_of (e := E) (g := 35) (S := 74) (fDef := 22) (ds := dsBrokerRegistrationResponse) (ls := lsBrokerRegistrationResponse) (ss := ss4s) (uns := false) (fs0 := fsAt 4) (fs1 := fsAt 4) (mid1 := .int .i16 4 :: mid) rdF rfA (fun h => by cases h) hComplete (by kernel_rfl) (by kernel_rfl) defBrokerRegistrationResponse ok4s rfl rfl rfl rfl rfl (by kernel_rfl) (by kernel_rfl) rfl rfl hle h1 rfl, h3, ?_, ?_⟩
  · exact runSteps_ok ss4s tysBrokerRegistrationResponse (fsAt 4) _ fs1 _ rfl (okImms_ok rfl) hle h1
  · rw [h4 0 (by decide)]; rfl

theorem dft4 (w : World) (t : PT) (hok : t.ok) (hle : (pWrite pf 0 4 t).length ≤ 1073741824) (data e0 : Value) (hr : DataIn w data (pWrite pf 0 4 t)) (he : ErrAt w N.gErr e0) : Gives P 9 [.int .i64 4, data] w fun u w' => (∃ g, DoorPost w w' u (some g) ∧ pDefs pf g 0 = true) ∧ Keeps [] w w' := by
  obtain ⟨fs1, h1, h2, h3, h4⟩ := rd4 t hok hle
  refine (dftDoor_gives (S := 74) (fSet := 20) (ds := dsBrokerRegistrationResponse) (ts := tysBrokerRegistrationResponse) rdF octF tellF tyZ (by kernel_rfl) errI (by decide) newOk (by kernel_rfl) (by kernel_rfl) (by kernel_rfl) (h1 e0) defBrokerRegistrationResponse (by kernel_rfl) (by kernel_rfl) h3 toldBrokerRegistrationResponse hle hr he).mono fun u w' h => ⟨⟨_, h.1, ?_⟩, h.2⟩
  rw [gpTd]
  exact df_message (p := 1) (gs := fs1) (by kernel_rfl) (by kernel_rfl) (by have := congrArg List.length (okFs_map _ _ h3); simp only [List.length_map] at this; rw [this]; decide)

theorem dftAll (v : Nat) (hv : v ≤ 4) (w : World) (t : PT) (hok : t.ok) (hle : (pWrite pf 0 v t).length ≤ 1073741824) (data e0 : Value) (hr : DataIn w data (pWrite pf 0 v t)) (he : ErrAt w N.gErr e0) : Gives P 9 [.int .i64 v, data] w fun u w' => (∃ g, DoorPost w w' u (some g) ∧ pDefs pf g 0 = true) ∧ Keeps [] w w' := by
  have h : v = 0 ∨ v = 1 ∨ v = 2 ∨ v = 3 ∨ v = 4 := by omega
  rcases h with rfl | rfl | rfl | rfl | rfl
  · exact dft0 w t hok hle data e0 hr he
  · exact dft1 w t hok hle data e0 hr he
  · exact dft2 w t hok hle data e0 hr he
  · exact dft3 w t hok hle data e0 hr he
  · exact dft4 w t hok hle data e0 hr he
theorem maxOk (w : World) : Gives P 6 [] w fun v w' => v = .int .i64 (4 : Nat) ∧ Keeps [] w w' := max_gives (fNew := 18) (fMax := 19) (m := 4) rdF newOk (by kernel_rfl) (by kernel_rfl) rfl
theorem verOk (n : Nat) (hn : n < 256) (w : World) : Gives P 8 [.int .u8 n, .int .i64 (4 : Nat)] w fun v w' => v = .int .i64 (n % (4 + 1) : Nat) ∧ w' = w := version_gives rdF (by kernel_rfl) hn (by decide)

/-- The law: whatever the tree. -/
theorem lawOk (w : World) (n : Nat) (hn : n < 256) (t : PT) (ts : List Value) (e0 : Value) (ht : TreeC w t ts) (hok : t.ok) (hwt : t.wt ≤ 1048576) (he : ErrAt w N.gErr e0) (_ : ∃ d y, e0 = .iface d y) : Gives P 3 [.int .u8 n, .agg ⟨ts⟩] w fun v w' => v = .bool true ∧ Keeps [] w w' :=
  have hv : n % (4 + 1) ≤ 4 := Nat.le_of_lt_succ (Nat.mod_lt _ (by decide))
  have hle : (pWrite pf 0 (n % (4 + 1) : Nat) t).length ≤ 1073741824 := Nat.le_trans (pWrite_len plainOk _ _ t) (Nat.mul_le_mul kOk hwt)
  dftLaw_gives (m := 4) (fs := pf) (x := 0) (e0 := e0) (fDfts := 11) spF spT (by kernel_rfl) (by kernel_rfl) (by kernel_rfl) fitT tellF tyZ (by kernel_rfl) plainOk (by decide) ⟨_, fbF.zero, rfl⟩ maxOk (verOk n hn) msgOk (fun w data hr he => dftAll _ hv w t hok hle data e0 hr he) hle hGot ht hok he
end Go.Proofs.YtlhbhamopejgcaaDoor
