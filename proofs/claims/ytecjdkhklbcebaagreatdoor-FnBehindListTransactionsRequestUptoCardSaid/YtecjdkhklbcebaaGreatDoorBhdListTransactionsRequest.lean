/- ListTransactionsRequest: read, and written again. -/
import Derived.Test.YtecjdkhklbcebaaGreatDoorMsgListTransactionsRequest
import Derived.Test.YtecjdkhklbcebaaGreatDoorFieldsListTransactionsRequest
import Derived.Test.YtecjdkhklbcebaaGreatDoorWr
namespace Go.Proofs.YtecjdkhklbcebaaGreatDoor
open Go Go.Kf

def tdListTransactionsRequest : List TD := [.lprim 1, .lprim 2, .prim 3, .prim 4]
def tgListTransactionsRequest : Option Nat := some 5
theorem rfA : RfFacts P N 88 := .of (by kernel_rfl) (by kernel_rfl) (by kernel_rfl) (by kernel_rfl) (by kernel_rfl)
theorem errI : ∃ ms, P.underlying N.tErr = some (.interface ms) := iface_of (by kernel_rfl)
def mid : List Value := [.slice none 0 0, .slice none 0 0, .int .i64 (-1), .pointer none, .map none]
def fsAt (v : Int) : List FV := .one (.int .i16 v) :: [.list true [], .list true [], .one (.int .i64 (-1)), .ntext none, .tags []]
theorem newOk : NewOk P 23 (.int .i16 0 :: mid) := new_gives rdF.mix (by kernel_rfl : zeroTy P 88 = some (.agg ⟨.int .i16 0 :: [.slice none 0 0, .slice none 0 0, .int .i64 0, .pointer none, .map none]⟩, 6)) dokListTransactionsRequest (by kernel_rfl) (by kernel_rfl)

def ss0s : List Step := [.listP .clen 59 1 59 1 .cstr 65 9, .listP .clen 59 2 86 2 (.num 8 .i64) 80 2, .call .tags 73 5 63 5]
theorem ok0s : StepsOk P N 88 lsListTransactionsRequest ss0s := ⟨⟨hCompactArrayLen, ⟨by kernel_rfl, rfl, rfl⟩, .of (by kernel_rfl) (by kernel_rfl) (by kernel_rfl) (by decide), aCompactString⟩, ⟨hCompactArrayLen, ⟨by kernel_rfl, rfl, rfl⟩, .of (by kernel_rfl) (by kernel_rfl) (by kernel_rfl) (by decide), aInt64⟩, ⟨aTags, ⟨by kernel_rfl, rfl, rfl⟩, by kernel_rfl⟩, trivial⟩
theorem rd0 (t : PT) (hok : t.ok) (hle : (pWrite pf 0 0 t).length ≤ 1073741824) : ∃ fs1, (∀ e0, ReadsTo P N 26 0 mid e0 (pWrite pf 0 0 t) fs1) ∧ RepPart 0 (pFlex 0 0) pf t fs1 1 ∧ okFs fs1 tysListTransactionsRequest ∧ fs1[0]? = some (.one (.int .i16 0)) := by
  obtain ⟨fs1, h1, _, h3, h4⟩ := rt_whole (p := 1) plainOk (by kernel_rfl : rtPlain 0 (pFlex 0 0) pf ss0s tdListTransactionsRequest (fsAt 0) 1 tgListTransactionsRequest = true) t hok
  refine ⟨fs1, fun e0 => readsTo_of (e := E) (g := 51) (S := 88) (fDef := 50) (ds := dsListTransactionsRequest) (ls := lsListTransactionsRequest) (ss := ss0s) (uns := false) (fs0 := fsAt 0) (fs1 := fsAt 0) (mid1 := .int .i16 0 :: mid) rdF rfA (fun _ => hOk) hComplete (by kernel_rfl) (by kernel_rfl) defListTransactionsRequest ok0s rfl rfl rfl rfl rfl (by kernel_rfl) (by kernel_rfl) rfl rfl hle h1 rfl, h3, ?_, ?_⟩
  · exact runSteps_ok ss0s tysListTransactionsRequest (fsAt 0) _ fs1 _ rfl (okImms_ok rfl) hle h1
  · rw [h4 0 (by decide)]; rfl

def ws0 : List WStep := [.listP .clen 39 1 59 1 .cstr 41 9, .listP .clen 39 2 86 2 (.num 8 .i64) 52 2, .tags 46 47 48 5 5]
theorem wsok0 : SemW P tysListTransactionsRequest (fun s n d x k => gWSteps N ws0 s 88 n d x k) (encSteps ws0) := (semW_cons (semW_listP ⟨by kernel_rfl, rfl, rfl⟩ (by kernel_rfl) (by kernel_rfl) (by kernel_rfl) wCLen rfl xAppendCompactString (show oneTy P 9 = true by kernel_rfl)) (semW_cons (semW_listP ⟨by kernel_rfl, rfl, rfl⟩ (by kernel_rfl) (by kernel_rfl) (by kernel_rfl) wCLen rfl xAppendInt64 (show oneTy P 2 = true by kernel_rfl)) (semW_cons (semW_tags spF wUv hTagsLen wEach ⟨by kernel_rfl, rfl, rfl⟩) semW_nil)))
theorem app0 : AppTo P 27 tysListTransactionsRequest 0 ws0 := appTo_gives (S := 88) rdF (by kernel_rfl) (by kernel_rfl) (by kernel_rfl) wsok0

theorem bhd0 (w : World) (t : PT) (hok : t.ok) (hle : (pWrite pf 0 0 t).length ≤ 1073741824) (d : List UInt8) (dst data e0 : Value) (hd : d.length ≤ 1000) (hr : DataIn w data (pWrite pf 0 0 t)) (hrd : DataIn w dst d) (he : ErrAt w N.gErr e0) : Gives P 14 [.int .i64 0, dst, data] w fun u w' => BhdPost w w' u (d ++ pWrite pf 0 0 t) := by
  obtain ⟨fs1, h1, h2, h3, h4⟩ := rd0 t hok hle
  exact bhdDoor_gives (S := 88) (fSet := 25) rdF octF (by kernel_rfl) errI (by decide) newOk (by kernel_rfl) (by kernel_rfl) (by kernel_rfl) (h1 e0) app0 h3 h4 hle hd (wr_message (p := 1) plainOk (by kernel_rfl : wrPlain 0 (pFlex 0 0) pf ws0 tysListTransactionsRequest 1 = true) t h2 h3) hr hrd he

def ss1s : List Step := [.listP .clen 59 1 59 1 .cstr 65 9, .listP .clen 59 2 86 2 (.num 8 .i64) 80 2, .call (.num 8 .i64) 80 3 2 3, .call .tags 73 5 63 5]
theorem ok1s : StepsOk P N 88 lsListTransactionsRequest ss1s := ⟨⟨hCompactArrayLen, ⟨by kernel_rfl, rfl, rfl⟩, .of (by kernel_rfl) (by kernel_rfl) (by kernel_rfl) (by decide), aCompactString⟩, ⟨hCompactArrayLen, ⟨by kernel_rfl, rfl, rfl⟩, .of (by kernel_rfl) (by kernel_rfl) (by kernel_rfl) (by decide), aInt64⟩, ⟨aInt64, ⟨by kernel_rfl, rfl, rfl⟩, by kernel_rfl⟩, ⟨aTags, ⟨by kernel_rfl, rfl, rfl⟩, by kernel_rfl⟩, trivial⟩
theorem rd1 (t : PT) (hok : t.ok) (hle : (pWrite pf 0 1 t).length ≤ 1073741824) : ∃ fs1, (∀ e0, ReadsTo P N 26 1 mid e0 (pWrite pf 0 1 t) fs1) ∧ RepPart 1 (pFlex 0 1) pf t fs1 1 ∧ okFs fs1 tysListTransactionsRequest ∧ fs1[0]? = some (.one (.int .i16 1)) := by
  obtain ⟨fs1, h1, _, h3, h4⟩ := rt_whole (p := 1) plainOk (by kernel_rfl : rtPlain 1 (pFlex 0 1) pf ss1s tdListTransactionsRequest (fsAt 1) 1 tgListTransactionsRequest = true) t hok
  refine ⟨fs1, fun e0 => readsTo_of (e := E) (g := 51) (S := 88) (fDef := 50) (ds := dsListTransactionsRequest) (ls := lsListTransactionsRequest) (ss := ss1s) (uns := false) (fs0 := fsAt 1) (fs1 := fsAt 1) (mid1 := .int .i16 1 :: mid) rdF rfA (fun _ => hOk) hComplete (by kernel_rfl) (by kernel_rfl) defListTransactionsRequest ok1s rfl rfl rfl rfl rfl (by kernel_rfl) (by kernel_rfl) rfl rfl hle h1 rfl, h3, ?_, ?_⟩
  · exact runSteps_ok ss1s tysListTransactionsRequest (fsAt 1) _ fs1 _ rfl (okImms_ok rfl) hle h1
  · rw [h4 0 (by decide)]; rfl

def ws1 : List WStep := [.listP .clen 39 1 59 1 .cstr 41 9, .listP .clen 39 2 86 2 (.num 8 .i64) 52 2, .call (.num 8 .i64) 52 3 2 3, .tags 46 47 48 5 5]
theorem wsok1 : SemW P tysListTransactionsRequest (fun s n d x k => gWSteps N ws1 s 88 n d x k) (encSteps ws1) := (semW_cons (semW_listP ⟨by kernel_rfl, rfl, rfl⟩ (by kernel_rfl) (by kernel_rfl) (by kernel_rfl) wCLen rfl xAppendCompactString (show oneTy P 9 = true by kernel_rfl)) (semW_cons (semW_listP ⟨by kernel_rfl, rfl, rfl⟩ (by kernel_rfl) (by kernel_rfl) (by kernel_rfl) wCLen rfl xAppendInt64 (show oneTy P 2 = true by kernel_rfl)) (semW_cons (semW_call xAppendInt64 ⟨by kernel_rfl, rfl, rfl⟩ (show oneTy P 2 = true by kernel_rfl)) (semW_cons (semW_tags spF wUv hTagsLen wEach ⟨by kernel_rfl, rfl, rfl⟩) semW_nil))))
theorem app1 : AppTo P 27 tysListTransactionsRequest 1 ws1 := appTo_gives (S := 88) rdF (by kernel_rfl) (by kernel_rfl) (by kernel_rfl) wsok1

theorem bhd1 (w : World) (t : PT) (hok : t.ok) (hle : (pWrite pf 0 1 t).length ≤ 1073741824) (d : List UInt8) (dst data e0 : Value) (hd : d.length ≤ 1000) (hr : DataIn w data (pWrite pf 0 1 t)) (hrd : DataIn w dst d) (he : ErrAt w N.gErr e0) : Gives P 14 [.int .i64 1, dst, data] w fun u w' => BhdPost w w' u (d ++ pWrite pf 0 1 t) := by
  obtain ⟨fs1, h1, h2, h3, h4⟩ := rd1 t hok hle
  exact bhdDoor_gives (S := 88) (fSet := 25) rdF octF (by kernel_rfl) errI (by decide) newOk (by kernel_rfl) (by kernel_rfl) (by kernel_rfl) (h1 e0) app1 h3 h4 hle hd (wr_message (p := 1) plainOk (by kernel_rfl : wrPlain 1 (pFlex 0 1) pf ws1 tysListTransactionsRequest 1 = true) t h2 h3) hr hrd he

def ss2s : List Step := [.listP .clen 59 1 59 1 .cstr 65 9, .listP .clen 59 2 86 2 (.num 8 .i64) 80 2, .call (.num 8 .i64) 80 3 2 3, .call .cnstr 69 4 78 4, .call .tags 73 5 63 5]
theorem ok2s : StepsOk P N 88 lsListTransactionsRequest ss2s := ⟨⟨hCompactArrayLen, ⟨by kernel_rfl, rfl, rfl⟩, .of (by kernel_rfl) (by kernel_rfl) (by kernel_rfl) (by decide), aCompactString⟩, ⟨hCompactArrayLen, ⟨by kernel_rfl, rfl, rfl⟩, .of (by kernel_rfl) (by kernel_rfl) (by kernel_rfl) (by decide), aInt64⟩, ⟨aInt64, ⟨by kernel_rfl, rfl, rfl⟩, by kernel_rfl⟩, ⟨aCompactNullableString, ⟨by kernel_rfl, rfl, rfl⟩, by kernel_rfl⟩, ⟨aTags, ⟨by kernel_rfl, rfl, rfl⟩, by kernel_rfl⟩, trivial⟩
theorem rd2 (t : PT) (hok : t.ok) (hle : (pWrite pf 0 2 t).length ≤ 1073741824) : ∃ fs1, (∀ e0, ReadsTo P N 26 2 mid e0 (pWrite pf 0 2 t) fs1) ∧ RepPart 2 (pFlex 0 2) pf t fs1 1 ∧ okFs fs1 tysListTransactionsRequest ∧ fs1[0]? = some (.one (.int .i16 2)) := by
  obtain ⟨fs1, h1, _, h3, h4⟩ := rt_whole (p := 1) plainOk (by kernel_rfl : rtPlain 2 (pFlex 0 2) pf ss2s tdListTransactionsRequest (fsAt 2) 1 tgListTransactionsRequest = true) t hok
  refine ⟨fs1, fun e0 => readsTo_of (e := E) (g := 51) (S := 88) (fDef := 50) (ds := dsListTransactionsRequest) (ls := lsListTransactionsRequest) (ss := ss2s) (uns := false) (fs0 := fsAt 2) (fs1 := fsAt 2) (mid1 := .int .i16 2 :: mid) rdF rfA (fun _ => hOk) hComplete (by kernel_rfl) (by kernel_rfl) defListTransactionsRequest ok2s rfl rfl rfl rfl rfl (by kernel_rfl) (by kernel_rfl) rfl rfl hle h1 rfl, h3, ?_, ?_⟩
  · exact runSteps_ok ss2s tysListTransactionsRequest (fsAt 2) _ fs1 _ rfl (okImms_ok rfl) hle h1
  · rw [h4 0 (by decide)]; rfl

def ws2 : List WStep := [.listP .clen 39 1 59 1 .cstr 41 9, .listP .clen 39 2 86 2 (.num 8 .i64) 52 2, .call (.num 8 .i64) 52 3 2 3, .call .cnstr 43 4 78 4, .tags 46 47 48 5 5]
theorem wsok2 : SemW P tysListTransactionsRequest (fun s n d x k => gWSteps N ws2 s 88 n d x k) (encSteps ws2) := (semW_cons (semW_listP ⟨by kernel_rfl, rfl, rfl⟩ (by kernel_rfl) (by kernel_rfl) (by kernel_rfl) wCLen rfl xAppendCompactString (show oneTy P 9 = true by kernel_rfl)) (semW_cons (semW_listP ⟨by kernel_rfl, rfl, rfl⟩ (by kernel_rfl) (by kernel_rfl) (by kernel_rfl) wCLen rfl xAppendInt64 (show oneTy P 2 = true by kernel_rfl)) (semW_cons (semW_call xAppendInt64 ⟨by kernel_rfl, rfl, rfl⟩ (show oneTy P 2 = true by kernel_rfl)) (semW_cons (semW_call xAppendCompactNullableString ⟨by kernel_rfl, rfl, rfl⟩ (show oneTy P 78 = true by kernel_rfl)) (semW_cons (semW_tags spF wUv hTagsLen wEach ⟨by kernel_rfl, rfl, rfl⟩) semW_nil)))))
theorem app2 : AppTo P 27 tysListTransactionsRequest 2 ws2 := appTo_gives (S := 88) rdF (by kernel_rfl) (by kernel_rfl) (by kernel_rfl) wsok2

theorem bhd2 (w : World) (t : PT) (hok : t.ok) (hle : (pWrite pf 0 2 t).length ≤ 1073741824) (d : List UInt8) (dst data e0 : Value) (hd : d.length ≤ 1000) (hr : DataIn w data (pWrite pf 0 2 t)) (hrd : DataIn w dst d) (he : ErrAt w N.gErr e0) : Gives P 14 [.int .i64 2, dst, data] w fun u w' => BhdPost w w' u (d ++ pWrite pf 0 2 t) := by
  obtain ⟨fs1, h1, h2, h3, h4⟩ := rd2 t hok hle
  exact bhdDoor_gives (S := 88) (fSet := 25) rdF octF (by kernel_rfl) errI (by decide) newOk (by kernel_rfl) (by kernel_rfl) (by kernel_rfl) (h1 e0) app2 h3 h4 hle hd (wr_message (p := 1) plainOk (by kernel_rfl : wrPlain 2 (pFlex 0 2) pf ws2 tysListTransactionsRequest 1 = true) t h2 h3) hr hrd he

theorem bhdAll (v : Nat) (hv : v ≤ 2) (w : World) (t : PT) (hok : t.ok) (hle : (pWrite pf 0 v t).length ≤ 1073741824) (d : List UInt8) (dst data e0 : Value) (hd : d.length ≤ 1000) (hr : DataIn w data (pWrite pf 0 v t)) (hrd : DataIn w dst d) (he : ErrAt w N.gErr e0) : Gives P 14 [.int .i64 v, dst, data] w fun u w' => BhdPost w w' u (d ++ pWrite pf 0 v t) := by
  have h : v = 0 ∨ v = 1 ∨ v = 2 := by omega
  rcases h with rfl | rfl | rfl
  · exact bhd0 w t hok hle d dst data e0 hd hr hrd he
  · exact bhd1 w t hok hle d dst data e0 hd hr hrd he
  · exact bhd2 w t hok hle d dst data e0 hd hr hrd he
theorem maxOk (w : World) : Gives P 12 [] w fun v w' => v = .int .i64 (2 : Nat) ∧ Keeps [] w w' := max_gives (fNew := 23) (fMax := 24) (m := 2) rdF newOk (by kernel_rfl) (by kernel_rfl) rfl
theorem verOk (n : Nat) (hn : n < 256) (w : World) : Gives P 8 [.int .u8 n, .int .i64 (2 : Nat)] w fun v w' => v = .int .i64 (n % (2 + 1) : Nat) ∧ w' = w := version_gives rdF (by kernel_rfl) hn (by decide)

/-- The law: whatever the octets ahead and the tree. -/
theorem lawOk (w : World) (n : Nat) (hn : n < 256) (dst : Value) (d : List UInt8) (t : PT) (ts : List Value) (e0 : Value) (hrd : DataIn w dst d) (ht : TreeC w t ts) (hok : t.ok) (hwt : t.wt ≤ 1048576) (he : ErrAt w N.gErr e0) : Gives P 4 [.int .u8 n, dst, .agg ⟨ts⟩] w fun v w' => v = .bool true ∧ Keeps [] w w' :=
  have hv : n % (2 + 1) ≤ 2 := Nat.le_of_lt_succ (Nat.mod_lt _ (by decide))
  have hle : (pWrite pf 0 (n % (2 + 1) : Nat) t).length ≤ 1073741824 := Nat.le_trans (pWrite_len plainOk _ _ t) (Nat.mul_le_mul kOk hwt)
  bhdLaw_gives (m := 2) (fs := pf) (x := 0) (e0 := e0) spF spT fitT sameT (by kernel_rfl) plainOk (by decide) ⟨_, fbF.zero, rfl⟩ maxOk (verOk n hn) msgOk (fun w data hd hr hrd he => bhdAll _ hv w t hok hle d dst data e0 hd hr hrd he) hle hrd ht hok he
end Go.Proofs.YtecjdkhklbcebaaGreatDoor
