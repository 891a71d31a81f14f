/- DeleteRecordsRequest: read, and written again. -/
import Derived.Test.YtmficcifapfkdacGreatDoorMsgDeleteRecordsRequest
import Derived.Test.YtmficcifapfkdacGreatDoorFieldsDeleteRecordsRequest
import Derived.Test.YtmficcifapfkdacGreatDoorWr
namespace Go.Proofs.YtmficcifapfkdacGreatDoor
open Go Go.Kf

def tdDeleteRecordsRequestTopicPartition : List TD := [.prim 0, .prim 1]
def tgDeleteRecordsRequestTopicPartition : Option Nat := some 2
def tdDeleteRecordsRequestTopic : List TD := [.prim 0, .lsub 1 tdDeleteRecordsRequestTopicPartition tgDeleteRecordsRequestTopicPartition]
def tgDeleteRecordsRequestTopic : Option Nat := some 2
def tdDeleteRecordsRequest : List TD := [.lsub 1 tdDeleteRecordsRequestTopic tgDeleteRecordsRequestTopic, .prim 2]
def tgDeleteRecordsRequest : Option Nat := some 3
theorem rfA : RfFacts P N 62 := .of (by kernel_rfl) (by kernel_rfl) (by kernel_rfl) (by kernel_rfl) (by kernel_rfl)
theorem errI : ∃ ms, P.underlying N.tErr = some (.interface ms) := iface_of (by kernel_rfl)
def mid : List Value := [.slice none 0 0, .int .i32 15000, .map none]
def fsAt (v : Int) : List FV := .one (.int .i16 v) :: [.list true [], .one (.int .i32 15000), .tags []]
theorem newOk : NewOk P 12 (.int .i16 0 :: mid) := new_gives rdF.mix (by kernel_rfl : zeroTy P 62 = some (.agg ⟨.int .i16 0 :: [.slice none 0 0, .int .i32 0, .map none]⟩, 4)) dokDeleteRecordsRequest (by kernel_rfl) (by kernel_rfl)

def ss0s : List Step := [.listS .len 47 1 57 1 76 3 50 dfDeleteRecordsRequestTopic [.call .str 54 0 9 0, .listS .len 47 1 74 1 80 3 55 dfDeleteRecordsRequestTopicPartition [.call (.num 4 .i32) 56 0 21 0, .call (.num 8 .i64) 57 1 2 1]], .call (.num 4 .i32) 56 2 21 2]
theorem ok0s : StepsOk P N 62 lsDeleteRecordsRequest ss0s := ⟨⟨hArrayLen, ⟨by kernel_rfl, rfl, rfl⟩, .of (by kernel_rfl) (by kernel_rfl) (by kernel_rfl) (by decide), dokDeleteRecordsRequestTopic, rfl, ⟨⟨aString, ⟨by kernel_rfl, rfl, rfl⟩, by kernel_rfl⟩, ⟨hArrayLen, ⟨by kernel_rfl, rfl, rfl⟩, .of (by kernel_rfl) (by kernel_rfl) (by kernel_rfl) (by decide), dokDeleteRecordsRequestTopicPartition, rfl, ⟨⟨aInt32, ⟨by kernel_rfl, rfl, rfl⟩, by kernel_rfl⟩, ⟨aInt64, ⟨by kernel_rfl, rfl, rfl⟩, by kernel_rfl⟩, trivial⟩⟩, trivial⟩⟩, ⟨aInt32, ⟨by kernel_rfl, rfl, rfl⟩, by kernel_rfl⟩, trivial⟩
theorem rd0 (t : PT) (hok : t.ok) (hle : (pWrite pf 2 0 t).length ≤ 1073741824) : ∃ fs1, (∀ e0, ReadsTo P N 17 0 mid e0 (pWrite pf 2 0 t) fs1) ∧ RepPart 0 (pFlex 2 0) pf t fs1 1 ∧ okFs fs1 tysDeleteRecordsRequest ∧ fs1[0]? = some (.one (.int .i16 0)) := by
  obtain ⟨fs1, h1, _, h3, h4⟩ := rt_whole (p := 1) plainOk (by kernel_rfl : rtPlain 0 (pFlex 2 0) pf ss0s tdDeleteRecordsRequest (fsAt 0) 1 tgDeleteRecordsRequest = true) t hok
  refine ⟨fs1, fun e0 => readsTo_of (e := E) (g := 30) (S := 62) (fDef := 20) (ds := dsDeleteRecordsRequest) (ls := lsDeleteRecordsRequest) (ss := ss0s) (uns := false) (fs0 := fsAt 0) (fs1 := fsAt 0) (mid1 := .int .i16 0 :: mid) rdF rfA (fun _ => hOk) hComplete (by kernel_rfl) (by kernel_rfl) defDeleteRecordsRequest ok0s rfl rfl rfl rfl rfl (by kernel_rfl) (by kernel_rfl) rfl rfl hle h1 rfl, h3, ?_, ?_⟩
  · exact runSteps_ok ss0s tysDeleteRecordsRequest (fsAt 0) _ fs1 _ rfl (okImms_ok rfl) hle h1
  · rw [h4 0 (by decide)]; rfl

def ws0 : List WStep := [.listS .len 32 1 57 1 76 3 tysDeleteRecordsRequestTopic [.call .str 34 0 9 0, .listS .len 32 1 74 1 80 3 tysDeleteRecordsRequestTopicPartition [.call (.num 4 .i32) 35 0 21 0, .call (.num 8 .i64) 36 1 2 1]], .call (.num 4 .i32) 35 2 21 2]
theorem wsok0 : SemW P tysDeleteRecordsRequest (fun s n d x k => gWSteps N ws0 s 62 n d x k) (encSteps ws0) := (semW_cons (semW_listS ⟨by kernel_rfl, rfl, rfl⟩ (by kernel_rfl) (by kernel_rfl) (by kernel_rfl) rfl wLen rfl (semW_cons (semW_call xAppendString ⟨by kernel_rfl, rfl, rfl⟩ (show oneTy P 9 = true by kernel_rfl)) (semW_cons (semW_listS ⟨by kernel_rfl, rfl, rfl⟩ (by kernel_rfl) (by kernel_rfl) (by kernel_rfl) rfl wLen rfl (semW_cons (semW_call xAppendInt32 ⟨by kernel_rfl, rfl, rfl⟩ (show oneTy P 21 = true by kernel_rfl)) (semW_cons (semW_call xAppendInt64 ⟨by kernel_rfl, rfl, rfl⟩ (show oneTy P 2 = true by kernel_rfl)) semW_nil))) semW_nil))) (semW_cons (semW_call xAppendInt32 ⟨by kernel_rfl, rfl, rfl⟩ (show oneTy P 21 = true by kernel_rfl)) semW_nil))
theorem app0 : AppTo P 18 tysDeleteRecordsRequest 0 ws0 := appTo_gives (S := 62) rdF (by kernel_rfl) (by kernel_rfl) (by kernel_rfl) wsok0

theorem bhd0 (w : World) (t : PT) (hok : t.ok) (hle : (pWrite pf 2 0 t).length ≤ 1073741824) (d : List UInt8) (dst data e0 : Value) (hd : d.length ≤ 1000) (hr : DataIn w data (pWrite pf 2 0 t)) (hrd : DataIn w dst d) (he : ErrAt w N.gErr e0) : Gives P 9 [.int .i64 0, dst, data] w fun u w' => BhdPost w w' u (d ++ pWrite pf 2 0 t) := by
  obtain ⟨fs1, h1, h2, h3, h4⟩ := rd0 t hok hle
  exact bhdDoor_gives (S := 62) (fSet := 16) rdF octF (by kernel_rfl) errI (by decide) newOk (by kernel_rfl) (by kernel_rfl) (by kernel_rfl) (h1 e0) app0 h3 h4 hle hd (wr_message (p := 1) plainOk (by kernel_rfl : wrPlain 0 (pFlex 2 0) pf ws0 tysDeleteRecordsRequest 1 = true) t h2 h3) hr hrd he

def ss1s : List Step := [.listS .len 47 1 57 1 76 3 50 dfDeleteRecordsRequestTopic [.call .str 54 0 9 0, .listS .len 47 1 74 1 80 3 55 dfDeleteRecordsRequestTopicPartition [.call (.num 4 .i32) 56 0 21 0, .call (.num 8 .i64) 57 1 2 1]], .call (.num 4 .i32) 56 2 21 2]
theorem ok1s : StepsOk P N 62 lsDeleteRecordsRequest ss1s := ⟨⟨hArrayLen, ⟨by kernel_rfl, rfl, rfl⟩, .of (by kernel_rfl) (by kernel_rfl) (by kernel_rfl) (by decide), dokDeleteRecordsRequestTopic, rfl, ⟨⟨aString, ⟨by kernel_rfl, rfl, rfl⟩, by kernel_rfl⟩, ⟨hArrayLen, ⟨by kernel_rfl, rfl, rfl⟩, .of (by kernel_rfl) (by kernel_rfl) (by kernel_rfl) (by decide), dokDeleteRecordsRequestTopicPartition, rfl, ⟨⟨aInt32, ⟨by kernel_rfl, rfl, rfl⟩, by kernel_rfl⟩, ⟨aInt64, ⟨by kernel_rfl, rfl, rfl⟩, by kernel_rfl⟩, trivial⟩⟩, trivial⟩⟩, ⟨aInt32, ⟨by kernel_rfl, rfl, rfl⟩, by kernel_rfl⟩, trivial⟩
theorem rd1 (t : PT) (hok : t.ok) (hle : (pWrite pf 2 1 t).length ≤ 1073741824) : ∃ fs1, (∀ e0, ReadsTo P N 17 1 mid e0 (pWrite pf 2 1 t) fs1) ∧ RepPart 1 (pFlex 2 1) pf t fs1 1 ∧ okFs fs1 tysDeleteRecordsRequest ∧ fs1[0]? = some (.one (.int .i16 1)) := by
  obtain ⟨fs1, h1, _, h3, h4⟩ := rt_whole (p := 1) plainOk (by kernel_rfl : rtPlain 1 (pFlex 2 1) pf ss1s tdDeleteRecordsRequest (fsAt 1) 1 tgDeleteRecordsRequest = true) t hok
  refine ⟨fs1, fun e0 => readsTo_of (e := E) (g := 30) (S := 62) (fDef := 20) (ds := dsDeleteRecordsRequest) (ls := lsDeleteRecordsRequest) (ss := ss1s) (uns := false) (fs0 := fsAt 1) (fs1 := fsAt 1) (mid1 := .int .i16 1 :: mid) rdF rfA (fun _ => hOk) hComplete (by kernel_rfl) (by kernel_rfl) defDeleteRecordsRequest ok1s rfl rfl rfl rfl rfl (by kernel_rfl) (by kernel_rfl) rfl rfl hle h1 rfl, h3, ?_, ?_⟩
  · exact runSteps_ok ss1s tysDeleteRecordsRequest (fsAt 1) _ fs1 _ rfl (okImms_ok rfl) hle h1
  · rw [h4 0 (by decide)]; rfl

def ws1 : List WStep := [.listS .len 32 1 57 1 76 3 tysDeleteRecordsRequestTopic [.call .str 34 0 9 0, .listS .len 32 1 74 1 80 3 tysDeleteRecordsRequestTopicPartition [.call (.num 4 .i32) 35 0 21 0, .call (.num 8 .i64) 36 1 2 1]], .call (.num 4 .i32) 35 2 21 2]
theorem wsok1 : SemW P tysDeleteRecordsRequest (fun s n d x k => gWSteps N ws1 s 62 n d x k) (encSteps ws1) := (semW_cons (semW_listS ⟨by kernel_rfl, rfl, rfl⟩ (by kernel_rfl) (by kernel_rfl) (by kernel_rfl) rfl wLen rfl (semW_cons (semW_call xAppendString ⟨by kernel_rfl, rfl, rfl⟩ (show oneTy P 9 = true by kernel_rfl)) (semW_cons (semW_listS ⟨by kernel_rfl, rfl, rfl⟩ (by kernel_rfl) (by kernel_rfl) (by kernel_rfl) rfl wLen rfl (semW_cons (semW_call xAppendInt32 ⟨by kernel_rfl, rfl, rfl⟩ (show oneTy P 21 = true by kernel_rfl)) (semW_cons (semW_call xAppendInt64 ⟨by kernel_rfl, rfl, rfl⟩ (show oneTy P 2 = true by kernel_rfl)) semW_nil))) semW_nil))) (semW_cons (semW_call xAppendInt32 ⟨by kernel_rfl, rfl, rfl⟩ (show oneTy P 21 = true by kernel_rfl)) semW_nil))
theorem app1 : AppTo P 18 tysDeleteRecordsRequest 1 ws1 := appTo_gives (S := 62) rdF (by kernel_rfl) (by kernel_rfl) (by kernel_rfl) wsok1

theorem bhd1 (w : World) (t : PT) (hok : t.ok) (hle : (pWrite pf 2 1 t).length ≤ 1073741824) (d : List UInt8) (dst data e0 : Value) (hd : d.length ≤ 1000) (hr : DataIn w data (pWrite pf 2 1 t)) (hrd : DataIn w dst d) (he : ErrAt w N.gErr e0) : Gives P 9 [.int .i64 1, dst, data] w fun u w' => BhdPost w w' u (d ++ pWrite pf 2 1 t) := by
  obtain ⟨fs1, h1, h2, h3, h4⟩ := rd1 t hok hle
  exact bhdDoor_gives (S := 62) (fSet := 16) rdF octF (by kernel_rfl) errI (by decide) newOk (by kernel_rfl) (by kernel_rfl) (by kernel_rfl) (h1 e0) app1 h3 h4 hle hd (wr_message (p := 1) plainOk (by kernel_rfl : wrPlain 1 (pFlex 2 1) pf ws1 tysDeleteRecordsRequest 1 = true) t h2 h3) hr hrd he

def ss2s : List Step := [.listS .clen 46 1 57 1 76 3 50 dfDeleteRecordsRequestTopic [.call .cstr 53 0 9 0, .listS .clen 46 1 74 1 80 3 55 dfDeleteRecordsRequestTopicPartition [.call (.num 4 .i32) 56 0 21 0, .call (.num 8 .i64) 57 1 2 1, .call .tags 58 2 60 2], .call .tags 58 2 60 2], .call (.num 4 .i32) 56 2 21 2, .call .tags 58 3 60 3]
theorem ok2s : StepsOk P N 62 lsDeleteRecordsRequest ss2s := ⟨⟨hCompactArrayLen, ⟨by kernel_rfl, rfl, rfl⟩, .of (by kernel_rfl) (by kernel_rfl) (by kernel_rfl) (by decide), dokDeleteRecordsRequestTopic, rfl, ⟨⟨aCompactString, ⟨by kernel_rfl, rfl, rfl⟩, by kernel_rfl⟩, ⟨hCompactArrayLen, ⟨by kernel_rfl, rfl, rfl⟩, .of (by kernel_rfl) (by kernel_rfl) (by kernel_rfl) (by decide), dokDeleteRecordsRequestTopicPartition, rfl, ⟨⟨aInt32, ⟨by kernel_rfl, rfl, rfl⟩, by kernel_rfl⟩, ⟨aInt64, ⟨by kernel_rfl, rfl, rfl⟩, by kernel_rfl⟩, ⟨aTags, ⟨by kernel_rfl, rfl, rfl⟩, by kernel_rfl⟩, trivial⟩⟩, ⟨aTags, ⟨by kernel_rfl, rfl, rfl⟩, by kernel_rfl⟩, trivial⟩⟩, ⟨aInt32, ⟨by kernel_rfl, rfl, rfl⟩, by kernel_rfl⟩, ⟨aTags, ⟨by kernel_rfl, rfl, rfl⟩, by kernel_rfl⟩, trivial⟩
theorem rd2 (t : PT) (hok : t.ok) (hle : (pWrite pf 2 2 t).length ≤ 1073741824) : ∃ fs1, (∀ e0, ReadsTo P N 17 2 mid e0 (pWrite pf 2 2 t) fs1) ∧ RepPart 2 (pFlex 2 2) pf t fs1 1 ∧ okFs fs1 tysDeleteRecordsRequest ∧ fs1[0]? = some (.one (.int .i16 2)) := by
  obtain ⟨fs1, h1, _, h3, h4⟩ := rt_whole (p := 1) plainOk (by kernel_rfl : rtPlain 2 (pFlex 2 2) pf ss2s tdDeleteRecordsRequest (fsAt 2) 1 tgDeleteRecordsRequest = true) t hok
  refine ⟨fs1, fun e0 => readsTo_of (e := E) (g := 30) (S := 62) (fDef := 20) (ds := dsDeleteRecordsRequest) (ls := lsDeleteRecordsRequest) (ss := ss2s) (uns := false) (fs0 := fsAt 2) (fs1 := fsAt 2) (mid1 := .int .i16 2 :: mid) rdF rfA (fun _ => hOk) hComplete (by kernel_rfl) (by kernel_rfl) defDeleteRecordsRequest ok2s rfl rfl rfl rfl rfl (by kernel_rfl) (by kernel_rfl) rfl rfl hle h1 rfl, h3, ?_, ?_⟩
  · exact runSteps_ok ss2s tysDeleteRecordsRequest (fsAt 2) _ fs1 _ rfl (okImms_ok rfl) hle h1
  · rw [h4 0 (by decide)]; rfl

def ws2 : List WStep := [.listS .clen 31 1 57 1 76 3 tysDeleteRecordsRequestTopic [.call .cstr 33 0 9 0, .listS .clen 31 1 74 1 80 3 tysDeleteRecordsRequestTopicPartition [.call (.num 4 .i32) 35 0 21 0, .call (.num 8 .i64) 36 1 2 1, .tags 37 38 39 2 2], .tags 37 38 39 2 2], .call (.num 4 .i32) 35 2 21 2, .tags 37 38 39 3 3]
theorem wsok2 : SemW P tysDeleteRecordsRequest (fun s n d x k => gWSteps N ws2 s 62 n d x k) (encSteps ws2) := (semW_cons (semW_listS ⟨by kernel_rfl, rfl, rfl⟩ (by kernel_rfl) (by kernel_rfl) (by kernel_rfl) rfl wCLen rfl (semW_cons (semW_call xAppendCompactString ⟨by kernel_rfl, rfl, rfl⟩ (show oneTy P 9 = true by kernel_rfl)) (semW_cons (semW_listS ⟨by kernel_rfl, rfl, rfl⟩ (by kernel_rfl) (by kernel_rfl) (by kernel_rfl) rfl wCLen rfl (semW_cons (semW_call xAppendInt32 ⟨by kernel_rfl, rfl, rfl⟩ (show oneTy P 21 = true by kernel_rfl)) (semW_cons (semW_call xAppendInt64 ⟨by kernel_rfl, rfl, rfl⟩ (show oneTy P 2 = true by kernel_rfl)) (semW_cons (semW_tags spF wUv hTagsLen wEach ⟨by kernel_rfl, rfl, rfl⟩) semW_nil)))) (semW_cons (semW_tags spF wUv hTagsLen wEach ⟨by kernel_rfl, rfl, rfl⟩) semW_nil)))) (semW_cons (semW_call xAppendInt32 ⟨by kernel_rfl, rfl, rfl⟩ (show oneTy P 21 = true by kernel_rfl)) (semW_cons (semW_tags spF wUv hTagsLen wEach ⟨by kernel_rfl, rfl, rfl⟩) semW_nil)))
theorem app2 : AppTo P 18 tysDeleteRecordsRequest 2 ws2 := appTo_gives (S := 62) rdF (by kernel_rfl) (by kernel_rfl) (by kernel_rfl) wsok2

theorem bhd2 (w : World) (t : PT) (hok : t.ok) (hle : (pWrite pf 2 2 t).length ≤ 1073741824) (d : List UInt8) (dst data e0 : Value) (hd : d.length ≤ 1000) (hr : DataIn w data (pWrite pf 2 2 t)) (hrd : DataIn w dst d) (he : ErrAt w N.gErr e0) : Gives P 9 [.int .i64 2, dst, data] w fun u w' => BhdPost w w' u (d ++ pWrite pf 2 2 t) := by
  obtain ⟨fs1, h1, h2, h3, h4⟩ := rd2 t hok hle
  exact bhdDoor_gives (S := 62) (fSet := 16) rdF octF (by kernel_rfl) errI (by decide) newOk (by kernel_rfl) (by kernel_rfl) (by kernel_rfl) (h1 e0) app2 h3 h4 hle hd (wr_message (p := 1) plainOk (by kernel_rfl : wrPlain 2 (pFlex 2 2) pf ws2 tysDeleteRecordsRequest 1 = true) t h2 h3) hr hrd he

theorem bhdAll (v : Nat) (hv : v ≤ 2) (w : World) (t : PT) (hok : t.ok) (hle : (pWrite pf 2 v t).length ≤ 1073741824) (d : List UInt8) (dst data e0 : Value) (hd : d.length ≤ 1000) (hr : DataIn w data (pWrite pf 2 v t)) (hrd : DataIn w dst d) (he : ErrAt w N.gErr e0) : Gives P 9 [.int .i64 v, dst, data] w fun u w' => BhdPost w w' u (d ++ pWrite pf 2 v t) := by
  have h : v = 0 ∨ v = 1 ∨ v = 2 := by omega
  rcases h with rfl | rfl | rfl
  · exact bhd0 w t hok hle d dst data e0 hd hr hrd he
  · exact bhd1 w t hok hle d dst data e0 hd hr hrd he
  · exact bhd2 w t hok hle d dst data e0 hd hr hrd he
theorem maxOk (w : World) : Gives P 5 [] w fun v w' => v = .int .i64 (2 : Nat) ∧ Keeps [] w w' := max_gives (fNew := 12) (fMax := 13) (m := 2) rdF newOk (by kernel_rfl) (by kernel_rfl) rfl
theorem verOk (n : Nat) (hn : n < 256) (w : World) : Gives P 7 [.int .u8 n, .int .i64 (2 : Nat)] w fun v w' => v = .int .i64 (n % (2 + 1) : Nat) ∧ w' = w := version_gives rdF (by kernel_rfl) hn (by decide)

/-- The law: whatever the octets ahead and the tree. -/
theorem lawOk (w : World) (n : Nat) (hn : n < 256) (dst : Value) (d : List UInt8) (t : PT) (ts : List Value) (e0 : Value) (hrd : DataIn w dst d) (ht : TreeC w t ts) (hok : t.ok) (hwt : t.wt ≤ 1048576) (he : ErrAt w N.gErr e0) : Gives P 3 [.int .u8 n, dst, .agg ⟨ts⟩] w fun v w' => v = .bool true ∧ Keeps [] w w' :=
  have hv : n % (2 + 1) ≤ 2 := Nat.le_of_lt_succ (Nat.mod_lt _ (by decide))
  have hle : (pWrite pf 2 (n % (2 + 1) : Nat) t).length ≤ 1073741824 := Nat.le_trans (pWrite_len plainOk _ _ t) (Nat.mul_le_mul kOk hwt)
  bhdLaw_gives (m := 2) (fs := pf) (x := 2) (e0 := e0) spF spT fitT sameT (by kernel_rfl) plainOk (by decide) ⟨_, fbF.zero, rfl⟩ maxOk (verOk n hn) msgOk (fun w data hd hr hrd he => bhdAll _ hv w t hok hle d dst data e0 hd hr hrd he) hle hrd ht hok he
end Go.Proofs.YtmficcifapfkdacGreatDoor
