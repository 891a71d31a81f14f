/- LeaveGroupResponse: read, and written again. -/
import Derived.Test.YtbgdfbfecdanbaaGreatDoorMsgLeaveGroupResponse
import Derived.Test.YtbgdfbfecdanbaaGreatDoorFieldsLeaveGroupResponse
import Derived.Test.YtbgdfbfecdanbaaGreatDoorWr
namespace Go.Proofs.YtbgdfbfecdanbaaGreatDoor
open Go Go.Kf

def tdLeaveGroupResponseMember : List TD := [.prim 0, .prim 1, .prim 2]
def tgLeaveGroupResponseMember : Option Nat := some 3
def tdLeaveGroupResponse : List TD := [.prim 1, .prim 2, .lsub 3 tdLeaveGroupResponseMember tgLeaveGroupResponseMember]
def tgLeaveGroupResponse : Option Nat := some 4
theorem rfA : RfFacts P N 64 := .of (by kernel_rfl) (by kernel_rfl) (by kernel_rfl) (by kernel_rfl) (by kernel_rfl)
theorem errI : ∃ ms, P.underlying N.tErr = some (.interface ms) := iface_of (by kernel_rfl)
def mid : List Value := [.int .i32 0, .int .i16 0, .slice none 0 0, .map none]
def fsAt (v : Int) : List FV := .one (.int .i16 v) :: [.one (.int .i32 0), .one (.int .i16 0), .list true [], .tags []]
theorem newOk : NewOk P 16 (.int .i16 0 :: mid) := new_gives rdF.mix (by kernel_rfl : zeroTy P 64 = some (.agg ⟨.int .i16 0 :: [.int .i32 0, .int .i16 0, .slice none 0 0, .map none]⟩, 5)) dokLeaveGroupResponse (by kernel_rfl) (by kernel_rfl)

def ss0s : List Step := [.call (.num 2 .i16) 61 2 40 2]
theorem ok0s : StepsOk P N 64 lsLeaveGroupResponse ss0s := ⟨⟨aInt16, ⟨by kernel_rfl, rfl, rfl⟩, by kernel_rfl⟩, trivial⟩
theorem rd0 (t : PT) (hok : t.ok) (hle : (pWrite pf 4 0 t).length ≤ 1073741824) : ∃ fs1, (∀ e0, ReadsTo P N 21 0 mid e0 (pWrite pf 4 0 t) fs1) ∧ RepPart 0 (pFlex 4 0) pf t fs1 1 ∧ okFs fs1 tysLeaveGroupResponse ∧ fs1[0]? = some (.one (.int .i16 0)) := by
  obtain ⟨fs1, h1, _, h3, h4⟩ := rt_whole (p := 1) plainOk (by kernel_rfl : rtPlain 0 (pFlex 4 0) pf ss0s tdLeaveGroupResponse (fsAt 0) 1 tgLeaveGroupResponse = true) t hok
  refine ⟨fs1, fun e0 => readsTo_of (e := E) (g := 39) (S := 64) (fDef := 30) (ds := dsLeaveGroupResponse) (ls := lsLeaveGroupResponse) (ss := ss0s) (uns := false) (fs0 := fsAt 0) (fs1 := fsAt 0) (mid1 := .int .i16 0 :: mid) rdF rfA (fun _ => hOk) hComplete (by kernel_rfl) (by kernel_rfl) defLeaveGroupResponse ok0s rfl rfl rfl rfl rfl (by kernel_rfl) (by kernel_rfl) rfl rfl hle h1 rfl, h3, ?_, ?_⟩
  · exact runSteps_ok ss0s tysLeaveGroupResponse (fsAt 0) _ fs1 _ rfl (okImms_ok rfl) hle h1
  · rw [h4 0 (by decide)]; rfl

def ws0 : List WStep := [.call (.num 2 .i16) 41 2 40 2]
theorem wsok0 : SemW P tysLeaveGroupResponse (fun s n d x k => gWSteps N ws0 s 64 n d x k) (encSteps ws0) := (semW_cons (semW_call xAppendInt16 ⟨by kernel_rfl, rfl, rfl⟩ (show oneTy P 40 = true by kernel_rfl)) semW_nil)
theorem app0 : AppTo P 22 tysLeaveGroupResponse 0 ws0 := appTo_gives (S := 64) rdF (by kernel_rfl) (by kernel_rfl) (by kernel_rfl) wsok0

theorem bhd0 (w : World) (t : PT) (hok : t.ok) (hle : (pWrite pf 4 0 t).length ≤ 1073741824) (d : List UInt8) (dst data e0 : Value) (hd : d.length ≤ 1000) (hr : DataIn w data (pWrite pf 4 0 t)) (hrd : DataIn w dst d) (he : ErrAt w N.gErr e0) : Gives P 10 [.int .i64 0, dst, data] w fun u w' => BhdPost w w' u (d ++ pWrite pf 4 0 t) := by
  obtain ⟨fs1, h1, h2, h3, h4⟩ := rd0 t hok hle
  exact bhdDoor_gives (S := 64) (fSet := 20) rdF octF (by kernel_rfl) errI (by decide) newOk (by kernel_rfl) (by kernel_rfl) (by kernel_rfl) (h1 e0) app0 h3 h4 hle hd (wr_message (p := 1) plainOk (by kernel_rfl : wrPlain 0 (pFlex 4 0) pf ws0 tysLeaveGroupResponse 1 = true) t h2 h3) hr hrd he

def ss1s : List Step := [.call (.num 4 .i32) 60 1 21 1, .call (.num 2 .i16) 61 2 40 2]
theorem ok1s : StepsOk P N 64 lsLeaveGroupResponse ss1s := ⟨⟨aInt32, ⟨by kernel_rfl, rfl, rfl⟩, by kernel_rfl⟩, ⟨aInt16, ⟨by kernel_rfl, rfl, rfl⟩, by kernel_rfl⟩, trivial⟩
theorem rd1 (t : PT) (hok : t.ok) (hle : (pWrite pf 4 1 t).length ≤ 1073741824) : ∃ fs1, (∀ e0, ReadsTo P N 21 1 mid e0 (pWrite pf 4 1 t) fs1) ∧ RepPart 1 (pFlex 4 1) pf t fs1 1 ∧ okFs fs1 tysLeaveGroupResponse ∧ fs1[0]? = some (.one (.int .i16 1)) := by
  obtain ⟨fs1, h1, _, h3, h4⟩ := rt_whole (p := 1) plainOk (by kernel_rfl : rtPlain 1 (pFlex 4 1) pf ss1s tdLeaveGroupResponse (fsAt 1) 1 tgLeaveGroupResponse = true) t hok
  refine ⟨fs1, fun e0 => readsTo_of (e := E) (g := 39) (S := 64) (fDef := 30) (ds := dsLeaveGroupResponse) (ls := lsLeaveGroupResponse) (ss := ss1s) (uns := false) (fs0 := fsAt 1) (fs1 := fsAt 1) (mid1 := .int .i16 1 :: mid) rdF rfA (fun _ => hOk) hComplete (by kernel_rfl) (by kernel_rfl) defLeaveGroupResponse ok1s rfl rfl rfl rfl rfl (by kernel_rfl) (by kernel_rfl) rfl rfl hle h1 rfl, h3, ?_, ?_⟩
  · exact runSteps_ok ss1s tysLeaveGroupResponse (fsAt 1) _ fs1 _ rfl (okImms_ok rfl) hle h1
  · rw [h4 0 (by decide)]; rfl

def ws1 : List WStep := [.call (.num 4 .i32) 40 1 21 1, .call (.num 2 .i16) 41 2 40 2]
theorem wsok1 : SemW P tysLeaveGroupResponse (fun s n d x k => gWSteps N ws1 s 64 n d x k) (encSteps ws1) := (semW_cons (semW_call xAppendInt32 ⟨by kernel_rfl, rfl, rfl⟩ (show oneTy P 21 = true by kernel_rfl)) (semW_cons (semW_call xAppendInt16 ⟨by kernel_rfl, rfl, rfl⟩ (show oneTy P 40 = true by kernel_rfl)) semW_nil))
theorem app1 : AppTo P 22 tysLeaveGroupResponse 1 ws1 := appTo_gives (S := 64) rdF (by kernel_rfl) (by kernel_rfl) (by kernel_rfl) wsok1

theorem bhd1 (w : World) (t : PT) (hok : t.ok) (hle : (pWrite pf 4 1 t).length ≤ 1073741824) (d : List UInt8) (dst data e0 : Value) (hd : d.length ≤ 1000) (hr : DataIn w data (pWrite pf 4 1 t)) (hrd : DataIn w dst d) (he : ErrAt w N.gErr e0) : Gives P 10 [.int .i64 1, dst, data] w fun u w' => BhdPost w w' u (d ++ pWrite pf 4 1 t) := by
  obtain ⟨fs1, h1, h2, h3, h4⟩ := rd1 t hok hle
  exact bhdDoor_gives (S := 64) (fSet := 20) rdF octF (by kernel_rfl) errI (by decide) newOk (by kernel_rfl) (by kernel_rfl) (by kernel_rfl) (h1 e0) app1 h3 h4 hle hd (wr_message (p := 1) plainOk (by kernel_rfl : wrPlain 1 (pFlex 4 1) pf ws1 tysLeaveGroupResponse 1 = true) t h2 h3) hr hrd he

def ss2s : List Step := [.call (.num 4 .i32) 60 1 21 1, .call (.num 2 .i16) 61 2 40 2]
theorem ok2s : StepsOk P N 64 lsLeaveGroupResponse ss2s := ⟨⟨aInt32, ⟨by kernel_rfl, rfl, rfl⟩, by kernel_rfl⟩, ⟨aInt16, ⟨by kernel_rfl, rfl, rfl⟩, by kernel_rfl⟩, trivial⟩
theorem rd2 (t : PT) (hok : t.ok) (hle : (pWrite pf 4 2 t).length ≤ 1073741824) : ∃ fs1, (∀ e0, ReadsTo P N 21 2 mid e0 (pWrite pf 4 2 t) fs1) ∧ RepPart 2 (pFlex 4 2) pf t fs1 1 ∧ okFs fs1 tysLeaveGroupResponse ∧ fs1[0]? = some (.one (.int .i16 2)) := by
  obtain ⟨fs1, h1, _, h3, h4⟩ := rt_whole (p := 1) plainOk (by kernel_rfl : rtPlain 2 (pFlex 4 2) pf ss2s tdLeaveGroupResponse (fsAt 2) 1 tgLeaveGroupResponse = true) t hok
  refine ⟨fs1, fun e0 => readsTo_of (e := E) (g := 39) (S := 64) (fDef := 30) (ds := dsLeaveGroupResponse) (ls := lsLeaveGroupResponse) (ss := ss2s) (uns := false) (fs0 := fsAt 2) (fs1 := fsAt 2) (mid1 := .int .i16 2 :: mid) rdF rfA (fun _ => hOk) hComplete (by kernel_rfl) (by kernel_rfl) defLeaveGroupResponse ok2s rfl rfl rfl rfl rfl (by kernel_rfl) (by kernel_rfl) rfl rfl hle h1 rfl, h3, ?_, ?_⟩
  · exact runSteps_ok ss2s tysLeaveGroupResponse (fsAt 2) _ fs1 _ rfl (okImms_ok rfl) hle h1
  · rw [h4 0 (by decide)]; rfl

def ws2 : List WStep := [.call (.num 4 .i32) 40 1 21 1, .call (.num 2 .i16) 41 2 40 2]
theorem wsok2 : SemW P tysLeaveGroupResponse (fun s n d x k => gWSteps N ws2 s 64 n d x k) (encSteps ws2) := (semW_cons (semW_call xAppendInt32 ⟨by kernel_rfl, rfl, rfl⟩ (show oneTy P 21 = true by kernel_rfl)) (semW_cons (semW_call xAppendInt16 ⟨by kernel_rfl, rfl, rfl⟩ (show oneTy P 40 = true by kernel_rfl)) semW_nil))
theorem app2 : AppTo P 22 tysLeaveGroupResponse 2 ws2 := appTo_gives (S := 64) rdF (by kernel_rfl) (by kernel_rfl) (by kernel_rfl) wsok2

theorem bhd2 (w : World) (t : PT) (hok : t.ok) (hle : (pWrite pf 4 2 t).length ≤ 1073741824) (d : List UInt8) (dst data e0 : Value) (hd : d.length ≤ 1000) (hr : DataIn w data (pWrite pf 4 2 t)) (hrd : DataIn w dst d) (he : ErrAt w N.gErr e0) : Gives P 10 [.int .i64 2, dst, data] w fun u w' => BhdPost w w' u (d ++ pWrite pf 4 2 t) := by
  obtain ⟨fs1, h1, h2, h3, h4⟩ := rd2 t hok hle
  exact bhdDoor_gives (S := 64) (fSet := 20) rdF octF (by kernel_rfl) errI (by decide) newOk (by kernel_rfl) (by kernel_rfl) (by kernel_rfl) (h1 e0) app2 h3 h4 hle hd (wr_message (p := 1) plainOk (by kernel_rfl : wrPlain 2 (pFlex 4 2) pf ws2 tysLeaveGroupResponse 1 = true) t h2 h3) hr hrd he

def ss3s : List Step := [.call (.num 4 .i32) 60 1 21 1, .call (.num 2 .i16) 61 2 40 2, .listS .len 63 3 59 3 80 4 66 dfLeaveGroupResponseMember [.call .str 70 0 9 0, .call .nstr 74 1 78 1, .call (.num 2 .i16) 61 2 40 2]]
theorem ok3s : StepsOk P N 64 lsLeaveGroupResponse ss3s := ⟨⟨aInt32, ⟨by kernel_rfl, rfl, rfl⟩, by kernel_rfl⟩, ⟨aInt16, ⟨by kernel_rfl, rfl, rfl⟩, by kernel_rfl⟩, ⟨hArrayLen, ⟨by kernel_rfl, rfl, rfl⟩, .of (by kernel_rfl) (by kernel_rfl) (by kernel_rfl) (by decide), dokLeaveGroupResponseMember, rfl, ⟨⟨aString, ⟨by kernel_rfl, rfl, rfl⟩, by kernel_rfl⟩, ⟨aNullableString, ⟨by kernel_rfl, rfl, rfl⟩, by kernel_rfl⟩, ⟨aInt16, ⟨by kernel_rfl, rfl, rfl⟩, by kernel_rfl⟩, trivial⟩⟩, trivial⟩
theorem rd3 (t : PT) (hok : t.ok) (hle : (pWrite pf 4 3 t).length ≤ 1073741824) : ∃ fs1, (∀ e0, ReadsTo P N 21 3 mid e0 (pWrite pf 4 3 t) fs1) ∧ RepPart 3 (pFlex 4 3) pf t fs1 1 ∧ okFs fs1 tysLeaveGroupResponse ∧ fs1[0]? = some (.one (.int .i16 3)) := by
  obtain ⟨fs1, h1, _, h3, h4⟩ := rt_whole (p := 1) plainOk (by kernel_rfl : rtPlain 3 (pFlex 4 3) pf ss3s tdLeaveGroupResponse (fsAt 3) 1 tgLeaveGroupResponse = true) t hok
  refine ⟨fs1, fun e0 => readsTo_of (e := E) (g := 39) (S := 64) (fDef := 30) (ds := dsLeaveGroupResponse) (ls := lsLeaveGroupResponse) (ss := ss3s) (uns := false) (fs0 := fsAt 3) (fs1 := fsAt 3) (mid1 := .int .i16 3 :: mid) rdF rfA (fun _ => hOk) hComplete (by kernel_rfl) (by kernel_rfl) defLeaveGroupResponse ok3s rfl rfl rfl rfl rfl (by kernel_rfl) (by kernel_rfl) rfl rfl hle h1 rfl, h3, ?_, ?_⟩
  · exact runSteps_ok ss3s tysLeaveGroupResponse (fsAt 3) _ fs1 _ rfl (okImms_ok rfl) hle h1
  · rw [h4 0 (by decide)]; rfl

def ws3 : List WStep := [.call (.num 4 .i32) 40 1 21 1, .call (.num 2 .i16) 41 2 40 2, .listS .len 43 3 59 3 80 4 tysLeaveGroupResponseMember [.call .str 45 0 9 0, .call .nstr 47 1 78 1, .call (.num 2 .i16) 41 2 40 2]]
theorem wsok3 : SemW P tysLeaveGroupResponse (fun s n d x k => gWSteps N ws3 s 64 n d x k) (encSteps ws3) := (semW_cons (semW_call xAppendInt32 ⟨by kernel_rfl, rfl, rfl⟩ (show oneTy P 21 = true by kernel_rfl)) (semW_cons (semW_call xAppendInt16 ⟨by kernel_rfl, rfl, rfl⟩ (show oneTy P 40 = true by kernel_rfl)) (semW_cons (semW_listS spF ⟨by kernel_rfl, rfl, rfl⟩ (by kernel_rfl) (by kernel_rfl) (by kernel_rfl) rfl wLen rfl (semW_cons (semW_call xAppendString ⟨by kernel_rfl, rfl, rfl⟩ (show oneTy P 9 = true by kernel_rfl)) (semW_cons (semW_call xAppendNullableString ⟨by kernel_rfl, rfl, rfl⟩ (show oneTy P 78 = true by kernel_rfl)) (semW_cons (semW_call xAppendInt16 ⟨by kernel_rfl, rfl, rfl⟩ (show oneTy P 40 = true by kernel_rfl)) semW_nil)))) semW_nil)))
theorem app3 : AppTo P 22 tysLeaveGroupResponse 3 ws3 := appTo_gives (S := 64) rdF (by kernel_rfl) (by kernel_rfl) (by kernel_rfl) wsok3

theorem bhd3 (w : World) (t : PT) (hok : t.ok) (hle : (pWrite pf 4 3 t).length ≤ 1073741824) (d : List UInt8) (dst data e0 : Value) (hd : d.length ≤ 1000) (hr : DataIn w data (pWrite pf 4 3 t)) (hrd : DataIn w dst d) (he : ErrAt w N.gErr e0) : Gives P 10 [.int .i64 3, dst, data] w fun u w' => BhdPost w w' u (d ++ pWrite pf 4 3 t) := by
  obtain ⟨fs1, h1, h2, h3, h4⟩ := rd3 t hok hle
  exact bhdDoor_gives (S := 64) (fSet := 20) rdF octF (by kernel_rfl) errI (by decide) newOk (by kernel_rfl) (by kernel_rfl) (by kernel_rfl) (h1 e0) app3 h3 h4 hle hd (wr_message (p := 1) plainOk (by kernel_rfl : wrPlain 3 (pFlex 4 3) pf ws3 tysLeaveGroupResponse 1 = true) t h2 h3) hr hrd he

def ss4s : List Step := [.call (.num 4 .i32) 60 1 21 1, .call (.num 2 .i16) 61 2 40 2, .listS .clen 62 3 59 3 80 4 66 dfLeaveGroupResponseMember [.call .cstr 69 0 9 0, .call .cnstr 72 1 78 1, .call (.num 2 .i16) 61 2 40 2, .call .tags 75 3 62 3], .call .tags 75 4 62 4]
theorem ok4s : StepsOk P N 64 lsLeaveGroupResponse ss4s := ⟨⟨aInt32, ⟨by kernel_rfl, rfl, rfl⟩, by kernel_rfl⟩, ⟨aInt16, ⟨by kernel_rfl, rfl, rfl⟩, by kernel_rfl⟩, ⟨hCompactArrayLen, ⟨by kernel_rfl, rfl, rfl⟩, .of (by kernel_rfl) (by kernel_rfl) (by kernel_rfl) (by decide), dokLeaveGroupResponseMember, rfl, ⟨⟨aCompactString, ⟨by kernel_rfl, rfl, rfl⟩, by kernel_rfl⟩, ⟨aCompactNullableString, ⟨by kernel_rfl, rfl, rfl⟩, by kernel_rfl⟩, ⟨aInt16, ⟨by kernel_rfl, rfl, rfl⟩, by kernel_rfl⟩, ⟨aTags, ⟨by kernel_rfl, rfl, rfl⟩, by kernel_rfl⟩, trivial⟩⟩, ⟨aTags, ⟨by kernel_rfl, rfl, rfl⟩, by kernel_rfl⟩, trivial⟩
theorem rd4 (t : PT) (hok : t.ok) (hle : (pWrite pf 4 4 t).length ≤ 1073741824) : ∃ fs1, (∀ e0, ReadsTo P N 21 4 mid e0 (pWrite pf 4 4 t) fs1) ∧ RepPart 4 (pFlex 4 4) pf t fs1 1 ∧ okFs fs1 tysLeaveGroupResponse ∧ fs1[0]? = some (.one (.int .i16 4)) := by
  obtain ⟨fs1, h1, _, h3, h4⟩ := rt_whole (p := 1) plainOk (by kernel_rfl : rtPlain 4 (pFlex 4 4) pf ss4s tdLeaveGroupResponse (fsAt 4) 1 tgLeaveGroupResponse = true) t hok
  refine ⟨fs1, fun e0 => readsTo_of (e := E) (g := 39) (S := 64) (fDef := 30) (ds := dsLeaveGroupResponse) (ls := lsLeaveGroupResponse) (ss := ss4s) (uns := false) (fs0 := fsAt 4) (fs1 := fsAt 4) (mid1 := .int .i16 4 :: mid) rdF rfA (fun _ => hOk) hComplete (by kernel_rfl) (by kernel_rfl) defLeaveGroupResponse ok4s rfl rfl rfl rfl rfl (by kernel_rfl) (by kernel_rfl) rfl rfl hle h1 rfl, h3, ?_, ?_⟩
  · exact runSteps_ok ss4s tysLeaveGroupResponse (fsAt 4) _ fs1 _ rfl (okImms_ok rfl) hle h1
  · rw [h4 0 (by decide)]; rfl

def ws4 : List WStep := [.call (.num 4 .i32) 40 1 21 1, .call (.num 2 .i16) 41 2 40 2, .listS .clen 42 3 59 3 80 4 tysLeaveGroupResponseMember [.call .cstr 44 0 9 0, .call .cnstr 46 1 78 1, .call (.num 2 .i16) 41 2 40 2, .tags 48 49 50 3 3], .tags 48 49 50 4 4]
theorem wsok4 : SemW P tysLeaveGroupResponse (fun s n d x k => gWSteps N ws4 s 64 n d x k) (encSteps ws4) := (semW_cons (semW_call xAppendInt32 ⟨by kernel_rfl, rfl, rfl⟩ (show oneTy P 21 = true by kernel_rfl)) (semW_cons (semW_call xAppendInt16 ⟨by kernel_rfl, rfl, rfl⟩ (show oneTy P 40 = true by kernel_rfl)) (semW_cons (semW_listS spF ⟨by kernel_rfl, rfl, rfl⟩ (by kernel_rfl) (by kernel_rfl) (by kernel_rfl) rfl wCLen rfl (semW_cons (semW_call xAppendCompactString ⟨by kernel_rfl, rfl, rfl⟩ (show oneTy P 9 = true by kernel_rfl)) (semW_cons (semW_call xAppendCompactNullableString ⟨by kernel_rfl, rfl, rfl⟩ (show oneTy P 78 = true by kernel_rfl)) (semW_cons (semW_call xAppendInt16 ⟨by kernel_rfl, rfl, rfl⟩ (show oneTy P 40 = true by kernel_rfl)) (semW_cons (semW_tags spF wUv hTagsLen wEach ⟨by kernel_rfl, rfl, rfl⟩) semW_nil))))) (semW_cons (semW_tags spF wUv hTagsLen wEach ⟨by kernel_rfl, rfl, rfl⟩) semW_nil))))
theorem app4 : AppTo P 22 tysLeaveGroupResponse 4 ws4 := appTo_gives (S := 64) rdF (by kernel_rfl) (by kernel_rfl) (by kernel_rfl) wsok4

theorem bhd4 (w : World) (t : PT) (hok : t.ok) (hle : (pWrite pf 4 4 t).length ≤ 1073741824) (d : List UInt8) (dst data e0 : Value) (hd : d.length ≤ 1000) (hr : DataIn w data (pWrite pf 4 4 t)) (hrd : DataIn w dst d) (he : ErrAt w N.gErr e0) : Gives P 10 [.int .i64 4, dst, data] w fun u w' => BhdPost w w' u (d ++ pWrite pf 4 4 t) := by
  obtain ⟨fs1, h1, h2, h3, h4⟩ := rd4 t hok hle
  exact bhdDoor_gives (S := 64) (fSet := 20) rdF octF (by kernel_rfl) errI (by decide) newOk (by kernel_rfl) (by kernel_rfl) (by kernel_rfl) (h1 e0) app4 h3 h4 hle hd (wr_message (p := 1) plainOk (by kernel_rfl : wrPlain 4 (pFlex 4 4) pf ws4 tysLeaveGroupResponse 1 = true) t h2 h3) hr hrd he

def ss5s : List Step := [.call (.num 4 .i32) 60 1 21 1, .call (.num 2 .i16) 61 2 40 2, .listS .clen 62 3 59 3 80 4 66 dfLeaveGroupResponseMember [.call .cstr 69 0 9 0, .call .cnstr 72 1 78 1, .call (.num 2 .i16) 61 2 40 2, .call .tags 75 3 62 3], .call .tags 75 4 62 4]
theorem ok5s : StepsOk P N 64 lsLeaveGroupResponse ss5s := ⟨⟨aInt32, ⟨by kernel_rfl, rfl, rfl⟩, by kernel_rfl⟩, ⟨aInt16, ⟨by kernel_rfl, rfl, rfl⟩, by kernel_rfl⟩, ⟨hCompactArrayLen, ⟨by kernel_rfl, rfl, rfl⟩, .of (by kernel_rfl) (by kernel_rfl) (by kernel_rfl) (by decide), dokLeaveGroupResponseMember, rfl, ⟨⟨aCompactString, ⟨by kernel_rfl, rfl, rfl⟩, by kernel_rfl⟩, ⟨aCompactNullableString, ⟨by kernel_rfl, rfl, rfl⟩, by kernel_rfl⟩, ⟨aInt16, ⟨by kernel_rfl, rfl, rfl⟩, by kernel_rfl⟩, ⟨aTags, ⟨by kernel_rfl, rfl, rfl⟩, by kernel_rfl⟩, trivial⟩⟩, ⟨aTags, ⟨by kernel_rfl, rfl, rfl⟩, by kernel_rfl⟩, trivial⟩
theorem rd5 (t : PT) (hok : t.ok) (hle : (pWrite pf 4 5 t).length ≤ 1073741824) : ∃ fs1, (∀ e0, ReadsTo P N 21 5 mid e0 (pWrite pf 4 5 t) fs1) ∧ RepPart 5 (pFlex 4 5) pf t fs1 1 ∧ okFs fs1 tysLeaveGroupResponse ∧ fs1[0]? = some (.one (.int .i16 5)) := by
  obtain ⟨fs1, h1, _, h3, h4⟩ := rt_whole (p := 1) plainOk (by kernel_rfl : rtPlain 5 (pFlex 4 5) pf ss5s tdLeaveGroupResponse (fsAt 5) 1 tgLeaveGroupResponse = true) t hok
  refine ⟨fs1, fun e0 => readsTo_of (e := E) (g := 39) (S := 64) (fDef := 30) (ds := dsLeaveGroupResponse) (ls := lsLeaveGroupResponse) (ss := ss5s) (uns := false) (fs0 := fsAt 5) (fs1 := fsAt 5) (mid1 := .int .i16 5 :: mid) rdF rfA (fun _ => hOk) hComplete (by kernel_rfl) (by kernel_rfl) defLeaveGroupResponse ok5s rfl rfl rfl rfl rfl (by kernel_rfl) (by kernel_rfl) rfl rfl hle h1 rfl, h3, ?_, ?_⟩
  · exact runSteps_ok ss5s tysLeaveGroupResponse (fsAt 5) _ fs1 _ rfl (okImms_ok rfl) hle h1
  · rw [h4 0 (by decide)]; rfl

def ws5 : List WStep := [.call (.num 4 .i32) 40 1 21 1, .call (.num 2 .i16) 41 2 40 2, .listS .clen 42 3 59 3 80 4 tysLeaveGroupResponseMember [.call .cstr 44 0 9 0, .call .cnstr 46 1 78 1, .call (.num 2 .i16) 41 2 40 2, .tags 48 49 50 3 3], .tags 48 49 50 4 4]
theorem wsok5 : SemW P tysLeaveGroupResponse (fun s n d x k => gWSteps N ws5 s 64 n d x k) (encSteps ws5) := (semW_cons (semW_call xAppendInt32 ⟨by kernel_rfl, rfl, rfl⟩ (show oneTy P 21 = true by kernel_rfl)) (semW_cons (semW_call xAppendInt16 ⟨by kernel_rfl, rfl, rfl⟩ (show oneTy P 40 = true by kernel_rfl)) (semW_cons (semW_listS spF ⟨by kernel_rfl, rfl, rfl⟩ (by kernel_rfl) (by kernel_rfl) (by kernel_rfl) rfl wCLen rfl (semW_cons (semW_call xAppendCompactString ⟨by kernel_rfl, rfl, rfl⟩ (show oneTy P 9 = true by kernel_rfl)) (semW_cons (semW_call xAppendCompactNullableString ⟨by kernel_rfl, rfl, rfl⟩ (show oneTy P 78 = true by kernel_rfl)) (semW_cons (semW_call xAppendInt16 ⟨by kernel_rfl, rfl, rfl⟩ (show oneTy P 40 = true by kernel_rfl)) (semW_cons (semW_tags spF wUv hTagsLen wEach ⟨by kernel_rfl, rfl, rfl⟩) semW_nil))))) (semW_cons (semW_tags spF wUv hTagsLen wEach ⟨by kernel_rfl, rfl, rfl⟩) semW_nil))))
theorem app5 : AppTo P 22 tysLeaveGroupResponse 5 ws5 := appTo_gives (S := 64) rdF (by kernel_rfl) (by kernel_rfl) (by kernel_rfl) wsok5

theorem bhd5 (w : World) (t : PT) (hok : t.ok) (hle : (pWrite pf 4 5 t).length ≤ 1073741824) (d : List UInt8) (dst data e0 : Value) (hd : d.length ≤ 1000) (hr : DataIn w data (pWrite pf 4 5 t)) (hrd : DataIn w dst d) (he : ErrAt w N.gErr e0) : Gives P 10 [.int .i64 5, dst, data] w fun u w' => BhdPost w w' u (d ++ pWrite pf 4 5 t) := by
  obtain ⟨fs1, h1, h2, h3, h4⟩ := rd5 t hok hle
  exact bhdDoor_gives (S := 64) (fSet := 20) rdF octF (by kernel_rfl) errI (by decide) newOk (by kernel_rfl) (by kernel_rfl) (by kernel_rfl) (h1 e0) app5 h3 h4 hle hd (wr_message (p := 1) plainOk (by kernel_rfl : wrPlain 5 (pFlex 4 5) pf ws5 tysLeaveGroupResponse 1 = true) t h2 h3) hr hrd he

theorem bhdAll (v : Nat) (hv : v ≤ 5) (w : World) (t : PT) (hok : t.ok) (hle : (pWrite pf 4 v t).length ≤ 1073741824) (d : List UInt8) (dst data e0 : Value) (hd : d.length ≤ 1000) (hr : DataIn w data (pWrite pf 4 v t)) (hrd : DataIn w dst d) (he : ErrAt w N.gErr e0) : Gives P 10 [.int .i64 v, dst, data] w fun u w' => BhdPost w w' u (d ++ pWrite pf 4 v t) := by
  have h : v = 0 ∨ v = 1 ∨ v = 2 ∨ v = 3 ∨ v = 4 ∨ v = 5 := by omega
  rcases h with rfl | rfl | rfl | rfl | rfl | rfl
  · exact bhd0 w t hok hle d dst data e0 hd hr hrd he
  · exact bhd1 w t hok hle d dst data e0 hd hr hrd he
  · exact bhd2 w t hok hle d dst data e0 hd hr hrd he
  · exact bhd3 w t hok hle d dst data e0 hd hr hrd he
  · exact bhd4 w t hok hle d dst data e0 hd hr hrd he
  · exact bhd5 w t hok hle d dst data e0 hd hr hrd he
theorem maxOk (w : World) : Gives P 6 [] w fun v w' => v = .int .i64 (5 : Nat) ∧ Keeps [] w w' := max_gives (fNew := 16) (fMax := 17) (m := 5) rdF newOk (by kernel_rfl) (by kernel_rfl) rfl
theorem verOk (n : Nat) (hn : n < 256) (w : World) : Gives P 8 [.int .u8 n, .int .i64 (5 : Nat)] w fun v w' => v = .int .i64 (n % (5 + 1) : Nat) ∧ w' = w := version_gives rdF (by kernel_rfl) hn (by decide)

/-- The law: whatever the octets ahead and the tree. -/
theorem lawOk (w : World) (n : Nat) (hn : n < 256) (dst : Value) (d : List UInt8) (t : PT) (ts : List Value) (e0 : Value) (hrd : DataIn w dst d) (ht : TreeC w t ts) (hok : t.ok) (hwt : t.wt ≤ 1048576) (he : ErrAt w N.gErr e0) : Gives P 3 [.int .u8 n, dst, .agg ⟨ts⟩] w fun v w' => v = .bool true ∧ Keeps [] w w' :=
  have hv : n % (5 + 1) ≤ 5 := Nat.le_of_lt_succ (Nat.mod_lt _ (by decide))
  have hle : (pWrite pf 4 (n % (5 + 1) : Nat) t).length ≤ 1073741824 := Nat.le_trans (pWrite_len plainOk _ _ t) (Nat.mul_le_mul kOk hwt)
  bhdLaw_gives (m := 5) (fs := pf) (x := 4) (e0 := e0) spF spT fitT sameT (by kernel_rfl) plainOk (by decide) ⟨_, fbF.zero, rfl⟩ maxOk (verOk n hn) msgOk (fun w data hd hr hrd he => bhdAll _ hv w t hok hle d dst data e0 hd hr hrd he) hle hrd ht hok he
end Go.Proofs.YtbgdfbfecdanbaaGreatDoor
