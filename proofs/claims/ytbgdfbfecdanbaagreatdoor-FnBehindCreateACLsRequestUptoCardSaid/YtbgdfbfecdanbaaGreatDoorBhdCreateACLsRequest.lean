/- CreateACLsRequest: read, and written again. -/
import Derived.Test.YtbgdfbfecdanbaaGreatDoorMsgCreateACLsRequest
import Derived.Test.YtbgdfbfecdanbaaGreatDoorFieldsCreateACLsRequest
import Derived.Test.YtbgdfbfecdanbaaGreatDoorWr
namespace Go.Proofs.YtbgdfbfecdanbaaGreatDoor
open Go Go.Kf

def tdCreateACLsRequestCreation : List TD := [.prim 0, .prim 1, .prim 2, .prim 3, .prim 4, .prim 5, .prim 6]
def tgCreateACLsRequestCreation : Option Nat := some 7
def tdCreateACLsRequest : List TD := [.lsub 1 tdCreateACLsRequestCreation tgCreateACLsRequestCreation]
def tgCreateACLsRequest : Option Nat := some 2
theorem rfA : RfFacts P N 86 := .of (by kernel_rfl) (by kernel_rfl) (by kernel_rfl) (by kernel_rfl) (by kernel_rfl)
theorem errI : ∃ ms, P.underlying N.tErr = some (.interface ms) := iface_of (by kernel_rfl)
def mid : List Value := [.slice none 0 0, .map none]
def fsAt (v : Int) : List FV := .one (.int .i16 v) :: [.list true [], .tags []]
theorem newOk : NewOk P 23 (.int .i16 0 :: mid) := new_gives rdF.mix (by kernel_rfl : zeroTy P 86 = some (.agg ⟨.int .i16 0 :: [.slice none 0 0, .map none]⟩, 3)) dokCreateACLsRequest (by kernel_rfl) (by kernel_rfl)

def ss0s : List Step := [.listS .len 63 1 84 1 94 8 81 dfCreateACLsRequestCreation [.call (.num 1 .i8) 82 0 89 0, .call .str 70 1 9 1, .call .str 70 3 9 3, .call .str 70 4 9 4, .call (.num 1 .i8) 82 5 91 5, .call (.num 1 .i8) 82 6 92 6]]
theorem ok0s : StepsOk P N 86 lsCreateACLsRequest ss0s := ⟨⟨hArrayLen, ⟨by kernel_rfl, rfl, rfl⟩, .of (by kernel_rfl) (by kernel_rfl) (by kernel_rfl) (by decide), dokCreateACLsRequestCreation, rfl, ⟨⟨aInt8, ⟨by kernel_rfl, rfl, rfl⟩, by kernel_rfl⟩, ⟨aString, ⟨by kernel_rfl, rfl, rfl⟩, by kernel_rfl⟩, ⟨aString, ⟨by kernel_rfl, rfl, rfl⟩, by kernel_rfl⟩, ⟨aString, ⟨by kernel_rfl, rfl, rfl⟩, by kernel_rfl⟩, ⟨aInt8, ⟨by kernel_rfl, rfl, rfl⟩, by kernel_rfl⟩, ⟨aInt8, ⟨by kernel_rfl, rfl, rfl⟩, by kernel_rfl⟩, trivial⟩⟩, trivial⟩
theorem rd0 (t : PT) (hok : t.ok) (hle : (pWrite pf 2 0 t).length ≤ 1073741824) : ∃ fs1, (∀ e0, ReadsTo P N 27 0 mid e0 (pWrite pf 2 0 t) fs1) ∧ RepPart 0 (pFlex 2 0) pf t fs1 1 ∧ okFs fs1 tysCreateACLsRequest ∧ fs1[0]? = some (.one (.int .i16 0)) := by
  obtain ⟨fs1, h1, _, h3, h4⟩ := rt_whole (p := 1) plainOk (by kernel_rfl : rtPlain 0 (pFlex 2 0) pf ss0s tdCreateACLsRequest (fsAt 0) 1 tgCreateACLsRequest = true) t hok
  refine ⟨fs1, fun e0 => readsTo_of (e := E) (g := 52) (S := 86) (fDef := 51) (ds := dsCreateACLsRequest) (ls := lsCreateACLsRequest) (ss := ss0s) (uns := false) (fs0 := fsAt 0) (fs1 := fsAt 0) (mid1 := .int .i16 0 :: mid) rdF rfA (fun _ => hOk) hComplete (by kernel_rfl) (by kernel_rfl) defCreateACLsRequest ok0s rfl rfl rfl rfl rfl (by kernel_rfl) (by kernel_rfl) rfl rfl hle h1 rfl, h3, ?_, ?_⟩
  · exact runSteps_ok ss0s tysCreateACLsRequest (fsAt 0) _ fs1 _ rfl (okImms_ok rfl) hle h1
  · rw [h4 0 (by decide)]; rfl

def ws0 : List WStep := [.listS .len 43 1 84 1 94 8 tysCreateACLsRequestCreation [.call (.num 1 .i8) 53 0 89 0, .call .str 45 1 9 1, .call .str 45 3 9 3, .call .str 45 4 9 4, .call (.num 1 .i8) 53 5 91 5, .call (.num 1 .i8) 53 6 92 6]]
theorem wsok0 : SemW P tysCreateACLsRequest (fun s n d x k => gWSteps N ws0 s 86 n d x k) (encSteps ws0) := (semW_cons (semW_listS spF ⟨by kernel_rfl, rfl, rfl⟩ (by kernel_rfl) (by kernel_rfl) (by kernel_rfl) rfl wLen rfl (semW_cons (semW_call xAppendInt8 ⟨by kernel_rfl, rfl, rfl⟩ (show oneTy P 89 = true by kernel_rfl)) (semW_cons (semW_call xAppendString ⟨by kernel_rfl, rfl, rfl⟩ (show oneTy P 9 = true by kernel_rfl)) (semW_cons (semW_call xAppendString ⟨by kernel_rfl, rfl, rfl⟩ (show oneTy P 9 = true by kernel_rfl)) (semW_cons (semW_call xAppendString ⟨by kernel_rfl, rfl, rfl⟩ (show oneTy P 9 = true by kernel_rfl)) (semW_cons (semW_call xAppendInt8 ⟨by kernel_rfl, rfl, rfl⟩ (show oneTy P 91 = true by kernel_rfl)) (semW_cons (semW_call xAppendInt8 ⟨by kernel_rfl, rfl, rfl⟩ (show oneTy P 92 = true by kernel_rfl)) semW_nil))))))) semW_nil)
theorem app0 : AppTo P 28 tysCreateACLsRequest 0 ws0 := appTo_gives (S := 86) rdF (by kernel_rfl) (by kernel_rfl) (by kernel_rfl) wsok0

theorem bhd0 (w : World) (t : PT) (hok : t.ok) (hle : (pWrite pf 2 0 t).length ≤ 1073741824) (d : List UInt8) (dst data e0 : Value) (hd : d.length ≤ 1000) (hr : DataIn w data (pWrite pf 2 0 t)) (hrd : DataIn w dst d) (he : ErrAt w N.gErr e0) : Gives P 14 [.int .i64 0, dst, data] w fun u w' => BhdPost w w' u (d ++ pWrite pf 2 0 t) := by
  obtain ⟨fs1, h1, h2, h3, h4⟩ := rd0 t hok hle
  exact bhdDoor_gives (S := 86) (fSet := 26) rdF octF (by kernel_rfl) errI (by decide) newOk (by kernel_rfl) (by kernel_rfl) (by kernel_rfl) (h1 e0) app0 h3 h4 hle hd (wr_message (p := 1) plainOk (by kernel_rfl : wrPlain 0 (pFlex 2 0) pf ws0 tysCreateACLsRequest 1 = true) t h2 h3) hr hrd he

def ss1s : List Step := [.listS .len 63 1 84 1 94 8 81 dfCreateACLsRequestCreation [.call (.num 1 .i8) 82 0 89 0, .call .str 70 1 9 1, .call (.num 1 .i8) 82 2 90 2, .call .str 70 3 9 3, .call .str 70 4 9 4, .call (.num 1 .i8) 82 5 91 5, .call (.num 1 .i8) 82 6 92 6]]
theorem ok1s : StepsOk P N 86 lsCreateACLsRequest ss1s := ⟨⟨hArrayLen, ⟨by kernel_rfl, rfl, rfl⟩, .of (by kernel_rfl) (by kernel_rfl) (by kernel_rfl) (by decide), dokCreateACLsRequestCreation, rfl, ⟨⟨aInt8, ⟨by kernel_rfl, rfl, rfl⟩, by kernel_rfl⟩, ⟨aString, ⟨by kernel_rfl, rfl, rfl⟩, by kernel_rfl⟩, ⟨aInt8, ⟨by kernel_rfl, rfl, rfl⟩, by kernel_rfl⟩, ⟨aString, ⟨by kernel_rfl, rfl, rfl⟩, by kernel_rfl⟩, ⟨aString, ⟨by kernel_rfl, rfl, rfl⟩, by kernel_rfl⟩, ⟨aInt8, ⟨by kernel_rfl, rfl, rfl⟩, by kernel_rfl⟩, ⟨aInt8, ⟨by kernel_rfl, rfl, rfl⟩, by kernel_rfl⟩, trivial⟩⟩, trivial⟩
theorem rd1 (t : PT) (hok : t.ok) (hle : (pWrite pf 2 1 t).length ≤ 1073741824) : ∃ fs1, (∀ e0, ReadsTo P N 27 1 mid e0 (pWrite pf 2 1 t) fs1) ∧ RepPart 1 (pFlex 2 1) pf t fs1 1 ∧ okFs fs1 tysCreateACLsRequest ∧ fs1[0]? = some (.one (.int .i16 1)) := by
  obtain ⟨fs1, h1, _, h3, h4⟩ := rt_whole (p := 1) plainOk (by kernel_rfl : rtPlain 1 (pFlex 2 1) pf ss1s tdCreateACLsRequest (fsAt 1) 1 tgCreateACLsRequest = true) t hok
  refine ⟨fs1, fun e0 => readsTo_of (e := E) (g := 52) (S := 86) (fDef := 51) (ds := dsCreateACLsRequest) (ls := lsCreateACLsRequest) (ss := ss1s) (uns := false) (fs0 := fsAt 1) (fs1 := fsAt 1) (mid1 := .int .i16 1 :: mid) rdF rfA (fun _ => hOk) hComplete (by kernel_rfl) (by kernel_rfl) defCreateACLsRequest ok1s rfl rfl rfl rfl rfl (by kernel_rfl) (by kernel_rfl) rfl rfl hle h1 rfl, h3, ?_, ?_⟩
  · exact runSteps_ok ss1s tysCreateACLsRequest (fsAt 1) _ fs1 _ rfl (okImms_ok rfl) hle h1
  · rw [h4 0 (by decide)]; rfl

def ws1 : List WStep := [.listS .len 43 1 84 1 94 8 tysCreateACLsRequestCreation [.call (.num 1 .i8) 53 0 89 0, .call .str 45 1 9 1, .call (.num 1 .i8) 53 2 90 2, .call .str 45 3 9 3, .call .str 45 4 9 4, .call (.num 1 .i8) 53 5 91 5, .call (.num 1 .i8) 53 6 92 6]]
theorem wsok1 : SemW P tysCreateACLsRequest (fun s n d x k => gWSteps N ws1 s 86 n d x k) (encSteps ws1) := (semW_cons (semW_listS spF ⟨by kernel_rfl, rfl, rfl⟩ (by kernel_rfl) (by kernel_rfl) (by kernel_rfl) rfl wLen rfl (semW_cons (semW_call xAppendInt8 ⟨by kernel_rfl, rfl, rfl⟩ (show oneTy P 89 = true by kernel_rfl)) (semW_cons (semW_call xAppendString ⟨by kernel_rfl, rfl, rfl⟩ (show oneTy P 9 = true by kernel_rfl)) (semW_cons (semW_call xAppendInt8 ⟨by kernel_rfl, rfl, rfl⟩ (show oneTy P 90 = true by kernel_rfl)) (semW_cons (semW_call xAppendString ⟨by kernel_rfl, rfl, rfl⟩ (show oneTy P 9 = true by kernel_rfl)) (semW_cons (semW_call xAppendString ⟨by kernel_rfl, rfl, rfl⟩ (show oneTy P 9 = true by kernel_rfl)) (semW_cons (semW_call xAppendInt8 ⟨by kernel_rfl, rfl, rfl⟩ (show oneTy P 91 = true by kernel_rfl)) (semW_cons (semW_call xAppendInt8 ⟨by kernel_rfl, rfl, rfl⟩ (show oneTy P 92 = true by kernel_rfl)) semW_nil)))))))) semW_nil)
theorem app1 : AppTo P 28 tysCreateACLsRequest 1 ws1 := appTo_gives (S := 86) rdF (by kernel_rfl) (by kernel_rfl) (by kernel_rfl) wsok1

theorem bhd1 (w : World) (t : PT) (hok : t.ok) (hle : (pWrite pf 2 1 t).length ≤ 1073741824) (d : List UInt8) (dst data e0 : Value) (hd : d.length ≤ 1000) (hr : DataIn w data (pWrite pf 2 1 t)) (hrd : DataIn w dst d) (he : ErrAt w N.gErr e0) : Gives P 14 [.int .i64 1, dst, data] w fun u w' => BhdPost w w' u (d ++ pWrite pf 2 1 t) := by
  obtain ⟨fs1, h1, h2, h3, h4⟩ := rd1 t hok hle
  exact bhdDoor_gives (S := 86) (fSet := 26) rdF octF (by kernel_rfl) errI (by decide) newOk (by kernel_rfl) (by kernel_rfl) (by kernel_rfl) (h1 e0) app1 h3 h4 hle hd (wr_message (p := 1) plainOk (by kernel_rfl : wrPlain 1 (pFlex 2 1) pf ws1 tysCreateACLsRequest 1 = true) t h2 h3) hr hrd he

def ss2s : List Step := [.listS .clen 62 1 84 1 94 8 81 dfCreateACLsRequestCreation [.call (.num 1 .i8) 82 0 89 0, .call .cstr 69 1 9 1, .call (.num 1 .i8) 82 2 90 2, .call .cstr 69 3 9 3, .call .cstr 69 4 9 4, .call (.num 1 .i8) 82 5 91 5, .call (.num 1 .i8) 82 6 92 6, .call .tags 75 7 62 7], .call .tags 75 2 62 2]
theorem ok2s : StepsOk P N 86 lsCreateACLsRequest ss2s := ⟨⟨hCompactArrayLen, ⟨by kernel_rfl, rfl, rfl⟩, .of (by kernel_rfl) (by kernel_rfl) (by kernel_rfl) (by decide), dokCreateACLsRequestCreation, rfl, ⟨⟨aInt8, ⟨by kernel_rfl, rfl, rfl⟩, by kernel_rfl⟩, ⟨aCompactString, ⟨by kernel_rfl, rfl, rfl⟩, by kernel_rfl⟩, ⟨aInt8, ⟨by kernel_rfl, rfl, rfl⟩, by kernel_rfl⟩, ⟨aCompactString, ⟨by kernel_rfl, rfl, rfl⟩, by kernel_rfl⟩, ⟨aCompactString, ⟨by kernel_rfl, rfl, rfl⟩, by kernel_rfl⟩, ⟨aInt8, ⟨by kernel_rfl, rfl, rfl⟩, by kernel_rfl⟩, ⟨aInt8, ⟨by kernel_rfl, rfl, rfl⟩, by kernel_rfl⟩, ⟨aTags, ⟨by kernel_rfl, rfl, rfl⟩, by kernel_rfl⟩, trivial⟩⟩, ⟨aTags, ⟨by kernel_rfl, rfl, rfl⟩, by kernel_rfl⟩, trivial⟩
theorem rd2 (t : PT) (hok : t.ok) (hle : (pWrite pf 2 2 t).length ≤ 1073741824) : ∃ fs1, (∀ e0, ReadsTo P N 27 2 mid e0 (pWrite pf 2 2 t) fs1) ∧ RepPart 2 (pFlex 2 2) pf t fs1 1 ∧ okFs fs1 tysCreateACLsRequest ∧ fs1[0]? = some (.one (.int .i16 2)) := by
  obtain ⟨fs1, h1, _, h3, h4⟩ := rt_whole (p := 1) plainOk (by kernel_rfl : rtPlain 2 (pFlex 2 2) pf ss2s tdCreateACLsRequest (fsAt 2) 1 tgCreateACLsRequest = true) t hok
  refine ⟨fs1, fun e0 => readsTo_of (e := E) (g := 52) (S := 86) (fDef := 51) (ds := dsCreateACLsRequest) (ls := lsCreateACLsRequest) (ss := ss2s) (uns := false) (fs0 := fsAt 2) (fs1 := fsAt 2) (mid1 := .int .i16 2 :: mid) rdF rfA (fun _ => hOk) hComplete (by kernel_rfl) (by kernel_rfl) defCreateACLsRequest ok2s rfl rfl rfl rfl rfl (by kernel_rfl) (by kernel_rfl) rfl rfl hle h1 rfl, h3, ?_, ?_⟩
  · exact runSteps_ok ss2s tysCreateACLsRequest (fsAt 2) _ fs1 _ rfl (okImms_ok rfl) hle h1
  · rw [h4 0 (by decide)]; rfl

def ws2 : List WStep := [.listS .clen 42 1 84 1 94 8 tysCreateACLsRequestCreation [.call (.num 1 .i8) 53 0 89 0, .call .cstr 44 1 9 1, .call (.num 1 .i8) 53 2 90 2, .call .cstr 44 3 9 3, .call .cstr 44 4 9 4, .call (.num 1 .i8) 53 5 91 5, .call (.num 1 .i8) 53 6 92 6, .tags 48 49 50 7 7], .tags 48 49 50 2 2]
theorem wsok2 : SemW P tysCreateACLsRequest (fun s n d x k => gWSteps N ws2 s 86 n d x k) (encSteps ws2) := (semW_cons (semW_listS spF ⟨by kernel_rfl, rfl, rfl⟩ (by kernel_rfl) (by kernel_rfl) (by kernel_rfl) rfl wCLen rfl (semW_cons (semW_call xAppendInt8 ⟨by kernel_rfl, rfl, rfl⟩ (show oneTy P 89 = true by kernel_rfl)) (semW_cons (semW_call xAppendCompactString ⟨by kernel_rfl, rfl, rfl⟩ (show oneTy P 9 = true by kernel_rfl)) (semW_cons (semW_call xAppendInt8 ⟨by kernel_rfl, rfl, rfl⟩ (show oneTy P 90 = true by kernel_rfl)) (semW_cons (semW_call xAppendCompactString ⟨by kernel_rfl, rfl, rfl⟩ (show oneTy P 9 = true by kernel_rfl)) (semW_cons (semW_call xAppendCompactString ⟨by kernel_rfl, rfl, rfl⟩ (show oneTy P 9 = true by kernel_rfl)) (semW_cons (semW_call xAppendInt8 ⟨by kernel_rfl, rfl, rfl⟩ (show oneTy P 91 = true by kernel_rfl)) (semW_cons (semW_call xAppendInt8 ⟨by kernel_rfl, rfl, rfl⟩ (show oneTy P 92 = true by kernel_rfl)) (semW_cons (semW_tags spF wUv hTagsLen wEach ⟨by kernel_rfl, rfl, rfl⟩) semW_nil))))))))) (semW_cons (semW_tags spF wUv hTagsLen wEach ⟨by kernel_rfl, rfl, rfl⟩) semW_nil))
theorem app2 : AppTo P 28 tysCreateACLsRequest 2 ws2 := appTo_gives (S := 86) rdF (by kernel_rfl) (by kernel_rfl) (by kernel_rfl) wsok2

theorem bhd2 (w : World) (t : PT) (hok : t.ok) (hle : (pWrite pf 2 2 t).length ≤ 1073741824) (d : List UInt8) (dst data e0 : Value) (hd : d.length ≤ 1000) (hr : DataIn w data (pWrite pf 2 2 t)) (hrd : DataIn w dst d) (he : ErrAt w N.gErr e0) : Gives P 14 [.int .i64 2, dst, data] w fun u w' => BhdPost w w' u (d ++ pWrite pf 2 2 t) := by
  obtain ⟨fs1, h1, h2, h3, h4⟩ := rd2 t hok hle
  exact bhdDoor_gives (S := 86) (fSet := 26) rdF octF (by kernel_rfl) errI (by decide) newOk (by kernel_rfl) (by kernel_rfl) (by kernel_rfl) (h1 e0) app2 h3 h4 hle hd (wr_message (p := 1) plainOk (by kernel_rfl : wrPlain 2 (pFlex 2 2) pf ws2 tysCreateACLsRequest 1 = true) t h2 h3) hr hrd he

def ss3s : List Step := [.listS .clen 62 1 84 1 94 8 81 dfCreateACLsRequestCreation [.call (.num 1 .i8) 82 0 89 0, .call .cstr 69 1 9 1, .call (.num 1 .i8) 82 2 90 2, .call .cstr 69 3 9 3, .call .cstr 69 4 9 4, .call (.num 1 .i8) 82 5 91 5, .call (.num 1 .i8) 82 6 92 6, .call .tags 75 7 62 7], .call .tags 75 2 62 2]
theorem ok3s : StepsOk P N 86 lsCreateACLsRequest ss3s := ⟨⟨hCompactArrayLen, ⟨by kernel_rfl, rfl, rfl⟩, .of (by kernel_rfl) (by kernel_rfl) (by kernel_rfl) (by decide), dokCreateACLsRequestCreation, rfl, ⟨⟨aInt8, ⟨by kernel_rfl, rfl, rfl⟩, by kernel_rfl⟩, ⟨aCompactString, ⟨by kernel_rfl, rfl, rfl⟩, by kernel_rfl⟩, ⟨aInt8, ⟨by kernel_rfl, rfl, rfl⟩, by kernel_rfl⟩, ⟨aCompactString, ⟨by kernel_rfl, rfl, rfl⟩, by kernel_rfl⟩, ⟨aCompactString, ⟨by kernel_rfl, rfl, rfl⟩, by kernel_rfl⟩, ⟨aInt8, ⟨by kernel_rfl, rfl, rfl⟩, by kernel_rfl⟩, ⟨aInt8, ⟨by kernel_rfl, rfl, rfl⟩, by kernel_rfl⟩, ⟨aTags, ⟨by kernel_rfl, rfl, rfl⟩, by kernel_rfl⟩, trivial⟩⟩, ⟨aTags, ⟨by kernel_rfl, rfl, rfl⟩, by kernel_rfl⟩, trivial⟩
theorem rd3 (t : PT) (hok : t.ok) (hle : (pWrite pf 2 3 t).length ≤ 1073741824) : ∃ fs1, (∀ e0, ReadsTo P N 27 3 mid e0 (pWrite pf 2 3 t) fs1) ∧ RepPart 3 (pFlex 2 3) pf t fs1 1 ∧ okFs fs1 tysCreateACLsRequest ∧ fs1[0]? = some (.one (.int .i16 3)) := by
  obtain ⟨fs1, h1, _, h3, h4⟩ := rt_whole (p := 1) plainOk (by kernel_rfl : rtPlain 3 (pFlex 2 3) pf ss3s tdCreateACLsRequest (fsAt 3) 1 tgCreateACLsRequest = true) t hok
  refine ⟨fs1, fun e0 => readsTo_of (e := E) (g := 52) (S := 86) (fDef := 51) (ds := dsCreateACLsRequest) (ls := lsCreateACLsRequest) (ss := ss3s) (uns := false) (fs0 := fsAt 3) (fs1 := fsAt 3) (mid1 := .int .i16 3 :: mid) rdF rfA (fun _ => hOk) hComplete (by kernel_rfl) (by kernel_rfl) defCreateACLsRequest ok3s rfl rfl rfl rfl rfl (by kernel_rfl) (by kernel_rfl) rfl rfl hle h1 rfl, h3, ?_, ?_⟩
  · exact runSteps_ok ss3s tysCreateACLsRequest (fsAt 3) _ fs1 _ rfl (okImms_ok rfl) hle h1
  · rw [h4 0 (by decide)]; rfl

def ws3 : List WStep := [.listS .clen 42 1 84 1 94 8 tysCreateACLsRequestCreation [.call (.num 1 .i8) 53 0 89 0, .call .cstr 44 1 9 1, .call (.num 1 .i8) 53 2 90 2, .call .cstr 44 3 9 3, .call .cstr 44 4 9 4, .call (.num 1 .i8) 53 5 91 5, .call (.num 1 .i8) 53 6 92 6, .tags 48 49 50 7 7], .tags 48 49 50 2 2]
theorem wsok3 : SemW P tysCreateACLsRequest (fun s n d x k => gWSteps N ws3 s 86 n d x k) (encSteps ws3) := (semW_cons (semW_listS spF ⟨by kernel_rfl, rfl, rfl⟩ (by kernel_rfl) (by kernel_rfl) (by kernel_rfl) rfl wCLen rfl (semW_cons (semW_call xAppendInt8 ⟨by kernel_rfl, rfl, rfl⟩ (show oneTy P 89 = true by kernel_rfl)) (semW_cons (semW_call xAppendCompactString ⟨by kernel_rfl, rfl, rfl⟩ (show oneTy P 9 = true by kernel_rfl)) (semW_cons (semW_call xAppendInt8 ⟨by kernel_rfl, rfl, rfl⟩ (show oneTy P 90 = true by kernel_rfl)) (semW_cons (semW_call xAppendCompactString ⟨by kernel_rfl, rfl, rfl⟩ (show oneTy P 9 = true by kernel_rfl)) (semW_cons (semW_call xAppendCompactString ⟨by kernel_rfl, rfl, rfl⟩ (show oneTy P 9 = true by kernel_rfl)) (semW_cons (semW_call xAppendInt8 ⟨by kernel_rfl, rfl, rfl⟩ (show oneTy P 91 = true by kernel_rfl)) (semW_cons (semW_call xAppendInt8 ⟨by kernel_rfl, rfl, rfl⟩ (show oneTy P 92 = true by kernel_rfl)) (semW_cons (semW_tags spF wUv hTagsLen wEach ⟨by kernel_rfl, rfl, rfl⟩) semW_nil))))))))) (semW_cons (semW_tags spF wUv hTagsLen wEach ⟨by kernel_rfl, rfl, rfl⟩) semW_nil))
theorem app3 : AppTo P 28 tysCreateACLsRequest 3 ws3 := appTo_gives (S := 86) rdF (by kernel_rfl) (by kernel_rfl) (by kernel_rfl) wsok3

theorem bhd3 (w : World) (t : PT) (hok : t.ok) (hle : (pWrite pf 2 3 t).length ≤ 1073741824) (d : List UInt8) (dst data e0 : Value) (hd : d.length ≤ 1000) (hr : DataIn w data (pWrite pf 2 3 t)) (hrd : DataIn w dst d) (he : ErrAt w N.gErr e0) : Gives P 14 [.int .i64 3, dst, data] w fun u w' => BhdPost w w' u (d ++ pWrite pf 2 3 t) := by
  obtain ⟨fs1, h1, h2, h3, h4⟩ := rd3 t hok hle
  exact bhdDoor_gives (S := 86) (fSet := 26) rdF octF (by kernel_rfl) errI (by decide) newOk (by kernel_rfl) (by kernel_rfl) (by kernel_rfl) (h1 e0) app3 h3 h4 hle hd (wr_message (p := 1) plainOk (by kernel_rfl : wrPlain 3 (pFlex 2 3) pf ws3 tysCreateACLsRequest 1 = true) t h2 h3) hr hrd he

theorem bhdAll (v : Nat) (hv : v ≤ 3) (w : World) (t : PT) (hok : t.ok) (hle : (pWrite pf 2 v t).length ≤ 1073741824) (d : List UInt8) (dst data e0 : Value) (hd : d.length ≤ 1000) (hr : DataIn w data (pWrite pf 2 v t)) (hrd : DataIn w dst d) (he : ErrAt w N.gErr e0) : Gives P 14 [.int .i64 v, dst, data] w fun u w' => BhdPost w w' u (d ++ pWrite pf 2 v t) := by
  have h : v = 0 ∨ v = 1 ∨ v = 2 ∨ v = 3 := by omega
  rcases h with rfl | rfl | rfl | rfl
  · exact bhd0 w t hok hle d dst data e0 hd hr hrd he
  · exact bhd1 w t hok hle d dst data e0 hd hr hrd he
  · exact bhd2 w t hok hle d dst data e0 hd hr hrd he
  · exact bhd3 w t hok hle d dst data e0 hd hr hrd he
theorem maxOk (w : World) : Gives P 12 [] w fun v w' => v = .int .i64 (3 : Nat) ∧ Keeps [] w w' := max_gives (fNew := 23) (fMax := 24) (m := 3) rdF newOk (by kernel_rfl) (by kernel_rfl) rfl
theorem verOk (n : Nat) (hn : n < 256) (w : World) : Gives P 8 [.int .u8 n, .int .i64 (3 : Nat)] w fun v w' => v = .int .i64 (n % (3 + 1) : Nat) ∧ w' = w := version_gives rdF (by kernel_rfl) hn (by decide)

/-- The law: whatever the octets ahead and the tree. -/
theorem lawOk (w : World) (n : Nat) (hn : n < 256) (dst : Value) (d : List UInt8) (t : PT) (ts : List Value) (e0 : Value) (hrd : DataIn w dst d) (ht : TreeC w t ts) (hok : t.ok) (hwt : t.wt ≤ 1048576) (he : ErrAt w N.gErr e0) : Gives P 4 [.int .u8 n, dst, .agg ⟨ts⟩] w fun v w' => v = .bool true ∧ Keeps [] w w' :=
  have hv : n % (3 + 1) ≤ 3 := Nat.le_of_lt_succ (Nat.mod_lt _ (by decide))
  have hle : (pWrite pf 2 (n % (3 + 1) : Nat) t).length ≤ 1073741824 := Nat.le_trans (pWrite_len plainOk _ _ t) (Nat.mul_le_mul kOk hwt)
  bhdLaw_gives (m := 3) (fs := pf) (x := 2) (e0 := e0) spF spT fitT sameT (by kernel_rfl) plainOk (by decide) ⟨_, fbF.zero, rfl⟩ maxOk (verOk n hn) msgOk (fun w data hd hr hrd he => bhdAll _ hv w t hok hle d dst data e0 hd hr hrd he) hle hrd ht hok he
end Go.Proofs.YtbgdfbfecdanbaaGreatDoor
