/- ListGroupsRequest: read, and framed. -/
import Derived.Test.YteeamkddgccpeaaGreatDoorMsgListGroupsRequest
import Derived.Test.YteeamkddgccpeaaGreatDoorFieldsListGroupsRequest
import Derived.Test.YteeamkddgccpeaaGreatDoorWr
namespace Go.Proofs.YteeamkddgccpeaaGreatDoor
open Go Go.Kf

def tdListGroupsRequest : List TD := [.lprim 1, .lprim 2]
def tgListGroupsRequest : Option Nat := some 3
theorem rfA : RfFacts P N 67 := .of (by kernel_rfl) (by kernel_rfl) (by kernel_rfl) (by kernel_rfl) (by kernel_rfl)
theorem errI : ∃ ms, P.underlying N.tErr = some (.interface ms) := iface_of (by kernel_rfl)
def mid : List Value := [.slice none 0 0, .slice none 0 0, .map none]
def fsAt (v : Int) : List FV := .one (.int .i16 v) :: [.list true [], .list true [], .tags []]
theorem newOk : NewOk P 15 (.int .i16 0 :: mid) := new_gives rdF.mix (by kernel_rfl : zeroTy P 67 = some (.agg ⟨.int .i16 0 :: [.slice none 0 0, .slice none 0 0, .map none]⟩, 4)) dokListGroupsRequest (by kernel_rfl) (by kernel_rfl)

def fx : FrN := { tFm := 102, tOpts := 99, tOpt := 82, tFO := 105, tFn := 103, tId := 23, tReq := 0, apply := "pub-mailsack/pub/kmsg.apply" }
theorem frF : FrFacts P N fx := { fm := by kernel_rfl, fm0 := by kernel_rfl, onePS := by kernel_rfl, oneStr := oneStr, oneOpt := by kernel_rfl, opts := by kernel_rfl, szOpt := by kernel_rfl, zOpt := by kernel_rfl, fo0 := by kernel_rfl, oneFn := by kernel_rfl, foPlan := by kernel_rfl, foU := (struct_of (l := [(103, 0)]) (by kernel_rfl)).imp fun _ h => h.1, id0 := by kernel_rfl, id1 := by kernel_rfl }
theorem hStr : P.underlying N.tStr = some .string := by kernel_rfl
theorem hId : aggTy P fx.tId = some 2 := by kernel_rfl
theorem rI32 : ∀ y : Int, InRoom P 52 (.int .i32 y) (pFixed y 4) := fun y => roomInt_gives (g := 61) spF rdF.i32 rdF.u32 (by kernel_rfl) y (pFixed_wrapu32 y) rfl (fun z => roomU32_gives spF (by kernel_rfl) z)
theorem wNS : WrNStr P 53 fun o => encPK .nstr (.ntext o) := nstr_of (appNStr_gives spF oneStr (by kernel_rfl : P.underlying N.tPStr = some (.pointer 9)) (wI16 (-1)) (fun y _ => wStr y) (by kernel_rfl))
theorem mAp : ∀ b, Meth P fx.tFO fx.apply (.agg ⟨[.func (.func 50) #[] ⟨[ptr b]⟩]⟩) 128 := fun b w => by kernel_rfl
theorem mKey : ∀ V, Meth P 46 "Key" (ptr V) 85 := fun V w => by kernel_rfl
theorem mGetVersion : ∀ V, Meth P 46 "GetVersion" (ptr V) 83 := fun V w => by kernel_rfl
theorem mIsFlexible : ∀ V, Meth P 46 "IsFlexible" (ptr V) 84 := fun V w => by kernel_rfl
theorem mAppendTo : ∀ V, Meth P 46 "AppendTo" (ptr V) 82 := fun V w => by kernel_rfl
def ss0s : List Step := []
theorem ok0s : StepsOk P N 67 lsListGroupsRequest ss0s := trivial
theorem rd0 (t : PT) (hok : t.ok) (hle : (pWrite pf 3 0 t).length ≤ 1073741824) : ∃ fs1, (∀ e0, ReadsTo P N 19 0 mid e0 (pWrite pf 3 0 t) fs1) ∧ RepPart 0 (pFlex 3 0) pf t fs1 1 ∧ okFs fs1 tysListGroupsRequest ∧ fs1[0]? = some (.one (.int .i16 0)) := by
  obtain ⟨fs1, h1, _, h3, h4⟩ := rt_whole (p := 1) plainOk (by kernel_rfl : rtPlain 0 (pFlex 3 0) pf ss0s tdListGroupsRequest (fsAt 0) 1 tgListGroupsRequest = true) t hok
  refine ⟨fs1, fun e0 => readsTo_of (e := E) (g := 32) (S := 67) (fDef := 23) (ds := dsListGroupsRequest) (ls := lsListGroupsRequest) (ss := ss0s) (uns := false) (fs0 := fsAt 0) (fs1 := fsAt 0) (mid1 := .int .i16 0 :: mid) rdF rfA (fun _ => hOk) hComplete (by kernel_rfl) (by kernel_rfl) defListGroupsRequest ok0s rfl rfl rfl rfl rfl (by kernel_rfl) (by kernel_rfl) rfl rfl hle h1 rfl, h3, ?_, ?_⟩
  · exact runSteps_ok ss0s tysListGroupsRequest (fsAt 0) _ fs1 _ rfl (okImms_ok rfl) hle h1
  · rw [h4 0 (by decide)]; rfl

def ws0 : List WStep := []
theorem wsok0 : SemW P tysListGroupsRequest (fun s n d x k => gWSteps N ws0 s 67 n d x k) (encSteps ws0) := semW_nil
theorem app0 : AppTo P 82 tysListGroupsRequest 0 ws0 := appTo_gives (S := 67) rdF (by kernel_rfl) (by kernel_rfl) (by kernel_rfl) wsok0

theorem frd0 (t : PT) (fs1 : List FV) (hok : okFs fs1 tysListGroupsRequest) (hle : (pWrite pf 3 0 t).length ≤ 1073741824) (henc : encSteps ws0 fs1 = pWrite pf 3 0 t) : FramedOf P 20 46 0 fs1 (fun has tx num => pFrame 16 0 num has tx (pFlex 3 0) (pWrite pf 3 0 t)) := by
  rw [← henc] at hle ⊢
  exact framed_gives (x := fx) (fNew := 33) (fOpt := 34) (fApp := 35) (fAp := 128) (g := 50) rdF frF (by kernel_rfl) (by kernel_rfl) (by kernel_rfl) (by kernel_rfl) (by kernel_rfl) mAp
    (appReq_gives (fI16 := 51) (fI32 := 52) (fNS := 53) (key := 16) spF frF (by kernel_rfl) wI16 wI32 rI32 wNS mKey mGetVersion mIsFlexible mAppendTo (key_gives rdF (by kernel_rfl)) (getVer_gives (S := 67) rdF (by kernel_rfl) (by kernel_rfl) (by kernel_rfl)) (isFlex_gives (S := 67) (k := 3) rdF (by kernel_rfl) (by kernel_rfl) (by kernel_rfl) rfl) app0 hok (by decide) hle)
theorem frm0 (w : World) (t : PT) (hok : t.ok) (hle : (pWrite pf 3 0 t).length ≤ 1073741824) (has : Bool) (tx : List UInt8) (num : Int) (data e0 : Value) (htx : tx.length ≤ 32767) (hnum : IntKind.i32.wrap num = num) (hr : DataIn w data (pWrite pf 3 0 t)) (he : ErrAt w N.gErr e0) : Gives P 10 [.agg ⟨[.bool has, .string (strOf tx)]⟩, .int .i32 num, .int .i64 0, data] w fun u w' => BhdPost w w' u (pFrame 16 0 num has tx (pFlex 3 0) (pWrite pf 3 0 t)) := by
  obtain ⟨fs1, h1, h2, h3, h4⟩ := rd0 t hok hle
  exact frmDoor2_gives (x := fx) (S := 67) (fSet := 18) (fFramed := 20) (tPX := 46) (out := fun has tx num => pFrame 16 0 num has tx (pFlex 3 0) (pWrite pf 3 0 t)) rdF octF hId (by kernel_rfl) errI (by kernel_rfl : P.underlying 46 = some (.pointer 67)) rfl (by decide) newOk (by kernel_rfl) (by kernel_rfl) (by kernel_rfl) (h1 e0) (frd0 t fs1 h3 hle (wr_message (p := 1) plainOk (by kernel_rfl : wrPlain 0 (pFlex 3 0) pf ws0 tysListGroupsRequest 1 = true) t h2 h3)) h4 hle htx hnum hr he

def ss1s : List Step := []
theorem ok1s : StepsOk P N 67 lsListGroupsRequest ss1s := trivial
theorem rd1 (t : PT) (hok : t.ok) (hle : (pWrite pf 3 1 t).length ≤ 1073741824) : ∃ fs1, (∀ e0, ReadsTo P N 19 1 mid e0 (pWrite pf 3 1 t) fs1) ∧ RepPart 1 (pFlex 3 1) pf t fs1 1 ∧ okFs fs1 tysListGroupsRequest ∧ fs1[0]? = some (.one (.int .i16 1)) := by
  obtain ⟨fs1, h1, _, h3, h4⟩ := rt_whole (p := 1) plainOk (by kernel_rfl : rtPlain 1 (pFlex 3 1) pf ss1s tdListGroupsRequest (fsAt 1) 1 tgListGroupsRequest = true) t hok
  refine ⟨fs1, fun e0 => readsTo_of (e := E) (g := 32) (S := 67) (fDef := 23) (ds := dsListGroupsRequest) (ls := lsListGroupsRequest) (ss := ss1s) (uns := false) (fs0 := fsAt 1) (fs1 := fsAt 1) (mid1 := .int .i16 1 :: mid) rdF rfA (fun _ => hOk) hComplete (by kernel_rfl) (by kernel_rfl) defListGroupsRequest ok1s rfl rfl rfl rfl rfl (by kernel_rfl) (by kernel_rfl) rfl rfl hle h1 rfl, h3, ?_, ?_⟩
  · exact runSteps_ok ss1s tysListGroupsRequest (fsAt 1) _ fs1 _ rfl (okImms_ok rfl) hle h1
  · rw [h4 0 (by decide)]; rfl

def ws1 : List WStep := []
theorem wsok1 : SemW P tysListGroupsRequest (fun s n d x k => gWSteps N ws1 s 67 n d x k) (encSteps ws1) := semW_nil
theorem app1 : AppTo P 82 tysListGroupsRequest 1 ws1 := appTo_gives (S := 67) rdF (by kernel_rfl) (by kernel_rfl) (by kernel_rfl) wsok1

theorem frd1 (t : PT) (fs1 : List FV) (hok : okFs fs1 tysListGroupsRequest) (hle : (pWrite pf 3 1 t).length ≤ 1073741824) (henc : encSteps ws1 fs1 = pWrite pf 3 1 t) : FramedOf P 20 46 1 fs1 (fun has tx num => pFrame 16 1 num has tx (pFlex 3 1) (pWrite pf 3 1 t)) := by
  rw [← henc] at hle ⊢
  exact framed_gives (x := fx) (fNew := 33) (fOpt := 34) (fApp := 35) (fAp := 128) (g := 50) rdF frF (by kernel_rfl) (by kernel_rfl) (by kernel_rfl) (by kernel_rfl) (by kernel_rfl) mAp
    (appReq_gives (fI16 := 51) (fI32 := 52) (fNS := 53) (key := 16) spF frF (by kernel_rfl) wI16 wI32 rI32 wNS mKey mGetVersion mIsFlexible mAppendTo (key_gives rdF (by kernel_rfl)) (getVer_gives (S := 67) rdF (by kernel_rfl) (by kernel_rfl) (by kernel_rfl)) (isFlex_gives (S := 67) (k := 3) rdF (by kernel_rfl) (by kernel_rfl) (by kernel_rfl) rfl) app1 hok (by decide) hle)
theorem frm1 (w : World) (t : PT) (hok : t.ok) (hle : (pWrite pf 3 1 t).length ≤ 1073741824) (has : Bool) (tx : List UInt8) (num : Int) (data e0 : Value) (htx : tx.length ≤ 32767) (hnum : IntKind.i32.wrap num = num) (hr : DataIn w data (pWrite pf 3 1 t)) (he : ErrAt w N.gErr e0) : Gives P 10 [.agg ⟨[.bool has, .string (strOf tx)]⟩, .int .i32 num, .int .i64 1, data] w fun u w' => BhdPost w w' u (pFrame 16 1 num has tx (pFlex 3 1) (pWrite pf 3 1 t)) := by
  obtain ⟨fs1, h1, h2, h3, h4⟩ := rd1 t hok hle
  exact frmDoor2_gives (x := fx) (S := 67) (fSet := 18) (fFramed := 20) (tPX := 46) (out := fun has tx num => pFrame 16 1 num has tx (pFlex 3 1) (pWrite pf 3 1 t)) rdF octF hId (by kernel_rfl) errI (by kernel_rfl : P.underlying 46 = some (.pointer 67)) rfl (by decide) newOk (by kernel_rfl) (by kernel_rfl) (by kernel_rfl) (h1 e0) (frd1 t fs1 h3 hle (wr_message (p := 1) plainOk (by kernel_rfl : wrPlain 1 (pFlex 3 1) pf ws1 tysListGroupsRequest 1 = true) t h2 h3)) h4 hle htx hnum hr he

def ss2s : List Step := []
theorem ok2s : StepsOk P N 67 lsListGroupsRequest ss2s := trivial
theorem rd2 (t : PT) (hok : t.ok) (hle : (pWrite pf 3 2 t).length ≤ 1073741824) : ∃ fs1, (∀ e0, ReadsTo P N 19 2 mid e0 (pWrite pf 3 2 t) fs1) ∧ RepPart 2 (pFlex 3 2) pf t fs1 1 ∧ okFs fs1 tysListGroupsRequest ∧ fs1[0]? = some (.one (.int .i16 2)) := by
  obtain ⟨fs1, h1, _, h3, h4⟩ := rt_whole (p := 1) plainOk (by kernel_rfl : rtPlain 2 (pFlex 3 2) pf ss2s tdListGroupsRequest (fsAt 2) 1 tgListGroupsRequest = true) t hok
  refine ⟨fs1, fun e0 => readsTo_of (e := E) (g := 32) (S := 67) (fDef := 23) (ds := dsListGroupsRequest) (ls := lsListGroupsRequest) (ss := ss2s) (uns := false) (fs0 := fsAt 2) (fs1 := fsAt 2) (mid1 := .int .i16 2 :: mid) rdF rfA (fun _ => hOk) hComplete (by kernel_rfl) (by kernel_rfl) defListGroupsRequest ok2s rfl rfl rfl rfl rfl (by kernel_rfl) (by kernel_rfl) rfl rfl hle h1 rfl, h3, ?_, ?_⟩
  · exact runSteps_ok ss2s tysListGroupsRequest (fsAt 2) _ fs1 _ rfl (okImms_ok rfl) hle h1
  · rw [h4 0 (by decide)]; rfl

def ws2 : List WStep := []
theorem wsok2 : SemW P tysListGroupsRequest (fun s n d x k => gWSteps N ws2 s 67 n d x k) (encSteps ws2) := semW_nil
theorem app2 : AppTo P 82 tysListGroupsRequest 2 ws2 := appTo_gives (S := 67) rdF (by kernel_rfl) (by kernel_rfl) (by kernel_rfl) wsok2

theorem frd2 (t : PT) (fs1 : List FV) (hok : okFs fs1 tysListGroupsRequest) (hle : (pWrite pf 3 2 t).length ≤ 1073741824) (henc : encSteps ws2 fs1 = pWrite pf 3 2 t) : FramedOf P 20 46 2 fs1 (fun has tx num => pFrame 16 2 num has tx (pFlex 3 2) (pWrite pf 3 2 t)) := by
  rw [← henc] at hle ⊢
  exact framed_gives (x := fx) (fNew := 33) (fOpt := 34) (fApp := 35) (fAp := 128) (g := 50) rdF frF (by kernel_rfl) (by kernel_rfl) (by kernel_rfl) (by kernel_rfl) (by kernel_rfl) mAp
    (appReq_gives (fI16 := 51) (fI32 := 52) (fNS := 53) (key := 16) spF frF (by kernel_rfl) wI16 wI32 rI32 wNS mKey mGetVersion mIsFlexible mAppendTo (key_gives rdF (by kernel_rfl)) (getVer_gives (S := 67) rdF (by kernel_rfl) (by kernel_rfl) (by kernel_rfl)) (isFlex_gives (S := 67) (k := 3) rdF (by kernel_rfl) (by kernel_rfl) (by kernel_rfl) rfl) app2 hok (by decide) hle)
theorem frm2 (w : World) (t : PT) (hok : t.ok) (hle : (pWrite pf 3 2 t).length ≤ 1073741824) (has : Bool) (tx : List UInt8) (num : Int) (data e0 : Value) (htx : tx.length ≤ 32767) (hnum : IntKind.i32.wrap num = num) (hr : DataIn w data (pWrite pf 3 2 t)) (he : ErrAt w N.gErr e0) : Gives P 10 [.agg ⟨[.bool has, .string (strOf tx)]⟩, .int .i32 num, .int .i64 2, data] w fun u w' => BhdPost w w' u (pFrame 16 2 num has tx (pFlex 3 2) (pWrite pf 3 2 t)) := by
  obtain ⟨fs1, h1, h2, h3, h4⟩ := rd2 t hok hle
  exact frmDoor2_gives (x := fx) (S := 67) (fSet := 18) (fFramed := 20) (tPX := 46) (out := fun has tx num => pFrame 16 2 num has tx (pFlex 3 2) (pWrite pf 3 2 t)) rdF octF hId (by kernel_rfl) errI (by kernel_rfl : P.underlying 46 = some (.pointer 67)) rfl (by decide) newOk (by kernel_rfl) (by kernel_rfl) (by kernel_rfl) (h1 e0) (frd2 t fs1 h3 hle (wr_message (p := 1) plainOk (by kernel_rfl : wrPlain 2 (pFlex 3 2) pf ws2 tysListGroupsRequest 1 = true) t h2 h3)) h4 hle htx hnum hr he

def ss3s : List Step := [.call .tags 49 3 65 3]
theorem ok3s : StepsOk P N 67 lsListGroupsRequest ss3s := ⟨⟨aTags, ⟨by kernel_rfl, rfl, rfl⟩, by kernel_rfl⟩, trivial⟩
theorem rd3 (t : PT) (hok : t.ok) (hle : (pWrite pf 3 3 t).length ≤ 1073741824) : ∃ fs1, (∀ e0, ReadsTo P N 19 3 mid e0 (pWrite pf 3 3 t) fs1) ∧ RepPart 3 (pFlex 3 3) pf t fs1 1 ∧ okFs fs1 tysListGroupsRequest ∧ fs1[0]? = some (.one (.int .i16 3)) := by
  obtain ⟨fs1, h1, _, h3, h4⟩ := rt_whole (p := 1) plainOk (by kernel_rfl : rtPlain 3 (pFlex 3 3) pf ss3s tdListGroupsRequest (fsAt 3) 1 tgListGroupsRequest = true) t hok
  refine ⟨fs1, fun e0 => readsTo_of (e := E) (g := 32) (S := 67) (fDef := 23) (ds := dsListGroupsRequest) (ls := lsListGroupsRequest) (ss := ss3s) (uns := false) (fs0 := fsAt 3) (fs1 := fsAt 3) (mid1 := .int .i16 3 :: mid) rdF rfA (fun _ => hOk) hComplete (by kernel_rfl) (by kernel_rfl) defListGroupsRequest ok3s rfl rfl rfl rfl rfl (by kernel_rfl) (by kernel_rfl) rfl rfl hle h1 rfl, h3, ?_, ?_⟩
  · exact runSteps_ok ss3s tysListGroupsRequest (fsAt 3) _ fs1 _ rfl (okImms_ok rfl) hle h1
  · rw [h4 0 (by decide)]; rfl

def ws3 : List WStep := [.tags 89 90 91 3 3]
theorem wsok3 : SemW P tysListGroupsRequest (fun s n d x k => gWSteps N ws3 s 67 n d x k) (encSteps ws3) := (semW_cons (semW_tags spF wUv hTagsLen wEach ⟨by kernel_rfl, rfl, rfl⟩) semW_nil)
theorem app3 : AppTo P 82 tysListGroupsRequest 3 ws3 := appTo_gives (S := 67) rdF (by kernel_rfl) (by kernel_rfl) (by kernel_rfl) wsok3

theorem frd3 (t : PT) (fs1 : List FV) (hok : okFs fs1 tysListGroupsRequest) (hle : (pWrite pf 3 3 t).length ≤ 1073741824) (henc : encSteps ws3 fs1 = pWrite pf 3 3 t) : FramedOf P 20 46 3 fs1 (fun has tx num => pFrame 16 3 num has tx (pFlex 3 3) (pWrite pf 3 3 t)) := by
  rw [← henc] at hle ⊢
  exact framed_gives (x := fx) (fNew := 33) (fOpt := 34) (fApp := 35) (fAp := 128) (g := 50) rdF frF (by kernel_rfl) (by kernel_rfl) (by kernel_rfl) (by kernel_rfl) (by kernel_rfl) mAp
    (appReq_gives (fI16 := 51) (fI32 := 52) (fNS := 53) (key := 16) spF frF (by kernel_rfl) wI16 wI32 rI32 wNS mKey mGetVersion mIsFlexible mAppendTo (key_gives rdF (by kernel_rfl)) (getVer_gives (S := 67) rdF (by kernel_rfl) (by kernel_rfl) (by kernel_rfl)) (isFlex_gives (S := 67) (k := 3) rdF (by kernel_rfl) (by kernel_rfl) (by kernel_rfl) rfl) app3 hok (by decide) hle)
theorem frm3 (w : World) (t : PT) (hok : t.ok) (hle : (pWrite pf 3 3 t).length ≤ 1073741824) (has : Bool) (tx : List UInt8) (num : Int) (data e0 : Value) (htx : tx.length ≤ 32767) (hnum : IntKind.i32.wrap num = num) (hr : DataIn w data (pWrite pf 3 3 t)) (he : ErrAt w N.gErr e0) : Gives P 10 [.agg ⟨[.bool has, .string (strOf tx)]⟩, .int .i32 num, .int .i64 3, data] w fun u w' => BhdPost w w' u (pFrame 16 3 num has tx (pFlex 3 3) (pWrite pf 3 3 t)) := by
  obtain ⟨fs1, h1, h2, h3, h4⟩ := rd3 t hok hle
  exact frmDoor2_gives (x := fx) (S := 67) (fSet := 18) (fFramed := 20) (tPX := 46) (out := fun has tx num => pFrame 16 3 num has tx (pFlex 3 3) (pWrite pf 3 3 t)) rdF octF hId (by kernel_rfl) errI (by kernel_rfl : P.underlying 46 = some (.pointer 67)) rfl (by decide) newOk (by kernel_rfl) (by kernel_rfl) (by kernel_rfl) (h1 e0) (frd3 t fs1 h3 hle (wr_message (p := 1) plainOk (by kernel_rfl : wrPlain 3 (pFlex 3 3) pf ws3 tysListGroupsRequest 1 = true) t h2 h3)) h4 hle htx hnum hr he

def ss4s : List Step := [.listP .clen 41 1 62 1 .cstr 47 9, .call .tags 49 3 65 3]
theorem ok4s : StepsOk P N 67 lsListGroupsRequest ss4s := ⟨⟨hCompactArrayLen, ⟨by kernel_rfl, rfl, rfl⟩, .of (by kernel_rfl) (by kernel_rfl) (by kernel_rfl) (by decide), aCompactString⟩, ⟨aTags, ⟨by kernel_rfl, rfl, rfl⟩, by kernel_rfl⟩, trivial⟩
theorem rd4 (t : PT) (hok : t.ok) (hle : (pWrite pf 3 4 t).length ≤ 1073741824) : ∃ fs1, (∀ e0, ReadsTo P N 19 4 mid e0 (pWrite pf 3 4 t) fs1) ∧ RepPart 4 (pFlex 3 4) pf t fs1 1 ∧ okFs fs1 tysListGroupsRequest ∧ fs1[0]? = some (.one (.int .i16 4)) := by
  obtain ⟨fs1, h1, _, h3, h4⟩ := rt_whole (p := 1) plainOk (by kernel_rfl : rtPlain 4 (pFlex 3 4) pf ss4s tdListGroupsRequest (fsAt 4) 1 tgListGroupsRequest = true) t hok
  refine ⟨fs1, fun e0 => readsTo_of (e := E) (g := 32) (S := 67) (fDef := 23) (ds := dsListGroupsRequest) (ls := lsListGroupsRequest) (ss := ss4s) (uns := false) (fs0 := fsAt 4) (fs1 := fsAt 4) (mid1 := .int .i16 4 :: mid) rdF rfA (fun _ => hOk) hComplete (by kernel_rfl) (by kernel_rfl) defListGroupsRequest ok4s rfl rfl rfl rfl rfl (by kernel_rfl) (by kernel_rfl) rfl rfl hle h1 rfl, h3, ?_, ?_⟩
  · exact runSteps_ok ss4s tysListGroupsRequest (fsAt 4) _ fs1 _ rfl (okImms_ok rfl) hle h1
  · rw [h4 0 (by decide)]; rfl

def ws4 : List WStep := [.listP .clen 86 1 62 1 .cstr 88 9, .tags 89 90 91 3 3]
theorem wsok4 : SemW P tysListGroupsRequest (fun s n d x k => gWSteps N ws4 s 67 n d x k) (encSteps ws4) := (semW_cons (semW_listP ⟨by kernel_rfl, rfl, rfl⟩ (by kernel_rfl) (by kernel_rfl) (by kernel_rfl) wCLen rfl xAppendCompactString (show oneTy P 9 = true by kernel_rfl)) (semW_cons (semW_tags spF wUv hTagsLen wEach ⟨by kernel_rfl, rfl, rfl⟩) semW_nil))
theorem app4 : AppTo P 82 tysListGroupsRequest 4 ws4 := appTo_gives (S := 67) rdF (by kernel_rfl) (by kernel_rfl) (by kernel_rfl) wsok4

theorem frd4 (t : PT) (fs1 : List FV) (hok : okFs fs1 tysListGroupsRequest) (hle : (pWrite pf 3 4 t).length ≤ 1073741824) (henc : encSteps ws4 fs1 = pWrite pf 3 4 t) : FramedOf P 20 46 4 fs1 (fun has tx num => pFrame 16 4 num has tx (pFlex 3 4) (pWrite pf 3 4 t)) := by
  rw [← henc] at hle ⊢
  exact framed_gives (x := fx) (fNew := 33) (fOpt := 34) (fApp := 35) (fAp := 128) (g := 50) rdF frF (by kernel_rfl) (by kernel_rfl) (by kernel_rfl) (by kernel_rfl) (by kernel_rfl) mAp
    (appReq_gives (fI16 := 51) (fI32 := 52) (fNS := 53) (key := 16) spF frF (by kernel_rfl) wI16 wI32 rI32 wNS mKey mGetVersion mIsFlexible mAppendTo (key_gives rdF (by kernel_rfl)) (getVer_gives (S := 67) rdF (by kernel_rfl) (by kernel_rfl) (by kernel_rfl)) (isFlex_gives (S := 67) (k := 3) rdF (by kernel_rfl) (by kernel_rfl) (by kernel_rfl) rfl) app4 hok (by decide) hle)
theorem frm4 (w : World) (t : PT) (hok : t.ok) (hle : (pWrite pf 3 4 t).length ≤ 1073741824) (has : Bool) (tx : List UInt8) (num : Int) (data e0 : Value) (htx : tx.length ≤ 32767) (hnum : IntKind.i32.wrap num = num) (hr : DataIn w data (pWrite pf 3 4 t)) (he : ErrAt w N.gErr e0) : Gives P 10 [.agg ⟨[.bool has, .string (strOf tx)]⟩, .int .i32 num, .int .i64 4, data] w fun u w' => BhdPost w w' u (pFrame 16 4 num has tx (pFlex 3 4) (pWrite pf 3 4 t)) := by
  obtain ⟨fs1, h1, h2, h3, h4⟩ := rd4 t hok hle
  exact frmDoor2_gives (x := fx) (S := 67) (fSet := 18) (fFramed := 20) (tPX := 46) (out := fun has tx num => pFrame 16 4 num has tx (pFlex 3 4) (pWrite pf 3 4 t)) rdF octF hId (by kernel_rfl) errI (by kernel_rfl : P.underlying 46 = some (.pointer 67)) rfl (by decide) newOk (by kernel_rfl) (by kernel_rfl) (by kernel_rfl) (h1 e0) (frd4 t fs1 h3 hle (wr_message (p := 1) plainOk (by kernel_rfl : wrPlain 4 (pFlex 3 4) pf ws4 tysListGroupsRequest 1 = true) t h2 h3)) h4 hle htx hnum hr he

def ss5s : List Step := [.listP .clen 41 1 62 1 .cstr 47 9, .listP .clen 41 2 62 2 .cstr 47 9, .call .tags 49 3 65 3]
theorem ok5s : StepsOk P N 67 lsListGroupsRequest ss5s := ⟨⟨hCompactArrayLen, ⟨by kernel_rfl, rfl, rfl⟩, .of (by kernel_rfl) (by kernel_rfl) (by kernel_rfl) (by decide), aCompactString⟩, ⟨hCompactArrayLen, ⟨by kernel_rfl, rfl, rfl⟩, .of (by kernel_rfl) (by kernel_rfl) (by kernel_rfl) (by decide), aCompactString⟩, ⟨aTags, ⟨by kernel_rfl, rfl, rfl⟩, by kernel_rfl⟩, trivial⟩
theorem rd5 (t : PT) (hok : t.ok) (hle : (pWrite pf 3 5 t).length ≤ 1073741824) : ∃ fs1, (∀ e0, ReadsTo P N 19 5 mid e0 (pWrite pf 3 5 t) fs1) ∧ RepPart 5 (pFlex 3 5) pf t fs1 1 ∧ okFs fs1 tysListGroupsRequest ∧ fs1[0]? = some (.one (.int .i16 5)) := by
  obtain ⟨fs1, h1, _, h3, h4⟩ := rt_whole (p := 1) plainOk (by kernel_rfl : rtPlain 5 (pFlex 3 5) pf ss5s tdListGroupsRequest (fsAt 5) 1 tgListGroupsRequest = true) t hok
  refine ⟨fs1, fun e0 => readsTo_of (e := E) (g := 32) (S := 67) (fDef := 23) (ds := dsListGroupsRequest) (ls := lsListGroupsRequest) (ss := ss5s) (uns := false) (fs0 := fsAt 5) (fs1 := fsAt 5) (mid1 := .int .i16 5 :: mid) rdF rfA (fun _ => hOk) hComplete (by kernel_rfl) (by kernel_rfl) defListGroupsRequest ok5s rfl rfl rfl rfl rfl (by kernel_rfl) (by kernel_rfl) rfl rfl hle h1 rfl, h3, ?_, ?_⟩
  · exact runSteps_ok ss5s tysListGroupsRequest (fsAt 5) _ fs1 _ rfl (okImms_ok rfl) hle h1
  · rw [h4 0 (by decide)]; rfl

def ws5 : List WStep := [.listP .clen 86 1 62 1 .cstr 88 9, .listP .clen 86 2 62 2 .cstr 88 9, .tags 89 90 91 3 3]
theorem wsok5 : SemW P tysListGroupsRequest (fun s n d x k => gWSteps N ws5 s 67 n d x k) (encSteps ws5) := (semW_cons (semW_listP ⟨by kernel_rfl, rfl, rfl⟩ (by kernel_rfl) (by kernel_rfl) (by kernel_rfl) wCLen rfl xAppendCompactString (show oneTy P 9 = true by kernel_rfl)) (semW_cons (semW_listP ⟨by kernel_rfl, rfl, rfl⟩ (by kernel_rfl) (by kernel_rfl) (by kernel_rfl) wCLen rfl xAppendCompactString (show oneTy P 9 = true by kernel_rfl)) (semW_cons (semW_tags spF wUv hTagsLen wEach ⟨by kernel_rfl, rfl, rfl⟩) semW_nil)))
theorem app5 : AppTo P 82 tysListGroupsRequest 5 ws5 := appTo_gives (S := 67) rdF (by kernel_rfl) (by kernel_rfl) (by kernel_rfl) wsok5

theorem frd5 (t : PT) (fs1 : List FV) (hok : okFs fs1 tysListGroupsRequest) (hle : (pWrite pf 3 5 t).length ≤ 1073741824) (henc : encSteps ws5 fs1 = pWrite pf 3 5 t) : FramedOf P 20 46 5 fs1 (fun has tx num => pFrame 16 5 num has tx (pFlex 3 5) (pWrite pf 3 5 t)) := by
  rw [← henc] at hle ⊢
  exact framed_gives (x := fx) (fNew := 33) (fOpt := 34) (fApp := 35) (fAp := 128) (g := 50) rdF frF (by kernel_rfl) (by kernel_rfl) (by kernel_rfl) (by kernel_rfl) (by kernel_rfl) mAp
    (appReq_gives (fI16 := 51) (fI32 := 52) (fNS := 53) (key := 16) spF frF (by kernel_rfl) wI16 wI32 rI32 wNS mKey mGetVersion mIsFlexible mAppendTo (key_gives rdF (by kernel_rfl)) (getVer_gives (S := 67) rdF (by kernel_rfl) (by kernel_rfl) (by kernel_rfl)) (isFlex_gives (S := 67) (k := 3) rdF (by kernel_rfl) (by kernel_rfl) (by kernel_rfl) rfl) app5 hok (by decide) hle)
theorem frm5 (w : World) (t : PT) (hok : t.ok) (hle : (pWrite pf 3 5 t).length ≤ 1073741824) (has : Bool) (tx : List UInt8) (num : Int) (data e0 : Value) (htx : tx.length ≤ 32767) (hnum : IntKind.i32.wrap num = num) (hr : DataIn w data (pWrite pf 3 5 t)) (he : ErrAt w N.gErr e0) : Gives P 10 [.agg ⟨[.bool has, .string (strOf tx)]⟩, .int .i32 num, .int .i64 5, data] w fun u w' => BhdPost w w' u (pFrame 16 5 num has tx (pFlex 3 5) (pWrite pf 3 5 t)) := by
  obtain ⟨fs1, h1, h2, h3, h4⟩ := rd5 t hok hle
  exact frmDoor2_gives (x := fx) (S := 67) (fSet := 18) (fFramed := 20) (tPX := 46) (out := fun has tx num => pFrame 16 5 num has tx (pFlex 3 5) (pWrite pf 3 5 t)) rdF octF hId (by kernel_rfl) errI (by kernel_rfl : P.underlying 46 = some (.pointer 67)) rfl (by decide) newOk (by kernel_rfl) (by kernel_rfl) (by kernel_rfl) (h1 e0) (frd5 t fs1 h3 hle (wr_message (p := 1) plainOk (by kernel_rfl : wrPlain 5 (pFlex 3 5) pf ws5 tysListGroupsRequest 1 = true) t h2 h3)) h4 hle htx hnum hr he

theorem frmAll (v : Nat) (hv : v ≤ 5) (w : World) (t : PT) (hok : t.ok) (hle : (pWrite pf 3 v t).length ≤ 1073741824) (has : Bool) (tx : List UInt8) (num : Int) (data e0 : Value) (htx : tx.length ≤ 32767) (hnum : IntKind.i32.wrap num = num) (hr : DataIn w data (pWrite pf 3 v t)) (he : ErrAt w N.gErr e0) : Gives P 10 [.agg ⟨[.bool has, .string (strOf tx)]⟩, .int .i32 num, .int .i64 v, data] w fun u w' => BhdPost w w' u (pFrame 16 v num has tx (pFlex 3 v) (pWrite pf 3 v t)) := by
  have h : v = 0 ∨ v = 1 ∨ v = 2 ∨ v = 3 ∨ v = 4 ∨ v = 5 := by omega
  rcases h with rfl | rfl | rfl | rfl | rfl | rfl
  · exact frm0 w t hok hle has tx num data e0 htx hnum hr he
  · exact frm1 w t hok hle has tx num data e0 htx hnum hr he
  · exact frm2 w t hok hle has tx num data e0 htx hnum hr he
  · exact frm3 w t hok hle has tx num data e0 htx hnum hr he
  · exact frm4 w t hok hle has tx num data e0 htx hnum hr he
  · exact frm5 w t hok hle has tx num data e0 htx hnum hr he
theorem maxOk (w : World) : Gives P 6 [] w fun v w' => v = .int .i64 (5 : Nat) ∧ Keeps [] w w' := max_gives (fNew := 15) (fMax := 16) (m := 5) rdF newOk (by kernel_rfl) (by kernel_rfl) rfl
theorem verOk (n : Nat) (hn : n < 256) (w : World) : Gives P 8 [.int .u8 n, .int .i64 (5 : Nat)] w fun v w' => v = .int .i64 (n % (5 + 1) : Nat) ∧ w' = w := version_gives rdF (by kernel_rfl) hn (by decide)

/-- The law: whatever the id, the number and the tree. -/
theorem lawOk (w : World) (n : Nat) (hn : n < 256) (has : Bool) (tx : List UInt8) (num : Int) (t : PT) (ts : List Value) (e0 : Value) (hnum : IntKind.i32.wrap num = num) (ht : TreeC w t ts) (hok : t.ok) (hwt : t.wt ≤ 1048576) (he : ErrAt w N.gErr e0) : Gives P 3 [.int .u8 n, .agg ⟨[.bool has, .string (strOf tx)]⟩, .int .i32 num, .agg ⟨ts⟩] w fun v w' => v = .bool true ∧ Keeps [] w w' :=
  have hv : n % (5 + 1) ≤ 5 := Nat.le_of_lt_succ (Nat.mod_lt _ (by decide))
  have hle : (pWrite pf 3 (n % (5 + 1) : Nat) t).length ≤ 1073741824 := Nat.le_trans (pWrite_len plainOk _ _ t) (Nat.mul_le_mul kOk hwt)
  frmLaw_gives (x := fx) (m := 5) (fs := pf) (y := 3) (e0 := e0) (key := 16) (fFits := 4) (fFrame := 12) spF spT (by kernel_rfl) fitT frF hStr hId sameT (by kernel_rfl) (by kernel_rfl) (by kernel_rfl) plainOk (by decide) ⟨_, fbF.zero, rfl⟩ maxOk (verOk n hn) msgOk (fun w data htx hd he => frmAll _ hv w t hok hle has tx num data e0 htx hnum hd he) hle hnum ht hok he
end Go.Proofs.YteeamkddgccpeaaGreatDoor
