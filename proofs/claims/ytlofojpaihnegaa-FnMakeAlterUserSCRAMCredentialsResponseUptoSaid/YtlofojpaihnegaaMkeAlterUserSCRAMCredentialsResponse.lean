/- AlterUserSCRAMCredentialsResponse: filled, and written. -/
import Derived.Test.YtlofojpaihnegaaMsgAlterUserSCRAMCredentialsResponse
import Derived.Test.YtlofojpaihnegaaFieldsAlterUserSCRAMCredentialsResponse
import Derived.Test.YtlofojpaihnegaaWr
namespace Go.Proofs.Ytlofojpaihnegaa
open Go Go.Kf

def mid : List Value := [.int .i32 0, .slice none 0 0, .map none]
theorem newOk : NewOk P 14 (.int .i16 0 :: mid) := new_gives rdF.mix (by kernel_rfl : zeroTy P 57 = some (.agg ⟨.int .i16 0 :: [.int .i32 0, .slice none 0 0, .map none]⟩, 4)) dokAlterUserSCRAMCredentialsResponse (by kernel_rfl) (by kernel_rfl)

def N2 : Nums := { N with tTree := N.sTree, tTrees := N.sTrees, tTagL := N.sTagL, tTag := N.sTag, sTree := N.tTree, sTrees := N.tTrees, sTagL := N.tTagL, sTag := N.tTag }
def sn2 : SN := { sn with at_ := 27 }
theorem rdF2 : RdFacts P N2 := ⟨by kernel_rfl, by kernel_rfl, by kernel_rfl, by kernel_rfl, by kernel_rfl, by kernel_rfl, by kernel_rfl, by kernel_rfl, by kernel_rfl, by kernel_rfl, by kernel_rfl, by kernel_rfl, by kernel_rfl, by kernel_rfl, by kernel_rfl⟩
theorem tyY2 : TyFacts P N2 N2.sTree N2.sTrees N2.sTagL N2.sTag := ⟨by kernel_rfl, by kernel_rfl, by kernel_rfl, by kernel_rfl, by kernel_rfl, by kernel_rfl, by kernel_rfl, by kernel_rfl, by kernel_rfl, by kernel_rfl, by kernel_rfl, by kernel_rfl, by kernel_rfl, by kernel_rfl, by kernel_rfl, by kernel_rfl, by kernel_rfl⟩
theorem tyZ2 : TyFacts P N2 N2.tTree N2.tTrees N2.tTagL N2.tTag := ⟨by kernel_rfl, by kernel_rfl, by kernel_rfl, by kernel_rfl, by kernel_rfl, by kernel_rfl, by kernel_rfl, by kernel_rfl, by kernel_rfl, by kernel_rfl, by kernel_rfl, by kernel_rfl, by kernel_rfl, by kernel_rfl, by kernel_rfl, by kernel_rfl, by kernel_rfl⟩
theorem rowS2 : RowFacts P N2.sTree 5 := .of (by kernel_rfl) (by kernel_rfl) (by decide)
theorem rowSg2 : RowFacts P N2.sTag 2 := .of (by kernel_rfl) (by kernel_rfl) (by decide)
theorem gotF2 : GotFacts P N2 := .of (by kernel_rfl) (by kernel_rfl) (by kernel_rfl) (by kernel_rfl) (by kernel_rfl) rowS2 rowSg2
theorem rowF2 : RowFacts P sn2.field 8 := .of (by kernel_rfl) (by kernel_rfl) (by decide)
theorem spF2 : SpFacts P N2 sn2 := .of rdF2 tyY2 gotF2 rowF2 (by kernel_rfl) (by kernel_rfl) (by kernel_rfl) (by kernel_rfl) (by kernel_rfl) (by kernel_rfl) (by kernel_rfl) (by kernel_rfl)
theorem fillF : FillFacts P N2 := ⟨by kernel_rfl, by kernel_rfl, by kernel_rfl, by kernel_rfl⟩
theorem hAt : treeIn P sn2.at_ noOrc [.tmp 0, .tmp 1] 2 = tAt N2 := by kernel_rfl
theorem hGiven : ∀ x, GotOf P 10 x := got_gives rdF2 tyY2 tyZ2 gotF2 (by kernel_rfl)
theorem hSetY : TagSetY P 29 := tagSetY_gives rdF tagF (by kernel_rfl)
theorem hText : TextOf P 48 := textOf_gives rdF tyZ strF rdF.str (by kernel_rfl)
theorem mkT : MkTrees P N sn 11 20 := ⟨by kernel_rfl, by kernel_rfl⟩

def fsAlterUserSCRAMCredentialsResponseResult : List FStep := [.prim .text 0 0 0 9 0, .prim (.num .i16) 1 1 1 45 0, .prim .ntext 2 2 2 71 48, .tags 3 3 29]
theorem fsokAlterUserSCRAMCredentialsResponseResult : FStepsOk P N2 73 tysAlterUserSCRAMCredentialsResponseResult fsAlterUserSCRAMCredentialsResponseResult := ⟨⟨⟨by kernel_rfl, rfl, rfl⟩, by kernel_rfl, trivial⟩, ⟨⟨by kernel_rfl, rfl, rfl⟩, by kernel_rfl, (show P.underlying 45 = some (.int .i16) by kernel_rfl)⟩, ⟨⟨by kernel_rfl, rfl, rfl⟩, by kernel_rfl, hText⟩, ⟨⟨by kernel_rfl, rfl, rfl⟩, hSetY⟩, trivial⟩
def zcAlterUserSCRAMCredentialsResponseResult : List Value := [.string (strOf []), .int .i16 0, .pointer none, .map none]
theorem mkAlterUserSCRAMCredentialsResponseResult : MakeOf P 28 tysAlterUserSCRAMCredentialsResponseResult (fun y => fillVals fsAlterUserSCRAMCredentialsResponseResult y zfAlterUserSCRAMCredentialsResponseResult) := make_gives (S := 73) (cells := zcAlterUserSCRAMCredentialsResponseResult) spF2 fillF hAt (by kernel_rfl) (by kernel_rfl) (by kernel_rfl) rfl rfl rfl (preS_of rfl) (stepsOk_all fsokAlterUserSCRAMCredentialsResponseResult) (by kernel_rfl)

def fsAlterUserSCRAMCredentialsResponse : List FStep := [.prim (.num .i32) 1 0 1 21 0, .listS 2 1 2 52 73 28 zfAlterUserSCRAMCredentialsResponseResult fsAlterUserSCRAMCredentialsResponseResult, .tags 3 3 29]
theorem fsokAlterUserSCRAMCredentialsResponse : FStepsOk P N2 57 tysAlterUserSCRAMCredentialsResponse fsAlterUserSCRAMCredentialsResponse := ⟨⟨⟨by kernel_rfl, rfl, rfl⟩, by kernel_rfl, (show P.underlying 21 = some (.int .i32) by kernel_rfl)⟩, ⟨tysAlterUserSCRAMCredentialsResponseResult, ⟨by kernel_rfl, rfl, rfl⟩, by kernel_rfl, by kernel_rfl, .of (by kernel_rfl) (by kernel_rfl) (of_decide_eq_true (by kernel_rfl)), mkAlterUserSCRAMCredentialsResponseResult⟩, ⟨⟨by kernel_rfl, rfl, rfl⟩, hSetY⟩, trivial⟩
def zt : List FV := [.one (.int .i32 0), .list true [], .tags []]
def zct : List Value := [.int .i32 0, .slice none 0 0, .map none]
def tyt : List Ty := [.num .i32, .list (tysAlterUserSCRAMCredentialsResponseResult), .tags]
theorem fillOk : FillOf P 18 tysAlterUserSCRAMCredentialsResponse (fun fs => ∀ st ∈ fsAlterUserSCRAMCredentialsResponse, preS st fs) (fun t fs => runF fsAlterUserSCRAMCredentialsResponse t fs) := fill_gives (S := 57) (p := 1) spF2 fillF hAt rfl (stepsOk_all fsokAlterUserSCRAMCredentialsResponse) (by kernel_rfl)

def ws0 : List WStep := [.call (.num 4 .i32) 30 1 21 1, .listS .clen 31 2 52 2 73 4 tysAlterUserSCRAMCredentialsResponseResult [.call .cstr 33 0 9 0, .call (.num 2 .i16) 35 1 45 1, .call .cnstr 36 2 71 2, .tags 38 39 40 3 3], .tags 38 39 40 3 3]
theorem wsok0 : SemW P tysAlterUserSCRAMCredentialsResponse (fun s n d x k => gWSteps N ws0 s 57 n d x k) (encSteps ws0) := (semW_cons (semW_call xAppendInt32 ⟨by kernel_rfl, rfl, rfl⟩ (show oneTy P 21 = true by kernel_rfl)) (semW_cons (semW_listS ⟨by kernel_rfl, rfl, rfl⟩ (by kernel_rfl) (by kernel_rfl) (by kernel_rfl) rfl wCLen rfl (semW_cons (semW_call xAppendCompactString ⟨by kernel_rfl, rfl, rfl⟩ (show oneTy P 9 = true by kernel_rfl)) (semW_cons (semW_call xAppendInt16 ⟨by kernel_rfl, rfl, rfl⟩ (show oneTy P 45 = true by kernel_rfl)) (semW_cons (semW_call xAppendCompactNullableString ⟨by kernel_rfl, rfl, rfl⟩ (show oneTy P 71 = true by kernel_rfl)) (semW_cons (semW_tags spF wUv hTagsLen wEach ⟨by kernel_rfl, rfl, rfl⟩) semW_nil))))) (semW_cons (semW_tags spF wUv hTagsLen wEach ⟨by kernel_rfl, rfl, rfl⟩) semW_nil)))
theorem app0 : AppTo P 19 tysAlterUserSCRAMCredentialsResponse 0 ws0 := appTo_gives (S := 57) rdF (by kernel_rfl) (by kernel_rfl) (by kernel_rfl) wsok0

theorem mke0 (w : World) (t : PT) (hok : t.ok) (hle : (pWrite pf 0 0 t).length ≤ 1073741824) (cs : List Value) (htc : TreeC w (pFit 0 pf t) cs) : MadeBy P 9 [.int .i64 0, .agg ⟨cs⟩] w (pWrite pf 0 0 t) := by
  obtain ⟨he, hk⟩ := mk_message (v := 0) (x := 0) (fs := pf) (ss := fsAlterUserSCRAMCredentialsResponse) (ws := ws0) (tys := tyt) (zs := zt) plainOk (by kernel_rfl) (by decide) (by kernel_rfl) t
  rw [← he] at hle ⊢
  exact mkDoor_gives (S := 57) (fSet := 17) (fFill := 18) (cells := zct) (ts := tysAlterUserSCRAMCredentialsResponse) rdF tyZ (by kernel_rfl) (by decide) (ps := [(0, 1), (1, 1), (2, 1), (3, 1)]) (by kernel_rfl) (by kernel_rfl) (by kernel_rfl) (by kernel_rfl) (by kernel_rfl) fillOk rfl rfl (preS_of rfl) rfl app0 hk htc (pFit_tidy 0 pf hok) (Nat.le_trans hle (by decide))

theorem mkeAll (v : Nat) (hv : v ≤ 0) (w : World) (t : PT) (hok : t.ok) (hle : (pWrite pf 0 v t).length ≤ 1073741824) (cs : List Value) (htc : TreeC w (pFit v pf t) cs) : MadeBy P 9 [.int .i64 v, .agg ⟨cs⟩] w (pWrite pf 0 v t) := by
  have h : v = 0 := by omega
  rcases h with rfl
  · exact mke0 w t hok hle cs htc
theorem maxOk (w : World) : Gives P 5 [] w fun v w' => v = .int .i64 (0 : Nat) ∧ Keeps [] w w' := max_gives (fNew := 14) (fMax := 15) (m := 0) rdF newOk (by kernel_rfl) (by kernel_rfl) rfl
theorem verOk (n : Nat) (hn : n < 256) (w : World) : Gives P 7 [.int .u8 n, .int .i64 (0 : Nat)] w fun v w' => v = .int .i64 (n % (0 + 1) : Nat) ∧ w' = w := version_gives rdF (by kernel_rfl) hn (by decide)

/-- The law: whatever the tree. -/
theorem lawOk (w : World) (n : Nat) (hn : n < 256) (t : PT) (ts : List Value) (ht : TreeC w t ts) (hok : t.ok) (hwt : t.wt ≤ 1048576) : Gives P 3 [.int .u8 n, .agg ⟨ts⟩] w fun v w' => v = .bool true ∧ Keeps [] w w' :=
  have hv : n % (0 + 1) ≤ 0 := Nat.le_of_lt_succ (Nat.mod_lt _ (by decide))
  have hle : (pWrite pf 0 (n % (0 + 1) : Nat) t).length ≤ 1073741824 := Nat.le_trans (pWrite_len plainOk _ _ t) (Nat.mul_le_mul kOk hwt)
  mkLaw_gives (m := 0) (fs := pf) (x := 0) spF spT mkT fitT sameT (by kernel_rfl) plainOk (by decide) ⟨_, fbF.zero, rfl⟩ maxOk (verOk n hn) msgOk hGiven (fun w cs htc => mkeAll _ hv w t hok hle cs htc) hle ht hok
end Go.Proofs.Ytlofojpaihnegaa
