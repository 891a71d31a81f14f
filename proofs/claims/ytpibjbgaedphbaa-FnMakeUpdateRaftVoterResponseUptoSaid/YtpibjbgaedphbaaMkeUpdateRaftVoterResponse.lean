/- UpdateRaftVoterResponse: filled, and written. -/
import Derived.Test.YtpibjbgaedphbaaMsgUpdateRaftVoterResponse
import Derived.Test.YtpibjbgaedphbaaFieldsUpdateRaftVoterResponse
import Derived.Test.YtpibjbgaedphbaaWr
namespace Go.Proofs.Ytpibjbgaedphbaa
open Go Go.Kf

def mid : List Value := [.int .i32 0, .int .i16 0, .int .i32 (-1), .int .i32 (-1), .string (strOf []), .int .i32 0, .map none, .map none]
theorem newOk : NewOk P 14 (.int .i16 0 :: mid) := new_gives rdF.mix (by kernel_rfl : zeroTy P 58 = some (.agg ⟨.int .i16 0 :: [.int .i32 0, .int .i16 0, .int .i32 0, .int .i32 0, .string (strOf []), .int .i32 0, .map none, .map none]⟩, 9)) dokUpdateRaftVoterResponse (by kernel_rfl) (by kernel_rfl)

def N2 : Nums := { N with tTree := N.sTree, tTrees := N.sTrees, tTagL := N.sTagL, tTag := N.sTag, sTree := N.tTree, sTrees := N.tTrees, sTagL := N.tTagL, sTag := N.tTag }
def sn2 : SN := { sn with at_ := 27 }
theorem rdF2 : RdFacts P N2 := ⟨by kernel_rfl, by kernel_rfl, by kernel_rfl, by kernel_rfl, by kernel_rfl, by kernel_rfl, by kernel_rfl, by kernel_rfl, by kernel_rfl, by kernel_rfl, by kernel_rfl, by kernel_rfl, by kernel_rfl, by kernel_rfl, by kernel_rfl⟩
theorem tyY2 : TyFacts P N2 N2.sTree N2.sTrees N2.sTagL N2.sTag := ⟨by kernel_rfl, by kernel_rfl, by kernel_rfl, by kernel_rfl, by kernel_rfl, by kernel_rfl, by kernel_rfl, by kernel_rfl, by kernel_rfl, by kernel_rfl, by kernel_rfl, by kernel_rfl, by kernel_rfl, by kernel_rfl, by kernel_rfl, by kernel_rfl, by kernel_rfl⟩
theorem tyZ2 : TyFacts P N2 N2.tTree N2.tTrees N2.tTagL N2.tTag := ⟨by kernel_rfl, by kernel_rfl, by kernel_rfl, by kernel_rfl, by kernel_rfl, by kernel_rfl, by kernel_rfl, by kernel_rfl, by kernel_rfl, by kernel_rfl, by kernel_rfl, by kernel_rfl, by kernel_rfl, by kernel_rfl, by kernel_rfl, by kernel_rfl, by kernel_rfl⟩
theorem rowS2 : RowFacts P N2.sTree 5 := .of (by kernel_rfl) (by kernel_rfl) (by decide)
theorem rowSg2 : RowFacts P N2.sTag 2 := .of (by kernel_rfl) (by kernel_rfl) (by decide)
theorem gotF2 : GotFacts P N2 := .of (by kernel_rfl) (by kernel_rfl) (by kernel_rfl) (by kernel_rfl) (by kernel_rfl) rowS2 rowSg2
theorem rowF2 : RowFacts P sn2.field 8 := .of (by kernel_rfl) (by kernel_rfl) (by decide)
theorem spF2 : SpFacts P N2 sn2 := .of rdF2 tyY2 gotF2 rowF2 (by kernel_rfl) (by kernel_rfl) (by kernel_rfl) (by kernel_rfl) (by kernel_rfl) (by kernel_rfl) (by kernel_rfl) (by kernel_rfl)
theorem fillF : FillFacts P N2 := ⟨by kernel_rfl, by kernel_rfl, by kernel_rfl, by kernel_rfl⟩
theorem hAt : treeIn P sn2.at_ noOrc [.tmp 0, .tmp 1] 2 = tAt N2 := by kernel_rfl
theorem hGiven : ∀ x, GotOf P 10 x := got_gives rdF2 tyY2 tyZ2 gotF2 (by kernel_rfl)
theorem hSetY : TagSetY P 29 := tagSetY_gives rdF tagF (by kernel_rfl)
theorem mkT : MkTrees P N sn 11 20 := ⟨by kernel_rfl, by kernel_rfl⟩

def fsUpdateRaftVoterResponseCurrentLeader : List FStep := [.prim (.num .i32) 0 0 0 21 0, .prim (.num .i32) 1 1 1 21 0, .prim .text 2 2 2 9 0, .prim (.num .i32) 3 3 3 21 0, .tags 4 4 29]
theorem fsokUpdateRaftVoterResponseCurrentLeader : FStepsOk P N2 56 tysUpdateRaftVoterResponseCurrentLeader fsUpdateRaftVoterResponseCurrentLeader := ⟨⟨⟨by kernel_rfl, rfl, rfl⟩, by kernel_rfl, (show P.underlying 21 = some (.int .i32) by kernel_rfl)⟩, ⟨⟨by kernel_rfl, rfl, rfl⟩, by kernel_rfl, (show P.underlying 21 = some (.int .i32) by kernel_rfl)⟩, ⟨⟨by kernel_rfl, rfl, rfl⟩, by kernel_rfl, trivial⟩, ⟨⟨by kernel_rfl, rfl, rfl⟩, by kernel_rfl, (show P.underlying 21 = some (.int .i32) by kernel_rfl)⟩, ⟨⟨by kernel_rfl, rfl, rfl⟩, hSetY⟩, trivial⟩
def zcUpdateRaftVoterResponseCurrentLeader : List Value := [.int .i32 0, .int .i32 0, .string (strOf []), .int .i32 0, .map none]
theorem mkUpdateRaftVoterResponseCurrentLeader : MakeOf P 28 tysUpdateRaftVoterResponseCurrentLeader (fun y => fillVals fsUpdateRaftVoterResponseCurrentLeader y zfUpdateRaftVoterResponseCurrentLeader) := make_gives (S := 56) (cells := zcUpdateRaftVoterResponseCurrentLeader) spF2 fillF hAt (by kernel_rfl) (by kernel_rfl) (by kernel_rfl) rfl rfl rfl (preS_of rfl) (stepsOk_all fsokUpdateRaftVoterResponseCurrentLeader) (by kernel_rfl)

def fsUpdateRaftVoterResponse : List FStep := [.prim (.num .i32) 1 0 1 21 0, .prim (.num .i16) 2 1 2 45 0, .sub 3 2 3 56 28 zfUpdateRaftVoterResponseCurrentLeader fsUpdateRaftVoterResponseCurrentLeader, .tags 4 8 29]
theorem fsokUpdateRaftVoterResponse : FStepsOk P N2 58 tysUpdateRaftVoterResponse fsUpdateRaftVoterResponse := ⟨⟨⟨by kernel_rfl, rfl, rfl⟩, by kernel_rfl, (show P.underlying 21 = some (.int .i32) by kernel_rfl)⟩, ⟨⟨by kernel_rfl, rfl, rfl⟩, by kernel_rfl, (show P.underlying 45 = some (.int .i16) by kernel_rfl)⟩, ⟨tysUpdateRaftVoterResponseCurrentLeader, ⟨by kernel_rfl, rfl, rfl⟩, by kernel_rfl, mkUpdateRaftVoterResponseCurrentLeader⟩, ⟨⟨by kernel_rfl, rfl, rfl⟩, hSetY⟩, trivial⟩
def zt : List FV := [.one (.int .i32 0), .one (.int .i16 0), .sub zfUpdateRaftVoterResponseCurrentLeader, .tags []]
def zct : List Value := [.int .i32 0, .int .i16 0, .int .i32 0, .int .i32 0, .string (strOf []), .int .i32 0, .map none, .map none]
def tyt : List Ty := [.num .i32, .num .i16, .sub tysUpdateRaftVoterResponseCurrentLeader, .tags]
theorem fillOk : FillOf P 18 tysUpdateRaftVoterResponse (fun fs => ∀ st ∈ fsUpdateRaftVoterResponse, preS st fs) (fun t fs => runF fsUpdateRaftVoterResponse t fs) := fill_gives (S := 58) (p := 1) spF2 fillF hAt rfl (stepsOk_all fsokUpdateRaftVoterResponse) (by kernel_rfl)

theorem leadTy : LeadTy P N 56 := ⟨by kernel_rfl, by kernel_rfl, by kernel_rfl, by kernel_rfl, by kernel_rfl, by kernel_rfl, by kernel_rfl, by kernel_rfl, by kernel_rfl⟩
theorem leadDef : NewVOk P 33 [.int .i32 (-1), .int .i32 (-1), .string (strOf []), .int .i32 0, .map none] := newV_gives (s := 5) (z := .agg ⟨[.int .i32 0, .int .i32 0, .string (strOf []), .int .i32 0, .map none]⟩) rdF.mix (by kernel_rfl) (by kernel_rfl) (by kernel_rfl) (by kernel_rfl) dokUpdateRaftVoterResponseCurrentLeader (by kernel_rfl) (by kernel_rfl)
theorem app0 : AppToE P 19 tysUpd 0 encUpd := updApp_gives (S := 58) (SL := 56) (fTg := 49) spF tagF leadTy wI32 wI16 wCStr wUv hTagsLen wEachB (by kernel_rfl) (by kernel_rfl) (by kernel_rfl) (by kernel_rfl) (by kernel_rfl) (by kernel_rfl) (by kernel_rfl) ⟨.agg ⟨[.int .i32 0, .int .i32 0, .string (strOf []), .int .i32 0, .map none]⟩, by kernel_rfl, rfl⟩ leadDef (by kernel_rfl) (by kernel_rfl : treeIn P 32 noOrc [.tmp 0, .tmp 1] 2 = tLeadSame N 56 49) (by kernel_rfl)

theorem mke0 (w : World) (t : PT) (hok : t.ok) (hle : (pWrite pf 0 0 t).length ≤ 1073741824) (cs : List Value) (htc : TreeC w (pFit 0 pf t) cs) : MadeBy P 9 [.int .i64 0, .agg ⟨cs⟩] w (pWrite pf 0 0 t) := by
  have e : encUpd (.one (.int .i16 0) :: fillVals fsUpdateRaftVoterResponse (pFit 0 pf t) zt) = pWrite pf 0 0 t := upd_law t
  have hk : okFs (.one (.int .i16 0) :: fillVals fsUpdateRaftVoterResponse (pFit 0 pf t) zt) tysUpdateRaftVoterResponse := upd_ok t
  rw [← e] at hle ⊢
  exact mkDoorE_gives (S := 58) (fSet := 17) (fFill := 18) (cells := zct) (ts := tysUpdateRaftVoterResponse) rdF tyZ (by kernel_rfl) (by decide) (ps := [(0, 1), (1, 1), (2, 1), (3, 5), (8, 1)]) (by kernel_rfl) (by kernel_rfl) (by kernel_rfl) (by kernel_rfl) (by kernel_rfl) fillOk rfl rfl (preS_of rfl) rfl app0 hk htc (pFit_tidy 0 pf hok) hle

theorem maxOk (w : World) : Gives P 5 [] w fun v w' => v = .int .i64 (0 : Nat) ∧ Keeps [] w w' := max_gives (fNew := 14) (fMax := 15) (m := 0) rdF newOk (by kernel_rfl) (by kernel_rfl) rfl
theorem verOk (n : Nat) (hn : n < 256) (w : World) : Gives P 7 [.int .u8 n, .int .i64 (0 : Nat)] w fun v w' => v = .int .i64 (n % (0 + 1) : Nat) ∧ w' = w := version_gives rdF (by kernel_rfl) hn (by decide)

/-- The law: whatever the tree. -/
theorem lawOk (w : World) (n : Nat) (hn : n < 256) (t : PT) (ts : List Value) (ht : TreeC w t ts) (hok : t.ok) (hwt : t.wt ≤ 1048576) : Gives P 3 [.int .u8 n, .agg ⟨ts⟩] w fun v w' => v = .bool true ∧ Keeps [] w w' := by
  have hv : n % (0 + 1) = 0 := by omega
  have hle : (pWrite pf 0 (n % (0 + 1) : Nat) t).length ≤ 1073741824 := Nat.le_trans (pWriteT_len pf _ _ t) (Nat.mul_le_mul kOk hwt)
  exact mkLawT_gives (m := 0) (fs := pf) (x := 0) spF spT mkT fitT sameT (by kernel_rfl) usualT fineOk (by decide) ⟨_, fbF.zero, rfl⟩ maxOk (verOk n hn) msgOk hGiven (fun w cs htc => by
    rw [hv] at hle htc ⊢
    exact mke0 w t hok hle cs htc) hle ht hok
end Go.Proofs.Ytpibjbgaedphbaa
