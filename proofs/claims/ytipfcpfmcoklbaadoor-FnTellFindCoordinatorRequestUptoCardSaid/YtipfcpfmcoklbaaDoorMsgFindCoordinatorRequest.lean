/- FindCoordinatorRequest: its fields, how it is read and told. -/
import Derived.Test.YtipfcpfmcoklbaaDoorParts
namespace Go.Proofs.YtipfcpfmcoklbaaDoor
open Go Go.Kf

def tysFindCoordinatorRequest : List Ty := [.num .i16, .text, .num .i8, .list [.text], .tags]
def lsFindCoordinatorRequest : List Nat := [1, 1, 1, 1, 1]
def zfFindCoordinatorRequest : List FV := [.one (.int .i16 0), .text [], .one (.int .i8 0), .list true [], .tags []]
def dfFindCoordinatorRequest : List FV := [.one (.int .i16 0), .text [], .one (.int .i8 0), .list true [], .tags []]
def dsFindCoordinatorRequest : List Dset := []
theorem dsokFindCoordinatorRequest : DsetsOk P 95 lsFindCoordinatorRequest dsFindCoordinatorRequest := trivial
theorem defFindCoordinatorRequest : DefSets P 52 lsFindCoordinatorRequest dsFindCoordinatorRequest := default_gives rdF.mix (by kernel_rfl) dsokFindCoordinatorRequest
theorem dokFindCoordinatorRequest : DefOk P 52 95 dfFindCoordinatorRequest := DefSets.ok (z := .agg ⟨[.int .i16 0, .string (strOf []), .int .i8 0, .slice none 0 0, .map none]⟩) (zfs := zfFindCoordinatorRequest) (dc := [.int .i16 0, .string (strOf []), .int .i8 0, .slice none 0 0, .map none]) defFindCoordinatorRequest (by kernel_rfl) (by kernel_rfl) rfl rfl rfl (by kernel_rfl)
def tfsFindCoordinatorRequest : List (List FV → PT) := [fun fs => tellPrim (fvGet fs 1), fun fs => tellPrim (fvGet fs 2), fun fs => tellList (fun r => tellPrim (fvGet r 0)) (fvGet fs 3)]
def tssFindCoordinatorRequest : List TStep := [.text 1 0, .num 2 93 1, .list 3 73 2 (.text)]
theorem tsokFindCoordinatorRequest : StepsTell P N 95 tysFindCoordinatorRequest tssFindCoordinatorRequest tfsFindCoordinatorRequest 0 := ⟨told_text rdF tyZ tellF oneStr ⟨by kernel_rfl, rfl, rfl⟩, told_num tyZ tellF ⟨by kernel_rfl, rfl, rfl⟩ (by kernel_rfl) (by kernel_rfl) fits_i8, told_list (T := 9) rdF tyZ tellF ⟨by kernel_rfl, rfl, rfl⟩ (by kernel_rfl) (by kernel_rfl) (by kernel_rfl) rfl (el_text oneStr), trivial⟩
def gpFindCoordinatorRequest (fs : List FV) : PT := .mk 0 [] false (tfsFindCoordinatorRequest.map (· fs)) (tellTags (fvGet fs 4))
theorem toldFindCoordinatorRequest : TellOf P 36 tysFindCoordinatorRequest gpFindCoordinatorRequest := told_tags (S := 95) (N := 3) (g := 54) (ss := tssFindCoordinatorRequest) rdF tyZ tellF (closure_gives rdF tyZ octF rowTg tagPlan (by kernel_rfl)) hEach hSorted (by kernel_rfl) rfl (by decide) tsokFindCoordinatorRequest ⟨by kernel_rfl, rfl, rfl⟩

end Go.Proofs.YtipfcpfmcoklbaaDoor
