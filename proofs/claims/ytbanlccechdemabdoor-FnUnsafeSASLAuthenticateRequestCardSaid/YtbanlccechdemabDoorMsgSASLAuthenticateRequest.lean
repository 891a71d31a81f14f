/- SASLAuthenticateRequest: its fields, how it is read and told. -/
import Derived.Test.YtbanlccechdemabDoorParts
namespace Go.Proofs.YtbanlccechdemabDoor
open Go Go.Kf

def tysSASLAuthenticateRequest : List Ty := [.num .i16, .octs, .tags]
def lsSASLAuthenticateRequest : List Nat := [1, 1, 1]
def zfSASLAuthenticateRequest : List FV := [.one (.int .i16 0), .octs true [], .tags []]
def dfSASLAuthenticateRequest : List FV := [.one (.int .i16 0), .octs true [], .tags []]
def dsSASLAuthenticateRequest : List Dset := []
theorem dsokSASLAuthenticateRequest : DsetsOk P 56 lsSASLAuthenticateRequest dsSASLAuthenticateRequest := fun d hd => by cases hd
theorem defSASLAuthenticateRequest : DefSets P 17 lsSASLAuthenticateRequest dsSASLAuthenticateRequest := default_gives rdF.mix (by kernel_rfl) dsokSASLAuthenticateRequest
theorem dokSASLAuthenticateRequest : DefOk P 17 56 dfSASLAuthenticateRequest := DefSets.ok (z := .agg ⟨[.int .i16 0, .slice none 0 0, .map none]⟩) (zfs := zfSASLAuthenticateRequest) (dc := [.int .i16 0, .slice none 0 0, .map none]) defSASLAuthenticateRequest (by kernel_rfl) (by kernel_rfl) rfl rfl (by kernel_rfl)
def tfsSASLAuthenticateRequest : List (List FV → PT) := [fun fs => tellPrim (fvGet fs 1)]
def tssSASLAuthenticateRequest : List TStep := [.call 19 1 22 0]
theorem tsokSASLAuthenticateRequest : StepsTell P N 56 tysSASLAuthenticateRequest tssSASLAuthenticateRequest tfsSASLAuthenticateRequest 0 := ⟨told_call tyZ ⟨by kernel_rfl, rfl, rfl⟩ (by kernel_rfl) cOcts, trivial⟩
def gpSASLAuthenticateRequest (fs : List FV) : PT := .mk 0 [] false (tfsSASLAuthenticateRequest.map (· fs)) (tellTags (fvGet fs 2))
theorem toldSASLAuthenticateRequest : TellOf P 14 tysSASLAuthenticateRequest gpSASLAuthenticateRequest := told_tags (S := 56) (N := 1) (g := 21) (ss := tssSASLAuthenticateRequest) rdF tyZ tellF (closure_gives rdF tyZ octF rowTg tagPlan (by kernel_rfl)) hEach hSorted (by kernel_rfl) rfl (by decide) tsokSASLAuthenticateRequest ⟨by kernel_rfl, rfl, rfl⟩

end Go.Proofs.YtbanlccechdemabDoor
