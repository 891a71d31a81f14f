/- SASLHandshakeResponse: its fields, how it is read and told. -/
import Derived.Test.YtjmkldppfkfcoaaDoorParts
namespace Go.Proofs.YtjmkldppfkfcoaaDoor
open Go Go.Kf

def tysSASLHandshakeResponse : List Ty := [.num .i16, .num .i16, .list [.text]]
def lsSASLHandshakeResponse : List Nat := [1, 1, 1]
def zfSASLHandshakeResponse : List FV := [.one (.int .i16 0), .one (.int .i16 0), .list true []]
def dfSASLHandshakeResponse : List FV := [.one (.int .i16 0), .one (.int .i16 0), .list true []]
def dsSASLHandshakeResponse : List Dset := []
theorem dsokSASLHandshakeResponse : DsetsOk P 54 lsSASLHandshakeResponse dsSASLHandshakeResponse := fun d hd => by cases hd
theorem defSASLHandshakeResponse : DefSets P 17 lsSASLHandshakeResponse dsSASLHandshakeResponse := default_gives rdF.mix (by kernel_rfl) dsokSASLHandshakeResponse
theorem dokSASLHandshakeResponse : DefOk P 17 54 dfSASLHandshakeResponse := DefSets.ok (z := .agg ⟨[.int .i16 0, .int .i16 0, .slice none 0 0]⟩) (zfs := zfSASLHandshakeResponse) (dc := [.int .i16 0, .int .i16 0, .slice none 0 0]) defSASLHandshakeResponse (by kernel_rfl) (by kernel_rfl) rfl rfl (by kernel_rfl)
def tfsSASLHandshakeResponse : List (List FV → PT) := [fun fs => tellPrim (fvGet fs 1), fun fs => tellList (fun r => tellPrim (fvGet r 0)) (fvGet fs 2)]
def tssSASLHandshakeResponse : List TStep := [.num 1 38 0, .list 2 52 1 (.text)]
theorem tsokSASLHandshakeResponse : StepsTell P N 54 tysSASLHandshakeResponse tssSASLHandshakeResponse tfsSASLHandshakeResponse 0 := ⟨told_num tyZ tellF ⟨by kernel_rfl, rfl, rfl⟩ (by kernel_rfl) (by kernel_rfl) fits_i16, told_list (T := 9) rdF tyZ tellF ⟨by kernel_rfl, rfl, rfl⟩ (by kernel_rfl) (by kernel_rfl) (by kernel_rfl) rfl (el_text oneStr), trivial⟩
def gpSASLHandshakeResponse (fs : List FV) : PT := .mk 0 [] false (tfsSASLHandshakeResponse.map (· fs)) []
theorem toldSASLHandshakeResponse : TellOf P 14 tysSASLHandshakeResponse gpSASLHandshakeResponse := told_of (S := 54) (N := 2) rdF tyZ tellF (by kernel_rfl) rfl (by decide) tsokSASLHandshakeResponse

end Go.Proofs.YtjmkldppfkfcoaaDoor
