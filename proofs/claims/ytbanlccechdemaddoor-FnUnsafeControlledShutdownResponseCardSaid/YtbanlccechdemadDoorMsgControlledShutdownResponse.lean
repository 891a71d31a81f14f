/- ControlledShutdownResponse: its fields, how it is read and told. -/
import Derived.Test.YtbanlccechdemadDoorParts
namespace Go.Proofs.YtbanlccechdemadDoor
open Go Go.Kf

def tysControlledShutdownResponsePartitionsRemaining : List Ty := [.text, .num .i32, .tags]
def lsControlledShutdownResponsePartitionsRemaining : List Nat := [1, 1, 1]
def zfControlledShutdownResponsePartitionsRemaining : List FV := [.text [], .one (.int .i32 0), .tags []]
def dfControlledShutdownResponsePartitionsRemaining : List FV := [.text [], .one (.int .i32 0), .tags []]
def dsControlledShutdownResponsePartitionsRemaining : List Dset := []
theorem dsokControlledShutdownResponsePartitionsRemaining : DsetsOk P 62 lsControlledShutdownResponsePartitionsRemaining dsControlledShutdownResponsePartitionsRemaining := fun d hd => by cases hd
theorem defControlledShutdownResponsePartitionsRemaining : DefSets P 28 lsControlledShutdownResponsePartitionsRemaining dsControlledShutdownResponsePartitionsRemaining := default_gives rdF.mix (by kernel_rfl) dsokControlledShutdownResponsePartitionsRemaining
theorem dokControlledShutdownResponsePartitionsRemaining : DefOk P 28 62 dfControlledShutdownResponsePartitionsRemaining := DefSets.ok (z := .agg ⟨[.string (strOf []), .int .i32 0, .map none]⟩) (zfs := zfControlledShutdownResponsePartitionsRemaining) (dc := [.string (strOf []), .int .i32 0, .map none]) defControlledShutdownResponsePartitionsRemaining (by kernel_rfl) (by kernel_rfl) rfl rfl (by kernel_rfl)
def tfsControlledShutdownResponsePartitionsRemaining : List (List FV → PT) := [fun fs => tellPrim (fvGet fs 0), fun fs => tellPrim (fvGet fs 1)]
def tssControlledShutdownResponsePartitionsRemaining : List TStep := [.text 0 0, .num 1 21 1]
theorem tsokControlledShutdownResponsePartitionsRemaining : StepsTell P N 62 tysControlledShutdownResponsePartitionsRemaining tssControlledShutdownResponsePartitionsRemaining tfsControlledShutdownResponsePartitionsRemaining 0 := ⟨told_text rdF tyZ tellF oneStr ⟨by kernel_rfl, rfl, rfl⟩, told_num tyZ tellF ⟨by kernel_rfl, rfl, rfl⟩ (by kernel_rfl) (by kernel_rfl) fits_i32, trivial⟩
def gpControlledShutdownResponsePartitionsRemaining (fs : List FV) : PT := .mk 0 [] false (tfsControlledShutdownResponsePartitionsRemaining.map (· fs)) (tellTags (fvGet fs 2))
theorem toldControlledShutdownResponsePartitionsRemaining : TellOf P 19 tysControlledShutdownResponsePartitionsRemaining gpControlledShutdownResponsePartitionsRemaining := told_tags (S := 62) (N := 2) (g := 35) (ss := tssControlledShutdownResponsePartitionsRemaining) rdF tyZ tellF (closure_gives rdF tyZ octF rowTg tagPlan (by kernel_rfl)) hEach hSorted (by kernel_rfl) rfl (by decide) tsokControlledShutdownResponsePartitionsRemaining ⟨by kernel_rfl, rfl, rfl⟩

def tysControlledShutdownResponse : List Ty := [.num .i16, .num .i16, .list (tysControlledShutdownResponsePartitionsRemaining), .tags]
def lsControlledShutdownResponse : List Nat := [1, 1, 1, 1]
def zfControlledShutdownResponse : List FV := [.one (.int .i16 0), .one (.int .i16 0), .list true [], .tags []]
def dfControlledShutdownResponse : List FV := [.one (.int .i16 0), .one (.int .i16 0), .list true [], .tags []]
def dsControlledShutdownResponse : List Dset := []
theorem dsokControlledShutdownResponse : DsetsOk P 57 lsControlledShutdownResponse dsControlledShutdownResponse := fun d hd => by cases hd
theorem defControlledShutdownResponse : DefSets P 17 lsControlledShutdownResponse dsControlledShutdownResponse := default_gives rdF.mix (by kernel_rfl) dsokControlledShutdownResponse
theorem dokControlledShutdownResponse : DefOk P 17 57 dfControlledShutdownResponse := DefSets.ok (z := .agg ⟨[.int .i16 0, .int .i16 0, .slice none 0 0, .map none]⟩) (zfs := zfControlledShutdownResponse) (dc := [.int .i16 0, .int .i16 0, .slice none 0 0, .map none]) defControlledShutdownResponse (by kernel_rfl) (by kernel_rfl) rfl rfl (by kernel_rfl)
def tfsControlledShutdownResponse : List (List FV → PT) := [fun fs => tellPrim (fvGet fs 1), fun fs => tellList gpControlledShutdownResponsePartitionsRemaining (fvGet fs 2)]
def tssControlledShutdownResponse : List TStep := [.num 1 38 0, .list 2 52 1 (.sub 19)]
theorem tsokControlledShutdownResponse : StepsTell P N 57 tysControlledShutdownResponse tssControlledShutdownResponse tfsControlledShutdownResponse 0 := ⟨told_num tyZ tellF ⟨by kernel_rfl, rfl, rfl⟩ (by kernel_rfl) (by kernel_rfl) fits_i16, told_list (T := 62) rdF tyZ tellF ⟨by kernel_rfl, rfl, rfl⟩ (by kernel_rfl) (by kernel_rfl) (by kernel_rfl) rfl (el_sub toldControlledShutdownResponsePartitionsRemaining), trivial⟩
def gpControlledShutdownResponse (fs : List FV) : PT := .mk 0 [] false (tfsControlledShutdownResponse.map (· fs)) (tellTags (fvGet fs 3))
theorem toldControlledShutdownResponse : TellOf P 14 tysControlledShutdownResponse gpControlledShutdownResponse := told_tags (S := 57) (N := 2) (g := 21) (ss := tssControlledShutdownResponse) rdF tyZ tellF (closure_gives rdF tyZ octF rowTg tagPlan (by kernel_rfl)) hEach hSorted (by kernel_rfl) rfl (by decide) tsokControlledShutdownResponse ⟨by kernel_rfl, rfl, rfl⟩

end Go.Proofs.YtbanlccechdemadDoor
