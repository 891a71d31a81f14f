/- ApiVersionsResponse: its fields, how it is read and told. -/
import Derived.Test.YtpibjbgaedphbabGreatDoorParts
namespace Go.Proofs.YtpibjbgaedphbabGreatDoor
open Go Go.Kf

def tysApiVersionsResponseApiKey : List Ty := [.num .i16, .num .i16, .num .i16, .tags]
def lsApiVersionsResponseApiKey : List Nat := [1, 1, 1, 1]
def zfApiVersionsResponseApiKey : List FV := [.one (.int .i16 0), .one (.int .i16 0), .one (.int .i16 0), .tags []]
def dfApiVersionsResponseApiKey : List FV := [.one (.int .i16 0), .one (.int .i16 0), .one (.int .i16 0), .tags []]
def dsApiVersionsResponseApiKey : List Dset := []
theorem dsokApiVersionsResponseApiKey : DsetsOk P 77 lsApiVersionsResponseApiKey dsApiVersionsResponseApiKey := trivial
theorem defApiVersionsResponseApiKey : DefSets P 46 lsApiVersionsResponseApiKey dsApiVersionsResponseApiKey := default_gives rdF.mix (by kernel_rfl) dsokApiVersionsResponseApiKey
theorem dokApiVersionsResponseApiKey : DefOk P 46 77 dfApiVersionsResponseApiKey := DefSets.ok (z := .agg ⟨[.int .i16 0, .int .i16 0, .int .i16 0, .map none]⟩) (zfs := zfApiVersionsResponseApiKey) (dc := [.int .i16 0, .int .i16 0, .int .i16 0, .map none]) defApiVersionsResponseApiKey (by kernel_rfl) (by kernel_rfl) rfl rfl rfl (by kernel_rfl)
def tfsApiVersionsResponseApiKey : List (List FV → PT) := [fun fs => tellPrim (fvGet fs 0), fun fs => tellPrim (fvGet fs 1), fun fs => tellPrim (fvGet fs 2)]
def tssApiVersionsResponseApiKey : List TStep := [.num 0 45 0, .num 1 45 1, .num 2 45 2]
theorem tsokApiVersionsResponseApiKey : StepsTell P N 77 tysApiVersionsResponseApiKey tssApiVersionsResponseApiKey tfsApiVersionsResponseApiKey 0 := ⟨told_num tyZ tellF ⟨by kernel_rfl, rfl, rfl⟩ (by kernel_rfl) (by kernel_rfl) fits_i16, told_num tyZ tellF ⟨by kernel_rfl, rfl, rfl⟩ (by kernel_rfl) (by kernel_rfl) fits_i16, told_num tyZ tellF ⟨by kernel_rfl, rfl, rfl⟩ (by kernel_rfl) (by kernel_rfl) fits_i16, trivial⟩
def gpApiVersionsResponseApiKey (fs : List FV) : PT := .mk 0 [] false (tfsApiVersionsResponseApiKey.map (· fs)) (tellTags (fvGet fs 3))
theorem toldApiVersionsResponseApiKey : TellOf P 27 tysApiVersionsResponseApiKey gpApiVersionsResponseApiKey := told_tags (S := 77) (N := 3) (g := 60) (ss := tssApiVersionsResponseApiKey) rdF tyZ tellF (closure_gives rdF tyZ octF rowTg tagPlan (by kernel_rfl)) hEach hSorted (by kernel_rfl) rfl (by decide) tsokApiVersionsResponseApiKey ⟨by kernel_rfl, rfl, rfl⟩

def tysApiVersionsResponseSupportedFeature : List Ty := [.text, .num .i16, .num .i16, .tags]
def lsApiVersionsResponseSupportedFeature : List Nat := [1, 1, 1, 1]
def zfApiVersionsResponseSupportedFeature : List FV := [.text [], .one (.int .i16 0), .one (.int .i16 0), .tags []]
def dfApiVersionsResponseSupportedFeature : List FV := [.text [], .one (.int .i16 0), .one (.int .i16 0), .tags []]
def dsApiVersionsResponseSupportedFeature : List Dset := []
theorem dsokApiVersionsResponseSupportedFeature : DsetsOk P 81 lsApiVersionsResponseSupportedFeature dsApiVersionsResponseSupportedFeature := trivial
theorem defApiVersionsResponseSupportedFeature : DefSets P 52 lsApiVersionsResponseSupportedFeature dsApiVersionsResponseSupportedFeature := default_gives rdF.mix (by kernel_rfl) dsokApiVersionsResponseSupportedFeature
theorem dokApiVersionsResponseSupportedFeature : DefOk P 52 81 dfApiVersionsResponseSupportedFeature := DefSets.ok (z := .agg ⟨[.string (strOf []), .int .i16 0, .int .i16 0, .map none]⟩) (zfs := zfApiVersionsResponseSupportedFeature) (dc := [.string (strOf []), .int .i16 0, .int .i16 0, .map none]) defApiVersionsResponseSupportedFeature (by kernel_rfl) (by kernel_rfl) rfl rfl rfl (by kernel_rfl)
def tfsApiVersionsResponseSupportedFeature : List (List FV → PT) := [fun fs => tellPrim (fvGet fs 0), fun fs => tellPrim (fvGet fs 1), fun fs => tellPrim (fvGet fs 2)]
def tssApiVersionsResponseSupportedFeature : List TStep := [.text 0 0, .num 1 45 1, .num 2 45 2]
theorem tsokApiVersionsResponseSupportedFeature : StepsTell P N 81 tysApiVersionsResponseSupportedFeature tssApiVersionsResponseSupportedFeature tfsApiVersionsResponseSupportedFeature 0 := ⟨told_text rdF tyZ tellF oneStr ⟨by kernel_rfl, rfl, rfl⟩, told_num tyZ tellF ⟨by kernel_rfl, rfl, rfl⟩ (by kernel_rfl) (by kernel_rfl) fits_i16, told_num tyZ tellF ⟨by kernel_rfl, rfl, rfl⟩ (by kernel_rfl) (by kernel_rfl) fits_i16, trivial⟩
def gpApiVersionsResponseSupportedFeature (fs : List FV) : PT := .mk 0 [] false (tfsApiVersionsResponseSupportedFeature.map (· fs)) (tellTags (fvGet fs 3))
theorem toldApiVersionsResponseSupportedFeature : TellOf P 28 tysApiVersionsResponseSupportedFeature gpApiVersionsResponseSupportedFeature := told_tags (S := 81) (N := 3) (g := 61) (ss := tssApiVersionsResponseSupportedFeature) rdF tyZ tellF (closure_gives rdF tyZ octF rowTg tagPlan (by kernel_rfl)) hEach hSorted (by kernel_rfl) rfl (by decide) tsokApiVersionsResponseSupportedFeature ⟨by kernel_rfl, rfl, rfl⟩

def tysApiVersionsResponseFinalizedFeature : List Ty := [.text, .num .i16, .num .i16, .tags]
def lsApiVersionsResponseFinalizedFeature : List Nat := [1, 1, 1, 1]
def zfApiVersionsResponseFinalizedFeature : List FV := [.text [], .one (.int .i16 0), .one (.int .i16 0), .tags []]
def dfApiVersionsResponseFinalizedFeature : List FV := [.text [], .one (.int .i16 0), .one (.int .i16 0), .tags []]
def dsApiVersionsResponseFinalizedFeature : List Dset := []
theorem dsokApiVersionsResponseFinalizedFeature : DsetsOk P 85 lsApiVersionsResponseFinalizedFeature dsApiVersionsResponseFinalizedFeature := trivial
theorem defApiVersionsResponseFinalizedFeature : DefSets P 58 lsApiVersionsResponseFinalizedFeature dsApiVersionsResponseFinalizedFeature := default_gives rdF.mix (by kernel_rfl) dsokApiVersionsResponseFinalizedFeature
theorem dokApiVersionsResponseFinalizedFeature : DefOk P 58 85 dfApiVersionsResponseFinalizedFeature := DefSets.ok (z := .agg ⟨[.string (strOf []), .int .i16 0, .int .i16 0, .map none]⟩) (zfs := zfApiVersionsResponseFinalizedFeature) (dc := [.string (strOf []), .int .i16 0, .int .i16 0, .map none]) defApiVersionsResponseFinalizedFeature (by kernel_rfl) (by kernel_rfl) rfl rfl rfl (by kernel_rfl)
def tfsApiVersionsResponseFinalizedFeature : List (List FV → PT) := [fun fs => tellPrim (fvGet fs 0), fun fs => tellPrim (fvGet fs 1), fun fs => tellPrim (fvGet fs 2)]
def tssApiVersionsResponseFinalizedFeature : List TStep := [.text 0 0, .num 1 45 1, .num 2 45 2]
theorem tsokApiVersionsResponseFinalizedFeature : StepsTell P N 85 tysApiVersionsResponseFinalizedFeature tssApiVersionsResponseFinalizedFeature tfsApiVersionsResponseFinalizedFeature 0 := ⟨told_text rdF tyZ tellF oneStr ⟨by kernel_rfl, rfl, rfl⟩, told_num tyZ tellF ⟨by kernel_rfl, rfl, rfl⟩ (by kernel_rfl) (by kernel_rfl) fits_i16, told_num tyZ tellF ⟨by kernel_rfl, rfl, rfl⟩ (by kernel_rfl) (by kernel_rfl) fits_i16, trivial⟩
def gpApiVersionsResponseFinalizedFeature (fs : List FV) : PT := .mk 0 [] false (tfsApiVersionsResponseFinalizedFeature.map (· fs)) (tellTags (fvGet fs 3))
theorem toldApiVersionsResponseFinalizedFeature : TellOf P 29 tysApiVersionsResponseFinalizedFeature gpApiVersionsResponseFinalizedFeature := told_tags (S := 85) (N := 3) (g := 62) (ss := tssApiVersionsResponseFinalizedFeature) rdF tyZ tellF (closure_gives rdF tyZ octF rowTg tagPlan (by kernel_rfl)) hEach hSorted (by kernel_rfl) rfl (by decide) tsokApiVersionsResponseFinalizedFeature ⟨by kernel_rfl, rfl, rfl⟩

def tysApiVersionsResponse : List Ty := [.num .i16, .num .i16, .list (tysApiVersionsResponseApiKey), .num .i32, .list (tysApiVersionsResponseSupportedFeature), .num .i64, .list (tysApiVersionsResponseFinalizedFeature), .bool, .tags]
def lsApiVersionsResponse : List Nat := [1, 1, 1, 1, 1, 1, 1, 1, 1]
def zfApiVersionsResponse : List FV := [.one (.int .i16 0), .one (.int .i16 0), .list true [], .one (.int .i32 0), .list true [], .one (.int .i64 0), .list true [], .one (.bool false), .tags []]
def dfApiVersionsResponse : List FV := [.one (.int .i16 0), .one (.int .i16 0), .list true [], .one (.int .i32 0), .list true [], .one (.int .i64 (-1)), .list true [], .one (.bool false), .tags []]
def dsApiVersionsResponse : List Dset := [.set 5 2 5 (.int .i64 (-1))]
theorem dsokApiVersionsResponse : DsetsOk P 72 lsApiVersionsResponse dsApiVersionsResponse := ⟨⟨⟨by kernel_rfl, rfl, rfl⟩, by kernel_rfl, rfl⟩, trivial⟩
theorem defApiVersionsResponse : DefSets P 20 lsApiVersionsResponse dsApiVersionsResponse := default_gives rdF.mix (by kernel_rfl) dsokApiVersionsResponse
theorem dokApiVersionsResponse : DefOk P 20 72 dfApiVersionsResponse := DefSets.ok (z := .agg ⟨[.int .i16 0, .int .i16 0, .slice none 0 0, .int .i32 0, .slice none 0 0, .int .i64 0, .slice none 0 0, .bool false, .map none]⟩) (zfs := zfApiVersionsResponse) (dc := [.int .i16 0, .int .i16 0, .slice none 0 0, .int .i32 0, .slice none 0 0, .int .i64 (-1), .slice none 0 0, .bool false, .map none]) defApiVersionsResponse (by kernel_rfl) (by kernel_rfl) rfl rfl rfl (by kernel_rfl)
def tfsApiVersionsResponse : List (List FV → PT) := [fun fs => tellPrim (fvGet fs 1), fun fs => tellList gpApiVersionsResponseApiKey (fvGet fs 2), fun fs => tellPrim (fvGet fs 3), fun fs => tellList gpApiVersionsResponseSupportedFeature (fvGet fs 4), fun fs => tellPrim (fvGet fs 5), fun fs => tellList gpApiVersionsResponseFinalizedFeature (fvGet fs 6), fun fs => tellPrim (fvGet fs 7)]
def tssApiVersionsResponse : List TStep := [.num 1 45 0, .list 2 65 1 (.sub 27), .num 3 21 2, .list 4 66 3 (.sub 28), .num64 5 4, .list 6 67 5 (.sub 29), .call 30 7 4 6]
theorem tsokApiVersionsResponse : StepsTell P N 72 tysApiVersionsResponse tssApiVersionsResponse tfsApiVersionsResponse 0 := ⟨told_num tyZ tellF ⟨by kernel_rfl, rfl, rfl⟩ (by kernel_rfl) (by kernel_rfl) fits_i16, told_list (T := 77) rdF tyZ tellF ⟨by kernel_rfl, rfl, rfl⟩ (by kernel_rfl) (by kernel_rfl) (by kernel_rfl) rfl (el_sub toldApiVersionsResponseApiKey), told_num tyZ tellF ⟨by kernel_rfl, rfl, rfl⟩ (by kernel_rfl) (by kernel_rfl) fits_i32, told_list (T := 81) rdF tyZ tellF ⟨by kernel_rfl, rfl, rfl⟩ (by kernel_rfl) (by kernel_rfl) (by kernel_rfl) rfl (el_sub toldApiVersionsResponseSupportedFeature), told_num64 tyZ tellF ⟨by kernel_rfl, rfl, rfl⟩, told_list (T := 85) rdF tyZ tellF ⟨by kernel_rfl, rfl, rfl⟩ (by kernel_rfl) (by kernel_rfl) (by kernel_rfl) rfl (el_sub toldApiVersionsResponseFinalizedFeature), told_call tyZ ⟨by kernel_rfl, rfl, rfl⟩ (by kernel_rfl) cBool, trivial⟩
def gpApiVersionsResponse (fs : List FV) : PT := .mk 0 [] false (tfsApiVersionsResponse.map (· fs)) (tellTags (fvGet fs 8))
theorem toldApiVersionsResponse : TellOf P 21 tysApiVersionsResponse gpApiVersionsResponse := told_tags (S := 72) (N := 7) (g := 32) (ss := tssApiVersionsResponse) rdF tyZ tellF (closure_gives rdF tyZ octF rowTg tagPlan (by kernel_rfl)) hEach hSorted (by kernel_rfl) rfl (by decide) tsokApiVersionsResponse ⟨by kernel_rfl, rfl, rfl⟩

end Go.Proofs.YtpibjbgaedphbabGreatDoor
