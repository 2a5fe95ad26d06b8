/- FnSlowAgrees: it does not matter in which parts an archive comes, a whole one, or one that is cut: the same files are read, with the same data, and the end is told, or an error: for what reads as at most 1048576 in bulk. -/
import Derived.Test.YtgfcnjfmmjcodaaGreatDoorP47
import Derived.Test.YtgfcnjfmmjcodaaGreatDoorP50
import Derived.Test.YtgfcnjfmmjcodaaGreatDoorP51
set_option linter.all false
set_option maxRecDepth 100000
set_option maxHeartbeats 1000000
open Go.Lib (hid)
namespace Go.Proofs.YtgfcnjfmmjcodaaGreatDoor.fnSlowAgrees
open Go Go.ChangeShapes Go.WideShapes Go.ChangeAt Go.RowKit
theorem Bih : Rows.FnSlowAgreesUptoSaid :=
  OpenClaim.holds_of_cond 11 Tryz.f11 rfl rfl rfl rfl rfl rfl rfl ⟨rfl, rfl, rfl, rfl, rfl⟩ rfl rfl rfl rfl rfl t_named Tryz.func11 Bic Biw Bix
    (fun os started H enc _ F => by rw [OpenClaim.pre_eq_preRow]; exact Bhy os started H enc F)
theorem cardUpto : Rows.FnSlowAgreesUptoCardSaid :=
  Claim7.holds_tied_plain_at .later [] _ _ _ _ Bih (fun _ h => by cases h) Bjr (fun _ h => by cases h) fnSlowAgreesUpto_row_tie rfl ⟨rfl, rfl⟩ Biz rfl plain Bi0
#print axioms cardUpto
end Go.Proofs.YtgfcnjfmmjcodaaGreatDoor.fnSlowAgrees
