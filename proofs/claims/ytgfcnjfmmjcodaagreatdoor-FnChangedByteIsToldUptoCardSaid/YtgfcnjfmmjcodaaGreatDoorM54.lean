/- FnChangedByteIsTold: of a header of which one byte was changed, but for those of the check sum, is told that it is invalid: for what reads as at most 1048576 in bulk. -/
import Derived.Test.YtgfcnjfmmjcodaaGreatDoorM47
import Derived.Test.YtgfcnjfmmjcodaaGreatDoorM48
import Derived.Test.YtgfcnjfmmjcodaaGreatDoorM53
set_option linter.all false
set_option maxRecDepth 100000
set_option maxHeartbeats 1000000
namespace Go.Proofs.YtgfcnjfmmjcodaaGreatDoor.fnChangedByteIsTold
open Go Go.ChangeShapes Go.WideShapes Go.ChangeAt Go.RowKit
theorem saidUpto : Rows.FnChangedByteIsToldUptoSaid :=
 OpenClaim.holds_of_cond 3 Tryz.f3 rfl rfl rfl rfl rfl rfl rfl ⟨rfl, rfl, rfl, rfl, rfl⟩ rfl rfl rfl rfl rfl t_named Tryz.func3 t_closed t_inst t_wrap
  (fun os started H enc _ F => by rw [OpenClaim.pre_eq_preRow]; exact liftedUpto os started H enc F)
theorem cardUpto : Rows.FnChangedByteIsToldUptoCardSaid :=
 Claim7.holds_tied_plain_at .later [] _ _ _ _ saidUpto (fun _ h => by cases h) t_wf (fun _ h => by cases h) fnChangedByteIsToldUpto_row_tie rfl ⟨rfl, rfl⟩ t_main rfl plain t_goes
#print axioms cardUpto
end Go.Proofs.YtgfcnjfmmjcodaaGreatDoor.fnChangedByteIsTold
