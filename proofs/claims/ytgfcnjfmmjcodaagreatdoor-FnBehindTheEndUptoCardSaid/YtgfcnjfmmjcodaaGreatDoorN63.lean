/- FnBehindTheEnd: what stands behind two blocks of bytes 0 is not read: for what reads as at most 1048576 in bulk. -/
import Derived.Test.YtgfcnjfmmjcodaaGreatDoorN60
import Derived.Test.YtgfcnjfmmjcodaaGreatDoorN61
import Derived.Test.YtgfcnjfmmjcodaaGreatDoorN62
set_option linter.all false
set_option maxRecDepth 100000
set_option maxHeartbeats 1000000
open Go.Lib (hid)
namespace Go.Proofs.YtgfcnjfmmjcodaaGreatDoor.fnBehindTheEnd
open Go Go.ChangeShapes Go.WideShapes Go.ChangeAt Go.RowKit
theorem saidUpto : Rows.FnBehindTheEndUptoSaid :=
  OpenClaim.holds_of_cond 6 Tryz.f6 rfl rfl rfl rfl rfl rfl rfl ⟨rfl, rfl, rfl, rfl, rfl⟩ rfl rfl rfl rfl rfl t_named Tryz.func6 t_closed t_inst t_wrap
    (fun os started H enc _ F => by rw [OpenClaim.pre_eq_preRow]; exact liftedUpto os started H enc F)
theorem cardUpto : Rows.FnBehindTheEndUptoCardSaid :=
  Claim7.holds_tied_plain_at .later [] _ _ _ _ saidUpto (fun _ h => by cases h) t_wf (fun _ h => by cases h) fnBehindTheEndUpto_row_tie rfl ⟨rfl, rfl⟩ t_main rfl plain t_goes
#print axioms cardUpto
end Go.Proofs.YtgfcnjfmmjcodaaGreatDoor.fnBehindTheEnd
