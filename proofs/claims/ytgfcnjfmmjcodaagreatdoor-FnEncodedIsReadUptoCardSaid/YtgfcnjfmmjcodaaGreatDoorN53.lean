/- FnEncodedIsRead: every archive that the documents of the formats allow, of files in whatever formats, is read as these files: for what reads as at most 1048576 in bulk. -/
import Derived.Test.YtgfcnjfmmjcodaaGreatDoorN50
import Derived.Test.YtgfcnjfmmjcodaaGreatDoorN51
import Derived.Test.YtgfcnjfmmjcodaaGreatDoorN52
set_option linter.all false
set_option maxRecDepth 100000
set_option maxHeartbeats 1000000
open Go.Lib (hid)
namespace Go.Proofs.YtgfcnjfmmjcodaaGreatDoor.fnEncodedIsRead
open Go Go.ChangeShapes Go.WideShapes Go.ChangeAt Go.RowKit
theorem saidUpto : Rows.FnEncodedIsReadUptoSaid :=
  OpenClaim.holds_of_cond 8 Tryz.f8 rfl rfl rfl rfl rfl rfl rfl ⟨rfl, rfl, rfl, rfl, rfl⟩ rfl rfl rfl rfl rfl t_named Tryz.func8 t_closed t_inst t_wrap
    (fun os started H enc _ F => by rw [OpenClaim.pre_eq_preRow]; exact liftedUpto os started H enc F)
theorem cardUpto : Rows.FnEncodedIsReadUptoCardSaid :=
  Claim7.holds_tied_plain_at .later [] _ _ _ _ saidUpto (fun _ h => by cases h) t_wf (fun _ h => by cases h) fnEncodedIsReadUpto_row_tie rfl ⟨rfl, rfl⟩ t_main rfl plain t_goes
#print axioms cardUpto
end Go.Proofs.YtgfcnjfmmjcodaaGreatDoor.fnEncodedIsRead
