/- FnChangedByteIsTold. -/
import Derived.Test.YtgfcnjfmmjcodaaGreatDoorM44
set_option linter.all false
set_option maxRecDepth 100000
namespace Go.Proofs.YtgfcnjfmmjcodaaGreatDoor.fnChangedByteIsTold
open Go Go.ChangeShapes Go.WideShapes Go.ChangeAt Go.RowKit
set_option maxRecDepth 100000
set_option maxHeartbeats 40000000
theorem tc9 : ((Rows.fnChangedByteIsToldUptoRow.inPlace == Tryz.pinned.checked.prog.inPlace 3)) = true := by kernel_rfl
theorem tc10 : ((Rows.fnChangedByteIsToldUptoRow.unfollowed == Tryz.pinned.checked.prog.unfollowed 3)) = true := by kernel_rfl
theorem tc11 : ((Rows.fnChangedByteIsToldUptoRow.recurses == Tryz.pinned.checked.prog.recurses 3)) = true := by kernel_rfl
theorem tc12 : ((Rows.fnChangedByteIsToldUptoRow.named == Tryz.pinned.checked.prog.varsNamed 3)) = true := by kernel_rfl
end Go.Proofs.YtgfcnjfmmjcodaaGreatDoor.fnChangedByteIsTold
