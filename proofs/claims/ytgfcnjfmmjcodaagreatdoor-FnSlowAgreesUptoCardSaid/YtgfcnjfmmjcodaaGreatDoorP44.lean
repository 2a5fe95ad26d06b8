/- FnSlowAgrees. -/
import Derived.Test.YtgfcnjfmmjcodaaGreatDoorP35
set_option linter.all false
set_option maxRecDepth 100000
set_option maxHeartbeats 1000000
open Go.Lib (hid)
namespace Go.Proofs.YtgfcnjfmmjcodaaGreatDoor.fnSlowAgrees
open Go Go.ChangeShapes Go.WideShapes Go.ChangeAt Go.RowKit
set_option maxRecDepth 100000
set_option maxHeartbeats 40000000
theorem tc9:((Rows.fnSlowAgreesUptoRow.inPlace==Tryz.pinned.checked.prog.inPlace 11))=true:=by kernel_rfl
theorem Bi5:((Rows.fnSlowAgreesUptoRow.unfollowed==Tryz.pinned.checked.prog.unfollowed 11))=true:=by kernel_rfl
theorem Bi6:((Rows.fnSlowAgreesUptoRow.recurses==Tryz.pinned.checked.prog.recurses 11))=true:=by kernel_rfl
theorem Bi7:((Rows.fnSlowAgreesUptoRow.named==Tryz.pinned.checked.prog.varsNamed 11))=true:=by kernel_rfl
end Go.Proofs.YtgfcnjfmmjcodaaGreatDoor.fnSlowAgrees
