/- FnEncodedIsRead. -/
import Derived.Test.YtgfcnjfmmjcodaaGreatDoorN43
set_option linter.all false
set_option maxRecDepth 100000
set_option maxHeartbeats 1000000
open Go.Lib (hid)
namespace Go.Proofs.YtgfcnjfmmjcodaaGreatDoor.fnEncodedIsRead
open Go Go.ChangeShapes Go.WideShapes Go.ChangeAt Go.RowKit
set_option maxRecDepth 100000
set_option maxHeartbeats 40000000
theorem tc9:((Rows.fnEncodedIsReadUptoRow.inPlace==Tryz.pinned.checked.prog.inPlace 8))=true:=by kernel_rfl
theorem tc10:((Rows.fnEncodedIsReadUptoRow.unfollowed==Tryz.pinned.checked.prog.unfollowed 8))=true:=by kernel_rfl
theorem tc11:((Rows.fnEncodedIsReadUptoRow.recurses==Tryz.pinned.checked.prog.recurses 8))=true:=by kernel_rfl
theorem tc12:((Rows.fnEncodedIsReadUptoRow.named==Tryz.pinned.checked.prog.varsNamed 8))=true:=by kernel_rfl
end Go.Proofs.YtgfcnjfmmjcodaaGreatDoor.fnEncodedIsRead
