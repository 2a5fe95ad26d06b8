/- FnBehindTheEnd. -/
import Derived.Test.YtgfcnjfmmjcodaaGreatDoorN43
set_option linter.all false
set_option maxRecDepth 100000
set_option maxHeartbeats 1000000
open Go.Lib (hid)
namespace Go.Proofs.YtgfcnjfmmjcodaaGreatDoor.fnBehindTheEnd
open Go Go.ChangeShapes Go.WideShapes Go.ChangeAt Go.RowKit
set_option maxRecDepth 100000
set_option maxHeartbeats 40000000
theorem tc9:((Rows.fnBehindTheEndUptoRow.inPlace==Tryz.pinned.checked.prog.inPlace 6))=true:=by kernel_rfl
theorem tc10:((Rows.fnBehindTheEndUptoRow.unfollowed==Tryz.pinned.checked.prog.unfollowed 6))=true:=by kernel_rfl
theorem tc11:((Rows.fnBehindTheEndUptoRow.recurses==Tryz.pinned.checked.prog.recurses 6))=true:=by kernel_rfl
theorem tc12:((Rows.fnBehindTheEndUptoRow.named==Tryz.pinned.checked.prog.varsNamed 6))=true:=by kernel_rfl
end Go.Proofs.YtgfcnjfmmjcodaaGreatDoor.fnBehindTheEnd
