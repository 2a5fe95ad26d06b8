/- FnSlowAgrees. -/
import Derived.Test.YtgfcnjfmmjcodaaGreatDoorP35
set_option linter.all false
set_option maxRecDepth 100000
set_option maxHeartbeats 1000000
open Go.Lib (hid)
namespace Go.Proofs.YtgfcnjfmmjcodaaGreatDoor.fnSlowAgrees
open Go Go.ChangeShapes Go.WideShapes Go.ChangeAt Go.RowKit
theorem Bjr:Rows.fnSlowAgreesUptoRow.wfByText (Rows.OpenSpec.upto Rows.fnSlowAgreesSpec)=true:=by kernel_rfl
theorem Biz : Tryz.pinned.checked.prog.mainIs = some ((true, "0a0c440cede22fa96e2efa1dfc427ce8b372a90e285fe9a5413f180d89f25b83").1, (true, "0a0c440cede22fa96e2efa1dfc427ce8b372a90e285fe9a5413f180d89f25b83").2.toList) := by kernel_rfl
theorem Bi0:false=Rows.fnSlowAgreesUptoRow.goesBy Tryz.pinned.checked.prog:=by kernel_rfl
end Go.Proofs.YtgfcnjfmmjcodaaGreatDoor.fnSlowAgrees
