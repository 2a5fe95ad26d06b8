/- FnSlowAgrees. -/
import Derived.Test.YtgfcnjfmmjcodaaGreatDoorP35
set_option linter.all false
set_option maxRecDepth 100000
set_option maxHeartbeats 1000000
open Go.Lib (hid)
namespace Go.Proofs.YtgfcnjfmmjcodaaGreatDoor.fnSlowAgrees
open Go Go.ChangeShapes Go.WideShapes Go.ChangeAt Go.RowKit
set_option maxRecDepth 100000
set_option maxHeartbeats 40000000
theorem tc0:(Rows.fnSlowAgreesUptoRow.wf (OpenSpec.ofChange (Rows.OpenSpec.upto Rows.fnSlowAgreesSpec).bare))=true:=by kernel_rfl
theorem tc1:(laidOutB Tryz.pinned.checked.prog)=true:=by kernel_rfl
theorem tc2:(mapsRowed Tryz.pinned.checked.prog)=true:=by kernel_rfl
theorem tc3:(Tryz.f11.params.all (Tryz.pinned.checked.prog.readableRec ·))=true:=by kernel_rfl
theorem tc4:(namedTie Tryz.pinned.checked.prog Rows.fnSlowAgreesUptoRow.named (Rows.OpenSpec.upto Rows.fnSlowAgreesSpec).bare.vars)=true:=by kernel_rfl
theorem tc5:((Rows.fnSlowAgreesUptoRow.stops==[]))=true:=by kernel_rfl
theorem tc6:((Tryz.pinned.checked.prog.stops==[]))=true:=by kernel_rfl
theorem tc7:((Rows.fnSlowAgreesUptoRow.knobs==[]))=true:=by kernel_rfl
theorem tc8:((Tryz.pinned.checked.prog.stopKnobs==[]))=true:=by kernel_rfl
end Go.Proofs.YtgfcnjfmmjcodaaGreatDoor.fnSlowAgrees
