/- FnChangedByteIsTold. -/
import Derived.Test.YtgfcnjfmmjcodaaGreatDoorM44
set_option linter.all false
set_option maxRecDepth 100000
namespace Go.Proofs.YtgfcnjfmmjcodaaGreatDoor.fnChangedByteIsTold
open Go Go.ChangeShapes Go.WideShapes Go.ChangeAt Go.RowKit
set_option maxRecDepth 100000
set_option maxHeartbeats 40000000
theorem tc13 : ((Rows.fnChangedByteIsToldUptoRow.maps == (Tryz.f3.params.toList ++ (Rows.OpenSpec.upto Rows.fnChangedByteIsToldSpec).bare.plain.varTypes Tryz.pinned.checked.prog).any (Tryz.pinned.checked.prog.mapsRec ·))) = true := by kernel_rfl
theorem tc14 : ((Rows.fnChangedByteIsToldUptoRow.ifaces == (Tryz.f3.params.toList ++ (Rows.OpenSpec.upto Rows.fnChangedByteIsToldSpec).bare.plain.varTypes Tryz.pinned.checked.prog).any (Tryz.pinned.checked.prog.ifacesRec ·))) = true := by kernel_rfl
theorem tc15 : ((Rows.fnChangedByteIsToldUptoRow.mapsOut == Tryz.pinned.checked.prog.mapsAmong Tryz.f3.resultTypes.toList)) = true := by kernel_rfl
theorem tc16 : ((Rows.fnChangedByteIsToldUptoRow.loops == (Tryz.f3.params.toList ++ (Rows.OpenSpec.upto Rows.fnChangedByteIsToldSpec).bare.plain.varTypes Tryz.pinned.checked.prog).any (Tryz.pinned.checked.prog.loopsFrom ·))) = true := by kernel_rfl
theorem tc17 : ((Rows.fnChangedByteIsToldUptoRow.wideKeys == (Tryz.f3.params.toList ++ (Rows.OpenSpec.upto Rows.fnChangedByteIsToldSpec).bare.plain.varTypes Tryz.pinned.checked.prog ++ Tryz.f3.resultTypes.toList).any (Tryz.pinned.checked.prog.wideKeysFrom ·))) = true := by kernel_rfl
theorem tc18 : ((Rows.OpenSpec.upto Rows.fnChangedByteIsToldSpec).bare.vars.all (Tryz.pinned.checked.prog.varReadable ·)) = true := by kernel_rfl
theorem tc19 : (Tryz.f3.resultTypes.all (fun t => Tryz.pinned.checked.prog.readableRec t && decide (t < Tryz.pinned.checked.prog.types.size))) = true := by kernel_rfl
theorem tc20 : ((Rows.fnChangedByteIsToldUptoRow.ifacesOut == Tryz.f3.resultTypes.toList.any (Tryz.pinned.checked.prog.ifacesRec ·))) = true := by kernel_rfl
theorem tc21 : ((Rows.fnChangedByteIsToldUptoRow.loopsOut == Tryz.f3.resultTypes.toList.any (Tryz.pinned.checked.prog.loopsFrom ·))) = true := by kernel_rfl
theorem tc22 : ((Rows.fnChangedByteIsToldUptoRow.plainKeys == Tryz.pinned.checked.prog.plainKeys)) = true := by kernel_rfl
theorem tc23 : (Rows.fnChangedByteIsToldUptoRow.shortTexts.isNone) = true := by kernel_rfl
end Go.Proofs.YtgfcnjfmmjcodaaGreatDoor.fnChangedByteIsTold
