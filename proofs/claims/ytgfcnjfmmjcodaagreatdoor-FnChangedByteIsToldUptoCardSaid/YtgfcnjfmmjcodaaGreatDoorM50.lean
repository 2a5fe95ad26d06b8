/- FnChangedByteIsTold. -/
import Derived.Test.YtgfcnjfmmjcodaaGreatDoorM44
set_option linter.all false
set_option maxRecDepth 100000
namespace Go.Proofs.YtgfcnjfmmjcodaaGreatDoor.fnChangedByteIsTold
open Go Go.ChangeShapes Go.WideShapes Go.ChangeAt Go.RowKit
set_option maxRecDepth 100000
set_option maxHeartbeats 40000000
theorem tc24 : (Tryz.pinned.checked.prog.stopsHeard) = true := by kernel_rfl
theorem tc25 : (Tryz.pinned.checked.prog.mayEnter) = true := by kernel_rfl
theorem tc26 : ((Rows.fnChangedByteIsToldUptoRow.lifted == Tryz.pinned.checked.prog.liftsFinal)) = true := by kernel_rfl
theorem tc27 : ((Tryz.pinned.checked.prog.make == some Rows.fnChangedByteIsToldUptoRow.make)) = true := by kernel_rfl
theorem tc28 : ((Rows.fnChangedByteIsToldUptoRow.kinds == (if Rows.fnChangedByteIsToldUptoRow.domain.isEmpty then [] else Tryz.f3.params.toList.map fun t => match Tryz.pinned.checked.prog.underlying t with | some (.int k) => some k | _ => none))) = true := by kernel_rfl
theorem tc29 : ((Rows.fnChangedByteIsToldUptoRow.pinned == Rows.fnChangedByteIsToldUptoRow.pinnedBy)) = true := by kernel_rfl
theorem tc30 : ((Rows.fnChangedByteIsToldUptoRow.veiled == (Tryz.f3.params.toList ++ (Rows.OpenSpec.upto Rows.fnChangedByteIsToldSpec).bare.plain.varTypes Tryz.pinned.checked.prog ++ Tryz.f3.resultTypes.toList).any (Tryz.pinned.checked.prog.veiledRec ·))) = true := by kernel_rfl
theorem tc31 : (Rows.fnChangedByteIsToldUptoRow.veiledFits Tryz.pinned.checked.prog Tryz.f3.params.toList (Tryz.f3.params.toList ++ (Rows.OpenSpec.upto Rows.fnChangedByteIsToldSpec).bare.plain.varTypes Tryz.pinned.checked.prog ++ Tryz.f3.resultTypes.toList)) = true := by kernel_rfl
end Go.Proofs.YtgfcnjfmmjcodaaGreatDoor.fnChangedByteIsTold
