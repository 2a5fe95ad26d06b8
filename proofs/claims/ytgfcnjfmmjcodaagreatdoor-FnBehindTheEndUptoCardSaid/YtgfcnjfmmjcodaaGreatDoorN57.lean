/- FnBehindTheEnd. -/
import Derived.Test.YtgfcnjfmmjcodaaGreatDoorN43
set_option linter.all false
set_option maxRecDepth 100000
set_option maxHeartbeats 1000000
open Go.Lib (hid)
namespace Go.Proofs.YtgfcnjfmmjcodaaGreatDoor.fnBehindTheEnd
open Go Go.ChangeShapes Go.WideShapes Go.ChangeAt Go.RowKit
set_option maxRecDepth 100000
set_option maxHeartbeats 40000000
theorem tc24:(Tryz.pinned.checked.prog.stopsHeard)=true:=by kernel_rfl
theorem tc25:(Tryz.pinned.checked.prog.mayEnter)=true:=by kernel_rfl
theorem tc26:((Rows.fnBehindTheEndUptoRow.lifted==Tryz.pinned.checked.prog.liftsFinal))=true:=by kernel_rfl
theorem tc27:((Tryz.pinned.checked.prog.make==some Rows.fnBehindTheEndUptoRow.make))=true:=by kernel_rfl
theorem tc28:((Rows.fnBehindTheEndUptoRow.kinds==(if Rows.fnBehindTheEndUptoRow.domain.isEmpty then [] else Tryz.f6.params.toList.map fun t=>match Tryz.pinned.checked.prog.underlying t with|some (.int k)=>some k|_=>none)))=true:=by kernel_rfl
theorem tc29:((Rows.fnBehindTheEndUptoRow.pinned==Rows.fnBehindTheEndUptoRow.pinnedBy))=true:=by kernel_rfl
theorem tc30:((Rows.fnBehindTheEndUptoRow.veiled==(Tryz.f6.params.toList++(Rows.OpenSpec.upto Rows.fnBehindTheEndSpec).bare.plain.varTypes Tryz.pinned.checked.prog++Tryz.f6.resultTypes.toList).any (Tryz.pinned.checked.prog.veiledRec ·)))=true:=by kernel_rfl
theorem tc31:(Rows.fnBehindTheEndUptoRow.veiledFits Tryz.pinned.checked.prog Tryz.f6.params.toList (Tryz.f6.params.toList++(Rows.OpenSpec.upto Rows.fnBehindTheEndSpec).bare.plain.varTypes Tryz.pinned.checked.prog++Tryz.f6.resultTypes.toList))=true:=by kernel_rfl
end Go.Proofs.YtgfcnjfmmjcodaaGreatDoor.fnBehindTheEnd
