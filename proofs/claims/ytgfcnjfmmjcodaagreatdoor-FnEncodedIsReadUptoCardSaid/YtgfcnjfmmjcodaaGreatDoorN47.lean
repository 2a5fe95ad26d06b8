/- FnEncodedIsRead. -/
import Derived.Test.YtgfcnjfmmjcodaaGreatDoorN43
set_option linter.all false
set_option maxRecDepth 100000
set_option maxHeartbeats 1000000
open Go.Lib (hid)
namespace Go.Proofs.YtgfcnjfmmjcodaaGreatDoor.fnEncodedIsRead
open Go Go.ChangeShapes Go.WideShapes Go.ChangeAt Go.RowKit
set_option maxRecDepth 100000
set_option maxHeartbeats 40000000
theorem tc24:(Tryz.pinned.checked.prog.stopsHeard)=true:=by kernel_rfl
theorem tc25:(Tryz.pinned.checked.prog.mayEnter)=true:=by kernel_rfl
theorem tc26:((Rows.fnEncodedIsReadUptoRow.lifted==Tryz.pinned.checked.prog.liftsFinal))=true:=by kernel_rfl
theorem tc27:((Tryz.pinned.checked.prog.make==some Rows.fnEncodedIsReadUptoRow.make))=true:=by kernel_rfl
theorem tc28:((Rows.fnEncodedIsReadUptoRow.kinds==(if Rows.fnEncodedIsReadUptoRow.domain.isEmpty then [] else Tryz.f8.params.toList.map fun t=>match Tryz.pinned.checked.prog.underlying t with|some (.int k)=>some k|_=>none)))=true:=by kernel_rfl
theorem tc29:((Rows.fnEncodedIsReadUptoRow.pinned==Rows.fnEncodedIsReadUptoRow.pinnedBy))=true:=by kernel_rfl
theorem tc30:((Rows.fnEncodedIsReadUptoRow.veiled==(Tryz.f8.params.toList++(Rows.OpenSpec.upto Rows.fnEncodedIsReadSpec).bare.plain.varTypes Tryz.pinned.checked.prog++Tryz.f8.resultTypes.toList).any (Tryz.pinned.checked.prog.veiledRec ·)))=true:=by kernel_rfl
theorem tc31:(Rows.fnEncodedIsReadUptoRow.veiledFits Tryz.pinned.checked.prog Tryz.f8.params.toList (Tryz.f8.params.toList++(Rows.OpenSpec.upto Rows.fnEncodedIsReadSpec).bare.plain.varTypes Tryz.pinned.checked.prog++Tryz.f8.resultTypes.toList))=true:=by kernel_rfl
end Go.Proofs.YtgfcnjfmmjcodaaGreatDoor.fnEncodedIsRead
