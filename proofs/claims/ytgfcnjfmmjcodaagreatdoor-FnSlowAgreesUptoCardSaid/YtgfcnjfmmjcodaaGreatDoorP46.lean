/- FnSlowAgrees. -/
import Derived.Test.YtgfcnjfmmjcodaaGreatDoorP35
set_option linter.all false
set_option maxRecDepth 100000
set_option maxHeartbeats 1000000
open Go.Lib (hid)
namespace Go.Proofs.YtgfcnjfmmjcodaaGreatDoor.fnSlowAgrees
open Go Go.ChangeShapes Go.WideShapes Go.ChangeAt Go.RowKit
set_option maxRecDepth 100000
set_option maxHeartbeats 40000000
theorem Bjj:(Tryz.pinned.checked.prog.stopsHeard)=true:=by kernel_rfl
theorem Bjk:(Tryz.pinned.checked.prog.mayEnter)=true:=by kernel_rfl
theorem Bjl:((Rows.fnSlowAgreesUptoRow.lifted==Tryz.pinned.checked.prog.liftsFinal))=true:=by kernel_rfl
theorem Bjm:((Tryz.pinned.checked.prog.make==some Rows.fnSlowAgreesUptoRow.make))=true:=by kernel_rfl
theorem Bjn:((Rows.fnSlowAgreesUptoRow.kinds==(if Rows.fnSlowAgreesUptoRow.domain.isEmpty then [] else Tryz.f11.params.toList.map fun t=>match Tryz.pinned.checked.prog.underlying t with|some (.int k)=>some k|_=>none)))=true:=by kernel_rfl
theorem Bjo:((Rows.fnSlowAgreesUptoRow.pinned==Rows.fnSlowAgreesUptoRow.pinnedBy))=true:=by kernel_rfl
theorem Bjp:((Rows.fnSlowAgreesUptoRow.veiled==(Tryz.f11.params.toList++(Rows.OpenSpec.upto Rows.fnSlowAgreesSpec).bare.plain.varTypes Tryz.pinned.checked.prog++Tryz.f11.resultTypes.toList).any (Tryz.pinned.checked.prog.veiledRec ·)))=true:=by kernel_rfl
theorem Bjq:(Rows.fnSlowAgreesUptoRow.veiledFits Tryz.pinned.checked.prog Tryz.f11.params.toList (Tryz.f11.params.toList++(Rows.OpenSpec.upto Rows.fnSlowAgreesSpec).bare.plain.varTypes Tryz.pinned.checked.prog++Tryz.f11.resultTypes.toList))=true:=by kernel_rfl
end Go.Proofs.YtgfcnjfmmjcodaaGreatDoor.fnSlowAgrees
