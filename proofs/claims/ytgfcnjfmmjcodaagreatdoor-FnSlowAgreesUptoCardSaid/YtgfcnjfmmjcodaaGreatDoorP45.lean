/- FnSlowAgrees. -/
import Derived.Test.YtgfcnjfmmjcodaaGreatDoorP35
set_option linter.all false
set_option maxRecDepth 100000
set_option maxHeartbeats 1000000
open Go.Lib (hid)
namespace Go.Proofs.YtgfcnjfmmjcodaaGreatDoor.fnSlowAgrees
open Go Go.ChangeShapes Go.WideShapes Go.ChangeAt Go.RowKit
set_option maxRecDepth 100000
set_option maxHeartbeats 40000000
theorem Bi8:((Rows.fnSlowAgreesUptoRow.maps==(Tryz.f11.params.toList++(Rows.OpenSpec.upto Rows.fnSlowAgreesSpec).bare.plain.varTypes Tryz.pinned.checked.prog).any (Tryz.pinned.checked.prog.mapsRec ·)))=true:=by kernel_rfl
theorem Bi9:((Rows.fnSlowAgreesUptoRow.ifaces==(Tryz.f11.params.toList++(Rows.OpenSpec.upto Rows.fnSlowAgreesSpec).bare.plain.varTypes Tryz.pinned.checked.prog).any (Tryz.pinned.checked.prog.ifacesRec ·)))=true:=by kernel_rfl
theorem Bja:((Rows.fnSlowAgreesUptoRow.mapsOut==Tryz.pinned.checked.prog.mapsAmong Tryz.f11.resultTypes.toList))=true:=by kernel_rfl
theorem Bjb:((Rows.fnSlowAgreesUptoRow.loops==(Tryz.f11.params.toList++(Rows.OpenSpec.upto Rows.fnSlowAgreesSpec).bare.plain.varTypes Tryz.pinned.checked.prog).any (Tryz.pinned.checked.prog.loopsFrom ·)))=true:=by kernel_rfl
theorem Bjc:((Rows.fnSlowAgreesUptoRow.wideKeys==(Tryz.f11.params.toList++(Rows.OpenSpec.upto Rows.fnSlowAgreesSpec).bare.plain.varTypes Tryz.pinned.checked.prog++Tryz.f11.resultTypes.toList).any (Tryz.pinned.checked.prog.wideKeysFrom ·)))=true:=by kernel_rfl
theorem Bjd:((Rows.OpenSpec.upto Rows.fnSlowAgreesSpec).bare.vars.all (Tryz.pinned.checked.prog.varReadable ·))=true:=by kernel_rfl
theorem Bje:(Tryz.f11.resultTypes.all (fun t=>Tryz.pinned.checked.prog.readableRec t&&decide (t<Tryz.pinned.checked.prog.types.size)))=true:=by kernel_rfl
theorem Bjf:((Rows.fnSlowAgreesUptoRow.ifacesOut==Tryz.f11.resultTypes.toList.any (Tryz.pinned.checked.prog.ifacesRec ·)))=true:=by kernel_rfl
theorem Bjg:((Rows.fnSlowAgreesUptoRow.loopsOut==Tryz.f11.resultTypes.toList.any (Tryz.pinned.checked.prog.loopsFrom ·)))=true:=by kernel_rfl
theorem Bjh:((Rows.fnSlowAgreesUptoRow.plainKeys==Tryz.pinned.checked.prog.plainKeys))=true:=by kernel_rfl
theorem Bji:(Rows.fnSlowAgreesUptoRow.shortTexts.isNone)=true:=by kernel_rfl
end Go.Proofs.YtgfcnjfmmjcodaaGreatDoor.fnSlowAgrees
