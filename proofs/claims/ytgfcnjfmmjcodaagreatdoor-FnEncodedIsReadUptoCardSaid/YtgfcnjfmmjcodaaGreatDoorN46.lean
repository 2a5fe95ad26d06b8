/- FnEncodedIsRead. -/
import Derived.Test.YtgfcnjfmmjcodaaGreatDoorN43
set_option linter.all false
set_option maxRecDepth 100000
set_option maxHeartbeats 1000000
open Go.Lib (hid)
namespace Go.Proofs.YtgfcnjfmmjcodaaGreatDoor.fnEncodedIsRead
open Go Go.ChangeShapes Go.WideShapes Go.ChangeAt Go.RowKit
set_option maxRecDepth 100000
set_option maxHeartbeats 40000000
theorem tc13:((Rows.fnEncodedIsReadUptoRow.maps==(Tryz.f8.params.toList++(Rows.OpenSpec.upto Rows.fnEncodedIsReadSpec).bare.plain.varTypes Tryz.pinned.checked.prog).any (Tryz.pinned.checked.prog.mapsRec ·)))=true:=by kernel_rfl
theorem tc14:((Rows.fnEncodedIsReadUptoRow.ifaces==(Tryz.f8.params.toList++(Rows.OpenSpec.upto Rows.fnEncodedIsReadSpec).bare.plain.varTypes Tryz.pinned.checked.prog).any (Tryz.pinned.checked.prog.ifacesRec ·)))=true:=by kernel_rfl
theorem tc15:((Rows.fnEncodedIsReadUptoRow.mapsOut==Tryz.pinned.checked.prog.mapsAmong Tryz.f8.resultTypes.toList))=true:=by kernel_rfl
theorem tc16:((Rows.fnEncodedIsReadUptoRow.loops==(Tryz.f8.params.toList++(Rows.OpenSpec.upto Rows.fnEncodedIsReadSpec).bare.plain.varTypes Tryz.pinned.checked.prog).any (Tryz.pinned.checked.prog.loopsFrom ·)))=true:=by kernel_rfl
theorem tc17:((Rows.fnEncodedIsReadUptoRow.wideKeys==(Tryz.f8.params.toList++(Rows.OpenSpec.upto Rows.fnEncodedIsReadSpec).bare.plain.varTypes Tryz.pinned.checked.prog++Tryz.f8.resultTypes.toList).any (Tryz.pinned.checked.prog.wideKeysFrom ·)))=true:=by kernel_rfl
theorem tc18:((Rows.OpenSpec.upto Rows.fnEncodedIsReadSpec).bare.vars.all (Tryz.pinned.checked.prog.varReadable ·))=true:=by kernel_rfl
theorem tc19:(Tryz.f8.resultTypes.all (fun t=>Tryz.pinned.checked.prog.readableRec t&&decide (t<Tryz.pinned.checked.prog.types.size)))=true:=by kernel_rfl
theorem tc20:((Rows.fnEncodedIsReadUptoRow.ifacesOut==Tryz.f8.resultTypes.toList.any (Tryz.pinned.checked.prog.ifacesRec ·)))=true:=by kernel_rfl
theorem tc21:((Rows.fnEncodedIsReadUptoRow.loopsOut==Tryz.f8.resultTypes.toList.any (Tryz.pinned.checked.prog.loopsFrom ·)))=true:=by kernel_rfl
theorem tc22:((Rows.fnEncodedIsReadUptoRow.plainKeys==Tryz.pinned.checked.prog.plainKeys))=true:=by kernel_rfl
theorem tc23:(Rows.fnEncodedIsReadUptoRow.shortTexts.isNone)=true:=by kernel_rfl
end Go.Proofs.YtgfcnjfmmjcodaaGreatDoor.fnEncodedIsRead
