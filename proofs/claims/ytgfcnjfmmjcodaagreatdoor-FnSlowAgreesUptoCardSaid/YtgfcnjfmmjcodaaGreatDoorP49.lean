/- FnSlowAgrees. -/
import Derived.Test.YtgfcnjfmmjcodaaGreatDoorP48
set_option linter.all false
set_option maxRecDepth 100000
set_option maxHeartbeats 1000000
open Go.Lib (hid)
namespace Go.Proofs.YtgfcnjfmmjcodaaGreatDoor.fnSlowAgrees
open Go Go.ChangeShapes Go.WideShapes Go.ChangeAt Go.RowKit
def wArgs:Array Value:= #[.slice none 0 0, .slice none 0 0, .int .i64 0, .int .i64 0, .slice none 0 0]
theorem Bhm {W:World}(h:laidMet Tryz.prog Rows.fnSlowAgreesUptoRow.laid W):laidMetH Tryz.prog Rows.fnSlowAgreesUptoRow.laid W:=by
 have e:(Rows.fnSlowAgreesUptoRow.laid.filter fun x=>x.2.handleName?.isSome)=[]:=by kernel_rfl
 unfold laidMetH;rw[e];exact h
theorem Bif (os:Os):laidMet Tryz.prog Rows.fnSlowAgreesUptoRow.laid ((Bfs os).forCall (fun _ _=>0) ⟨#[],wArgs,[]⟩).memory:=
 laidMet_of_run' 8 (by kernel_rfl) (by kernel_rfl)
end Go.Proofs.YtgfcnjfmmjcodaaGreatDoor.fnSlowAgrees
