/- FnBehindTheEnd. -/
import Derived.Test.YtgfcnjfmmjcodaaGreatDoorN58
set_option linter.all false
set_option maxRecDepth 100000
set_option maxHeartbeats 1000000
open Go.Lib (hid)
namespace Go.Proofs.YtgfcnjfmmjcodaaGreatDoor.fnBehindTheEnd
open Go Go.ChangeShapes Go.WideShapes Go.ChangeAt Go.RowKit
def wArgs:Array Value:= #[.slice none 0 0, .slice none 0 0, .slice none 0 0]
theorem laid_handles {W:World}(h:laidMet Tryz.prog Rows.fnBehindTheEndUptoRow.laid W):laidMetH Tryz.prog Rows.fnBehindTheEndUptoRow.laid W:=by
 have e:(Rows.fnBehindTheEndUptoRow.laid.filter fun x=>x.2.handleName?.isSome)=[]:=by kernel_rfl
 unfold laidMetH
 rw[e]
 exact h
theorem laid_met (os:Os):laidMet Tryz.prog Rows.fnBehindTheEndUptoRow.laid ((laidWorld os).forCall (fun _ _=>0) ⟨#[],wArgs,[]⟩).memory:=
 laidMet_of_run' 8 (by kernel_rfl) (by kernel_rfl)
end Go.Proofs.YtgfcnjfmmjcodaaGreatDoor.fnBehindTheEnd
