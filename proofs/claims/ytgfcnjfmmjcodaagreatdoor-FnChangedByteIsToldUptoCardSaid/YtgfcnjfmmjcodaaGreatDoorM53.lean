/- FnChangedByteIsTold. -/
import Derived.Test.YtgfcnjfmmjcodaaGreatDoorM49
import Derived.Test.YtgfcnjfmmjcodaaGreatDoorM50
import Derived.Test.YtgfcnjfmmjcodaaGreatDoorM51
import Derived.Test.YtgfcnjfmmjcodaaGreatDoorM52
set_option linter.all false
set_option maxRecDepth 100000
namespace Go.Proofs.YtgfcnjfmmjcodaaGreatDoor.fnChangedByteIsTold
open Go Go.ChangeShapes Go.WideShapes Go.ChangeAt Go.RowKit
theorem and2' {a b : Bool} (h : a = true) (h' : b = true) : (a && b) = true := by rw [h, h']; rfl
theorem t_closed : joinedFacts Tryz.pinned.checked.prog 3 Tryz.f3 (Rows.OpenSpec.upto Rows.fnChangedByteIsToldSpec).bare Rows.fnChangedByteIsToldUptoRow = true := by
 unfold joinedFacts
 exact and2' (and2' (and2' (and2' (and2' (and2' (and2' (and2' (and2' (and2' (and2' (and2' (and2' (and2' (and2' (and2' (and2' (and2' (and2' (and2' (and2' (and2' (and2' (and2' (and2' (and2' (and2' (and2' (and2' (and2' (and2' (tc0) tc1) tc2) tc3) tc4) tc5) tc6) tc7) tc8) tc9) tc10) tc11) tc12) tc13) tc14) tc15) tc16) tc17) tc18) tc19) tc20) tc21) tc22) tc23) tc24) tc25) tc26) tc27) tc28) tc29) tc30) tc31
end Go.Proofs.YtgfcnjfmmjcodaaGreatDoor.fnChangedByteIsTold
