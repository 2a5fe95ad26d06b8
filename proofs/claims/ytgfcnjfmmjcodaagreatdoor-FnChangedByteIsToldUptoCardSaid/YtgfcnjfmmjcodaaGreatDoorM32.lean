/- The type of errors that errors.New makes. -/
import Derived.LaidLaws
import Derived.Test.YtgfcnjfmmjcodaaGreatDoorM01
set_option linter.all false
set_option maxRecDepth 100000
namespace Go.Proofs.YtgfcnjfmmjcodaaGreatDoor
open Go Go.RowKit
theorem c90 : Tryz.prog.cellsOf 329 = 1 := by kernel_rfl
theorem c9' : Tryz.prog.cellsOf 9 = 1 := by kernel_rfl
theorem star_err : "*" ++ "errors.errorString" = "*errors.errorString" := by decide
theorem row327 (u : TypeId) (h : Tryz.prog.typeName? 3 u = some "*errors.errorString") : u = 327 :=
 typeName_ptr_named (nm := "errors.errorString") (by rw [star_err]; kernel_rfl) (by kernel_rfl) (by decide) u (by rw [star_err]; exact h)
end Go.Proofs.YtgfcnjfmmjcodaaGreatDoor
