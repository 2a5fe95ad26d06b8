/- FnChangedByteIsTold. -/
import Derived.Test.YtgfcnjfmmjcodaaGreatDoorM46
set_option linter.all false
set_option maxRecDepth 100000
set_option maxHeartbeats 1000000
namespace Go.Proofs.YtgfcnjfmmjcodaaGreatDoor.fnChangedByteIsTold
open Go Go.ChangeShapes Go.WideShapes Go.ChangeAt Go.RowKit
def wData {H : Type} : List (DataW H) :=
 [.agg [.agg [.lit (.int .u8 0), .lit (.string []), .lit (.string []), .lit (.int .i64 0), .lit (.int .i64 0), .lit (.int .i64 0), .lit (.int .i64 0), .lit (.string []), .lit (.string []), .agg [.lit (.int .i64 0), .lit (.int .i64 0)], .lit (.bool false),
  .agg [.lit (.int .i64 0), .lit (.int .i64 0)], .lit (.bool false), .agg [.lit (.int .i64 0), .lit (.int .i64 0)], .lit (.int .i64 0), .lit (.int .i64 0), .nil, .lit (.int .i64 0)], .nil, .lit (.int .i64 0)], .nil, .lit (.int .i64 0), .lit (.int .u8 0)]
theorem reads (os : Os) {H : Type} (enc : TypeId × Value → H) : ∃ places, DataW.whole enc Tryz.prog ((laidWorld os).forCall (fun _ _ => 0) ⟨#[], wArgs, []⟩).memory Tryz.f3.params.toList Rows.fnChangedByteIsToldSpec.vars false wArgs.toList 8 = some (wData, [], places) :=
 ⟨[], by kernel_rfl⟩
theorem liftedUpto (os : Os) (started : os.Started) (H : Type) (enc : TypeId × Value → H) (F : Stop.Interp) :
  ReturnsInHanded {} Tryz.checked os 3 .any ((Rows.OpenSpec.upto Rows.fnChangedByteIsToldSpec).preRow enc Tryz.prog Tryz.f3 Rows.fnChangedByteIsToldUptoRow.domain false Rows.fnChangedByteIsToldUptoRow.laid) (((Rows.OpenSpec.upto Rows.fnChangedByteIsToldSpec).at F).post enc Tryz.prog Tryz.f3 false true false false) := by
 obtain ⟨places, hx⟩ := reads os enc
 refine returnsInHanded_of_row (C := Tryz.checked) (s := Rows.OpenSpec.upto Rows.fnChangedByteIsToldSpec) ownNone started (by kernel_rfl) Tryz.func3
  (witness_row_at (enc := enc) (C := Tryz.checked) false (laidWorld os) wArgs rfl (by kernel_rfl) (by kernel_rfl) (by kernel_rfl)
   (OpenSpec.preRow_of_cond 8 hx (by kernel_rfl) (fun k hk => by cases hk; kernel_rfl) (by kernel_rfl) (laid_handles (laid_met os)))) ?_
 intro W base args ds gs before hval hW _ hcond _ hL _ _
 exact contract H enc W base args ds gs before hval hW hL (hcond _ rfl)
end Go.Proofs.YtgfcnjfmmjcodaaGreatDoor.fnChangedByteIsTold
