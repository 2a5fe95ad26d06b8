/- FnSlowAgrees. -/
import Derived.Test.YtgfcnjfmmjcodaaGreatDoorP49
set_option linter.all false
set_option maxRecDepth 100000
set_option maxHeartbeats 1000000
open Go.Lib (hid)
namespace Go.Proofs.YtgfcnjfmmjcodaaGreatDoor.fnSlowAgrees
open Go Go.ChangeShapes Go.WideShapes Go.ChangeAt Go.RowKit
def Bi4 {H:Type}:List (DataW H):=[.nil, .nil, .lit (.int .i64 0), .lit (.int .i64 0), .nil]
theorem reads (os:Os){H:Type}(enc:TypeId × Value→H):∃places,DataW.whole enc Tryz.prog ((Bfs os).forCall (fun _ _=>0) ⟨#[],wArgs,[]⟩).memory Tryz.f11.params.toList Rows.fnSlowAgreesSpec.vars false wArgs.toList 8=some (Bi4,[],places):=
 ⟨[],by kernel_rfl⟩
theorem Bhy (os:Os)(started:os.Started)(H:Type)(enc:TypeId × Value→H)(F:Stop.Interp) :
  ReturnsInHanded {} Tryz.checked os 11 .any ((Rows.OpenSpec.upto Rows.fnSlowAgreesSpec).preRow enc Tryz.prog Tryz.f11 Rows.fnSlowAgreesUptoRow.domain false Rows.fnSlowAgreesUptoRow.laid) (((Rows.OpenSpec.upto Rows.fnSlowAgreesSpec).at F).post enc Tryz.prog Tryz.f11 false true false false):=by
 obtain⟨places,hx⟩:=reads os enc
 refine returnsInHanded_of_row (C:=Tryz.checked) (s:=Rows.OpenSpec.upto Rows.fnSlowAgreesSpec) Bgj started (by kernel_rfl) Tryz.func11
  (witness_row_at (enc:=enc) (C:=Tryz.checked) false (Bfs os) wArgs rfl (by kernel_rfl) (by kernel_rfl) (by kernel_rfl)
   (OpenSpec.preRow_of_cond 8 hx (by kernel_rfl) (fun k hk=>by cases hk;kernel_rfl) (by kernel_rfl) (Bhm (Bif os)))) ?_
 intro W base args ds gs before hval hW _ hcond _ hL _ _;exact Bie H enc W base args ds gs before hval hW hL (hcond _ rfl)
end Go.Proofs.YtgfcnjfmmjcodaaGreatDoor.fnSlowAgrees
