/- FnEncodedIsRead. -/
import Derived.Test.YtgfcnjfmmjcodaaGreatDoorN49
set_option linter.all false
set_option maxRecDepth 100000
set_option maxHeartbeats 1000000
open Go.Lib (hid)
namespace Go.Proofs.YtgfcnjfmmjcodaaGreatDoor.fnEncodedIsRead
open Go Go.ChangeShapes Go.WideShapes Go.ChangeAt Go.RowKit
def wData {H:Type}:List (DataW H):=[.nil, .nil]
theorem reads (os:Os){H:Type}(enc:TypeId × Value→H):∃places,DataW.whole enc Tryz.prog ((laidWorld os).forCall (fun _ _=>0) ⟨#[],wArgs,[]⟩).memory Tryz.f8.params.toList Rows.fnEncodedIsReadSpec.vars false wArgs.toList 8=some (wData,[],places):=
 ⟨[],by kernel_rfl⟩
theorem liftedUpto (os:Os)(started:os.Started)(H:Type)(enc:TypeId × Value→H)(F:Stop.Interp) :
  ReturnsInHanded {} Tryz.checked os 8 .any ((Rows.OpenSpec.upto Rows.fnEncodedIsReadSpec).preRow enc Tryz.prog Tryz.f8 Rows.fnEncodedIsReadUptoRow.domain false Rows.fnEncodedIsReadUptoRow.laid) (((Rows.OpenSpec.upto Rows.fnEncodedIsReadSpec).at F).post enc Tryz.prog Tryz.f8 false true false false):=by
 obtain⟨places,hx⟩:=reads os enc
 refine returnsInHanded_of_row (C:=Tryz.checked) (s:=Rows.OpenSpec.upto Rows.fnEncodedIsReadSpec) ownNone started (by kernel_rfl) Tryz.func8
  (witness_row_at (enc:=enc) (C:=Tryz.checked) false (laidWorld os) wArgs rfl (by kernel_rfl) (by kernel_rfl) (by kernel_rfl)
   (OpenSpec.preRow_of_cond 8 hx (by kernel_rfl) (fun k hk=>by cases hk;kernel_rfl) (by kernel_rfl) (laid_handles (laid_met os)))) ?_
 intro W base args ds gs before hval hW _ hcond _ hL _ _
 exact contract H enc W base args ds gs before hval hW hL (hcond _ rfl)
end Go.Proofs.YtgfcnjfmmjcodaaGreatDoor.fnEncodedIsRead
