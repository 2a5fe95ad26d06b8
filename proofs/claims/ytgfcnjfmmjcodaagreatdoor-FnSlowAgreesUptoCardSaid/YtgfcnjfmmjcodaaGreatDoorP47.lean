/- FnSlowAgrees. -/
import Derived.Test.YtgfcnjfmmjcodaaGreatDoorP43
import Derived.Test.YtgfcnjfmmjcodaaGreatDoorP44
import Derived.Test.YtgfcnjfmmjcodaaGreatDoorP45
import Derived.Test.YtgfcnjfmmjcodaaGreatDoorP46
set_option linter.all false
set_option maxRecDepth 100000
set_option maxHeartbeats 1000000
open Go.Lib (hid)
namespace Go.Proofs.YtgfcnjfmmjcodaaGreatDoor.fnSlowAgrees
open Go Go.ChangeShapes Go.WideShapes Go.ChangeAt Go.RowKit
theorem Bgr {a b:Bool}(h:a=true)(h':b=true):(a&&b)=true:=by rw[h,h'];rfl
theorem Bic:joinedFacts Tryz.pinned.checked.prog 11 Tryz.f11 (Rows.OpenSpec.upto Rows.fnSlowAgreesSpec).bare Rows.fnSlowAgreesUptoRow=true:=by
 unfold joinedFacts;exact Bgr (Bgr (Bgr (Bgr (Bgr (Bgr (Bgr (Bgr (Bgr (Bgr (Bgr (Bgr (Bgr (Bgr (Bgr (Bgr (Bgr (Bgr (Bgr (Bgr (Bgr (Bgr (Bgr (Bgr (Bgr (Bgr (Bgr (Bgr (Bgr (Bgr (Bgr (tc0) tc1) tc2) tc3) tc4) tc5) tc6) tc7) tc8) tc9) Bi5) Bi6) Bi7) Bi8) Bi9) Bja) Bjb) Bjc) Bjd) Bje) Bjf) Bjg) Bjh) Bji) Bjj) Bjk) Bjl) Bjm) Bjn) Bjo) Bjp) Bjq
theorem t_named:Tryz.pinned.checked.prog.funcNamed Rows.fnSlowAgreesUptoRow.func=some 11:=by kernel_rfl
theorem Biw:Tryz.f11.isInstance Tryz.pinned.checked.prog Rows.fnSlowAgreesUptoRow.origin Rows.fnSlowAgreesUptoRow.targs:=of_decide_eq_true (by kernel_rfl)
theorem Bix:Tryz.f11.isWrapper Tryz.pinned.checked.prog Rows.fnSlowAgreesUptoRow.wrapper Rows.fnSlowAgreesUptoRow.mainSum:=by unfold Func.isWrapper;first|(rw[if_pos (by decide +kernel)];kernel_rfl)|(rw[if_neg (by decide +kernel)];exact⟨rfl,rfl⟩)
theorem Bin:true=Tryz.pinned.checked.prog.looks []:=by kernel_rfl
theorem plain (f:FuncId)(fn:Func)(hf:Tryz.pinned.checked.prog.funcNamed Rows.fnSlowAgreesUptoRow.func=some f)(hfn:Tryz.pinned.checked.prog.funcs[f]?=some fn) :
  true=Tryz.pinned.checked.prog.looks []∧∀(j:Nat) t,fn.params[j]?=some t→Tryz.pinned.checked.prog.wantsStandIn t=false:=by
 obtain rfl:f=11:=Option.some.inj (t_named.symm.trans hf) |>.symm;obtain rfl:fn=Tryz.f11:=(Option.some.inj (Tryz.func11.symm.trans hfn)).symm;refine⟨Bin,fun j t ht=>?_⟩;rw[Tryz.params11] at ht;have hm:=Array.mem_of_getElem? ht;simp only[List.mem_toArray,List.mem_cons,List.not_mem_nil,or_false] at hm;rcases hm with rfl|rfl|rfl|rfl|rfl
 ·exact(show Tryz.prog.wantsStandIn 35=false by kernel_rfl)
 ·exact(show Tryz.prog.wantsStandIn 30=false by kernel_rfl)
 ·exact(show Tryz.prog.wantsStandIn 3=false by kernel_rfl)
 ·exact(show Tryz.prog.wantsStandIn 3=false by kernel_rfl)
 ·exact(show Tryz.prog.wantsStandIn 30=false by kernel_rfl)
end Go.Proofs.YtgfcnjfmmjcodaaGreatDoor.fnSlowAgrees
