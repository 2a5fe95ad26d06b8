/- FnEncodedIsRead. -/
import Derived.Test.YtgfcnjfmmjcodaaGreatDoorN44
import Derived.Test.YtgfcnjfmmjcodaaGreatDoorN45
import Derived.Test.YtgfcnjfmmjcodaaGreatDoorN46
import Derived.Test.YtgfcnjfmmjcodaaGreatDoorN47
set_option linter.all false
set_option maxRecDepth 100000
set_option maxHeartbeats 1000000
open Go.Lib (hid)
namespace Go.Proofs.YtgfcnjfmmjcodaaGreatDoor.fnEncodedIsRead
open Go Go.ChangeShapes Go.WideShapes Go.ChangeAt Go.RowKit
theorem and2' {a b:Bool}(h:a=true)(h':b=true):(a&&b)=true:=by rw[h,h'];rfl
theorem t_closed:joinedFacts Tryz.pinned.checked.prog 8 Tryz.f8 (Rows.OpenSpec.upto Rows.fnEncodedIsReadSpec).bare Rows.fnEncodedIsReadUptoRow=true:=by
 unfold joinedFacts
 exact and2' (and2' (and2' (and2' (and2' (and2' (and2' (and2' (and2' (and2' (and2' (and2' (and2' (and2' (and2' (and2' (and2' (and2' (and2' (and2' (and2' (and2' (and2' (and2' (and2' (and2' (and2' (and2' (and2' (and2' (and2' (tc0) tc1) tc2) tc3) tc4) tc5) tc6) tc7) tc8) tc9) tc10) tc11) tc12) tc13) tc14) tc15) tc16) tc17) tc18) tc19) tc20) tc21) tc22) tc23) tc24) tc25) tc26) tc27) tc28) tc29) tc30) tc31
theorem t_named:Tryz.pinned.checked.prog.funcNamed Rows.fnEncodedIsReadUptoRow.func=some 8:=by kernel_rfl
theorem t_inst:Tryz.f8.isInstance Tryz.pinned.checked.prog Rows.fnEncodedIsReadUptoRow.origin Rows.fnEncodedIsReadUptoRow.targs:=of_decide_eq_true (by kernel_rfl)
theorem t_wrap:Tryz.f8.isWrapper Tryz.pinned.checked.prog Rows.fnEncodedIsReadUptoRow.wrapper Rows.fnEncodedIsReadUptoRow.mainSum:=by unfold Func.isWrapper;first|(rw[if_pos (by decide +kernel)];kernel_rfl)|(rw[if_neg (by decide +kernel)];exact⟨rfl,rfl⟩)
theorem t_looks:true=Tryz.pinned.checked.prog.looks []:=by kernel_rfl
theorem plain (f:FuncId)(fn:Func)(hf:Tryz.pinned.checked.prog.funcNamed Rows.fnEncodedIsReadUptoRow.func=some f)(hfn:Tryz.pinned.checked.prog.funcs[f]?=some fn) :
  true=Tryz.pinned.checked.prog.looks []∧∀(j:Nat) t,fn.params[j]?=some t→Tryz.pinned.checked.prog.wantsStandIn t=false:=by
 obtain rfl:f=8:=Option.some.inj (t_named.symm.trans hf) |>.symm
 obtain rfl:fn=Tryz.f8:=(Option.some.inj (Tryz.func8.symm.trans hfn)).symm
 refine⟨t_looks,fun j t ht=>?_⟩
 rw[Tryz.params8] at ht
 have hm:=Array.mem_of_getElem? ht
 simp only[List.mem_toArray,List.mem_cons,List.not_mem_nil,or_false] at hm
 rcases hm with rfl|rfl
 ·exact(show Tryz.prog.wantsStandIn 35=false by kernel_rfl)
 ·exact(show Tryz.prog.wantsStandIn 30=false by kernel_rfl)
end Go.Proofs.YtgfcnjfmmjcodaaGreatDoor.fnEncodedIsRead
