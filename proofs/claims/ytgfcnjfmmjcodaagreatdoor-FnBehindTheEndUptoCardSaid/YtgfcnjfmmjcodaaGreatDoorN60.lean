/- FnBehindTheEnd. -/
import Derived.Test.YtgfcnjfmmjcodaaGreatDoorN54
import Derived.Test.YtgfcnjfmmjcodaaGreatDoorN55
import Derived.Test.YtgfcnjfmmjcodaaGreatDoorN56
import Derived.Test.YtgfcnjfmmjcodaaGreatDoorN57
set_option linter.all false
set_option maxRecDepth 100000
set_option maxHeartbeats 1000000
open Go.Lib (hid)
namespace Go.Proofs.YtgfcnjfmmjcodaaGreatDoor.fnBehindTheEnd
open Go Go.ChangeShapes Go.WideShapes Go.ChangeAt Go.RowKit
theorem and2' {a b:Bool}(h:a=true)(h':b=true):(a&&b)=true:=by rw[h,h'];rfl
theorem t_closed:joinedFacts Tryz.pinned.checked.prog 6 Tryz.f6 (Rows.OpenSpec.upto Rows.fnBehindTheEndSpec).bare Rows.fnBehindTheEndUptoRow=true:=by
 unfold joinedFacts
 exact and2' (and2' (and2' (and2' (and2' (and2' (and2' (and2' (and2' (and2' (and2' (and2' (and2' (and2' (and2' (and2' (and2' (and2' (and2' (and2' (and2' (and2' (and2' (and2' (and2' (and2' (and2' (and2' (and2' (and2' (and2' (tc0) tc1) tc2) tc3) tc4) tc5) tc6) tc7) tc8) tc9) tc10) tc11) tc12) tc13) tc14) tc15) tc16) tc17) tc18) tc19) tc20) tc21) tc22) tc23) tc24) tc25) tc26) tc27) tc28) tc29) tc30) tc31
theorem t_named:Tryz.pinned.checked.prog.funcNamed Rows.fnBehindTheEndUptoRow.func=some 6:=by kernel_rfl
theorem t_inst:Tryz.f6.isInstance Tryz.pinned.checked.prog Rows.fnBehindTheEndUptoRow.origin Rows.fnBehindTheEndUptoRow.targs:=of_decide_eq_true (by kernel_rfl)
theorem t_wrap:Tryz.f6.isWrapper Tryz.pinned.checked.prog Rows.fnBehindTheEndUptoRow.wrapper Rows.fnBehindTheEndUptoRow.mainSum:=by unfold Func.isWrapper;first|(rw[if_pos (by decide +kernel)];kernel_rfl)|(rw[if_neg (by decide +kernel)];exact⟨rfl,rfl⟩)
theorem t_looks:true=Tryz.pinned.checked.prog.looks []:=by kernel_rfl
theorem plain (f:FuncId)(fn:Func)(hf:Tryz.pinned.checked.prog.funcNamed Rows.fnBehindTheEndUptoRow.func=some f)(hfn:Tryz.pinned.checked.prog.funcs[f]?=some fn) :
  true=Tryz.pinned.checked.prog.looks []∧∀(j:Nat) t,fn.params[j]?=some t→Tryz.pinned.checked.prog.wantsStandIn t=false:=by
 obtain rfl:f=6:=Option.some.inj (t_named.symm.trans hf) |>.symm
 obtain rfl:fn=Tryz.f6:=(Option.some.inj (Tryz.func6.symm.trans hfn)).symm
 refine⟨t_looks,fun j t ht=>?_⟩
 rw[Tryz.params6] at ht
 have hm:=Array.mem_of_getElem? ht
 simp only[List.mem_toArray,List.mem_cons,List.not_mem_nil,or_false] at hm
 rcases hm with rfl|rfl|rfl
 ·exact(show Tryz.prog.wantsStandIn 35=false by kernel_rfl)
 ·exact(show Tryz.prog.wantsStandIn 30=false by kernel_rfl)
 ·exact(show Tryz.prog.wantsStandIn 27=false by kernel_rfl)
end Go.Proofs.YtgfcnjfmmjcodaaGreatDoor.fnBehindTheEnd
