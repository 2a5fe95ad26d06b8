/- FnBehindTheEnd. -/
import Derived.Test.YtgfcnjfmmjcodaaGreatDoorN40
import Derived.Test.YtgfcnjfmmjcodaaGreatDoorN41
import Derived.Test.YtgfcnjfmmjcodaaGreatDoorN43
set_option linter.all false
set_option maxRecDepth 100000
set_option maxHeartbeats 1000000
open Go.Lib (hid)
namespace Go.Proofs.YtgfcnjfmmjcodaaGreatDoor.fnBehindTheEnd
open Go Go.ChangeShapes Go.WideShapes Go.ChangeAt Go.RowKit
def posOf:Nat→Nat
 |0=>7
 |1=>10
 |2=>11
 |3=>12
 |4=>13
 |5=>8
 |6=>14
 |_=>15
theorem laid_plain {W:World}(h:laidMetH Tryz.prog Rows.fnBehindTheEndUptoRow.laid W):laidMet Tryz.prog Rows.fnBehindTheEndUptoRow.laid W:=by
 have e:(Rows.fnBehindTheEndUptoRow.laid.filter fun x=>x.2.handleName?.isSome)=[]:=by kernel_rfl
 unfold laidMetH at h
 rw[e] at h
 exact h
theorem pos_ok:∀g∈sents,∃n text,Tryz.prog.globalNamed n=some g∧(Tryz.prog.globals[g]?).map (·.type)=some 90∧Rows.fnBehindTheEndUptoRow.laid[posOf g]?=some (n,errD text):=by
 intro g hg
 simp only[sents,List.mem_cons,List.not_mem_nil,or_false] at hg
 rcases hg with rfl|rfl|rfl|rfl|rfl|rfl|rfl|rfl
 ·exact⟨_,_,by kernel_rfl,by kernel_rfl,rfl⟩
 ·exact⟨_,_,by kernel_rfl,by kernel_rfl,rfl⟩
 ·exact⟨_,_,by kernel_rfl,by kernel_rfl,rfl⟩
 ·exact⟨_,_,by kernel_rfl,by kernel_rfl,rfl⟩
 ·exact⟨_,_,by kernel_rfl,by kernel_rfl,rfl⟩
 ·exact⟨_,_,by kernel_rfl,by kernel_rfl,rfl⟩
 ·exact⟨_,_,by kernel_rfl,by kernel_rfl,rfl⟩
 ·exact⟨_,_,by kernel_rfl,by kernel_rfl,rfl⟩
theorem types_ok:∀t∈Tryz.f6.params.toList,Tryz.prog.readableRec t=true∧t<Tryz.prog.types.size:=by
 rw[Tryz.params6]
 intro t ht
 simp only[List.mem_cons,List.not_mem_nil,or_false] at ht
 rcases ht with rfl|rfl|rfl
 ·exact⟨by kernel_rfl,of_decide_eq_true (by kernel_rfl)⟩
 ·exact⟨by kernel_rfl,of_decide_eq_true (by kernel_rfl)⟩
 ·exact⟨by kernel_rfl,of_decide_eq_true (by kernel_rfl)⟩
theorem contract (H:Type)(enc:TypeId × Value→H)(W:World)(base:Nat)(args:Array Value)(ds gs:List (DataW H))(before:List MemPlace)
  (hval:∀(j:Nat) t v,Tryz.f6.params[j]?=some t→args[j]?=some v→Value.okWide Tryz.prog W .any base t v)
  (hW:DataW.Whole enc Tryz.prog Tryz.f6.params.toList Rows.fnBehindTheEndSpec.vars false W args.toList ds gs before) (hL:laidMetH Tryz.prog Rows.fnBehindTheEndUptoRow.laid W) (hk:Rows.uptoSmall H (ds++gs)=true) :
  Calls Tryz.prog 6 args W fun e W'=>∃v,e=.returned v∧Rows.fnBehindTheEndSpec.post enc Tryz.prog Tryz.f6 false true false false W args v W':=by
 have hW':=hW
 obtain⟨p,q,hA0,hV,rfl,hfz,hnd⟩:=hW
 have hlt:=DataW.TrodAll.lt hA0
 have hA:DataW.TrodAll enc Tryz.prog W 0 (fun _=>true) true Tryz.f6.params.toList args.toList ds p:=hA0
 rw[Tryz.params6] at hA
 obtain⟨v0,vs0,d0,ds0,p0,q0,ha0,rfl,rfl,h0,r0⟩:=trodAll_cons hA
 obtain⟨v1,vs1,d1,ds1,p1,q1,ha1,rfl,rfl,h1,r1⟩:=trodAll_cons r0
 obtain⟨v2,vs2,d2,ds2,p2,q2,ha2,rfl,rfl,h2,r2⟩:=trodAll_cons r1
 obtain⟨rfl,rfl,rfl⟩:=trodAll_nil r2
 obtain rfl:args= #[v0,v1,v2]:=by
  cases args
  simp_all
 obtain⟨rfl,rfl⟩:=trodVars_none hV
 have hb:Rows.uptoBulkAll [d0,d1,d2]≤1048576:=by
  have:=of_decide_eq_true hk
  simpa using this
 have b0:=bulk_mem (d:=d0) (l:=[d0,d1,d2]) (by simp)
 have b1:=bulk_mem (d:=d1) (l:=[d0,d1,d2]) (by simp)
 have b2:=bulk_mem (d:=d2) (l:=[d0,d1,d2]) (by simp)
 obtain⟨fs,hfs,hok,hfl⟩:=open_files (hval 0 35 v0 (by rw[Tryz.params6];rfl) rfl) h0 (by omega)
 have hnv:=open_nums (hval 1 30 v1 (by rw[Tryz.params6];rfl) rfl) h1 (by omega)
 obtain⟨bl,hbd,hbl⟩:=open_data (hval 2 27 v2 (by rw[Tryz.params6];rfl) rfl) h2
 have hLp:=laid_plain hL
 have hG:=glob_of hLp posOf pos_ok (by decide)
 have hU:=utf8_of hLp (by simp[Rows.fnBehindTheEndUptoRow]) (by simp[Rows.fnBehindTheEndUptoRow])
 refine(behind_walk W hG hU (utf8_size hU) fs v0 v1 v2 bl hfs hnv hbd (by omega) ⟨hok,hfl⟩).mono fun e W' ⟨he,hkp⟩=>?_
 subst he
 have hbel:Below W.heap.size W W':=hkp.below (Nat.le_refl _) (fun _ _ h=>h)
 refine⟨_,rfl,_,_,_,[],p0++(p1++(p2++[])),[],hW',?_,?_,?_,hbel.frame _,fun h=>by cases h⟩
 ·exact trodAll_cons_mk (shut_bool Tryz.underlying4 _) trodAll_mk0
 ·exact trodAll_keep hbel types_ok hA0 hlt (fun x hx=>by simpa using hlt x hx)
 ·rfl
end Go.Proofs.YtgfcnjfmmjcodaaGreatDoor.fnBehindTheEnd
