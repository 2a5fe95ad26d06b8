/- FnEncodedIsRead. -/
import Derived.Test.YtgfcnjfmmjcodaaGreatDoorN39
import Derived.Test.YtgfcnjfmmjcodaaGreatDoorN41
import Derived.Test.YtgfcnjfmmjcodaaGreatDoorN43
set_option linter.all false
set_option maxRecDepth 100000
set_option maxHeartbeats 1000000
open Go.Lib (hid)
namespace Go.Proofs.YtgfcnjfmmjcodaaGreatDoor.fnEncodedIsRead
open Go Go.ChangeShapes Go.WideShapes Go.ChangeAt Go.RowKit
def posOf:Nat→Nat
 |0=>7
 |1=>10
 |2=>11
 |3=>12
 |4=>13
 |5=>8
 |6=>14
 |_=>15
theorem laid_plain {W:World}(h:laidMetH Tryz.prog Rows.fnEncodedIsReadUptoRow.laid W):laidMet Tryz.prog Rows.fnEncodedIsReadUptoRow.laid W:=by
 have e:(Rows.fnEncodedIsReadUptoRow.laid.filter fun x=>x.2.handleName?.isSome)=[]:=by kernel_rfl
 unfold laidMetH at h
 rw[e] at h
 exact h
theorem pos_ok:∀g∈sents,∃n text,Tryz.prog.globalNamed n=some g∧(Tryz.prog.globals[g]?).map (·.type)=some 90∧Rows.fnEncodedIsReadUptoRow.laid[posOf g]?=some (n,errD text):=by
 intro g hg
 simp only[sents,List.mem_cons,List.not_mem_nil,or_false] at hg
 rcases hg with rfl|rfl|rfl|rfl|rfl|rfl|rfl|rfl
 ·exact⟨_,_,by kernel_rfl,by kernel_rfl,rfl⟩
 ·exact⟨_,_,by kernel_rfl,by kernel_rfl,rfl⟩
 ·exact⟨_,_,by kernel_rfl,by kernel_rfl,rfl⟩
 ·exact⟨_,_,by kernel_rfl,by kernel_rfl,rfl⟩
 ·exact⟨_,_,by kernel_rfl,by kernel_rfl,rfl⟩
 ·exact⟨_,_,by kernel_rfl,by kernel_rfl,rfl⟩
 ·exact⟨_,_,by kernel_rfl,by kernel_rfl,rfl⟩
 ·exact⟨_,_,by kernel_rfl,by kernel_rfl,rfl⟩
theorem types_ok:∀t∈Tryz.f8.params.toList,Tryz.prog.readableRec t=true∧t<Tryz.prog.types.size:=by
 rw[Tryz.params8]
 intro t ht
 simp only[List.mem_cons,List.not_mem_nil,or_false] at ht
 rcases ht with rfl|rfl
 ·exact⟨by kernel_rfl,of_decide_eq_true (by kernel_rfl)⟩
 ·exact⟨by kernel_rfl,of_decide_eq_true (by kernel_rfl)⟩
theorem contract (H:Type)(enc:TypeId × Value→H)(W:World)(base:Nat)(args:Array Value)(ds gs:List (DataW H))(before:List MemPlace)
  (hval:∀(j:Nat) t v,Tryz.f8.params[j]?=some t→args[j]?=some v→Value.okWide Tryz.prog W .any base t v)
  (hW:DataW.Whole enc Tryz.prog Tryz.f8.params.toList Rows.fnEncodedIsReadSpec.vars false W args.toList ds gs before) (hL:laidMetH Tryz.prog Rows.fnEncodedIsReadUptoRow.laid W) (hk:Rows.uptoSmall H (ds++gs)=true) :
  Calls Tryz.prog 8 args W fun e W'=>∃v,e=.returned v∧Rows.fnEncodedIsReadSpec.post enc Tryz.prog Tryz.f8 false true false false W args v W':=by
 have hW':=hW
 obtain⟨p,q,hA0,hV,rfl,hfz,hnd⟩:=hW
 have hlt:=DataW.TrodAll.lt hA0
 have hA:DataW.TrodAll enc Tryz.prog W 0 (fun _=>true) true Tryz.f8.params.toList args.toList ds p:=hA0
 rw[Tryz.params8] at hA
 obtain⟨v0,vs0,d0,ds0,p0,q0,ha0,rfl,rfl,h0,r0⟩:=trodAll_cons hA
 obtain⟨v1,vs1,d1,ds1,p1,q1,ha1,rfl,rfl,h1,r1⟩:=trodAll_cons r0
 obtain⟨rfl,rfl,rfl⟩:=trodAll_nil r1
 obtain rfl:args= #[v0,v1]:=by
  cases args
  simp_all
 obtain⟨rfl,rfl⟩:=trodVars_none hV
 have hb:Rows.uptoBulkAll [d0,d1]≤1048576:=by
  have:=of_decide_eq_true hk
  simpa using this
 have b0:=bulk_mem (d:=d0) (l:=[d0,d1]) (by simp)
 have b1:=bulk_mem (d:=d1) (l:=[d0,d1]) (by simp)
 obtain⟨fs,hfs,hok,hfl⟩:=open_files (hval 0 35 v0 (by rw[Tryz.params8];rfl) rfl) h0 (by omega)
 have hnv:=open_nums (hval 1 30 v1 (by rw[Tryz.params8];rfl) rfl) h1 (by omega)
 have hLp:=laid_plain hL
 have hG:=glob_of hLp posOf pos_ok (by decide)
 have hU:=utf8_of hLp (by simp[Rows.fnEncodedIsReadUptoRow]) (by simp[Rows.fnEncodedIsReadUptoRow])
 refine(enc_walk W hG hU (utf8_size hU) fs v0 v1 hfs hnv ⟨hok,hfl⟩).mono fun e W' ⟨he,hkp⟩=>?_
 subst he
 have hbel:Below W.heap.size W W':=hkp.below (Nat.le_refl _) (fun _ _ h=>h)
 refine⟨_,rfl,_,_,_,[],p0++(p1++[]),[],hW',?_,?_,?_,hbel.frame _,fun h=>by cases h⟩
 ·exact trodAll_cons_mk (shut_bool Tryz.underlying4 _) trodAll_mk0
 ·exact trodAll_keep hbel types_ok hA0 hlt (fun x hx=>by simpa using hlt x hx)
 ·rfl
end Go.Proofs.YtgfcnjfmmjcodaaGreatDoor.fnEncodedIsRead
