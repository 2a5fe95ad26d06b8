/- FnSlowAgrees. -/
import Derived.Test.YtgfcnjfmmjcodaaGreatDoorP35
import Derived.Test.YtgfcnjfmmjcodaaGreatDoorP41
import Derived.Test.YtgfcnjfmmjcodaaGreatDoorP42
set_option linter.all false
set_option maxRecDepth 100000
set_option maxHeartbeats 1000000
open Go.Lib (hid)
namespace Go.Proofs.YtgfcnjfmmjcodaaGreatDoor.fnSlowAgrees
open Go Go.ChangeShapes Go.WideShapes Go.ChangeAt Go.RowKit
def Biq:Nat→Nat
 |0=>7
 |1=>10
 |2=>11
 |3=>12
 |4=>13
 |5=>8
 |6=>14
 |_=>15
theorem Bhx {W:World}(h:laidMetH Tryz.prog Rows.fnSlowAgreesUptoRow.laid W):laidMet Tryz.prog Rows.fnSlowAgreesUptoRow.laid W:=by
 have e:(Rows.fnSlowAgreesUptoRow.laid.filter fun x=>x.2.handleName?.isSome)=[]:=by kernel_rfl
 unfold laidMetH at h;rw[e] at h;exact h
theorem Biy:∀g∈Gb,∃n text,Tryz.prog.globalNamed n=some g∧(Tryz.prog.globals[g]?).map (·.type)=some 90∧Rows.fnSlowAgreesUptoRow.laid[Biq g]?=some (n,Bga text):=by
 intro g hg;simp only[Gb,List.mem_cons,List.not_mem_nil,or_false] at hg;rcases hg with rfl|rfl|rfl|rfl|rfl|rfl|rfl|rfl
 ·exact⟨_,_,by kernel_rfl,by kernel_rfl,rfl⟩
 ·exact⟨_,_,by kernel_rfl,by kernel_rfl,rfl⟩
 ·exact⟨_,_,by kernel_rfl,by kernel_rfl,rfl⟩
 ·exact⟨_,_,by kernel_rfl,by kernel_rfl,rfl⟩
 ·exact⟨_,_,by kernel_rfl,by kernel_rfl,rfl⟩
 ·exact⟨_,_,by kernel_rfl,by kernel_rfl,rfl⟩
 ·exact⟨_,_,by kernel_rfl,by kernel_rfl,rfl⟩
 ·exact⟨_,_,by kernel_rfl,by kernel_rfl,rfl⟩
theorem Bid:∀t∈Tryz.f11.params.toList,Tryz.prog.readableRec t=true∧t<Tryz.prog.types.size:=by
 rw[Tryz.params11];intro t ht;simp only[List.mem_cons,List.not_mem_nil,or_false] at ht;rcases ht with rfl|rfl|rfl|rfl|rfl
 ·exact⟨by kernel_rfl,of_decide_eq_true (by kernel_rfl)⟩
 ·exact⟨by kernel_rfl,of_decide_eq_true (by kernel_rfl)⟩
 ·exact⟨by kernel_rfl,of_decide_eq_true (by kernel_rfl)⟩
 ·exact⟨by kernel_rfl,of_decide_eq_true (by kernel_rfl)⟩
 ·exact⟨by kernel_rfl,of_decide_eq_true (by kernel_rfl)⟩
theorem Bie (H:Type)(enc:TypeId × Value→H)(W:World)(base:Nat)(args:Array Value)(ds gs:List (DataW H))(before:List MemPlace)
  (hval:∀(j:Nat) t v,Tryz.f11.params[j]?=some t→args[j]?=some v→Value.okWide Tryz.prog W .any base t v)
  (hW:DataW.Whole enc Tryz.prog Tryz.f11.params.toList Rows.fnSlowAgreesSpec.vars false W args.toList ds gs before) (hL:laidMetH Tryz.prog Rows.fnSlowAgreesUptoRow.laid W) (hk:Rows.uptoSmall H (ds++gs)=true) :
  Calls Tryz.prog 11 args W fun e W'=>∃v,e=.returned v∧Rows.fnSlowAgreesSpec.post enc Tryz.prog Tryz.f11 false true false false W args v W':=by
 have hW':=hW;obtain⟨p,q,hA0,hV,rfl,hfz,hnd⟩:=hW;have hlt:=DataW.TrodAll.lt hA0;have hA:DataW.TrodAll enc Tryz.prog W 0 (fun _=>true) true Tryz.f11.params.toList args.toList ds p:=hA0;rw[Tryz.params11] at hA;obtain⟨v0,vs0,d0,ds0,p0,q0,ha0,rfl,rfl,h0,r0⟩:=trodAll_cons hA;obtain⟨v1,vs1,d1,ds1,p1,q1,ha1,rfl,rfl,h1,r1⟩:=trodAll_cons r0;obtain⟨v2,vs2,d2,ds2,p2,q2,ha2,rfl,rfl,h2,r2⟩:=trodAll_cons r1;obtain⟨v3,vs3,d3,ds3,p3,q3,ha3,rfl,rfl,h3,r3⟩:=trodAll_cons r2;obtain⟨v4,vs4,d4,ds4,p4,q4,ha4,rfl,rfl,h4,r4⟩:=trodAll_cons r3;obtain⟨rfl,rfl,rfl⟩:=trodAll_nil r4;obtain rfl:args= #[v0,v1,v2,v3,v4]:=by
  cases args;simp_all
 obtain⟨rfl,rfl⟩:=trodVars_none hV;have hb:Rows.uptoBulkAll [d0,d1,d2,d3,d4]≤1048576:=by
  have:=of_decide_eq_true hk;simpa using this
 have b0:=Xg (d:=d0) (l:=[d0,d1,d2,d3,d4]) (by simp)
 have b1:=Xg (d:=d1) (l:=[d0,d1,d2,d3,d4]) (by simp)
 have b2:=Xg (d:=d2) (l:=[d0,d1,d2,d3,d4]) (by simp)
 have b3:=Xg (d:=d3) (l:=[d0,d1,d2,d3,d4]) (by simp)
 have b4:=Xg (d:=d4) (l:=[d0,d1,d2,d3,d4]) (by simp)
 obtain⟨fs,hfs,hok,hfl⟩:=Bfk (hval 0 35 v0 (by rw[Tryz.params11];rfl) rfl) h0 (by omega)
 have hnv:=Bfq (hval 1 30 v1 (by rw[Tryz.params11];rfl) rfl) h1 (by omega)
 obtain⟨x2,rfl,_,_,_⟩:=open_int Tryz.underlying3 (hval 2 3 v2 (by rw[Tryz.params11];rfl) rfl) h2
 obtain⟨x3,rfl,_,_,_⟩:=open_int Tryz.underlying3 (hval 3 3 v3 (by rw[Tryz.params11];rfl) rfl) h3
 obtain⟨cs4,hcs4,hcl4,hcr4⟩:=open_ints (hval 4 30 v4 (by rw[Tryz.params11];rfl) rfl) h4 (by omega)
 have hLp:=Bhx hL;have hG:=Bgh hLp Biq Biy (by decide)
 have hU:=Bgi hLp (by simp[Rows.fnSlowAgreesUptoRow]) (by simp[Rows.fnSlowAgreesUptoRow])
 refine(Bh4 W hG hU (Bfr hU) fs v0 v1 x2 x3 v4 cs4 hfs hnv hcs4 hcl4 hcr4 ⟨hok,hfl⟩).mono fun e W' ⟨he,hkp⟩=>?_;subst he;have hbel:Below W.heap.size W W':=hkp.below (Nat.le_refl _) (fun _ _ h=>h);refine⟨_,rfl,_,_,_,[],p0++(p1++(p2++(p3++(p4++[])))),[],hW',?_,?_,?_,hbel.frame _,fun h=>by cases h⟩
 ·exact trodAll_cons_mk (shut_bool Tryz.underlying4 _) trodAll_mk0
 ·exact Up hbel Bid hA0 hlt (fun x hx=>by simpa using hlt x hx)
 ·rfl
end Go.Proofs.YtgfcnjfmmjcodaaGreatDoor.fnSlowAgrees
