/- Regions that draw their order, in segments. -/
import Derived.StillTailTactics
import Derived.Test.YtgfcnjfmmjcodaaGreatDoorProg
import Derived.Deep.LoopGhost
import Derived.LoopTactic
import Derived.WalkKit
import Derived.WalkLawsBesides
import Derived.WalkSpells
import Derived.BigQuiet
import Derived.Deep.QuietTactic
import Derived.Laws.CopyOwn
import Derived.LaidEql
import Derived.Lib.Hide
import Derived.Maps.AppendAt
import Derived.Laws.AppendOwn
import Derived.KernelRfl
namespace Go.Proofs.YtgfcnjfmmjcodaaGreatDoor
theorem sA {α:Type _} (l:List α) (i:Nat) (a:α):l.toArray.setIfInBounds i a=(l.set i a).toArray:=List.setIfInBounds_toArray ..
theorem sB {α:Type _} (a b:α) (l:List α):(a::l).set 0 b=b::l:=rfl
theorem sD {α:Type _} (n:Nat) (a:α) (l:List α):(a::l).take (n+1)=a::l.take n:=rfl
theorem sE {α:Type _} (l:List α):l.take 0=[]:=rfl
theorem sF {α:Type _} (n:Nat) (a:α) (l:List α):(a::l).drop (n+1)=l.drop n:=rfl
theorem sG {α:Type _} (l:List α):l.drop 0=l:=rfl
theorem sC {α:Type _} (a b:α) (n:Nat) (l:List α):(a::l).set (n+1) b=a::l.set n b:=rfl
end Go.Proofs.YtgfcnjfmmjcodaaGreatDoor
set_option linter.all false
set_option maxRecDepth 100000
set_option maxHeartbeats 1000000
open Go.Lib (hid)
namespace Go.Proofs.YtgfcnjfmmjcodaaGreatDoor
section
section
variable {P:Program} {md:Region.Mode} {ops:Array Oper}
def Bej (md:Region.Mode)(ops:Array Oper)(n:Nat):Bool:=
 (List.range ops.size).all fun t=>decide (t≤n)||(List.range t).any fun s=>decide (n≤s)&&Region.waitsFor md ops t s
def Holds (md:Region.Mode)(ops:Array Oper)(n:Nat):Prop:=
 ∀listed,HeadInv md ops n listed→∀i,i<n→listed.getD i true=false→∀t,n≤t→t∉Region.ready md ops listed
theorem holds_of {n:Nat}(hs:Region.sinkB md ops n=true)(hc:Bej md ops n=true)(hn:n<ops.size):Holds md ops n:=by
 intro listed inv i hi hun t ht hr;obtain⟨_,ot,hot,hall⟩:=mem_ready.1 hr;have htlt:t<ops.size:=(Array.getElem?_eq_some_iff.1 hot).1;by_cases htn:t=n
 ·subst htn;have go:∀d i,t-i=d→i<t→listed.getD i true=false→False:=by
   intro d;induction d using Nat.strongRecOn with
   |_ d ih=>
    intro i hd hi hun;obtain⟨j,hj,hj2⟩:=List.any_eq_true.1 (List.all_eq_true.1 hs i (List.mem_range.2 hi));simp only[Bool.and_eq_true,decide_eq_true_eq] at hj2;obtain⟨oj,hoj,e,he,hb,hon⟩:=Region.waitsFor_spec hj2.2;(have hjle:j≤t:=by have:=List.mem_range.1 hj;omega);rcases Nat.eq_or_lt_of_le hjle with rfl|hjt
    ·obtain rfl:oj=ot:=Option.some.inj (hoj.symm.trans hot);have h2:=hall e he hb;rw[hon,getD_both hun] at h2;cases h2
    ·cases hl:listed.getD j false with
     |true=>
      have h2:=inv.closed j oj hoj hl e he hb;rw[hon,getD_both hun] at h2;cases h2
     |false=>exact ih (t-j) (by omega) j rfl hjt (getD_in (by rw[inv.size];omega) hl)
  exact go _ i rfl hi hun
 ·have h1:=List.all_eq_true.1 hc t (List.mem_range.2 htlt);simp only[Bool.or_eq_true,decide_eq_true_eq] at h1;rcases h1 with h1|h1
  ·omega
  ·obtain⟨s,hs1,hs2⟩:=List.any_eq_true.1 h1;simp only[Bool.and_eq_true,decide_eq_true_eq] at hs2;obtain⟨o',ho',e,he,hb,hon⟩:=Region.waitsFor_spec hs2.2;obtain rfl:o'=ot:=Option.some.inj (ho'.symm.trans hot);have h2:=hall e he hb;(rw[hon,getD_both (inv.tail s hs2.1 (by have:=List.mem_range.1 hs1;omega))] at h2);cases h2
theorem Zl {n i:Nat}{oi:Oper}{v:Value}{w:World}{L:Array Bool→Act→Prop}(hi:ops[i]?=some oi)(hsel:∀(j:Nat) (o:Oper) cs b,ops[j]?=some o→o.op≠ .select cs b)
  (hw:Holds md ops n) (hin:i<n) (hdone:∀listed a,L listed a→∀j∈Region.ready md ops listed,n≤j) :
  ∀(f:Nat) (listed:Array Bool) (a:Act),HeadInv md ops n listed →
   (∀j oj,ops[j]?=some oj→j≠i→listed.getD j true=false→(∀e∈oj.after,Region.binds md e=true→e.on≠i)→oi.apart ops oj=true) →
   i∈Region.ready md ops listed→YieldsAt P ops w oi v a →
   wpAnyL P md ops w n L f (listed.setIfInBounds i true) (a.put oi.dst v)→wpAnyL P md ops w n L (f+1) listed a:=by
 intro f;induction f with
 |zero=>
  intro listed a inv _ hr hy H;refine⟨fun h=>(by rw[h] at hr;cases hr),fun j hj=>?_⟩
  have hjn:j<n:=Nat.lt_of_not_le fun h=>hw listed inv i hin (mem_ready.1 hr).1 j h hj;refine⟨hjn,?_⟩;by_cases hji:j=i
  ·subst hji;exact hy.stOp hi H
  ·have:=hdone _ _ H j (ready_mono hj hji);omega
 |succ f ih=>
  intro listed a inv hfree hr hy H;refine⟨fun h=>(by rw[h] at hr;cases hr),fun j hj=>?_⟩
  have hjn:j<n:=Nat.lt_of_not_le fun h=>hw listed inv i hin (mem_ready.1 hr).1 j h hj;refine⟨hjn,?_⟩;by_cases hji:j=i
  ·subst hji;exact hy.stOp hi H
  ·obtain⟨hjun,oj,hoj,hall⟩:=mem_ready.1 hj;have hnot:∀e∈oj.after,Region.binds md e=true→e.on≠i:=fun e he hb heq=>by
    have h1:=hall e he hb;rw[heq,getD_both (mem_ready.1 hr).1] at h1;cases h1
   have h2:=stOp_put hoj (hfree j oj hoj hji hjun hnot) (fun cs b=>hsel i oi cs b hi) (fun cs b=>hsel j oj cs b hoj) hy (H.2 j (ready_mono hj hji)).2
   have hfree':∀k ok,ops[k]?=some ok→k≠i→(listed.setIfInBounds j true).getD k true=false →
     (∀e∈ok.after,Region.binds md e=true→e.on≠i)→oi.apart ops ok=true:=fun k ok hk hki hun hno=>by
    refine hfree k ok hk hki ?_ hno;by_cases hjk:j=k
    ·subst hjk;exact hjun
    ·rw[getD_set_ne true hjk] at hun;exact hun
   refine stOp_mono (fun a' h3=>ih (listed.setIfInBounds j true) a' (inv.set hj hjn) hfree' (ready_mono hr (Ne.symm hji)) h3.1 ?_) h2;rw[Array.setIfInBounds_comm _ _ hji];exact h3.2
def Yw (md:Region.Mode)(ops:Array Oper)(C:Array Bool→Bool):Nat→Nat→Array Bool→Bool
 |0,_,listed=>C listed
 |f+1,k,listed=>(Region.ready md ops listed).contains k&&Region.free md ops listed k&&Yw md ops C f (k+1) (listed.setIfInBounds k true)
theorem Yx {n:Nat}{w:World}{Lq:Act→Prop}{C:Array Bool→Bool}(hsel:Region.noSelect ops=true)(hw:Holds md ops n)(hC:∀listed,C listed=true→∀j∈Region.ready md ops listed,n≤j) :
  ∀(l:List Oper) (k:Nat) (listed:Array Bool) (a:Act),(∀j,j<l.length→l[j]?=ops[k+j]?)→k+l.length=n→HeadInv md ops n listed →
  Yw md ops C l.length k listed=true→wpStill P ops w Lq l a→wpAnyL P md ops w n (fun listed' a'=>(HeadInv md ops n listed'∧C listed'=true)∧Lq a') l.length listed a
 |[],k,listed,a,_,hk,inv,hB,h=>⟨⟨inv,hB⟩,h⟩
 |o::l,k,listed,a,hl,hk,inv,hB,h=>by
  have h0:ops[k]?=some o:=by simpa using (hl 0 (by simp)).symm
  simp only[List.length_cons,Yw,Bool.and_eq_true] at hB
  obtain⟨⟨hr,hf⟩,hB'⟩:=hB
  have hkn:k<n:=by simp only[List.length_cons] at hk;omega
  have hr':k∈Region.ready md ops listed:=by simpa using hr
  have hst:stOp P ops w k (wpStill P ops w Lq l) a:=by unfold stOp;simp only[h0];exact h
  obtain⟨v,hy,hK⟩:=yieldsAt_of_stOp h0 hst
  refine Zl h0 (Region.noSelect_spec hsel) hw hkn (fun listed' a' hL=>hC listed' hL.1.2) l.length listed a inv (Region.free_spec h0 hf) hr' hy ?_
  exact Yx hsel hw hC l (k+1) _ _ (fun j hj=>by have:=hl (j+1) (by simp;omega);simpa[Nat.add_assoc,Nat.add_comm 1 j] using this) (by simp only[List.length_cons] at hk;omega) (inv.set hr' hkn) hB' hK
def Ba5 (md:Region.Mode)(ops:Array Oper):List Nat→Nat→Array Bool→Bool
 |[],k,listed=>Region.lexFrom md ops (ops.size-k) k listed
 |m::ms,k,listed=>decide (k+m<ops.size)&&Region.sinkB md ops (k+m)&&Bej md ops (k+m) &&
   Yw md ops (fun x=>decide (Region.ready md ops x=[k+m])&&Ba5 md ops ms (k+m+1) (x.setIfInBounds (k+m) true)) m k listed
def Ce (P:Program)(ops:Array Oper)(Q:Exit→Act→World→Prop):List Nat→List Oper→Act→World→Prop
 |[],l,a,w=>wpStill P ops w (fun a'=>Q .normal a' w) l a
 |m::ms,l,a,w=>wpStill P ops w (fun a'=>wpList P ops (Exit.then (Ce P ops Q ms (l.drop (m+1))) Q) ((l.drop m).take 1) a' w) (l.take m) a
theorem Zm {o:Oper}{a:Act}{w:World}{K K':Act→World→Prop}{Q:Exit→Act→World→Prop}(h:o.wp P a w K' (Exit.then K Q)):o.wp P a w K' Q:=by
 unfold Oper.wp at *;generalize (execOp a.eval o).run P w=r at *;cases r with
 |ok n w'=>
  cases n<;>simp only[Oper.upon] at h ⊢ <;>
   first
    |exact h
    |exact Calls.mono h (fun e w'' he=>by cases e<;>exact he)
 |halt x w'=>cases x<;>simp only[Oper.upon] at h ⊢<;>exact h
theorem Zn {i:Nat}{o:Oper}{a:Act}{w:World}{K:Act→World→Prop}{Q:Exit→Act→World→Prop}(hi:ops[i]?=some o)
  (h:wpList P ops (Exit.then K Q) [o] a w):wpOp P ops Q i K a w:=by
 unfold wpOp;simp only[hi];simp only[wpList] at h;split
 ·rename_i hw;rw[if_pos hw] at h;exact h.imp (fun h=>Oper.wp_mono (fun _ _ h=>h) (Zm h)) id
 ·rename_i hw;rw[if_neg hw] at h;exact h
theorem Yy {Q:Exit→Act→World→Prop}(hsel:Region.noSelect ops=true):∀(ms:List Nat) (l:List Oper) (k:Nat) (listed:Array Bool) (a:Act) (w:World),
  (∀j,l[j]?=ops[k+j]?)→k≤ops.size→(listed.size=ops.size∧(∀j oj,ops[j]?=some oj→listed.getD j false=true→∀e∈oj.after,Region.binds md e=true→listed.getD e.on false=true)∧∀t,k≤t→t<ops.size→listed.getD t true=false) →
  Ba5 md ops ms k listed=true→Ce P ops Q ms l a w→wpAny P md ops Q l.length listed a w
 |[],l,k,listed,a,w,hl,hk,_,hB,h=>by
  have hlen:l.length=ops.size-k:=by
   have h1:=hl l.length;rw[List.getElem?_eq_none (Nat.le_refl _)] at h1;have h1:=Array.getElem?_eq_none_iff.1 h1.symm;rcases Nat.lt_or_ge (ops.size-k) l.length with h2|h2
   ·have h3:=hl (ops.size-k);(rw[List.getElem?_eq_getElem h2,Array.getElem?_eq_none (by omega)] at h3);cases h3
   ·omega
  refine wpAny_of_still (Q:=fun a'=>Q .normal a' w) (fun _ h=>h) _ _ _ (wpAnyS_lex hsel l k listed a hl ?_ h);rw[hlen];exact hB
 |m::ms,l,k,listed,a,w,hl,hk,inv,hB,h=>by
  simp only[Ba5,Bool.and_eq_true,decide_eq_true_eq] at hB;obtain⟨⟨⟨hlt,hs⟩,hc⟩,hh⟩:=hB;have hw:=holds_of hs hc hlt;have hml:m<l.length:=by
   rcases Nat.lt_or_ge m l.length with h1|h1
   ·exact h1
   ·have h2:=hl m;rw[List.getElem?_eq_none h1,Array.getElem?_eq_getElem hlt] at h2;cases h2
  have htl:(l.take m).length=m:=by rw[List.length_take];omega
  have H:=Yx (P:=P) hsel hw (C:=fun x=>decide (Region.ready md ops x=[k+m])&&Ba5 md ops ms (k+m+1) (x.setIfInBounds (k+m) true))
   (fun x hx j hj=>by
    simp only[Bool.and_eq_true,decide_eq_true_eq] at hx;rw[hx.1] at hj;(have:j=k+m:=by simpa using hj);omega)
   (l.take m) k listed a (fun j hj=>by rw[htl] at hj;rw[List.getElem?_take_of_lt hj];exact hl j) (by rw[htl]) ⟨inv.1,inv.2.1,fun t ht ht'=>inv.2.2 t (by omega) ht'⟩ (by rw[htl];exact hh) h
  have hdl:(l.drop (m+1)).length+1=l.length-m:=by rw[List.length_drop];omega
  rw[show l.length=m+((l.drop (m+1)).length+1) by omega]
  rw[htl] at H;refine wpAny_of_head (fun listed' a' hL=>?_) m listed a H;obtain⟨⟨inv',hC⟩,hq⟩:=hL;simp only[Bool.and_eq_true,decide_eq_true_eq] at hC;have h0:ops[k+m]?=some l[m]:=by rw[←hl m];exact List.getElem?_eq_getElem hml
  have hone:(l.drop m).take 1=[l[m]]:=by rw[List.drop_eq_getElem_cons hml];rfl
  rw[hone] at hq;have hrd:k+m∈Region.ready md ops listed':=by rw[hC.1];simp
  refine⟨fun h1=>(by rw[h1] at hrd;cases hrd),fun i hi=>?_⟩
  obtain rfl:i=k+m:=by rw[hC.1] at hi;simpa using hi
  refine wpOp_mono (fun a1 w1 h1=>?_) (Zn h0 hq);refine Yy hsel ms (l.drop (m+1)) (k+m+1) _ a1 w1 (fun j=>by rw[List.getElem?_drop,hl];congr 1;omega) (by omega) ⟨by simp[inv'.size],?_,fun t ht ht'=>by rw[getD_set_ne true (by omega)];exact inv'.tail t (by omega) ht'⟩ hC.2 h1
  intro j oj hj hlj e he hb;by_cases hij:k+m=j
  ·subst hij;obtain⟨_,oi,hoi,hall⟩:=mem_ready.1 hrd;obtain rfl:oj=oi:=Option.some.inj (hj.symm.trans hoi);exact getD_set_true (hall e he hb)
  ·rw[getD_set_ne false hij] at hlj;exact getD_set_true (inv'.closed j oj hj hlj e he hb)
theorem Bh {id:Nat}{Q:Exit→Act→World→Prop}{a:Act}{w:World}{l:List Oper}(ms:List Nat)(hB:(Region.noSelect l.toArray&&Ba5 .any l.toArray ms 0 (Array.replicate l.toArray.size false))=true)
  (h:Ce Tryz.prog l.toArray Q ms l a w.drew):(Code.region id l.toArray true).wp Tryz.prog Q a w:=by
 simp only[Bool.and_eq_true] at hB;refine wp_region_any (by kernel_rfl) ?_
 have:=Yy (md:=.any) hB.1 ms l 0 (Array.replicate l.toArray.size false) a w.drew (fun j=>by simp) (by omega)
  ⟨by simp,fun j oj _ hl=>(by rw[getD_replicate_false] at hl;cases hl),fun t _ ht=>getD_in (by simpa using ht) (getD_replicate_false _ _)⟩ hB.2 h
 simpa using this
end
end
section
open Go.RowKit
structure Kp (S:Nat→Prop)(w w':World):Prop where
 os:w'.os=w.os
 tape:w'.tape=w.tape
 output:w'.output=w.output
 size:w.heap.size≤w'.heap.size
 block:∀k,k<w.heap.size→¬S k→w'.heap[k]?=w.heap[k]?
theorem Kp.refl (S:Nat→Prop)(w:World):Kp S w w:=⟨rfl,rfl,rfl,Nat.le_refl _,fun _ _ _=>rfl⟩
theorem Kp.trans {S:Nat→Prop}{a b c:World}(h:Kp S a b)(k:Kp S b c):Kp S a c:=
 ⟨k.os.trans h.os,k.tape.trans h.tape,k.output.trans h.output,Nat.le_trans h.size k.size,fun i hi hs=>(k.block i (Nat.lt_of_lt_of_le hi h.size) hs).trans (h.block i hi hs)⟩
theorem Kp.mono {S S':Nat→Prop}{w w':World}(h:Kp S w w')(hs:∀k,k<w.heap.size→S k→S' k):Kp S' w w':=
 ⟨h.os,h.tape,h.output,h.size,fun i hi hn=>h.block i hi fun hS=>hn (hs i hi hS)⟩
theorem Kp.drew {S:Nat→Prop}{a w:World}(h:Kp S a w):Kp S a w.drew:=⟨h.os,h.tape,h.output,h.size,h.block⟩
theorem Kp.drewN {S:Nat→Prop}{a w:World}(h:Kp S a w)(n:Nat):Kp S a (w.drewN n):=⟨h.os,h.tape,h.output,h.size,h.block⟩
theorem Kp.alloc {S:Nat→Prop}{a w:World}(h:Kp S a w)(o:Obj):Kp S a (w.alloc o):=
 ⟨h.os,h.tape,h.output,by simp;exact Nat.le_succ_of_le h.size,fun k hk hs=>by
  rw[Below.heap_alloc _ _ _ (Nat.lt_of_lt_of_le hk h.size)];exact h.block k hk hs⟩
theorem Kp.setCell {S:Nat→Prop}{a w:World}(h:Kp S a w){p:Addr}(hp:S p.block∨a.heap.size≤p.block)(u:Value):Kp S a (w.setCell p u):=
 ⟨h.os,h.tape,h.output,by simpa[World.setCell] using h.size,fun k hk hs=>by
  rw[Below.heap_setCell _ _ _ _ (fun e=>by subst e;rcases hp with hp|hp;exact hs hp;omega)];exact h.block k hk hs⟩
theorem Kp.setRow {S:Nat→Prop}{a w:World}(h:Kp S a w){g:Nat}(hp:S g∨a.heap.size≤g)(cs:Array Value):Kp S a (w.setRow g cs):=
 ⟨h.os,h.tape,h.output,by simpa[World.setRow] using h.size,fun k hk hs=>by
  rw[setRow_other _ _ _ _ (fun e=>by subst e;rcases hp with hp|hp;exact hs hp;omega)];exact h.block k hk hs⟩
theorem Kp.then {S S':Nat→Prop}{a b c:World}(h:Kp S a b)(k:Kp S' b c)(hs:∀i,i<a.heap.size→S' i→S i):Kp S a c:=
 ⟨k.os.trans h.os,k.tape.trans h.tape,k.output.trans h.output,Nat.le_trans h.size k.size,fun i hi hn=>
  (k.block i (Nat.lt_of_lt_of_le hi h.size) fun h'=>hn (hs i hi h')).trans (h.block i hi hn)⟩
theorem Kp.cell {S:Nat→Prop}{w w':World}(h:Kp S w w'){p:Addr}{v:Value}(hc:w.cell? p=some v)(hs:¬S p.block):w'.cell? p=some v:=
 (World.cell?_of_block (w:=w) (h.block p.block (World.block_lt_of_cell? w p hc) hs)).trans hc
theorem Kp.heap {S:Nat→Prop}{w w':World}(h:Kp S w w'){b:Nat}{o:Obj}(hc:w.heap[b]?=some o)(hs:¬S b):w'.heap[b]?=some o:=
 (h.block b (Array.getElem?_eq_some_iff.1 hc).1 hs).trans hc
theorem Kp.below {S:Nat→Prop}{w w':World}(h:Kp S w w'){B:Nat}(hB:B≤w.heap.size)(hs:∀k,k<B→¬S k):Below B w w':=
 ⟨h.os,h.tape,h.output,h.size,fun k hk=>h.block k (by omega) (hs k hk)⟩
def ub (b:UInt8):Value:=.int .u8 (b.toNat:Int)
def ubs (l:List UInt8):List Value:=l.map ub
def B5 (l:List UInt8):Value:=.string ⟨l.toArray⟩
theorem Bi (l:List UInt8):(ubs l).length=l.length:=by simp[ubs]
theorem D2 (l m:List UInt8):ubs (l++m)=ubs l++ubs m:=by simp[ubs]
theorem Il (l:List UInt8):∀v∈ubs l,v.oneCell'=true:=by
 intro v hv;simp only[ubs,List.mem_map] at hv;obtain⟨b,_,rfl⟩:=hv;rfl
theorem cell_of {w:World}{b:Nat}{cs:Array Value}{t:TypeId}{fr:Nat × Nat}(h:w.heap[b]?=some (.cells cs t fr))(i:Nat){v:Value}(hv:cs[i]?=some v) :
  w.cell? ⟨b,i,none⟩=some v:=by simp[World.cell?,h,hv]
theorem Bb {w:World}{b:Nat}{cs:Array Value}{t:TypeId}(h:w.heap[b]?=some (.cells cs t (0,0)))(i:Nat):w.frozen? ⟨b,i,none⟩=false:=by
 simp[World.frozen?,h]
theorem Bv {w:World}{b:Nat}{o:Obj}(h:w.heap[b]?=some o):b<w.heap.size:=(Array.getElem?_eq_some_iff.1 h).1
theorem Uq {id:Nat}{Q:Exit→Act→World→Prop}{a:Act}{w:World}{l:List Oper}(n:Nat)(hB:Region.lexTailB .any l.toArray n=true)
  (h:wpStill Tryz.prog l.toArray w.drew (fun a'=>wpList Tryz.prog l.toArray Q (l.drop n) a' w.drew) (l.take n) a):(Code.region id l.toArray true).wp Tryz.prog Q a w:=
 wp_region_still_tail n (by kernel_rfl) hB h
theorem heap_set {w:World}{b:Nat}{cs:Array Value}{t:TypeId}{fr:Nat × Nat}(h:w.heap[b]?=some (.cells cs t fr))(i:Nat)(v:Value) :
  (w.setCell ⟨b,i,none⟩ v).heap[b]?=some (.cells (cs.setIfInBounds i v) t fr):=by
 simp[World.setCell,Array.getElem?_modify,h]
theorem Ci {w:World}{b:Nat}{o:Obj}(h:w.heap[b]?=some o)(a:Addr)(v:Value)(hne:b≠a.block):(w.setCell a v).heap[b]?=some o:=by
 rw[Below.heap_setCell _ _ _ _ hne];exact h
theorem heap_drew {w:World}{b:Nat}{o:Obj}(h:w.heap[b]?=some o):w.drew.heap[b]?=some o:=h
theorem heap_drewN {w:World}{b:Nat}{o:Obj}(h:w.heap[b]?=some o)(n:Nat):(w.drewN n).heap[b]?=some o:=h
theorem heap_alloc {w:World}{b:Nat}{o:Obj}(h:w.heap[b]?=some o)(x:Obj):(w.alloc x).heap[b]?=some o:=by
 rw[Below.heap_alloc _ _ _ (Bv h)];exact h
theorem Ba (w:World)(x:Obj):(w.alloc x).heap[w.heap.size]?=some x:=by
 show (w.heap.push x)[w.heap.size]?=_;simp
theorem add_plain' (b o j:Nat):(⟨b,o,none⟩:Addr).add j=⟨b,o+j,none⟩:=by unfold Addr.add;split<;>simp_all
theorem Cy (l:List UInt8)(j:Nat):(ubs l)[j]?=l[j]?.map ub:=by simp[ubs]
theorem Im {w:World}{ops:Array Oper}{rest:List Oper}{o:Oper}{a:Act}{Q:Exit→Act→World→Prop}(hgd:o.guard=none)(d s:Operand)
  (ho:o.op=.call {callee:=.builtin .copy,args:= #[d,s],argTypes:= #[27,27]})
  (b off n c m mc:Nat) (ad:Addr) (hd:a.eval d=.slice (some ⟨b,off,none⟩) n c) (hs:a.eval s=.slice (some ad) m mc)
  (cur:List Value) (t:TypeId) (hb:w.heap[b]?=some (.cells cur.toArray t (0,0))) (l:List UInt8) (hl:l.length=Nat.min m n)
  (hsrc:∀(j:Nat) (v:Value),(ubs l)[j]?=some v→w.cell? (ad.add j)=some v) (hfit:off+l.length≤cur.length)
  (h:∀w',Kp (· =b) w w'→w'.heap[b]?=some (.cells (splice cur off (ubs l)).toArray t (0,0))→wpList Tryz.prog ops Q rest (a.put o.dst (.int .i64 l.length)) w') :
  wpList Tryz.prog ops Q (o::rest) a w:=by
 have hlen:(ubs l).length=l.length:=Bi l;refine wpList_copy_own hgd d s 27 27 ho 5 Tryz.underlying27 (by kernel_rfl) b off n c ad m mc hd hs cur.toArray t hb (ubs l) (by rw[hlen];exact hl) hsrc (by simpa[hlen] using hfit) (Il l) ?_
 rw[hlen];refine h _ (Kp.setRow (S:=(· =b)) (Kp.refl _ _) (.inl rfl) _) ?_;have:=setRow_heap w b cur.toArray (List.take off cur++(ubs l++List.drop (off+l.length) cur)).toArray t (0,0) hb;simpa[splice,hlen] using this
theorem D3 (cur:List Value)(off:Nat)(l:List UInt8)(h:off+l.length≤cur.length):(splice cur off (ubs l)).length=cur.length:=
 length_splice _ _ _ (by rw[Bi];exact h)
def By (a:Addr):Value:=.iface 327 (.pointer (some a))
def Gb:List Nat:=[0,1,2,3,4,5,6,8]
structure Glob (E:Nat→Addr)(B:Nat)(w:World):Prop where
 var:∀g∈Gb,g<B∧w.cell? ⟨g,0,none⟩=some (By (E g))
 row:∀g∈Gb,(E g).block<B∧∃c t,w.heap[(E g).block]?=some (.cells c t (0,0))
 ne:∀g∈Gb,∀h∈Gb,g≠h→E g≠E h
 size:B≤w.heap.size
theorem Glob.keep {E:Nat→Addr}{B:Nat}{w w':World}{S:Nat→Prop}(h:Glob E B w)(k:Kp S w w')(hS:∀b,S b→B≤b):Glob E B w':=
 ⟨fun g hg=>⟨(h.var g hg).1,k.cell (h.var g hg).2 fun hs=>by have:=hS _ hs;have:=(h.var g hg).1;simp at *;omega⟩,
  fun g hg=>⟨(h.row g hg).1,let ⟨c,t,hc⟩:=(h.row g hg).2;⟨c,t,k.heap hc fun hs=>by have:=hS _ hs;have:=(h.row g hg).1;omega⟩⟩,
  h.ne,Nat.le_trans h.size k.size⟩
theorem Glob.eof {E:Nat→Addr}{B:Nat}{w:World}(h:Glob E B w):w.cell? ⟨0,0,none⟩=some (By (E 0)):=(h.var 0 (by decide)).2
theorem Glob.unexp {E:Nat→Addr}{B:Nat}{w:World}(h:Glob E B w):w.cell? ⟨5,0,none⟩=some (By (E 5)):=(h.var 5 (by decide)).2
theorem Lv:∃i,Tryz.prog.info? 327=some i∧i.comparable=true:=by
 have h:(Tryz.prog.info? 327).map (·.comparable)=some true:=by kernel_rfl
 obtain⟨i,h1,h2⟩:=Option.map_eq_some_iff.1 h;exact⟨i,h1,h2⟩
theorem Lw:∃i,Tryz.prog.info? 329=some i∧i.size≠0:=by
 have h:(Tryz.prog.info? 329).map (·.size)=some 1:=by kernel_rfl
 obtain⟨i,h1,h2⟩:=Option.map_eq_some_iff.1 h;exact⟨i,h1,by omega⟩
@[go_sem] theorem Bdl (w:World)(a:Addr):(binOp .eql 90 (By a) (By a)).run Tryz.prog w=.ok (.bool true) w:=by
 obtain⟨i,hi,hc⟩:=Lv;obtain⟨j,hj,_⟩:=Lw;exact run_eql_iface_ptr_same w a Tryz.underlying90 Tryz.underlying327 hi hc hj
theorem Dh {E:Nat→Addr}{B:Nat}{w:World}(H:Glob E B w){g h:Nat}(hg:g∈Gb)(hh:h∈Gb)(hne:g≠h) :
  (binOp .eql 90 (By (E g)) (By (E h))).run Tryz.prog w=.ok (.bool false) w:=by
 obtain⟨i,hi,hc⟩:=Lv;obtain⟨j,hj,hs⟩:=Lw;obtain⟨_,c1,t1,h1⟩:=H.row g hg;obtain⟨_,c2,t2,h2⟩:=H.row h hh;exact run_eql_iface_ptr_other w Tryz.underlying90 Tryz.underlying327 hi hc hj hs (H.ne g hg h hh hne) h1 h2
theorem Ba6:Tryz.prog.underlying 90=some (.interface (Tryz.prog.methodsAt 90)):=by kernel_rfl
@[go_sem] theorem Bek (w:World)(a:Addr):(binOp .eql 90 (By a) .nilIface).run Tryz.prog w=.ok (.bool false) w:=
 run_eql_held_nil w 90 327 _ Ba6
@[go_sem] theorem Bel (w:World)(a:Addr):(binOp .eql 90 .nilIface (By a)).run Tryz.prog w=.ok (.bool false) w:=
 run_eql_iface_nil_left w 327 _ Tryz.underlying90
@[go_sem] theorem Ba1 (w:World)(a:Addr):(binOp .neq 90 (By a) .nilIface).run Tryz.prog w=.ok (.bool true) w:=
 run_neq_held_nil w 90 327 _ Ba6
@[go_sem] theorem Bft (a:Addr):(By a).oneCell'=true:=rfl
@[go_sem] theorem Ba2 (w:World)(op:BinOp)(t:TypeId)(x y:Operand)(a:Addr)(b:Value):(eqGuard op t x y (By a) b).run Tryz.prog w=.ok () w:=by
 unfold By;cases op<;>cases b<;>rfl
@[go_sem] theorem Ba3 (w:World)(op:BinOp)(t:TypeId)(x y:Operand)(a:Addr)(b:Value):(eqGuard op t x y b (By a)).run Tryz.prog w=.ok () w:=by
 unfold By;cases op<;>cases b<;>rfl
theorem Km (w:World)(a:Addr):(binOp .neq 90 (By a) (By a)).run Tryz.prog w=.ok (.bool false) w:=by
 obtain⟨i,hi,hc⟩:=Lv;obtain⟨j,hj,_⟩:=Lw;simp only[binOp];simp[Op.equal,Op.maxDepth,By,run_equalIn_iface_ptr_same w 9998 a Tryz.underlying90 Tryz.underlying327 hi hc hj]
attribute [go_sem] Km
theorem Me {E:Nat→Addr}{B:Nat}{w:World}(H:Glob E B w){g h:Nat}(hg:g∈Gb)(hh:h∈Gb)(hne:g≠h) :
  (binOp .neq 90 (By (E g)) (By (E h))).run Tryz.prog w=.ok (.bool true) w:=by
 obtain⟨i,hi,hc⟩:=Lv;obtain⟨j,hj,hs⟩:=Lw;obtain⟨_,c1,t1,h1⟩:=H.row g hg;obtain⟨_,c2,t2,h2⟩:=H.row h hh;simp only[binOp];simp[Op.equal,Op.maxDepth,By,run_equalIn_iface_ptr_other w 9998 Tryz.underlying90 Tryz.underlying327 hi hc hj hs (H.ne g hg h hh hne) h1 h2]
def OwnB (w:World)(base:Nat)(v:Value)(l:List UInt8):Prop:=w.ownsRow base 5 1 v l.length (ubs l)
theorem OwnB.nil (w:World)(base:Nat):OwnB w base (.slice none 0 0) []:=⟨by simp[ubs], .inl ⟨rfl,rfl⟩⟩
theorem Kp.of_grownBy {w w':World}{row:Option Nat}(h:w.grownBy w' row):Kp (fun k=>some k=row) w w':=
 ⟨h.os,h.tape,h.output,h.size,fun k hk hs=>h.block k hk fun e=>hs e⟩
theorem OwnB.keep {w w':World}{base:Nat}{v:Value}{l:List UInt8}{S:Nat→Prop}(h:OwnB w base v l)(k:Kp S w w')(hS:∀b,v.ownBlock=some b→¬S b):OwnB w' base v l:=by
 obtain⟨h1,h2⟩:=h;refine⟨h1,?_⟩;rcases h2 with h2|⟨g,cap,cur,rfl,hg,hh,r⟩
 ·exact .inl h2
 ·exact .inr ⟨g,cap,cur,rfl,hg,k.heap hh (hS g rfl),r⟩
theorem OwnB.block {w:World}{base:Nat}{v:Value}{l:List UInt8}(h:OwnB w base v l){b:Nat}(hb:v.ownBlock=some b):base≤b∧b<w.heap.size:=by
 rcases h.2 with ⟨rfl,_⟩|⟨g,cap,cur,rfl,hg,hh,r⟩
 ·cases hb
 ·obtain rfl:g=b:=by simpa[Value.ownBlock] using hb
  exact⟨hg,Bv hh⟩
theorem OwnB.shape {w:World}{base:Nat}{v:Value}{l:List UInt8}(h:OwnB w base v l):∃A c,v=.slice A l.length c:=by
 rcases h.2 with ⟨rfl,h0⟩|⟨g,cap,cur,rfl,_⟩
 ·exact⟨none,0,by rw[h0]⟩
 ·exact⟨_,cap,rfl⟩
theorem info5:∃i,Tryz.prog.info? 5=some i∧i.zero=some (.int .u8 0)∧i.size=1∧i.bytes=1:=by
 have h:(Tryz.prog.info? 5).map (fun i=>(i.zero,i.size,i.bytes))=some (some (.int .u8 0),1,1):=by kernel_rfl
 obtain⟨i,h1,h2⟩:=Option.map_eq_some_iff.1 h;simp only[Prod.mk.injEq] at h2;exact⟨i,h1,h2⟩
theorem Io {w:World}{ops:Array Oper}{rest:List Oper}{o:Oper}{a:Act}{Q:Exit→Act→World→Prop}(hgd:o.guard=none)(s x:Operand)
  (ho:o.op=.call {callee:=.builtin .append,args:= #[s,x],argTypes:= #[27,27]})
  (base:Nat) (v:Value) (xs:List UInt8) (hs:a.eval s=v) (hown:OwnB w base v xs)
  (ad:Addr) (m c:Nat) (l:List UInt8) (hx:a.eval x=.slice (some ad) m c) (hl:l.length=m) (hcells:∀(j:Nat) (u:Value),(ubs l)[j]?=some u→w.cell? (ad.add j)=some u)
  (hbytes:xs.length+m≤140737488355328) (hbase:base≤w.heap.size)
  (h:∀v' w',OwnB w' base v' (xs++l)→Kp (fun k=>some k=v.ownBlock) w w'→(v'.ownBlock=v.ownBlock∨v'.ownBlock=some w.heap.size)→wpList Tryz.prog ops Q rest (a.put o.dst v') w'):wpList Tryz.prog ops Q (o::rest) a w:=by
 obtain⟨i0,hi,hz,hsz,hby⟩:=info5;refine wpList_plain hgd fun K hK=>?_;obtain⟨v',w',hrun,h2,h3,_,h5⟩:=run_append_own_at (P:=Tryz.prog) w base 27 o.type 5 i0 (.int .u8 0) 1 1 Tryz.underlying27 hi hz hsz hby rfl (by omega) v xs.length (ubs xs) hown ad m c (ubs l) (by rw[Bi,hl,Nat.mul_one]) hcells (Il l) (by simp only[maxLen];omega) (by omega) hbase
 unfold Oper.wp;simp[execOp,ho,resolve,invoke,builtin,hs,hx,hrun,Result.andThen];refine hK _ _ (h v' w' ?_ (Kp.of_grownBy h3) h5);unfold OwnB;rw[D2,List.length_append,hl];exact h2
theorem Q9:Tryz.prog.arrayLen 155=512:=by kernel_rfl
theorem Ba7:Tryz.prog.underlying 155=some (.array (Tryz.prog.arrayLen 155) (Tryz.prog.elem 155)):=by kernel_rfl
theorem Yz:Tryz.prog.elem 155=5:=by kernel_rfl
theorem Ur (w:World):(sizeOf 5).run Tryz.prog w=.ok 1 w:=by
 obtain⟨i,h,_,h2,_⟩:=info5;simp[sizeOf,typeInfo,h,h2]
theorem Ra (w:World)(a:Addr)(m:Nat)(h:m≤512) :
  (Instr.sliceAt 155 (.pointer (some a)) none (some (.int .i64 (m:Int))) none).run Tryz.prog w=.ok (.slice (some a) m 512) w:=by
 rw[run_sliceAt_array_h w 155 a Ba7 .i64 (m:Int) (by omega) (by rw[Q9];omega),Yz,Ur,Q9]
 simp[slicedAt,Addr.add]
theorem Rb (w:World)(b o m:Nat)(h:m<512) :
  (Instr.sliceAt 155 (.pointer (some ⟨b,o,none⟩)) (some (.int .i64 (m:Int))) none none).run Tryz.prog w=.ok (.slice (some ⟨b,o+m,none⟩) (512-m) (512-m)) w:=by
 rw[run_sliceAt_array_l w 155 ⟨b,o,none⟩ Ba7 .i64 (m:Int) (by omega) (by rw[Q9];omega),Yz,Ur,Q9]
 simp[slicedAt,add_plain',show ¬512=m by omega]
attribute [go_sem] Ra Rb
def Lx (E:Nat→Addr)(S:Nat→Prop)(inv:World→Nat→List UInt8→Prop)(w:World)(g:Nat)(rest:List UInt8)(b off n:Nat)(cur:List Value)(t:TypeId)(e:Ending)(w':World):Prop:=
 ∃(m:Nat) (err:Value),e=.returned (.tuple #[.int .i64 m,err])∧m≤n∧m≤rest.length∧(err=.nilIface∧1≤m∨err=By (E g)∧m=rest.length) ∧
  Kp (fun k=>S k∨k=b) w w'∧w'.heap[b]?=some (.cells (splice cur off (ubs (rest.take m))).toArray t (0,0))∧inv w' g (rest.drop m)
structure IsRd (E:Nat→Addr)(B:Nat)(T:TypeId)(v:Value)(S:Nat→Prop)(inv:World→Nat→List UInt8→Prop):Prop where
 low:∀k,S k→B≤k
 foot:∀ {w g rest},inv w g rest→(g=0∨g=5)∧∀k,S k→k<w.heap.size
 frame:∀ {w w' g rest},inv w g rest→(∀k,S k→w'.heap[k]?=w.heap[k]?)→inv w' g rest
 reads : ∃ (f : FuncId) (recv : Value), (∀ w, (method 560 T v "Read").run Tryz.prog w = .ok (f, recv) w) ∧ (∀ w, (nilAhead 560 T v "Read").run Tryz.prog w = .ok (some false) w) ∧
  (∀args w,(callFunc f args).run Tryz.prog w=.ok (.enter f args) w) ∧
  ∀w g rest b off n c cur t,Glob E B w→inv w g rest→1≤n→n≤281474976710656→w.heap[b]?=some (.cells cur.toArray t (0,0))→off+n≤cur.length→n≤c→¬S b→B≤b →
   Calls Tryz.prog f #[recv, .slice (some ⟨b,off,none⟩) n c] w (Lx E S inv w g rest b off n cur t)
def Nil0 (v:Value):Prop:=v=.slice none 0 0∨∃a c,v=.slice (some a) 0 c
theorem Nil0.shape {v:Value}(h:Nil0 v):∃A c,v=.slice A 0 c:=by
 rcases h with rfl|⟨a,c,rfl⟩
 ·exact⟨none,0,rfl⟩
 ·exact⟨some a,c,rfl⟩
theorem Nil0.one {v:Value}(h:Nil0 v):v.oneCell'=true:=by
 obtain⟨A,c,rfl⟩:=h.shape;rfl
end
end Go.Proofs.YtgfcnjfmmjcodaaGreatDoor
