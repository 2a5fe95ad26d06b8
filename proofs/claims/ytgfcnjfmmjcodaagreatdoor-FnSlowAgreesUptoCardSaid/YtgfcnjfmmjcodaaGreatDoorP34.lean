/- What the listed variables give. -/
import Derived.Test.YtgfcnjfmmjcodaaGreatDoorRows
import Derived.Lib.LaidU8
import Derived.Test.YtgfcnjfmmjcodaaGreatDoorP03
set_option linter.all false
set_option maxRecDepth 100000
set_option maxHeartbeats 1000000
open Go.Lib (hid)
namespace Go.Proofs.YtgfcnjfmmjcodaaGreatDoor
section
open Go Go.RowKit
def VarAt (W:World)(ps:List MemPlace)(n:String)(d:DataW Unit)(p:List MemPlace):Prop:=
 ∃g t cs fuel,Tryz.prog.globalNamed n=some g∧(Tryz.prog.globals[g]?).map (·.type)=some t∧W.var? Tryz.prog n=some cs∧DataW.trod (fun _=>()) Tryz.prog W 0 (fun _=>true) false fuel t cs.toList=some (d,p)∧∀x∈MemPlace.row ⟨g,0,none⟩ cs.size++p,x∈ps
theorem VarAt.mono {W:World}{ps qs:List MemPlace}{n:String}{d:DataW Unit}{p:List MemPlace}(h:VarAt W ps n d p)(k:∀x∈ps,x∈qs):VarAt W qs n d p:=by
 obtain⟨g,t,cs,fuel,h1,h2,h3,h4,h5⟩:=h;exact⟨g,t,cs,fuel,h1,h2,h3,h4,fun x hx=>k x (h5 x hx)⟩
theorem Oq {W:World}:∀ {l:List (String × DataW Unit)} {ps:List MemPlace},DataW.LaidVars Tryz.prog W l ps→∀ {j:Nat} {n:String} {d:DataW Unit},l[j]?=some (n,d)→∃p,VarAt W ps n d p∧∀x∈p,x∈ps
 |[],_,_,j,n,d,hj=>by cases hj
 |(n',d')::r,ps,h,j,n,d,hj=>by
  obtain⟨g,t,cs,fuel,p,q,h1,h2,h3,h4,h5,rfl⟩:=h
  cases j with
  |zero=>
   injection hj with hj
   injection hj with e1 e2
   subst e1 e2
   exact⟨p,⟨g,t,cs,fuel,h1,h2,h3,h4,fun x hx=>List.mem_append_left _ hx⟩,fun x hx=>List.mem_append_left _ (List.mem_append_right _ hx)⟩
  |succ j=>
   obtain⟨p',k1,k2⟩:=Oq h5 (j:=j) hj
   exact⟨p',k1.mono (fun x hx=>List.mem_append_right _ hx),fun x hx=>List.mem_append_right _ (k2 x hx)⟩
theorem Xh {W:World}:∀ {l:List (String × DataW Unit)} {ps:List MemPlace},DataW.LaidVars Tryz.prog W l ps→ps.Nodup→∀ {i j:Nat} {n m:String} {d e:DataW Unit},i<j→l[i]?=some (n,d)→l[j]?=some (m,e) →
  ∃p q,VarAt W ps n d p∧VarAt W ps m e q∧∀x∈p,x∉q
 |[],_,_,_,i,j,n,m,d,e,hij,hi,hj=>by cases hi
 |(n',d')::r,ps,h,hnd,i,j,n,m,d,e,hij,hi,hj=>by
  obtain⟨g,t,cs,fuel,p,q,h1,h2,h3,h4,h5,rfl⟩:=h
  have hq:q.Nodup:=(List.nodup_append.1 hnd).2.1
  have hpq:∀x∈p,x∉q:=fun x hx hx2=>(List.nodup_append.1 hnd).2.2 x (by simp[hx]) x hx2 rfl
  obtain⟨j,rfl⟩:∃k,j=k+1:=⟨j-1,by omega⟩
  cases i with
  |zero=>
   injection hi with hi
   injection hi with e1 e2
   subst e1 e2
   obtain⟨p',k1,k2⟩:=Oq h5 (j:=j) hj
   exact⟨p,p',⟨g,t,cs,fuel,h1,h2,h3,h4,fun x hx=>List.mem_append_left _ hx⟩,k1.mono (fun x hx=>List.mem_append_right _ hx),fun x hx hx2=>hpq x hx (k2 x hx2)⟩
  |succ i=>
   obtain⟨p1,q1,k1,k2,k3⟩:=Xh h5 hq (i:=i) (j:=j) (by omega) hi hj
   exact⟨p1,q1,k1.mono (fun x hx=>List.mem_append_right _ hx),k2.mono (fun x hx=>List.mem_append_right _ hx),k3⟩
def Bga (text : List UInt8) : DataW Unit := .iface "*errors.errorString" (.ptr (.agg [.lit (.string text)]))
theorem VarAt.err {W:World}{ps p:List MemPlace}{n:String}{g:Nat}{text:List UInt8}(h:VarAt W ps n (Bga text) p)(hg:Tryz.prog.globalNamed n=some g)(ht:(Tryz.prog.globals[g]?).map (·.type)=some 90)
  (hr:∀b off,MemPlace.cell b off∈ps→(∃c t,W.heap[b]?=some (.cells c t (0,0)))∧∀u v,W.cell? ⟨b,off,none⟩=some (.iface u v)→Value.okWide Tryz.prog W .any 0 u v) :
  ∃a,W.cell? ⟨g,0,none⟩=some (By a)∧p=MemPlace.row a 1∧∃c t,W.heap[a.block]?=some (.cells c t (0,0)):=by
 obtain⟨g',t,cs,fuel,h1,h2,h3,h4,h5⟩:=h;obtain rfl:=Option.some.inj (hg.symm.trans h1);obtain rfl:=Option.some.inj (ht.symm.trans h2);obtain⟨l⟩:=cs;have ok:∀u v,l=[.iface u v]→Value.okWide Tryz.prog W .any 0 u v:=fun u v e=>by
  subst e;exact(hr g 0 (h5 _ (by simp[MemPlace.row]))).2 u v (by simpa using World.var?_cell h1 h3 0)
 obtain⟨a,s,e,hc,hs,hz,hp⟩:=errorString_of_trod Tryz.underlying90 Be1 Tryz.underlying327 Tryz.underlying329 rfl rfl Tryz.underlying9 c90 c9' h4 ok;subst hp;have e:l=[.iface 327 (.pointer (some a))]:=e;subst e;refine⟨a,(show W.cell? ⟨g,0,none⟩=some (.iface 327 (.pointer (some a))) by simpa using World.var?_cell h1 h3 0),rfl,(hr a.block a.off (h5 _ (by simp[MemPlace.row]))).1⟩
def Xi (W:World)(g:Nat):Addr:=match W.cell? ⟨g,0,none⟩ with|some (.iface _ (.pointer (some a)))=>a|_=>⟨0,0,none⟩
theorem Kl {W:World}{g:Nat}{a:Addr}(h:W.cell? ⟨g,0,none⟩=some (By a)):Xi W g=a:=by
 unfold Xi;rw[h];rfl
theorem Bgh {W:World}{L:List (String × DataW Unit)}(hL:laidMet Tryz.prog L W)(pos:Nat→Nat)
  (hpos:∀g∈Gb,∃n text,Tryz.prog.globalNamed n=some g∧(Tryz.prog.globals[g]?).map (·.type)=some 90∧L[pos g]?=some (n,Bga text))
  (hinj:∀g∈Gb,∀h∈Gb,g≠h→pos g≠pos h):Glob (Xi W) W.heap.size W:=by
 obtain⟨ps,hv,hnd,hr⟩:=hL;have one:∀g∈Gb,∃a,W.cell? ⟨g,0,none⟩=some (By a)∧∃c t,W.heap[a.block]?=some (.cells c t (0,0)):=fun g hg=>by
  obtain⟨n,text,h1,h2,h3⟩:=hpos g hg;obtain⟨p,k1,_⟩:=Oq hv h3;obtain⟨a,e1,_,e2⟩:=k1.err h1 h2 hr;exact⟨a,e1,e2⟩
 have two:∀g∈Gb,∀h∈Gb,pos g<pos h→Xi W g≠Xi W h:=fun g hg h hh hlt e=>by
  obtain⟨n,text,h1,h2,h3⟩:=hpos g hg;obtain⟨m,text',k1,k2,k3⟩:=hpos h hh;obtain⟨p,q,v1,v2,hd⟩:=Xh hv hnd hlt h3 k3;obtain⟨a,a1,a2,_⟩:=v1.err h1 h2 hr;obtain⟨b,b1,b2,_⟩:=v2.err k1 k2 hr;rw[Kl a1,Kl b1] at e;subst e a2 b2;exact hd (.cell a.block a.off) (by simp[MemPlace.row]) (by simp[MemPlace.row])
 refine⟨fun g hg=>?_,fun g hg=>?_,fun g hg h hh hne=>?_,Nat.le_refl _⟩
 ·obtain⟨a,h1,_⟩:=one g hg;exact⟨World.block_lt_of_cell? W _ h1,by rw[Kl h1];exact h1⟩
 ·obtain⟨a,h1,c,t,h2⟩:=one g hg;rw[Kl h1];exact⟨Bv h2,c,t,h2⟩
 ·have:=hinj g hg h hh hne;rcases Nat.lt_or_gt_of_ne this with h1|h1
  ·exact two g hg h hh h1
  ·exact fun e=>two h hh g hg h1 e.symm
end
section
open Go Go.RowKit Go.Lib
theorem Yv : Rows.laid_unicode_utf8_first = firstData := by kernel_rfl
theorem Xj : (Rows.laid_unicode_utf8_acceptRanges : DataW Unit) = acceptData := by kernel_rfl
theorem n14 : Tryz.prog.globalNamed "unicode/utf8.first" = some 14 := by kernel_rfl
theorem n15 : Tryz.prog.globalNamed "unicode/utf8.acceptRanges" = some 15 := by kernel_rfl
theorem y14 : (Tryz.prog.globals[14]?).map (·.type) = some 431 := by kernel_rfl
theorem y15 : (Tryz.prog.globals[15]?).map (·.type) = some 434 := by kernel_rfl
theorem c5' : Tryz.prog.cellsOf 5 = 1 := by kernel_rfl
theorem Bgo : Tryz.prog.cellsOf 431 = 256 := by kernel_rfl
theorem Bgb : Tryz.prog.cellsOf 433 = 2 := by kernel_rfl
theorem Bgi {w : World} {L : List (String × DataW Unit)} (hL : laidMet Tryz.prog L w) (h3 : ("unicode/utf8.first", Rows.laid_unicode_utf8_first) ∈ L) (h4 : ("unicode/utf8.acceptRanges", Rows.laid_unicode_utf8_acceptRanges) ∈ L) : Lib.Utf8Tabs 14 15 w := by
  have r3 := Lib.laidMet.reads hL h3
  have r4 := Lib.laidMet.reads hL h4
  rw [Yv] at r3
  rw [Xj] at r4
  refine ⟨fun c hc => ?_, fun i hi => ?_⟩
  · obtain ⟨g, t, cs, fuel, p, hg, hty, hvar, hd⟩ := r3
    obtain rfl := Option.some.inj (n14.symm.trans hg)
    obtain rfl := Option.some.inj (y14.symm.trans hty)
    have hcs := cells_of_tab Tryz.underlying431 Tryz.underlying5 c5' Bgo hd
    have := World.var?_cell hg hvar c
    rw [this, ← Array.getElem?_toList, hcs]
    simp [firstTab, hc]
  · obtain ⟨g, t, cs, fuel, p, hg, hty, hvar, hd⟩ := r4
    obtain rfl := Option.some.inj (n15.symm.trans hg)
    obtain rfl := Option.some.inj (y15.symm.trans hty)
    obtain ⟨fuel', d, q, hdi, he⟩ := array_elem Tryz.underlying434 hd i hi
    simp only [List.getElem?_map, List.getElem?_range hi, Option.map_some, Option.some.injEq] at hdi
    subst hdi
    rw [Bgb] at he
    have hcs := ints_of_struct Tryz.underlying433 (fun j f hj => by
      match j, hj with
      | 0, hj => simp at hj; subst hj; exact ⟨Tryz.underlying5, rfl, c5'⟩
      | 1, hj => simp at hj; subst hj; exact ⟨Tryz.underlying5, rfl, c5'⟩
      | j + 2, hj => simp at hj) (by rw [Bgb]; rfl) he
    have e0 := congrArg (·[0]?) hcs
    have e1 := congrArg (·[1]?) hcs
    simp only [List.getElem?_take, List.getElem?_drop] at e0 e1
    constructor
    · rw [World.var?_cell hg hvar (2 * i), ← Array.getElem?_toList]
      simpa [Nat.mul_comm] using e0
    · rw [World.var?_cell hg hvar (2 * i + 1), ← Array.getElem?_toList]
      simpa [Nat.mul_comm] using e1
theorem Bfr {w : World} (h : Lib.Utf8Tabs 14 15 w) : 16 ≤ w.heap.size := by
  have := (h.2 0 (by decide)).1
  have := World.block_lt_of_cell? w _ this
  exact this
end
end Go.Proofs.YtgfcnjfmmjcodaaGreatDoor
