/- told. -/
import Derived.Deep.MidRow
import Derived.Test.YtgfcnjfmmjcodaaGreatDoorP21
set_option linter.all false
set_option maxRecDepth 100000
set_option maxHeartbeats 1000000
open Go.Lib (hid)
namespace Go.Proofs.YtgfcnjfmmjcodaaGreatDoor
open Go Go.RowKit
theorem Adds.mem {ad:List Add}{l:List Rec}(h:Adds ad l):∀r∈l,∃a∈ad,r=(a.1,a.2.1)∧r.2≠[]:=by
 induction h with
 |nil=>intro r hr;cases hr
 |snoc a h hk ih=>
  intro r hr;rcases hk with ⟨rfl,hv⟩|⟨rfl,_⟩
  ·rw[List.mem_append,List.mem_singleton] at hr;rcases hr with hr|rfl
   ·obtain⟨b,hb,h1⟩:=ih r hr;exact⟨b,List.mem_append_left _ hb,h1⟩
   ·exact⟨a,List.mem_append_right _ (List.mem_singleton.2 rfl),rfl,hv⟩
  ·obtain⟨b,hb,h1⟩:=ih r hr;exact⟨b,List.mem_append_left _ hb,h1⟩
theorem Adds.has {ad:List Add}{l:List Rec}(h:Adds ad l):∀a∈ad,a.2.2=true→a.2.1≠[]→(a.1,a.2.1)∈l:=by
 induction h with
 |nil=>intro a ha;cases ha
 |snoc a h hk ih=>
  intro b hb hm hv;rw[List.mem_append,List.mem_singleton] at hb;rcases hb with hb|rfl
  ·have:=ih b hb hm hv;rcases hk with ⟨rfl,_⟩|⟨rfl,_⟩
   ·exact List.mem_append_left _ this
   ·exact this
  ·rcases hk with ⟨rfl,_⟩|⟨rfl,h1|h1⟩
   ·exact List.mem_append_right _ (List.mem_singleton.2 rfl)
   ·exact absurd h1 hv
   ·rw[hm] at h1;cases h1
def Dy (ad:List Add):Nat:=(ad.map fun a=>a.1.length+a.2.1.length+10).sum
theorem Yb (ad:List Add)(a:Add):Dy (ad++[a])=Dy ad+(a.1.length+a.2.1.length+10):=by
 unfold Dy;rw[List.map_append,List.sum_append];simp
theorem Adds.wt {ad:List Add}{l:List Rec}(h:Adds ad l):B9 l≤Dy ad:=by
 induction h with
 |nil=>exact Nat.le_refl _
 |snoc a h hk ih=>
  rw[Yb];rcases hk with ⟨rfl,_⟩|⟨rfl,_⟩
  ·rw[Co];(have:B9 [(a.1,a.2.1)]=a.1.length+a.2.1.length+10:=by simp[B9]);omega
  ·omega
theorem Yc {a b:List Rec}(h:a.Perm b):B9 a=B9 b:=by
 unfold B9;exact(h.map _).sum_nat
theorem Oe (s n:Int)(z:Nat)(hn:0≤n∧n<1000000000)(hs: -100000000000000000≤s∧s≤100000000000000000)(hz:z≤1):(Bg s n z).length≤40:=by
 have h1:∀a:Nat,(Lib.decDigits (if s<0 then (if 0<n then (-s-1).toNat else (-s).toNat) else s.toNat)).length≤18:=fun _=>Cr _ 18 (by omega) (by split<;>(try split)<;>omega)
 have h2:∀a:Nat,a<1000000000→(C2 (Ee a)).length≤9:=fun a ha=>by
  have:=Qj (Ee a);rw[Jy a ha] at this;exact this
 unfold Bg;simp only;have h3:=h1 0;have h4:=h2 (if s<0∧0<n then (1000000000-n).toNat else n.toNat) (by split<;>omega)
 rw[List.length_append,List.length_append];have h5:(if s<0 then [(45:UInt8)] else []).length≤1:=by split<;>simp
 have h6:∀p:List UInt8,p.length≤10→(if p=[] then ([]:List UInt8) else 46::p).length≤11:=fun p hp=>by split<;>simp<;>omega
 have h7:=h6 (C2 (Ee (if s<0∧0<n then (1000000000-n).toNat else n.toNat))++List.replicate z 48) (by rw[List.length_append,List.length_replicate];omega)
 omega
theorem Jj {k:Nat}{l:List UInt8}(h:¬Ascii l∨k<l.length):Bl k l=true:=by
 unfold Bl;rcases h with h|h
 ·have:l.all okA=false:=by
   rw[←Bool.not_eq_true];exact fun e=>h ((Iw l).1 e)
  rw[this];rfl
 ·rw[decide_eq_true h,Bool.or_true]
theorem Bao {l:List UInt8}(h:¬Ascii l∨100<l.length∧¬Dj l):Ca l=true:=by
 unfold Ca;rcases h with h|⟨h,h2⟩
 ·have:l.all okA=false:=by
   rw[←Bool.not_eq_true];exact fun e=>h ((Iw l).1 e)
  rw[this];rfl
 ·have:spB l=false:=by
   rw[←Bool.not_eq_true];exact fun e=>h2 ((Zc l).1 e)
  rw[decide_eq_true h,this,Bool.true_and,Bool.not_false,Bool.or_true]
theorem Eu (n:Nat):Lib.decDigits n≠[]:=by
 have:=L3 n;intro e;rw[e] at this;simp at this
theorem Ui (s n:Int)(z:Nat):Bg s n z≠[]:=by
 unfold Bg;simp only;intro e;rw[List.append_eq_nil_iff,List.append_eq_nil_iff] at e;exact Eu _ e.1.2
structure TldW (h:Hd):Prop where
 w:weight h≤524288
 size:h.size≤9223372036854775807
 uid:h.uid≤9223372036854775807
 gid:h.gid≤9223372036854775807
 mn:0≤h.mn∧h.mn<1000000000
 ms: -100000000000000000≤h.ms∧h.ms≤100000000000000000
 acc:h.hasA=true→(-100000000000000000≤h.ats∧h.ats≤100000000000000000)∧0≤h.atn∧h.atn<1000000000
 chg:h.hasC=true→(-100000000000000000≤h.cts∧h.cts≤100000000000000000)∧0≤h.ctn∧h.ctn<1000000000
 own:∀r∈h.recs,r.2≠[]
theorem Lk (l:List Rec):B9 l≤(l.map fun r=>r.1.length+r.2.length+24).sum:=by
 induction l with
 |nil=>exact Nat.le_refl _
 |cons r l ih=>
  unfold B9 at ih ⊢;simp only[List.map_cons,List.sum_cons];omega
theorem told_plain (h:Hd)(hc:TldW h)(l:List Rec)(hr:Bcs h l):ToldE h l:=by
 obtain⟨z0,z1,z2,l0,o,hz0,hz1,hz2,ha,hle,hp⟩:=hr;have hin:∀r,r∈l0→r∈l:=fun r hr=>hp.mem_iff.2 (List.mem_append_right _ hr);have key:∀a∈E9 h z0 z1 z2,a.2.2=true→a.2.1≠[]→D6 l a.1:=fun a h1 h2 h3=>⟨_,hin _ (ha.has a h1 h2 h3),rfl⟩;refine⟨?_,?_,?_,?_,?_,?_,?_,?_,?_,?_,?_,?_,?_⟩
 ·intro r hr;rw[hp.mem_iff,List.mem_append] at hr;rcases hr with hr|hr
  ·have:=(hle.mem r.1 r.2).1 hr;exact⟨by unfold Ql;simp only[this,or_true],hc.own _ (Cc _ _ _ this)⟩
  ·obtain⟨a,ham,rfl,hv⟩:=ha.mem r hr;refine⟨?_,hv⟩;unfold E9 at ham;rw[List.mem_append,List.mem_append,List.mem_append] at ham;unfold Ql;rcases ham with ((ham|ham)|ham)|ham
   ·simp only[List.mem_cons,List.not_mem_nil,or_false] at ham;rcases ham with rfl|rfl|rfl|rfl|rfl|rfl|rfl<;>simp
   ·rw[List.mem_singleton] at ham;subst ham;exact .inr (.inr (.inr (.inr (.inr (.inr (.inr (.inl ⟨rfl,z0,hz0,rfl⟩)))))))
   ·split at ham
    ·rename_i hA;rw[List.mem_singleton] at ham;subst ham;exact .inr (.inr (.inr (.inr (.inr (.inr (.inr (.inr (.inl ⟨rfl,hA,z1,hz1,rfl⟩))))))))
    ·cases ham
   ·split at ham
    ·rename_i hA;rw[List.mem_singleton] at ham;subst ham;exact .inr (.inr (.inr (.inr (.inr (.inr (.inr (.inr (.inr (.inl ⟨rfl,hA,z2,hz2,rfl⟩)))))))))
    ·cases ham
 ·intro h1 h2;exact key (Bo,h.name,Ca h.name) (by simp[E9]) (Bao h1) h2
 ·intro h1 h2;exact key (Br,h.link,Bl 100 h.link) (by simp[E9]) (Jj h1) h2
 ·intro h1 h2;exact key (Bj,h.un,Bl 31 h.un) (by simp[E9]) (Jj h1) h2
 ·intro h1 h2;exact key (Bm,h.gn,Bl 31 h.gn) (by simp[E9]) (Jj h1) h2
 ·intro h1;exact key (B1,Lib.decDigits h.size.toNat,!Bn 12 h.size) (by simp[E9]) (by simpa using h1) (Eu _)
 ·intro h1;exact key (Ck,Lib.decDigits h.uid.toNat,!Bn 8 h.uid) (by simp[E9]) (by simpa using h1) (Eu _)
 ·intro h1;exact key (Cn,Lib.decDigits h.gid.toNat,!Bn 8 h.gid) (by simp[E9]) (by simpa using h1) (Eu _)
 ·intro h1;exact key (kMtime,Bg h.ms h.mn z0,!decide (h.mn=0)|| !Bn 12 h.ms) (by simp[E9]) (by
   rcases h1 with h1|h1
   ·simp[h1]
   ·simp only[Bool.not_eq_true] at h1;simp[h1]) (Ui _ _ _)
 ·intro h1;exact key (kAtime,Bg h.ats h.atn z1,true) (by simp[E9,h1]) rfl (Ui _ _ _)
 ·intro h1;exact key (kCtime,Bg h.cts h.ctn z2,true) (by simp[E9,h1]) rfl (Ui _ _ _)
 ·intro k v hf;exact hp.mem_iff.2 (List.mem_append_left _ ((hle.mem k v).2 hf))
 ·rw[Yc hp,Co];have h1:=hle.wt;have h2:=Lk h.recs;have h3:=ha.wt;have h4:Dy (E9 h z0 z1 z2)≤h.name.length+h.link.length+h.un.length+h.gn.length+1000:=by
   (have d1:=Cr h.size.toNat 20 (by omega) (by have:=hc.size;omega));(have d2:=Cr h.uid.toNat 20 (by omega) (by have:=hc.uid;omega));(have d3:=Cr h.gid.toNat 20 (by omega) (by have:=hc.gid;omega));have d4:=Oe h.ms h.mn z0 hc.mn hc.ms hz0;have eA:Dy (if h.hasA then [(kAtime,Bg h.ats h.atn z1,true)] else [])≤100:=by
    split
    ·rename_i hA;have:=Oe h.ats h.atn z1 (hc.acc hA).2 (hc.acc hA).1 hz1;simp[Dy,kAtime];omega
    ·simp[Dy]
   have eC:Dy (if h.hasC then [(kCtime,Bg h.cts h.ctn z2,true)] else [])≤100:=by
    split
    ·rename_i hA;have:=Oe h.cts h.ctn z2 (hc.chg hA).2 (hc.chg hA).1 hz2;simp[Dy,kCtime];omega
    ·simp[Dy]
   (have ap:∀a b:List Add,Dy (a++b)=Dy a+Dy b:=fun a b=>by unfold Dy;rw[List.map_append,List.sum_append]);unfold E9;rw[ap,ap,ap];have e1:Dy [(Bo,h.name,Ca h.name),(Br,h.link,Bl 100 h.link),(Bj,h.un,Bl 31 h.un),(Bm,h.gn,Bl 31 h.gn),(B1,Lib.decDigits h.size.toNat,!Bn 12 h.size),(Ck,Lib.decDigits h.uid.toNat,!Bn 8 h.uid),(Cn,Lib.decDigits h.gid.toNat,!Bn 8 h.gid)]≤h.name.length+h.link.length+h.un.length+h.gn.length+300:=by
    simp[Dy,Bo,Br,Bj,Bm,B1,Ck,Cn];omega
   (have e2:Dy [(kMtime,Bg h.ms h.mn z0,!decide (h.mn=0)|| !Bn 12 h.ms)]≤100:=by simp[Dy,kMtime];omega);omega
  have h5:=hc.w;have h6:h.name.length+h.link.length+h.un.length+h.gn.length+B9 h.recs≤weight h:=Nat.add_le_add_left h2 _;omega
theorem Bp {P:Program}{ops:Array Oper}{o:Oper}{a:Act}{w:World}{K:Act→World→Prop}{Q:Exit→Act→World→Prop}{E:Prop}(hgd:o.guard=none)(s x:Operand)(t tn:TypeId)
  (ho:o.op=.call {callee:=.builtin .append,args:= #[s,x],argTypes:= #[t,tn]}) (vs vx:Value) (hs:a.eval s=vs) (hx:a.eval x=vx) (v':Value) (w':World)
  (hr:(Builtin.append_ #[t,tn] o.type #[vs,vx]).run P w=.ok v' w') (h:K (a.put o.dst v') w'):if Region.wanted o (yielded ops a.tmps)=true then Oper.wp P o a w K Q else E:=by
 have hw:Region.wanted o (yielded ops a.tmps)=true:=by simp[Region.wanted,hgd]
 rw[if_pos hw];exact Lib.wp_append_run w s x t tn ho vs vx hs hx v' w' hr h
structure FlSt (w0:World)(C m:Nat)(h:Hd)(rv dv:Value)(out:List UInt8)(w:World):Prop where
 cho:Cho w C m
 cp:w.heap[w0.heap.size]?=some (.cells #[.pointer (some ⟨C,0,none⟩)] 83 (0,0))
 fr:w.heap[w0.heap.size+1]?=some (.cells (Bd h rv++[dv]).toArray 47 (0,0))
 hd:w.heap[w0.heap.size+2]?=some (.cells (Bd h rv).toArray 45 (0,0))
 ov:∃v,w.heap[w0.heap.size+3]?=some (.cells #[v] 27 (0,0))∧OwnB w (w0.heap.size+4) v out
 kp:Kp (· =C) w0 w
theorem FlSt.grow {w0 w w':World}{C m:Nat}{h:Hd}{rv dv:Value}{out:List UInt8}(s:FlSt w0 C m h rv dv out w)(k:Kp (fun _=>False) w w'):FlSt w0 C m h rv dv out w':=by
 obtain⟨v,h1,h2⟩:=s.ov;exact⟨s.cho.keep k (fun _ h=>h.elim) (Nat.le_refl _),k.heap s.cp (fun h=>h),k.heap s.fr (fun h=>h),k.heap s.hd (fun h=>h),⟨v,k.heap h1 (fun h=>h),h2.keep k (fun _ _ h=>h)⟩,s.kp.then k (fun _ _ h=>h.elim)⟩
theorem FlSt.chose {w0 w w':World}{C m m':Nat}{h:Hd}{rv dv:Value}{out:List UInt8}(s:FlSt w0 C m h rv dv out w)(hC:C<w0.heap.size)(k:Kp (· =C) w w')(hc:Cho w' C m'):FlSt w0 C m' h rv dv out w':=by
 obtain⟨v,h1,h2⟩:=s.ov;exact⟨hc,k.heap s.cp (by omega),k.heap s.fr (by omega),k.heap s.hd (by omega),⟨v,k.heap h1 (by omega),h2.keep k (fun b hb e=>by have:=(h2.block hb).1;omega)⟩,s.kp.then k (fun i hi e=>by omega)⟩
theorem FlSt.more {w0 w:World}{C m m':Nat}{h:Hd}{rv dv:Value}{out:List UInt8}(s:FlSt w0 C m h rv dv out w)(hm:m≤m'):FlSt w0 C m' h rv dv out w:=
 ⟨s.cho.keep (Kp.refl (fun _=>False) _) (fun _ h=>h.elim) hm,s.cp,s.fr,s.hd,s.ov,s.kp⟩
theorem FlSt.app {w0 w:World}{C m:Nat}{h:Hd}{rv dv:Value}{out:List UInt8}(s:FlSt w0 C m h rv dv out w)(hC:C<w0.heap.size)(x:Value)(t:List UInt8)(hx:DataAt w x t)(hlen:out.length+t.length≤140737488355328)(ty:TypeId)
  (lv:Value) (hlv:w.cell? ⟨w0.heap.size+3,0,none⟩=some lv) :
  ∃A n c w',(Builtin.append_ #[27,27] ty #[lv,x]).run Tryz.prog w=.ok (.slice A n c) w'∧w'.cell? ⟨w0.heap.size+3,0,none⟩=some lv∧w'.frozen? ⟨w0.heap.size+3,0,none⟩=false ∧
   FlSt w0 C m h rv dv (out++t) (w'.setCell ⟨w0.heap.size+3,0,none⟩ (.slice A n c))∧Kp (fun i=>w0.heap.size+4≤i) w w':=by
 obtain⟨v,h1,h2⟩:=s.ov;have e:v=lv:=by
  have:=cell_of h1 0 (v:=v) rfl;rw[hlv] at this;injection this with this
  exact this.symm
 subst e;have hH:w0.heap.size+4≤w.heap.size:=by have:=Bv h1;omega
 obtain⟨v2,w2,hr,ho,hk,hb⟩:=Ge w ty (w0.heap.size+4) v x out t h2 hx hlen hH;obtain⟨A,c,rfl⟩:=ho.shape;have kw:Kp (fun i=>w0.heap.size+4≤i) w w2:=hk.mono fun i _ hi=>(h2.block hi.symm).1;have g1:=kw.heap h1 (by omega)
 have ks:Kp (· =w0.heap.size+3) w2 (w2.setCell ⟨w0.heap.size+3,0,none⟩ (.slice A (out++t).length c)):=Kp.setCell (S:=(· =w0.heap.size+3)) (p:=⟨w0.heap.size+3,0,none⟩) (Kp.refl _ w2) (.inl rfl) _;have g2:=heap_set g1 0 (.slice A (out++t).length c);refine⟨A,(out++t).length,c,w2,hr,cell_of g1 0 rfl,Bb g1 0,⟨(s.cho.keep kw (fun i hi=>by omega) (Nat.le_refl _)).keep ks (fun i hi=>by omega) (Nat.le_refl _),ks.heap (kw.heap s.cp (by omega)) (by omega),ks.heap (kw.heap s.fr (by omega)) (by omega),ks.heap (kw.heap s.hd (by omega)) (by omega),⟨.slice A (out++t).length c,by simpa using g2,ho.keep ks (fun b hb e=>by have:=(ho.block hb).1;omega)⟩,(s.kp.then kw (fun i hi e=>by omega)).then ks (fun i hi e=>by omega)⟩,kw⟩
theorem OwnB.dataAt {w:World}{base:Nat}{v:Value}{t:List UInt8}(ho:OwnB w base v t):DataAt w v t:=by
 obtain⟨A3,c3,rfl⟩:=ho.shape;rcases ho.2 with ⟨h1,h2⟩|⟨g,cap,cur,h1,h2,h3,h4,h5,h6,h7⟩
 ·exact .inl ⟨.inl h1,List.eq_nil_of_length_eq_zero h2⟩
 ·refine .inr ⟨g,0,cap,h1,fun j u hu=>?_⟩;rw[Nat.zero_add];refine cell_of h3 j ?_;rw[←h7,Nat.mul_one,List.getElem?_take] at hu;split at hu
  ·simpa using hu
  ·cases hu
def Ie (h:Hd)(f:Int):Nat→Prop
 |0=>(48≤h.typ.toNat∧h.typ.toNat≤55)∧h.name≠[]∧(Ia h.name=true→h.typ.toNat=53)∧(h.link≠[]→h.typ.toNat=49∨h.typ.toNat=50)
 |1=>h.typ.toNat≠51→h.typ.toNat≠52→h.maj=0∧h.min=0
 |2=>(NoNul h.name∧(f=1→Ascii h.name∧(h.name.length≤100∨Dj h.name)))∧TextP h.link 100 f∧OwnerP h.un f∧OwnerP h.gn f
 |3=>SmallP h.mode f false∧SmallP h.uid f true∧SmallP h.gid f true∧SmallP h.maj f false∧SmallP h.min f false
 |4=>(f=1→h.size<8589934592)∧MomP h.ms h.mn f
 |5=>0≤h.size∧(0<h.size→h.typ.toNat≠49∧h.typ.toNat≠50)
 |6=>f=1→(0≤h.ms∧h.ms<8589934592)∧h.hasA=false∧h.hasC=false
 |7=>h.hasA=true→MomP h.ats h.atn f
 |8=>h.hasC=true→MomP h.cts h.ctn f
 |9=>h.recs≠[]→f=2
 |_=>∀r∈h.recs,OwnOk r
def CanTo (h:Hd)(f:Int)(k:Nat):Prop:=∀j,j<k→Ie h f j
theorem CanTo.zero (h:Hd)(f:Int):CanTo h f 0:=fun j hj=>by omega
theorem CanTo.step {h:Hd}{f:Int}{k:Nat}(c:CanTo h f k)(n:Ie h f k):CanTo h f (k+1):=fun j hj=>by
 rcases Nat.lt_or_ge j k with h1|h1
 ·exact c j h1
 ·obtain rfl:j=k:=by omega
  exact n
structure CnSt (w:World)(h:Hd)(rv:Value)(wr:World):Prop where
 row:wr.heap[w.heap.size]?=some (.cells (Bd h rv).toArray 45 (0,0))
 kp:Kp (fun _=>False) w wr
theorem CnSt.grow {w:World}{h:Hd}{rv:Value}{wr w':World}(s:CnSt w h rv wr)(k:Kp (fun _=>False) wr w'):CnSt w h rv w':=
 ⟨k.heap s.row (fun h=>h),s.kp.trans k⟩
theorem CnSt.cell {w:World}{h:Hd}{rv:Value}{wr:World}(s:CnSt w h rv wr)(i:Nat){v:Value}(hv:(Bd h rv)[i]?=some v):wr.cell? ⟨w.heap.size,i,none⟩=some v:=
 cell_of s.row i (by rw[List.getElem?_toArray];exact hv)
def CnR (w:World)(h:Hd)(rv:Value)(f:Int)(k:Nat)(v:Int)(wx:World):Prop:=V3 v∧(v=1→CanTo h f k)∧CnSt w h rv wx
theorem CnR.open_ {w:World}{h:Hd}{rv:Value}{f:Int}{k:Nat}{wx:World}(s:CnSt w h rv wx):CnR w h rv f k 0 wx:=⟨.inl rfl,fun h=>absurd h (by decide),s⟩
theorem CnR.keep {w:World}{h:Hd}{rv:Value}{f:Int}{k:Nat}{v:Int}{wx wy:World}(s:CnR w h rv f k v wx)(c:Ie h f k)(k':Kp (fun _=>False) wx wy):CnR w h rv f (k+1) v wy:=
 ⟨s.1,fun e=>(s.2.1 e).step c,s.2.2.grow k'⟩
theorem CnR.join {w:World}{h:Hd}{rv:Value}{f:Int}{k:Nat}{v y:Int}{wx wy:World}(s:CnR w h rv f k v wx)(h3:V3 y)(hy:y=1→v=1)(c:y=1→Ie h f k)(k':Kp (fun _=>False) wx wy):CnR w h rv f (k+1) y wy:=
 ⟨h3,fun e=>(s.2.1 (hy e)).step (c e),s.2.2.grow k'⟩
theorem Of {a b:Int}(ha:V3 a)(hb:V3 b):∀v∈[a,b],V3 v:=fun v hv=>by
 rcases List.mem_cons.1 hv with rfl|hv
 ·exact ha
 ·rw[List.mem_singleton] at hv;exact hv▸hb
theorem Bs {a:Int}{l:List Int}(ha:V3 a)(hl:∀v∈l,V3 v):∀v∈a::l,V3 v:=fun v hv=>by
 rcases List.mem_cons.1 hv with rfl|hv
 ·exact ha
 ·exact hl v hv
theorem Ej:∀v∈([]:List Int),V3 v:=fun v hv=>by cases hv
theorem Bcv {w w':World}{a1 a2 a3:Addr}{v1 v2 v3:Value}{w0:World}(k:Kp (fun _=>False) w w')(h:w.cell? a1=some v1∧w.cell? a2=some v2∧w.cell? a3=some v3∧Kp (fun _=>False) w0 w):w'.cell? a1=some v1∧w'.cell? a2=some v2∧w'.cell? a3=some v3∧Kp (fun _=>False) w0 w':=
 ⟨k.cell h.1 (fun h=>h),k.cell h.2.1 (fun h=>h),k.cell h.2.2.1 (fun h=>h),h.2.2.2.trans k⟩
theorem Bet {w w':World}{a1 a2 a3 a4:Addr}{v1 v2 v3 v4:Value}{w0:World}(k:Kp (fun _=>False) w w')(h:w.cell? a1=some v1∧w.cell? a2=some v2∧w.cell? a3=some v3∧w.cell? a4=some v4∧Kp (fun _=>False) w0 w):w'.cell? a1=some v1∧w'.cell? a2=some v2∧w'.cell? a3=some v3∧w'.cell? a4=some v4∧Kp (fun _=>False) w0 w':=
 ⟨k.cell h.1 (fun h=>h),k.cell h.2.1 (fun h=>h),k.cell h.2.2.1 (fun h=>h),k.cell h.2.2.2.1 (fun h=>h),h.2.2.2.2.trans k⟩
theorem kpA (w:World)(o:Obj):Kp (fun _=>False) w (w.alloc o):=(Kp.refl _ _).alloc o
def TxV (s:List UInt8)(size f x:Int):Prop:=V3 x∧(x=1→TextP s size f)
def OwV (s:List UInt8)(f x:Int):Prop:=V3 x∧(x=1→OwnerP s f)
def MoV (s n f x:Int):Prop:=V3 x∧(x=1→MomP s n f)
theorem Bcw (w:World)(s:List UInt8)(size f:Int)(hf:f=1∨f=2∨f=3)(hl:s.length≤1099511627776):Calls Tryz.prog 84 #[.string ⟨s.toArray⟩, .int .i64 size, .int .i64 f] w fun e w'=>(∃x,e=.returned (.int .i64 x)∧Hid (TxV s size f x))∧w'=w:=
 (Vx w s size f hf hl).mono fun e w' h=>by
  obtain⟨x,h1,h2,h3⟩:=h.1.out
  exact⟨⟨x,h1,h2,h3⟩,h.2⟩
theorem Zf (w:World)(s:List UInt8)(f:Int)(hf:f=1∨f=2∨f=3)(hl:s.length≤1099511627776):Calls Tryz.prog 88 #[.string ⟨s.toArray⟩, .int .i64 f] w fun e w'=>(∃x,e=.returned (.int .i64 x)∧Hid (OwV s f x))∧Kp (fun _=>False) w w':=
 (Ban w s f hf hl).mono fun e w' h=>by
  obtain⟨x,h1,h2,h3⟩:=h.1.out
  exact⟨⟨x,h1,h2,h3⟩,h.2⟩
theorem Og (w:World)(s n f:Int):Calls Tryz.prog 90 #[.agg #[.int .i64 s, .int .i64 n], .int .i64 f] w fun e w'=>(∃x,e=.returned (.int .i64 x)∧Hid (MoV s n f x))∧Kp (fun _=>False) w w':=
 (X8 w s n f).mono fun e w' h=>by
  obtain⟨x,h1,h2,h3⟩:=h.1.out
  exact⟨⟨x,h1,h2,h3⟩,h.2⟩
theorem Kh {b:Bool}(h:(if b then (1:Int) else 2)=1):b=true:=by
 cases b with
 |true=>rfl
 |false=>exact absurd h (by decide)
def Oh (h:Hd)(f:Int)(e:Ending):Prop:=∃v,e=.returned (.int .i64 v)∧V3 v∧(v=1→SaneP h∧CanTo (Bq h) f 11)
theorem Bap (h:Hd):(Bq h).typ≠0:=by
 unfold Bq E6;split
 ·show (if Ia h.name then (53:UInt8) else 48)≠0;split<;>decide
 ·rename_i h1;exact h1
theorem Hb (h:Hd):(Bq h).recs=h.recs:=by unfold Bq E6;split<;>rfl
theorem Yd (h:Hd):(Bq h).name=h.name:=by unfold Bq E6;split<;>rfl
theorem Ye (h:Hd):(Bq h).link=h.link:=by unfold Bq E6;split<;>rfl
theorem Bcx (h:Hd):(Bq h).un=h.un:=by unfold Bq E6;split<;>rfl
theorem Bcy (h:Hd):(Bq h).gn=h.gn:=by unfold Bq E6;split<;>rfl
def CdR (b:Bool)(X:Prop)(w wx:World):Prop:=(b=false→X)∧Kp (fun _=>False) w wx
def CdC (b:Bool)(f x:Int)(w wx:World):Prop:=((b=false→f=1→x≠1)∧(b=true→x=1))∧Kp (fun _=>False) w wx
theorem C9 (h:Hd):weight h=h.name.length+h.link.length+h.un.length+h.gn.length+Dg h.recs:=rfl
theorem Ki (l:List Rec):24*l.length≤Dg l:=by
 induction l with
 |nil=>exact Nat.zero_le _
 |cons r l ih=>unfold Dg at ih ⊢;simp only[List.length_cons,List.map_cons,List.sum_cons];omega
theorem Bcz {r:Rec}{l:List Rec}(h:r∈l):r.1.length+r.2.length≤Dg l:=by
 induction l with
 |nil=>cases h
 |cons x l ih=>
  unfold Dg at ih ⊢;simp only[List.map_cons,List.sum_cons];rcases List.mem_cons.1 h with rfl|h
  ·omega
  ·have:=ih h;omega
theorem Cp {kind:UInt8}{name data:List UInt8}{gnu:Bool}{t:List UInt8}(h:MetaE kind name data gnu t):t.length≤data.length+1024:=by
 obtain⟨l,hl⟩:=h;rw[List.length_append,hl.len,Ef];have:=G7 data.length;omega
set_option maxHeartbeats 3200000 in
theorem Ig (w0 w:World)(C m:Nat)(h:Hd)(rv dv:Value)(out:List UInt8)(hC:C<w0.heap.size)(s:FlSt w0 C m h rv dv out w)(hm:m+1000≤1000000000000)(hn:h.name.length≤1048576)(hne:h.name≠[])(hlen:out.length≤1099511627776) :
  Calls Tryz.prog 75 #[.pointer (some ⟨w0.heap.size+2,0,none⟩), .pointer (some ⟨w0.heap.size,0,none⟩), .pointer (some ⟨w0.heap.size+3,0,none⟩)] w fun e w'=>
   e=.returned (.tuple #[])∧Hid (∃t,C7 76 h.name t∧t.length≤2097152∧FlSt w0 C (m+200) h rv dv (out++t) w'):=by
 have HS:=hid s;have cp:w.cell? ⟨w0.heap.size,0,none⟩=some (.pointer (some ⟨C,0,none⟩)):=cell_of s.cp 0 rfl;have nm:w.cell? ⟨w0.heap.size+2,1,none⟩=some (.string ⟨h.name.toArray⟩):=cell_of s.hd 1 rfl;have hCw:C<w.heap.size:=by have:=s.kp.size;omega
 clear s;by_cases hl:100<h.name.length
 ·have hd:decide ((100:Int)<(h.name.length:Int))=true:=decide_eq_true (by omega)
  go_enter Tryz.func75,Tryz.ntmps75
  go_upto_region 1 with fail
  clear hl hd;have kD:=(Kp.refl (fun _=>False) w).drew;have SD:=hid (HS.out.grow kD);obtain⟨lv,hlv⟩:∃lv,w.drew.cell? ⟨w0.heap.size+3,0,none⟩=some lv:=by
   obtain⟨v,h1,_⟩:=SD.out.ov;exact⟨v,cell_of h1 0 rfl⟩
  have cp1:w.drew.cell? ⟨w0.heap.size,0,none⟩=some (.pointer (some ⟨C,0,none⟩)):=cell_of SD.out.cp 0 rfl;have nm1:w.drew.cell? ⟨w0.heap.size+2,1,none⟩=some (.string ⟨h.name.toArray⟩):=cell_of SD.out.hd 1 rfl;have hcat:(⟨h.name.toArray⟩:ByteArray)++⟨#[0]⟩=⟨(h.name++[0]).toArray⟩:=E4 h.name [0];obtain⟨nl,hnl⟩:∃nl,h.name++[(0:UInt8)]=nl:=⟨_,rfl⟩;have hnll:nl.length≤1048577:=by rw[←hnl,List.length_append,List.length_singleton];omega
  rw[hnl] at hcat;have HNL:=hid hnl;have hq1:h.name.length<9223372036854775807:=by omega
  have hq2:¬9223372036854775807<h.name.length+1:=by omega
  have hq3:¬9223372036854775807≤h.name.length:=by omega
  clear hnl;have hsz0:w0.heap.size+4≤w.drew.heap.size:=by
   obtain⟨v,h1,_⟩:=SD.out.ov;have:=Bv h1;omega
  have HME:=fun W hc=>hid (Eh W C (m) 76 Cq nl 3 true rfl hc (by omega) (by omega) (by decide))
  unfold Cq at HME;have hC0:C≠w0.heap.size+3:=by omega
  refine wp_region_held_drew (S:=(fun w'=>w'.cell? ⟨w0.heap.size,0,none⟩=some (.pointer (some ⟨C,0,none⟩))∧w'.cell? ⟨w0.heap.size+2,1,none⟩=some (.string ⟨h.name.toArray⟩))) (by kernel_rfl) ?_ (fun hHeld=>?_)
  ·(try dsimp only);(first|(exact⟨cp1,nm1⟩)|(exact hS2)|(exact hS3)|(exact hS4))
  refine wpAnyH_take (i:=1) (v:=?_) rfl (by kernel_rfl) (by kernel_rfl) (by kernel_rfl) (fun _ _ _ h=>h) (Or.inl ⟨by rfl,?_⟩) (by assumption) ?_
  rotate_left 1
  ·intro W hSw;(try dsimp only at hSw);go_simp;(try with_reducible rfl)
  refine wpAnyH_take (i:=2) (v:=?_) rfl (by kernel_rfl) (by kernel_rfl) (by kernel_rfl) (fun _ _ _ h=>h) (Or.inl ⟨by rfl,?_⟩) (by assumption) ?_
  rotate_left 1
  ·intro W hSw;(try dsimp only at hSw);go_simp;(try with_reducible rfl)
  refine wpAnyH_take (i:=3) (v:=?_) rfl (by kernel_rfl) (by kernel_rfl) (by kernel_rfl) (fun _ _ _ h=>h) (Or.inl ⟨by rfl,?_⟩) (by assumption) ?_
  rotate_left 1
  ·intro W hSw;(try dsimp only at hSw);go_simp;(try with_reducible rfl)
  refine wpAnyH_take (i:=4) (v:=?_) rfl (by kernel_rfl) (by kernel_rfl) (by kernel_rfl) (fun _ _ _ h=>h) (Or.inl ⟨by rfl,?_⟩) (by assumption) ?_
  rotate_left 1
  ·intro W hSw;(try dsimp only at hSw);go_simp;(try with_reducible rfl)
  try simp only[Act.put,List.getElem_toArray,List.getElem_cons_succ,List.getElem_cons_zero,sA,sB,sC]
  refine wpAnyH_ready (rs:=[0,5]) (by kernel_rfl) (by simp) ?_
  refine AllReadyH.cons (o:=_) rfl (fun K hK=>?_) (AllReadyH.cons (o:=_) rfl (fun K hK=>?_) AllReadyH.nil);go_simp;refine hK.out _ _ ?_ (fun hNew=>?_)
  ·(first|(exact⟨cp1,nm1⟩)|(exact hS2)|(exact hS3)|(exact hS4))
  clear hK K;refine wpAnyH_ready (rs:=[5]) (by kernel_rfl) (by simp) ?_
  refine AllReadyH.cons (o:=_) rfl (fun K hK=>?_) AllReadyH.nil;go_simp;go_at_call 71;refine(HME _ SD.out.cho).out.mono ?_;rintro e w5 ⟨v5,t5,rfl,ho5,hme5,hk5,hc5⟩;have hlv5:w5.cell? ⟨w0.heap.size+3,0,none⟩=some lv:=hk5.cell hlv (by show ¬(w0.heap.size+3=C);omega);have hS2:w5.cell? ⟨w0.heap.size,0,none⟩=some (.pointer (some ⟨C,0,none⟩))∧w5.cell? ⟨w0.heap.size+2,1,none⟩=some (.string ⟨h.name.toArray⟩):=⟨hk5.cell cp1 (by show ¬(w0.heap.size=C);omega),hk5.cell nm1 (by show ¬(w0.heap.size+2=C);omega)⟩;have S5:=SD.out.chose hC hk5 hc5;have hlen5:=Cp hme5;obtain⟨A6,n6,c6,w6,hr6,y1,y2,S6,k6⟩:=S5.app hC v5 t5 ho5.dataAt (by omega) 27 lv hlv5;have HR6:=hid hr6;have hS3:w6.cell? ⟨w0.heap.size,0,none⟩=some (.pointer (some ⟨C,0,none⟩))∧w6.cell? ⟨w0.heap.size+2,1,none⟩=some (.string ⟨h.name.toArray⟩):=⟨k6.cell hS2.1 (by show ¬(w0.heap.size+4≤w0.heap.size);omega),k6.cell hS2.2 (by show ¬(w0.heap.size+4≤w0.heap.size+2);omega)⟩;have hS4:(w6.setCell ⟨w0.heap.size+3,0,none⟩ (.slice A6 n6 c6)).cell? ⟨w0.heap.size,0,none⟩=some (.pointer (some ⟨C,0,none⟩))∧(w6.setCell ⟨w0.heap.size+3,0,none⟩ (.slice A6 n6 c6)).cell? ⟨w0.heap.size+2,1,none⟩=some (.string ⟨h.name.toArray⟩):=⟨cell_of S6.cp 0 rfl,cell_of S6.hd 1 rfl⟩;have FIN:Hid (∃t,C7 76 h.name t∧t.length≤2097152∧FlSt w0 C (m+200) h rv dv (out++t) (w6.setCell ⟨w0.heap.size+3,0,none⟩ (.slice A6 n6 c6))):=⟨t5, .inr ⟨hne,by rw[HNL.out];exact hme5⟩,by omega,S6.more (by omega)⟩;clear hr6 S6 S5 hme5 ho5 hk5 hc5 hlen5 k6
  go_wp2_with fail
  refine hK.out _ _ ?_ (fun hNew=>?_)
  ·(first|(exact⟨cp1,nm1⟩)|(exact hS2)|(exact hS3)|(exact hS4))
  clear hK K;refine wpAnyH_ready (rs:=[6]) (by kernel_rfl) (by simp) ?_
  refine AllReadyH.cons (o:=_) rfl (fun K hK=>?_) AllReadyH.nil;refine Bp rfl _ _ _ _ rfl _ _ rfl rfl _ _ HR6.out ?_;refine hK.out _ _ ?_ (fun hNew=>?_)
  ·(first|(exact⟨cp1,nm1⟩)|(exact hS2)|(exact hS3)|(exact hS4))
  clear hK K;refine wpAnyH_ready (rs:=[7]) (by kernel_rfl) (by simp) ?_
  refine AllReadyH.cons (o:=_) rfl (fun K hK=>?_) AllReadyH.nil;go_simp;refine hK.out _ _ ?_ (fun hNew=>?_)
  ·(first|(exact⟨cp1,nm1⟩)|(exact hS2)|(exact hS3)|(exact hS4))
  clear hK K;clear hHeld;refine wpAnyH_done (by kernel_rfl) ?_ _
  rotate_left 1;go_simp;go_at_call 71;refine(HME _ SD.out.cho).out.mono ?_;rintro e w5 ⟨v5,t5,rfl,ho5,hme5,hk5,hc5⟩;have hlv5:w5.cell? ⟨w0.heap.size+3,0,none⟩=some lv:=hk5.cell hlv (by show ¬(w0.heap.size+3=C);omega);have hS2:w5.cell? ⟨w0.heap.size,0,none⟩=some (.pointer (some ⟨C,0,none⟩))∧w5.cell? ⟨w0.heap.size+2,1,none⟩=some (.string ⟨h.name.toArray⟩):=⟨hk5.cell cp1 (by show ¬(w0.heap.size=C);omega),hk5.cell nm1 (by show ¬(w0.heap.size+2=C);omega)⟩;have S5:=SD.out.chose hC hk5 hc5;have hlen5:=Cp hme5;obtain⟨A6,n6,c6,w6,hr6,y1,y2,S6,k6⟩:=S5.app hC v5 t5 ho5.dataAt (by omega) 27 lv hlv5;have HR6:=hid hr6;have hS3:w6.cell? ⟨w0.heap.size,0,none⟩=some (.pointer (some ⟨C,0,none⟩))∧w6.cell? ⟨w0.heap.size+2,1,none⟩=some (.string ⟨h.name.toArray⟩):=⟨k6.cell hS2.1 (by show ¬(w0.heap.size+4≤w0.heap.size);omega),k6.cell hS2.2 (by show ¬(w0.heap.size+4≤w0.heap.size+2);omega)⟩;have hS4:(w6.setCell ⟨w0.heap.size+3,0,none⟩ (.slice A6 n6 c6)).cell? ⟨w0.heap.size,0,none⟩=some (.pointer (some ⟨C,0,none⟩))∧(w6.setCell ⟨w0.heap.size+3,0,none⟩ (.slice A6 n6 c6)).cell? ⟨w0.heap.size+2,1,none⟩=some (.string ⟨h.name.toArray⟩):=⟨cell_of S6.cp 0 rfl,cell_of S6.hd 1 rfl⟩;have FIN:Hid (∃t,C7 76 h.name t∧t.length≤2097152∧FlSt w0 C (m+200) h rv dv (out++t) (w6.setCell ⟨w0.heap.size+3,0,none⟩ (.slice A6 n6 c6))):=⟨t5, .inr ⟨hne,by rw[HNL.out];exact hme5⟩,by omega,S6.more (by omega)⟩;clear hr6 S6 S5 hme5 ho5 hk5 hc5 hlen5 k6
  go_wp2_with fail
  refine hK.out _ _ ?_ (fun hNew=>?_)
  ·(first|(exact⟨cp1,nm1⟩)|(exact hS2)|(exact hS3)|(exact hS4))
  clear hK K;refine wpAnyH_ready (rs:=[0]) (by kernel_rfl) (by simp) ?_
  refine AllReadyH.cons (o:=_) rfl (fun K hK=>?_) AllReadyH.nil;go_simp;refine hK.out _ _ ?_ (fun hNew=>?_)
  ·(first|(exact⟨cp1,nm1⟩)|(exact hS2)|(exact hS3)|(exact hS4))
  clear hK K;refine wpAnyH_ready (rs:=[6]) (by kernel_rfl) (by simp) ?_
  refine AllReadyH.cons (o:=_) rfl (fun K hK=>?_) AllReadyH.nil;refine Bp rfl _ _ _ _ rfl _ _ rfl rfl _ _ HR6.out ?_;refine hK.out _ _ ?_ (fun hNew=>?_)
  ·(first|(exact⟨cp1,nm1⟩)|(exact hS2)|(exact hS3)|(exact hS4))
  clear hK K;refine wpAnyH_ready (rs:=[7]) (by kernel_rfl) (by simp) ?_
  refine AllReadyH.cons (o:=_) rfl (fun K hK=>?_) AllReadyH.nil;go_simp;refine hK.out _ _ ?_ (fun hNew=>?_)
  ·(first|(exact⟨cp1,nm1⟩)|(exact hS2)|(exact hS3)|(exact hS4))
  clear hK K;clear hHeld;refine wpAnyH_done (by kernel_rfl) ?_ _
  all_goals (go_wp2_with fail;go_end0;exact⟨rfl,FIN.out⟩)
 ·have hd:decide ((100:Int)<(h.name.length:Int))=false:=decide_eq_false (by omega)
  go_enter Tryz.func75,Tryz.ntmps75
  go_wp2_with fail
  refine(Cs w C m 4 HS.out.cho (by omega) (by omega)).mono ?_
  rintro e w1 ⟨⟨n,hn4,rfl⟩,hk1,hc1⟩;have S1:=hid (HS.out.chose hC hk1 hc1);by_cases h0:n=0
  ·subst h0;(go_upto_region 1 with fail);clear hl hd;have kD:=(Kp.refl (fun _=>False) w1).drew;have SD:=hid (S1.out.grow kD);obtain⟨lv,hlv⟩:∃lv,w1.drew.cell? ⟨w0.heap.size+3,0,none⟩=some lv:=by
    obtain⟨v,h1,_⟩:=SD.out.ov;exact⟨v,cell_of h1 0 rfl⟩
   have cp1:w1.drew.cell? ⟨w0.heap.size,0,none⟩=some (.pointer (some ⟨C,0,none⟩)):=cell_of SD.out.cp 0 rfl;have nm1:w1.drew.cell? ⟨w0.heap.size+2,1,none⟩=some (.string ⟨h.name.toArray⟩):=cell_of SD.out.hd 1 rfl;have hcat:(⟨h.name.toArray⟩:ByteArray)++⟨#[0]⟩=⟨(h.name++[0]).toArray⟩:=E4 h.name [0];obtain⟨nl,hnl⟩:∃nl,h.name++[(0:UInt8)]=nl:=⟨_,rfl⟩;(have hnll:nl.length≤1048577:=by rw[←hnl,List.length_append,List.length_singleton];omega);rw[hnl] at hcat;have HNL:=hid hnl;(have hq1:h.name.length<9223372036854775807:=by omega);(have hq2:¬9223372036854775807<h.name.length+1:=by omega);(have hq3:¬9223372036854775807≤h.name.length:=by omega);clear hnl;have hsz0:w0.heap.size+4≤w1.drew.heap.size:=by
    obtain⟨v,h1,_⟩:=SD.out.ov;have:=Bv h1;omega
   (have HME:=fun W hc=>hid (Eh W C (m+1) 76 Cq nl 3 true rfl hc (by omega) (by omega) (by decide)));unfold Cq at HME;(have hC0:C≠w0.heap.size+3:=by omega);refine wp_region_held_drew (S:=(fun w'=>w'.cell? ⟨w0.heap.size,0,none⟩=some (.pointer (some ⟨C,0,none⟩))∧w'.cell? ⟨w0.heap.size+2,1,none⟩=some (.string ⟨h.name.toArray⟩))) (by kernel_rfl) ?_ (fun hHeld=>?_)
   ·(try dsimp only);(first|(exact⟨cp1,nm1⟩)|(exact hS2)|(exact hS3)|(exact hS4))
   (refine wpAnyH_take (i:=1) (v:=?_) rfl (by kernel_rfl) (by kernel_rfl) (by kernel_rfl) (fun _ _ _ h=>h) (Or.inl ⟨by rfl,?_⟩) (by assumption) ?_);rotate_left 1
   ·intro W hSw;(try dsimp only at hSw);go_simp;(try with_reducible rfl)
   (refine wpAnyH_take (i:=2) (v:=?_) rfl (by kernel_rfl) (by kernel_rfl) (by kernel_rfl) (fun _ _ _ h=>h) (Or.inl ⟨by rfl,?_⟩) (by assumption) ?_);rotate_left 1
   ·intro W hSw;(try dsimp only at hSw);go_simp;(try with_reducible rfl)
   (refine wpAnyH_take (i:=3) (v:=?_) rfl (by kernel_rfl) (by kernel_rfl) (by kernel_rfl) (fun _ _ _ h=>h) (Or.inl ⟨by rfl,?_⟩) (by assumption) ?_);rotate_left 1
   ·intro W hSw;(try dsimp only at hSw);go_simp;(try with_reducible rfl)
   (refine wpAnyH_take (i:=4) (v:=?_) rfl (by kernel_rfl) (by kernel_rfl) (by kernel_rfl) (fun _ _ _ h=>h) (Or.inl ⟨by rfl,?_⟩) (by assumption) ?_);rotate_left 1
   ·intro W hSw;(try dsimp only at hSw);go_simp;(try with_reducible rfl)
   (try simp only[Act.put,List.getElem_toArray,List.getElem_cons_succ,List.getElem_cons_zero,sA,sB,sC]);(refine wpAnyH_ready (rs:=[0,5]) (by kernel_rfl) (by simp) ?_);refine AllReadyH.cons (o:=_) rfl (fun K hK=>?_) (AllReadyH.cons (o:=_) rfl (fun K hK=>?_) AllReadyH.nil);go_simp;refine hK.out _ _ ?_ (fun hNew=>?_)
   ·(first|(exact⟨cp1,nm1⟩)|(exact hS2)|(exact hS3)|(exact hS4))
   clear hK K;(refine wpAnyH_ready (rs:=[5]) (by kernel_rfl) (by simp) ?_);refine AllReadyH.cons (o:=_) rfl (fun K hK=>?_) AllReadyH.nil;go_simp
   (go_at_call 71;refine(HME _ SD.out.cho).out.mono ?_;rintro e w5 ⟨v5,t5,rfl,ho5,hme5,hk5,hc5⟩;have hlv5:w5.cell? ⟨w0.heap.size+3,0,none⟩=some lv:=hk5.cell hlv (by show ¬(w0.heap.size+3=C);omega);have hS2:w5.cell? ⟨w0.heap.size,0,none⟩=some (.pointer (some ⟨C,0,none⟩))∧w5.cell? ⟨w0.heap.size+2,1,none⟩=some (.string ⟨h.name.toArray⟩):=⟨hk5.cell cp1 (by show ¬(w0.heap.size=C);omega),hk5.cell nm1 (by show ¬(w0.heap.size+2=C);omega)⟩;have S5:=SD.out.chose hC hk5 hc5;have hlen5:=Cp hme5;obtain⟨A6,n6,c6,w6,hr6,y1,y2,S6,k6⟩:=S5.app hC v5 t5 ho5.dataAt (by omega) 27 lv hlv5;have HR6:=hid hr6;have hS3:w6.cell? ⟨w0.heap.size,0,none⟩=some (.pointer (some ⟨C,0,none⟩))∧w6.cell? ⟨w0.heap.size+2,1,none⟩=some (.string ⟨h.name.toArray⟩):=⟨k6.cell hS2.1 (by show ¬(w0.heap.size+4≤w0.heap.size);omega),k6.cell hS2.2 (by show ¬(w0.heap.size+4≤w0.heap.size+2);omega)⟩;have hS4:(w6.setCell ⟨w0.heap.size+3,0,none⟩ (.slice A6 n6 c6)).cell? ⟨w0.heap.size,0,none⟩=some (.pointer (some ⟨C,0,none⟩))∧(w6.setCell ⟨w0.heap.size+3,0,none⟩ (.slice A6 n6 c6)).cell? ⟨w0.heap.size+2,1,none⟩=some (.string ⟨h.name.toArray⟩):=⟨cell_of S6.cp 0 rfl,cell_of S6.hd 1 rfl⟩;have FIN:Hid (∃t,C7 76 h.name t∧t.length≤2097152∧FlSt w0 C (m+200) h rv dv (out++t) (w6.setCell ⟨w0.heap.size+3,0,none⟩ (.slice A6 n6 c6))):=⟨t5, .inr ⟨hne,by rw[HNL.out];exact hme5⟩,by omega,S6.more (by omega)⟩;clear hr6 S6 S5 hme5 ho5 hk5 hc5 hlen5 k6);(go_wp2_with fail);refine hK.out _ _ ?_ (fun hNew=>?_)
   ·(first|(exact⟨cp1,nm1⟩)|(exact hS2)|(exact hS3)|(exact hS4))
   clear hK K;(refine wpAnyH_ready (rs:=[6]) (by kernel_rfl) (by simp) ?_);refine AllReadyH.cons (o:=_) rfl (fun K hK=>?_) AllReadyH.nil;refine Bp rfl _ _ _ _ rfl _ _ rfl rfl _ _ HR6.out ?_;refine hK.out _ _ ?_ (fun hNew=>?_)
   ·(first|(exact⟨cp1,nm1⟩)|(exact hS2)|(exact hS3)|(exact hS4))
   clear hK K;(refine wpAnyH_ready (rs:=[7]) (by kernel_rfl) (by simp) ?_);refine AllReadyH.cons (o:=_) rfl (fun K hK=>?_) AllReadyH.nil;go_simp;refine hK.out _ _ ?_ (fun hNew=>?_)
   ·(first|(exact⟨cp1,nm1⟩)|(exact hS2)|(exact hS3)|(exact hS4))
   clear hK K;clear hHeld;(refine wpAnyH_done (by kernel_rfl) ?_ _);rotate_left 1;go_simp;go_at_call 71;refine(HME _ SD.out.cho).out.mono ?_;rintro e w5 ⟨v5,t5,rfl,ho5,hme5,hk5,hc5⟩;have hlv5:w5.cell? ⟨w0.heap.size+3,0,none⟩=some lv:=hk5.cell hlv (by show ¬(w0.heap.size+3=C);omega);have hS2:w5.cell? ⟨w0.heap.size,0,none⟩=some (.pointer (some ⟨C,0,none⟩))∧w5.cell? ⟨w0.heap.size+2,1,none⟩=some (.string ⟨h.name.toArray⟩):=⟨hk5.cell cp1 (by show ¬(w0.heap.size=C);omega),hk5.cell nm1 (by show ¬(w0.heap.size+2=C);omega)⟩;have S5:=SD.out.chose hC hk5 hc5;have hlen5:=Cp hme5;obtain⟨A6,n6,c6,w6,hr6,y1,y2,S6,k6⟩:=S5.app hC v5 t5 ho5.dataAt (by omega) 27 lv hlv5;have HR6:=hid hr6;have hS3:w6.cell? ⟨w0.heap.size,0,none⟩=some (.pointer (some ⟨C,0,none⟩))∧w6.cell? ⟨w0.heap.size+2,1,none⟩=some (.string ⟨h.name.toArray⟩):=⟨k6.cell hS2.1 (by show ¬(w0.heap.size+4≤w0.heap.size);omega),k6.cell hS2.2 (by show ¬(w0.heap.size+4≤w0.heap.size+2);omega)⟩;have hS4:(w6.setCell ⟨w0.heap.size+3,0,none⟩ (.slice A6 n6 c6)).cell? ⟨w0.heap.size,0,none⟩=some (.pointer (some ⟨C,0,none⟩))∧(w6.setCell ⟨w0.heap.size+3,0,none⟩ (.slice A6 n6 c6)).cell? ⟨w0.heap.size+2,1,none⟩=some (.string ⟨h.name.toArray⟩):=⟨cell_of S6.cp 0 rfl,cell_of S6.hd 1 rfl⟩;have FIN:Hid (∃t,C7 76 h.name t∧t.length≤2097152∧FlSt w0 C (m+200) h rv dv (out++t) (w6.setCell ⟨w0.heap.size+3,0,none⟩ (.slice A6 n6 c6))):=⟨t5, .inr ⟨hne,by rw[HNL.out];exact hme5⟩,by omega,S6.more (by omega)⟩;clear hr6 S6 S5 hme5 ho5 hk5 hc5 hlen5 k6
   (go_wp2_with fail);refine hK.out _ _ ?_ (fun hNew=>?_)
   ·(first|(exact⟨cp1,nm1⟩)|(exact hS2)|(exact hS3)|(exact hS4))
   clear hK K;(refine wpAnyH_ready (rs:=[0]) (by kernel_rfl) (by simp) ?_);refine AllReadyH.cons (o:=_) rfl (fun K hK=>?_) AllReadyH.nil;go_simp;refine hK.out _ _ ?_ (fun hNew=>?_)
   ·(first|(exact⟨cp1,nm1⟩)|(exact hS2)|(exact hS3)|(exact hS4))
   clear hK K;(refine wpAnyH_ready (rs:=[6]) (by kernel_rfl) (by simp) ?_);refine AllReadyH.cons (o:=_) rfl (fun K hK=>?_) AllReadyH.nil;refine Bp rfl _ _ _ _ rfl _ _ rfl rfl _ _ HR6.out ?_;refine hK.out _ _ ?_ (fun hNew=>?_)
   ·(first|(exact⟨cp1,nm1⟩)|(exact hS2)|(exact hS3)|(exact hS4))
   clear hK K;(refine wpAnyH_ready (rs:=[7]) (by kernel_rfl) (by simp) ?_);refine AllReadyH.cons (o:=_) rfl (fun K hK=>?_) AllReadyH.nil;go_simp;refine hK.out _ _ ?_ (fun hNew=>?_)
   ·(first|(exact⟨cp1,nm1⟩)|(exact hS2)|(exact hS3)|(exact hS4))
   clear hK K;clear hHeld;(refine wpAnyH_done (by kernel_rfl) ?_ _);all_goals (go_wp2_with fail;go_end0;exact⟨rfl,FIN.out⟩)
  ·(have hd0:((n:Int)==0)=false:=by rw[beq_eq_false_iff_ne];omega);(have FIN:Hid (∃t,C7 76 h.name t∧t.length≤2097152∧FlSt w0 C (m+200) h rv dv (out++t) w1):=⟨[], .inl ⟨rfl,by omega⟩,by simp,by rw[List.append_nil];exact S1.out.more (by omega)⟩);clear HS S1 hk1 hc1;(go_wp2_with fail);(go_end0);exact⟨rfl,FIN.out⟩
def Ix (w:World)(C m:Nat)(h:Hd)(data:List UInt8)(e:Ending)(w':World):Prop:=
 ∃v t,e=.returned v∧OwnB w' w.heap.size v t∧FileE h data t∧Cho w' C (m+200000)∧Kp (· =C) w w'
theorem OwnB.lower {w:World}{base base':Nat}{v:Value}{l:List UInt8}(h:OwnB w base v l)(hb:base'≤base):OwnB w base' v l:=by
 refine⟨h.1,?_⟩;rcases h.2 with hn|⟨g,cap,cur,e,hg,rest⟩
 ·exact .inl hn
 ·exact .inr ⟨g,cap,cur,e,by omega,rest⟩
theorem FlSt.ovlt {w0 w:World}{C m:Nat}{h:Hd}{rv dv:Value}{out:List UInt8}(s:FlSt w0 C m h rv dv out w):w0.heap.size+4≤w.heap.size:=by
 obtain⟨v,h1,_⟩:=s.ov;have:=Bv h1;omega
theorem OwnB.one {w:World}{base:Nat}{v:Value}{l:List UInt8}(h:OwnB w base v l):v.oneCell'=true:=by
 obtain⟨A,c,rfl⟩:=h.shape;rfl
theorem FlSt.setOut {w0 w:World}{C m:Nat}{h:Hd}{rv dv:Value}{out:List UInt8}(s:FlSt w0 C m h rv dv out w)(hC:C<w0.heap.size)(v:Value)(t:List UInt8)(ho:OwnB w (w0.heap.size+4) v t) :
  ∃lv,w.cell? ⟨w0.heap.size+3,0,none⟩=some lv∧w.frozen? ⟨w0.heap.size+3,0,none⟩=false∧v.oneCell'=true∧FlSt w0 C m h rv dv t (w.setCell ⟨w0.heap.size+3,0,none⟩ v):=by
 obtain⟨lv,h1,h2⟩:=s.ov;have ks:Kp (· =w0.heap.size+3) w (w.setCell ⟨w0.heap.size+3,0,none⟩ v):=Kp.setCell (S:=(· =w0.heap.size+3)) (p:=⟨w0.heap.size+3,0,none⟩) (Kp.refl _ w) (.inl rfl) _;have g2:=heap_set h1 0 v;exact⟨lv,cell_of h1 0 rfl,Bb h1 0,ho.one,s.cho.keep ks (fun i hi=>by omega) (Nat.le_refl _),ks.heap s.cp (by omega),ks.heap s.fr (by omega),ks.heap s.hd (by omega),⟨v,by simpa using g2,ho.keep ks (fun b hb e=>by have:=(ho.block hb).1;omega)⟩,s.kp.then ks (fun i hi e=>by omega)⟩
theorem FlSt.fin {w0 w:World}{C m m0:Nat}{h:Hd}{rv dv:Value}{out data:List UInt8}(s:FlSt w0 C m h rv dv out w)(v:Value)(hv:w.cell? ⟨w0.heap.size+3,0,none⟩=some v)(he:FileE h data out)(hm:m≤m0+200000):Ix w0 C m0 h data (.returned v) w:=by
 obtain⟨lv,h1,h2⟩:=s.ov;have:=cell_of h1 0 (v:=lv) rfl;rw[hv] at this;injection this with this
 subst this;exact⟨v,out,rfl,h2.lower (by omega),he,s.cho.keep (Kp.refl (fun _=>False) _) (fun _ h=>h.elim) hm,s.kp⟩
theorem FlSt.range {w0 w:World}{C m:Nat}{h:Hd}{rv dv:Value}{out:List UInt8}(s:FlSt w0 C m h rv dv out w){cs:List Value}(hcs:Bd h rv=cs):w.rangeAt (w0.heap.size+2) 0 cs:=fun j v hv=>by
 rw[Nat.zero_add]
 rw[←hcs] at hv
 exact cell_of s.hd j (by rw[List.getElem?_toArray];exact hv)
theorem Jb {w:World}{b i:Nat}{x v:Value}(h:w.cell? ⟨b,i,none⟩=some x):(w.setCell ⟨b,i,none⟩ v).cell? ⟨b,i,none⟩=some v:=by
 cases hb:w.heap[b]? with
 |none=>simp[World.cell?,hb] at h
 |some o=>
  cases o with
  |cells cs t fr=>
   (have hi:cs[i]?=some x:=by simpa[World.cell?,hb] using h);have hlt:i<cs.size:=(Array.getElem?_eq_some_iff.1 hi).1;exact cell_of (heap_set hb i v) i (by rw[Array.getElem?_setIfInBounds_self_of_lt hlt])
  |_=>simp[World.cell?,hb] at h
structure FileIn (f:B4):Prop where
 ni:NumIn f.1
 fm:f.1.typ≠103→f.1.fmt=1∨f.1.fmt=2∨f.1.fmt=3
 ti:TldIn f.1
 tw:TldW f.1
 ne:f.1.typ≠103→f.1.name≠[]
 rl:f.1.recs.length≤30000
 dl:f.2.length≤1073741824
def Hj (v:Value):Prop:=∀A n c,v=.slice A n c→n≤c
def FileAt (w:World)(B b o:Nat)(f:B4):Prop:=
 ∃rv dv,w.rangeAt b o (Bd f.1 rv++[dv])∧RecsAt w B rv f.1.recs∧DataAt w dv f.2∧(∀b' o' c',dv=.slice (some ⟨b',o',none⟩) f.2.length c'→0<f.2.length→b'<B)∧Hj rv∧Hj dv
def FilesAt (w:World)(B:Nat)(fv:Value)(fs:List B4):Prop:=
 fv=.slice none 0 0∧fs=[]∨∃b o c,fv=.slice (some ⟨b,o,none⟩) fs.length c∧b<B∧∀i f,fs[i]?=some f→FileAt w B b (o+i*22) f
theorem Zg {l:List UInt8}{j:Nat}{u:Value}(h:(ubs l)[j]?=some u):0<l.length:=by
 have:=(List.getElem?_eq_some_iff.1 h).1;rw[Bi] at this;omega
theorem DataAt.keep' {w w':World}{B:Nat}{dv:Value}{l:List UInt8}{S:Nat→Prop}(h:DataAt w dv l)(hb:∀b' o' c',dv=.slice (some ⟨b',o',none⟩) l.length c'→0<l.length→b'<B)(k:Kp S w w')(hS:∀i,S i→B≤i):DataAt w' dv l:=by
 rcases h with h|⟨b,o,c,h1,h2⟩
 ·exact .inl h
 ·exact .inr ⟨b,o,c,h1,fun j u hu=>k.cell (h2 j u hu) (fun hs=>by have h5:B≤b:=hS _ hs;have:=hb b o c h1 (Zg hu);omega)⟩
theorem FileAt.keep {w w':World}{B b o:Nat}{f:B4}{S:Nat→Prop}(h:FileAt w B b o f)(hb:b<B)(k:Kp S w w')(hS:∀i,S i→B≤i):FileAt w' B b o f:=by
 obtain⟨rv,dv,h1,h2,h3,h4,h5⟩:=h;exact⟨rv,dv,fun j v hv=>k.cell (h1 j v hv) (fun hs=>by have h5:B≤b:=hS _ hs;omega),h2.keep k hS,h3.keep' h4 k hS,h4,h5⟩
theorem FilesAt.keep {w w':World}{B:Nat}{fv:Value}{fs:List B4}{S:Nat→Prop}(h:FilesAt w B fv fs)(k:Kp S w w')(hS:∀i,S i→B≤i):FilesAt w' B fv fs:=by
 rcases h with h|⟨b,o,c,h1,h2,h3⟩
 ·exact .inl h
 ·exact .inr ⟨b,o,c,h1,h2,fun i f hf=>(h3 i f hf).keep h2 k hS⟩
theorem FilesAt.shape {w:World}{B:Nat}{fv:Value}{fs:List B4}(h:FilesAt w B fv fs):∃A c,fv=.slice A fs.length c:=by
 rcases h with ⟨rfl,rfl⟩|⟨b,o,c,rfl,_⟩
 ·exact⟨none,0,rfl⟩
 ·exact⟨_,c,rfl⟩
theorem FilesAt.get {w:World}{B:Nat}{fv:Value}{fs:List B4}(h:FilesAt w B fv fs){i:Nat}{f:B4}(hf:fs[i]?=some f) :
  ∃b o c,fv=.slice (some ⟨b,o,none⟩) fs.length c∧b<B∧FileAt w B b (o+i*22) f:=by
 rcases h with ⟨rfl,rfl⟩|⟨b,o,c,rfl,h2,h3⟩
 ·cases hf
 ·exact⟨b,o,c,rfl,h2,h3 i f hf⟩
theorem Gv {P:Program}{c:Code}{Q:Exit→Act→World→Prop}{a:Act}{w:World}{z d:Array Value}{T:TypeId}
  (H:∀wB,wB.heap[w.heap.size]?=some (.cells d T (0,0))→Kp (fun _=>False) w wB→wB.heap.size=w.heap.size+1→Code.wp P c Q a wB):Code.wp P c Q a ((w.alloc (.cells z T)).setRow w.heap.size d):=
 H _ (Hi w z d T) (I6 w _ d) (by
  unfold World.setRow
  show (Array.modify _ _ _).size=_
  rw[Array.size_modify]
  show (w.heap.push _).size=_
  simp)
theorem Jk {kind:UInt8}{name data:List UInt8}{gnu:Bool}{t:List UInt8}(h:MetaE kind name data gnu t):t.length≤data.length+1024:=by
 obtain⟨l,hl⟩:=h;rw[List.length_append,hl.len,Ef];have:=G7 data.length;omega
theorem Qw {kind:UInt8}{s m:List UInt8}(h:C7 kind s m)(hs:s.length≤1048576):m.length≤2097152:=by
 rcases h with ⟨rfl,_⟩|⟨_,hm⟩
 ·simp
 ·have:=Jk hm;rw[List.length_append,List.length_singleton] at this;omega
theorem Baq (h:Hd)(data:List UInt8):(De h data).length≤data.length+512:=by
 unfold De;split
 ·rw[Ef];have:=G7 data.length;omega
 ·simp
theorem Bar {h:Hd}{data t:List UInt8}(he:FileE h data t)(hn:h.name.length≤1048576)(hl:h.link.length≤1048576):t.length≤16777216+data.length:=by
 have hb:=Baq h data;cases he with
 |glob ht rs t m hrs hin hw hr hm=>have:=Jk hm;have:=C3 hr hw;omega
 |ustar ht hf l hl=>rw[List.length_append,hl.len];omega
 |pax0 ht hf h0 l hl=>rw[List.length_append,hl.len];omega
 |pax ht hf rs hr t m hrt hm l hl=>rw[List.length_append,List.length_append,hl.len];have:=Jk hm;have:=C3 hrt hr.small;omega
 |gnu ht hf first m k hm hk l hl=>
  have h1:=Qw hm hn;have h2:=Qw hk (by assumption)
  rw[List.length_append,List.length_append,hl.len];cases first<;>simp<;>omega
def He (fs:List B4):Nat:=(fs.map fun f=>f.2.length).sum
theorem FilesE.snoc {fs:List B4}{bs:List UInt8}{f:B4}{b:List UInt8}(h:FilesE fs bs)(hf:FileE f.1 f.2 b):FilesE (fs++[f]) (bs++b):=by
 induction h with
 |nil=>have:=FilesE.cons hf .nil;simpa using this
 |cons h1 h2 ih=>rw[List.cons_append,List.append_assoc];exact .cons h1 ih
theorem OwnB.block_some {w:World}{base:Nat}{v:Value}{l:List UInt8}(h:OwnB w base v l)(hl:0<l.length):v.ownBlock≠none:=by
 rcases h.2 with ⟨rfl,h0⟩|⟨g,cap,cur,rfl,_⟩
 ·omega
 ·intro e;cases e
structure InfoX (T ST:TypeId)(k bt:Nat):Prop where
 und:Tryz.prog.underlying ST=some (.slice T)
 info:∃i z,Tryz.prog.info? T=some i∧i.zero=some z∧i.size=k∧i.bytes=bt∧z.cells.size=k
theorem Vy {T ST:TypeId}{k bt:Nat}(hu:Tryz.prog.underlying ST=some (.slice T))(h:(Tryz.prog.info? T).map (fun i=>(i.zero.map (·.cells.size),i.size,i.bytes))=some (some k,k,bt)):InfoX T ST k bt:=by
 refine⟨hu,?_⟩;obtain⟨i,h1,h2⟩:=Option.map_eq_some_iff.1 h;simp only[Prod.mk.injEq] at h2;obtain⟨z,h3,h4⟩:=Option.map_eq_some_iff.1 h2.1;exact⟨i,z,h1,h3,h2.2.1,h2.2.2,h4⟩
theorem Vz (w:World){T ST ty:TypeId}{k bt:Nat}(I:InfoX T ST k bt)(hk:0<k)(hbt:bt≤4096)(base:Nat)(v:Value)(n:Nat)(cells row:List Value)(hown:w.ownsRow base T k v n cells)(hrow:row.length=k)(hone:∀u∈row,u.oneCell'=true)
  (hn:n≤16777216) (hbase:base≤w.heap.size) :
  ∃v' w',(Builtin.append_ #[ST,ST] ty #[v, .slice (some ⟨w.heap.size,0,none⟩) 1 1]).run Tryz.prog (w.alloc (.cells row.toArray T))=.ok v' w'∧w'.ownsRow base T k v' (n+1) (cells++row)∧Kp (fun j=>some j=v.ownBlock) w w' ∧
   (v'.ownBlock=v.ownBlock∨v'.ownBlock=some (w.heap.size+1)):=by
 obtain⟨i0,z,hi,hz,hsz,hby,hzs⟩:=I.info;have k1:Kp (fun _=>False) w (w.alloc (.cells row.toArray T)):=(Kp.refl _ _).alloc _;have hs1:(w.alloc (.cells row.toArray T)).heap.size=w.heap.size+1:=by show (w.heap.push _).size=_;simp
 have hown':(w.alloc (.cells row.toArray T)).ownsRow base T k v n cells:=hown.alloc _;have hle:(n+1)*bt≤140737488355328:=by
  have:(n+1)*bt≤16777217*4096:=Nat.mul_le_mul (by omega) hbt
  omega
 obtain⟨v',w',hr,h2,h3,h4,h5⟩:=run_append_own_at (P:=Tryz.prog) (w.alloc (.cells row.toArray T)) base ST ty T i0 z k bt I.und hi hz hsz hby hzs hk v n cells hown' ⟨w.heap.size,0,none⟩ 1 1 row (by rw[hrow,Nat.one_mul])
  (fun j u hu=>by
   rw[add_plain',Nat.zero_add];exact cell_of (Ba w _) j (by rw[List.getElem?_toArray];exact hu))
  hone (by simp only[maxLen];omega) hle (by rw[hs1];omega)
 rw[hs1] at h5;exact⟨v',w',hr,h2,(k1.mono (fun _ _ h=>h.elim)).trans (Kp.of_grownBy h3),h5⟩
def RecsQ (w:World)(Q:Nat→Prop)(rv:Value)(l:List Rec):Prop:=
 Nil0 rv∧l=[]∨∃b o c,rv=.slice (some ⟨b,o,none⟩) l.length c∧Q b∧l.length≤c∧∀i r,l[i]?=some r→w.cell? ⟨b,o+i*2,none⟩=some (.string ⟨r.1.toArray⟩)∧w.cell? ⟨b,o+i*2+1,none⟩=some (.string ⟨r.2.toArray⟩)
theorem RecsQ.keep {w w':World}{Q Q':Nat→Prop}{rv:Value}{l:List Rec}{S:Nat→Prop}(h:RecsQ w Q rv l)(k:Kp S w w')(hS:∀b,Q b→¬S b)(hQ:∀b,Q b→Q' b):RecsQ w' Q' rv l:=by
 rcases h with h|⟨b,o,c,h1,h2,hc,h3⟩
 ·exact .inl h
 ·exact .inr ⟨b,o,c,h1,hQ _ h2,hc,fun i r hr=>⟨k.cell (h3 i r hr).1 (hS _ h2),k.cell (h3 i r hr).2 (hS _ h2)⟩⟩
theorem RecsQ.at_ {w:World}{Q:Nat→Prop}{rv:Value}{l:List Rec}{B:Nat}(h:RecsQ w Q rv l)(hQ:∀b,Q b→b<B):RecsAt w B rv l:=by
 rcases h with h|⟨b,o,c,h1,h2,_,h3⟩
 ·exact .inl h
 ·exact .inr ⟨b,o,c,h1,hQ _ h2,h3⟩
theorem RecsQ.cap {w:World}{Q:Nat→Prop}{rv:Value}{l:List Rec}(h:RecsQ w Q rv l):Hj rv:=by
 intro A n c e;rcases h with ⟨h|⟨a,c',h⟩,_⟩|⟨b,o,c',h,_,hc,_⟩
 ·rw[h] at e;injection e with _ e1 e2
  omega
 ·rw[h] at e;injection e with _ e1 e2
  omega
 ·rw[h] at e;injection e with _ e1 e2
  omega
theorem OwnR.cap {T:TypeId}{w:World}{base:Nat}{v:Value}{l:List Rec}(h:OwnR T w base v l):Hj v:=by
 intro A n c e;rcases h.shape with ⟨h,_⟩|⟨g,c',h,_,hc,_⟩
 ·rw[h] at e;injection e with _ e1 e2
  omega
 ·rw[h] at e;injection e with _ e1 e2
  omega
theorem Bc0 {w:World}{Q:Nat→Prop}{rv:Value}{l:List Rec}{B:Nat}(h:RecsAt w B rv l)(hc:Hj rv)(hQ:∀b o c,rv=.slice (some ⟨b,o,none⟩) l.length c→Q b):RecsQ w Q rv l:=by
 rcases h with h|⟨b,o,c,h1,h2,h3⟩
 ·exact .inl h
 ·exact .inr ⟨b,o,c,h1,hQ b o c h1,hc _ _ _ h1,h3⟩
def DataQ (w:World)(Q:Nat→Prop)(dv:Value)(l:List UInt8):Prop:=Nil0 dv∧l=[]∨∃b o c,dv=.slice (some ⟨b,o,none⟩) l.length c∧Q b∧BytesAt w b o l∧l.length≤c
theorem DataQ.keep {w w':World}{Q Q':Nat→Prop}{dv:Value}{l:List UInt8}{S:Nat→Prop}(h:DataQ w Q dv l)(k:Kp S w w')(hS:∀b,Q b→¬S b)(hQ:∀b,Q b→Q' b):DataQ w' Q' dv l:=by
 rcases h with h|⟨b,o,c,h1,h2,h3,h4⟩
 ·exact .inl h
 ·exact .inr ⟨b,o,c,h1,hQ _ h2,fun j u hu=>k.cell (h3 j u hu) (hS _ h2),h4⟩
theorem DataQ.cap {w:World}{Q:Nat→Prop}{dv:Value}{l:List UInt8}(h:DataQ w Q dv l):Hj dv:=by
 rcases h with ⟨rfl|⟨a,c,rfl⟩,_⟩|⟨b,o,c,rfl,_,_,h4⟩
 ·rintro A n c e;injection e with _ e1 e2;omega
 ·rintro A n c e;injection e with _ e1 e2;omega
 ·rintro A n c e;injection e with _ e1 e2;omega
theorem DataQ.dataAt {w:World}{Q:Nat→Prop}{dv:Value}{l:List UInt8}(h:DataQ w Q dv l):DataAt w dv l:=by
 rcases h with h|⟨b,o,c,h1,_,h3,_⟩
 ·exact .inl h
 ·exact .inr ⟨b,o,c,h1,h3⟩
theorem DataQ.one {w:World}{Q:Nat→Prop}{dv:Value}{l:List UInt8}(h:DataQ w Q dv l):dv.oneCell'=true:=by
 rcases h with ⟨h,_⟩|⟨b,o,c,rfl,_⟩
 ·exact h.one
 ·rfl
theorem RecsQ.one {w:World}{Q:Nat→Prop}{rv:Value}{l:List Rec}(h:RecsQ w Q rv l):rv.oneCell'=true:=by
 rcases h with ⟨h,_⟩|⟨b,o,c,rfl,_⟩
 ·exact h.one
 ·rfl
def FCells (w:World)(Q:Nat→Prop):List B4→List Value→Prop
 |[],cs=>cs=[]
 |f::fs,cs=>∃rv dv rest,cs=(Bd f.1 rv++[dv])++rest∧RecsQ w Q rv f.1.recs∧DataQ w Q dv f.2∧FCells w Q fs rest
theorem FCells.keep {w w':World}{Q Q':Nat→Prop}{S:Nat→Prop}(k:Kp S w w')(hS:∀b,Q b→¬S b)(hQ:∀b,Q b→Q' b):∀ {fs:List B4} {cs:List Value},FCells w Q fs cs→FCells w' Q' fs cs
 |[],cs,h=>h
 |f::fs,cs,⟨rv,dv,rest,h1,h2,h3,h4⟩=>⟨rv,dv,rest,h1,h2.keep k hS hQ,h3.keep k hS hQ,FCells.keep k hS hQ h4⟩
theorem FCells.snoc {w:World}{Q:Nat→Prop}{f:B4}{rv dv:Value}(h1:RecsQ w Q rv f.1.recs)(h2:DataQ w Q dv f.2):∀ {fs:List B4} {cs:List Value},FCells w Q fs cs→FCells w Q (fs++[f]) (cs++(Bd f.1 rv++[dv]))
 |[],cs,h=>by
  have h:cs=[]:=h
  subst h
  exact⟨rv,dv,[],by simp,h1,h2,rfl⟩
 |g::fs,cs,⟨rv',dv',rest,g1,g2,g3,g4⟩=>by
  subst g1
  exact⟨rv',dv',rest++(Bd f.1 rv++[dv]),by simp,g2,g3,FCells.snoc h1 h2 g4⟩
theorem Bc1 (h:Hd)(rv:Value):(Bd h rv).length=21:=rfl
theorem FCells.get {w:World}{Q:Nat→Prop}{B:Nat}(hQ:∀b,Q b→b<B):∀ {fs:List B4} {cs:List Value},FCells w Q fs cs→∀ {i:Nat} {f:B4},fs[i]?=some f →
  ∃rv dv,(∀j v,(Bd f.1 rv++[dv])[j]?=some v→cs[i*22+j]?=some v)∧RecsAt w B rv f.1.recs∧DataAt w dv f.2∧(∀b' o' c',dv=.slice (some ⟨b',o',none⟩) f.2.length c'→0<f.2.length→b'<B)∧Hj rv∧Hj dv
 |[],cs,h,i,f,hf=>by cases hf
 |g::fs,cs,⟨rv,dv,rest,g1,g2,g3,g4⟩,i,f,hf=>by
  subst g1
  have hl:(Bd g.1 rv++[dv]).length=22:=by rw[List.length_append,Bc1];rfl
  cases i with
  |zero=>
   injection hf with hf
   subst hf
   refine⟨rv,dv,fun j v hv=>?_,g2.at_ hQ,?_,?_,g2.cap,g3.cap⟩
   ·rw[Nat.zero_mul,Nat.zero_add,List.getElem?_append_left (by exact(List.getElem?_eq_some_iff.1 hv).1)]
    exact hv
   ·rcases g3 with h|⟨b,o,c,h1,h2,h3,_⟩
    ·exact .inl h
    ·exact .inr ⟨b,o,c,h1,h3⟩
   ·intro b' o' c' e hpos
    rcases g3 with ⟨_,h⟩|⟨b,o,c,h1,h2,_⟩
    ·rw[h] at hpos;exact absurd hpos (Nat.lt_irrefl 0)
    ·rw[h1] at e
     injection e with e
     injection e with e
     injection e with e
     exact e▸hQ _ h2
  |succ i=>
   rw[List.getElem?_cons_succ] at hf
   obtain⟨rv2,dv2,k1,k2⟩:=FCells.get hQ g4 hf
   refine⟨rv2,dv2,fun j v hv=>?_,k2⟩
   rw[List.getElem?_append_right (by rw[hl];omega),hl,show (i+1)*22+j-22=i*22+j by omega]
   exact k1 j v hv
structure OwnF (w:World)(base:Nat)(Q:Nat→Prop)(v:Value)(fs:List B4):Prop where
 own:∃cs,w.ownsRow base 47 22 v fs.length cs∧FCells w Q fs cs
theorem OwnF.filesAt {w:World}{base:Nat}{Q:Nat→Prop}{v:Value}{fs:List B4}{B:Nat}(h:OwnF w base Q v fs)(hQ:∀b,Q b→b<B)(hB:w.heap.size≤B):FilesAt w B v fs:=by
 obtain⟨cs,h1,h2⟩:=h.own;rcases h1.2 with ⟨e1,e2⟩|⟨g,cap,cur,e,hg,hh,h3,h4,h5,h6⟩
 ·exact .inl ⟨e1,List.eq_nil_of_length_eq_zero e2⟩
 ·subst e;refine .inr ⟨g,0,cap,rfl,by have:=Bv hh;omega,fun i f hf=>?_⟩
  obtain⟨rv,dv,k1,k2,k3,k4⟩:=h2.get hQ hf;refine⟨rv,dv,fun j u hu=>?_,k2,k3,k4⟩;have hc:=World.ownsRow.cells h1 (g:=g) rfl (i*22+j) u (k1 j u hu);rw[add_plain',Nat.zero_add] at hc;rw[Nat.zero_add];exact hc
def iv (x : Int) : Value := .int .i64 x
def ivs (l : List Int) : List Value := l.map iv
theorem Yf (l : List Int) : (ivs l).length = l.length := by simp [ivs]
theorem Yg (l m : List Int) : ivs (l ++ m) = ivs l ++ ivs m := by simp [ivs]
theorem Zh (l : List Int) (j : Nat) : (ivs l)[j]? = l[j]?.map iv := by simp [ivs]
theorem Beb (l : List Int) : ∀ v ∈ ivs l, v.oneCell' = true := by
  intro v hv
  simp only [ivs, List.mem_map] at hv
  obtain ⟨b, _, rfl⟩ := hv
  rfl
def IntsAt (w : World) (C : Nat) (v : Value) (cs : List Int) : Prop :=
  Nil0 v ∧ cs = [] ∨ ∃ b o c, v = .slice (some ⟨b, o, none⟩) cs.length c ∧ cs.length ≤ c ∧ b < C ∧ ∀ (i : Nat) (x : Int), cs[i]? = some x → w.cell? ⟨b, o + i, none⟩ = some (.int .i64 x)
theorem IntsAt.keep {w w' : World} {C : Nat} {v : Value} {cs : List Int} {S : Nat → Prop} (h : IntsAt w C v cs) (k : Kp S w w') (hS : ∀ i, S i → C ≤ i) : IntsAt w' C v cs := by
  rcases h with h | ⟨b, o, c, h1, h2, h3, h4⟩
  · exact .inl h
  · exact .inr ⟨b, o, c, h1, h2, h3, fun i x hx => k.cell (h4 i x hx) (fun h => by have := hS _ h; simp at this; omega)⟩
theorem IntsAt.up {w w' : World} {C C' : Nat} {v : Value} {cs : List Int} (h : IntsAt w C v cs) (k : Kp (fun _ => False) w w') (hC : C ≤ C') : IntsAt w' C' v cs := by
  rcases h.keep k (fun _ h => h.elim) with h | ⟨b, o, c, h1, h2, h3, h4⟩
  · exact .inl h
  · exact .inr ⟨b, o, c, h1, h2, by omega, h4⟩
theorem IntsAt.shape {w : World} {C : Nat} {v : Value} {cs : List Int} (h : IntsAt w C v cs) : ∃ A c, v = .slice A cs.length c := by
  rcases h with ⟨h, rfl⟩ | ⟨b, o, c, rfl, _⟩
  · exact h.shape
  · exact ⟨_, c, rfl⟩
def OwnZ (w : World) (base : Nat) (v : Value) (l : List Int) : Prop := w.ownsRow base 3 1 v l.length (ivs l)
theorem OwnZ.nil (w : World) (base : Nat) : OwnZ w base (.slice none 0 0) [] := ⟨by simp [ivs], .inl ⟨rfl, rfl⟩⟩
theorem OwnZ.keep {w w' : World} {base : Nat} {v : Value} {l : List Int} {S : Nat → Prop} (h : OwnZ w base v l) (k : Kp S w w') (hS : ∀ b, v.ownBlock = some b → ¬ S b) : OwnZ w' base v l := by
  obtain ⟨h1, h2⟩ := h
  refine ⟨h1, ?_⟩
  rcases h2 with h2 | ⟨g, cap, cur, rfl, hg, hh, r⟩
  · exact .inl h2
  · exact .inr ⟨g, cap, cur, rfl, hg, k.heap hh (hS g rfl), r⟩
theorem Bff : ∃ i, Tryz.prog.info? 3 = some i ∧ i.zero = some (.int .i64 0) ∧ i.size = 1 ∧ i.bytes = 8 := by
  have h : (Tryz.prog.info? 3).map (fun i => (i.zero, i.size, i.bytes)) = some (some (.int .i64 0), 1, 8) := by kernel_rfl
  obtain ⟨i, h1, h2⟩ := Option.map_eq_some_iff.1 h
  simp only [Prod.mk.injEq] at h2
  exact ⟨i, h1, h2⟩
theorem Beu (w : World) (ty : TypeId) (base : Nat) (v x : Value) (xs l : List Int) (hown : OwnZ w base v xs) {C : Nat} (hx : IntsAt w C x l) (hbytes : xs.length + l.length ≤ 4194304) (hbase : base ≤ w.heap.size) :
    ∃ v' w', (Builtin.append_ #[30, 30] ty #[v, x]).run Tryz.prog w = .ok v' w' ∧ OwnZ w' base v' (xs ++ l) ∧ Kp (fun k => some k = v.ownBlock) w w' ∧ (v'.ownBlock = v.ownBlock ∨ v'.ownBlock = some w.heap.size) := by
  obtain ⟨i0, hi, hz, hsz, hby⟩ := Bff
  have key : ∀ (ad : Addr) (c : Nat), (∀ (j : Nat) (u : Value), (ivs l)[j]? = some u → w.cell? (ad.add j) = some u) →
      ∃ v' w', (Builtin.append_ #[30, 30] ty #[v, .slice (some ad) l.length c]).run Tryz.prog w = .ok v' w' ∧ OwnZ w' base v' (xs ++ l) ∧ Kp (fun k => some k = v.ownBlock) w w' ∧ (v'.ownBlock = v.ownBlock ∨ v'.ownBlock = some w.heap.size) := by
    intro ad c hcells
    obtain ⟨v', w', hrun, h2, h3, _, h5⟩ := run_append_own_at (P := Tryz.prog) w base 30 ty 3 i0 (.int .i64 0) 1 8 Tryz.underlying30 hi hz hsz hby rfl (by omega) v xs.length (ivs xs) hown ad l.length c (ivs l) (by rw [Yf, Nat.mul_one]) hcells (Beb l) (by simp only [maxLen]; omega) (by omega) hbase
    refine ⟨v', w', hrun, ?_, Kp.of_grownBy h3, h5⟩
    unfold OwnZ
    rw [Yg, List.length_append]
    exact h2
  rcases hx with ⟨rfl | ⟨a, c, rfl⟩, rfl⟩ | ⟨b, o, c, rfl, hlc, hb, hcells⟩
  · refine ⟨v, w, ?_, by rw [List.append_nil]; exact hown, Kp.refl _ _, .inl rfl⟩
    rcases hown.2 with ⟨rfl, hx⟩ | ⟨g, cap, cur, rfl, hbg, hg, hnc, hcm, hcs, htake⟩
    · simp [Builtin.append_, run_underlying Tryz.underlying30, sizeOf, typeInfo, hi, Builtin.lenOf, Builtin.firstCells]
    · simp [Builtin.append_, run_underlying Tryz.underlying30, sizeOf, typeInfo, hi, Builtin.lenOf, Builtin.firstCells, hnc, storeCells]
  · exact key a c (fun j u hu => by cases hu)
  · refine key ⟨b, o, none⟩ c (fun j u hu => ?_)
    rw [add_plain']
    rw [Zh] at hu
    cases hj : l[j]? with
    | none => rw [hj] at hu; cases hu
    | some x =>
      rw [hj] at hu
      injection hu with hu
      subst hu
      exact hcells j x hj
theorem OwnZ.intsAt {w : World} {base : Nat} {v : Value} {l : List Int} (h : OwnZ w base v l) : IntsAt w w.heap.size v l ∧ ∀ b, v.ownBlock = some b → base ≤ b ∧ b < w.heap.size := by
  rcases h.2 with ⟨rfl, h0⟩ | ⟨g, cap, cur, rfl, hbg, hg, hnc, hcm, hcs, htake⟩
  · exact ⟨.inl ⟨.inl rfl, List.eq_nil_of_length_eq_zero h0⟩, fun b hb => by cases hb⟩
  · have hlt := Bv hg
    refine ⟨.inr ⟨g, 0, cap, rfl, hnc, hlt, fun i x hx => ?_⟩, fun b hb => ?_⟩
    · have := World.ownsRow.cells h (g := g) rfl i (iv x) (by rw [Zh, hx]; rfl)
      rw [add_plain'] at this
      exact this
    · obtain rfl : g = b := by simpa [Value.ownBlock] using hb
      exact ⟨hbg, hlt⟩
end Go.Proofs.YtgfcnjfmmjcodaaGreatDoor
