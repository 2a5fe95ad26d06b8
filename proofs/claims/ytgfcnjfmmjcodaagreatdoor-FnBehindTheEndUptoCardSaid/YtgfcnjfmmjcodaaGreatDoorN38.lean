/- The states of files. -/
import Derived.Deep.RegionLaw
import Derived.Test.YtgfcnjfmmjcodaaGreatDoorN37
set_option linter.all false
set_option maxRecDepth 100000
set_option maxHeartbeats 1000000
open Go.Lib (hid)
namespace Go.Proofs.YtgfcnjfmmjcodaaGreatDoor
open Go Go.RowKit
section
def Gq (w wr:World)(vo:Value)(b:Nat):Prop:=w.heap.size≤b∧b<wr.heap.size∧¬some b=vo.ownBlock
structure FlsSt (E:Nat→Addr)(B:Nat)(T:TypeId)(v:Value)(S:Nat→Prop)(inv:World→Nat→List UInt8→Prop)(R:Nat)(w:World)(fs:List File)(i:Nat)(vo:Value)(wr:World):Prop where
 own:∃gs,OwnG wr w.heap.size (Gq w wr vo) vo gs∧GotAll gs (fs.take i)
 rd:∃nb pad src,NxIn E B T v S inv R nb pad src wr∧ArcS nb pad src (fs.drop i)
 kp:Kp (fun k=>S k∨k=R) w wr
 old:(∀k,S k→k<w.heap.size)∧R<w.heap.size∧B≤w.heap.size
def Gi (w:World)(N F Rf:Nat)(vo:Value)(b:Nat):Prop:=w.heap.size≤b∧b<N∧b≠Rf∧b≠F∧¬some b=vo.ownBlock
structure FlIn (E:Nat→Addr)(B:Nat)(T:TypeId)(v:Value)(S:Nat→Prop)(inv:World→Nat→List UInt8→Prop)(R:Nat)(w:World)(fs:List File)(i:Nat)(f:File)(vo:Value)(N F Rf pad:Nat)(hh:Hd)(rv:Value)(tl:List UInt8)(k:Nat)(en:Int)(wx:World):Prop where
 own:∃gs,OwnG wx w.heap.size (Gi w N F Rf vo) vo gs∧GotAll gs (fs.take i)
 ownlt:∀b,vo.ownBlock=some b→w.heap.size≤b∧b<N∧b≠Rf∧b≠F
 row:∃dv,wx.heap[F]?=some (.cells (iFRow hh rv dv en).toArray 29 (0,0))∧OwnB wx N dv (f.2.take k)
 recs:RecsQ wx (Gi w N F Rf vo) rv hh.recs
 hdr:HdrOk hh f.1∧hh.recs.length≤1048576
 inf:InFile E B T v S inv R Rf pad (f.2.drop k) tl wx
 arc:ArcS 0 pad tl (fs.drop (i+1))
 padl:pad≤512
 nl:N≤wx.heap.size
 fl:w.heap.size≤F∧F<N
 rl:w.heap.size≤Rf∧Rf<N∧Rf≠F
 kp:Kp (fun k=>S k∨k=R) w wx
 old:(∀k,S k→k<w.heap.size)∧R<w.heap.size∧B≤w.heap.size
section
variable {E:Nat→Addr} {B:Nat} {T:TypeId} {v:Value} {S:Nat→Prop} {inv:World→Nat→List UInt8→Prop} {R:Nat} {w:World} {fs:List File} {i:Nat} {f:File} {vo:Value} {N F Rf pad:Nat} {hh:Hd} {rv:Value} {tl:List UInt8} {k:Nat} {en:Int} {wx wy:World}
theorem FlIn.step (hR:IsRd E B T v S inv)(s:FlIn E B T v S inv R w fs i f vo N F Rf pad hh rv tl k en wx){dv:Value}(hdv:wx.cell? ⟨F,21,none⟩=some dv)(P n m:Nat)(e:Ending)(w1 w20 w2:World)(cur:List Value)(t:TypeId)(hP:P=wx.heap.size)(k1:Kp (fun _=>False) wx w1)(kd:Kp (fun _=>False) w20 w2)
  (h:RdEnd E B T v S inv R Rf pad (f.2.drop k) tl w1 P n cur t e w20) (hcur:n≤cur.length) (err:Value) (he:e=.returned (.tuple #[.int .i64 m,err])) (hkl:k≤f.2.length) (hdl:f.2.length≤1048576) (c:Nat) (ty:TypeId) :
  m≤n∧k+m≤f.2.length∧(err=.nilIface∧1≤m∨err=errv (E 0)∧k+m=f.2.length)∧Glob E B w2∧w2.cell? ⟨F,21,none⟩=some dv ∧
  ∃dv' w3,(Builtin.append_ #[27,27] ty #[dv, .slice (some ⟨P,0,none⟩) m c]).run Tryz.prog w2=.ok dv' w3∧w3.frozen? ⟨F,21,none⟩=false∧(∃x,w3.cell? ⟨F,21,none⟩=some x)∧w3.frozen? ⟨F,22,none⟩=false∧w3.cell? ⟨F,22,none⟩=some (.int .i64 en)∧Glob E B (w3.setCell ⟨F,21,none⟩ dv') ∧
   (∃A c2,dv'=.slice A (k+m) c2)∧∀en',FlIn E B T v S inv R w fs i f vo N F Rf pad hh rv tl (k+m) en' ((w3.setCell ⟨F,21,none⟩ dv').setCell ⟨F,22,none⟩ (.int .i64 en')):=by
 obtain⟨m',err',e1,e2,e3,e4,e50,e60,e70⟩:=h
 have e5:=e50.then kd (fun _ _ h=>h.elim)
 have e6:=kd.heap e60 (fun h=>h)
 have e7:=e70.keep hR kd (fun _ h=>h.elim)
 rw[he] at e1
 injection e1 with e1
 injection e1 with e1
 obtain⟨rfl,rfl⟩:m=m'∧err=err':=by
  have:=congrArg (fun a:Array Value=>a.toList) e1
  simp at this
  exact⟨by omega,this.2⟩
 obtain⟨gs,h1,h2⟩:=s.own
 obtain⟨dv0,h3,h4⟩:=s.row
 obtain rfl:dv0=dv:=by
  have:=cell_of h3 21 (v:=dv0) rfl
  rw[this] at hdv
  injection hdv
 rw[List.length_drop] at e3
 have hs1:=k1.size
 have hs2:=e5.size
 have hN:=s.nl
 obtain⟨hF1,hF2⟩:=s.fl
 obtain⟨hRf1,hRf2,hRf3⟩:=s.rl
 obtain⟨o1,o2,o3⟩:=s.old
 have hnotF:¬(((S F∨F=Rf)∨F=R)∨F=P):=by
  rintro(((h|h)|h)|h)
  ·have:=o1 _ h;omega
  ·omega
  ·omega
  ·omega
 have hnotN:∀b,N≤b→b<wx.heap.size→¬(((S b∨b=Rf)∨b=R)∨b=P):=fun b hb hb2=>by
  rintro(((h|h)|h)|h)
  ·have:=o1 _ h;omega
  ·omega
  ·omega
  ·omega
 have hnotG:∀b,Gi w N F Rf vo b→¬(((S b∨b=Rf)∨b=R)∨b=P):=fun b hb=>by
  obtain⟨g1,g2,g3,g4,g5⟩:=hb
  rintro(((h|h)|h)|h)
  ·have:=o1 _ h;omega
  ·exact g3 h
  ·omega
  ·omega
 have hnotO:∀b,vo.ownBlock=some b→¬(((S b∨b=Rf)∨b=R)∨b=P):=fun b hb=>by
  obtain⟨g1,g2,g3,g4⟩:=s.ownlt b hb
  rintro(((h|h)|h)|h)
  ·have:=o1 _ h;omega
  ·exact g3 h
  ·omega
  ·omega
 have row2:=e5.heap (k1.heap h3 (fun h=>h)) hnotF
 have own2:OwnB w2 N dv0 (f.2.take k):=(h4.keep k1 (fun _ _ h=>h)).keep e5 (fun b hb=>by have:=h4.block hb;exact hnotN b this.1 this.2)
 have hlen:(ubs ((f.2.drop k).take m)).length=m:=by rw[ubs_length,List.length_take,List.length_drop];omega
 obtain⟨dv',w3,hrun,own3,hk3,hb3⟩:=app_own_ex w2 ty N dv0 (f.2.take k) own2 ⟨P,0,none⟩ m c ((f.2.drop k).take m) (by rw[List.length_take,List.length_drop];omega) (fun j u hu=>by
  rw[add_plain',Nat.zero_add]
  refine cell_of e6 j ?_
  have hj:j<m:=by have:=(List.getElem?_eq_some_iff.1 hu).1;omega
  rw[List.getElem?_toArray]
  unfold splice
  rw[sE,List.nil_append,List.getElem?_append_left (by omega)]
  exact hu) (by rw[List.length_take];omega) (by omega)
 rw[←List.take_add] at own3
 have row3:=hk3.heap row2 (fun e=>by have:=own2.block e.symm;omega)
 have hs3:=hk3.size
 have kF:∀en':Int,Kp (· =F) w3 ((w3.setCell ⟨F,21,none⟩ dv').setCell ⟨F,22,none⟩ (.int .i64 en')):=fun en'=>
  Kp.setCell (S:=(· =F)) (p:=⟨F,22,none⟩) (Kp.setCell (S:=(· =F)) (p:=⟨F,21,none⟩) (Kp.refl _ w3) (.inl rfl) _) (.inl rfl) _
 have kT:∀en':Int,Kp (fun b=>N≤b∨b=F) w2 ((w3.setCell ⟨F,21,none⟩ dv').setCell ⟨F,22,none⟩ (.int .i64 en')):=fun en'=>
  (hk3.mono (fun b _ h=>Or.inl (own2.block h.symm).1)).then (kF en') (fun b _ h=>.inr h)
 have kall:∀en':Int,Kp (fun b=>(((S b∨b=Rf)∨b=R)∨b=P)∨N≤b∨b=F) wx ((w3.setCell ⟨F,21,none⟩ dv').setCell ⟨F,22,none⟩ (.int .i64 en')):=fun en'=>
  ((k1.mono (fun _ _ h=>h.elim)).then e5 (fun b _ h=>.inl h)).then (kT en') (fun b _ h=>.inr h)
 have e7':InFile E B T v S inv R Rf pad (f.2.drop (k+m)) tl w2:=by rw[←List.drop_drop];exact e7
 obtain⟨A,c2,hsh⟩:=own3.shape
 rw[List.length_take,Nat.min_eq_left (by omega)] at hsh
 refine⟨e2,by omega,?_,e7.glob,cell_of row2 21 rfl,dv',w3,hrun,free_of row3 21,⟨_,cell_of row3 21 (v:=dv0) rfl⟩,free_of row3 22,cell_of row3 22 rfl,(e7.glob.keep hk3 (fun b hb=>by have:=own2.block hb.symm;omega)).keep (Kp.setCell (S:=(· =F)) (p:=⟨F,21,none⟩) (Kp.refl _ w3) (.inl rfl) _) (fun b hb=>by omega),⟨A,c2,hsh⟩,fun en'=>?_⟩
 ·rcases e4 with ⟨h,h'⟩|⟨h,h'⟩
  ·exact .inl ⟨h,h'⟩
  ·rw[List.length_drop] at h'
   exact .inr ⟨h,by omega⟩
 ·have hG:∀b,Gi w N F Rf vo b→¬((((S b∨b=Rf)∨b=R)∨b=P)∨N≤b∨b=F):=fun b hb=>by
   have h0:=hnotG b hb
   obtain⟨g1,g2,g3,g4,g5⟩:=hb
   rintro(h|h|h)
   ·exact h0 h
   ·omega
   ·omega
  have row5:=heap_set (heap_set row3 21 dv') 22 (.int .i64 en')
  refine⟨⟨gs,h1.keep (kall en') (fun b hb=>?_) hG (fun _ h=>h),h2⟩,s.ownlt,⟨dv',row5,own3.keep (kF en') (fun b hb=>by have:=(own3.block hb).1;omega)⟩,s.recs.keep (kall en') hG (fun _ h=>h),s.hdr,?_,s.arc,s.padl,by have:=(kF en').size;omega,s.fl,s.rl,?_,s.old⟩
  ·have h0:=hnotO b hb
   obtain⟨g1,g2,g3,g4⟩:=s.ownlt b hb
   rintro(h|h|h)
   ·exact h0 h
   ·omega
   ·omega
  ·refine e7'.keep hR (kT en') (fun b hb=>?_)
   have hNb:w.heap.size≤b∧b≠Rf:=by rcases hb with h|h<;>omega
   exact⟨fun h=>by have:=o1 _ h;omega,hNb.2,by omega,by omega⟩
  ·refine s.kp.then (kall en') (fun b hb h=>?_)
   rcases h with (((h|h)|h)|h)|h|h
   ·exact .inl h
   ·omega
   ·exact .inr h
   ·have:=s.kp.size;omega
   ·omega
   ·omega
theorem FlIn.start (hR:IsRd E B T v S inv){wr w1 w2:World}(s:FlsSt E B T v S inv R w fs i vo wr){nh:Nat}{hd:Hd}{x pm:Value}{fm:Int}{M:List UInt8→Option (List UInt8)}{ks:List (List UInt8)}
  (a:AtFile E B T v S inv R wr f (fs.drop (i+1)) nh hd x pm fm M ks Rf pad tl w1) (k2:Kp (fun _=>False) w1 w2) {l:List Rec} (hl:RecsIs M (fun _=>false) l) (hF:w1.heap.size≤F∧F<w2.heap.size)
  (hrow:w2.heap[F]?=some (.cells (iFRow (gotH hd fm true true) rv (.slice none 0 0) 0).toArray 29 (0,0))) (ho:OwnR 171 w2 w1.heap.size rv l) (hne:¬rv.ownBlock=some F) :
  FlIn E B T v S inv R w fs i f vo w2.heap.size F Rf pad {gotH hd fm true true with recs:=l} rv tl 0 0 w2:=by
 obtain⟨gs,h1,h2⟩:=s.own
 obtain⟨o1,o2,o3⟩:=s.old
 have kp2:Kp (fun k=>S k∨k=R) wr w2:=a.kp.then k2 (fun _ _ h=>h.elim)
 have sz0:=s.kp.size
 have sz1:=a.kp.size
 have sz2:=k2.size
 have hlow:=a.low
 have hlt:=a.inf.lt hR Rf (.inl (.inr rfl))
 refine⟨⟨gs,h1.keep kp2 (fun b hb=>?_) (fun b hb=>?_) (fun b hb=>?_),h2⟩,fun b hb=>?_,⟨_,hrow,by rw[sE];exact OwnB.nil _ _⟩,?_,⟨a.hdr l hl,Nat.le_trans (hl.len a.keys) a.kl⟩,by rw[sG];exact a.inf.keep hR k2 (fun _ h=>h.elim),a.arc,a.padl,Nat.le_refl _,⟨by omega,hF.2⟩,⟨by omega,by omega,by omega⟩,s.kp.then kp2 (fun _ _ h=>h),s.old⟩
 ·have:=h1.block hb
  rintro(h|h)
  ·have:=o1 _ h;omega
  ·omega
 ·obtain⟨g1,g2,g3⟩:=hb
  rintro(h|h)
  ·have:=o1 _ h;omega
  ·omega
 ·obtain⟨g1,g2,g3⟩:=hb
  exact⟨g1,by omega,by omega,by omega,g3⟩
 ·have:=h1.block hb
  exact⟨by omega,by omega,by omega,by omega⟩
 ·refine recsQ_of ho.at_ ho.cap (fun b o c e=>?_)
  have hb:=ho.block (b:=b) (by rw[e];rfl)
  refine⟨by omega,hb.2,by omega,fun e2=>?_,fun e2=>?_⟩
  ·subst e2
   exact hne (by rw[e];rfl)
  ·have:=h1.block e2.symm
   omega
theorem FlIn.done (hR:IsRd E B T v S inv)(s:FlIn E B T v S inv R w fs i f vo N F Rf pad hh rv tl k 1 wx)(hf:fs[i]?=some f)(hk:k=f.2.length)(hfl:fs.length≤1048576)(ty:TypeId) :
  ∃dv,wx.heap[F]?=some (.cells (iFRow hh rv dv 1).toArray 29 (0,0))∧((iFRow hh rv dv 1).toArray.all fun x=>x.oneCell')=true∧∃v3 w3,(Builtin.append_ #[35,35] ty #[vo, .slice (some ⟨wx.heap.size,0,none⟩) 1 1]).run Tryz.prog (wx.alloc (.cells (iFRow hh rv dv 1).toArray 29))=.ok v3 w3 ∧
   w3.cell? ⟨F,22,none⟩=some (.int .i64 1)∧FlsSt E B T v S inv R w fs (i+1) v3 w3:=by
 subst hk
 obtain⟨gs,h1,h2⟩:=s.own
 obtain⟨dv,h3,h4⟩:=s.row
 obtain⟨o1,o2,o3⟩:=s.old
 obtain⟨hF1,hF2⟩:=s.fl
 have hN:=s.nl
 have hi:i<fs.length:=(List.getElem?_eq_some_iff.1 hf).1
 have hgl:=h2.len
 rw[List.length_take] at hgl
 rw[List.take_length] at h4
 have hGi:∀b,Gi w N F Rf vo b→Gq w wx vo b:=fun b ⟨g1,g2,g3,g4,g5⟩=>⟨g1,by omega,g5⟩
 have h1':OwnG wx w.heap.size (Gq w wx vo) vo gs:=h1.keep (Kp.refl (fun _=>False) _) (fun _ _ h=>h) (fun _ _ h=>h) hGi
 have hrq:RecsQ wx (Gq w wx vo) rv hh.recs:=s.recs.keep (Kp.refl (fun _=>False) _) (fun _ _ h=>h) hGi
 have hdq:DataQ wx (Gq w wx vo) dv f.2:=by
  rcases h4.bytes with ⟨rfl,e⟩|⟨g,c,rfl,q1,q2,q3,q4,q5⟩
  ·exact .inl ⟨.inl rfl,e⟩
  ·refine .inr ⟨g,0,c,rfl,?_,q5⟩
   have hb:=h4.block (b:=g) rfl
   refine⟨by omega,hb.2,fun e=>?_⟩
   have:=s.ownlt g e.symm
   omega
 obtain⟨v3,w3,hrun,ho,hk,hv⟩:=h1'.push (hh,f.2,1) hrq hdq (by omega) s.kp.size (fun b hb=>hb.2.2) ty
 have hfr:w3.heap[F]?=some (.cells (iFRow hh rv dv 1).toArray 29 (0,0)):=hk.heap h3 (fun e=>by have:=s.ownlt F e.symm;omega)
 refine⟨dv,h3,?_,v3,w3,hrun,cell_of hfr 22 rfl,⟨⟨gs++[(hh,f.2,1)],ho.keep (Kp.refl (fun _=>False) _) (fun _ _ h=>h) (fun _ _ h=>h) (fun b hb=>?_),?_⟩,⟨0,pad,tl,?_,s.arc⟩,s.kp.then hk (fun b hb e=>?_),s.old⟩⟩
 ·have e1:=hrq.one
  have e2:=hdq.one
  simp[iFRow,iRowH,iRow,strv,Value.oneCell']
  exact⟨e1,e2⟩
 ·obtain⟨g1,g2,g3⟩:=hb
  have:=hk.size
  refine⟨g1,by omega,fun e=>?_⟩
  rcases hv with hv|hv
  ·exact g3 (e.trans hv)
  ·rw[hv] at e;injection e with e;omega
 ·have htk:fs.take (i+1)=fs.take i++[f]:=by
   rw[List.take_succ_eq_append_getElem hi]
   rw[List.getElem?_eq_getElem hi] at hf
   injection hf with hf
   rw[hf]
  rw[htk]
  exact h2.snoc ⟨s.hdr.1,rfl,rfl,s.hdr.2⟩
 ·have hin:=s.inf
  rw[List.drop_length] at hin
  have hin3:=hin.keep hR hk (fun b hb=>by
   obtain⟨g1,g2,g3,g4⟩:=s.ownlt b hb.symm
   exact⟨fun h=>by have:=o1 _ h;omega,g3,by omega,by omega⟩)
  exact hin3.nxin s.padl (Nat.zero_le _)
 ·have:=(s.ownlt b e.symm).1
  omega
def FlsEnd (Q:Nat→Prop)(w:World)(fs:List File)(e:Ending)(w':World):Prop:=
 ∃vo gs,e=.returned (.tuple #[vo, .int .i64 1])∧IFilesAt w' w'.heap.size vo gs∧GotAll gs fs∧Kp Q w w'
theorem FlsSt.fin (s:FlsSt E B T v S inv R w fs fs.length vo wx)(q:Kp (fun k=>S k∨k=R) wx wy):FlsEnd (fun k=>S k∨k=R) w fs (.returned (.tuple #[vo, .int .i64 1])) wy:=by
 obtain⟨gs,h1,h2⟩:=s.own
 obtain⟨o1,o2,o3⟩:=s.old
 rw[List.take_length] at h2
 have hq:∀b,w.heap.size≤b→¬(S b∨b=R):=fun b hb=>by
  rintro(h|h)
  ·have:=o1 _ h;omega
  ·omega
 have h3:=h1.keep q (fun b hb=>hq b (h1.block hb).1) (fun b hb=>hq b hb.1) (fun b hb=>(show b<wy.heap.size from Nat.lt_of_lt_of_le hb.2.1 q.size))
 exact⟨vo,gs,rfl,h3.filesAt (fun b hb=>hb) (Nat.le_refl _),h2,s.kp.then q (fun _ _ h=>h)⟩
end
end
theorem run_bsG (W:World)(h:Hd)(rv dv:Value)(en:Int):(Instr.buildSlice 35 1 #[(0, .agg (iFRow h rv dv en).toArray)]).run Tryz.prog W=.ok (.slice (some ⟨W.heap.size,0,none⟩) 1 1) (W.alloc (.cells (iFRow h rv dv en).toArray 29)):=
 run_bs W 23 infoG _ (by decide) (by decide) (fun z=>by kernel_rfl)
theorem run_build29 (W:World)(h:Hd)(A:Option Addr)(n c:Nat):(Instr.build 29 #[(0, .agg (iRowH h (.slice A n c)).toArray)]).run Tryz.prog W=.ok (.agg (iFRow h (.slice A n c) (.slice none 0 0) 0).toArray) W:=
 run_build W 29 _ _ (by kernel_rfl)
set_option maxHeartbeats 12800000 in
theorem files_any {E:Nat→Addr}{B:Nat}{T:TypeId}{v:Value}{S:Nat→Prop}{inv:World→Nat→List UInt8→Prop}(hs:IsSrc E B T v S inv)(w:World)(R nb pad:Nat)(src:List UInt8)(fs:List File)
  (hin:NxIn E B T v S inv R nb pad src w) (ha:ArcS nb pad src fs) (hg:∀f∈fs,GoodF f) (hfl:fs.length≤1048576) :
  Calls Tryz.prog 52 #[.pointer (some ⟨R,0,none⟩), .int .i64 1048577] w fun e w'=>Hid (FlsEnd (fun k=>S k∨k=R) w fs e w'):=by
 have hold:(∀k,S k→k<w.heap.size)∧R<w.heap.size∧B≤w.heap.size:=by
  obtain⟨cur,blk,h,_⟩:=hin
  exact⟨(hs.rd.foot h.rd).2,lt_of h.row,h.glob.size⟩
 have S0:Hid (FlsSt E B T v S inv R w fs 0 (.slice none 0 0) w):=⟨⟨[],OwnG.nil _ _ _,by rw[sE];exact .nil⟩,⟨nb,pad,src,hin,by rw[sG];exact ha⟩,Kp.refl _ _,hold⟩
 have HS:=hid hs
 have HGF:=hid hg
 have HOLD:=hid hold
 clear hin ha hg hold hs
 go_enter Tryz.func52,Tryz.ntmps52
 go_wp2_with fail
 go_loopg [6] fs.length (fun g s6 wr=>∃(i:Nat),i+g=fs.length∧Hid (FlsSt E B T v S inv R w fs i s6 wr))
 case atStart=>exact⟨0,by omega,S0⟩
 case round=>
  clear S0
  obtain⟨i,hi,hst⟩:=hrel
  obtain⟨nb,pad,src,hn,harc⟩:=hst.out.rd
  by_cases hlt:i<fs.length
  ·obtain⟨f,hf⟩:∃f,fs[i]?=some f:=⟨_,List.getElem?_eq_getElem hlt⟩
   have hfg:=HGF.out f (List.mem_of_getElem? hf)
   have hdr:fs.drop i=f::fs.drop (i+1):=by
    rw[List.drop_eq_getElem_cons hlt]
    rw[List.getElem?_eq_getElem hlt] at hf
    injection hf with hf
    rw[hf]
   rw[hdr] at harc
   obtain⟨out,hh,hao,hon,hot,hor⟩:=harc.one hfg
   have HNX:=hid (Next_any HS.out wr R nb pad src out hn hh)
   have HAF:Hid (∀e w1,NxOut E B T v S inv R wr out e w1→∃(nh:Nat) (hd:Hd) (x pm:Value) (fm:Int) (M:List UInt8→Option (List UInt8)) (ks:List (List UInt8)) (Rf pad:Nat) (tl:List UInt8),e=.returned (.tuple #[.pointer (some ⟨nh,0,none⟩), .nilIface])∧AtFile E B T v S inv R wr f (fs.drop (i+1)) nh hd x pm fm M ks Rf pad tl w1):=by
    intro e w1 hnx
    have h1:=HOLD.out
    have h2:=hst.out.kp.size
    exact atFile_of hnx hao (fun k hk=>by have:=h1.1 k hk;omega) (by omega) hfg.dl hor hot
   have hdl:=hfg.dl
   have HF:=hid hf
   clear hn harc hh hao hon hot hor hdr hf hfg
   go_wp2_with fail
   refine HNX.out.mono ?_
   rintro e w1 hnx
   obtain⟨nh,hd,x,pm,fm,M,ks,Rf,pd,tl,rfl,hat⟩:=HAF.out e w1 hnx
   have HAT:=hid hat
   have HOF:=hid (headerOf_any w1 nh hd x pm fm M ks hat.row hat.pm hat.times hat.keys hat.kl)
   clear hnx hat HNX HAF
   go_wp2_with fail
   refine HOF.out.mono ?_
   rintro e w2 hx
   obtain⟨rv,l,rfl,ho,hl,k2⟩:=hx.out
   obtain⟨Ar,cr,hrv⟩:=ho.at_.shape
   subst hrv
   have HB:=fun W=>run_build29 W (gotH hd fm true true) Ar l.length cr
   have hone:((iFRow (gotH hd fm true true) (.slice Ar l.length cr) (.slice none 0 0) 0).toArray.all fun x=>x.oneCell')=true:=by simp[iFRow,iRowH,iRow,strv,Value.oneCell']
   have ST:Hid (∀wB,wB.heap[w2.heap.size]?=some (.cells (iFRow (gotH hd fm true true) (.slice Ar l.length cr) (.slice none 0 0) 0).toArray 29 (0,0))→Kp (fun _=>False) w2 wB→wB.heap.size=w2.heap.size+1→Hid (FlIn E B T v S inv R w fs i f u6 wB.heap.size w2.heap.size Rf pd {gotH hd fm true true with recs:=l} (.slice Ar l.length cr) tl 0 0 wB)):=by
    show ∀wB,_
    intro wB gB kB sB
    exact FlIn.start HS.out.rd hst.out HAT.out (k2.trans kB) hl ⟨k2.size,by omega⟩ gB (ho.keep kB (fun _ _ h=>h)) (fun e=>by have:=ho.block e;omega)
   clear ho hl k2 hx HOF HAT hst
   dsimp only
   rename_i K hK
   refine hK _ _ ?_
   clear hK
   refine wpList_build_as rfl 29 #[(0, .tmp 24)] rfl #[(0, .agg (iRowH (gotH hd fm true true) (.slice Ar l.length cr)).toArray)] ?_ (.agg (iFRow (gotH hd fm true true) (.slice Ar l.length cr) (.slice none 0 0) 0).toArray) (HB _) ?_
   ·kernel_rfl
   go_step;go_step;go_step;refine wpList_store_row rfl 29 (.tmp 9) (.tmp 25) rfl w2.heap.size (iFRow (gotH hd fm true true) (.slice Ar l.length cr) (.slice none 0 0) 0).toArray rfl rfl 29 _ (heap_new w2 _) (by kernel_rfl) (by rfl) hone ?_
   go_wp2_with fail
   refine code_row ?_
   intro wB gB kB sB
   have SB:=ST.out wB gB kB sB
   clear gB kB ST hone HB
   generalize wB.heap.size=N0 at SB
   clear sB
   generalize w2.heap.size=F at SB ⊢
   obtain⟨hh,hhh⟩:∃hh,{gotH hd fm true true with recs:=l}=hh:=⟨_,rfl⟩
   obtain⟨rv,hrv⟩:∃rv,Value.slice Ar l.length cr=rv:=⟨_,rfl⟩
   rw[hhh,hrv] at SB
   clear hhh hrv
   go_loopg [10] (f.2.length+1) (fun g s10 wx=>∃(k:Nat) (en:Int),Hid (FlIn E B T v S inv R w fs i f u6 N0 F Rf pd hh rv tl k en wx)∧(en=0∧k≤f.2.length∧f.2.length-k+1≤g∨en=1∧k=f.2.length))
   case atStart=>exact⟨0,0,SB, .inl ⟨rfl,Nat.zero_le _,by omega⟩⟩
   case round=>
    clear SB
    obtain⟨k,en,hSI,hor⟩:=hrel
    have SI:Hid (FlIn E B T v S inv R w fs i f u6 N0 F Rf pd hh rv tl k en wr):=hSI.out
    rcases hor with ⟨rfl,hk,hgk⟩|⟨rfl,hk⟩
    ·obtain⟨dv,hrow,hown⟩:=SI.out.row
     obtain⟨A1,c1,hdv⟩:=hown.shape
     rw[List.length_take,Nat.min_eq_left hk] at hdv
     subst hdv
     have c21:wr.cell? ⟨F,21,none⟩=some (.slice A1 k c1):=cell_of hrow 21 rfl
     have c22:wr.cell? ⟨F,22,none⟩=some (.int .i64 0):=cell_of hrow 22 rfl
     obtain⟨n,hn,hn1,hn2⟩:∃n:Nat,Hid (min 512 (1048577-k)=n)∧1≤n∧n≤512:=⟨_,hid rfl,by omega,by omega⟩
     have hk2:(k:Int)<1048577:=by omega
     have hmin:min (512:Int) (1048577-(k:Int))=(n:Int):=by have:=hn.out;omega
     have hmin2:(if (1048577-(k:Int))<512 then 1048577-(k:Int) else 512)=(n:Int):=by have:=hn.out;split<;>omega
     have hwr:IntKind.i64.wrap (1048577-(k:Int))=1048577-(k:Int):=IntWalk.i64_in _ (by omega)
     have hmk:=fun W=>mk27 W n (by omega)
     have HRD:Hid (Calls Tryz.prog 51 #[.pointer (some ⟨R,0,none⟩), .slice (some ⟨wr.heap.size,0,none⟩) n n] (wr.alloc (.cells (ubs (List.replicate n 0)).toArray 5)) (RdEnd E B T v S inv R Rf pd (f.2.drop k) tl (wr.alloc (.cells (ubs (List.replicate n 0)).toArray 5)) wr.heap.size n (ubs (List.replicate n 0)) 5)):=by
      have hlt2:=SI.out.inf.lt HS.out.rd
      have hN:=SI.out.nl
      have hB:=HOLD.out.2.2
      have hkw:=SI.out.kp.size
      exact(SI.out.inf.keep HS.out.rd ((Kp.refl (fun _=>False) _).alloc _) (fun _ h=>h.elim)).read HS.out.rd _ n n 5 _ hn1 (by omega) (heap_new wr _) (by rw[ubs_length,List.length_replicate];omega) (Nat.le_refl _) (fun h=>by have:=hlt2 _ h;omega) (by omega)
     have HGK:=hid hgk
     have HHK:=hid hk
     clear hSI hrow hown hgk hk hn
     go_wp2_with fail
     refine HRD.out.mono ?_
     rintro e w3 hrd
     have hrd0:=hrd
     obtain⟨m,err,rfl,_⟩:=hrd0
     obtain⟨q1,q2,q3,q4,q5,dv',w4,hrun,z21,⟨x21,y21⟩,z22,y22,q6,⟨A2,c2,rfl⟩,NX⟩:=SI.out.step HS.out.rd c21 wr.heap.size n m _ (wr.alloc (.cells (ubs (List.replicate n 0)).toArray 5)) w3 w3.drew _ 5 rfl ((Kp.refl _ _).alloc _) ((Kp.refl _ _).drew) hrd (by rw[ubs_length,List.length_replicate];omega) err rfl HHK.out hdl n 27
     have HRUN:=hid hrun
     have HQ2:=hid q2
     have HNX:=hid NX
     have hmi:(m:Int)≤(n:Int):=by omega
     have hmi0:(0:Int)≤(m:Int):=by omega
     have hn0:¬n=0:=by omega
     clear hrd c21 c22 hmk hrun q2 NX HRD hmin hmin2 hwr SI q4
     rcases q3 with ⟨rfl,hm⟩|⟨rfl,hm⟩
     ·have HM:=hid hm
      clear hm
      go_upto_region 9 with fail
      go_region_law (refine step_append_run rfl _ _ _ _ rfl _ _ rfl rfl _ _ HRUN.out ?_)
      all_goals
       go_wp2_with fail
       refine(end_nil _).mono ?_
       rintro e w5 ⟨rfl,rfl⟩
       go_wp2_with fail
       go_roundg (f.2.length-(k+m)+1)
       case measure=>have h1:=HGK.out;have h2:=HQ2.out;have h3:=HM.out;omega
       case rel=>exact⟨k+m,0,HNX.out 0, .inl ⟨rfl,HQ2.out,Nat.le_refl _⟩⟩
     ·have HM:=hid hm
      clear hm
      obtain⟨et,ev,hev⟩:∃t v,errv (E 0)=.iface t v:=⟨_,_,rfl⟩
      have HEN:=fun W (hW:Glob E B W)=>hid (end_err W hW 0 (.inl rfl))
      rw[hev] at HEN ⊢
      go_upto_region 9 with fail
      go_region_law (refine step_append_run rfl _ _ _ _ rfl _ _ rfl rfl _ _ HRUN.out ?_)
      all_goals
       go_wp2_with fail
       refine(HEN _ q6).out.mono ?_
       rintro e w5 ⟨rfl,rfl⟩
       go_wp2_with fail
       go_roundg 0
       case measure=>have h1:=HGK.out;omega
       case rel=>exact⟨k+m,1,HNX.out 1, .inr ⟨rfl,HM.out⟩⟩
    ·obtain⟨dv,hrow,hone,v3,w3,hrun,c22n,NX⟩:=SI.out.done HS.out.rd HF.out hk hfl 35
     have c22:wr.cell? ⟨F,22,none⟩=some (.int .i64 1):=cell_of hrow 22 rfl
     have HRUN:=hid hrun
     have HNX:=hid NX
     have HROW:=hid hrow
     clear hSI SI hrun NX hrow
     go_upto_region 11 with fail
     go_step;go_step;go_step;go_step;refine wpList_load_row rfl 29 (.tmp 9) rfl F rfl 29 (iFRow hh rv dv 1).toArray (0,0) _ HROW.out Tryz.underlying29 rfl (by kernel_rfl) ?_
     refine wpList_bslice_as rfl 35 1 #[(0, .tmp 64)] rfl #[(0, .agg (iFRow hh rv dv 1).toArray)] ?_ (.slice (some ⟨wr.heap.size,0,none⟩) 1 1) (run_bsG _ _ _ _ _) ?_
     ·kernel_rfl
     refine Lib.wpList_append_run _ rfl _ _ _ _ rfl _ _ rfl rfl _ _ HRUN.out ?_
     go_wp2_with fail
     go_roundg (fs.length-(i+1))
     case measure=>omega
     case rel=>exact⟨i+1,by omega,HNX.out⟩
  ·obtain rfl:i=fs.length:=by omega
   rw[List.drop_length] at harc
   have HNX:=hid (Next_any HS.out wr R nb pad src (.fail 0) hn harc.end_)
   have hG0:Glob E B wr∧B≤R:=by
    obtain⟨cur,blk,h,_⟩:=hn
    exact⟨h.glob,h.above⟩
   clear hn harc
   go_wp2_with fail
   refine HNX.out.mono ?_
   rintro e w1 ⟨k1,rfl,hr1⟩
   have FIN:Hid (FlsEnd (fun k=>S k∨k=R) w fs (.returned (.tuple #[u6, .int .i64 1])) w1):=hst.out.fin k1
   have hG1:Glob E B w1:=hG0.1.keep k1 (fun b hb=>by
    rcases hb with h|h
    ·exact HS.out.rd.low _ h
    ·rw[h];exact hG0.2)
   have HEN:=hid (end_err w1 hG1 0 (.inl rfl))
   clear hst HNX hr1 k1
   go_wp2_with fail
   refine HEN.out.mono ?_
   rintro e w2 ⟨rfl,rfl⟩
   go_wp2_with fail
   go_ret2
   exact FIN
theorem DataQ.dataAt {w:World}{Q:Nat→Prop}{dv:Value}{l:List UInt8}(h:DataQ w Q dv l):DataAt w dv l:=by
 rcases h with h|⟨b,o,c,h1,_,h3⟩
 ·exact .inl h
 ·exact .inr ⟨b,o,c,h1,h3⟩
set_option maxHeartbeats 12800000 in
theorem are_any (w:World)(B:Nat)(vo v:Value)(gs:List IFile)(fs:List File)(hg:IFilesAt w B vo gs)(hf:FilesAt w B v fs)(h:GotAll gs fs)(hgn:gs.length≤2147483648)(hgl:∀g∈gs,g.1.recs.length≤2147483648)(hfl:∀f∈fs,f.1.recs.length≤2147483648∧f.2.length≤1099511627776) :
  Calls Tryz.prog 26 #[vo,v] w fun e w'=>e=.returned (.bool true)∧Kp (fun _=>False) w w':=by
 obtain⟨A,c,rfl⟩:=hg.shape
 obtain⟨A2,c2,rfl⟩:=hf.shape
 have hlen:=h.len
 rw[←hlen]
 have HG:=hid hg
 have HF:=hid hf
 have HH:=hid h
 have HGL:=hid hgl
 have HFL:=hid hfl
 have HLEN:=hid hlen
 clear hg hf h hgl hfl hlen
 go_enter Tryz.func26,Tryz.ntmps26
 go_wp2_with fail
 go_loopg [14] gs.length (fun g s14 wr=>∃(i:Nat),i+g=gs.length∧s14=.int .i64 i∧Hid (Kp (fun _=>False) w wr))
 case atStart=>exact⟨0,by omega,rfl,Kp.refl _ _⟩
 case round=>
  obtain⟨i,hi,rfl,hst⟩:=hrel
  by_cases hlt:i<gs.length
  ·obtain⟨g,hgi⟩:∃g,gs[i]?=some g:=⟨_,List.getElem?_eq_getElem hlt⟩
   obtain⟨f,hfi,hok⟩:=HH.out.get hgi
   have hgr:IFilesAt wr B (.slice A gs.length c) gs:=HG.out.keep hst.out (fun _ h=>h.elim)
   obtain⟨b,o,c',hA,hbC,rv,dv,hrg,hra,hda⟩:=hgr.get hgi
   injection hA with hA1 hA2 hA3
   subst hA1 hA3
   have hfr:FilesAt wr B (.slice A2 fs.length c2) fs:=HF.out.keep hst.out (fun _ h=>h.elim)
   obtain⟨b2,o2,c2',hB,hbC2,rv2,dv2,hrg2,hra2,hda2,_,hcap⟩:=hfr.get hfi
   injection hB with hB1 hB2 hB3
   subst hB1 hB3
   have hda':=hda.dataAt
   have hq1:=HGL.out g (List.mem_of_getElem? hgi)
   have hq2:=HFL.out f (List.mem_of_getElem? hfi)
   obtain⟨hok1,hok2,hok3,_⟩:=hok
   rw[hok2] at hda'
   rw[hok3] at hrg
   have hone:((iFRow g.1 rv dv 1).toArray.all fun x=>x.oneCell')=true:=by
    have h1:rv.oneCell'=true:=by
     obtain⟨Ar,cr,hr1⟩:=hra.shape
     subst hr1
     rfl
    have h2:=hda.one
    simp[iFRow,iRowH,iRow,strv,Value.oneCell']
    exact⟨h1,h2⟩
   have HIS:Hid (∀W,Kp (fun _=>False) wr W→Hid (Calls Tryz.prog 22 #[.agg (iRowH g.1 rv).toArray, .agg (sRow f.1 rv2).toArray] W fun e w'=>e=.returned (.bool true)∧Kp (fun _=>False) W w')):=by
    show ∀W,_
    intro W k
    exact isHeader_any W B g.1 f.1 rv rv2 (hra.keep k (fun _ h=>h.elim)) (hra2.keep k (fun _ h=>h.elim)) hcap hq1 hq2.1 hok1
   have HSB:Hid (∀W,Kp (fun _=>False) wr W→Hid (Calls Tryz.prog 23 #[dv,dv2] W fun e w'=>e=.returned (.bool true)∧Kp (fun _=>False) W w')):=by
    show ∀W,_
    intro W k
    exact sameB_any W dv dv2 f.2 (hda'.keepF k) (hda2.keepF k) hq2.2
   have hi1:(0:Int)≤(i:Int):=by omega
   have hi2:(i:Int)<(gs.length:Int):=by omega
   have HRG:=hid hrg
   have HRG2:Hid (wr.rangeAt b2 (o2+i*22) (sRow f.1 rv2++[dv2])):=hrg2
   obtain⟨Ad,nd,cd,hdv⟩:∃A n c,dv=.slice A n c:=by
    obtain⟨A,c,e⟩:=hda'.shape
    exact⟨A,_,c,e⟩
   obtain⟨Ae,ne,ce,hdv2⟩:∃A n c,dv2=.slice A n c:=by
    obtain⟨A,c,e⟩:=hda2.shape
    exact⟨A,_,c,e⟩
   obtain⟨Ar,nr,cr,hrv⟩:∃A n c,rv=.slice A n c:=by
    obtain⟨A,c,e⟩:=hra.shape
    exact⟨A,_,c,e⟩
   obtain⟨As,ns,cs,hrv2⟩:∃A n c,rv2=.slice A n c:=by
    obtain⟨A,c,e⟩:=hra2.shape
    exact⟨A,_,c,e⟩
   subst hdv hdv2 hrv hrv2
   clear hA2 hB2 hgr hfr hrg hra hda hrg2 hra2 hda2 hda' hcap hgi hfi hok1 hok2 hok3 hq1 hq2
   go_upto_region 5 with fail
   go_step;go_step;go_step;go_step;go_step;go_step;go_step;refine wpList_load_mid rfl 29 (.tmp 17) rfl b (o+i*23) rfl (iFRow g.1 (.slice Ar nr cr) (.slice Ad nd cd) 1) _ HRG.out Tryz.underlying29 rfl (by kernel_rfl) ?_
   go_step;go_step;go_step;go_step;go_step;go_step;refine wpList_store_row rfl 29 (.tmp 6) (.tmp 18) rfl wr.heap.size (iFRow g.1 (.slice Ar nr cr) (.slice Ad nd cd) 1).toArray rfl rfl 29 _ (heap_new wr _) (by kernel_rfl) (by rfl) hone ?_
   go_upto_region 6 with fail
   refine code_row ?_
   intro wB gB kB sB
   have KB:=hid (hst.out.trans kB)
   have HISB:Hid (∀W,Kp (fun _=>False) wB W→Hid (Calls Tryz.prog 22 #[.agg (iRowH g.1 (.slice Ar nr cr)).toArray, .agg (sRow f.1 (.slice As ns cs)).toArray] W fun e w'=>e=.returned (.bool true)∧Kp (fun _=>False) W w')):=fun W k=>HIS.out W (kB.trans k)
   have HSBB:Hid (∀W,Kp (fun _=>False) wB W→Hid (Calls Tryz.prog 23 #[.slice Ad nd cd, .slice Ae ne ce] W fun e w'=>e=.returned (.bool true)∧Kp (fun _=>False) W w')):=fun W k=>HSB.out W (kB.trans k)
   have C22:=hid (cell_of gB 22 (v:=.int .i64 1) rfl)
   have C21:=hid (cell_of gB 21 (v:=.slice Ad nd cd) rfl)
   have RB:Hid (∀W,Kp (fun _=>False) wB W→W.rangeAt wr.heap.size 0 (iRowH g.1 (.slice Ar nr cr))):=by
    show ∀W,_
    intro W k j v hv
    rw[Nat.zero_add]
    exact k.cell (cell_of gB j (by rw[List.getElem?_toArray];unfold iFRow;rw[List.getElem?_append_left (List.getElem?_eq_some_iff.1 hv).1];exact hv)) (fun h=>h)
   have RB2:Hid (∀W,Kp (fun _=>False) wB W→W.rangeAt b2 (o2+i*22) (sRow f.1 (.slice As ns cs))):=by
    show ∀W,_
    intro W k j v hv
    exact k.cell (kB.cell (HRG2.out j v (by rw[List.getElem?_append_left (List.getElem?_eq_some_iff.1 hv).1];exact hv)) (fun h=>h)) (fun h=>h)
   have C2D:Hid (wB.cell? ⟨b2,o2+i*22+21,none⟩=some (.slice Ae ne ce)):=kB.cell (HRG2.out 21 _ rfl) (fun h=>h)
   clear gB kB sB hst hone HIS HSB HRG HRG2 HG HF HH HGL HFL HLEN
   generalize wr.heap.size=F at C22 C21 RB ⊢
   have S0:Kp (fun _=>False) wB wB.drew:=(Kp.refl _ _).drew
   refine wp_region_held_drew (S:=fun W=>Kp (fun _=>False) wB W) (by kernel_rfl) S0 (fun hHeld=>?_)
   clear S0
   refine wpAnyH_take (i:=0) (v:=?_) rfl (by kernel_rfl) (by kernel_rfl) (by kernel_rfl) (fun _ _ _ h=>h) (Or.inl ⟨by rfl,?_⟩) (by assumption) ?_
   rotate_left 1
   ·intro W hSw;clear hSw;go_simp;(try with_reducible rfl)
   try simp only[Act.put,List.getElem_toArray,List.getElem_cons_succ,List.getElem_cons_zero,sA,sB,sC]
   refine wpAnyH_take (i:=1) (v:=?_) rfl (by kernel_rfl) (by kernel_rfl) (by kernel_rfl) (fun _ _ _ h=>h) (Or.inl ⟨by rfl,?_⟩) (by assumption) ?_
   rotate_left 1
   ·intro W hSw;have c22:=hSw.cell C22.out (fun h=>h);clear hSw;go_simp;(try with_reducible rfl)
   try simp only[Act.put,List.getElem_toArray,List.getElem_cons_succ,List.getElem_cons_zero,sA,sB,sC]
   refine wpAnyH_take (i:=2) (v:=?_) rfl (by kernel_rfl) (by kernel_rfl) (by kernel_rfl) (fun _ _ _ h=>h) (Or.inl ⟨by rfl,?_⟩) (by assumption) ?_
   rotate_left 1
   ·intro W hSw;clear hSw;go_simp;(try with_reducible rfl)
   try simp only[Act.put,List.getElem_toArray,List.getElem_cons_succ,List.getElem_cons_zero,sA,sB,sC]
   refine wpAnyH_take (i:=3) (v:=?_) rfl (by kernel_rfl) (by kernel_rfl) (by kernel_rfl) (fun _ _ _ h=>h) (Or.inl ⟨by rfl,?_⟩) (by assumption) ?_
   rotate_left 1
   ·intro W hSw;clear hSw;go_simp;(try with_reducible rfl)
   try simp only[Act.put,List.getElem_toArray,List.getElem_cons_succ,List.getElem_cons_zero,sA,sB,sC]
   refine wpAnyH_take (i:=4) (v:=?_) rfl (by kernel_rfl) (by kernel_rfl) (by kernel_rfl) (fun _ _ _ h=>h) (Or.inl ⟨by rfl,?_⟩) (by assumption) ?_
   rotate_left 1
   ·intro W hSw;clear hSw;go_simp;(try with_reducible rfl)
   try simp only[Act.put,List.getElem_toArray,List.getElem_cons_succ,List.getElem_cons_zero,sA,sB,sC]
   refine' wpAnyH_take (i:=5) (v:=_) rfl (by kernel_rfl) (by kernel_rfl) (by kernel_rfl) (fun _ _ _ h=>h) (yieldsIf_load_mid (by rfl) 26 (.tmp 23) rfl F 0 rfl (iRowH g.1 (.slice Ar nr cr)) _ (fun W hSw=>RB.out W hSw) Tryz.underlying26 rfl (by kernel_rfl)) (by assumption) ?_
   try simp only[Act.put,List.getElem_toArray,List.getElem_cons_succ,List.getElem_cons_zero,sA,sB,sC]
   refine wpAnyH_take (i:=6) (v:=?_) rfl (by kernel_rfl) (by kernel_rfl) (by kernel_rfl) (fun _ _ _ h=>h) (Or.inl ⟨by rfl,?_⟩) (by assumption) ?_
   rotate_left 1
   ·intro W hSw;clear hSw;go_simp;(try with_reducible rfl)
   try simp only[Act.put,List.getElem_toArray,List.getElem_cons_succ,List.getElem_cons_zero,sA,sB,sC]
   refine wpAnyH_take (i:=7) (v:=?_) rfl (by kernel_rfl) (by kernel_rfl) (by kernel_rfl) (fun _ _ _ h=>h) (Or.inl ⟨by rfl,?_⟩) (by assumption) ?_
   rotate_left 1
   ·intro W hSw;clear hSw;go_simp;(try with_reducible rfl)
   try simp only[Act.put,List.getElem_toArray,List.getElem_cons_succ,List.getElem_cons_zero,sA,sB,sC]
   refine wpAnyH_take (i:=8) (v:=?_) rfl (by kernel_rfl) (by kernel_rfl) (by kernel_rfl) (fun _ _ _ h=>h) (Or.inl ⟨by rfl,?_⟩) (by assumption) ?_
   rotate_left 1
   ·intro W hSw;clear hSw;go_simp;(try with_reducible rfl)
   try simp only[Act.put,List.getElem_toArray,List.getElem_cons_succ,List.getElem_cons_zero,sA,sB,sC]
   refine wpAnyH_take (i:=9) (v:=?_) rfl (by kernel_rfl) (by kernel_rfl) (by kernel_rfl) (fun _ _ _ h=>h) (Or.inl ⟨by rfl,?_⟩) (by assumption) ?_
   rotate_left 1
   ·intro W hSw;clear hSw;go_simp;(try with_reducible rfl)
   try simp only[Act.put,List.getElem_toArray,List.getElem_cons_succ,List.getElem_cons_zero,sA,sB,sC]
   refine' wpAnyH_take (i:=10) (v:=_) rfl (by kernel_rfl) (by kernel_rfl) (by kernel_rfl) (fun _ _ _ h=>h) (yieldsIf_load_mid (by rfl) 45 (.tmp 28) rfl b2 (o2+i*22) rfl (sRow f.1 (.slice As ns cs)) _ (fun W hSw=>RB2.out W hSw) Tryz.underlying45 rfl (by kernel_rfl)) (by assumption) ?_
   try simp only[Act.put,List.getElem_toArray,List.getElem_cons_succ,List.getElem_cons_zero,sA,sB,sC]
   refine wpAnyH_one (i:=11) (v:=.bool true) rfl (by decide +kernel) (by assumption) (Or.inr ⟨by kernel_rfl,?_⟩) ?_
   ·intro K hK
    go_simp
    go_at_call 22
    refine(HISB.out _ hHeld).out.mono ?_
    rintro e w1 ⟨rfl,k1⟩
    go_wp2_with fail
    refine at_frame (hK.out _ (hHeld.trans k1)) ?_
    kernel_rfl
   clear hHeld
   intro w9 hHeld
   try simp only[Act.put,List.getElem_toArray,List.getElem_cons_succ,List.getElem_cons_zero,sA,sB,sC]
   refine wpAnyH_take (i:=12) (v:=?_) rfl (by kernel_rfl) (by kernel_rfl) (by kernel_rfl) (fun _ _ _ h=>h) (Or.inl ⟨by rfl,?_⟩) (by assumption) ?_
   rotate_left 1
   ·intro W hSw;clear hSw;go_simp;(try with_reducible rfl)
   try simp only[Act.put,List.getElem_toArray,List.getElem_cons_succ,List.getElem_cons_zero,sA,sB,sC]
   refine wpAnyH_take (i:=13) (v:=?_) rfl (by kernel_rfl) (by kernel_rfl) (by kernel_rfl) (fun _ _ _ h=>h) (Or.inl ⟨by rfl,?_⟩) (by assumption) ?_
   rotate_left 1
   ·intro W hSw;clear hSw;go_simp;(try with_reducible rfl)
   try simp only[Act.put,List.getElem_toArray,List.getElem_cons_succ,List.getElem_cons_zero,sA,sB,sC]
   refine wpAnyH_take (i:=14) (v:=?_) rfl (by kernel_rfl) (by kernel_rfl) (by kernel_rfl) (fun _ _ _ h=>h) (Or.inl ⟨by rfl,?_⟩) (by assumption) ?_
   rotate_left 1
   ·intro W hSw;clear hSw;go_simp;(try with_reducible rfl)
   try simp only[Act.put,List.getElem_toArray,List.getElem_cons_succ,List.getElem_cons_zero,sA,sB,sC]
   refine wpAnyH_take (i:=15) (v:=?_) rfl (by kernel_rfl) (by kernel_rfl) (by kernel_rfl) (fun _ _ _ h=>h) (Or.inl ⟨by rfl,?_⟩) (by assumption) ?_
   rotate_left 1
   ·intro W hSw;clear hSw;go_simp;(try with_reducible rfl)
   try simp only[Act.put,List.getElem_toArray,List.getElem_cons_succ,List.getElem_cons_zero,sA,sB,sC]
   refine wpAnyH_take (i:=16) (v:=?_) rfl (by kernel_rfl) (by kernel_rfl) (by kernel_rfl) (fun _ _ _ h=>h) (Or.inl ⟨by rfl,?_⟩) (by assumption) ?_
   rotate_left 1
   ·intro W hSw;have c21:=hSw.cell C21.out (fun h=>h);clear hSw;go_simp;(try with_reducible rfl)
   try simp only[Act.put,List.getElem_toArray,List.getElem_cons_succ,List.getElem_cons_zero,sA,sB,sC]
   refine wpAnyH_take (i:=17) (v:=?_) rfl (by kernel_rfl) (by kernel_rfl) (by kernel_rfl) (fun _ _ _ h=>h) (Or.inl ⟨by rfl,?_⟩) (by assumption) ?_
   rotate_left 1
   ·intro W hSw;clear hSw;go_simp;(try with_reducible rfl)
   try simp only[Act.put,List.getElem_toArray,List.getElem_cons_succ,List.getElem_cons_zero,sA,sB,sC]
   refine wpAnyH_take (i:=18) (v:=?_) rfl (by kernel_rfl) (by kernel_rfl) (by kernel_rfl) (fun _ _ _ h=>h) (Or.inl ⟨by rfl,?_⟩) (by assumption) ?_
   rotate_left 1
   ·intro W hSw;clear hSw;go_simp;(try with_reducible rfl)
   try simp only[Act.put,List.getElem_toArray,List.getElem_cons_succ,List.getElem_cons_zero,sA,sB,sC]
   refine wpAnyH_take (i:=19) (v:=?_) rfl (by kernel_rfl) (by kernel_rfl) (by kernel_rfl) (fun _ _ _ h=>h) (Or.inl ⟨by rfl,?_⟩) (by assumption) ?_
   rotate_left 1
   ·intro W hSw;clear hSw;go_simp;(try with_reducible rfl)
   try simp only[Act.put,List.getElem_toArray,List.getElem_cons_succ,List.getElem_cons_zero,sA,sB,sC]
   refine wpAnyH_take (i:=20) (v:=?_) rfl (by kernel_rfl) (by kernel_rfl) (by kernel_rfl) (fun _ _ _ h=>h) (Or.inl ⟨by rfl,?_⟩) (by assumption) ?_
   rotate_left 1
   ·intro W hSw;clear hSw;go_simp;(try with_reducible rfl)
   try simp only[Act.put,List.getElem_toArray,List.getElem_cons_succ,List.getElem_cons_zero,sA,sB,sC]
   refine wpAnyH_take (i:=21) (v:=?_) rfl (by kernel_rfl) (by kernel_rfl) (by kernel_rfl) (fun _ _ _ h=>h) (Or.inl ⟨by rfl,?_⟩) (by assumption) ?_
   rotate_left 1
   ·intro W hSw;have c2d:=hSw.cell C2D.out (fun h=>h);clear hSw;go_simp;(try with_reducible rfl)
   try simp only[Act.put,List.getElem_toArray,List.getElem_cons_succ,List.getElem_cons_zero,sA,sB,sC]
   refine wpAnyH_one (i:=22) (v:=.bool true) rfl (by decide +kernel) (by assumption) (Or.inr ⟨by kernel_rfl,?_⟩) ?_
   ·intro K hK
    go_simp
    go_at_call 23
    refine(HSBB.out _ hHeld).out.mono ?_
    rintro e w1 ⟨rfl,k1⟩
    go_wp2_with fail
    refine at_frame (hK.out _ (hHeld.trans k1)) ?_
    kernel_rfl
   clear hHeld
   intro w9 hHeld
   try simp only[Act.put,List.getElem_toArray,List.getElem_cons_succ,List.getElem_cons_zero,sA,sB,sC]
   refine wpAnyH_take (i:=23) (v:=?_) rfl (by kernel_rfl) (by kernel_rfl) (by kernel_rfl) (fun _ _ _ h=>h) (Or.inl ⟨by rfl,?_⟩) (by assumption) ?_
   rotate_left 1
   ·intro W hSw;clear hSw;go_simp;(try with_reducible rfl)
   try simp only[Act.put,List.getElem_toArray,List.getElem_cons_succ,List.getElem_cons_zero,sA,sB,sC]
   refine wpAnyH_take (i:=24) (v:=?_) rfl (by kernel_rfl) (by kernel_rfl) (by kernel_rfl) (fun _ _ _ h=>h) (Or.inl ⟨by rfl,?_⟩) (by assumption) ?_
   rotate_left 1
   ·intro W hSw;clear hSw;go_simp;(try with_reducible rfl)
   try simp only[Act.put,List.getElem_toArray,List.getElem_cons_succ,List.getElem_cons_zero,sA,sB,sC]
   refine wpAnyH_done (by decide +kernel) ?_ _
   have K9:=hid (KB.out.trans hHeld)
   clear hHeld KB HISB HSBB C22 C21 RB RB2 C2D
   go_wp2_with fail
   go_roundg (gk-1)
   case measure=>omega
   case rel=>exact⟨i+1,by omega,by simp,K9⟩
  ·obtain rfl:i=gs.length:=by omega
   go_wp2_with fail
   go_ret
   exact⟨rfl,hst.out⟩
end Go.Proofs.YtgfcnjfmmjcodaaGreatDoor
