/- The states of files over an archive that may be cut. -/
import Derived.Test.YtgfcnjfmmjcodaaGreatDoorP36
import Derived.Test.YtgfcnjfmmjcodaaGreatDoorP37
set_option linter.all false
set_option maxRecDepth 100000
set_option maxHeartbeats 1000000
open Go.Lib (hid)
namespace Go.Proofs.YtgfcnjfmmjcodaaGreatDoor
open Go Go.RowKit
section
def HdrR (g:Hd):Out→Prop
 | .file h pax _=>∃fm l,RecsIs (Bae pax) (fun _=>false) l∧g={Dk h fm true true with recs:=l}
 | .glob name rs _ _=>∃fm l,RecsIs (Bf rs) (fun _=>false) l∧g={Dk {hd0 with typ:=103,name:=name,ms:= -62135596800} fm true true with recs:=l}
 | .fail _=>False
theorem HdrR.put {g:Hd}{out:Out}{s:List UInt8}(h:HdrR g (out.put s)):HdrR g out:=by cases out<;>exact h
def Biv (L:Nat)(g:Bt)(r:Bgt):Prop:=HdrR g.1 r.1∧g.2.1=r.2.1∧(g.2.2=(r.2.2:Int)∨r.2.2=6∧g.2.2=0∧L≤r.2.1.length)∧g.1.recs.length≤1048576
inductive GotRs (L:Nat):List Bt→List Bgt→Prop
 |nil:GotRs L [] []
 |cons {g r gs rs} (h:Biv L g r) (hs:GotRs L gs rs):GotRs L (g::gs) (r::rs)
theorem GotRs.snoc {L:Nat}{g:Bt}{r:Bgt}(h:Biv L g r):∀ {gs:List Bt} {rs:List Bgt},GotRs L gs rs→GotRs L (gs++[g]) (rs++[r])
 |_,_, .nil=>.cons h .nil
 |_,_, .cons h1 h2=>.cons h1 (GotRs.snoc h h2)
theorem GotRs.len {L:Nat}:∀ {gs:List Bt} {rs:List Bgt},GotRs L gs rs→gs.length=rs.length
 |_,_, .nil=>rfl
 |_,_, .cons h1 h2=>by rw[List.length_cons,List.length_cons,GotRs.len h2]
theorem GotRs.get {L:Nat}:∀ {gs:List Bt} {rs:List Bgt},GotRs L gs rs→∀ {i:Nat} {g:Bt},gs[i]?=some g→∃r,rs[i]?=some r∧Biv L g r
 |_,_, .nil,i,g,h=>by cases h
 |_,_, .cons h1 h2,0,g,h=>by
  injection h with h
  subst h
  exact⟨_,rfl,h1⟩
 |_,_, .cons h1 h2,i+1,g,h=>by
  rw[List.getElem?_cons_succ] at h ⊢
  exact GotRs.get h2 h
structure BodyP (L:Nat)(r:Bgt)(rs:List Bgt)(ge pad g:Nat)(body tl:List UInt8):Prop where
 g05:g=0∨g=5
 cont:g=0→FilesP L (body.length-min L body.length) pad (body.drop (min L body.length)++tl) rs ge
 last:g=5→rs=[]∧ge=5
 res:g=0→r.2=(body.take (min L body.length),if 0<L∧body.length≤L then 1 else 0)
 res5:g=5→r.2=(body.take L,6)
 bl:body.length≤1048576
theorem FilesP.one {L nb pad:Nat}{src:List UInt8}{r:Bgt}{rs:List Bgt}{ge:Nat}(h:FilesP L nb pad src (r::rs) ge) :
  HeadP nb pad none [] [] src r.1∧OutFine r.1∧BodyP L r rs ge r.1.fill (I0 r.1.dat r.1.rest.length) (r.1.rest.take r.1.dat) (r.1.rest.drop r.1.dat):=by
 cases h with
 |@whole _ _ _ out _ _ h hf hl hr=>
  have e:=Ey hl;have hd:=hf.dat;have hlen:(out.rest.take out.dat).length=out.dat:=by rw[List.length_take];omega
  refine⟨h,hf,?_⟩;dsimp only;rw[e];refine⟨.inl rfl,fun _=>?_,(fun h=>by cases h),fun _=>?_,(fun h=>by cases h),by omega⟩
  ·rw[hlen];have:(out.rest.take out.dat).drop (min L out.dat)++out.rest.drop out.dat=out.rest.drop (min L out.dat):=by
    conv=>rhs;rw[←List.take_append_drop out.dat out.rest]
    rw[List.drop_append_of_le_length (by rw[hlen];exact Nat.min_le_right ..)]
   rw[this];exact hr
  ·rw[hlen,List.take_take,Nat.min_eq_left (Nat.min_le_right ..)]
 |@cut _ _ _ out h hf hl=>
  have e:=Ho (nb:=out.dat) (len:=out.rest.length) (by omega)
  have hd:=hf.dat;have ht:out.rest.take out.dat=out.rest:=List.take_of_length_le (by omega)
  refine⟨h,hf,?_⟩;dsimp only;rw[e,ht];exact⟨.inr rfl,(fun h=>by cases h),fun _=>⟨rfl,rfl⟩,(fun h=>by cases h),fun _=>rfl,by omega⟩
structure AtOut (E:Nat→Addr)(B:Nat)(T:TypeId)(v:Value)(S:Nat→Prop)(inv:World→Nat→List UInt8→Prop)(R:Nat)(w:World)(out:Out)(nh:Nat)(hd:Hd)(x pm:Value)(fm:Int)(M:List UInt8→Option (List UInt8))(ks:List (List UInt8))(Rf:Nat)(w':World):Prop where
 row:w'.heap[nh]?=some (.cells (B2 hd x pm fm).toArray 167 (0,0))
 pm:PmIs w' pm M
 times:TimesOk hd
 keys:∀k,(M k).isSome=true→k∈ks
 kl:ks.length≤1048576
 inf:InG E B T v S inv R Rf out.fill out.dat (I0 out.dat out.rest.length) (out.rest.take out.dat) (out.rest.drop out.dat) w'
 low:w.heap.size≤Rf
 hdr:∀l,RecsIs M (fun _=>false) l→HdrR {Dk hd fm true true with recs:=l} out
 kp:Kp (fun k=>S k∨k=R) w w'
theorem Bh9 {E:Nat→Addr}{B:Nat}{T:TypeId}{v:Value}{S:Nat→Prop}{inv:World→Nat→List UInt8→Prop}{R:Nat}{w w':World}{out:Out}{e:Ending}
  (h:Lf E B T v S inv R w out e w') (hf:OutFine out) (hS:∀k,S k→k<w.heap.size) (hB:B≤w.heap.size) :
  ∃(nh:Nat) (hd:Hd) (x pm:Value) (fm:Int) (M:List UInt8→Option (List UInt8)) (ks:List (List UInt8)) (Rf:Nat),e=.returned (.tuple #[.pointer (some ⟨nh,0,none⟩), .nilIface])∧AtOut E B T v S inv R w out nh hd x pm fm M ks Rf w':=by
 obtain⟨k,h⟩:=h;obtain⟨f1,f2,f3,f4,f5⟩:=hf;cases out with
 |fail g=>exact f1.elim
 |file hh pax src=>
  obtain⟨nh,Rf,blk,fm,pm,h1,h2,h3,h4,h5,h6,h7,h8⟩:=h;have hi:=InG.of h7 h8 (fun hs=>by have:=hS _ hs;omega) (by omega) f5
  refine⟨nh,hh,_,pm,fm,Bae pax,_,Rf,h1,⟨h4,h5,f2,Bay,?_,hi,h3,fun l hl=>⟨fm,l,hl,rfl⟩,k⟩⟩;cases pax with
  |none=>exact Nat.zero_le _
  |some rs=>rw[List.length_map];exact f3 rs rfl
 |glob name rs pad src=>
  obtain⟨nh,Rf,blk,fm,b,h1,h2,h3,h4,h5,h6,h7,h8⟩:=h;have hi:=InG.of (n:=0) h7 h8 (fun hs=>by have:=hS _ hs;omega) (by omega) (by omega)
  refine⟨nh,_,_,_,fm,Bf rs,rs.map Prod.fst,Rf,h1,⟨h5,h6,Um name,fun k hk=>?_,by rw[List.length_map];exact f3,hi,h3,fun l hl=>⟨fm,l,hl,rfl⟩,k⟩⟩
  obtain⟨v,hv⟩:=Option.isSome_iff_exists.1 hk;exact List.mem_map.2 ⟨_,Cc _ _ _ hv,rfl⟩
structure GsSt (E:Nat→Addr)(B:Nat)(T:TypeId)(v:Value)(S:Nat→Prop)(inv:World→Nat→List UInt8→Prop)(R:Nat)(w:World)(L:Nat)(rs:List Bgt)(ge i:Nat)(vo:Value)(wr:World):Prop where
 own:∃gs,OwnG wr w.heap.size (Gq w wr vo) vo gs∧GotRs L gs (rs.take i)
 rd:∃nb pad src,Bad E B T v S inv R nb pad src wr∧FilesP L nb pad src (rs.drop i) ge
 kp:Kp (fun k=>S k∨k=R) w wr
 old:(∀k,S k→k<w.heap.size)∧R<w.heap.size∧B≤w.heap.size
def Bgu (g:Nat):Nat:=if g=0 then 1 else 6
structure GlIn (E:Nat→Addr)(B:Nat)(T:TypeId)(v:Value)(S:Nat→Prop)(inv:World→Nat→List UInt8→Prop)(R:Nat)(w:World)(L:Nat)(rs:List Bgt)(ge i:Nat)(r:Bgt)(vo:Value)(N F Rf pad g:Nat)(hh:Hd)(rv:Value)(body tl:List UInt8)(k:Nat)(en:Int)(wx:World):Prop where
 own:∃gs,OwnG wx w.heap.size (Gi w N F Rf vo) vo gs∧GotRs L gs (rs.take i)
 ownlt:∀b,vo.ownBlock=some b→w.heap.size≤b∧b<N∧b≠Rf∧b≠F
 row:∃dv,wx.heap[F]?=some (.cells (Cf hh rv dv en).toArray 29 (0,0))∧OwnB wx N dv (body.take k)
 recs:RecsQ wx (Gi w N F Rf vo) rv hh.recs
 hdr:HdrR hh r.1∧hh.recs.length≤1048576
 inf:en=0∨g=0→∃nb,InG E B T v S inv R Rf pad nb g (body.drop k) tl wx
 bp:BodyP L r (rs.drop (i+1)) ge pad g body tl
 padl:pad≤512
 nl:N≤wx.heap.size
 fl:w.heap.size≤F∧F<N
 rl:w.heap.size≤Rf∧Rf<N∧Rf≠F
 kp:Kp (fun k=>S k∨k=R) w wx
 old:(∀k,S k→k<w.heap.size)∧R<w.heap.size∧B≤w.heap.size
 at_:en=0∧k≤body.length∧k≤L∧(g=0→k<body.length∨k=0)∨en=(Bgu g:Nat)∧k=body.length∧k≤L∧0<L
section
variable {E:Nat→Addr} {B:Nat} {T:TypeId} {v:Value} {S:Nat→Prop} {inv:World→Nat→List UInt8→Prop} {R:Nat} {w:World} {L:Nat} {rs:List Bgt} {ge i:Nat} {r:Bgt} {vo:Value} {N F Rf pad g:Nat} {hh:Hd} {rv:Value} {body tl:List UInt8} {k:Nat} {en:Int} {wx wy:World}
theorem GlIn.step (hR:IsRd E B T v S inv)(s:GlIn E B T v S inv R w L rs ge i r vo N F Rf pad g hh rv body tl k 0 wx){dv:Value}(hdv:wx.cell? ⟨F,21,none⟩=some dv)(P n m nb:Nat)(e:Ending)(w1 w20 w2:World)(cur:List Value)(t:TypeId)(hP:P=wx.heap.size)(k1:Kp (fun _=>False) wx w1)(kd:Kp (fun _=>False) w20 w2)
  (h:RdX E B T v S inv R Rf pad nb g (body.drop k) tl w1 P n cur t e w20) (hcur:n≤cur.length) (err:Value) (he:e=.returned (.tuple #[.int .i64 m,err])) (hnL:k+n≤L) (hn1:1≤n) (c:Nat) (ty:TypeId) :
  m≤n∧k+m≤body.length∧(err=.nilIface∧1≤m∨err=By (E g))∧Glob E B w2∧w2.cell? ⟨F,21,none⟩=some dv ∧
  ∃dv' w3,(Builtin.append_ #[27,27] ty #[dv, .slice (some ⟨P,0,none⟩) m c]).run Tryz.prog w2=.ok dv' w3∧w3.frozen? ⟨F,21,none⟩=false∧(∃x,w3.cell? ⟨F,21,none⟩=some x)∧w3.frozen? ⟨F,22,none⟩=false∧w3.cell? ⟨F,22,none⟩=some (.int .i64 0)∧Glob E B (w3.setCell ⟨F,21,none⟩ dv') ∧
   (∃A c2,dv'=.slice A (k+m) c2)∧(err=.nilIface→GlIn E B T v S inv R w L rs ge i r vo N F Rf pad g hh rv body tl (k+m) 0 ((w3.setCell ⟨F,21,none⟩ dv').setCell ⟨F,22,none⟩ (.int .i64 0))) ∧
   (err=By (E g)→GlIn E B T v S inv R w L rs ge i r vo N F Rf pad g hh rv body tl (k+m) (Bgu g:Nat) ((w3.setCell ⟨F,21,none⟩ dv').setCell ⟨F,22,none⟩ (.int .i64 (Bgu g:Nat)))):=by
 obtain⟨m',err',e1,e2,e3,e4,e50,e60,eG,emb,e70⟩:=h;have e5:=e50.then kd (fun _ _ h=>h.elim);have e6:=kd.heap e60 (fun h=>h);have eG2:Glob E B w2:=eG.keep kd (fun _ h=>h.elim);have e7:g=0∨err'=.nilIface→InG E B T v S inv R Rf pad (nb-m') g ((body.drop k).drop m') tl w2:=fun h=>(e70 h).keep hR kd (fun _ h=>h.elim);rw[he] at e1;injection e1 with e1
 injection e1 with e1
 obtain⟨rfl,rfl⟩:m=m'∧err=err':=by
  have:=congrArg (fun a:Array Value=>a.toList) e1;simp at this;exact⟨by omega,this.2⟩
 obtain⟨gs,h1,h2⟩:=s.own;obtain⟨dv0,h3,h4⟩:=s.row;obtain rfl:dv0=dv:=by
  have:=cell_of h3 21 (v:=dv0) rfl;rw[this] at hdv;injection hdv
 have hkl:k≤body.length:=by
  rcases s.at_ with ⟨_,h,_⟩|⟨_,h,_⟩
  ·exact h
  ·omega
 have hbl:=s.bp.bl;rw[List.length_drop] at e3;have hs1:=k1.size;have hs2:=e5.size;have hN:=s.nl;obtain⟨hF1,hF2⟩:=s.fl;obtain⟨hRf1,hRf2,hRf3⟩:=s.rl;obtain⟨o1,o2,o3⟩:=s.old;have hnotF:¬(((S F∨F=Rf)∨F=R)∨F=P):=by
  rintro(((h|h)|h)|h)
  ·have:=o1 _ h;omega
  ·omega
  ·omega
  ·omega
 have hnotN:∀b,N≤b→b<wx.heap.size→¬(((S b∨b=Rf)∨b=R)∨b=P):=fun b hb hb2=>by
  rintro(((h|h)|h)|h)
  ·have:=o1 _ h;omega
  ·omega
  ·omega
  ·omega
 have hnotG:∀b,Gi w N F Rf vo b→¬(((S b∨b=Rf)∨b=R)∨b=P):=fun b hb=>by
  obtain⟨g1,g2,g3,g4,g5⟩:=hb;rintro(((h|h)|h)|h)
  ·have:=o1 _ h;omega
  ·exact g3 h
  ·omega
  ·omega
 have hnotO:∀b,vo.ownBlock=some b→¬(((S b∨b=Rf)∨b=R)∨b=P):=fun b hb=>by
  obtain⟨g1,g2,g3,g4⟩:=s.ownlt b hb;rintro(((h|h)|h)|h)
  ·have:=o1 _ h;omega
  ·exact g3 h
  ·omega
  ·omega
 have row2:=e5.heap (k1.heap h3 (fun h=>h)) hnotF;have own2:OwnB w2 N dv0 (body.take k):=(h4.keep k1 (fun _ _ h=>h)).keep e5 (fun b hb=>by have:=h4.block hb;exact hnotN b this.1 this.2)
 have hlen:(ubs ((body.drop k).take m)).length=m:=by rw[Bi,List.length_take,List.length_drop];omega
 obtain⟨dv',w3,hrun,own3,hk3,hb3⟩:=M5 w2 ty N dv0 (body.take k) own2 ⟨P,0,none⟩ m c ((body.drop k).take m) (by rw[List.length_take,List.length_drop];omega) (fun j u hu=>by
  rw[add_plain',Nat.zero_add];refine cell_of e6 j ?_;have hj:j<m:=by have:=(List.getElem?_eq_some_iff.1 hu).1;omega
  rw[List.getElem?_toArray];unfold splice;rw[sE,List.nil_append,List.getElem?_append_left (by omega)]
  exact hu) (by rw[List.length_take];omega) (by omega)
 rw[←List.take_add] at own3;have row3:=hk3.heap row2 (fun e=>by have:=own2.block e.symm;omega)
 have hs3:=hk3.size;have kF:∀en':Int,Kp (· =F) w3 ((w3.setCell ⟨F,21,none⟩ dv').setCell ⟨F,22,none⟩ (.int .i64 en')):=fun en'=>
  Kp.setCell (S:=(· =F)) (p:=⟨F,22,none⟩) (Kp.setCell (S:=(· =F)) (p:=⟨F,21,none⟩) (Kp.refl _ w3) (.inl rfl) _) (.inl rfl) _
 have kT:∀en':Int,Kp (fun b=>N≤b∨b=F) w2 ((w3.setCell ⟨F,21,none⟩ dv').setCell ⟨F,22,none⟩ (.int .i64 en')):=fun en'=>
  (hk3.mono (fun b _ h=>Or.inl (own2.block h.symm).1)).then (kF en') (fun b _ h=>.inr h)
 have kall:∀en':Int,Kp (fun b=>(((S b∨b=Rf)∨b=R)∨b=P)∨N≤b∨b=F) wx ((w3.setCell ⟨F,21,none⟩ dv').setCell ⟨F,22,none⟩ (.int .i64 en')):=fun en'=>
  ((k1.mono (fun _ _ h=>h.elim)).then e5 (fun b _ h=>.inl h)).then (kT en') (fun b _ h=>.inr h)
 obtain⟨A,c2,hsh⟩:=own3.shape;rw[List.length_take,Nat.min_eq_left (by omega)] at hsh
 have hG:∀b,Gi w N F Rf vo b→¬((((S b∨b=Rf)∨b=R)∨b=P)∨N≤b∨b=F):=fun b hb=>by
  have h0:=hnotG b hb;obtain⟨g1,g2,g3,g4,g5⟩:=hb;rintro(h|h|h)
  ·exact h0 h
  ·omega
  ·omega
 have fin:∀en':Int,(en'=0∨g=0→g=0∨err=.nilIface)→(en'=0∧k+m≤body.length∧k+m≤L∧(g=0→k+m<body.length∨k+m=0)∨en'=(Bgu g:Nat)∧k+m=body.length∧k+m≤L∧0<L) →
   GlIn E B T v S inv R w L rs ge i r vo N F Rf pad g hh rv body tl (k+m) en' ((w3.setCell ⟨F,21,none⟩ dv').setCell ⟨F,22,none⟩ (.int .i64 en')):=by
  intro en' hin hat;have row5:=heap_set (heap_set row3 21 dv') 22 (.int .i64 en');refine⟨⟨gs,h1.keep (kall en') (fun b hb=>?_) hG (fun _ h=>h),h2⟩,s.ownlt,⟨dv',row5,own3.keep (kF en') (fun b hb=>by have:=(own3.block hb).1;omega)⟩,s.recs.keep (kall en') hG (fun _ h=>h),s.hdr,?_,s.bp,s.padl,by have:=(kF en').size;omega,s.fl,s.rl,?_,s.old,hat⟩
  ·have h0:=hnotO b hb;obtain⟨g1,g2,g3,g4⟩:=s.ownlt b hb;rintro(h|h|h)
   ·exact h0 h
   ·omega
   ·omega
  ·intro he;have e7':=e7 (hin he);rw[List.drop_drop] at e7';refine⟨_,e7'.keep hR (kT en') (fun b hb=>?_)⟩;(have hNb:w.heap.size≤b∧b≠Rf:=by rcases hb with h|h<;>omega);exact⟨fun h=>by have:=o1 _ h;omega,hNb.2,by omega,by omega⟩
  ·refine s.kp.then (kall en') (fun b hb h=>?_);rcases h with (((h|h)|h)|h)|h|h
   ·exact .inl h
   ·omega
   ·exact .inr h
   ·have:=s.kp.size;omega
   ·omega
   ·omega
 refine⟨e2,by omega,?_,eG2,cell_of row2 21 rfl,dv',w3,hrun,Bb row3 21,⟨_,cell_of row3 21 (v:=dv0) rfl⟩,Bb row3 22,cell_of row3 22 rfl,(eG2.keep hk3 (fun b hb=>by have:=own2.block hb.symm;omega)).keep (Kp.setCell (S:=(· =F)) (p:=⟨F,21,none⟩) (Kp.refl _ w3) (.inl rfl) _) (fun b hb=>by omega),⟨A,c2,hsh⟩,fun hnil=>?_,fun herr=>?_⟩
 ·rcases e4 with ⟨h,h',_⟩|⟨h,_⟩
  ·exact .inl ⟨h,h'⟩
  ·exact .inr h
 ·rcases e4 with ⟨_,h',h''⟩|⟨h,_⟩
  ·(refine fin 0 (fun _=>.inr hnil) (.inl ⟨rfl,by omega,by omega,fun hg=>.inl ?_⟩));have:=h'' hg;rw[List.length_drop] at this;omega
  ·rw[hnil] at h;cases h
 ·rcases e4 with ⟨h,_⟩|⟨_,h'⟩
  ·rw[herr] at h;cases h
  ·rw[List.length_drop] at h';(refine fin _ (fun hx=>?_) (.inr ⟨rfl,by omega,by omega,by omega⟩));rcases hx with hx|hx
   ·unfold Bgu at hx;split at hx<;>simp at hx
   ·exact .inl hx
theorem GlIn.start (hR:IsRd E B T v S inv){wr w1 w2:World}(s:GsSt E B T v S inv R w L rs ge i vo wr){nh:Nat}{hd:Hd}{x pm:Value}{fm:Int}{M:List UInt8→Option (List UInt8)}{ks:List (List UInt8)}
  (a:AtOut E B T v S inv R wr r.1 nh hd x pm fm M ks Rf w1) (k2:Kp (fun _=>False) w1 w2) {l:List Rec} (hl:RecsIs M (fun _=>false) l) (hF:w1.heap.size≤F∧F<w2.heap.size)
  (hrow:w2.heap[F]?=some (.cells (Cf (Dk hd fm true true) rv (.slice none 0 0) 0).toArray 29 (0,0))) (ho:OwnR 171 w2 w1.heap.size rv l) (hne:¬rv.ownBlock=some F)
  (hbp:BodyP L r (rs.drop (i+1)) ge r.1.fill (I0 r.1.dat r.1.rest.length) (r.1.rest.take r.1.dat) (r.1.rest.drop r.1.dat)) (hfill:r.1.fill≤512) :
  GlIn E B T v S inv R w L rs ge i r vo w2.heap.size F Rf r.1.fill (I0 r.1.dat r.1.rest.length) {Dk hd fm true true with recs:=l} rv (r.1.rest.take r.1.dat) (r.1.rest.drop r.1.dat) 0 0 w2:=by
 obtain⟨gs,h1,h2⟩:=s.own;obtain⟨o1,o2,o3⟩:=s.old;have kp2:Kp (fun k=>S k∨k=R) wr w2:=a.kp.then k2 (fun _ _ h=>h.elim);have sz0:=s.kp.size;have sz1:=a.kp.size;have sz2:=k2.size;have hlow:=a.low;have hlt:=a.inf.lt hR Rf (.inl (.inr rfl));refine⟨⟨gs,h1.keep kp2 (fun b hb=>?_) (fun b hb=>?_) (fun b hb=>?_),h2⟩,fun b hb=>?_,⟨_,hrow,by rw[sE];exact OwnB.nil _ _⟩,?_,⟨a.hdr l hl,Nat.le_trans (hl.len a.keys) a.kl⟩,(fun _=>⟨_,by rw[sG];exact a.inf.keep hR k2 (fun _ h=>h.elim)⟩),hbp,hfill,Nat.le_refl _,⟨by omega,hF.2⟩,⟨by omega,by omega,by omega⟩,s.kp.then kp2 (fun _ _ h=>h),s.old, .inl ⟨rfl,Nat.zero_le _,Nat.zero_le _,fun _=>.inr rfl⟩⟩
 ·have:=h1.block hb;rintro(h|h)
  ·have:=o1 _ h;omega
  ·omega
 ·obtain⟨g1,g2,g3⟩:=hb;rintro(h|h)
  ·have:=o1 _ h;omega
  ·omega
 ·obtain⟨g1,g2,g3⟩:=hb;exact⟨g1,by omega,by omega,by omega,g3⟩
 ·have:=h1.block hb;exact⟨by omega,by omega,by omega,by omega⟩
 ·refine Bc0 ho.at_ ho.cap (fun b o c e=>?_);have hb:=ho.block (b:=b) (by rw[e];rfl)
  refine⟨by omega,hb.2,by omega,fun e2=>?_,fun e2=>?_⟩
  ·subst e2;exact hne (by rw[e];rfl)
  ·have:=h1.block e2.symm;omega
theorem GlIn.done (hR:IsRd E B T v S inv)(s:GlIn E B T v S inv R w L rs ge i r vo N F Rf pad g hh rv body tl k en wx)(hr:rs[i]?=some r)(hend:en≠0∨k=L)(hfl:rs.length≤1048576)(ty:TypeId) :
  ∃dv,wx.heap[F]?=some (.cells (Cf hh rv dv en).toArray 29 (0,0))∧((Cf hh rv dv en).toArray.all fun x=>x.oneCell')=true∧∃v3 w3,(Builtin.append_ #[35,35] ty #[vo, .slice (some ⟨wx.heap.size,0,none⟩) 1 1]).run Tryz.prog (wx.alloc (.cells (Cf hh rv dv en).toArray 29))=.ok v3 w3 ∧
   w3.cell? ⟨F,22,none⟩=some (.int .i64 en)∧(∃gs,OwnG w3 w.heap.size (Gq w w3 v3) v3 gs∧GotRs L gs (rs.take (i+1)))∧Kp (fun k=>S k∨k=R) w w3∧(en=0∨en=1→GsSt E B T v S inv R w L rs ge (i+1) v3 w3)∧(en≠0→en≠1→en=6∧rs.length=i+1∧ge=5):=by
 obtain⟨gs,h1,h2⟩:=s.own;obtain⟨dv,h3,h4⟩:=s.row;obtain⟨o1,o2,o3⟩:=s.old;obtain⟨hF1,hF2⟩:=s.fl;have hN:=s.nl;have hi:i<rs.length:=(List.getElem?_eq_some_iff.1 hr).1;have hgl:=h2.len;rw[List.length_take] at hgl;have hbl:=s.bp.bl;have hec:(Bgu g:Int)=1∧g=0∨(Bgu g:Int)=6∧g=5:=by
  rcases s.bp.g05 with rfl|rfl
  ·exact .inl ⟨rfl,rfl⟩
  ·exact .inr ⟨rfl,rfl⟩
 have hat:=s.at_;have hgot:body.take k=r.2.1∧(en=(r.2.2:Int)∨r.2.2=6∧en=0∧L≤r.2.1.length):=by
  rcases s.bp.g05 with hg|hg
  ·have hres:=s.bp.res hg;(have hec1:(Bgu g:Int)=1:=by rw[hg];rfl);rw[hres];dsimp only;rcases hat with ⟨he,hk1,hk2,hk3⟩|⟨he,hk1,hk2,hk3⟩
   ·have hkL:k=L:=by
     rcases hend with h|h
     ·exact absurd he h
     ·exact h
    have h4:=hk3 hg;(have hno:¬(0<L∧body.length≤L):=by omega);rw[if_neg hno];refine⟨by rw[hkL,Nat.min_eq_left (by omega)], .inl (by rw[he];rfl)⟩
   ·(rw[if_pos ⟨hk3,by omega⟩]);refine⟨by rw[hk1,Nat.min_eq_right (by omega)], .inl (by rw[he,hec1];rfl)⟩
  ·have hres:=s.bp.res5 hg;(have hec1:(Bgu g:Int)=6:=by rw[hg];rfl);rw[hres];dsimp only;rcases hat with ⟨he,hk1,hk2,hk3⟩|⟨he,hk1,hk2,hk3⟩
   ·have hkL:k=L:=by
     rcases hend with h|h
     ·exact absurd he h
     ·exact h
    refine⟨by rw[hkL], .inr ⟨rfl,he,by rw[List.length_take];omega⟩⟩
   ·(refine⟨?_, .inl (by rw[he,hec1];rfl)⟩);rw[List.take_of_length_le (by omega),List.take_of_length_le (by omega)]
 have hGi:∀b,Gi w N F Rf vo b→Gq w wx vo b:=fun b ⟨g1,g2,g3,g4,g5⟩=>⟨g1,by omega,g5⟩
 have h1':OwnG wx w.heap.size (Gq w wx vo) vo gs:=h1.keep (Kp.refl (fun _=>False) _) (fun _ _ h=>h) (fun _ _ h=>h) hGi;have hrq:RecsQ wx (Gq w wx vo) rv hh.recs:=s.recs.keep (Kp.refl (fun _=>False) _) (fun _ _ h=>h) hGi;have hdq:DataQ wx (Gq w wx vo) dv (body.take k):=by
  rcases h4.bytes with ⟨rfl,e⟩|⟨g,c,rfl,q1,q2,q3,q4,q5⟩
  ·exact .inl ⟨.inl rfl,e⟩
  ·refine .inr ⟨g,0,c,rfl,?_,q5,q3⟩;have hb:=h4.block (b:=g) rfl;(refine⟨by omega,hb.2,fun e=>?_⟩);have:=s.ownlt g e.symm;omega
 obtain⟨v3,w3,hrun,ho,hk,hv⟩:=h1'.push (hh,body.take k,en) hrq hdq (by omega) s.kp.size (fun b hb=>hb.2.2) ty
 have hfr:w3.heap[F]?=some (.cells (Cf hh rv dv en).toArray 29 (0,0)):=hk.heap h3 (fun e=>by have:=s.ownlt F e.symm;omega)
 have htk:rs.take (i+1)=rs.take i++[r]:=by
  rw[List.take_succ_eq_append_getElem hi];rw[List.getElem?_eq_getElem hi] at hr;injection hr with hr
  rw[hr]
 have hown:∃gs,OwnG w3 w.heap.size (Gq w w3 v3) v3 gs∧GotRs L gs (rs.take (i+1)):=by
  refine⟨gs++[(hh,body.take k,en)],ho.keep (Kp.refl (fun _=>False) _) (fun _ _ h=>h) (fun _ _ h=>h) (fun b hb=>?_),?_⟩
  ·obtain⟨g1,g2,g3⟩:=hb;have:=hk.size;(refine⟨g1,by omega,fun e=>?_⟩);rcases hv with hv|hv
   ·exact g3 (e.trans hv)
   ·rw[hv] at e;injection e with e;omega
  ·rw[htk];exact h2.snoc ⟨s.hdr.1,hgot.1,hgot.2,s.hdr.2⟩
 have hkp:Kp (fun k=>S k∨k=R) w w3:=s.kp.then hk (fun b hb e=>by have:=(s.ownlt b e.symm).1;omega)
 refine⟨dv,h3,?_,v3,w3,hrun,cell_of hfr 22 rfl,hown,hkp,fun hen=>?_,fun hn0 hn1=>?_⟩
 ·have e1:=hrq.one;have e2:=hdq.one;simp[Cf,Bu,Ha,B5,Value.oneCell'];exact⟨e1,e2⟩
 ·refine⟨hown,?_,hkp,s.old⟩;have hing:en=0∨g=0:=by
   rcases hen with h|h
   ·exact .inl h
   ·right;rcases hat with ⟨he,_⟩|⟨he,_⟩
    ·omega
    ·rcases hec with ⟨_,h⟩|⟨h,_⟩
     ·exact h
     ·omega
  obtain⟨nb,hin⟩:=s.inf hing;have hin3:=hin.keep hR hk (fun b hb=>by
   obtain⟨g1,g2,g3,g4⟩:=s.ownlt b hb.symm;exact⟨fun h=>by have:=o1 _ h;omega,g3,by omega,by omega⟩)
  obtain⟨n0,n5,hnx⟩:=hin3.nxin s.padl;rcases s.bp.g05 with hg|hg
  ·refine⟨nb,pad,_,hnx,?_⟩;have hc:=s.bp.cont hg;have hkm:k=min L body.length:=by
    rcases hat with ⟨he,hk1,hk2,hk3⟩|⟨he,hk1,hk2,hk3⟩
    ·rcases hend with h|h
     ·exact absurd he h
     ·have:=hk3 hg;omega
    ·omega
   have hnb:=n0 hg;rw[List.length_drop] at hnb;rw[hnb,hkm];exact hc
  ·obtain⟨hl1,hl2⟩:=s.bp.last hg;refine⟨nb,pad,_,hnx,?_⟩;rw[hl1,hl2];refine .stop (.cutData _ ?_) (.inr rfl);have htl:tl=[]:=by
    obtain⟨src,_,_,_,q4,q5,_,q7⟩:=hin3.rd;rw[←q7];refine List.drop_eq_nil_of_le ?_;rw[hg] at q5;unfold I0 at q5;split at q5
    ·cases q5
    ·omega
   rw[htl,List.append_nil];exact n5 (by omega)
 ·rcases hat with ⟨he,_⟩|⟨he,_⟩
  ·exact absurd he hn0
  ·rcases hec with ⟨h,_⟩|⟨h,hg⟩
   ·omega
   ·obtain⟨hl1,hl2⟩:=s.bp.last hg;(refine⟨by omega,?_,hl2⟩);have:=congrArg List.length hl1;rw[List.length_drop,List.length_nil] at this;omega
def Bg1 (ge:Nat):Int:=if ge=0 then 1 else 6
def Bgx (Q:Nat→Prop)(w:World)(L:Nat)(rs:List Bgt)(ge:Nat)(e:Ending)(w':World):Prop:=
 ∃vo gs,e=.returned (.tuple #[vo, .int .i64 (Bg1 ge)])∧IFilesAt w' w'.heap.size vo gs∧GotRs L gs rs∧Kp Q w w'
theorem Bhw (s:∃gs,OwnG wx w.heap.size (Gq w wx vo) vo gs∧GotRs L gs rs)(old:(∀k,S k→k<w.heap.size)∧R<w.heap.size∧B≤w.heap.size)(kp:Kp (fun k=>S k∨k=R) w wx)(q:Kp (fun k=>S k∨k=R) wx wy) :
  Bgx (fun k=>S k∨k=R) w L rs ge (.returned (.tuple #[vo, .int .i64 (Bg1 ge)])) wy:=by
 obtain⟨gs,h1,h2⟩:=s;obtain⟨o1,o2,o3⟩:=old;have hq:∀b,w.heap.size≤b→¬(S b∨b=R):=fun b hb=>by
  rintro(h|h)
  ·have:=o1 _ h;omega
  ·omega
 have h3:=h1.keep q (fun b hb=>hq b (h1.block hb).1) (fun b hb=>hq b hb.1) (fun b hb=>(show b<wy.heap.size from Nat.lt_of_lt_of_le hb.2.1 q.size))
 exact⟨vo,gs,rfl,h3.filesAt (fun b hb=>hb) (Nat.le_refl _),h2,kp.then q (fun _ _ h=>h)⟩
end
end
theorem Bhf (h:Hd)(f f':Int)(l l':List Rec):SameH {Dk h f true true with recs:=l} {Dk h f' true true with recs:=l'}:=
 ⟨rfl,rfl,rfl,rfl,rfl,rfl,rfl,rfl,rfl,⟨rfl,rfl⟩,rfl,rfl,⟨rfl,fun _=>⟨rfl,rfl⟩⟩,⟨rfl,fun _=>⟨rfl,rfl⟩⟩⟩
theorem Bh0 {g g':Hd}{out:Out}(h:HdrR g out)(h':HdrR g' out):SameH g g':=by
 cases out with
 |fail=>exact h.elim
 |file hh pax s=>
  obtain⟨f,l,_,rfl⟩:=h;obtain⟨f',l',_,rfl⟩:=h';exact Bhf ..
 |glob name rs pd s=>
  obtain⟨f,l,_,rfl⟩:=h;obtain⟨f',l',_,rfl⟩:=h';exact Bhf ..
theorem GotRs.pair {L:Nat}{gs gs':List Bt}{rs:List Bgt}(h:GotRs L gs rs)(h':GotRs L gs' rs){i:Nat}{g g':Bt}(hg:gs[i]?=some g)(hg':gs'[i]?=some g') :
  SameH g.1 g'.1∧g.2.1=g'.2.1∧(g.2.2==1)=(g'.2.2==1):=by
 obtain⟨r,hr,h1,h2,h3,_⟩:=h.get hg;obtain⟨r',hr',h1',h2',h3',_⟩:=h'.get hg';rw[hr] at hr';injection hr' with hr'
 subst hr';refine⟨Bh0 h1 h1',h2.trans h2'.symm,?_⟩;have key:∀x:Int,(x=(r.2.2:Int)∨r.2.2=6∧x=0∧L≤r.2.1.length)→(x==1)=((r.2.2:Int)==1):=by
  rintro x (rfl|⟨e,rfl,_⟩)
  ·rfl
  ·rw[e];rfl
 rw[key _ h3,key _ h3']
end Go.Proofs.YtgfcnjfmmjcodaaGreatDoor
