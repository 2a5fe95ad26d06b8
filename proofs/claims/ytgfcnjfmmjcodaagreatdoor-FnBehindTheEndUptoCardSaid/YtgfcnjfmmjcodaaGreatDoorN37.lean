/- First, where Next comes to a header. -/
import Derived.Test.YtgfcnjfmmjcodaaGreatDoorN30
import Derived.Test.YtgfcnjfmmjcodaaGreatDoorN35
import Derived.Test.YtgfcnjfmmjcodaaGreatDoorN36
set_option linter.all false
set_option maxRecDepth 100000
set_option maxHeartbeats 1000000
open Go.Lib (hid)
namespace Go.Proofs.YtgfcnjfmmjcodaaGreatDoor
open Go Go.RowKit
theorem recsT_count {rs:List Rec}{t:List UInt8}(h:RecsT rs t):rs.length≤t.length:=by
 induction h with
 |nil=>exact Nat.zero_le _
 |@cons r rs t ts h hs ih=>
  have:=recT_len h
  rw[List.length_cons,List.length_append]
  omega
def OutRecs:Out→Prop
 | .file _ pax _=>∀rs,pax=some rs→rs.length≤1048576
 | .glob _ rs _ _=>rs.length≤1048576
 | .fail _=>True
theorem HeadP.recs {nb pad:Nat}{pax:Option (List Rec)}{ln ll src:List UInt8}{out:Out}(h:HeadP nb pad pax ln ll src out):(∀rs,pax=some rs→rs.length≤1048576)→OutRecs out:=by
 induction h with
 |file=>exact fun hp=>hp
 |glob d p l t rest h0 fm rs hd hp hl hb ht hs hr hk htl=>exact fun _=>Nat.le_trans (recsT_count hr) htl
 |pax d p l t rest h0 fm rs hd hp hl hb ht hs hr htl hk h ih=>exact fun _=>ih (fun rs e=>by injection e with e;subst e;exact Nat.le_trans (recsT_count hr) htl)
 |name d p l s rest h0 fm hd hp hl hb ht hs hz htl h ih=>exact ih
 |link d p l s rest h0 fm hd hp hl hb ht hs hz htl h ih=>exact ih
 |end_=>exact fun _=>trivial
 |bad=>exact fun _=>trivial
 |cutData=>exact fun _=>trivial
 |cutPad=>exact fun _=>trivial
 |cutNone=>exact fun _=>trivial
 |cutBlk=>exact fun _=>trivial
 |cutEnd=>exact fun _=>trivial
 |cutMeta=>exact fun _=>trivial
def OutTimes:Out→Prop
 | .file h _ _=>TimesOk h
 |_=>True
theorem odd_not {s n:Int}(h:¬odd s n):(0≤n∧n<1000000000)∧¬(s= -62135596800∧n=0):=by
 unfold odd at h
 omega
theorem timesOk_of {h2 h:Hd}{f:Int}(s:SameH h2 h)(c:CanP h f):TimesOk h2:=by
 have m:=odd_not c.sane.mod
 have hm:=c.mod
 refine⟨⟨by rw[s.mod.2];exact m.1,by rw[s.mod.1];omega⟩,fun e=>?_,fun e=>?_⟩
 ·rw[s.acc.1] at e
  have a:=odd_not (c.sane.acc e)
  have b:=c.acc e
  obtain⟨e1,e2⟩:=s.acc.2 e
  rw[e1,e2]
  exact⟨a.1,by omega,a.2⟩
 ·rw[s.chg.1] at e
  have a:=odd_not (c.sane.chg e)
  have b:=c.chg e
  obtain⟨e1,e2⟩:=s.chg.2 e
  rw[e1,e2]
  exact⟨a.1,by omega,a.2⟩
theorem outTimes_of {h:Hd}{data tail:List UInt8}{out:Out}(ho:OutOk h data tail out)(hp:FileP (h,data)):OutTimes out:=by
 rcases ho with ⟨h2,pax,rfl,ht,hs,_⟩|⟨rs,n,ht,rfl,_⟩
 ·rcases hp with ⟨hg,_⟩|⟨_,_,hc,_⟩
  ·exact absurd hg.typ ht
  ·exact timesOk_of hs hc
 ·exact trivial
theorem paxM_keys {pax:Option (List Rec)}(k:List UInt8)(h:(paxM pax k).isSome=true):k∈(match pax with|none=>[]|some rs=>rs.map Prod.fst):=by
 cases pax with
 |none=>cases h
 |some rs=>
  obtain⟨v,hv⟩:=Option.isSome_iff_exists.1 h
  exact List.mem_map.2 ⟨_,findL_mem _ _ _ hv,rfl⟩
def OutNot:Out→Prop
 | .fail _=>False
 |_=>True
theorem OutOk.not_fail {h:Hd}{data tail:List UInt8}{out:Out}(ho:OutOk h data tail out):OutNot out:=by
 rcases ho with ⟨h2,pax,rfl,_⟩|⟨rs,n,_,rfl,_⟩
 ·trivial
 ·trivial
theorem timesOk_glob (name:List UInt8):TimesOk {hd0 with typ:=103,name:=name,ms:= -62135596800}:=by
 refine⟨⟨?_,?_⟩,(fun e=>by cases e),(fun e=>by cases e)⟩
 ·show (0:Int)≤0∧(0:Int)<1000000000;omega
 ·show -100000000000000003≤(-62135596800:Int)∧(-62135596800:Int)≤100000000000000003;omega
def HdrOk (g want:Hd):Prop:=
 want.typ=103∧g.typ=103∧(∀k,findL g.recs k=findL want.recs k)∨want.typ≠103∧SameH g want∧∀k v,findL want.recs k=some v→findL g.recs k=some v
theorem RecsIs.findL_eq {M:List UInt8→Option (List UInt8)}{l:List Rec}(s:RecsIs M (fun _=>false) l)(k:List UInt8):findL l k=M k:=by
 cases e:M k with
 |some v=>
  obtain⟨u,hu⟩:=findL_some l k v ((s.mem k v).2 ⟨e,rfl⟩)
  have h:=((s.mem k u).1 (findL_mem l k u hu)).1
  rw[hu,←e,h]
 |none=>
  cases h:findL l k with
  |none=>rfl
  |some u=>
   have h2:=((s.mem k u).1 (findL_mem l k u h)).1
   rw[e] at h2
   cases h2
theorem sameH_got {h2 h:Hd}(s:SameH h2 h)(f:Int)(l:List Rec):SameH {gotH h2 f true true with recs:=l} h:=by
 refine⟨s.typ,s.name,s.link,s.size,s.mode,s.uid,s.gid,s.un,s.gn,s.mod,s.maj,s.min,⟨s.acc.1,fun e=>?_⟩,⟨s.chg.1,fun e=>?_⟩⟩
 ·have e2:h2.hasA=true:=s.acc.1.trans e
  have h:=s.acc.2 e
  unfold gotH
  simp only[e2,Bool.and_true,if_true]
  exact h
 ·have e2:h2.hasC=true:=s.chg.1.trans e
  have h:=s.chg.2 e
  unfold gotH
  simp only[e2,Bool.and_true,if_true]
  exact h
theorem got_file {f:File}{fs:List File}{h2:Hd}{pax:Option (List Rec)}{src:List UInt8}(ho:ArcO f fs (.file h2 pax src)){l:List Rec}(s:RecsIs (paxM pax) (fun _=>false) l)(fm:Int):HdrOk {gotH h2 fm true true with recs:=l} f.1:=by
 obtain⟨h1,hs,h3,_⟩:=ho
 refine .inr ⟨h1,sameH_got hs fm l,fun k v hk=>?_⟩
 obtain⟨rs,rfl,hr⟩:=h3 k v hk
 show findL l k=some v
 rw[s.findL_eq]
 exact hr
theorem got_glob {f:File}{fs:List File}{name:List UInt8}{rs:List Rec}{pad:Nat}{src:List UInt8}(ho:ArcO f fs (.glob name rs pad src)){l:List Rec}(s:RecsIs (findL rs) (fun _=>false) l)(fm:Int)(h2:Hd)(ht:h2.typ=103):HdrOk {gotH h2 fm true true with recs:=l} f.1:=by
 obtain⟨h1,_,h3,_,_⟩:=ho
 refine .inl ⟨h1,ht,fun k=>?_⟩
 show findL l k=_
 rw[s.findL_eq]
 cases e:findL f.1.recs k with
 |some v=>exact(h3 k v).2 e
 |none=>
  cases h:findL rs k with
  |none=>rfl
  |some v=>
   have:=(h3 k v).1 h
   rw[e] at this
   cases this
def GotOk (g:IFile)(f:File):Prop:=HdrOk g.1 f.1∧g.2.1=f.2∧g.2.2=1∧g.1.recs.length≤1048576
inductive GotAll:List IFile→List File→Prop
 |nil:GotAll [] []
 |cons {g f gs fs} (h:GotOk g f) (hs:GotAll gs fs):GotAll (g::gs) (f::fs)
theorem GotAll.snoc {g:IFile}{f:File}(h:GotOk g f):∀ {gs:List IFile} {fs:List File},GotAll gs fs→GotAll (gs++[g]) (fs++[f])
 |_,_, .nil=>.cons h .nil
 |_,_, .cons h1 h2=>.cons h1 (GotAll.snoc h h2)
theorem GotAll.len:∀ {gs:List IFile} {fs:List File},GotAll gs fs→gs.length=fs.length
 |_,_, .nil=>rfl
 |_,_, .cons h1 h2=>by rw[List.length_cons,List.length_cons,GotAll.len h2]
theorem GotAll.get:∀ {gs:List IFile} {fs:List File},GotAll gs fs→∀ {i:Nat} {g:IFile},gs[i]?=some g→∃f,fs[i]?=some f∧GotOk g f
 |_,_, .nil,i,g,h=>by cases h
 |_,_, .cons h1 h2,0,g,h=>by
  injection h with h
  subst h
  exact⟨_,rfl,h1⟩
 |_,_, .cons h1 h2,i+1,g,h=>by
  rw[List.getElem?_cons_succ] at h ⊢
  exact GotAll.get h2 h
theorem GotAll.mem {gs:List IFile}{fs:List File}(h:GotAll gs fs):∀g∈gs,g.1.recs.length≤1048576:=fun g hg=>by
 obtain⟨i,hi⟩:=List.mem_iff_getElem?.1 hg
 obtain⟨f,_,h1⟩:=h.get hi
 exact h1.2.2.2
structure GoodF (f:File):Prop where
 p:FileP f
 i:Int64s f.1
 dl:f.2.length≤1048576
theorem ArcS.one {nb pad:Nat}{src:List UInt8}{f:File}{fs:List File}(h:ArcS nb pad src (f::fs))(g:GoodF f) :
  ∃out,HeadP nb pad none [] [] src out∧ArcO f fs out∧OutNot out∧OutTimes out∧OutRecs out:=by
 obtain⟨out,h1,h2,tail,h3⟩:=h.next g.p g.i (by have:=g.dl;omega)
 exact⟨out,h1,h2,h3.not_fail,outTimes_of h3 g.p,h1.recs (fun rs e=>by cases e)⟩
structure AtFile (E:Nat→Addr)(B:Nat)(T:TypeId)(v:Value)(S:Nat→Prop)(inv:World→Nat→List UInt8→Prop)(R:Nat)(w:World)(f:File)(fs:List File)(nh:Nat)(hd:Hd)(x pm:Value)(fm:Int)(M:List UInt8→Option (List UInt8))(ks:List (List UInt8))(Rf pad:Nat)(tl:List UInt8)(w':World):Prop where
 row:w'.heap[nh]?=some (.cells (hRow hd x pm fm).toArray 167 (0,0))
 pm:PmIs w' pm M
 times:TimesOk hd
 keys:∀k,(M k).isSome=true→k∈ks
 kl:ks.length≤1048576
 inf:InFile E B T v S inv R Rf pad f.2 tl w'
 padl:pad≤512
 arc:ArcS 0 pad tl fs
 low:w.heap.size≤Rf
 hdr:∀l,RecsIs M (fun _=>false) l→HdrOk {gotH hd fm true true with recs:=l} f.1
 kp:Kp (fun k=>S k∨k=R) w w'
theorem atFile_of {E:Nat→Addr}{B:Nat}{T:TypeId}{v:Value}{S:Nat→Prop}{inv:World→Nat→List UInt8→Prop}{R:Nat}{w w':World}{out:Out}{e:Ending}{f:File}{fs:List File}
  (h:NxOut E B T v S inv R w out e w') (ho:ArcO f fs out) (hS:∀k,S k→k<w.heap.size) (hB:B≤w.heap.size) (hdl:f.2.length≤1048576) (hr:OutRecs out) (ht:OutTimes out) :
  ∃(nh:Nat) (hd:Hd) (x pm:Value) (fm:Int) (M:List UInt8→Option (List UInt8)) (ks:List (List UInt8)) (Rf pad:Nat) (tl:List UInt8),e=.returned (.tuple #[.pointer (some ⟨nh,0,none⟩), .nilIface])∧AtFile E B T v S inv R w f fs nh hd x pm fm M ks Rf pad tl w':=by
 obtain⟨k,h⟩:=h
 cases out with
 |fail g=>exact ho.elim
 |file hh pax src=>
  have ho2:=ho
  obtain⟨g1,g2,g3,g4,g5,g6,g7⟩:=ho
  obtain⟨nh,Rf,blk,fm,pm,h1,h2,h3,h4,h5,h6,h7,h8⟩:=h
  rw[g4] at h7 h8
  have hi:=InFile.of h7 h8 (fun hs=>by have:=hS _ hs;omega) (by omega) (by omega) g7
  rw[g6] at hi
  have ha:=g5.read (Nat.le_refl _)
  rw[Nat.sub_self] at ha
  refine⟨nh,hh,_,pm,fm,paxM pax,_,Rf,_,_,h1,⟨h4,h5,ht,paxM_keys,?_,hi,Nat.le_of_lt (zpad_lt _),ha,h3,fun l hl=>got_file ho2 hl fm,k⟩⟩
  cases pax with
  |none=>exact Nat.zero_le _
  |some rs=>rw[List.length_map];exact hr rs rfl
 |glob name rs pad src=>
  have ho2:=ho
  obtain⟨g1,g2,g3,g4,hp⟩:=ho
  obtain⟨nh,Rf,blk,fm,b,h1,h2,h3,h4,h5,h6,h7,h8⟩:=h
  have hi:=InFile.of (n:=0) h7 h8 (fun hs=>by have:=hS _ hs;omega) (by omega) (by omega) (Nat.zero_le _)
  rw[sE,sG,←g2] at hi
  refine⟨nh,_,_,_,fm,findL rs,rs.map Prod.fst,Rf,pad,src,h1,⟨h5,h6,timesOk_glob name,fun k hk=>?_,by rw[List.length_map];exact hr,hi,hp,g4,h3,fun l hl=>got_glob ho2 hl fm _ rfl,k⟩⟩
  obtain⟨v,hv⟩:=Option.isSome_iff_exists.1 hk
  exact List.mem_map.2 ⟨_,findL_mem _ _ _ hv,rfl⟩
set_option maxHeartbeats 1600000 in
theorem find_any (w:World)(C:Nat)(rv:Value)(l:List Rec)(k:List UInt8)(hl:RecsAt w C rv l)(hlen:l.length≤2147483648) :
  Calls Tryz.prog 65 #[rv, .string ⟨k.toArray⟩] w fun e w'=>e=.returned (.tuple #[.string ⟨((findL l k).getD []).toArray⟩, .bool (findL l k).isSome])∧Kp (fun _=>False) w w':=by
 obtain⟨A,c,rfl⟩:=hl.shape
 have HL:=hid hl
 clear hl
 go_enter Tryz.func65,Tryz.ntmps65
 go_wp2_with fail
 go_loopg [6,7,12] l.length (fun g s5 s6 s11 wr=>∃(i:Nat) (o:Option (List UInt8)),i+g=l.length∧s11=.int .i64 i∧s5=.string ⟨(o.getD []).toArray⟩∧s6=.bool o.isSome∧Hid (o=findL (l.take i) k∧Kp (fun _=>False) w wr))
 case atStart=>exact⟨0,none,by omega,rfl,rfl,rfl,by rw[sE];rfl,Kp.refl _ _⟩
 case round=>
  obtain⟨i,o,hi,rfl,rfl,rfl,hst⟩:=hrel
  by_cases hlt:i<l.length
  ·obtain⟨x,hx⟩:∃x,l[i]?=some x:=⟨_,List.getElem?_eq_getElem hlt⟩
   have hLr:RecsAt wr C (.slice A l.length c) l:=HL.out.keep hst.out.2 (fun _ h=>h.elim)
   obtain⟨b,o2,c',hA,hbC,x1,x2⟩:=hLr.get hx
   injection hA with hA1 hA2 hA3
   subst hA1 hA3
   have hxg:x=l[i]:=by rw[List.getElem?_eq_getElem hlt] at hx;injection hx with hx;exact hx.symm
   have htk:findL (l.take (i+1)) k=if x.1=k then some x.2 else findL (l.take i) k:=by rw[List.take_succ_eq_append_getElem hlt,←hxg,findL_snoc]
   obtain⟨β,hβ⟩:∃β,(x.1==k)=β:=⟨_,rfl⟩
   cases β with
   |true=>
    have NX:∀O,Hid (some x.2=findL (l.take (i+1)) k∧Kp (fun _=>False) w (wr.alloc O)):=fun O=>⟨by rw[htk,if_pos (beq_iff_eq.1 hβ)],hst.out.2.alloc O⟩
    clear hst hA2 hLr hx hxg htk
    go_wp2_with fail
    go_roundg (gk-1)
    case measure=>omega
    case rel=>exact⟨i+1,some x.2,by omega,by simp,rfl,rfl,NX _⟩
   |false=>
    have hne:¬x.1=k:=by rw[beq_eq_false_iff_ne] at hβ;exact hβ
    have NX:∀O,Hid (o=findL (l.take (i+1)) k∧Kp (fun _=>False) w (wr.alloc O)):=fun O=>⟨by rw[htk,if_neg hne];exact hst.out.1,hst.out.2.alloc O⟩
    clear hst hA2 hLr hx hxg htk hne
    go_wp2_with fail
    go_roundg (gk-1)
    case measure=>omega
    case rel=>exact⟨i+1,o,by omega,by simp,rfl,rfl,NX _⟩
  ·obtain rfl:i=l.length:=by omega
   have FIN:Hid (Ending.returned (.tuple #[.string ⟨(o.getD []).toArray⟩, .bool o.isSome])=.returned (.tuple #[.string ⟨((findL l k).getD []).toArray⟩, .bool (findL l k).isSome])∧Kp (fun _=>False) w wr):=by
    obtain⟨h1,h2⟩:=hst.out
    rw[List.take_length] at h1
    exact⟨by rw[h1],h2⟩
   clear hst
   go_wp2_with fail
   go_ret2
   exact FIN.out
theorem recs_from {w:World}{C:Nat}{A:Option Addr}{c:Nat}{l:List Rec}(h:RecsAt w C (.slice A l.length c) l)(hcl:l.length≤c)(k:Nat)(hk:k≤l.length)(hk0:0<k) :
  ∃A2 c2,(∀W,(Instr.slice 43 (.slice A l.length c) (some (.int .i64 (k:Int))) none none).run Tryz.prog W=.ok (.slice A2 (l.drop k).length c2) W)∧RecsAt w C (.slice A2 (l.drop k).length c2) (l.drop k):=by
 rcases h with ⟨h,e⟩|⟨b,o,c',h1,h2,h3⟩
 ·rw[e] at hk;exact absurd hk (by simp;omega)
 ·injection h1 with h1 _ h4
  subst h1 h4
  obtain⟨i0,hi,hz,hsz,hby⟩:=infoS.info
  have hu:Tryz.prog.underlying 43=some (.slice (Tryz.prog.elem 43)):=by kernel_rfl
  have he:Tryz.prog.elem 43=136:=by kernel_rfl
  have hs:∀W,(sizeOf 136).run Tryz.prog W=.ok 2 W:=fun W=>by simp[sizeOf,typeInfo,hi,hsz]
  by_cases hc:c=k
  ·subst hc
   have hlk:l.drop c=[]:=List.drop_eq_nil_of_le hcl
   have hll:l.length=c:=by omega
   refine⟨some ⟨b,o,none⟩,0,fun W=>?_, .inl ⟨.inr ⟨_,_,by rw[hlk];rfl⟩,hlk⟩⟩
   rw[run_slice_l W 43 _ _ _ hu .i64 (c:Int) (by omega) (by omega),he,hs W,hlk]
   simp[Result.andThen,sliced,hll]
  ·refine⟨some ⟨b,o+k*2,none⟩,c-k,fun W=>?_, .inr ⟨b,o+k*2,c-k,rfl,h2,fun i r hr=>?_⟩⟩
   ·rw[run_slice_l W 43 _ _ _ hu .i64 (k:Int) (by omega) (by omega),he,hs W]
    simp only[Result.andThen,sliced,Int.toNat_natCast,if_neg hc,Option.map,List.length_drop]
    rw[add_plain']
   ·rw[List.getElem?_drop] at hr
    obtain⟨q1,q2⟩:=h3 _ _ hr
    exact⟨by rw[show o+k*2+i*2=o+(k+i)*2 by omega];exact q1,by rw[show o+k*2+i*2+1=o+(k+i)*2+1 by omega];exact q2⟩
theorem findL_last {a d:List Rec}{r:Rec}(h:∀x∈d,x.1≠r.1):findL (a++r::d) r.1=some r.2:=by
 have h0:findL d r.1=none:=by
  cases e:findL d r.1 with
  |none=>rfl
  |some v=>exact absurd rfl (h (r.1,v) (findL_mem _ _ _ e))
 rw[findL_append]
 simp[findL,h0]
def noneOf (k:List UInt8)(d:List Rec):Bool:=d.all fun x=> !(x.1==k)
theorem noneOf_snoc (k:List UInt8)(d:List Rec)(x:Rec):noneOf k (d++[x])=(noneOf k d&& !(x.1==k)):=by
 unfold noneOf
 rw[List.all_append]
 simp
set_option maxHeartbeats 6400000 in
theorem hasAll_any (w:World)(C0 C:Nat)(rv pv:Value)(l part:List Rec)(hl:RecsAt w C0 rv l)(hp:RecsAt w C pv part)(hc:CapOk pv)(hlen:l.length≤2147483648)(hpl:part.length≤2147483648)(h:∀k v,findL part k=some v→findL l k=some v) :
  Calls Tryz.prog 34 #[rv,pv] w fun e w'=>e=.returned (.bool true)∧Kp (fun _=>False) w w':=by
 obtain⟨A0,c0,rfl⟩:=hl.shape
 obtain⟨A,c,rfl⟩:=hp.shape
 have hcl:=hc _ _ _ rfl
 have HL:=hid hl
 have HP:=hid hp
 have HH:=hid h
 clear hl hp h hc
 go_enter Tryz.func34,Tryz.ntmps34
 go_wp2_with fail
 go_loopg [14] part.length (fun g s14 wr=>∃(i:Nat),i+g=part.length∧s14=.int .i64 i∧Hid (Kp (fun _=>False) w wr))
 case atStart=>exact⟨0,by omega,rfl,Kp.refl _ _⟩
 case round=>
  obtain⟨i,hi,rfl,hst⟩:=hrel
  by_cases hlt:i<part.length
  ·obtain⟨r,hr⟩:∃r,part[i]?=some r:=⟨_,List.getElem?_eq_getElem hlt⟩
   have hPr:RecsAt wr C (.slice A part.length c) part:=HP.out.keep hst.out (fun _ h=>h.elim)
   obtain⟨b,o,c',hA,hbC,x1,x2⟩:=hPr.get hr
   injection hA with hA1 hA2 hA3
   subst hA1 hA3
   obtain⟨Ad,cd,hsl,hrd⟩:=recs_from hPr hcl (i+1) (by omega) (by omega)
   have hrg:r=part[i]:=by rw[List.getElem?_eq_getElem hlt] at hr;injection hr with hr;exact hr.symm
   have hsp:part=part.take i++r::part.drop (i+1):=by rw[hrg,List.getElem_cons_drop,List.take_append_drop]
   obtain⟨d,hd⟩:∃d,part.drop (i+1)=d:=⟨_,rfl⟩
   have hdl:d.length≤2147483648:=by rw[←hd,List.length_drop];omega
   rw[hd] at hsl hrd hsp
   have HSP:=hid hsp
   have HRD:=hid hrd
   have hi1:((i+1:Nat):Int)=(i:Int)+1:=by omega
   rw[hi1] at hsl
   clear hA2 hPr hr hrg hsp hrd hd
   obtain⟨O,hO⟩:∃O:Obj,Obj.cells #[.string ⟨r.1.toArray⟩, .string ⟨r.2.toArray⟩] 136=O:=⟨_,rfl⟩
   have y1:(wr.alloc O).cell? ⟨wr.heap.size,0,none⟩=some (.string ⟨r.1.toArray⟩):=by rw[←hO];exact cell_of (heap_new wr _) 0 rfl
   have y2:(wr.alloc O).cell? ⟨wr.heap.size,1,none⟩=some (.string ⟨r.2.toArray⟩):=by rw[←hO];exact cell_of (heap_new wr _) 1 rfl
   have KO:Hid (Kp (fun _=>False) w (wr.alloc O)):=hst.out.alloc O
   have HRD1:Hid (RecsAt (wr.alloc O) C (.slice Ad d.length cd) d):=HRD.out.keep ((Kp.refl (fun _=>False) wr).alloc O) (fun _ h=>h.elim)
   clear hst HRD
   go_wp2_with fail
   try rw[hO]
   clear hO hsl x1 x2
   generalize hW1:wr.alloc O=W1 at y1 y2 KO HRD1 ⊢
   clear hW1
   generalize wr.heap.size=R0 at y1 y2 ⊢
   go_loopg [7,24] d.length (fun g s7 s24 wx=>∃(j:Nat) (b:Bool),j+g=d.length∧s24=.int .i64 j∧s7=.bool b∧Hid (b=noneOf r.1 (d.take j)∧Kp (fun _=>False) W1 wx))
   case atStart=>exact⟨0,true,by omega,rfl,rfl,by rw[sE];rfl,Kp.refl _ _⟩
   case round=>
    obtain⟨j,bb,hj,rfl,rfl,hin⟩:=hrel
    have z1:=hin.out.2.cell y1 (fun h=>h)
    have z2:=hin.out.2.cell y2 (fun h=>h)
    by_cases hjl:j<d.length
    ·obtain⟨x,hx⟩:∃x,d[j]?=some x:=⟨_,List.getElem?_eq_getElem hjl⟩
     obtain⟨b2,o2,c2,hB,hbC2,u1,u2⟩:=(HRD1.out.keep hin.out.2 (fun _ h=>h.elim)).get hx
     injection hB with hB1 hB2 hB3
     subst hB1 hB3
     have hxg:x=d[j]:=by rw[List.getElem?_eq_getElem hjl] at hx;injection hx with hx;exact hx.symm
     have htk:noneOf r.1 (d.take (j+1))=(noneOf r.1 (d.take j)&& !(x.1==r.1)):=by rw[List.take_succ_eq_append_getElem hjl,←hxg,noneOf_snoc]
     obtain⟨β,hβ⟩:∃β,(x.1==r.1)=β:=⟨_,rfl⟩
     have hβ2:(x.1 != r.1)= !β:=by rw[←hβ];rfl
     have z1a:∀O2,(wr.alloc O2).cell? ⟨R0,0,none⟩=some (.string ⟨r.1.toArray⟩):=fun O2=>(hin.out.2.alloc O2).cell y1 (fun h=>h)
     have NX:∀O2,Hid ((bb&& !β)=noneOf r.1 (d.take (j+1))∧Kp (fun _=>False) W1 (wr.alloc O2)):=fun O2=>⟨by rw[htk,hβ,hin.out.1],hin.out.2.alloc O2⟩
     clear hin hx hxg htk hB2
     cases bb<;>cases β
     all_goals
      go_wp2_with fail
      go_roundg (d.length-(j+1))
      case measure=>omega
      case rel=>exact⟨j+1,_,by omega,by simp,rfl,NX _⟩
    ·obtain rfl:j=d.length:=by omega
     have hno:=hin.out.1
     rw[List.take_length] at hno
     have K2:=hid (KO.out.trans hin.out.2)
     have HFD:=hid (find_any wr C0 _ l r.1 (HL.out.keep K2.out (fun _ h=>h.elim)) hlen)
     have hlast:Hid (bb=true→findL l r.1=some r.2):=fun e=>by
      refine HH.out _ _ ?_
      rw[HSP.out]
      refine findL_last fun x hx e2=>?_
      rw[e] at hno
      have:=List.all_eq_true.1 hno.symm x hx
      rw[e2] at this
      simp at this
     clear hin hno
     go_wp2_with fail
     refine HFD.out.mono ?_
     rintro e w2 ⟨rfl,k2⟩
     have z1b:=k2.cell z1 (fun h=>h)
     have z2b:=k2.cell z2 (fun h=>h)
     have K3:=hid (K2.out.trans k2)
     clear z1 z2 k2 HFD K2
     cases bb with
     |true=>
      have hf:=hlast.out rfl
      rw[hf]
      clear hf hlast
      go_wp2_with fail
      go_roundg (part.length-(i+1))
      case measure=>omega
      case rel=>exact⟨i+1,by omega,by simp,K3.out⟩
     |false=>
      clear hlast
      obtain⟨fv,hfv⟩:∃fv,(findL l r.1).getD []=fv:=⟨_,rfl⟩
      obtain⟨fb,hfb⟩:∃fb,(findL l r.1).isSome=fb:=⟨_,rfl⟩
      rw[hfv,hfb]
      clear hfv hfb
      go_wp2_with fail
      go_roundg (part.length-(i+1))
      case measure=>omega
      case rel=>exact⟨i+1,by omega,by simp,K3.out⟩
  ·obtain rfl:i=part.length:=by omega
   have FIN:=hst
   clear hst
   go_wp2_with fail
   go_ret
   exact⟨rfl,FIN.out⟩
set_option maxHeartbeats 6400000 in
theorem isHeader_any (w:World)(B:Nat)(g want:Hd)(rv rv2:Value)(hg:RecsAt w B rv g.recs)(hw:RecsAt w B rv2 want.recs)(hc:CapOk rv2)(hgl:g.recs.length≤2147483648)(hwl:want.recs.length≤2147483648)(h:HdrOk g want) :
  Calls Tryz.prog 22 #[.agg (iRowH g rv).toArray, .agg (sRow want rv2).toArray] w fun e w'=>e=.returned (.bool true)∧Kp (fun _=>False) w w':=by
 obtain⟨A2,c2,rfl⟩:=hw.shape
 have HPL:=fun W (k:Kp (fun _=>False) w W)=>hid (plain_any W B g rv (hg.keep k (fun _ h=>h.elim)) hgl)
 have HW:=hid hw
 have HC:=hid hc
 have HH:=hid h
 obtain⟨va,ea⟩:∃va:Array Value,(iRowH g rv).toArray=va:=⟨_,rfl⟩
 obtain⟨vb,eb⟩:∃vb:Array Value,(sRow want (.slice A2 want.recs.length c2)).toArray=vb:=⟨_,rfl⟩
 rw[ea,eb]
 clear hw hc h hg
 go_enter Tryz.func22,Tryz.ntmps22
 go_upto_region 1 with fail
 refine code_two ?_
 intro wB g1 g2 kB sB
 rw[←ea] at g1
 rw[←eb] at g2
 have HPB:=HPL wB kB
 clear HPL ea eb
 go_step;refine wpList_load_row rfl 26 (.tmp 2) rfl w.heap.size rfl 26 (iRowH g rv).toArray (0,0) _ g1 Tryz.underlying26 rfl (by kernel_rfl) ?_
 go_wp2_with fail
 refine HPB.out.mono ?_
 rintro e w1 ⟨⟨rv1,rfl,ho1⟩,k1⟩
 have hone1:=one_sRow (h:=g) ho1.out.one
 obtain⟨A1,c1,hrv1⟩:=ho1.out.at_.shape
 subst hrv1
 dsimp only
 rename_i K hK
 refine hK _ _ ?_
 clear hK
 go_step;go_step;go_step;refine wpList_store_row rfl 45 (.tmp 5) (.tmp 7) rfl w1.heap.size (sRow g (.slice A1 g.recs.length c1)).toArray rfl rfl 45 _ (heap_new w1 _) (by kernel_rfl) (by rfl) hone1 ?_
 go_upto_region 2 with fail
 refine code_row ?_
 intro wC gC kC sC
 have g2C:wC.heap[w.heap.size+1]?=some (.cells (sRow want (.slice A2 want.recs.length c2)).toArray 45 (0,0)):=(k1.trans kC).heap g2 (fun h=>h)
 have KC:=hid ((kB.trans k1).trans kC)
 have RG:Hid (RecsAt wC wC.heap.size (.slice A1 g.recs.length c1) g.recs):=(ho1.out.at_.keep kC (fun _ h=>h.elim)).mono kC.size
 have CG:Hid (CapOk (.slice A1 g.recs.length c1)):=ho1.out.cap
 have RW:Hid (RecsAt wC B (.slice A2 want.recs.length c2) want.recs):=HW.out.keep KC.out (fun _ h=>h.elim)
 have G1:=hid gC
 have G2:=hid g2C
 clear g1 g2 kB sB k1 ho1 hone1 gC kC sC g2C HPB HW
 generalize w1.heap.size=H at G1 ⊢
 have d19:wC.cell? ⟨H,19,none⟩=some (.slice A1 g.recs.length c1):=cell_of G1.out 19 rfl
 have c19:wC.cell? ⟨w.heap.size+1,19,none⟩=some (.slice A2 want.recs.length c2):=cell_of G2.out 19 rfl
 rcases HH.out with ⟨ht,hgt,hr⟩|⟨ht,hs,hr⟩
 ·have c0:wC.cell? ⟨w.heap.size+1,0,none⟩=some (.int .u8 103):=by have:=cell_of G2.out 0 (v:=.int .u8 (want.typ.toNat:Int)) rfl;rw[ht] at this;exact this
  have d0:wC.cell? ⟨H,0,none⟩=some (.int .u8 103):=by have:=cell_of G1.out 0 (v:=.int .u8 (g.typ.toNat:Int)) rfl;rw[hgt] at this;exact this
  have H1:=fun W (k:Kp (fun _=>False) wC W)=>hid (hasAll_any W _ _ _ _ g.recs want.recs (RG.out.keep k (fun _ h=>h.elim)) (RW.out.keep k (fun _ h=>h.elim)) HC.out hgl hwl (fun k v hk=>by rw[hr];exact hk))
  have H2:=fun W (k:Kp (fun _=>False) wC W)=>hid (hasAll_any W _ _ _ _ want.recs g.recs (RW.out.keep k (fun _ h=>h.elim)) (RG.out.keep k (fun _ h=>h.elim)) CG.out hwl hgl (fun k v hk=>by rw[←hr];exact hk))
  clear hr HH RG RW CG HC G1 G2
  go_wp2_with fail
  refine(H1 wC (Kp.refl _ _)).out.mono ?_
  rintro e w2 ⟨rfl,k2⟩
  have d19b:=k2.cell d19 (fun h=>h)
  have c19b:=k2.cell c19 (fun h=>h)
  clear d19 c19 c0 d0
  go_wp2_with fail
  refine(H2 w2 k2).out.mono ?_
  rintro e w3 ⟨rfl,k3⟩
  go_wp2_with fail
  go_ret
  exact⟨rfl,(KC.out.trans k2).trans k3⟩
 ·have e0:((want.typ.toNat:Int)==103)=false:=by
   rw[beq_eq_false_iff_ne]
   intro e
   exact ht (UInt8.toNat_inj.1 (by show want.typ.toNat=103;omega))
  have c0:wC.cell? ⟨w.heap.size+1,0,none⟩=some (.int .u8 (want.typ.toNat:Int)):=cell_of G2.out 0 rfl
  have H1:=fun W (k:Kp (fun _=>False) wC W)=>hid (hasAll_any W _ _ _ _ g.recs want.recs (RG.out.keep k (fun _ h=>h.elim)) (RW.out.keep k (fun _ h=>h.elim)) HC.out hgl hwl hr)
  have HS:=hid (same_any wC g want (.slice A1 g.recs.length c1) (.slice A2 want.recs.length c2) hs)
  clear hr hs ht HH RG RW CG HC
  go_upto_region 4 with fail
  go_step;refine wpList_load_row rfl 45 (.tmp 5) rfl H rfl 45 (sRow g (.slice A1 g.recs.length c1)).toArray (0,0) _ G1.out Tryz.underlying45 rfl (by kernel_rfl) ?_
  refine wpList_load_row rfl 45 (.tmp 3) rfl (w.heap.size+1) rfl 45 (sRow want (.slice A2 want.recs.length c2)).toArray (0,0) _ G2.out Tryz.underlying45 rfl (by kernel_rfl) ?_
  clear G1 G2
  go_wp2_with fail
  refine HS.out.mono ?_
  rintro e w2 ⟨rfl,k2⟩
  have d19b:=k2.cell d19 (fun h=>h)
  have c19b:=k2.cell c19 (fun h=>h)
  clear d19 c19 c0 HS
  go_wp2_with fail
  refine(H1 w2 k2).out.mono ?_
  rintro e w3 ⟨rfl,k3⟩
  go_wp2_with fail
  go_ret
  exact⟨rfl,(KC.out.trans k2).trans k3⟩
theorem DataQ.shape' {w:World}{Q:Nat→Prop}{dv:Value}{l:List UInt8}(h:DataQ w Q dv l):∃A c,dv=.slice A l.length c:=by
 rcases h with ⟨h,rfl⟩|⟨b,o,c,rfl,_⟩
 ·exact h.shape
 ·exact⟨_,c,rfl⟩
theorem conv_data {w:World}{dv:Value}{l:List UInt8}(h:DataAt w dv l)(hl:l.length≤1099511627776):(convert 27 9 dv).run Tryz.prog w=.ok (.string ⟨l.toArray⟩) w:=by
 rcases h with ⟨rfl|⟨a,c,rfl⟩,rfl⟩|⟨b,o,c,rfl,hb⟩
 ·kernel_rfl
 ·kernel_rfl
 ·exact conv_bytes hb c
theorem DataAt.keepF {w w':World}{x:Value}{l:List UInt8}(h:DataAt w x l)(k:Kp (fun _=>False) w w'):DataAt w' x l:=by
 rcases h with h|⟨b,o,c,h1,h2⟩
 ·exact .inl h
 ·exact .inr ⟨b,o,c,h1,fun j u hu=>k.cell (h2 j u hu) (fun h=>h)⟩
theorem sameB_any (w:World)(a b:Value)(l:List UInt8)(ha:DataAt w a l)(hb:DataAt w b l)(hl:l.length≤1099511627776):Calls Tryz.prog 23 #[a,b] w fun e w'=>e=.returned (.bool true)∧Kp (fun _=>False) w w':=by
 have h1:=conv_data ha hl
 have h2:=conv_data hb hl
 obtain⟨A,c,rfl⟩:=ha.shape
 obtain⟨A2,c2,rfl⟩:=hb.shape
 clear ha hb
 go_enter Tryz.func23,Tryz.ntmps23
 go_wp2_with fail
 go_ret
 exact⟨rfl,Kp.refl _ _⟩
structure EncSt (w:World)(fs:List File)(i:Nat)(bs:List UInt8)(v:Value)(wr:World):Prop where
 own:OwnB wr (w.heap.size+1) v bs
 enc:FilesE (fs.take i) bs
 len:bs.length≤i*16777216+dsum (fs.take i)
 cho:Cho wr w.heap.size (200000*i)
 kp:Kp (fun _=>False) w wr
def EncEnd (w:World)(fs:List File)(e:Ending)(w':World):Prop:=
 ∃v b,e=.returned v∧OwnB w' w.heap.size v b∧v.ownBlock≠none∧EncE fs b∧b.length≤70368744177664∧Kp (fun _=>False) w w'
set_option maxHeartbeats 3200000 in
theorem encode_any (w:World)(fv nv:Value)(fs:List File)(hfs:FilesAt w w.heap.size fv fs)(hn:NumsAt w w.heap.size nv)(hin:∀f∈fs,FileIn f)(hfl:fs.length≤1048576)(hds:dsum fs≤1099511627776) :
  Calls Tryz.prog 17 #[fv,nv] w fun e w'=>Hid (EncEnd w fs e w'):=by
 obtain⟨A,c,rfl⟩:=hfs.shape
 have HFS:=hid hfs
 have HIN:=hid hin
 have LP:Hid (EncSt w fs 0 [] (.slice none 0 0) (w.alloc (.cells #[nv, .int .i64 0] 85))):=by
  have k:Kp (fun _=>False) w (w.alloc (.cells #[nv, .int .i64 0] 85)):=(Kp.refl _ _).alloc _
  exact⟨OwnB.nil _ _,by rw[sE];exact .nil,by simp,⟨nv,0,heap_new w _,Nat.le_refl _,hn.keep k (fun _ h=>h.elim)⟩,k⟩
 have HDS:=hid hds
 obtain⟨An,ln,cn,rfl⟩:∃A n c,nv=.slice A n c:=by
  rcases hn with h|⟨nb,no,nl,nc,h,_⟩
  ·exact⟨_,_,_,h⟩
  ·exact⟨_,_,_,h⟩
 clear hfs hin hn hds
 go_enter Tryz.func17,Tryz.ntmps17
 go_wp2_with fail
 generalize w.alloc (.cells #[.slice An ln cn, .int .i64 0] 85)=w0 at LP ⊢
 go_loopg [6,8,14] fs.length (fun g s6 s8 s14 wr=>∃(i:Nat) (bs:List UInt8),i+g=fs.length∧s14=.int .i64 i∧Hid (EncSt w fs i bs s6 wr))
 case atStart=>exact⟨0,[],by omega,rfl,LP⟩
 case round=>
  clear LP
  obtain⟨i,bs,hi,rfl,hst⟩:=hrel
  have hdt:Hid (dsum (fs.take (i+1))≤1099511627776):=by
   show _≤_
   have e:dsum fs=dsum (fs.take (i+1))+dsum (fs.drop (i+1)):=by
    unfold dsum
    rw[←List.sum_append,←List.map_append,List.take_append_drop]
   have:=HDS.out
   omega
  by_cases hlt:i<fs.length
  ·obtain⟨f,hf⟩:∃f,fs[i]?=some f:=⟨_,List.getElem?_eq_getElem hlt⟩
   have hfr:FilesAt wr w.heap.size (.slice A fs.length c) fs:=HFS.out.keep hst.out.kp (fun _ h=>h.elim)
   obtain⟨b,o,c',hA,hbC,hat⟩:=hfr.get hf
   injection hA with hA1 hA2 hA3
   subst hA1 hA3
   have hfg:f=fs[i]:=by rw[List.getElem?_eq_getElem hlt] at hf;injection hf with hf;exact hf.symm
   have htk:fs.take (i+1)=fs.take i++[f]:=by rw[List.take_succ_eq_append_getElem hlt,hfg]
   have hfi:FileIn f:=HIN.out f (hfg▸List.getElem_mem hlt)
   obtain⟨rv,dv,hrg,hra,hda,hdb,_⟩:=hat
   have hone:((sRow f.1 rv++[dv]).toArray.all fun x=>x.oneCell')=true:=by
    obtain⟨Ar,cr,hr1⟩:=hra.shape
    obtain⟨Ad,cd,hd1⟩:=hda.shape
    subst hr1 hd1
    simp[sRow,strv,Value.oneCell']
   have hi1:(0:Int)≤(i:Int):=by omega
   have hi2:(i:Int)<(fs.length:Int):=by omega
   have HRG:=hid hrg
   have HRA:=hid hra
   have HDA:=hid hda
   have HDB:=hid hdb
   have HFI:=hid hfi
   have HTK:=hid htk
   clear hA2 hfr hf hfg hrg hra hda hdb htk hfi
   go_upto_region 5 with fail
   iterate 3 go_step
   go_step;refine wpList_load_mid rfl 47 (.tmp 16) rfl b (o+i*22) rfl (sRow f.1 rv++[dv]) _ HRG.out Tryz.underlying47 rfl (by kernel_rfl) ?_
   iterate 3 go_step
   refine wpList_store_row rfl 47 (.tmp 8) (.tmp 17) rfl wr.heap.size (sRow f.1 rv++[dv]).toArray rfl rfl 47 _ (heap_new wr _) (by kernel_rfl) (by rfl) hone ?_
   go_upto_region 6 with fail
   refine code_row ?_
   intro wB gB kB sB
   have hCB:Hid (Cho wB w.heap.size (200000*i)):=hst.out.cho.keep kB (fun _ h=>h.elim) (Nat.le_refl _)
   have HF:=hid (file_any wB w.heap.size (200000*i) f.1 rv dv f.2 hCB.out (by omega) (HRA.out.keep kB (fun _ h=>h.elim)) (HDA.out.keep' HDB.out kB (fun _ h=>h.elim)) (fun b o c e=>HDB.out b o c e) HFI.out.dl HFI.out.ni HFI.out.fm HFI.out.ti HFI.out.tw HFI.out.ne HFI.out.rl)
   have SW:Hid (w.heap.size+1≤wB.heap.size):=by
    show _≤_
    have:=kB.size
    obtain⟨nv',a',h1,_⟩:=hst.out.cho
    have:=lt_of h1
    omega
   have STB:Hid (OwnB wB (w.heap.size+1) u6 bs∧Kp (fun _=>False) w wB):=⟨hst.out.own.keep kB (fun _ _ h=>h),hst.out.kp.trans kB⟩
   have ENC:=hid hst.out.enc
   have LEN:=hid hst.out.len
   have GB:=hid gB
   clear gB kB hCB hst HRG HRA HDA HDB
   iterate 4 go_step
   go_step;go_step;go_step;refine wpList_load_row rfl 47 (.tmp 8) rfl wr.heap.size rfl 47 (sRow f.1 rv++[dv]).toArray (0,0) _ GB.out Tryz.underlying47 rfl (by kernel_rfl) ?_
   go_wp2_with fail
   refine HF.out.mono ?_
   rintro e w2 hx
   obtain⟨v2,t2,rfl,ho2,hfe,hc2,hk2⟩:=hx.out
   have htl:=fileE_len hfe HFI.out.ti.name HFI.out.ti.link
   have hds1:dsum (fs.take (i+1))=dsum (fs.take i)+f.2.length:=by rw[HTK.out];unfold dsum;simp
   have hlen2:bs.length+t2.length≤140737488355328:=by
    have h1:=LEN.out
    have h2:=hdt.out
    omega
   have hsz2:=hk2.size
   have hown2:OwnB w2 (w.heap.size+1) u6 bs:=STB.out.1.keep hk2 (fun b hb e=>by have:=(STB.out.1.block hb).1;omega)
   obtain⟨v3,w3,hr3,ho3,hk3,hx3⟩:=app_data_ex w2 27 (w.heap.size+1) u6 v2 bs t2 hown2 ho2.dataAt hlen2 (by have:=SW.out;omega)
   have NX:Hid (EncSt w fs (i+1) (bs++t2) v3 w3):=by
    refine⟨ho3,?_,?_,?_,?_⟩
    ·rw[HTK.out];exact ENC.out.snoc hfe
    ·rw[List.length_append,hds1];have:=LEN.out;omega
    ·exact hc2.keep hk3 (fun i hi=>by have:=(hown2.block hi.symm).1;omega) (by omega)
    ·exact(STB.out.2.then hk2 (fun i hi e=>by omega)).then hk3 (fun i hi e=>by have:=(hown2.block e.symm).1;omega)
   have HR3:=hid hr3
   clear hx ho2 hfe hc2 hk2 htl hds1 hlen2 hown2 hr3 ho3 hk3 hx3 STB ENC LEN GB HF HFI HTK hsz2
   dsimp only
   rename_i K hK
   refine hK _ _ ?_
   clear hK
   go_wp2_with (at_builtin;refine Lib.wpList_append_run _ rfl _ _ _ _ rfl _ _ rfl rfl _ _ HR3.out ?_)
   go_roundg (gk-1)
   case measure=>omega
   case rel=>exact⟨i+1,bs++t2,by omega,by simp,NX⟩
  ·obtain rfl:i=fs.length:=by omega
   have HCW:=hid hst.out.cho
   go_wp2_with fail
   refine(of_any wr w.heap.size (200000*fs.length) 3 HCW.out (by omega) (by omega)).mono ?_
   rintro e w2 ⟨⟨n,hn,rfl⟩,hk2,hc2⟩
   have hown2:OwnB w2 (w.heap.size+1) u6 bs:=hst.out.own.keep hk2 (fun b hb e=>by have:=(hst.out.own.block hb).1;omega)
   have hlen:bs.length≤18691697672192:=by
    have h1:=hst.out.len
    have h2:=HDS.out
    rw[List.take_length] at h1
    omega
   have hsz:w.heap.size+1≤w2.heap.size:=by
    have:=hk2.size
    obtain⟨nv',a',h1,_⟩:=HCW.out
    have:=lt_of h1
    omega
   have henc:FilesE fs bs:=by have:=hst.out.enc;rwa[List.take_length] at this
   have FIN:∀k v3 w3,2≤k→k≤4→OwnB w3 (w.heap.size+1) v3 (bs++List.replicate (512*k) 0)→Kp (fun j=>some j=u6.ownBlock) w2 w3→Hid (EncEnd w fs (.returned v3) w3):=fun k v3 w3 h1 h2 ho hk=>by
    refine⟨v3,_,rfl,ho.lower (by omega),ho.block_some (by rw[List.length_append,List.length_replicate];omega),⟨bs,k,henc,h1,h2,rfl⟩,by rw[List.length_append,List.length_replicate];omega,?_⟩
    exact(hst.out.kp.then hk2 (fun i hi e=>by omega)).then hk (fun i hi e=>by have:=(hown2.block e.symm).1;omega)
   have FINH:=hid FIN
   have h3:n=0∨n=1∨n=2:=by omega
   clear FIN hst hk2 hc2 henc hdt HDS HCW
   rcases h3 with rfl|rfl|rfl
   ·obtain⟨v3,w3,hr3,ho3,hk3⟩:=app_zeros_ex w2 (w.heap.size+1) u6 bs 1024 3 27 .i64 .i64 (by kernel_rfl) hown2 (by omega) hsz
    have FIN:=FINH.out 2 v3 w3 (by decide) (by decide) ho3 hk3
    have HR3:Hid ((Builtin.append_ #[27,3] 27 #[u6, .int .i64 1024]).run Tryz.prog w2=.ok v3 w3):=hr3
    clear FINH hr3 ho3 hk3 hown2
    dsimp only
    rename_i K hK
    refine hK _ _ ?_
    clear hK
    go_wp2_with (at_builtin;refine Lib.wpList_append_run _ rfl _ _ _ _ rfl _ _ rfl rfl _ _ HR3.out ?_)
    go_ret
    exact FIN
   ·obtain⟨v3,w3,hr3,ho3,hk3⟩:=app_zeros_ex w2 (w.heap.size+1) u6 bs 1536 3 27 .i64 .i64 (by kernel_rfl) hown2 (by omega) hsz
    have FIN:=FINH.out 3 v3 w3 (by decide) (by decide) ho3 hk3
    have HR3:Hid ((Builtin.append_ #[27,3] 27 #[u6, .int .i64 1536]).run Tryz.prog w2=.ok v3 w3):=hr3
    clear FINH hr3 ho3 hk3 hown2
    dsimp only
    rename_i K hK
    refine hK _ _ ?_
    clear hK
    go_wp2_with (at_builtin;refine Lib.wpList_append_run _ rfl _ _ _ _ rfl _ _ rfl rfl _ _ HR3.out ?_)
    go_ret
    exact FIN
   ·obtain⟨v3,w3,hr3,ho3,hk3⟩:=app_zeros_ex w2 (w.heap.size+1) u6 bs 2048 3 27 .i64 .i64 (by kernel_rfl) hown2 (by omega) hsz
    have FIN:=FINH.out 4 v3 w3 (by decide) (by decide) ho3 hk3
    have HR3:Hid ((Builtin.append_ #[27,3] 27 #[u6, .int .i64 2048]).run Tryz.prog w2=.ok v3 w3):=hr3
    clear FINH hr3 ho3 hk3 hown2
    dsimp only
    rename_i K hK
    refine hK _ _ ?_
    clear hK
    go_wp2_with (at_builtin;refine Lib.wpList_append_run _ rfl _ _ _ _ rfl _ _ rfl rfl _ _ HR3.out ?_)
    go_ret
    exact FIN
end Go.Proofs.YtgfcnjfmmjcodaaGreatDoor
