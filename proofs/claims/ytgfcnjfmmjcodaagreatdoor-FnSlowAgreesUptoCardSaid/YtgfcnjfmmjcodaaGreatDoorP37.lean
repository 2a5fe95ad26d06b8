/- An archive that is cut. -/
import Derived.Test.YtgfcnjfmmjcodaaGreatDoorP32
set_option linter.all false
set_option maxRecDepth 100000
set_option maxHeartbeats 1000000
open Go.Lib (hid)
namespace Go.Proofs.YtgfcnjfmmjcodaaGreatDoor
section
open Go.RowKit
def Out.rest:Out→List UInt8
 | .file _ _ s=>s
 | .glob _ _ _ s=>s
 | .fail _=>[]
def Out.put (o:Out)(s:List UInt8):Out:=match o with
 | .file h p _=>.file h p s
 | .glob n rs pd _=>.glob n rs pd s
 | .fail g=>.fail g
theorem Bgv {a b:List UInt8}{j:Nat}(h:a.length≤j):(a++b).take j=a++b.take (j-a.length):=by rw[List.take_append,List.take_of_length_le h]
theorem Bhk {a b:List UInt8}{j:Nat}(h:j≤a.length):(a++b).take j=a.take j:=List.take_append_of_le_length h
inductive CutAt:List UInt8→Nat→Nat→Prop
 |none (src:List UInt8):CutAt src 0 0
 |blk (l x:List UInt8) (j:Nat) (hl:l.length=512) (h0:0<j) (h1:j<512):CutAt (l++x) j 5
 |told (l t x:List UInt8) (j:Nat) (h0:Hd) (fm:Int) (hl:l.length=512) (hb:BlkRd h0 fm l) (ht:h0.typ=120∨h0.typ=103∨h0.typ=76∨h0.typ=75) (hs:h0.size=t.length) (h1:512≤j) (h2:j<512+t.length):CutAt (l++(t++x)) j 5
 |pad (l t x:List UInt8) (j:Nat) (h0:Hd) (fm:Int) (hl:l.length=512) (hb:BlkRd h0 fm l) (ht:h0.typ=120∨h0.typ=76∨h0.typ=75) (hs:h0.size=t.length) (h1:512+t.length≤j) (h2:j<512+t.length+Cv t.length):CutAt (l++(t++x)) j 0
 |next (l t x:List UInt8) (j g:Nat) (h0:Hd) (fm:Int) (hl:l.length=512) (hb:BlkRd h0 fm l) (ht:h0.typ=120∨h0.typ=76∨h0.typ=75) (hs:h0.size=t.length) (h:CutAt (x.drop (Cv t.length)) j g):CutAt (l++(t++x)) (512+t.length+Cv t.length+j) g
def CutW (nb pad:Nat)(src:List UInt8)(j g:Nat):Prop:=(g=0∨g=5)∧(nb≤j→j<nb+pad→g=0)∧(nb+pad≤j→CutAt (src.drop (nb+pad)) (j-(nb+pad)) g)
theorem CutW.here {nb pad j:Nat}{d p x:List UInt8}(hd:d.length=nb)(hp:p.length=pad)(h:CutAt x (j-(nb+pad)) 5)(hj:nb+pad≤j):CutW nb pad (d++p++x) j 5:=by
 have hdp:(d++p).length=nb+pad:=by rw[List.length_append,hd,hp]
 refine⟨.inr rfl,fun _ h=>by omega,fun _=>?_⟩
 rw[←hdp,List.drop_left,hdp];exact h
theorem Bg9 {nb pad:Nat}{pax:Option (List Rec)}{ln ll:List UInt8}(d p l x:List UInt8)(hd:d.length=nb)(hp:p.length=pad)(hl:l.length=512)(j:Nat)(hj:j<nb+pad+512) :
  ∃g,CutW nb pad (d++p++(l++x)) j g∧HeadP nb pad pax ln ll ((d++p++(l++x)).take j) (.fail g):=by
 have hdp:(d++p).length=nb+pad:=by rw[List.length_append,hd,hp]
 by_cases h1:j<nb
 ·exact⟨5,⟨.inr rfl,fun _ h=>by omega,fun h=>by omega⟩, .cutData _ (by rw[List.length_take];omega)⟩
 by_cases h2:j<nb+pad
 ·refine⟨0,⟨.inl rfl,fun _ _=>rfl,fun h=>by omega⟩,?_⟩
  rw[Bhk (by omega),Bgv (by omega:d.length≤j)]
  exact .cutPad d _ hd (by rw[List.length_take];omega)
 by_cases h3:j=nb+pad
 ·refine⟨0,⟨.inl rfl,fun _ _=>rfl,fun h=>?_⟩,?_⟩
  ·rw[h3,Nat.sub_self];exact .none _
  ·(rw[Bgv (by omega),show j-(d++p).length=0 by omega,sE,List.append_nil]);exact .cutNone d p hd hp
 ·refine⟨5, .here hd hp (.blk l x _ hl (by omega) (by omega)) (by omega),?_⟩
  rw[Bgv (by omega),Bhk (by omega)]
  exact .cutBlk d p _ hd hp (by rw[List.length_take];omega) (by rw[List.length_take];omega)
theorem Bhr {nb pad:Nat}{pax:Option (List Rec)}{ln ll:List UInt8}(d p l t x:List UInt8)(h0:Hd)(fm:Int)(hd:d.length=nb)(hp:p.length=pad)(hl:l.length=512)(hb:BlkRd h0 fm l)(ht:h0.typ=120∨h0.typ=103∨h0.typ=76∨h0.typ=75)(hs:h0.size=t.length)
  (htl:t.length≤1048576) (j:Nat) (hj:j<nb+pad+512+t.length) :
  ∃g,CutW nb pad (d++p++(l++(t++x))) j g∧HeadP nb pad pax ln ll ((d++p++(l++(t++x))).take j) (.fail g):=by
 have hdp:(d++p).length=nb+pad:=by rw[List.length_append,hd,hp]
 by_cases h1:j<nb+pad+512
 ·exact Bg9 d p l (t++x) hd hp hl j h1
 ·refine⟨5, .here hd hp (.told l t x _ h0 fm hl hb ht hs (by omega) (by omega)) (by omega),?_⟩
  rw[Bgv (by omega),Bgv (by omega),Bhk (by omega)]
  exact .cutMeta d p l _ h0 fm hd hp hl hb ht (by rw[hs,List.length_take];omega) (by rw[List.length_take];omega) (by rw[hs];omega)
theorem Bgz {nb pad:Nat}(d p l t x:List UInt8)(hd:d.length=nb)(hp:p.length=pad)(hl:l.length=512)(j:Nat)(hj:nb+pad+512+t.length≤j) :
  (d++p++(l++(t++x))).take j=d++p++(l++(t++x.take (j-(nb+pad+512+t.length)))):=by
 have hdp:(d++p).length=nb+pad:=by rw[List.length_append,hd,hp]
 rw[Bgv (by omega),Bgv (by omega),Bgv (by omega)]
 congr 4
 omega
theorem HeadP.restle {nb pad:Nat}{pax:Option (List Rec)}{ln ll src:List UInt8}{out:Out}(h:HeadP nb pad pax ln ll src out):out.rest.length≤src.length:=by
 induction h with
 |file=>simp[Out.rest];omega
 |glob=>simp[Out.rest];omega
 |pax d p l t rest h0 fm rs hd hp hl hb ht hs hr htl hk h ih=>simp only[List.length_append];omega
 |name d p l s rest h0 fm hd hp hl hb ht hs hz htl h ih=>simp only[List.length_append,List.length_cons];omega
 |link d p l s rest h0 fm hd hp hl hb ht hs hz htl h ih=>simp only[List.length_append,List.length_cons];omega
 |end_=>exact Nat.zero_le _
 |bad=>exact Nat.zero_le _
 |cutData=>exact Nat.zero_le _
 |cutPad=>exact Nat.zero_le _
 |cutNone=>exact Nat.zero_le _
 |cutBlk=>exact Nat.zero_le _
 |cutEnd=>exact Nat.zero_le _
 |cutMeta=>exact Nat.zero_le _
def Biu (nb pad:Nat)(pax:Option (List Rec))(ln ll src:List UInt8)(out:Out)(j:Nat):Prop:=
 (j+out.rest.length<src.length∧∃g,CutW nb pad src j g∧HeadP nb pad pax ln ll (src.take j) (.fail g)) ∨
 (src.length≤j+out.rest.length∧HeadP nb pad pax ln ll (src.take j) (out.put (out.rest.take (j+out.rest.length-src.length))))
theorem Bg0 {nb pad:Nat}{pax pax':Option (List Rec)}{ln ll ln' ll':List UInt8}{out:Out}(d p l t x:List UInt8)(h0:Hd)(fm:Int)(hd:d.length=nb)(hp:p.length=pad)(hl:l.length=512)(hb:BlkRd h0 fm l)(ht:h0.typ=120∨h0.typ=76∨h0.typ=75)(hs:h0.size=t.length)
  (htl:t.length≤1048576) (j:Nat) (hj:j≤(d++p++(l++(t++x))).length) (hx:out.rest.length≤x.length)
  (hstep:∀x' out',HeadP 0 (Cv t.length) pax' ln' ll' x' out'→HeadP nb pad pax ln ll (d++p++(l++(t++x'))) out')
  (ih:∀j,j≤x.length→Biu 0 (Cv t.length) pax' ln' ll' x out j):Biu nb pad pax ln ll (d++p++(l++(t++x))) out j:=by
 have hdp:(d++p).length=nb+pad:=by rw[List.length_append,hd,hp]
 have hlen:(d++p++(l++(t++x))).length=nb+pad+512+t.length+x.length:=by simp only[List.length_append] at hdp ⊢;omega
 by_cases h1:j<nb+pad+512+t.length
 ·exact .inl ⟨by omega,Bhr d p l t x h0 fm hd hp hl hb (by rcases ht with h|h|h<;>simp[h]) hs htl j h1⟩
 ·have hj':j-(nb+pad+512+t.length)≤x.length:=by omega
  have htk:=Bgz d p l t x hd hp hl j (by omega)
  rcases ih _ hj' with ⟨g1,g,⟨c1,c2,c3⟩,g2⟩|⟨g1,g2⟩
  ·(refine .inl ⟨by omega,g,⟨c1,fun _ h=>by omega,fun _=>?_⟩,by rw[htk];exact hstep _ _ g2⟩);rw[←hdp,List.drop_left,hdp];by_cases hpd:j-(nb+pad+512+t.length)<Cv t.length
   ·(have:=c2 (Nat.zero_le _) (by omega));subst this;exact .pad l t x _ h0 fm hl hb ht hs (by omega) (by omega)
   ·(have:=CutAt.next l t x _ g h0 fm hl hb ht hs (by have:=c3 (by omega);rwa[Nat.zero_add] at this));(rw[show 512+t.length+Cv t.length+(j-(nb+pad+512+t.length)-Cv t.length)=j-(nb+pad) by omega] at this);exact this
  ·(refine .inr ⟨by omega,?_⟩);(rw[htk,show j+out.rest.length-(d++p++(l++(t++x))).length=j-(nb+pad+512+t.length)+out.rest.length-x.length by omega]);exact hstep _ _ g2
theorem HeadP.cut {nb pad:Nat}{pax:Option (List Rec)}{ln ll src:List UInt8}{out:Out}(h:HeadP nb pad pax ln ll src out):Bdd out→∀j,j≤src.length→Biu nb pad pax ln ll src out j:=by
 induction h with
 |@file nb pad pax ln ll d p l rest h0 h1 h2 fm hd hp hl hb ht hs hm hn hs2=>
  intro _ j hj;have hdp:(d++p).length=nb+pad:=by rw[List.length_append,hd,hp]
  have hlen:(d++p++(l++rest)).length=nb+pad+512+rest.length:=by simp only[List.length_append] at hdp ⊢;omega
  by_cases h3:j<nb+pad+512
  ·exact .inl ⟨by simp only[Out.rest];omega,Bg9 d p l rest hd hp hl j h3⟩
  ·(refine .inr ⟨by simp only[Out.rest];omega,?_⟩);(have:=Bgz d p l [] rest hd hp hl j (by simpa using h3));simp only[List.nil_append,List.length_nil,Nat.add_zero] at this;rw[this];simp only[Out.rest,Out.put];(rw[show j+rest.length-(d++p++(l++rest)).length=j-(nb+pad+512) by omega]);exact .file d p l _ h0 h1 h2 fm hd hp hl hb ht hs hm hn hs2
 |@glob nb pad pax ln ll d p l t rest h0 fm rs hd hp hl hb ht hs hr hk htl=>
  intro _ j hj;have hdp:(d++p).length=nb+pad:=by rw[List.length_append,hd,hp]
  have hlen:(d++p++(l++(t++rest))).length=nb+pad+512+t.length+rest.length:=by simp only[List.length_append] at hdp ⊢;omega
  by_cases h3:j<nb+pad+512+t.length
  ·exact .inl ⟨by simp only[Out.rest];omega,Bhr d p l t rest h0 fm hd hp hl hb (.inr (.inl ht)) hs htl j h3⟩
  ·(refine .inr ⟨by simp only[Out.rest];omega,?_⟩);(rw[Bgz d p l t rest hd hp hl j (by omega)]);simp only[Out.rest,Out.put];(rw[show j+rest.length-(d++p++(l++(t++rest))).length=j-(nb+pad+512+t.length) by omega]);exact .glob d p l t _ h0 fm rs hd hp hl hb ht hs hr hk htl
 |@pax nb pad pax ln ll out d p l t rest h0 fm rs hd hp hl hb ht hs hr htl hk h ih=>
  intro hn j hj;exact Bg0 d p l t rest h0 fm hd hp hl hb (.inl ht) hs htl j hj h.restle (fun x' out' h'=>.pax d p l t x' h0 fm rs hd hp hl hb ht hs hr htl hk h') (ih hn)
 |@name nb pad pax ln ll out d p l s rest h0 fm hd hp hl hb ht hs hz htl h ih=>
  intro hn j hj;have e:∀x:List UInt8,s++0::x=(s++[0])++x:=fun x=>by simp
  have hsl:(s++[(0:UInt8)]).length=s.length+1:=by simp
  rw[e] at hj ⊢;refine Bg0 d p l (s++[0]) rest h0 fm hd hp hl hb (.inr (.inl ht)) (by rw[hs,hsl];rfl) (by omega) j hj h.restle (fun x' out' h'=>?_) (by rw[hsl];exact ih hn)
  rw[hsl] at h';rw[←e];exact .name d p l s x' h0 fm hd hp hl hb ht hs hz htl h'
 |@link nb pad pax ln ll out d p l s rest h0 fm hd hp hl hb ht hs hz htl h ih=>
  intro hn j hj;have e:∀x:List UInt8,s++0::x=(s++[0])++x:=fun x=>by simp
  have hsl:(s++[(0:UInt8)]).length=s.length+1:=by simp
  rw[e] at hj ⊢;refine Bg0 d p l (s++[0]) rest h0 fm hd hp hl hb (.inr (.inr ht)) (by rw[hs,hsl];rfl) (by omega) j hj h.restle (fun x' out' h'=>?_) (by rw[hsl];exact ih hn)
  rw[hsl] at h';rw[←e];exact .link d p l s x' h0 fm hd hp hl hb ht hs hz htl h'
 |end_=>exact fun h=>h.elim
 |bad=>exact fun h=>h.elim
 |cutData=>exact fun h=>h.elim
 |cutPad=>exact fun h=>h.elim
 |cutNone=>exact fun h=>h.elim
 |cutBlk=>exact fun h=>h.elim
 |cutEnd=>exact fun h=>h.elim
 |cutMeta=>exact fun h=>h.elim
end
section
open Go Go.RowKit
def Out.dat:Out→Nat
 | .file h _ _=>Cm h
 |_=>0
def Out.fill:Out→Nat
 | .file h _ _=>Cv (Cm h)
 | .glob _ _ pd _=>pd
 | .fail _=>0
structure OutFine (out:Out):Prop where
 is:Bdd out
 times:On out
 recs:Uk out
 fill:out.fill≤512
 dat:out.dat≤1048576
abbrev Bgt:=Out × List UInt8 × Nat
inductive FilesP (L:Nat):Nat→Nat→List UInt8→List Bgt→Nat→Prop
 |stop {nb pad src g} (h:HeadP nb pad none [] [] src (.fail g)) (hg:g=0∨g=5):FilesP L nb pad src [] g
 |whole {nb pad src out rs g} (h:HeadP nb pad none [] [] src out) (hf:OutFine out) (hl:out.dat≤out.rest.length)
   (hr:FilesP L (out.dat-min L out.dat) out.fill (out.rest.drop (min L out.dat)) rs g):FilesP L nb pad src ((out,out.rest.take (min L out.dat),if 0<L∧out.dat≤L then 1 else 0)::rs) g
 |cut {nb pad src out} (h:HeadP nb pad none [] [] src out) (hf:OutFine out) (hl:out.rest.length<out.dat):FilesP L nb pad src [(out,out.rest.take L,6)] 5
theorem FilesP.dat_le {L nb pad:Nat}{src:List UInt8}{rs:List Bgt}{g:Nat}(h:FilesP L nb pad src rs g):∀r∈rs,r.2.1.length≤L:=by
 induction h with
 |stop=>intro r hr;cases hr
 |whole h hf hl hr ih=>
  intro r hr;rcases List.mem_cons.1 hr with rfl|hr
  ·show (List.take _ _).length≤L;rw[List.length_take];omega
  ·exact ih r hr
 |cut h hf hl=>
  intro r hr;rcases List.mem_cons.1 hr with rfl|hr
  ·show (List.take _ _).length≤L;rw[List.length_take];omega
  ·cases hr
theorem OutFine.put {out:Out}(h:OutFine out)(s:List UInt8):OutFine (out.put s):=by
 obtain⟨h1,h2,h3,h4,h5⟩:=h;cases out with
 |file=>exact⟨h1,h2,h3,h4,h5⟩
 |glob=>exact⟨h1,h2,h3,h4,h5⟩
 |fail=>exact⟨h1,h2,h3,h4,h5⟩
theorem Out.put_rest {out:Out}(h:Bdd out)(s:List UInt8):(out.put s).rest=s:=by
 cases out with
 |file=>rfl
 |glob=>rfl
 |fail=>exact h.elim
theorem Out.put_dat (out:Out)(s:List UInt8):(out.put s).dat=out.dat:=by cases out<;>rfl
theorem Out.put_fill (out:Out)(s:List UInt8):(out.put s).fill=out.fill:=by cases out<;>rfl
theorem Bjs {f:B4}{fs:List B4}{out:Out}(h:Bbs f fs out)(g:GoodF f)(h1:Bdd out)(h2:On out)(h3:Uk out) :
  OutFine out∧out.dat=f.2.length∧ArcS out.dat out.fill out.rest fs∧out.dat≤out.rest.length∧out.rest.take out.dat=f.2:=by
 cases out with
 |fail=>exact h1.elim
 |file hh pax src=>
  obtain⟨g1,g2,g3,g4,g5,g6,g7⟩:=h;have:=g.dl;refine⟨⟨h1,h2,h3,Nat.le_of_lt (Ry _),by show Cm hh≤_;omega⟩,g4,?_,?_,?_⟩
  ·show ArcS (Cm hh) (Cv (Cm hh)) src fs;rw[g4];exact g5
  ·show Cm hh≤src.length;rw[g4];exact g7
  ·show src.take (Cm hh)=f.2;rw[g4];exact g6
 |glob name rs pad src=>
  obtain⟨g1,g2,g3,g4,g5⟩:=h;refine⟨⟨h1,h2,h3,g5,Nat.zero_le _⟩,?_,g4,Nat.zero_le _,?_⟩
  ·rw[g2];rfl
  ·rw[g2];rfl
theorem HeadP.cutEnd' {nb pad:Nat}{src:List UInt8}(h:ArcS nb pad src [])(j:Nat):∃g,(g=0∨g=5)∧HeadP nb pad none [] [] (src.take j) (.fail g):=by
 obtain⟨d,p,bs,tail,rfl,h1,h2,h3⟩:=h;cases h3;rw[List.nil_append];have hdp:(d++p).length=nb+pad:=by rw[List.length_append,h1,h2]
 by_cases c1:j<nb+pad+512
 ·obtain⟨g,c,hh⟩:=Bg9 (pax:=none) (ln:=[]) (ll:=[]) d p (List.replicate 512 0) (List.replicate 512 0++tail) h1 h2 List.length_replicate j c1;refine⟨g,c.1,?_⟩;have e:List.replicate 512 (0:UInt8)++(List.replicate 512 0++tail)=List.replicate 1024 0++tail:=by
   rw[←List.append_assoc,List.replicate_append_replicate]
  rw[e] at hh;exact hh
 by_cases c2:j<nb+pad+1024
 ·have he:HeadP nb pad none [] [] ((d++p++(List.replicate 1024 0++tail)).take j) (.fail (if min (j-(d++p).length) 1024=512 then 0 else 5)):=by
   (rw[Bgv (by omega),Bhk (by rw[List.length_replicate];omega),List.take_replicate]);exact .cutEnd d p _ h1 h2 (by omega) (by omega)
  refine⟨_,?_,he⟩;split
  ·exact .inl rfl
  ·exact .inr rfl
 ·refine⟨0, .inl rfl,?_⟩;rw[Bgv (by omega),Bgv (by rw[List.length_replicate];omega)]
  exact .end_ d p _ h1 h2
theorem ArcS.cutP (L:Nat):∀ {fs:List B4} {nb pad:Nat} {src:List UInt8},ArcS nb pad src fs→(∀f∈fs,GoodF f)→∀j,j≤src.length→∃rs g,FilesP L nb pad (src.take j) rs g∧rs.length≤fs.length
 |[],nb,pad,src,h,hg,j,hj=>by
  obtain⟨g,c,hh⟩:=HeadP.cutEnd' h j
  exact⟨[],g, .stop hh c,Nat.zero_le _⟩
 |f::fs,nb,pad,src,h,hg,j,hj=>by
  have hgf:=hg f (List.mem_cons_self ..)
  obtain⟨out,hh,hao,hon,hot,hor⟩:=h.one hgf
  obtain⟨hfine,hdat,harc,hle,htk⟩:=Bjs hao hgf hon hot hor
  rcases hh.cut hon j hj with ⟨_,g,c,hc⟩|⟨c1,hc⟩
  ·exact⟨[],g, .stop hc c.1,Nat.zero_le _⟩
  ·have hrl:=hh.restle
   have hf2:=hfine.put (out.rest.take (j+out.rest.length-src.length))
   have hr2:=Out.put_rest hon (out.rest.take (j+out.rest.length-src.length))
   generalize hm:j+out.rest.length-src.length=m at hc hf2 hr2
   have hml:m≤out.rest.length:=by omega
   by_cases hlt:m<out.dat
   ·exact⟨_,5, .cut hc hf2 (by rw[hr2,Out.put_dat,List.length_take];omega),by simp⟩
   ·have hk:min L out.dat≤out.dat:=Nat.min_le_right ..
    have hk2:min L out.dat≤m:=by omega
    obtain⟨rs,g,hr,hrl⟩:=ArcS.cutP L (harc.read hk) (fun f' hf'=>hg f' (List.mem_cons_of_mem _ hf')) (m-min L out.dat) (by rw[List.length_drop];omega)
    refine⟨_,g, .whole (rs:=rs) hc hf2 (by rw[hr2,Out.put_dat,List.length_take];omega) ?_,Nat.succ_le_succ hrl⟩
    rw[hr2,Out.put_dat,Out.put_fill,List.drop_take]
    exact hr
end
end Go.Proofs.YtgfcnjfmmjcodaaGreatDoor
