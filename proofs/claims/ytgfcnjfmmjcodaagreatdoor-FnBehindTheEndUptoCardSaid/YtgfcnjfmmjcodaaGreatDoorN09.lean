/- The size of what is told ahead. -/
import Derived.Test.YtgfcnjfmmjcodaaGreatDoorN08
set_option linter.all false
set_option maxRecDepth 100000
set_option maxHeartbeats 1000000
open Go.Lib (hid)
namespace Go.Proofs.YtgfcnjfmmjcodaaGreatDoor
section
open Go.RowKit
theorem recT_len {r:Rec}{t:List UInt8}(h:RecT r t):t.length=(Lib.decDigits t.length).length+r.1.length+r.2.length+3:=by
 have:=congrArg List.length h
 simp at this;omega
theorem nDigits_le (n k:Nat)(hk:1≤k)(h:n<10 ^ k):Lib.nDigits n≤k:=by
 rcases Nat.lt_or_ge k (Lib.nDigits n) with hl|hl
 ·exfalso
  induction k generalizing n with
  |zero=>omega
  |succ k ih=>
   by_cases hn:n<10
   ·rw[Lib.nDigits_small hn] at hl;omega
   ·rw[Lib.nDigits_big hn] at hl
    by_cases h0:k=0
    ·subst h0;omega
    ·exact ih (n/10) (by omega) (by rw[Nat.pow_succ] at h;omega) (by omega)
 ·exact hl
theorem recT_le {r:Rec}{t:List UInt8}(h:RecT r t)(hs:t.length<10000000):t.length≤r.1.length+r.2.length+10:=by
 have h1:=recT_len h
 rw[Lib.decDigits_length] at h1
 have:=nDigits_le t.length 7 (by omega) (by omega)
 omega
theorem recT_small {r:Rec}{t:List UInt8}(h:RecT r t)(hs:r.1.length+r.2.length≤1048576):t.length<10000000:=by
 have h1:=recT_len h
 rw[Lib.decDigits_length] at h1
 rcases Nat.lt_or_ge t.length 10000000 with h2|h2
 ·exact h2
 ·exfalso
  have hlt:=Lib.lt_pow_nDigits t.length
  have hk:∀n:Nat,10000000≤n→Lib.nDigits n≤n/1000000+6:=by
   intro n
   induction n using Nat.strongRecOn with
   |ind n ih=>
    intro hn
    rw[Lib.nDigits_big (by omega)]
    by_cases h3:n/10<10000000
    ·have:=nDigits_le (n/10) 7 (by omega) (by omega);omega
    ·have:=ih (n/10) (by omega) (by omega);omega
  have:=hk _ h2
  omega
theorem recsT_le {rs:List Rec}{t:List UInt8}(h:RecsT rs t)(hs:∀r∈rs,r.1.length+r.2.length≤1048576):t.length≤recsW rs:=by
 induction h with
 |nil=>exact Nat.zero_le _
 |cons h hr ih=>
  rename_i r rs t ts
  have h1:=recT_le h (recT_small h (hs r (List.mem_cons_self ..)))
  have h2:=ih fun x hx=>hs x (List.mem_cons_of_mem _ hx)
  simp only[recsW,List.map_cons,List.sum_cons,List.length_append] at h2 ⊢
  omega
def OutOk (h:Hd)(data tail:List UInt8)(out:Out):Prop:=
 (∃h2 pax,out=.file h2 pax (bodyE h data++tail)∧h.typ≠103∧SameH h2 h∧(∀k v,findL h.recs k=some v→∃rs,pax=some rs∧findL rs k=some v)) ∨
 (∃rs n,h.typ=103∧out=.glob h.name rs (zpad n) (List.replicate (zpad n) 0++tail)∧∀k v,findL rs k=some v↔findL h.recs k=some v)
theorem recsW_mem {rs:List Rec}{r:Rec}(h:r∈rs):r.1.length+r.2.length≤recsW rs:=by
 induction rs with
 |nil=>cases h
 |cons x rs ih=>
  simp only[recsW,List.map_cons,List.sum_cons] at ih ⊢
  rcases List.mem_cons.1 h with rfl|h
  ·omega
  ·have:=ih h;omega
theorem recsT_small {rs:List Rec}{t:List UInt8}(h:RecsT rs t)(hw:recsW rs≤600000):t.length≤600000:=
 Nat.le_trans (recsT_le h fun r hr=>by have:=recsW_mem hr;omega) hw
theorem meta_in (kind:UInt8)(name:List UInt8)(n:Nat)(gnu:Bool)(hz:NoNul name)(hn:n≤4611686018427387904):BlkIn (metaH kind name n) gnu:=by
 refine⟨hz,(fun c hc=>by cases hc),(fun c hc=>by cases hc),(fun c hc=>by cases hc),fun _=>⟨?_,?_⟩,(fun _ h=>by cases h),(fun _ h=>by cases h)⟩
 ·intro x hx
  simp only[metaH,hd0,List.mem_cons,List.not_mem_nil,or_false] at hx
  omega
 ·simp only[metaH,hd0];omega
theorem meta_rd {kind:UInt8}{name:List UInt8}{n:Nat}{gnu:Bool}{l:List UInt8}(b:BlkE (metaH kind name n) gnu l)(hz:NoNul name)(hn:n<8589934592) :
  ∃h0,BlkRd h0 (if gnu then 8 else 6) l∧h0.typ=kind∧h0.size=n∧(name.length≤100→h0.name=name):=by
 obtain⟨nm,hr,hx⟩:=b.rd (meta_in kind name n gnu hz (by omega))
 have hs:stored gnu 12 (n:Int)=n:=stored_fits (by simp[fitsO];omega)
 refine⟨_,hr,rfl,hs,fun hl=>?_⟩
 rcases hx with ⟨rfl,_⟩|⟨_,_,rfl⟩
 ·exact List.take_of_length_le hl
 ·rfl
theorem nn_pax:NoNul paxName:=by show ∀c∈paxName,c≠0;decide
theorem nn_long:NoNul longName:=by show ∀c∈longName,c≠0;decide
theorem typ_ok {t:UInt8}(h:48≤t.toNat∧t.toNat≤55):t.toNat≠0∧t≠120∧t≠103∧t≠76∧t≠75∧t≠83:=by
 refine⟨by omega,?_,?_,?_,?_,?_⟩<;>(rintro rfl;simp at h)
structure Int64s (h:Hd):Prop where
 size:h.size<9223372036854775808
 uid:h.uid<9223372036854775808
 gid:h.gid<9223372036854775808
theorem blk_in {h:Hd}{f:Int}(hc:CanP h f)(gnu:Bool)(hg:gnu=true→f=3)(hi:Int64s h):BlkIn h gnu:=by
 have:=hi.size
 refine⟨hc.name.2.1,hc.link.1,hc.un.1,hc.gn.1,fun g=>⟨?_,?_⟩,fun g a=>?_,fun g a=>?_⟩
 ·have hf:=hg g
  have h1:=hc.mode;have h2:=hc.uid;have h3:=hc.gid;have h4:=hc.maj;have h5:=hc.min
  intro x hx
  simp only[List.mem_cons,List.not_mem_nil,or_false] at hx
  rcases hx with rfl|rfl|rfl|rfl|rfl<;>omega
 ·have h1:=hc.size;have h2:=hc.mod;omega
 ·have:=hc.acc a;omega
 ·have:=hc.chg a;omega
theorem step_L {s m:List UInt8}(hm:LongE 76 s m)(hz:NoNul s)(hl:s.length<1000000)(ln:List UInt8) :
  ∃ln',(ln'=ln∧s.length≤100∨ln'=s∧s≠[])∧∀(pax:Option (List Rec)) (ll rest:List UInt8) (out:Out),(∀(d p:List UInt8) (nb pad:Nat),d.length=nb→p.length=pad→HeadP nb pad pax ln' ll (d++p++rest) out) →
   ∀(d p:List UInt8) (nb pad:Nat),d.length=nb→p.length=pad→HeadP nb pad pax ln ll (d++p++(m++rest)) out:=by
 rcases hm with ⟨rfl,h1⟩|⟨hne,hm⟩
 ·exact⟨ln, .inl ⟨rfl,h1⟩,fun pax ll rest out h d p nb pad hd hp=>h d p nb pad hd hp⟩
 ·refine⟨s, .inr ⟨rfl,hne⟩,fun pax ll rest out h d p nb pad hd hp=>?_⟩
  obtain⟨l,hb⟩:=hm
  obtain⟨h0,hrd,e1,e2,_⟩:=meta_rd hb nn_long (by simp;omega)
  have hlen:(s++[0]).length=s.length+1:=by simp
  have:=HeadP.name (nb:=nb) (pad:=pad) (pax:=pax) (ln:=ln) (ll:=ll) d p l s _ h0 _ hd hp hb.len hrd e1 (by rw[e2,hlen];rfl) hz (by omega) (h [] (List.replicate (zpad (s.length+1)) 0) 0 (zpad (s.length+1)) rfl (by simp))
  have e:d++p++(l++(s++0::([]++List.replicate (zpad (s.length+1)) 0++rest)))=d++p++(l++filledL (s++[0])++rest):=by simp[filledL]
  rw[e] at this
  exact this
theorem step_K {s m:List UInt8}(hm:LongE 75 s m)(hz:NoNul s)(hl:s.length<1000000)(ll:List UInt8) :
  ∃ll',(ll'=ll∧s.length≤100∨ll'=s∧s≠[])∧∀(pax:Option (List Rec)) (ln rest:List UInt8) (out:Out),(∀(d p:List UInt8) (nb pad:Nat),d.length=nb→p.length=pad→HeadP nb pad pax ln ll' (d++p++rest) out) →
   ∀(d p:List UInt8) (nb pad:Nat),d.length=nb→p.length=pad→HeadP nb pad pax ln ll (d++p++(m++rest)) out:=by
 rcases hm with ⟨rfl,h1⟩|⟨hne,hm⟩
 ·exact⟨ll, .inl ⟨rfl,h1⟩,fun pax ln rest out h d p nb pad hd hp=>h d p nb pad hd hp⟩
 ·refine⟨s, .inr ⟨rfl,hne⟩,fun pax ln rest out h d p nb pad hd hp=>?_⟩
  obtain⟨l,hb⟩:=hm
  obtain⟨h0,hrd,e1,e2,_⟩:=meta_rd hb nn_long (by simp;omega)
  have hlen:(s++[0]).length=s.length+1:=by simp
  have:=HeadP.link (nb:=nb) (pad:=pad) (pax:=pax) (ln:=ln) (ll:=ll) d p l s _ h0 _ hd hp hb.len hrd e1 (by rw[e2,hlen];rfl) hz (by omega) (h [] (List.replicate (zpad (s.length+1)) 0) 0 (zpad (s.length+1)) rfl (by simp))
  have e:d++p++(l++(s++0::([]++List.replicate (zpad (s.length+1)) 0++rest)))=d++p++(l++filledL (s++[0])++rest):=by simp[filledL]
  rw[e] at this
  exact this
theorem over_of {s t x:List UInt8}(h:t=[]∧s.length≤100∨t=s∧s≠[])(hx:x=s.take 100):over t x=s:=by
 rcases h with ⟨rfl,h1⟩|⟨rfl,h1⟩
 ·rw[over,if_pos rfl,hx,List.take_of_length_le h1]
 ·rw[over,if_neg h1]
theorem head_of_file {h:Hd}{data b tail:List UInt8}(he:FileE h data b)(hp:FileP (h,data))(hi:Int64s h)(hdl:data.length≤4611686018427387904){d p:List UInt8}{nb pad:Nat}(hd:d.length=nb)(hpad:p.length=pad) :
  ∃out,HeadP nb pad none [] [] (d++p++(b++tail)) out∧OutOk h data tail out:=by
 have hsz:∀h2:Hd,SameH h2 h→h.typ≠103→0≤h2.size∧h2.size≤4611686018427387904∨hasData h2.typ=false:=fun h2 hs ht=>by
  rcases hp with ⟨hg,_⟩|⟨_,hf,hc,hdat⟩
  ·exact absurd hg.typ ht
  ·simp only at hdat
   rw[hs.size,hs.typ]
   cases e:hasData h.typ with
   |false=>exact .inr rfl
   |true=>rw[if_pos e] at hdat;exact .inl ⟨by omega,by omega⟩
 cases he with
 |glob ht rs t m hrs hin hw hr hm=>
  rcases hp with ⟨hg,_⟩|⟨hne,_⟩
  ·obtain⟨l,hb⟩:=hm
   have htl:=recsT_small hr hw
   obtain⟨h0,hrd,h1,h2,h3⟩:=meta_rd hb (by rw[hg.name];intro c hc;cases hc) (by omega)
   have h3':=h3 (by rw[hg.name];simp)
   refine⟨_,?_, .inr ⟨rs,t.length,ht,rfl,hrs⟩⟩
   have:=HeadP.glob (nb:=nb) (pad:=pad) (pax:=none) (ln:=[]) (ll:=[]) d p l t (List.replicate (zpad t.length) 0++tail) h0 _ rs hd hpad hb.len hrd h1 h2 hr (fun r hr=>hg.own r (hin r hr)) (by omega)
   rw[h3'] at this
   have e:d++p++(l++(t++(List.replicate (zpad t.length) 0++tail)))=d++p++(l++filledL t++tail):=by simp[filledL]
   rw[e] at this
   exact this
  ·exact absurd ht hne
 |ustar ht hf l hl=>
  rcases hp with ⟨hg,_⟩|⟨_,_,hc,hdat⟩
  ·exact absurd hg.typ ht
  ·simp only[hf] at hc
   obtain⟨nm,hrd,hx⟩:=hl.rd (blk_in hc false (fun g=>by cases g) hi)
   have hnm:nm=h.name:=by
    rcases hx with ⟨rfl,hs⟩|⟨_,_,rfl⟩
    ·rw[List.take_of_length_le]
     have:=hc.name.2.2 rfl
     exact Nat.not_lt.1 fun hl=>this.2.elim (by omega) (hs rfl this.1 hl)
    ·rfl
   subst hnm
   have h1:=hc.mode;have h2:=hc.uid;have h3:=hc.gid;have h4:=hc.maj;have h5:=hc.min;have h6:=hc.size;have h7:=hc.mod
   have hA:h.hasA=false:=by cases e:h.hasA with
    |false=>rfl
    |true=>exact absurd rfl (hc.acc e).1
   have hC:h.hasC=false:=by cases e:h.hasC with
    |false=>rfl
    |true=>exact absurd rfl (hc.chg e).1
   have hsame:SameH (blkH h false h.name) h:=by
    refine⟨rfl,rfl,?_,?_,?_,?_,?_,?_,?_,⟨?_,?_⟩,?_,?_,⟨by simp[blkH,hA],(fun e=>by rw[hA] at e;cases e)⟩,⟨by simp[blkH,hC],(fun e=>by rw[hC] at e;cases e)⟩⟩
    ·exact List.take_of_length_le (hc.link.2 rfl).2
    ·exact stored_fits (by simp[fitsO];omega)
    ·exact stored_fits (by simp[fitsO];omega)
    ·exact stored_fits (by simp[fitsO];omega)
    ·exact stored_fits (by simp[fitsO];omega)
    ·exact List.take_of_length_le (by have:=hc.un.2.2 (by omega);omega)
    ·exact List.take_of_length_le (by have:=hc.gn.2.2 (by omega);omega)
    ·exact stored_fits (by simp[fitsO];omega)
    ·show 0=h.mn;have:=h7.2.2.1 (by omega);omega
    ·exact stored_fits (by simp[fitsO];omega)
    ·exact stored_fits (by simp[fitsO];omega)
   refine⟨_,?_, .inl ⟨_,none,rfl,ht,hsame,?_⟩⟩
   ·have:=HeadP.file (nb:=nb) (pad:=pad) (pax:=none) (ln:=[]) (ll:=[]) d p l (bodyE h data++tail) _ _ _ _ hd hpad hl.len hrd (typ_ok hc.typ) (hsz _ hsame ht) rfl rfl (hsz _ hsame ht)
    rw[List.append_assoc l]
    exact this
   ·intro k v e
    have:h.recs=[]:=Classical.byContradiction fun e=>by have:=hc.recs e;omega
    rw[this] at e;cases e
 |pax0 ht hf h0 l hl=>
  rcases hp with ⟨hg,_⟩|⟨_,_,hc,hdat⟩
  ·exact absurd hg.typ ht
  ·simp only[hf] at hc
   obtain⟨nm,hrd,hx⟩:=hl.rd (blk_in hc false (fun g=>by cases g) hi)
   obtain⟨h1,hm,hsame⟩:=merged_of hc h0 (by rcases hx with ⟨e,hs⟩|⟨_,ha,e⟩;exact .inl ⟨e,hs rfl⟩;exact .inr ⟨ha,e⟩) ⟨hi.size,hi.uid,hi.gid⟩
   have hb1:SameH (blkH h false nm) h:=by
    have hA:h.hasA=false:=by cases e:h.hasA with
     |false=>rfl
     |true=>have:=h0.atime e;obtain⟨r,hr,_⟩:=this;cases hr
    have hC:h.hasC=false:=by cases e:h.hasC with
     |false=>rfl
     |true=>have:=h0.ctime e;obtain⟨r,hr,_⟩:=this;cases hr
    have e1:=hm.name;have e2:=hm.link;have e3:=hm.un;have e4:=hm.gn
    have e5:h1.size=_:=hm.size;have e6:h1.uid=_:=hm.uid;have e7:h1.gid=_:=hm.gid
    have e8:h1.ms=_∧h1.mn=_:=hm.mod
    refine⟨rfl,e1.symm.trans hsame.name,e2.symm.trans hsame.link,e5.symm.trans hsame.size,hm.mode.symm.trans hsame.mode,e6.symm.trans hsame.uid,e7.symm.trans hsame.gid,e3.symm.trans hsame.un,e4.symm.trans hsame.gn,
     ⟨e8.1.symm.trans hsame.mod.1,e8.2.symm.trans hsame.mod.2⟩,hm.maj.symm.trans hsame.maj,hm.min.symm.trans hsame.min,⟨by simp[blkH,hA],(fun e=>by rw[hA] at e;cases e)⟩,⟨by simp[blkH,hC],(fun e=>by rw[hC] at e;cases e)⟩⟩
   refine⟨_,?_, .inl ⟨_,none,rfl,ht,hb1,?_⟩⟩
   ·have:=HeadP.file (nb:=nb) (pad:=pad) (pax:=none) (ln:=[]) (ll:=[]) d p l (bodyE h data++tail) _ _ _ _ hd hpad hl.len hrd (typ_ok hc.typ) (hsz _ hb1 ht) rfl rfl (hsz _ hb1 ht)
    rw[List.append_assoc l]
    exact this
   ·intro k v e
    have:=h0.own k v e
    cases this
 |pax ht hf rs hr t m hrt hm l hl=>
  rcases hp with ⟨hg,_⟩|⟨_,_,hc,hdat⟩
  ·exact absurd hg.typ ht
  ·simp only[hf] at hc
   obtain⟨nm,hrd,hx⟩:=hl.rd (blk_in hc false (fun g=>by cases g) hi)
   obtain⟨h1,hmg,hsame⟩:=merged_of hc hr (by rcases hx with ⟨e,hs⟩|⟨_,ha,e⟩;exact .inl ⟨e,hs rfl⟩;exact .inr ⟨ha,e⟩) ⟨hi.size,hi.uid,hi.gid⟩
   obtain⟨l0,hb0⟩:=hm
   have htl:=recsT_small hrt hr.small
   obtain⟨h0,hrd0,e1,e2,e3⟩:=meta_rd hb0 nn_pax (by omega)
   refine⟨_,?_, .inl ⟨h1,some rs,rfl,ht,hsame,fun k v e=>⟨rs,rfl,?_⟩⟩⟩
   ·have h2:=HeadP.file (nb:=0) (pad:=zpad t.length) (pax:=some rs) (ln:=[]) (ll:=[]) [] (List.replicate (zpad t.length) 0) l (bodyE h data++tail) _ h1 h1 _ rfl (by simp) hl.len hrd (typ_ok hc.typ)
     (.inl (by have:=stored_bd 12 h.size (by omega);exact⟨this.1,by show stored false 12 h.size≤_;omega⟩)) hmg rfl (hsz _ hsame ht)
    have:=HeadP.pax (nb:=nb) (pad:=pad) (pax:=none) d p l0 t _ h0 _ rs hd hpad hb0.len hrd0 e1 e2 hrt (by omega) ?_ h2
    ·have e:d++p++(l0++(t++([]++List.replicate (zpad t.length) 0++(l++(bodyE h data++tail)))))=d++p++(l0++filledL t++(l++bodyE h data)++tail):=by simp[filledL]
     rw[e] at this
     exact this
    ·intro r hrm
     have h1:=recOk_key hc.own (hr.ok r hrm).1
     rcases h1 with h1|⟨h1,h2⟩
     ·refine⟨?_,?_,?_,?_,not_prefix_field h1 (.inr rfl),(hr.ok r hrm).2⟩
      ·simp only[fieldKeys,List.mem_cons,List.not_mem_nil,or_false] at h1
       rcases h1 with e|e|e|e|e|e|e|e|e|e<;>(rw[e];decide)
      ·simp only[fieldKeys,List.mem_cons,List.not_mem_nil,or_false] at h1
       rcases h1 with e|e|e|e|e|e|e|e|e|e<;>(rw[e];decide)
      ·simp only[fieldKeys,List.mem_cons,List.not_mem_nil,or_false] at h1
       rcases h1 with e|e|e|e|e|e|e|e|e|e<;>(rw[e];unfold NoNul;decide)
      ·have ho:=(hr.ok r hrm).1
       rintro(e|e|e|e)
       ·rw[rec_path hc.own ho e];exact hc.name.2.1
       ·rw[rec_link hc.own ho e];exact hc.link.1
       ·rw[rec_un hc.own ho e];exact hc.un.1
       ·rw[rec_gn hc.own ho e];exact hc.gn.1
     ·exact⟨h1.noEq,h1.ne,h1.noNul,fun _=>h2,h1.noSparse,(hr.ok r hrm).2⟩
   ·obtain⟨u,hu⟩:=findL_some rs k v (hr.own k v e)
    have hm:=findL_mem _ _ _ hu
    have:=(hr.ok _ hm).1
    have hk:=own_key hc.own e
    rcases this with ⟨h1,_⟩|⟨h1,_⟩|⟨h1,_⟩|⟨h1,_⟩|⟨h1,_⟩|⟨h1,_⟩|⟨h1,_⟩|⟨h1,_⟩|⟨h1,_⟩|⟨h1,_⟩|h1
    all_goals first
     |exact absurd (by rw[show k=_ from h1];decide) hk
     |(have h1':findL h.recs k=some u:=h1;rw[hu,←h1',e])
 |gnu ht hf first m k hm hk l hl=>
  rcases hp with ⟨hg,_⟩|⟨_,_,hc,hdat⟩
  ·exact absurd hg.typ ht
  ·simp only[hf] at hc
   obtain⟨nm,hrd,hx⟩:=hl.rd (blk_in hc true (fun _=>rfl) hi)
   have hnm:nm=h.name.take 100:=by
    rcases hx with ⟨e,_⟩|⟨e,_⟩
    ·exact e
    ·cases e
   subst hnm
   have hw:=hc.sane.small
   unfold weight at hw
   obtain⟨ln,hln,hL⟩:=step_L hm hc.name.2.1 (by omega) []
   obtain⟨ll,hll,hK⟩:=step_K hk hc.link.1 (by omega) []
   have hsame:SameH {blkH h true (h.name.take 100) with name:=over ln (h.name.take 100),link:=over ll (h.link.take 100)} h:=by
    refine⟨rfl,over_of hln rfl,over_of hll rfl,rfl,rfl,rfl,rfl,?_,?_,⟨rfl,?_⟩,rfl,rfl,⟨by simp[blkH],fun e=>⟨rfl,?_⟩⟩,⟨by simp[blkH],fun e=>⟨rfl,?_⟩⟩⟩
    ·exact List.take_of_length_le (by have:=hc.un.2.2 (by omega);omega)
    ·exact List.take_of_length_le (by have:=hc.gn.2.2 (by omega);omega)
    ·show 0=h.mn;have:=hc.mod.2.2.1 (by omega);omega
    ·show 0=h.atn;have:=(hc.acc e).2.2.2 (by omega);omega
    ·show 0=h.ctn;have:=(hc.chg e).2.2.2 (by omega);omega
   have hfile:∀(d p:List UInt8) (nb pad:Nat),d.length=nb→p.length=pad→HeadP nb pad none ln ll (d++p++(l++bodyE h data++tail)) (.file _ none (bodyE h data++tail)):=fun d p nb pad hd hp=>by
    have:=HeadP.file (nb:=nb) (pad:=pad) (pax:=none) (ln:=ln) (ll:=ll) d p l (bodyE h data++tail) _ _ _ _ hd hp hl.len hrd (typ_ok hc.typ) (by have:=hsz _ hsame ht;exact this) rfl rfl (hsz _ hsame ht)
    rw[List.append_assoc l]
    exact this
   refine⟨_,?_, .inl ⟨_,none,rfl,ht,hsame,?_⟩⟩
   ·cases first with
    |true=>
     have:=hL none [] (k++(l++bodyE h data++tail)) _ (hK none ln (l++bodyE h data++tail) _ hfile) d p nb pad hd hpad
     simp only[if_true,List.append_assoc] at this ⊢
     exact this
    |false=>
     have:=hK none [] (m++(l++bodyE h data++tail)) _ (hL none ll (l++bodyE h data++tail) _ hfile) d p nb pad hd hpad
     simp only[Bool.false_eq_true,if_false,List.append_assoc] at this ⊢
     exact this
   ·intro k v e
    have:h.recs=[]:=Classical.byContradiction fun e=>by have:=hc.recs e;omega
    rw[this] at e;cases e
end
section
open Go Go.RowKit
theorem and_mask (a:Int)(k:Nat)(hk:k≤62):bits .and .i64 a ((2 ^ k-1:Nat):Int)=a%((2 ^ k:Nat):Int):=by
 show IntKind.i64.wrap ((BitVec.ofInt 64 a &&& BitVec.ofInt 64 ((2 ^ k-1:Nat):Int)).toNat:Int)=_
 have h2:2 ^ k≤2 ^ 62:=Nat.pow_le_pow_right (by omega) hk
 have hp:1≤2 ^ k:=Nat.one_le_two_pow
 have e1:(BitVec.ofInt 64 ((2 ^ k-1:Nat):Int)).toNat=2 ^ k-1:=by
  rw[BitVec.ofInt_natCast,BitVec.toNat_ofNat,Nat.mod_eq_of_lt (by omega)]
 rw[BitVec.toNat_and,e1,Nat.and_two_pow_sub_one_eq_mod,BitVec.toNat_ofInt]
 have hd:((2 ^ k:Nat):Int)∣((2 ^ 64:Nat):Int):=by
  rw[Int.natCast_dvd_natCast];exact Nat.pow_dvd_pow 2 (by omega)
 have h3:(a%((2 ^ 64:Nat):Int))%((2 ^ k:Nat):Int)=a%((2 ^ k:Nat):Int):=Int.emod_emod_of_dvd a hd
 have h4:=Int.emod_nonneg a (show ((2 ^ 64:Nat):Int)≠0 by decide)
 have h5:=Int.emod_nonneg a (show ((2 ^ k:Nat):Int)≠0 by omega)
 have h6:=Int.emod_lt_of_pos a (show (0:Int)<((2 ^ k:Nat):Int) by omega)
 have e2:(((a%((2 ^ 64:Nat):Int)).toNat%2 ^ k:Nat):Int)=a%((2 ^ k:Nat):Int):=by
  rw[Int.natCast_emod,Int.toNat_of_nonneg h4,h3]
 rw[e2]
 exact IntWalk.i64_in _ (by omega)
theorem and511 (n:Nat):bits .and .i64 (-(n:Int)) 511=((zpad n:Nat):Int):=by
 have:=and_mask (-(n:Int)) 9 (by omega)
 have e:bits .and .i64 (-(n:Int)) 511= -(n:Int)%512:=this
 rw[e]
 unfold zpad padN
 omega
theorem blockPadding_any (w:World)(n:Nat)(hn:n≤4611686018427387904) :
  Calls Tryz.prog 214 #[.int .i64 n] w fun e w'=>e=.returned (.int .i64 (zpad n))∧w'=w:=by
 have h:=and511 n
 have H:=hid h
 clear h
 go_enter Tryz.func214,Tryz.ntmps214
 go_wp2_with fail
 rw[H.out]
 go_ret
 exact⟨rfl,rfl⟩
theorem isHeaderOnly_any (w:World)(t:UInt8) :
  Calls Tryz.prog 176 #[.int .u8 t.toNat] w fun e w'=>e=.returned (.bool (!hasData t))∧w'=w:=by
 have hH:(!hasData t)=decide (49≤t.toNat∧t.toNat≤54):=by
  unfold hasData
  rw[Bool.eq_iff_iff]
  simp
 rw[hH]
 have h0:=t.toNat_lt
 generalize t.toNat=n at h0
 clear hH
 by_cases hc:49≤n∧n≤54
 ·have hc':n=49∨n=50∨n=51∨n=52∨n=53∨n=54:=by omega
  clear hc
  rcases hc' with rfl|rfl|rfl|rfl|rfl|rfl
  all_goals
   go_enter Tryz.func176,Tryz.ntmps176
   go_wp2_with fail
   go_ret
   exact⟨rfl,rfl⟩
 ·have h1:((n:Int)==49)=false:=by rw[beq_eq_false_iff_ne];omega
  have h2:((n:Int)==50)=false:=by rw[beq_eq_false_iff_ne];omega
  have h3:((n:Int)==51)=false:=by rw[beq_eq_false_iff_ne];omega
  have h4:((n:Int)==52)=false:=by rw[beq_eq_false_iff_ne];omega
  have h5:((n:Int)==53)=false:=by rw[beq_eq_false_iff_ne];omega
  have h6:((n:Int)==54)=false:=by rw[beq_eq_false_iff_ne];omega
  have hd:decide (49≤n∧n≤54)=false:=by simpa using hc
  rw[hd]
  clear hc hd
  go_enter Tryz.func176,Tryz.ntmps176
  go_wp2_with fail
  go_ret
  exact⟨rfl,rfl⟩
theorem mayOnlyBe_any (w:World)(b:Nat)(f g:Int)(t:TypeId)(h:w.heap[b]?=some (.cells #[.int .i64 f] t (0,0))) :
  Calls Tryz.prog 129 #[.pointer (some ⟨b,0,none⟩), .int .i64 g] w fun e w'=>e=.returned (.tuple #[])∧w'=w.setCell ⟨b,0,none⟩ (.int .i64 (bits .and .i64 f g)):=by
 have c0:=cell_of h 0 rfl
 have f0:=free_of h 0
 clear h
 go_enter Tryz.func129,Tryz.ntmps129
 go_wp2_with fail
 go_end0
 exact⟨rfl,rfl⟩
theorem info150 : ∃ i m, Tryz.prog.info? 150 = some i ∧ i.methods.find? (·.name == "tapearchives/pub/gotar.physicalRemaining") = some m ∧ m.path = #[] ∧ m.func = some (382, false) := by
 have h : (Tryz.prog.info? 150).bind (fun i => (i.methods.find? (·.name == "tapearchives/pub/gotar.physicalRemaining")).map fun m => (m.path.toList.isEmpty, m.func)) = some (true, some (382, false)) := by kernel_rfl
 obtain⟨i,h1,h2⟩:=Option.bind_eq_some_iff.1 h
 obtain⟨m,h3,h4⟩:=Option.map_eq_some_iff.1 h2
 simp only[Prod.mk.injEq] at h4
 exact⟨i,m,h1,h3,by have:=h4.1;rw[List.isEmpty_iff] at this;exact Array.toList_eq_nil_iff.1 this,h4.2⟩
theorem run_wrapNil (w:World)(t u:TypeId)(a:Addr)(s m:String):(Builtin.ssaWrapNilChk_ #[t] u #[.pointer (some a),strVal s,strVal m]).run Tryz.prog w=.ok (.pointer (some a)) w:=by
 rfl
theorem meth_phys (w:World)(b:Nat)(r:Value)(nb:Int)(h:w.heap[b]?=some (.cells #[r, .int .i64 nb] 152 (0,0))) :
  (method 560 150 (.pointer (some ⟨b, 0, none⟩)) "tapearchives/pub/gotar.physicalRemaining").run Tryz.prog w = .ok (382, .agg #[r, .int .i64 nb]) w := by
 obtain⟨i,m,h1,h2,h3,h4⟩:=info150
 have hl:=run_loadVar_row (P:=Tryz.prog) w b 152 152 #[r, .int .i64 nb] (0,0) _ h Tryz.underlying152 rfl (by kernel_rfl)
 unfold method
 simp[typeInfo,h1,h2,h3,h4,follow,receiverAt,run_underlying Tryz.underlying150,Place.get,run_wrapNil,asAddr,hl]
theorem phys_reg (w:World)(r:Value)(nb:Int) :
  Calls Tryz.prog 382 #[.agg #[r, .int .i64 nb]] w fun e w'=>e=.returned (.int .i64 nb)∧w'=w.alloc (.cells #[r, .int .i64 nb] 152):=by
 go_enter Tryz.func382,Tryz.ntmps382
 go_wp2_with fail
 go_ret
 exact⟨rfl,rfl⟩
end
section
open Go Go.RowKit
def RowB (w:World)(b:Nat)(l:List UInt8):Prop:=w.heap[b]?=some (.cells (ubs l).toArray 5 (0,0))
def BoolsAt (w:World)(b off n:Nat):Prop:=∀i,i<n→∃x:Bool,w.cell? ⟨b,off+i,none⟩=some (.bool x)
theorem madeCells_ubs (k:Nat)(z:Value)(hz:z=.int .u8 0):madeCells z.cells (k*1)=(ubs (List.replicate k 0)).toArray:=by
 subst hz
 apply Array.ext
 ·simp[size_madeCells,ubs]
 ·intro i h1 h2
  simp[madeCells,ubs,Value.cells,Nat.mod_one,ub]
theorem mk27 (w:World)(k:Nat)(hk:k≤281474976710656):(Instr.makeSlice 27 (.int .i64 k) (.int .i64 k)).run Tryz.prog w=.ok (.slice (some ⟨w.heap.size,0,none⟩) k k) (w.alloc (.cells (ubs (List.replicate k 0)).toArray 5)):=by
 obtain⟨i,hi,hz,hs,hby⟩:=info5
 have:=run_make w (P:=Tryz.prog) 27 5 i _ Tryz.underlying27 hi hz .i64 .i64 k k (by omega) (Int.le_refl _) (by rw[hby];omega) (by omega)
 rw[hs,Int.toNat_natCast,madeCells_ubs _ _ rfl] at this
 exact this
theorem set_ubs (a r:List UInt8)(x y:UInt8)(v:Value)(hv:v=ub y):(ubs (a++x::r)).toArray.setIfInBounds a.length v=(ubs (a++y::r)).toArray:=by
 subst hv
 simp[ubs]
theorem RowB.set {w:World}{b:Nat}{a r:List UInt8}{x:UInt8}(h:RowB w b (a++x::r))(y:UInt8)(v:Value)(hv:v=ub y)(i:Nat)(hi:i=a.length):RowB (w.setCell ⟨b,i,none⟩ v) b (a++y::r):=by
 subst hi
 have:=heap_set h a.length v
 rwa[set_ubs a r x y v hv] at this
theorem RowB.cell {w:World}{b:Nat}{a r:List UInt8}{x:UInt8}(h:RowB w b (a++x::r))(i:Nat)(hi:i=a.length):w.cell? ⟨b,i,none⟩=some (.int .u8 x.toNat):=by
 subst hi
 exact cell_of h a.length (by simp[ubs,ub])
theorem RowB.put {w:World}{b:Nat}{l:List UInt8}(h:RowB w b l)(i:Nat)(y:UInt8)(v:Value)(hv:v=ub y):RowB (w.setCell ⟨b,i,none⟩ v) b (l.set i y):=by
 subst hv
 have:=heap_set h i (ub y)
 unfold RowB
 rw[this]
 simp[ubs,List.map_set]
theorem RowB.at_ {w:World}{b:Nat}{l:List UInt8}(h:RowB w b l)(i:Nat)(hi:i<l.length):∃x:UInt8,w.cell? ⟨b,i,none⟩=some (.int .u8 x.toNat):=
 ⟨l[i],cell_of h i (by simp[ubs,ub,hi])⟩
theorem rep_succ (p:Nat)(r:List UInt8):List.replicate (p+1) (0:UInt8)++r=List.replicate p 0++0::r:=by
 rw[List.replicate_succ',List.append_assoc];rfl
theorem and7 (x:Nat):bits .and .i64 (x:Int) 7=((x%8:Nat):Int):=by
 have:=and_mask (x:Int) 3 (by omega)
 have e:bits .and .i64 (x:Int) 7=(x:Int)%8:=this
 rw[e];omega
theorem tails_of:∀(l:List UInt8),(l.length=1∨l.length=2)→(∀c∈l,c=0∨c=32)→∃k0 k1,l=tails k0 k1 l.length
 |[a],_,h=>by
  rcases h a (by simp) with rfl|rfl
  ·exact⟨false,false,rfl⟩
  ·exact⟨true,false,rfl⟩
 |[a,b],_,h=>by
  rcases h a (by simp) with rfl|rfl<;>rcases h b (by simp) with rfl|rfl
  ·exact⟨false,false,rfl⟩
  ·exact⟨false,true,rfl⟩
  ·exact⟨true,false,rfl⟩
  ·exact⟨true,true,rfl⟩
 |[],h,_=>by simp at h
 |a::b::c::r,h,_=>by simp at h
theorem putOctal_any (w:World)(k tail m kb ko kl kc:Nat)(hk:tail<k∧k≤23)(ht:1≤tail∧tail≤2)(hm:m<8 ^ (k-tail))(hm2:m≤9223372036854775807)(hb:BoolsAt w kb ko kl)(hkb:kb<w.heap.size)(hkl:kl≤kc)(hkc:kc≤2) :
  Calls Tryz.prog 200 #[.int .i64 k, .int .i64 tail, .int .i64 m, .slice (some ⟨kb,ko,none⟩) kl kc] w fun e w'=>
   e=.returned (.slice (some ⟨w.heap.size,0,none⟩) k k)∧Kp (fun _=>False) w w'∧∃k0 k1,RowB w' w.heap.size (octL (k-tail) m++tails k0 k1 tail):=by
 obtain⟨q,hq⟩:∃q,k=q+tail:=⟨k-tail,by omega⟩
 rw[show k-tail=q by omega] at hm ⊢
 have hqk:q+tail≤k∧k≤q+tail:=by omega
 have hmk:=fun w=>mk27 w k (by omega)
 have hrow:RowB (w.alloc (.cells (ubs (List.replicate k 0)).toArray 5)) w.heap.size (List.replicate q 0++(octL 0 m++List.replicate tail 0)):=by
  have:=heap_new w (.cells (ubs (List.replicate k 0)).toArray 5)
  unfold RowB
  rw[this,hq]
  simp[octL]
 have hkt:(k:Int)-(tail:Int)=(q:Int):=by omega
 clear hq
 have HROW:=hid hrow
 have HK0:Hid (Kp (fun _=>False) w (w.alloc (.cells (ubs (List.replicate k 0)).toArray 5))):=(Kp.refl _ _).alloc _
 have HB:=hid hb
 have HM:=hid hm
 have HX:Hid (m=m/8 ^ 0):=by show m=m/8 ^ 0;simp
 clear hrow hb hm
 go_enter Tryz.func200,Tryz.ntmps200
 go_wp2_with fail
 go_loopg [2,10] q (fun g s2 s10 wr=>∃j x:Nat,j+g=q∧s10=.int .i64 ((g:Int)-1)∧s2=.int .i64 x∧Hid (x=m/8 ^ j)∧x≤m∧Hid (RowB wr w.heap.size (List.replicate g 0++(octL j m++List.replicate tail 0)))∧Hid (Kp (fun k=>k=w.heap.size) w wr))
 case atStart=>exact⟨0,m,by omega,rfl,rfl,HX,Nat.le_refl _,HROW,HK0.out.mono (fun _ _ h=>h.elim)⟩
 case round=>
  clear HROW HK0 HX
  obtain⟨j,x,hj,rfl,rfl,hx,hxm,hrow,hkp⟩:=hrel
  cases gk with
  |succ p=>
   have e:((p+1:Nat):Int)-1=p:=by omega
   rw[e]
   have hrow':RowB wr w.heap.size (List.replicate p 0++0::(octL j m++List.replicate tail 0)):=by have:=hrow.out;rwa[rep_succ] at this
   have c1:=hrow'.cell p (by simp)
   have z1:=free_of hrow' p
   have hand:=and7 x
   have hd:=Nat.mod_lt x (show 0<8 by omega)
   have hdx:Hid (x%8=m/8 ^ j%8):=by show x%8=_;rw[show x=m/8 ^ j from hx]
   have hx8:Hid (x/8=m/8 ^ (j+1)):=by show x/8=_;rw[show x=m/8 ^ j from hx,Nat.pow_succ,Nat.div_div_eq_div_mul]
   generalize x%8=d at hand hd hdx
   have HROW:=hid hrow'
   clear hrow' hrow e
   go_wp2_with fail
   go_roundg p
   case measure=>omega
   case rel=>
    refine⟨j+1,x/8,by omega,rfl,rfl,hx8,by omega,?_,hkp.out.setCell (p:=⟨w.heap.size,p,none⟩) (.inl rfl) _⟩
    have:=HROW.out.set (UInt8.ofNat (48+d)) (.int .u8 (48+(d:Int))) (by unfold ub;rw[ofNat_digit d hd];simp) p (by simp)
    rw[show d=m/8 ^ j%8 from hdx] at this ⊢
    exact this
  |zero=>
   obtain rfl:j=q:=by omega
   have hrow2:Hid (RowB wr w.heap.size (octL j m++List.replicate tail 0)):=hrow
   clear hrow hx
   have hjk:j+tail=k:=by omega
   have HJK:=hid hjk
   clear hjk hj
   go_wp2_with fail
   go_loopg [11,32] tail (fun g s11 s32 wr=>∃(i:Nat) (l2:List UInt8),i+g=tail∧s32=.int .i64 i∧Hid (RowB wr w.heap.size (octL j m++l2)∧l2.length=tail∧(∀c∈l2,c=0∨c=32))∧Hid (Kp (fun k=>k=w.heap.size) w wr))
   case atStart=>exact⟨0,List.replicate tail 0,by omega,rfl,⟨hrow2,List.length_replicate,fun c hc=>.inl (List.eq_of_mem_replicate hc)⟩,hkp⟩
   case round=>
    clear hrow2 hkp
    obtain⟨i,l2,hi,rfl,hrow,hkp⟩:=hrel
    cases gk with
    |succ g2=>
     have same:RowB wr w.heap.size (octL j m++l2):=hrow.out.1
     have hit:i<tail:=by omega
     by_cases hik:i<kl
     ·obtain⟨b,hb⟩:=HB.out i hik
      have cb:wr.cell? ⟨kb,ko+i,none⟩=some (.bool b):=hkp.out.cell hb (by show ¬kb=_;omega)
      cases b
      ·clear same hb
       go_wp2_with fail
       go_roundg g2
       case measure=>omega
       case rel=>exact⟨i+1,l2,by omega,by simp,hrow,hkp⟩
      ·obtain⟨y,cy⟩:=same.at_ (j+i) (by rw[List.length_append,octL_len];have:=hrow.out.2.1;omega)
       have z1:=free_of same (j+i)
       have hput:Hid (RowB (wr.setCell ⟨w.heap.size,j+i,none⟩ (.int .u8 32)) w.heap.size (octL j m++l2.set i 32)):=by
        have:=same.put (j+i) 32 (.int .u8 32) rfl
        rw[List.set_append_right _ _ (by rw[octL_len];omega),octL_len,Nat.add_sub_cancel_left] at this
        exact this
       clear same hb
       go_wp2_with fail
       go_roundg g2
       case measure=>omega
       case rel=>
        refine⟨i+1,l2.set i 32,by omega,by simp,⟨hput,by rw[List.length_set];exact hrow.out.2.1,?_⟩,hkp.out.setCell (p:=⟨w.heap.size,j+i,none⟩) (.inl rfl) _⟩
        intro c hc
        rcases List.mem_or_eq_of_mem_set hc with h|h
        ·exact hrow.out.2.2 c h
        ·exact .inr h
     ·have hd:decide ((i:Int)<(kl:Int))=false:=decide_eq_false (by omega)
      clear same
      go_wp2_with fail
      go_roundg g2
      case measure=>omega
      case rel=>exact⟨i+1,l2,by omega,by simp,hrow,hkp⟩
    |zero=>
     go_wp2_with fail
     go_ret
     obtain⟨k0,k1,e⟩:=tails_of l2 (by have:=hrow.out.2.1;omega) hrow.out.2.2
     refine⟨rfl,(Kp.refl (fun _=>False) w).then hkp.out (fun i h1 h2=>by omega),k0,k1,?_⟩
     have:=hrow.out.1
     rw[e,hrow.out.2.1] at this
     exact this
end
section
open Go Go.RowKit
def HrEnd (w:World)(R:Nat)(r:Value)(blk:List Value)(err:Value)(n:Nat)(e:Ending)(w':World):Prop:=
 e=.returned .nilIface∧∃Rf,w.heap.size≤Rf∧Kp (· =R) w w'∧w'.heap[R]?=some (.cells (trRow r (zpad n) (.iface 150 (.pointer (some ⟨Rf,0,none⟩))) blk err).toArray 158 (0,0)) ∧
  w'.heap[Rf]?=some (.cells #[r, .int .i64 n] 152 (0,0))
theorem HrEnd.mk {w:World}{R:Nat}{T:TypeId}{v:Value}{pad:Int}{curr:Value}{blk:List Value}{err:Value}(n:Nat)(m:Int)(hm:m=n)
  (hr:w.heap[R]?=some (.cells (trRow (.iface T v) pad curr blk err).toArray 158 (0,0))) :
  HrEnd w R (.iface T v) blk err n (.returned .nilIface) (((w.setCell ⟨R,1,none⟩ (.int .i64 (zpad n))).setCell ⟨R,2,none⟩ (.iface 150 (.pointer (some ⟨w.heap.size,0,none⟩)))).alloc (.cells #[.iface T v, .int .i64 m] 152)):=by
 subst hm
 have h1:=heap_set hr 1 (.int .i64 (zpad n))
 rw[trRow_set_pad] at h1
 have h2:=heap_set h1 2 (.iface 150 (.pointer (some ⟨w.heap.size,0,none⟩)))
 rw[trRow_set_curr] at h2
 refine⟨rfl,w.heap.size,Nat.le_refl _,Kp.alloc (Kp.setCell (Kp.setCell (S:=(· =R)) (Kp.refl _ _) (.inl rfl) _) (.inl rfl) _) _,heap_alloc h2 _,?_⟩
 have h3:=heap_new ((w.setCell ⟨R,1,none⟩ (.int .i64 (zpad n))).setCell ⟨R,2,none⟩ (.iface 150 (.pointer (some ⟨w.heap.size,0,none⟩)))) (.cells #[.iface T v, .int .i64 n] 152)
 rw[show ((w.setCell ⟨R,1,none⟩ (.int .i64 (zpad n))).setCell ⟨R,2,none⟩ (.iface 150 (.pointer (some ⟨w.heap.size,0,none⟩)))).heap.size=w.heap.size by simp[World.setCell]] at h3
 exact h3
theorem handleReg_any (w:World)(R nh:Nat)(T:TypeId)(v:Value)(pad:Int)(curr:Value)(blk:List Value)(err:Value)(row:List Value)(tf:UInt8)(size:Int)
  (hr:w.heap[R]?=some (.cells (trRow (.iface T v) pad curr blk err).toArray 158 (0,0))) (hh:w.heap[nh]?=some (.cells row.toArray 167 (0,0)))
  (h0:row[0]?=some (.int .u8 tf.toNat)) (h3:row[3]?=some (.int .i64 size)) (hs:0≤size∧size≤4611686018427387904∨hasData tf=false) :
  Calls Tryz.prog 128 #[.pointer (some ⟨R,0,none⟩), .pointer (some ⟨nh,0,none⟩)] w (HrEnd w R (.iface T v) blk err (if hasData tf then size.toNat else 0)):=by
 have c0:w.cell? ⟨R,0,none⟩=some (.iface T v):=cell_of hr 0 rfl
 have c1:w.cell? ⟨R,1,none⟩=some (.int .i64 pad):=cell_of hr 1 rfl
 have c2:w.cell? ⟨R,2,none⟩=some curr:=cell_of hr 2 rfl
 have z1:=free_of hr 1
 have z2:=free_of hr 2
 have t0:w.cell? ⟨nh,0,none⟩=some (.int .u8 tf.toNat):=cell_of hh 0 (by simpa using h0)
 have t3:w.cell? ⟨nh,3,none⟩=some (.int .i64 size):=cell_of hh 3 (by simpa using h3)
 have hlt:=lt_of hr
 have HR:=hid hr
 clear hr hh h0 h3
 cases hd:hasData tf
 ·have HE:=HrEnd.mk 0 0 rfl HR.out
  have HE':=hid HE
  have HD:=hid hd
  clear HE hd hs
  simp only[Bool.false_eq_true,if_false]
  go_enter Tryz.func128,Tryz.ntmps128
  go_wp2_with fail
  refine(isHeaderOnly_any _ tf).mono ?_
  rintro e w1 ⟨rfl,rfl⟩
  rw[HD.out]
  go_wp2_with fail
  refine(blockPadding_any _ 0 (by omega)).mono ?_
  rintro e w1 ⟨rfl,rfl⟩
  go_wp2_with fail
  go_ret
  exact HE'.out
 ·have hs':0≤size∧size≤4611686018427387904:=by rcases hs with h|h;exact h;rw[hd] at h;cases h
  obtain⟨n,rfl⟩:∃n:Nat,size=(n:Int):=⟨size.toNat,by omega⟩
  have hn:n≤4611686018427387904:=by omega
  have HE:=HrEnd.mk n n rfl HR.out
  have HE':=hid HE
  have HD:=hid hd
  clear HE hd hs hs'
  simp only[if_true,Int.toNat_natCast]
  go_enter Tryz.func128,Tryz.ntmps128
  go_wp2_with fail
  refine(isHeaderOnly_any _ tf).mono ?_
  rintro e w1 ⟨rfl,rfl⟩
  rw[HD.out]
  go_wp2_with fail
  refine(blockPadding_any _ n hn).mono ?_
  rintro e w1 ⟨rfl,rfl⟩
  go_wp2_with fail
  go_ret
  exact HE'.out
end
section
open Go Go.RowKit
inductive RhFail:List UInt8→Nat→Prop
 |none:RhFail [] 0
 |short (l:List UInt8) (h0:0<l.length) (h1:l.length<512):RhFail l 5
 |zshort (k:Nat) (h0:512≤k) (h1:k<1024):RhFail (List.replicate k 0) (if k=512 then 0 else 5)
 |zz (rest:List UInt8):RhFail (List.replicate 1024 0++rest) 0
 |bad (l rest:List UInt8) (n:Nat) (hl:l.length=512) (ho:Nonempty (OctAt (fld l 148 8) n)) (hb:¬((n:Int)=usumTo l 512∨(n:Int)=ssumTo l 512)) (hz:¬l=zblk):RhFail (l++rest) 1
inductive HC:Option (List Rec)→List UInt8→List UInt8→Hd→List UInt8→Out→Prop
 |file {pax ln ll} (rest:List UInt8) (h0 h1 h2:Hd)
   (ht:h0.typ.toNat≠0∧h0.typ≠120∧h0.typ≠103∧h0.typ≠76∧h0.typ≠75∧h0.typ≠83) (hs:0≤h0.size∧h0.size≤4611686018427387904∨hasData h0.typ=false)
   (hm:match pax with|none=>h1=h0|some rs=>Merged h0 h1 (findL rs)) (hn:h2={h1 with name:=over ln h1.name,link:=over ll h1.link}) (hs2:0≤h2.size∧h2.size≤4611686018427387904∨hasData h2.typ=false) :
   HC pax ln ll h0 rest (.file h2 pax rest)
 |glob {pax ln ll} (t rest:List UInt8) (h0:Hd) (rs:List Rec) (ht:h0.typ=103) (hs:h0.size=t.length) (hr:RecsT rs t) (hk:∀r∈rs,OwnOk r) (htl:t.length≤1048576) :
   HC pax ln ll h0 (t++rest) (.glob h0.name rs (zpad t.length) rest)
 |pax {pax ln ll out} (t rest:List UInt8) (h0:Hd) (rs:List Rec) (ht:h0.typ=120) (hs:h0.size=t.length) (hr:RecsT rs t) (htl:t.length≤1048576)
   (hk:∀r∈rs,(61:UInt8)∉r.1∧r.1≠[]∧NoNul r.1∧(r.1=kPath∨r.1=kLink∨r.1=kUname∨r.1=kGname→NoNul r.2)∧¬kSparse <+: r.1∧r.2≠[])
   (h:HeadP 0 (zpad t.length) (some rs) ln ll rest out):HC pax ln ll h0 (t++rest) out
 |name {pax ln ll out} (s rest:List UInt8) (h0:Hd) (ht:h0.typ=76) (hs:h0.size=s.length+1) (hz:NoNul s) (htl:s.length<1048576)
   (h:HeadP 0 (zpad (s.length+1)) pax s ll rest out):HC pax ln ll h0 (s++0::rest) out
 |link {pax ln ll out} (s rest:List UInt8) (h0:Hd) (ht:h0.typ=75) (hs:h0.size=s.length+1) (hz:NoNul s) (htl:s.length<1048576)
   (h:HeadP 0 (zpad (s.length+1)) pax ln s rest out):HC pax ln ll h0 (s++0::rest) out
 |cut {pax ln ll} (t:List UInt8) (h0:Hd) (ht:h0.typ=120∨h0.typ=103∨h0.typ=76∨h0.typ=75) (hs:(t.length:Int)<h0.size) (htl:t.length≤1048576) (hsm:h0.size≤4611686018427387904):HC pax ln ll h0 t (.fail 5)
inductive HB:Option (List Rec)→List UInt8→List UInt8→List UInt8→Out→Prop
 |err {pax ln ll} (rest:List UInt8) (g:Nat) (h:RhFail rest g):HB pax ln ll rest (.fail g)
 |hdr {pax ln ll out} (l rest:List UInt8) (h0:Hd) (fm:Int) (hl:l.length=512) (hb:BlkRd h0 fm l) (h:HC pax ln ll h0 rest out):HB pax ln ll (l++rest) out
theorem HeadP.split {nb pad:Nat}{pax:Option (List Rec)}{ln ll src:List UInt8}{out:Out}(h:HeadP nb pad pax ln ll src out) :
  (src.length<nb∧out=.fail 5)∨(∃d p,src=d++p∧d.length=nb∧p.length<pad∧out=.fail 0)∨∃d p rest,src=d++(p++rest)∧d.length=nb∧p.length=pad∧HB pax ln ll rest out:=by
 cases h with
 |file d p l rest h0 h1 h2 fm hd hp hl hb ht hs hm hn hs2=>exact .inr (.inr ⟨d,p,_,by simp,hd,hp, .hdr l rest h0 fm hl hb (.file rest h0 h1 h2 ht hs hm hn hs2)⟩)
 |glob d p l t rest h0 fm rs hd hp hl hb ht hs hr hk htl=>exact .inr (.inr ⟨d,p,_,by simp,hd,hp, .hdr l _ h0 fm hl hb (.glob t rest h0 rs ht hs hr hk htl)⟩)
 |pax d p l t rest h0 fm rs hd hp hl hb ht hs hr htl hk h=>exact .inr (.inr ⟨d,p,_,by simp,hd,hp, .hdr l _ h0 fm hl hb (.pax t rest h0 rs ht hs hr htl hk h)⟩)
 |name d p l s rest h0 fm hd hp hl hb ht hs hz htl h=>exact .inr (.inr ⟨d,p,_,by simp,hd,hp, .hdr l _ h0 fm hl hb (.name s rest h0 ht hs hz htl h)⟩)
 |link d p l s rest h0 fm hd hp hl hb ht hs hz htl h=>exact .inr (.inr ⟨d,p,_,by simp,hd,hp, .hdr l _ h0 fm hl hb (.link s rest h0 ht hs hz htl h)⟩)
 |end_ d p rest hd hp=>exact .inr (.inr ⟨d,p,_,by rw[List.append_assoc],hd,hp, .err _ 0 (.zz rest)⟩)
 |bad d p l rest n hd hp hl ho hb hz=>exact .inr (.inr ⟨d,p,_,by simp,hd,hp, .err _ 1 (.bad l rest n hl ho hb hz)⟩)
 |cutData src h=>exact .inl ⟨h,rfl⟩
 |cutPad d p hd hp=>exact .inr (.inl ⟨d,p,rfl,hd,hp,rfl⟩)
 |cutNone d p hd hp=>exact .inr (.inr ⟨d,p,[],by simp,hd,hp, .err _ 0 .none⟩)
 |cutBlk d p l hd hp h0 h1=>exact .inr (.inr ⟨d,p,l,by simp,hd,hp, .err _ 5 (.short l h0 h1)⟩)
 |cutEnd d p k hd hp h0 h1=>exact .inr (.inr ⟨d,p,_,by simp,hd,hp, .err _ _ (.zshort k h0 h1)⟩)
 |cutMeta d p l t h0 fm hd hp hl hb ht hs htl hsm=>exact .inr (.inr ⟨d,p,_,by simp,hd,hp, .hdr l t h0 fm hl hb (.cut t h0 ht hs htl hsm)⟩)
theorem HdBlk.not_zero {l:List UInt8}{n:Nat}{tf:UInt8}{a b c d e f g:Int}(h:HdBlk l n tf a b c d e f g):(l==zblk)=false:=by
 rw[beq_eq_false_iff_ne]
 rintro rfl
 obtain⟨o⟩:=h.sum
 have hs:=o.some
 cases hd:o.ds with
 |nil=>rw[hd] at hs;simp at hs
 |cons x r=>
  have h1:=o.digit x (by rw[hd];simp)
  have h2:=o.eq
  rw[hd] at h2
  have:x∈fld zblk 148 8:=by rw[h2];simp
  have hz:∀y∈fld zblk 148 8,y=0:=by decide
  rw[hz x this] at h1
  simp at h1
end
end Go.Proofs.YtgfcnjfmmjcodaaGreatDoor
