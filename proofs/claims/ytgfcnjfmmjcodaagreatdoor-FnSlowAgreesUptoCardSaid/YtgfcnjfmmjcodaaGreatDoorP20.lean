/- PutTime of the specification. -/
import Derived.Deep.CutBlock
import Derived.Test.YtgfcnjfmmjcodaaGreatDoorP11
import Derived.Test.YtgfcnjfmmjcodaaGreatDoorP17
set_option linter.all false
set_option maxRecDepth 100000
set_option maxHeartbeats 1000000
open Go.Lib (hid)
namespace Go.Proofs.YtgfcnjfmmjcodaaGreatDoor
open Go Go.RowKit
set_option maxHeartbeats 1600000 in
theorem Ic (w:World)(s n:Int)(z:Nat)(hs: -100000000000000000≤s∧s≤100000000000000000)(hn:0≤n∧n<1000000000)(hz:z≤1) :
  Calls Tryz.prog 121 #[.agg #[.int .i64 s, .int .i64 n], .int .i64 z] w fun e w'=>e=.returned (.string ⟨(Bg s n z).toArray⟩)∧Kp (fun _=>False) w w':=by
 have HN:=fun W n (h:n<9223372036854775808)=>hid (E5 W n h);have hk0:∀o,Hid (Kp (fun _=>False) w (w.alloc o)):=fun o=>(Kp.refl _ _).alloc _;go_enter Tryz.func121,Tryz.ntmps121
 go_wp2_with fail
 go_quiet (fail)
 have HK:Hid (Kp (fun _=>False) w ((w.alloc (.cells #[.int .i64 s, .int .i64 n] 42)).drewN nq)):=(hk0 _).out.drewN _;clear hk0;generalize (w.alloc (.cells #[.int .i64 s, .int .i64 n] 42)).drewN nq=w1 at HK ⊢;go_upto_if 15 with fail
 go_cut [5,6,7] from 5 to 23 (fun s5 s6 s7 wx=>∃(sg:List UInt8) (sec ns:Nat),s5=.string ⟨sg.toArray⟩∧s6=.int .i64 sec∧s7=.int .i64 ns∧sg.length≤1∧sec≤100000000000000000∧ns<1000000000∧Hid (Bg s n z=ttx sg sec ns z)∧wx=w1)
 case first=>
  by_cases h0:s<0
  ·have hd0:decide (s<0)=true:=decide_eq_true h0;by_cases h1:0<n
   ·have hd1:decide (0<n)=true:=decide_eq_true h1;have ht:=J8 s n z h0 h1;(have hneg:((-s-1).toNat:Int)= -s-1:=Int.toNat_of_nonneg (by omega));(have hns:((1000000000-n).toNat:Int)=1000000000-n:=Int.toNat_of_nonneg (by omega));have HT:=hid ht;clear ht;(go_wp2_with fail);go_meet
    case rel=>exact⟨[45],(-s-1).toNat,(1000000000-n).toNat,rfl,by rw[hneg],by rw[hns],by simp,by omega,by omega,HT,rfl⟩
   ·have hd1:decide (0<n)=false:=decide_eq_false h1;have ht:=I5 s n z h0 h1;(have hneg:((-s).toNat:Int)= -s:=Int.toNat_of_nonneg (by omega));(have hns:(n.toNat:Int)=n:=Int.toNat_of_nonneg (by omega));have HT:=hid ht;clear ht;(go_wp2_with fail);go_meet
    case rel=>exact⟨[45],(-s).toNat,n.toNat,rfl,by rw[hneg],by rw[hns],by simp,by omega,by omega,HT,rfl⟩
  ·have hd0:decide (s<0)=false:=decide_eq_false h0;have ht:=J7 s n z h0;(have hss:(s.toNat:Int)=s:=Int.toNat_of_nonneg (by omega));(have hns:(n.toNat:Int)=n:=Int.toNat_of_nonneg (by omega));have HT:=hid ht;clear ht;(go_wp2_with fail);go_meet
   case rel=>exact⟨[],s.toNat,n.toNat,rfl,by rw[hss],by rw[hns],by simp,by omega,by omega,HT,rfl⟩
 case rest=>
  obtain⟨sg,sec,ns,rfl,rfl,rfl,hsg,hsec,hns,HT,rfl⟩:=hcut;have h9:=Jy ns hns;have hdec1:=Y3 (1000000000+ns) 9 (by omega) (by omega)
  have hNN:=fun W=>HN W sec (by omega)
  have hN9:=fun W=>HN W (1000000000+ns) (by omega)
  obtain⟨ds,hds⟩:∃ds,Lib.decDigits sec=ds:=⟨_,rfl⟩;have hdsl:ds.length≤19:=by rw[←hds];exact Cr _ 19 (by omega) (by omega)
  rw[hds] at hNN;have HDS:=hid hds;obtain⟨d10,hd10⟩:∃d10,Lib.decDigits (1000000000+ns)=d10:=⟨_,rfl⟩;rw[hd10] at hN9 hdec1;have ecat:(⟨sg.toArray⟩:ByteArray)++⟨ds.toArray⟩=⟨(sg++ds).toArray⟩:=E4 _ _;obtain⟨q1,hq1⟩:∃q1,sg++ds=q1:=⟨_,rfl⟩;have hq1l:q1.length≤20:=by rw[←hq1,List.length_append];omega
  rw[hq1] at ecat;have HQ1:=hid hq1;clear hq1;have edrop:(⟨d10.toArray⟩:ByteArray).extract 1 10=⟨(Ee ns).toArray⟩:=by
   rw[Ee,hd10];apply ByteArray.ext;simp[ByteArray.data_extract,List.extract_toArray,List.extract];rw[List.take_of_length_le (by rw[List.length_tail];omega)]
  clear HN hds hd10;go_wp2_with fail
  refine(hNN _).out.mono ?_;rintro e w2 ⟨rfl,hk2⟩;go_wp2_with fail
  refine(hN9 _).out.mono ?_;rintro e w3 ⟨rfl,hk3⟩;have HK3:=hid ((HK.out.trans hk2).trans hk3);clear hk2 hk3 HK hNN hN9;go_upto_block 0 with fail
  obtain⟨p9,hp9⟩:∃p9,Ee ns=p9:=⟨_,rfl⟩;rw[hp9] at h9 ⊢;have LP:Hid (C2 p9=C2 (Ee ns)):=by show _=_;rw[hp9]
  clear edrop ecat hp9;go_cut [9] from 9 to 47 (fun s9 wx=>∃l:List UInt8,s9=.string ⟨l.toArray⟩∧l.length≤9∧Hid (l=C2 (Ee ns))∧wx=w3)
  case first=>
   (go_wp2_with fail);go_loopg [9] 9 (fun g s9 wr=>∃l:List UInt8,l.length=g∧l.length≤9∧s9=.string ⟨l.toArray⟩∧Hid (C2 l=C2 (Ee ns))∧wr=w3)
   case atStart=>exact⟨p9,h9,by omega,rfl,LP,rfl⟩
   case round=>
    obtain⟨l,rfl,hl9,rfl,htr,rfl⟩:=hrel;rcases List.eq_nil_or_concat l with rfl|⟨l',c,rfl⟩
    ·(go_wp2_with fail);go_meet
     case rel=>exact⟨[],rfl,by simp,htr,rfl⟩
    ·rw[List.concat_eq_append] at hl9 htr ⊢;obtain⟨q,hq⟩:∃q,l'++[c]=q:=⟨_,rfl⟩;rw[hq] at hl9 htr ⊢;(have hql:q.length=l'.length+1:=by rw[←hq];simp);(have hqp:l'.length<(⟨q.toArray⟩:ByteArray).size:=by show l'.length<q.length;omega);have hqc:((⟨q.toArray⟩:ByteArray)[l'.length]'hqp)=c:=by
      show q[l'.length]=c;simp[←hq]
     (have hsub:(q.length:Int)-1=((l'.length:Nat):Int):=by omega);have HQL:=hid hql;clear hql;by_cases hc:c=48
     ·(have hb:((((⟨q.toArray⟩:ByteArray)[l'.length]'hqp).toNat:Int)==48)=true:=by rw[hqc,hc];rfl);have NX:Hid (C2 l'=C2 (Ee ns)):=by
       show _=_;rw[←htr.out,←hq,hc];simp[C2]
      have ecut:(⟨q.toArray⟩:ByteArray).extract 0 l'.length=⟨l'.toArray⟩:=by
       rw[←hq];apply ByteArray.ext;simp[ByteArray.data_extract,List.extract_toArray,List.extract]
      clear hqc htr hq;(go_wp2_with fail);go_roundg l'.length
      case measure=>have:(l'.concat c).length=l'.length+1:=by simp
                    omega
      case rel=>exact⟨l',rfl,by have:=HQL.out;omega,rfl,NX,rfl⟩
     ·have hb:((((⟨q.toArray⟩:ByteArray)[l'.length]'hqp).toNat:Int)==48)=false:=by
       rw[hqc,beq_eq_false_iff_ne];intro e;exact hc (UInt8.toNat_inj.1 (by show c.toNat=48;omega))
      have NX:Hid (q=C2 (Ee ns)):=by
       show _=_;rw[←htr.out,←hq];simp[C2,hc]
      clear hqc htr hq;(go_wp2_with fail);go_meet
      case rel=>exact⟨q,rfl,hl9,NX,rfl⟩
  case rest=>
   obtain⟨l,rfl,hl9,hlt,rfl⟩:=hcut;clear LP;(go_upto_block 2 with fail);go_cut [9] from 9 to 53 (fun s9 wx=>∃l2:List UInt8,s9=.string ⟨l2.toArray⟩∧l2.length≤10∧Hid (l2=C2 (Ee ns)++List.replicate z 48)∧wx=wc)
   case first=>
    (go_wp2_with fail);go_loopg [9,49] z (fun g s9 s49 wr=>∃(i:Nat) (l2:List UInt8),i+g=z∧s49=.int .i64 i∧s9=.string ⟨l2.toArray⟩∧l2.length≤9+i∧Hid (l2=l++List.replicate i 48)∧wr=wc)
    case atStart=>exact⟨0,l,by omega,rfl,rfl,by omega,(List.append_nil l).symm,rfl⟩
    case round=>
     obtain⟨i,l2,hi,rfl,rfl,hl2,hr2,rfl⟩:=hrel;by_cases hlt2:i<z
     ·(have ecat:(⟨l2.toArray⟩:ByteArray)++⟨#[48]⟩=⟨(l2++[48]).toArray⟩:=by apply ByteArray.ext;simp);have NX:Hid (l2++[48]=l++List.replicate (i+1) 48):=by
       show _=_;rw[hr2.out,List.append_assoc,List.replicate_succ']
      clear hr2;(go_wp2_with fail);go_roundg (gk-1)
      case measure=>omega
      case rel=>exact⟨i+1,l2++[48],by omega,by simp,rfl,by rw[List.length_append];simp;omega,NX,rfl⟩
     ·(obtain rfl:i=z:=by omega);(have NX:Hid (l2=C2 (Ee ns)++List.replicate i 48):=by show _=_;rw[hr2.out,hlt.out]);clear hr2;(go_wp2_with fail);go_meet
      case rel=>exact⟨l2,rfl,by omega,NX,rfl⟩
   case rest=>
    obtain⟨l2,rfl,hl2,hr2,rfl⟩:=hcut;have FIN:∀t,Hid (t=q1++(if l2=[] then [] else 46::l2)→Ending.returned (.string ⟨t.toArray⟩)=.returned (.string ⟨(Bg s n z).toArray⟩)):=fun t ht=>by
     rw[ht,HT.out,ttx,HDS.out,HQ1.out,←hr2.out]
    clear hlt HT HDS HQ1;cases l2 with
    |nil=>
     (have F2:=hid ((FIN q1).out (by simp)));clear FIN hr2;(go_wp2_with fail);(go_ret);exact⟨F2.out,HK3.out⟩
    |cons x xs=>
     have hx:(x::xs).length=xs.length+1:=rfl;(have ec1:(⟨#[46]⟩:ByteArray)++⟨(x::xs).toArray⟩=⟨(46::x::xs).toArray⟩:=by apply ByteArray.ext;simp);have ec2:(⟨q1.toArray⟩:ByteArray)++⟨(46::x::xs).toArray⟩=⟨(q1++(46::x::xs)).toArray⟩:=E4 _ _;(have F2:=hid ((FIN (q1++(46::x::xs))).out (by simp)));clear FIN hr2;(go_wp2_with fail);(go_ret);exact⟨F2.out,HK3.out⟩
end Go.Proofs.YtgfcnjfmmjcodaaGreatDoor
