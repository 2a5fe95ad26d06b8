/- Numbers as they stand in the fields of a block and in the te. -/
import Derived.Lib.ItoaNum
import Derived.Lib.ParseIntB
import Derived.Test.YtgfcnjfmmjcodaaGreatDoorP04
set_option linter.all false
set_option maxRecDepth 100000
set_option maxHeartbeats 1000000
open Go.Lib (hid)
namespace Go.Proofs.YtgfcnjfmmjcodaaGreatDoor
section
open Go.RowKit
def Db:Nat→Nat→List UInt8
 |0,_=>[]
 |k+1,n=>UInt8.ofNat (48+n/8 ^ k%8)::Db k n
theorem Dc (k n:Nat):(Db k n).length=k:=by induction k with
 |zero=>rfl
 |succ k ih=>simp[Db,ih]
theorem Ht (d:Nat)(h:d<8):(UInt8.ofNat (48+d)).toNat=48+d:=by
 simp;omega
theorem Mr (k n:Nat):∀c∈Db k n,48≤c.toNat∧c.toNat≤55:=by
 induction k with
 |zero=>intro c hc;cases hc
 |succ k ih=>
  intro c hc;rcases List.mem_cons.1 hc with rfl|hc
  ·(have:=Nat.mod_lt (n/8 ^ k) (show 0<8 by omega));rw[Ht _ this];omega
  ·exact ih c hc
theorem Rs (l:List UInt8):∀a:Nat,l.foldl (fun n c=>n*8+(c.toNat-48)) a=a*8 ^ l.length+l.foldl (fun n c=>n*8+(c.toNat-48)) 0:=by
 induction l with
 |nil=>intro a;simp
 |cons c l ih=>
  intro a;simp only[List.foldl_cons,List.length_cons];rw[ih,ih (0*8+(c.toNat-48)),Nat.pow_succ,Nat.add_mul,Nat.add_mul,Nat.zero_mul,Nat.zero_add,Nat.add_assoc,Nat.mul_assoc,Nat.mul_comm 8]
theorem U4 (k n:Nat):Cj (Db k n)=n%8 ^ k:=by
 induction k with
 |zero=>simp[Db,Cj,Nat.mod_one]
 |succ k ih=>
  unfold Cj at ih ⊢;rw[Db,List.foldl_cons,Rs,ih,Dc,Ht _ (Nat.mod_lt _ (by omega)),Nat.zero_mul,Nat.zero_add,Nat.add_sub_cancel_left,Nat.pow_succ,Nat.mod_mul,Nat.add_comm,Nat.mul_comm]
theorem Bbi (k n:Nat)(h:n<8 ^ k):Cj (Db k n)=n:=by rw[U4,Nat.mod_eq_of_lt h]
def tails (k0 k1:Bool)(tail:Nat):List UInt8:=[if k0 then 32 else 0,if k1 then 32 else 0].take tail
theorem Bbj (k0 k1:Bool)(tail:Nat):∀c∈tails k0 k1 tail,Gh c.toNat=true:=by
 intro c hc;have:=List.mem_of_mem_take hc;simp only[List.mem_cons,List.not_mem_nil,or_false] at this;rcases this with rfl|rfl
 ·cases k0<;>rfl
 ·cases k1<;>rfl
def G6:Nat→Int→List UInt8
 |0,_=>[]
 |k+1,n=>UInt8.ofNat (n/256 ^ k%256).toNat::G6 k n
theorem Hu (k:Nat)(n:Int):(G6 k n).length=k:=by induction k with
 |zero=>rfl
 |succ k ih=>simp[G6,ih]
theorem U5 (neg:Bool)(l:List UInt8):∀a:Nat,l.foldl (fun x c=>x*256+(if neg then 255-c.toNat else c.toNat)) a=a*256 ^ l.length+mag neg l:=by
 induction l with
 |nil=>intro a;simp[mag]
 |cons c l ih=>
  intro a;unfold mag at ih ⊢;simp only[List.foldl_cons,List.length_cons];rw[ih,ih (0*256+_),Nat.pow_succ,Nat.add_mul,Nat.add_mul,Nat.zero_mul,Nat.zero_add,Nat.add_assoc,Nat.mul_assoc,Nat.mul_comm 256]
theorem byte_toNat (x:Int)(h0:0≤x)(h1:x<256):(UInt8.ofNat x.toNat).toNat=x.toNat:=by
 simp;omega
theorem Rt (k:Nat)(n:Nat):mag false (G6 k (n:Int))=n%256 ^ k:=by
 induction k with
 |zero=>show (0:Nat)=n%256 ^ 0;rw[Nat.pow_zero,Nat.mod_one]
 |succ k ih=>
  have h0:=Int.emod_nonneg ((n:Int)/256 ^ k) (show (256:Int)≠0 by omega)
  have h1:=Int.emod_lt_of_pos ((n:Int)/256 ^ k) (show (0:Int)<256 by omega)
  have e:((n:Int)/256 ^ k%256).toNat=n/256 ^ k%256:=by
   (have:((n:Int)/256 ^ k%256)=((n/256 ^ k%256:Nat):Int):=by rw[Int.natCast_emod,Int.natCast_ediv,Int.natCast_pow];rfl);rw[this,Int.toNat_natCast]
  rw[G6,mag,List.foldl_cons,U5,ih,Hu];simp only[Bool.false_eq_true,if_false];rw[byte_toNat _ h0 h1,e,Nat.zero_mul,Nat.zero_add,Nat.pow_succ,Nat.mod_mul,Nat.add_comm,Nat.mul_comm]
theorem Ru (k:Nat)(n:Nat):mag true (G6 k (-(n:Int)-1))=n%256 ^ k:=by
 induction k with
 |zero=>show (0:Nat)=n%256 ^ 0;rw[Nat.pow_zero,Nat.mod_one]
 |succ k ih=>
  have h0:=Int.emod_nonneg ((-(n:Int)-1)/256 ^ k) (show (256:Int)≠0 by omega)
  have h1:=Int.emod_lt_of_pos ((-(n:Int)-1)/256 ^ k) (show (0:Int)<256 by omega)
  have hp:(0:Int)<256 ^ k:=Int.pow_pos (by omega)
  have e1:(-(n:Int)-1)/256 ^ k= -((n:Int)/256 ^ k)-1:=by
   have h:=Int.mul_ediv_add_emod (n:Int) (256 ^ k);(have hm0:=Int.emod_nonneg (n:Int) (show (256:Int) ^ k≠0 by omega));have hm1:=Int.emod_lt_of_pos (n:Int) hp;have:(-(n:Int)-1)=(256 ^ k-1-(n:Int)%256 ^ k)+256 ^ k*(-((n:Int)/256 ^ k)-1):=by
    rw[Int.mul_sub,Int.mul_neg,Int.mul_one];omega
   rw[this,Int.add_mul_ediv_left _ _ (by omega),Int.ediv_eq_zero_of_lt (by omega) (by omega),Int.zero_add]
  have e2:(n:Int)/256 ^ k=((n/256 ^ k:Nat):Int):=by rw[Int.natCast_ediv,Int.natCast_pow];rfl
  have e:255-((-(n:Int)-1)/256 ^ k%256).toNat=n/256 ^ k%256:=by
   rw[e1,e2];generalize n/256 ^ k=q;omega
  rw[G6,mag,List.foldl_cons,U5,ih,Hu];simp only[if_true];rw[byte_toNat _ h0 h1,e,Nat.zero_mul,Nat.zero_add,Nat.pow_succ,Nat.mod_mul,Nat.add_comm,Nat.mul_comm]
def Hn (k:Nat)(n:Int):List UInt8:=(if n<0 then 255 else 128)::G6 k n
theorem Bdp (k:Nat)(n:Int)(h0: -(256:Int) ^ k≤n)(h1:n<(256:Int) ^ k)(hm: -9223372036854775808≤n)(hM:n<9223372036854775808):Dp (Hn k n) n:=by
 have hc:((256 ^ k:Nat):Int)=(256:Int) ^ k:=by rw[Int.natCast_pow];rfl
 by_cases hn:n<0
 ·obtain⟨m,rfl⟩:∃m:Nat,n= -(m:Int)-1:=⟨(-n-1).toNat,by omega⟩
  have e:mag true (G6 k (-(m:Int)-1))=m:=by rw[Ru,Nat.mod_eq_of_lt (by omega)]
  exact .inr ⟨⟨true,G6 k (-(m:Int)-1),by rw[Hn,if_pos hn];rfl,by rw[e];omega,by rw[e];rfl⟩⟩
 ·obtain⟨m,rfl⟩:∃m:Nat,n=(m:Int):=⟨n.toNat,by omega⟩
  have e:mag false (G6 k (m:Int))=m:=by rw[Rt,Nat.mod_eq_of_lt (by omega)]
  exact .inr ⟨⟨false,G6 k m,by rw[Hn,if_neg hn];rfl,by rw[e];omega,by rw[e];rfl⟩⟩
theorem Y2 (k n:Nat)(k0 k1:Bool)(tail:Nat)(hk:1≤k)(h:n<8 ^ k)(hM:n<9223372036854775808):Nonempty (OctAt (Db k n++tails k0 k1 tail) n):=
 ⟨⟨Db k n,tails k0 k1 tail,rfl,Mr k n,Bbj k0 k1 tail,by rw[Dc];exact hk,Bbi k n h,hM⟩⟩
end
section
open Go.RowKit
def Dr (c:UInt8):Bool:=48≤c.toNat&&c.toNat≤57
def Ed (l:List UInt8):Nat:=l.foldl (fun n c=>n*10+(c.toNat-48)) 0
theorem Bdq (l:List UInt8):∀a:Nat,l.foldl (fun n c=>n*10+(c.toNat-48)) a=a*10 ^ l.length+Ed l:=by
 induction l with
 |nil=>intro a;simp[Ed]
 |cons c l ih=>
  intro a;unfold Ed at ih ⊢;simp only[List.foldl_cons,List.length_cons];rw[ih,ih (0*10+(c.toNat-48)),Nat.pow_succ,Nat.add_mul,Nat.add_mul,Nat.zero_mul,Nat.zero_add,Nat.add_assoc,Nat.mul_assoc,Nat.mul_comm 10]
theorem Ku (c:UInt8)(l:List UInt8):Ed (c::l)=(c.toNat-48)*10 ^ l.length+Ed l:=by
 rw[Ed,List.foldl_cons,Bdq,Nat.zero_mul,Nat.zero_add]
theorem Zu (l:List UInt8)(c:UInt8):Ed (l++[c])=Ed l*10+(c.toNat-48):=by simp[Ed]
theorem Gl (d:Nat)(h:d<10):(UInt8.ofNat (48+d)).toNat=48+d:=by
 simp;omega
theorem Em:∀n:Nat,∀c∈Lib.decDigits n,Dr c=true:=by
 intro n;induction n using Nat.strongRecOn with
 |ind n ih=>
  intro c hc;rw[Lib.decDigits] at hc;split at hc
  ·(rcases List.mem_singleton.1 hc with rfl);rw[Dr,Gl _ (by omega)];simp;omega
  ·rcases List.mem_append.1 hc with hc|hc
   ·exact ih (n/10) (by omega) c hc
   ·(rcases List.mem_singleton.1 hc with rfl);rw[Dr,Gl _ (by omega)];simp;omega
theorem Ms:∀n:Nat,Lib.decDigits n≠[]:=by
 intro n;rw[Lib.decDigits];split<;>simp
theorem L3 (n:Nat):1≤(Lib.decDigits n).length:=by
 have:=Ms n;cases h:Lib.decDigits n with
 |nil=>exact absurd h this
 |cons a l=>simp
theorem E2:∀n:Nat,Ed (Lib.decDigits n)=n:=by
 intro n;induction n using Nat.strongRecOn with
 |ind n ih=>
  rw[Lib.decDigits];split
  ·rw[Ed,List.foldl_cons,List.foldl_nil,Gl _ (by omega)];omega
  ·rw[Zu,ih (n/10) (by omega),Gl _ (by omega)];omega
theorem Mt (M:Nat)(hM:M<18446744073709551616):∀(l:List UInt8) (a:Nat),(∀c∈l,Dr c=true)→a*10 ^ l.length+Ed l≤M→Lib.parseUintM M a l=.ok (a*10 ^ l.length+Ed l):=by
 intro l;induction l with
 |nil=>intro a _ _;simp[Lib.parseUintM,Ed]
 |cons c l ih=>
  intro a hd h;have hc:=hd c (List.mem_cons_self ..);simp only[Dr,Bool.and_eq_true,decide_eq_true_eq] at hc;rw[Ku] at h ⊢;rw[List.length_cons,Nat.pow_succ] at h ⊢;have hp:1≤10 ^ l.length:=Nat.one_le_pow _ _ (by omega)
  have e:a*(10 ^ l.length*10)+((c.toNat-48)*10 ^ l.length+Ed l)=(a*10+(c.toNat-48))*10 ^ l.length+Ed l:=by
   rw[Nat.add_mul,Nat.mul_assoc,Nat.mul_comm 10];omega
  rw[e] at h ⊢;have h1:a*10+(c.toNat-48)≤M:=Nat.le_trans (Nat.le_trans (Nat.le_mul_of_pos_right _ hp) (Nat.le_add_right _ _)) h;rw[Lib.parseUintM,if_pos hc,if_neg (by omega),if_neg (by omega)]
  exact ih _ (fun x hx=>hd x (List.mem_cons_of_mem _ hx)) h
theorem Qh (l:List UInt8)(hne:l≠[])(hd:∀c∈l,Dr c=true)(h:Ed l<9223372036854775808):Lib.parseIntB 64 l=.ok (Ed l:Int):=by
 cases l with
 |nil=>exact absurd rfl hne
 |cons c r=>
  have hc:=hd c (List.mem_cons_self ..);simp only[Dr,Bool.and_eq_true,decide_eq_true_eq] at hc;have e:=Mt (2 ^ 64-1) (by omega) (c::r) 0 hd (by omega)
  rw[Nat.zero_mul,Nat.zero_add] at e;have h43:¬c.toNat=43:=by omega
  have h45:¬c.toNat=45:=by omega
  have hb:¬2 ^ (64-1)≤Ed (c::r):=by show ¬9223372036854775808≤_;omega
  rw[Lib.parseIntB];simp only[h43,h45,or_self,if_false,Lib.parseUintB,reduceCtorEq,e,false_and,not_false_eq_true,true_and,hb]
theorem Zv (l:List UInt8)(hne:l≠[])(hd:∀c∈l,Dr c=true)(h:Ed l≤9223372036854775808):Lib.parseIntB 64 (45::l)=.ok (-(Ed l:Int)):=by
 have e:=Mt (2 ^ 64-1) (by omega) l 0 hd (by omega)
 rw[Nat.zero_mul,Nat.zero_add] at e;rw[Lib.parseIntB];have hb:¬2 ^ (64-1)<Ed l:=by show ¬9223372036854775808<_;omega
 simp only[show (45:UInt8).toNat=45 from rfl,or_true,if_true,Lib.parseUintB,hne,if_false,e,not_true_eq_false,false_and,true_and,hb]
theorem Gm (n:Nat)(h:n<9223372036854775808):Lib.parseIntB 64 (Lib.decDigits n)=.ok (n:Int):=by
 have:=Qh _ (Ms n) (Em n) (by rw[E2];exact h)
 rwa[E2] at this
def Ee (n:Nat):List UInt8:=(Lib.decDigits (1000000000+n)).drop 1
theorem Y3 (n k:Nat)(h0:10 ^ k≤n)(h1:n<10 ^ (k+1)):(Lib.decDigits n).length=k+1:=by
 rw[Lib.decDigits_length,Lib.nDigits_unique k n h0 h1]
theorem Jy (n:Nat)(h:n<1000000000):(Ee n).length=9:=by
 rw[Ee,List.length_drop,Y3 (1000000000+n) 9 (by omega) (by omega)]
theorem U6 (n:Nat):∀c∈Ee n,Dr c=true:=fun c hc=>Em _ c (List.mem_of_mem_drop hc)
theorem Rv (l:List UInt8)(hd:∀c∈l,Dr c=true):Ed l<10 ^ l.length:=by
 induction l with
 |nil=>simp[Ed]
 |cons c l ih=>
  have:=ih fun x hx=>hd x (List.mem_cons_of_mem _ hx);have hc:=hd c (List.mem_cons_self ..);simp only[Dr,Bool.and_eq_true,decide_eq_true_eq] at hc;rw[Ku,List.length_cons,Nat.pow_succ];have:(c.toNat-48)*10 ^ l.length≤9*10 ^ l.length:=Nat.mul_le_mul_right _ (by omega)
  omega
theorem Qi (n:Nat)(h:n<1000000000):Ed (Ee n)=n:=by
 have hl:=Jy n h;have hv:=E2 (1000000000+n);have hd:=Rv (Ee n) (U6 n);rw[hl] at hd;unfold Ee at hl hd ⊢;have hg:=Em (1000000000+n);cases hh:Lib.decDigits (1000000000+n) with
 |nil=>exact absurd hh (Ms _)
 |cons c l=>
  rw[hh] at hl hd hv hg;simp only[sF,sG] at hl hd ⊢;have hc:=hg c (List.mem_cons_self ..);simp only[Dr,Bool.and_eq_true,decide_eq_true_eq] at hc;rw[Ku,hl] at hv;omega
def C2 (l:List UInt8):List UInt8:=(l.reverse.dropWhile (· ==48)).reverse
theorem U7 (l:List UInt8):∃k,l=C2 l++List.replicate k 48:=by
 have h:=List.takeWhile_append_dropWhile (p:=(· ==48)) (l:=l.reverse);refine⟨(l.reverse.takeWhile (· ==48)).length,?_⟩;have e:l.reverse.takeWhile (· ==48)=List.replicate (l.reverse.takeWhile (· ==48)).length 48:=by
  rw[List.eq_replicate_iff];exact⟨rfl,fun c hc=>by
   have:=List.all_takeWhile (p:=(· ==(48:UInt8))) (l:=l.reverse);rw[List.all_eq_true] at this;exact eq_of_beq (this c hc)⟩
 have h2:=congrArg List.reverse h;rw[List.reverse_append,List.reverse_reverse] at h2
 conv=>lhs;rw[←h2]
 rw[C2];congr 1
 rw[e,List.reverse_replicate,List.length_replicate]
theorem Zw (l:List UInt8):∀c∈C2 l,c∈l:=fun c hc=>by
 rw[C2,List.mem_reverse] at hc
 exact List.mem_reverse.1 (List.dropWhile_sublist _ |>.mem hc)
theorem Qj (l:List UInt8):(C2 l).length≤l.length:=by
 obtain⟨k,hk⟩:=U7 l;have:=congrArg List.length hk;rw[List.length_append] at this;omega
def nano (l:List UInt8):List UInt8:=(l++List.replicate 9 48).take 9
theorem Qk (l:List UInt8)(hl:l.length=9)(z:Nat):nano (C2 l++List.replicate z 48)=l:=by
 obtain⟨k,hk⟩:=U7 l;have h9:(C2 l).length+k=9:=by
  have:=congrArg List.length hk;rw[List.length_append,List.length_replicate,hl] at this;omega
 rw[nano,List.append_assoc,List.replicate_append_replicate]
 conv=>rhs;rw[hk]
 rw[List.take_append,List.take_of_length_le (by omega),List.take_replicate]
 congr 2
 omega
def Bg (s n:Int)(z:Nat):List UInt8:=
 let neg:=s<0
 let sec:Nat:=if neg then (if 0<n then (-s-1).toNat else (-s).toNat) else s.toNat
 let ns:Nat:=if neg∧0<n then (1000000000-n).toNat else n.toNat
 let part:=C2 (Ee ns)++List.replicate z 48
 (if neg then [45] else [])++Lib.decDigits sec++(if part=[] then [] else 46::part)
end
section
open Go Go.RowKit
theorem Zx (n:Int)(j:Nat):n/8 ^ j/8=n/8 ^ (j+1):=by
 rw[Int.pow_succ,Int.ediv_ediv_of_nonneg (Int.pow_nonneg (by decide))]
theorem O1 (w:World)(k:Nat)(n:Int)(hk:1≤k∧k≤23)(h0:0≤n)(hn:n≤9223372036854775807) :
  Calls Tryz.prog 120 #[.int .i64 k, .int .i64 n] w fun e w'=>e=.returned (.bool (decide (n/8 ^ (k-1)=0)))∧w'=w:=by
 obtain⟨q,rfl⟩:∃q,k=q+1:=⟨k-1,by omega⟩
 have h0':n=n/8 ^ 0:=by simp
 have HN:=hid h0';clear h0';go_enter Tryz.func120,Tryz.ntmps120
 go_wp2_with fail
 go_loopg [1,14] q (fun g s1 s14 wr=>∃(j:Nat) (m:Int),j+g=q∧s14=.int .i64 j∧s1=.int .i64 m∧Hid (m=n/8 ^ j)∧0≤m∧m≤n∧wr=w)
 case atStart=>exact⟨0,n,by omega,rfl,rfl,HN,h0,Int.le_refl _,rfl⟩
 case round=>
  obtain⟨j,m,hg,rfl,rfl,hm,hm0,hmn,rfl⟩:=hrel;by_cases hj:j<q
  ·(go_wp2_with fail);go_roundg (gk-1)
   case measure=>omega
   case rel=>exact⟨j+1,m/8,by omega,by simp,rfl,by rw[show m=n/8 ^ j from hm,Zx];rfl,by omega,by omega,rfl⟩
  ·(have hjq:j=q:=by omega);(go_wp2_with fail);(go_ret);subst hjq;refine⟨?_,rfl⟩;(rw[Nat.add_sub_cancel,←show m=n/8 ^ j from hm]);rfl
theorem O3 (w:World)(k:Nat)(n:Int)(hk:1≤k∧k≤23)(h0:n<0)(hn: -9223372036854775808≤n) :
  Calls Tryz.prog 120 #[.int .i64 k, .int .i64 n] w fun e w'=>e=.returned (.bool false)∧w'=w:=by
 go_enter Tryz.func120,Tryz.ntmps120
 go_wp2_with fail
 go_ret
 exact⟨rfl,rfl⟩
theorem Bbk (q:Nat)(n:Int)(h0:0≤n):decide (n/8 ^ q=0)=decide (n<8 ^ q):=by
 rw[Bool.eq_iff_iff];simp only[decide_eq_true_eq];have hp:(0:Int)<8 ^ q:=Int.pow_pos (by decide)
 constructor
 ·intro h;have h1:=Int.mul_ediv_add_emod n (8 ^ q);rw[h,Int.mul_zero,Int.zero_add] at h1;have:=Int.emod_lt_of_pos n hp;omega
 ·intro h;exact Int.ediv_eq_zero_of_lt h0 h
theorem Cx (w:World)(k:Nat)(n:Int)(hk:1≤k∧k≤23)(hn: -9223372036854775808≤n∧n≤9223372036854775807) :
  Calls Tryz.prog 120 #[.int .i64 k, .int .i64 n] w fun e w'=>e=.returned (.bool (decide (0≤n)&&decide (n<8 ^ (k-1))))∧w'=w:=by
 by_cases h0:0≤n
 ·have:=O1 w k n hk h0 hn.2;rw[Bbk _ _ h0] at this;rwa[show decide (0≤n)=true from decide_eq_true h0,Bool.true_and]
 ·have:=O3 w k n hk (by omega) hn.1
  rwa[show decide (0≤n)=false from decide_eq_false h0,Bool.false_and]
end
end Go.Proofs.YtgfcnjfmmjcodaaGreatDoor
