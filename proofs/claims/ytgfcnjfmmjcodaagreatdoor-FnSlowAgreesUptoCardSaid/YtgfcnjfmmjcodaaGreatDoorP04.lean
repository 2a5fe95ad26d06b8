/- parseString, parseOctal. -/
import Derived.Lib.BytesEntry
import Derived.Laws.BytesArg
import Derived.Laws.Bits64b
import Derived.MapKept
import Derived.Test.YtgfcnjfmmjcodaaGreatDoorP03
set_option linter.all false
set_option maxRecDepth 100000
set_option maxHeartbeats 1000000
open Go.Lib (hid)
namespace Go.Proofs.YtgfcnjfmmjcodaaGreatDoor
open Go.RowKit
def nbs (l:List UInt8):List Int:=l.map fun b=>(b.toNat:Int)
theorem Y0 (l:List UInt8):(nbs l).length=l.length:=by simp[nbs]
theorem Bbe (l:List UInt8)(i:Nat)(h:i<l.length):(nbs l).getD i 0=(l[i].toNat:Int):=by
 simp[nbs,List.getD_eq_getElem?_getD,List.getElem?_eq_getElem h]
theorem Uy (l:List UInt8):Lib.bytesOf (nbs l)=l:=by
 simp[Lib.bytesOf,nbs,List.map_map,Function.comp_def]
theorem Ow (l:List UInt8):strOfNums (nbs l)=⟨l.toArray⟩:=by
 simp[strOfNums,nbs,Function.comp_def]
theorem BytesAt.nums {w:World}{b off:Nat}{l:List UInt8}(h:BytesAt w b off l):∀i,i<l.length→w.cell? ⟨b,off+i,none⟩=some (.int .u8 ((nbs l).getD i 0)):=
 fun i hi=>by rw[Bbe l i hi];exact h.get i hi
theorem C4 {w:World}{b off:Nat}{l:List UInt8}(h:BytesAt w b off l)(c:Nat) :
  (convert 27 9 (.slice (some ⟨b,off,none⟩) l.length c)).run Tryz.prog w=.ok (.string ⟨l.toArray⟩) w:=by
 rw[←Ow];exact run_convert_bytes_arg w 27 5 Tryz.underlying27 Tryz.underlying5 b off l.length c (nbs l) (Y0 l) h.nums 9 Tryz.underlying9
def textOf (l:List UInt8):List UInt8:=l.takeWhile (· != 0)
theorem Kn (l:List UInt8):(textOf l).length≤l.length:=(List.takeWhile_sublist _).length_le
theorem Lb (l:List UInt8):l.take (textOf l).length=textOf l:=by
 unfold textOf;induction l with
 |nil=>rfl
 |cons x l ih=>
  rw[List.takeWhile_cons];split
  ·rw[List.length_cons,sD,ih]
  ·rfl
theorem Mj (l:List UInt8):Lib.indexByte l 0=if (textOf l).length=l.length then -1 else ((textOf l).length:Int):=by
 unfold textOf;induction l with
 |nil=>rfl
 |cons x l ih=>
  rw[Lib.indexByte,List.takeWhile_cons];by_cases hx:x=0
  ·subst hx;simp
  ·(have h1:(x==0)=false:=by simpa using hx);(have h2:(x != 0)=true:=by simpa using hx);rw[h1,h2,ih];simp only[if_true,List.length_cons,Bool.false_eq_true,if_false];by_cases h3:(List.takeWhile (fun x=>x != 0) l).length=l.length
   ·simp only[h3,if_true];rfl
   ·(have h4:¬(List.takeWhile (fun x=>x != 0) l).length+1=l.length+1:=by omega);simp only[h3,if_false,h4];(rw[if_neg (by simp)]);omega
theorem Ox (w:World)(b off c:Nat)(l:List UInt8)(hb:BytesAt w b off l)(cv:Int) :
  Calls Tryz.prog 222 #[.slice (some ⟨b,off,none⟩) l.length c, .int .u8 cv] w fun e w'=>e=.returned (.int .i64 (Lib.indexByte l cv.toNat.toUInt8))∧w'=w:=by
 have h:=Lib.run_indexByteSlice (P:=Tryz.prog) w b off l.length c (nbs l) (Y0 l) hb.nums cv;rw[Uy] at h;have H:=hid h;clear h;go_enter Tryz.func222,Tryz.ntmps222
 go_wp2
 rw[run_callFunc_extern Tryz.func264 (by kernel_rfl) (by kernel_rfl) (by kernel_rfl) (e:=Extern.BytealgIndexByte.indexByte) (by kernel_rfl),H.out]
 simp only[Result.andThen];rw[Oper.upon_value];go_wp2
 go_ret
 exact⟨rfl,rfl⟩
theorem Ei (w:World)(p:Value)(b off c:Nat)(l:List UInt8)(hb:BytesAt w b off l)(hlm:l.length≤281474976710656)(hc:l.length≤c) :
  Calls Tryz.prog 133 #[p, .slice (some ⟨b,off,none⟩) l.length c] w fun e w'=>e=.returned (.string ⟨(textOf l).toArray⟩)∧w'=w:=by
 have h0:=Ox w b off c l hb 0;rw[show Lib.indexByte l (0:Int).toNat.toUInt8=_ from Mj l] at h0
 have hle:=Kn l;have H:=hid h0;clear h0;by_cases ht:(textOf l).length=l.length
 ·have hcv:=C4 hb c;have he:textOf l=l:=by rw[←Lb,ht,List.take_length]
  have H1:Calls Tryz.prog 222 #[.slice (some ⟨b,off,none⟩) l.length c, .int .u8 0] w fun e w'=>e=.returned (.int .i64 (-1))∧w'=w:=by
   have:=H.out;rwa[if_pos ht] at this
  have HH:=hid H1;have HE:=hid he;clear H1 he ht hle hb H;go_enter Tryz.func133,Tryz.ntmps133
  go_wp2_with fail
  refine HH.out.mono ?_;rintro e w' ⟨rfl,rfl⟩;go_wp2_with fail
  go_ret
  exact⟨by rw[HE.out];rfl,rfl⟩
 ·have hcv:=C4 (w:=w) (b:=b) (off:=off) (l:=textOf l) (by
   (have:l=textOf l++l.drop (textOf l).length:=by conv=>lhs;rw[←List.take_append_drop (textOf l).length l,Lb]);rw[this] at hb;exact hb.left) c
  have H1:Calls Tryz.prog 222 #[.slice (some ⟨b,off,none⟩) l.length c, .int .u8 0] w fun e w'=>e=.returned (.int .i64 ((textOf l).length:Int))∧w'=w:=by
   have:=H.out;rwa[if_neg ht] at this
  have HH:=hid H1;clear H1 H hb;generalize textOf l=t at *;have hlt:t.length<l.length:=by omega
  go_enter Tryz.func133,Tryz.ntmps133
  go_wp2_with fail
  refine HH.out.mono ?_;rintro e w' ⟨rfl,rfl⟩;go_wp2_with fail
  go_ret
  exact⟨rfl,rfl⟩
structure OctAt (l:List UInt8)(n:Nat) where
 ds:List UInt8
 tl:List UInt8
 eq:l=ds++tl
 digit:∀c∈ds,48≤c.toNat∧c.toNat≤55
 tail:∀c∈tl,Gh c.toNat=true
 some:1≤ds.length
 val:Cj ds=n
 small:n<9223372036854775808
theorem Oy (w:World)(l:List UInt8)(hs:1≤l.length)(hsz:l.length≤1000)(hd:∀c∈l,48≤c.toNat∧c.toNat≤55)(hv:Cj l<9223372036854775808) :
  Calls Tryz.prog 294 #[.string ⟨l.toArray⟩, .int .i64 8, .int .i64 64] w fun e w'=>e=.returned (.tuple #[.int .u64 (Cj l), .nilIface])∧Kp (fun _=>False) w w':=by
 have H:=hid (Xn w ⟨l.toArray⟩ l rfl hs hsz hd hv);generalize Cj l=v at H hv ⊢;clear hd;go_enter Tryz.func294,Tryz.ntmps294
 go_wp2_with fail
 refine H.out.mono ?_;rintro e w' ⟨rfl,hk⟩;go_wp2_with fail
 go_ret2
 exact⟨rfl,hk⟩
theorem Ez (w:World)(p:Value)(b off c n:Nat)(l:List UInt8)(hb:BytesAt w b off l)(hlt:b<w.heap.size)(ho:OctAt l n)(hl:l.length≤1000)(hc:l.length≤c)(hcm:c≤281474976710656) :
  Calls Tryz.prog 257 #[p, .slice (some ⟨b,off,none⟩) l.length c] w fun e w'=>e=.returned (.int .i64 n)∧Kp (fun _=>False) w w':=by
 obtain⟨ds,tl,rfl,hd,ht,hsome,hval,hsmall⟩:=ho;rw[List.length_append] at *;have hns:∀x∈ds,Gh x.toNat=false:=fun x hx=>by
  have:=hd x hx;unfold Gh;have e1:(x.toNat==32)=false:=by simp;omega
  have e2:(x.toNat==0)=false:=by simp;omega
  rw[e1,e2];rfl
 have htext:textOf ds=ds:=by
  unfold textOf;have:=List.takeWhile_append_of_pos (l₁:=ds) (l₂:=[]) (p:=fun x:UInt8=>x != 0) (fun x hx=>by
   have:=hd x hx;simp only[bne_iff_ne,ne_eq];rintro rfl;simp at this)
  simpa using this
 have H1:=hid (Bbd w b off c ds tl hb hlt hc hcm ht hns hsome);have H3:=fun w1=>hid (Oy w1 ds hsome (by omega) hd (by rw[hval];exact hsmall))
 rw[hval] at H3;have HB:=hid hb;have HT:=hid htext;clear hb hd ht hns hval htext;have hn0:((ds.length:Int)==0)=false:=by rw[beq_eq_false_iff_ne];omega
 go_enter Tryz.func257,Tryz.ntmps257
 go_wp2_with fail
 refine H1.out.mono ?_;rintro e w1 ⟨rfl,hk1⟩;have hB1:=HB.out.left.keep hk1 (fun h=>h);go_wp2_with fail
 refine(Ei w1 p b off c ds hB1 (by omega) (by omega)).mono ?_
 rintro e w2 ⟨rfl,rfl⟩;rw[HT.out];go_wp2_with fail
 refine(H3 w2).out.mono ?_;rintro e w3 ⟨rfl,hk3⟩;go_wp2_with fail
 go_ret
 exact⟨rfl,hk1.trans hk3⟩
theorem Be2:∀n:Fin 256,bits .and .u8 (n.val:Int) 128=if n.val<128 then 0 else 128:=by decide +kernel
theorem Bgk:∀n:Fin 256,bits .xor .u8 (n.val:Int) 0=n.val:=by decide +kernel
theorem Be3:∀n:Fin 256,bits .xor .u8 (n.val:Int) 255=255-(n.val:Int):=by decide +kernel
theorem Ko (w:World)(p:Value)(b off c n:Nat)(l:List UInt8)(hb:BytesAt w b off l)(hlt:b<w.heap.size)(ho:OctAt l n)(hl:l.length≤1000)(hc:l.length≤c)(hcm:c≤281474976710656) :
  Calls Tryz.prog 206 #[p, .slice (some ⟨b,off,none⟩) l.length c] w fun e w'=>e=.returned (.int .i64 n)∧Kp (fun _=>False) w w':=by
 have H:=hid (Ez w p b off c n l hb hlt ho hl hc hcm);obtain⟨x,l',hxl,hx⟩:∃x l',l=x::l'∧x.toNat<128:=by
  obtain⟨ds,tl,he,hd,_,hs,_,_⟩:=ho;cases ds with
  |nil=>simp at hs
  |cons x ds=>exact⟨x,ds++tl,by rw[he];rfl,by have:=hd x (by simp);omega⟩
 have hpos:1≤l.length:=by rw[hxl];simp
 have hg:w.cell? ⟨b,off,none⟩=some (.int .u8 (x.toNat:Int)):=by
  rw[hxl] at hb;exact hb.get 0 (by simp)
 have ha:bits .and .u8 (x.toNat:Int) 128=0:=by
  have:=Be2 ⟨x.toNat,x.toNat_lt⟩;rw[this];simp[hx]
 clear hxl hb ho;go_enter Tryz.func206,Tryz.ntmps206
 go_wp2_with fail
 refine H.out.mono ?_;rintro e w1 ⟨rfl,hk⟩;go_wp2_with fail
 go_ret
 exact⟨rfl,hk⟩
def mag (neg:Bool)(l:List UInt8):Nat:=l.foldl (fun x c=>x*256+(if neg then 255-c.toNat else c.toNat)) 0
structure BinAt (l:List UInt8)(v:Int) where
 neg:Bool
 r:List UInt8
 eq:l=(if neg then 255 else 128)::r
 small:mag neg r<9223372036854775808
 val:v=if neg then -(mag neg r:Int)-1 else (mag neg r:Int)
theorem Bbf (neg:Bool)(l:List UInt8)(c:UInt8):mag neg (l++[c])=mag neg l*256+(if neg then 255-c.toNat else c.toNat):=by simp[mag]
theorem Xo (neg:Bool)(m:List UInt8):∀n:Nat,n≤m.foldl (fun x c=>x*256+(if neg then 255-c.toNat else c.toNat)) n:=by
 induction m with
 |nil=>intro n;exact Nat.le_refl _
 |cons c m ih=>intro n;exact Nat.le_trans (show n≤n*256+(if neg then 255-c.toNat else c.toNat) by omega) (ih _)
theorem Uz (neg:Bool)(l:List UInt8)(k:Nat):mag neg (l.take k)≤mag neg l:=by
 conv=>rhs;rw[←List.take_append_drop k l]
 unfold mag;rw[List.foldl_append];exact Xo neg _ _
theorem Be4 (n:Nat)(h:n<9223372036854775808):bits .xor .i64 (-1) (n:Int)= -(n:Int)-1:=by
 show IntKind.i64.wrap ((BitVec.ofInt 64 (-1) ^^^ BitVec.ofInt 64 (n:Int)).toNat:Int)=_;have h2:BitVec.ofInt 64 (-1)=BitVec.allOnes 64:=by decide
 rw[h2,BitVec.allOnes_xor,BitVec.toNat_not,BitVec.ofInt_natCast,BitVec.toNat_ofNat,Nat.mod_eq_of_lt (by omega)]
 have e:((2 ^ 64-1-n:Nat):Int)=18446744073709551615-n:=by omega
 rw[e];simp[IntKind.wrap,IntKind.bits,IntKind.signed];omega
set_option maxRecDepth 10000 in
theorem Beo (m k:Nat)(hk:k<256)(h:m*256+k<18446744073709551616):bits .or .u64 ((m:Int)*256) (k:Int)=((m*256+k:Nat):Int):=by
 have h1:=bits_or_u64_nat (m*256) k (by omega) (by omega)
 have h2:((m*256:Nat):Int)=(m:Int)*256:=by omega
 rw[h2] at h1;rw[h1];have h3:=Nat.two_pow_add_eq_or_of_lt (i:=8) (b:=k) hk m;have h4:m*256 ||| k=m*256+k:=by rw[Nat.mul_comm m 256];exact h3.symm
 rw[h4]
set_option maxHeartbeats 1600000 in
theorem Kq (w:World)(p:Value)(b off c:Nat)(neg:Bool)(r:List UInt8)(hb:BytesAt w b off ((if neg then 255 else 128)::r))(hl:r.length≤1000)(hc:r.length+1≤c)(hcm:c≤281474976710656)(hm:mag neg r<9223372036854775808) :
  Calls Tryz.prog 206 #[p, .slice (some ⟨b,off,none⟩) (r.length+1) c] w fun e w'=>e=.returned (.int .i64 (if neg then -(mag neg r:Int)-1 else (mag neg r:Int)))∧w'=w:=by
 have hg:w.cell? ⟨b,off,none⟩=some (.int .u8 ((if neg then 255 else 128:UInt8).toNat:Int)):=hb.get 0 (by simp)
 have hnext:∀j:Nat,1≤j→j<r.length+1→∃cc:UInt8,w.cell? ⟨b,off+j,none⟩=some (.int .u8 (cc.toNat:Int))∧Hid (mag neg (r.take (j+1-1))=mag neg (r.take (j-1))*256+(if neg then 255-cc.toNat else cc.toNat))∧Hid (mag neg (r.take (j+1-1))<9223372036854775808):=fun j h1 h2=>by
  have hjr:j-1<r.length:=by omega
  refine⟨r[j-1],?_,?_,?_⟩
  ·(rw[hb.get j (by simp;omega)]);(congr 3);(have e:((if neg then 255 else 128)::r)[j]'(by simp;omega)=r[j-1]:=by rw[List.getElem_cons,dif_neg (by omega)]);exact congrArg UInt8.toNat e
  ·show _=_;rw[show j+1-1=(j-1)+1 by omega,List.take_succ_eq_append_getElem hjr,Bbf]
  ·exact Nat.lt_of_le_of_lt (Uz neg r _) hm
 have hall:mag neg (r.take (r.length+1-1))=mag neg r:=by rw[Nat.add_sub_cancel,List.take_length]
 have HA:=hid hall;have HM:=hid hm;have HN:=hid hnext;clear hb hm hall hnext;cases neg with
 |false=>
  have hg1:w.cell? ⟨b,off,none⟩=some (.int .u8 128):=hg;clear hg;have k1:bits .and .u8 128 128=128:=by decide +kernel
  have k2:bits .and .u8 128 64=0:=by decide +kernel
  have hx0:bits .xor .u8 128 0=128:=by decide +kernel
  have e0:bits .or .u64 0 (IntKind.u64.wrap (bits .and .u8 128 127))=0:=by decide +kernel
  have E0:=hid e0;clear e0;go_enter Tryz.func206,Tryz.ntmps206
  go_wp2_with fail
  go_loop [6,7,8,26] (fun x i cc k=>∃(j:Nat) (a:Int),k=.int .i64 j∧x=.int .u64 a∧j≤r.length+1∧Hid (a=(mag false (r.take (j-1)):Nat)∧mag false (r.take (j-1))<9223372036854775808)) (fun _ _ _ k=>r.length+1-(intOf k).toNat)
  case atStart=>exact⟨0,0,rfl,rfl,by omega,rfl,show (0:Nat)<9223372036854775808 by omega⟩
  case round=>
   obtain⟨j,a,rfl,rfl,hj,ha⟩:=hrel;(have ha0:0≤a:=by have:=ha.out;omega);by_cases hjl:j<r.length+1
   ·by_cases hj0:j=0
    ·subst hj0;have haz:a=0:=ha.out.1;subst haz;(go_wp2_with fail);go_round
     case rel=>exact⟨1,_,rfl,rfl,by omega,E0.out,show (0:Nat)<9223372036854775808 by omega⟩
     case measure=>simp[intOf]
    ·(obtain⟨cc,hgj,hv,hvm⟩:=HN.out j (by omega) hjl);have hcn:=cc.toNat_lt;have hx1:bits .xor .u8 (cc.toNat:Int) 0=cc.toNat:=Bgk ⟨cc.toNat,hcn⟩;(have hcc:(cc.toNat:Int)<256:=by omega);(have hj1:((j:Int)==0)=false:=by rw[beq_eq_false_iff_ne];omega);(have ha1:a<72057594037927936:=by have:=ha.out;have h1:=hv.out;have h2:=hvm.out;rw[h1] at h2;omega);(have hsh:a/72057594037927936=0:=by omega);have hor:Hid (bits .or .u64 (a*256) (cc.toNat:Int)=(mag false (r.take (j+1-1)):Nat)):=by
      show _=_;rw[ha.out.1,Beo _ _ hcn (by have h1:=hv.out;have h2:=hvm.out;rw[h1] at h2;simp at h2;omega),hv.out];rfl
     (go_wp2_with fail);go_round
     case rel=>exact⟨j+1,_,by go_num,rfl,by omega,hor.out,hvm.out⟩
     case measure=>simp[intOf];omega
   ·(obtain rfl:j=r.length+1:=by omega);(have ha1:a<9223372036854775808:=by have:=ha.out;omega);(have hsh:a/9223372036854775808=0:=by omega);have HF:Hid (Ending.returned (.int .i64 a)=Ending.returned (.int .i64 (mag false r:Nat))):=by
     show _=_;rw[ha.out.1,HA.out]
    clear ha;(go_wp2_with fail);(go_ret);exact⟨HF.out,rfl⟩
 |true=>
  have hg1:w.cell? ⟨b,off,none⟩=some (.int .u8 255):=hg;clear hg;have k1:bits .and .u8 255 128=128:=by decide +kernel
  have k2:bits .and .u8 255 64=64:=by decide +kernel
  have hx0:bits .xor .u8 255 255=0:=by decide +kernel
  have e0:bits .or .u64 0 (IntKind.u64.wrap (bits .and .u8 0 127))=0:=by decide +kernel
  have E0:=hid e0;clear e0;go_enter Tryz.func206,Tryz.ntmps206
  go_wp2_with fail
  go_loop [6,7,8,26] (fun x i cc k=>∃(j:Nat) (a:Int),k=.int .i64 j∧x=.int .u64 a∧j≤r.length+1∧Hid (a=(mag true (r.take (j-1)):Nat)∧mag true (r.take (j-1))<9223372036854775808)) (fun _ _ _ k=>r.length+1-(intOf k).toNat)
  case atStart=>exact⟨0,0,rfl,rfl,by omega,rfl,show (0:Nat)<9223372036854775808 by omega⟩
  case round=>
   obtain⟨j,a,rfl,rfl,hj,ha⟩:=hrel;(have ha0:0≤a:=by have:=ha.out;omega);by_cases hjl:j<r.length+1
   ·by_cases hj0:j=0
    ·subst hj0;have haz:a=0:=ha.out.1;subst haz;(go_wp2_with fail);go_round
     case rel=>exact⟨1,_,rfl,rfl,by omega,E0.out,show (0:Nat)<9223372036854775808 by omega⟩
     case measure=>simp[intOf]
    ·(obtain⟨cc,hgj,hv,hvm⟩:=HN.out j (by omega) hjl);have hcn:=cc.toNat_lt;have hx1:bits .xor .u8 (cc.toNat:Int) 255=255-(cc.toNat:Int):=Be3 ⟨cc.toNat,hcn⟩;(have hcc:(cc.toNat:Int)<256:=by omega);(have hj1:((j:Int)==0)=false:=by rw[beq_eq_false_iff_ne];omega);(have ha1:a<72057594037927936:=by have:=ha.out;have h1:=hv.out;have h2:=hvm.out;rw[h1] at h2;omega);(have hsh:a/72057594037927936=0:=by omega);have hor:Hid (bits .or .u64 (a*256) (255-(cc.toNat:Int))=(mag true (r.take (j+1-1)):Nat)):=by
      show _=_;rw[ha.out.1,show (255-(cc.toNat:Int))=((255-cc.toNat:Nat):Int) by omega,Beo _ _ (by omega) (by have h1:=hv.out;have h2:=hvm.out;rw[h1] at h2;simp at h2;omega),hv.out];rfl
     (go_wp2_with fail);go_round
     case rel=>exact⟨j+1,_,by go_num,rfl,by omega,hor.out,hvm.out⟩
     case measure=>simp[intOf];omega
   ·(obtain rfl:j=r.length+1:=by omega);(have ha1:a<9223372036854775808:=by have:=ha.out;omega);(have hsh:a/9223372036854775808=0:=by omega);have HF:Hid (Ending.returned (.int .i64 (bits .xor .i64 (-1) a))=Ending.returned (.int .i64 (-(mag true r:Int)-1))):=by
     show _=_;rw[ha.out.1,HA.out,Be4 _ HM.out]
    clear ha;(go_wp2_with fail);(go_ret);exact⟨HF.out,rfl⟩
def Dp (l:List UInt8)(v:Int):Prop:=(∃n:Nat,v=n∧Nonempty (OctAt l n))∨Nonempty (BinAt l v)
theorem Kr (w:World)(p:Value)(b off c:Nat)(l:List UInt8)(v:Int)(hb:BytesAt w b off l)(hlt:b<w.heap.size)(hn:Dp l v)(hl:l.length≤1000)(hc:l.length≤c)(hcm:c≤281474976710656) :
  Calls Tryz.prog 206 #[p, .slice (some ⟨b,off,none⟩) l.length c] w fun e w'=>e=.returned (.int .i64 v)∧Kp (fun _=>False) w w':=by
 rcases hn with ⟨n,rfl,⟨h⟩⟩|⟨⟨neg,r,rfl,hs,rfl⟩⟩
 ·exact Ko w p b off c n l hb hlt h hl hc hcm
 ·rw[List.length_cons] at *;refine(Kq w p b off c neg r hb (by omega) hc hcm hs).mono ?_
  rintro e w' ⟨rfl,rfl⟩;exact⟨rfl,Kp.refl _ _⟩
def ck (i:Nat)(c:UInt8):UInt8:=if 148≤i∧i<156 then 32 else c
def sgI (c:UInt8):Int:=if c.toNat<128 then c.toNat else (c.toNat:Int)-256
theorem Bbg (c:UInt8): -128≤sgI c∧sgI c≤127:=by unfold sgI;have:=c.toNat_lt;split<;>omega
theorem Bbh (c:UInt8):IntKind.i8.wrap (c.toNat:Int)=sgI c:=by
 have:=c.toNat_lt;unfold sgI;simp[IntKind.wrap,IntKind.bits,IntKind.signed];split<;>omega
def Bz (l:List UInt8):Nat→Nat
 |0=>0
 |k+1=>Bz l k+(ck k (l.getD k 0)).toNat
def C5 (l:List UInt8):Nat→Int
 |0=>0
 |k+1=>C5 l k+sgI (ck k (l.getD k 0))
theorem Ks (l:List UInt8)(k:Nat):Bz l k≤255*k:=by
 induction k with
 |zero=>simp[Bz]
 |succ k ih=>have:=(ck k (l.getD k 0)).toNat_lt;simp only[Bz];omega
theorem Zr (l:List UInt8)(k:Nat): -128*k≤C5 l k∧C5 l k≤128*k:=by
 induction k with
 |zero=>simp[C5]
 |succ k ih=>have:=Bbg (ck k (l.getD k 0));simp only[C5];omega
set_option maxHeartbeats 800000 in
theorem Jq (w:World)(b off:Nat)(l:List UInt8)(hb:BytesAt w b off l)(hl:l.length=512) :
  Calls Tryz.prog 247 #[.pointer (some ⟨b,off,none⟩)] w fun e w'=>e=.returned (.tuple #[.int .i64 (Bz l 512), .int .i64 (C5 l 512)])∧Kp (fun _=>False) w w':=by
 have hnext:∀k:Nat,k<512→∃cc:UInt8,w.cell? ⟨b,off+k,none⟩=some (.int .u8 (cc.toNat:Int))∧Hid (Bz l (k+1)=Bz l k+(ck k cc).toNat)∧Hid (C5 l (k+1)=C5 l k+sgI (ck k cc)):=fun k hk=>by
  have hkl:k<l.length:=by omega
  have hg:l.getD k 0=l[k]:=by simp[List.getD,List.getElem?_eq_getElem hkl]
  exact⟨l[k],hb.get k hkl,show _=_ by rw[Bz,hg],show _=_ by rw[C5,hg]⟩
 have HN:=hid hnext;have HB:=hid hb;clear hb hl hnext;go_enter Tryz.func247,Tryz.ntmps247
 go_wp2_with fail
 go_loopw [2,3,7] (fun u s k wr=>∃(j:Nat) (a c:Int),k=.int .i64 j∧u=.int .i64 a∧s=.int .i64 c∧j≤512∧Hid (a=(Bz l j:Nat)∧c=C5 l j)∧Kp (fun _=>False) w wr) (fun _ _ k _=>512-(intOf k).toNat)
 case atStart=>exact⟨0,0,0,rfl,rfl,rfl,by omega,⟨rfl,rfl⟩,Kp.refl _ _⟩
 case round=>
  obtain⟨j,a,c,rfl,rfl,rfl,hj,hac,hkp⟩:=hrel;have h1:=Ks l j;have h2:=Zr l j;have a0:0≤a:=by have:=hac.out;omega
  have a1:a≤200000:=by have:=hac.out;omega
  have c0: -100000≤c:=by have:=hac.out;omega
  have c1:c≤100000:=by have:=hac.out;omega
  clear h1 h2;by_cases hjl:j<512
  ·obtain⟨cc,hg,hu,hs⟩:=HN.out j hjl;have hg1:wr.cell? ⟨b,off+j,none⟩=some (.int .u8 (cc.toNat:Int)):=hkp.cell hg (fun h=>h);(have hcn:(cc.toNat:Int)<256:=by have:=cc.toNat_lt;omega);have hsb:=Bbg cc;have hsw:=Bbh cc;clear hg;by_cases hin:148≤j∧j<156
   ·obtain⟨hi1,hi2⟩:=hin;have e1:ck j cc=32:=if_pos ⟨hi1,hi2⟩;have E1:=hid e1;clear e1 hsb hsw;(go_wp2_with fail);(go_quiet (fail));(go_wp2_with fail);go_roundw
    case rel=>exact⟨j+1,_,_,by go_num,rfl,rfl,by omega,⟨by have h1:=hac.out.1;have h2:=hu.out;rw[E1.out] at h2;rw[h2,h1];rfl,by have h1:=hac.out.2;have h2:=hs.out;rw[E1.out] at h2;rw[h2,h1];rfl⟩,hkp.drewN _⟩
    case measure=>simp[intOf];omega
   ·have e1:ck j cc=cc:=if_neg hin;have E1:=hid e1;clear e1;rcases Nat.lt_or_ge j 148 with hi1|hi1
    ·(go_wp2_with fail);(go_quiet (fail));(go_wp2_with fail);go_roundw
     case rel=>exact⟨j+1,_,_,by go_num,rfl,rfl,by omega,⟨by have h1:=hac.out.1;have h2:=hu.out;rw[E1.out] at h2;rw[h2,h1];rfl,by have h1:=hac.out.2;have h2:=hs.out;rw[E1.out] at h2;rw[h2,h1]⟩,hkp.drewN _⟩
     case measure=>simp[intOf];omega
    ·(have hi2:156≤j:=by omega);(go_wp2_with fail);(go_quiet (fail));(go_wp2_with fail);go_roundw
     case rel=>exact⟨j+1,_,_,by go_num,rfl,rfl,by omega,⟨by have h1:=hac.out.1;have h2:=hu.out;rw[E1.out] at h2;rw[h2,h1];rfl,by have h1:=hac.out.2;have h2:=hs.out;rw[E1.out] at h2;rw[h2,h1]⟩,hkp.drewN _⟩
     case measure=>simp[intOf];omega
  ·(have hj5:j=512:=by omega);(have hfin:a=(Bz l 512:Nat)∧c=C5 l 512:=by rw[←hj5];exact hac.out);have F:=hid hfin;clear hfin;(go_wp2_with fail);(go_ret2);exact⟨by show Ending.returned (.tuple #[.int .i64 a, .int .i64 c])=_;rw[F.out.1,F.out.2],hkp⟩
theorem U0 (w:World)(b o:Nat) :
  Calls Tryz.prog 162 #[.pointer (some ⟨b,o,none⟩)] w fun e w'=>e=.returned (.slice (some ⟨b,o+0,none⟩) 100 512)∧w'=w:=by
 go_enter Tryz.func162,Tryz.ntmps162
 go_wp2_with fail
 go_ret
 exact⟨rfl,rfl⟩
theorem Jr (w:World)(b o:Nat) :
  Calls Tryz.prog 163 #[.pointer (some ⟨b,o,none⟩)] w fun e w'=>e=.returned (.slice (some ⟨b,o+157,none⟩) 100 355)∧w'=w:=by
 go_enter Tryz.func163,Tryz.ntmps163
 go_wp2_with fail
 go_ret
 exact⟨rfl,rfl⟩
theorem Mk (w:World)(b o:Nat) :
  Calls Tryz.prog 166 #[.pointer (some ⟨b,o,none⟩)] w fun e w'=>e=.returned (.slice (some ⟨b,o+100,none⟩) 8 412)∧w'=w:=by
 go_enter Tryz.func166,Tryz.ntmps166
 go_wp2_with fail
 go_ret
 exact⟨rfl,rfl⟩
theorem Rl (w:World)(b o:Nat) :
  Calls Tryz.prog 167 #[.pointer (some ⟨b,o,none⟩)] w fun e w'=>e=.returned (.slice (some ⟨b,o+108,none⟩) 8 404)∧w'=w:=by
 go_enter Tryz.func167,Tryz.ntmps167
 go_wp2_with fail
 go_ret
 exact⟨rfl,rfl⟩
theorem Rm (w:World)(b o:Nat) :
  Calls Tryz.prog 168 #[.pointer (some ⟨b,o,none⟩)] w fun e w'=>e=.returned (.slice (some ⟨b,o+116,none⟩) 8 396)∧w'=w:=by
 go_enter Tryz.func168,Tryz.ntmps168
 go_wp2_with fail
 go_ret
 exact⟨rfl,rfl⟩
theorem Ml (w:World)(b o:Nat) :
  Calls Tryz.prog 169 #[.pointer (some ⟨b,o,none⟩)] w fun e w'=>e=.returned (.slice (some ⟨b,o+124,none⟩) 12 388)∧w'=w:=by
 go_enter Tryz.func169,Tryz.ntmps169
 go_wp2_with fail
 go_ret
 exact⟨rfl,rfl⟩
theorem Hq (w:World)(b o:Nat) :
  Calls Tryz.prog 172 #[.pointer (some ⟨b,o,none⟩)] w fun e w'=>e=.returned (.slice (some ⟨b,o+136,none⟩) 12 376)∧w'=w:=by
 go_enter Tryz.func172,Tryz.ntmps172
 go_wp2_with fail
 go_ret
 exact⟨rfl,rfl⟩
theorem Mm (w:World)(b o:Nat) :
  Calls Tryz.prog 246 #[.pointer (some ⟨b,o,none⟩)] w fun e w'=>e=.returned (.slice (some ⟨b,o+148,none⟩) 8 364)∧w'=w:=by
 go_enter Tryz.func246,Tryz.ntmps246
 go_wp2_with fail
 go_ret
 exact⟨rfl,rfl⟩
theorem Js (w:World)(b o:Nat) :
  Calls Tryz.prog 205 #[.pointer (some ⟨b,o,none⟩)] w fun e w'=>e=.returned (.slice (some ⟨b,o+156,none⟩) 1 356)∧w'=w:=by
 go_enter Tryz.func205,Tryz.ntmps205
 go_wp2_with fail
 go_ret
 exact⟨rfl,rfl⟩
theorem Xp (w:World)(b o:Nat) :
  Calls Tryz.prog 244 #[.pointer (some ⟨b,o,none⟩)] w fun e w'=>e=.returned (.slice (some ⟨b,o+257,none⟩) 6 255)∧w'=w:=by
 go_enter Tryz.func244,Tryz.ntmps244
 go_wp2_with fail
 go_ret
 exact⟨rfl,rfl⟩
theorem Rn (w:World)(b o:Nat) :
  Calls Tryz.prog 245 #[.pointer (some ⟨b,o,none⟩)] w fun e w'=>e=.returned (.slice (some ⟨b,o+263,none⟩) 2 249)∧w'=w:=by
 go_enter Tryz.func245,Tryz.ntmps245
 go_wp2_with fail
 go_ret
 exact⟨rfl,rfl⟩
theorem Jt (w:World)(b o:Nat) :
  Calls Tryz.prog 164 #[.pointer (some ⟨b,o,none⟩)] w fun e w'=>e=.returned (.slice (some ⟨b,o+265,none⟩) 32 247)∧w'=w:=by
 go_enter Tryz.func164,Tryz.ntmps164
 go_wp2_with fail
 go_ret
 exact⟨rfl,rfl⟩
theorem I2 (w:World)(b o:Nat) :
  Calls Tryz.prog 165 #[.pointer (some ⟨b,o,none⟩)] w fun e w'=>e=.returned (.slice (some ⟨b,o+297,none⟩) 32 215)∧w'=w:=by
 go_enter Tryz.func165,Tryz.ntmps165
 go_wp2_with fail
 go_ret
 exact⟨rfl,rfl⟩
theorem G0 (w:World)(b o:Nat) :
  Calls Tryz.prog 170 #[.pointer (some ⟨b,o,none⟩)] w fun e w'=>e=.returned (.slice (some ⟨b,o+329,none⟩) 8 183)∧w'=w:=by
 go_enter Tryz.func170,Tryz.ntmps170
 go_wp2_with fail
 go_ret
 exact⟨rfl,rfl⟩
theorem G5 (w:World)(b o:Nat) :
  Calls Tryz.prog 171 #[.pointer (some ⟨b,o,none⟩)] w fun e w'=>e=.returned (.slice (some ⟨b,o+337,none⟩) 8 175)∧w'=w:=by
 go_enter Tryz.func171,Tryz.ntmps171
 go_wp2_with fail
 go_ret
 exact⟨rfl,rfl⟩
theorem U1 (w:World)(b o:Nat) :
  Calls Tryz.prog 183 #[.pointer (some ⟨b,o,none⟩)] w fun e w'=>e=.returned (.slice (some ⟨b,o+345,none⟩) 155 167)∧w'=w:=by
 go_enter Tryz.func183,Tryz.ntmps183
 go_wp2_with fail
 go_ret
 exact⟨rfl,rfl⟩
theorem Ro (w:World)(b o:Nat) :
  Calls Tryz.prog 243 #[.pointer (some ⟨b,o,none⟩)] w fun e w'=>e=.returned (.slice (some ⟨b,o+508,none⟩) 4 4)∧w'=w:=by
 go_enter Tryz.func243,Tryz.ntmps243
 go_wp2_with fail
 go_ret
 exact⟨rfl,rfl⟩
theorem U2 (w:World)(b o:Nat) :
  Calls Tryz.prog 173 #[.pointer (some ⟨b,o,none⟩)] w fun e w'=>e=.returned (.slice (some ⟨b,o+345,none⟩) 12 167)∧w'=w:=by
 go_enter Tryz.func173,Tryz.ntmps173
 go_wp2_with fail
 go_ret
 exact⟨rfl,rfl⟩
theorem Lc (w:World)(b o:Nat) :
  Calls Tryz.prog 174 #[.pointer (some ⟨b,o,none⟩)] w fun e w'=>e=.returned (.slice (some ⟨b,o+357,none⟩) 12 155)∧w'=w:=by
 go_enter Tryz.func174,Tryz.ntmps174
 go_wp2_with fail
 go_ret
 exact⟨rfl,rfl⟩
theorem Ju (w:World)(v:Value) :
  Calls Tryz.prog 159 #[v] w fun e w'=>e=.returned v∧w'=w:=by
 go_enter Tryz.func159,Tryz.ntmps159
 go_wp2_with fail
 go_ret
 exact⟨rfl,rfl⟩
theorem Eb (w:World)(v:Value) :
  Calls Tryz.prog 160 #[v] w fun e w'=>e=.returned v∧w'=w:=by
 go_enter Tryz.func160,Tryz.ntmps160
 go_wp2_with fail
 go_ret
 exact⟨rfl,rfl⟩
theorem Zs (w:World)(v:Value) :
  Calls Tryz.prog 161 #[v] w fun e w'=>e=.returned v∧w'=w:=by
 go_enter Tryz.func161,Tryz.ntmps161
 go_wp2_with fail
 go_ret
 exact⟨rfl,rfl⟩
theorem Xq (w:World)(v:Value) :
  Calls Tryz.prog 210 #[v] w fun e w'=>e=.returned v∧w'=w:=by
 go_enter Tryz.func210,Tryz.ntmps210
 go_wp2_with fail
 go_ret
 exact⟨rfl,rfl⟩
def fld (l:List UInt8)(o n:Nat):List UInt8:=(l.drop o).take n
theorem Dq (l:List UInt8)(o n:Nat)(h:o+n≤l.length):(fld l o n).length=n:=by simp[fld];omega
theorem BytesAt.fld {w:World}{b off:Nat}{l:List UInt8}(h:BytesAt w b off l)(o n:Nat)(hl:o+n≤l.length):BytesAt w b (off+o) (fld l o n):=by
 have e:l=l.take o++l.drop o:=(List.take_append_drop o l).symm;have h1:=h;rw[e] at h1;have h2:=h1.right;have e2:l.drop o=(l.drop o).take n++(l.drop o).drop n:=(List.take_append_drop n _).symm;rw[e2] at h2;have h3:=h2.left;rw[List.length_take,Nat.min_eq_left (by omega)] at h3
 exact h3
def Be5:List UInt8:=[117,115,116,97,114,0]
def Bfx:List UInt8:=[116,97,114,0]
def Bgl:List UInt8:=[117,115,116,97,114,32]
def Bgm:List UInt8:=[32,0]
def Ld (l:List UInt8):Int:=
 if fld l 257 6==Be5 then (if fld l 508 4==Bfx then 16 else 6)
 else if fld l 257 6==Bgl&&fld l 263 2==Bgm then 8 else 1
theorem Oz (w:World)(b off n:Nat)(l:List UInt8)(hb:BytesAt w b off l)(hl:l.length=512)(hlt:b<w.heap.size)(ho:OctAt (fld l 148 8) n)
  (hbad:¬((n:Int)=Bz l 512∨(n:Int)=C5 l 512)) :
  Calls Tryz.prog 204 #[.pointer (some ⟨b,off,none⟩)] w fun e w'=>e=.returned (.int .i64 0)∧Kp (fun _=>False) w w':=by
 have HB:=hid hb;have f8:=Dq l 148 8 (by omega)
 have hP:∀(w1:World) (p:Value),Kp (fun _=>False) w w1→Calls Tryz.prog 257 #[p, .slice (some ⟨b,off+148,none⟩) 8 364] w1 fun e w'=>e=.returned (.int .i64 n)∧Kp (fun _=>False) w1 w':=fun w1 p hk=>by
  have:=Ez w1 p b (off+148) 364 n (fld l 148 8) ((hb.fld 148 8 (by omega)).keep hk (fun h=>h)) (by have:=hk.size;omega) ho (by omega) (by omega) (by omega)
  rw[f8] at this;exact this
 have HP:=hid hP;clear hb hP;have h1:((n:Int) != (Bz l 512:Int))=true:=by rw[bne_iff_ne];intro h;exact hbad (.inl h)
 have h2:((n:Int) != C5 l 512)=true:=by rw[bne_iff_ne];intro h;exact hbad (.inr h)
 clear hbad;go_enter Tryz.func204,Tryz.ntmps204
 go_wp2_with fail
 refine(Ju _ _).mono ?_;rintro e w1 ⟨rfl,rfl⟩;go_wp2_with fail
 refine(Mm _ _ _).mono ?_;rintro e w1 ⟨rfl,rfl⟩;go_wp2_with fail
 refine(HP.out _ _ ((Kp.refl _ _).alloc _)).mono ?_;rintro e w1 ⟨rfl,hk1⟩;have hkw1:Kp (fun _=>False) w w1:=((Kp.refl _ _).alloc _).trans hk1;have hp1:w1.cell? ⟨w.heap.size,0,none⟩=some .nilIface:=hk1.cell (cell_of (Ba w _) 0 rfl) (fun h=>h);go_wp2_with fail
 refine(Jq w1 b off l (HB.out.keep hkw1 (fun h=>h)) hl).mono ?_;rintro e w2 ⟨rfl,hk2⟩;have hkw2:=hkw1.trans hk2;have hp2:w2.cell? ⟨w.heap.size,0,none⟩=some .nilIface:=hk2.cell hp1 (fun h=>h);clear hp1;go_wp2_with fail
 go_ret
 exact⟨rfl,hkw2⟩
set_option maxHeartbeats 1000000 in
theorem Hr (w:World)(b off n:Nat)(l:List UInt8)(hb:BytesAt w b off l)(hl:l.length=512)(hlt:b<w.heap.size)(ho:OctAt (fld l 148 8) n)
  (hgood:(n:Int)=Bz l 512∨(n:Int)=C5 l 512) :
  Calls Tryz.prog 204 #[.pointer (some ⟨b,off,none⟩)] w fun e w'=>e=.returned (.int .i64 (Ld l))∧Kp (fun _=>False) w w':=by
 have HB:=hid hb;have f8:=Dq l 148 8 (by omega)
 have hP:∀(w1:World) (p:Value),Kp (fun _=>False) w w1→Calls Tryz.prog 257 #[p, .slice (some ⟨b,off+148,none⟩) 8 364] w1 fun e w'=>e=.returned (.int .i64 n)∧Kp (fun _=>False) w1 w':=fun w1 p hk=>by
  have:=Ez w1 p b (off+148) 364 n (fld l 148 8) ((hb.fld 148 8 (by omega)).keep hk (fun h=>h)) (by have:=hk.size;omega) ho (by omega) (by omega) (by omega)
  rw[f8] at this;exact this
 have HP:=hid hP;have hC:∀(w1:World) (o k c:Nat),Kp (fun _=>False) w w1→o+k≤512→(convert 27 9 (.slice (some ⟨b,off+o,none⟩) k c)).run Tryz.prog w1=.ok (.string ⟨(fld l o k).toArray⟩) w1:=fun w1 o k c hk hok=>by
  have:=C4 ((hb.fld o k (by omega)).keep hk (fun h=>h)) c
  rw[Dq l o k (by omega)] at this
  exact this
 have HC:=hid hC;clear hb hP hC;have hsum:((n:Int) != (Bz l 512:Int))=false∨(((n:Int) != (Bz l 512:Int))=true∧((n:Int) != C5 l 512)=false):=by
  by_cases h:(n:Int)=Bz l 512
  ·exact .inl (by rw[h];exact bne_self_eq_false _)
  ·rcases hgood with h1|h1
   ·exact absurd h1 h
   ·exact .inr ⟨by rw[bne_iff_ne];exact h,by rw[h1];exact bne_self_eq_false _⟩
 have hfmt:∃(m t g v:Bool),Hid ((if m then (if t then 16 else 6) else if g&&v then 8 else 1)=Ld l) ∧
   (fld l 257 6==[117,115,116,97,114,0])=m∧(fld l 508 4==[116,97,114,0])=t ∧
   (fld l 257 6==[117,115,116,97,114,32])=g∧(fld l 263 2==[32,0])=v:=by
  exact⟨_,_,_,_,show _=_ from rfl,rfl,rfl,rfl,rfl⟩
 obtain⟨m,t,g,v,HF,e1,e2,e3,e4⟩:=hfmt;clear hgood;have hfm:∃f,Ld l=f:=⟨_,rfl⟩;obtain⟨f,hf⟩:=hfm;rw[hf];rw[hf] at HF;clear hf;go_enter Tryz.func204,Tryz.ntmps204
 go_wp2_with fail
 refine(Ju _ _).mono ?_;rintro e w1 ⟨rfl,rfl⟩;go_wp2_with fail
 refine(Mm _ _ _).mono ?_;rintro e w1 ⟨rfl,rfl⟩;go_wp2_with fail
 refine(HP.out _ _ ((Kp.refl _ _).alloc _)).mono ?_;rintro e w1 ⟨rfl,hk1⟩;have hkw1:Kp (fun _=>False) w w1:=((Kp.refl _ _).alloc _).trans hk1;have hp1:w1.cell? ⟨w.heap.size,0,none⟩=some .nilIface:=hk1.cell (cell_of (Ba w _) 0 rfl) (fun h=>h);go_wp2_with fail
 refine(Jq w1 b off l (HB.out.keep hkw1 (fun h=>h)) hl).mono ?_;rintro e w2 ⟨rfl,hk2⟩;have hkw2:=hkw1.trans hk2;have hp2:w2.cell? ⟨w.heap.size,0,none⟩=some .nilIface:=hk2.cell hp1 (fun h=>h);have c1:(convert 27 9 (.slice (some ⟨b,off+257,none⟩) 6 255)).run Tryz.prog w2=.ok (.string ⟨(fld l 257 6).toArray⟩) w2:=HC.out w2 257 6 255 hkw2 (by omega)
 have c2:(convert 27 9 (.slice (some ⟨b,off+263,none⟩) 2 249)).run Tryz.prog w2=.ok (.string ⟨(fld l 263 2).toArray⟩) w2:=HC.out w2 263 2 249 hkw2 (by omega)
 have c3:(convert 27 9 (.slice (some ⟨b,off+508,none⟩) 4 4)).run Tryz.prog w2=.ok (.string ⟨(fld l 508 4).toArray⟩) w2:=HC.out w2 508 4 4 hkw2 (by omega)
 clear hp1 hkw1 hk1 hk2;have hcs:(m=true∧t=true)∨(m=true∧t=false)∨(m=false∧g=false)∨(m=false∧g=true∧v=true)∨(m=false∧g=true∧v=false):=by
  clear HF e1 e2 e3 e4;cases m<;>cases t<;>cases g<;>cases v<;>decide
 rcases hsum with s1|⟨s1,s2⟩<;>rcases hcs with ⟨rfl,rfl⟩|⟨rfl,rfl⟩|⟨rfl,rfl⟩|⟨rfl,rfl,rfl⟩|⟨rfl,rfl,rfl⟩
 all_goals
  go_wp2_with fail
  refine(Eb _ _).mono ?_;rintro e w3 ⟨rfl,rfl⟩;go_wp2_with fail
  refine(Xp _ _ _).mono ?_;rintro e w3 ⟨rfl,rfl⟩;go_wp2_with fail
  refine(Eb _ _).mono ?_;rintro e w3 ⟨rfl,rfl⟩;go_wp2_with fail
  refine(Rn _ _ _).mono ?_;rintro e w3 ⟨rfl,rfl⟩;go_wp2_with fail
  refine(Xq _ _).mono ?_;rintro e w3 ⟨rfl,rfl⟩;go_wp2_with fail
  refine(Ro _ _ _).mono ?_;rintro e w3 ⟨rfl,rfl⟩;go_wp2_with fail
  go_ret
  exact⟨by rw[←HF.out];rfl,hkw2⟩
end Go.Proofs.YtgfcnjfmmjcodaaGreatDoor
