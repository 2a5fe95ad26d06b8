/- Copies of texts into a block. -/
import Derived.Laws.CopyRow
import Derived.Deep.RegionHeld3
import Derived.Lib.AppendZeros
import Derived.Test.YtgfcnjfmmjcodaaGreatDoorP08
set_option linter.all false
set_option maxRecDepth 100000
set_option maxHeartbeats 1000000
open Go.Lib (hid)
namespace Go.Proofs.YtgfcnjfmmjcodaaGreatDoor
open Go Go.RowKit
theorem Bcg (l:List UInt8)(n:Nat):ubs (l.take n)=(ubs l).take n:=by simp[ubs,List.map_take]
theorem Uh (w:World)(ty:TypeId)(g o n c:Nat)(l:List UInt8)(cur:List Value)(t:TypeId)(hg:w.heap[g]?=some (.cells cur.toArray t (0,0)))(hfit:o+n≤cur.length) :
  (Builtin.copy_ #[27,9] ty #[.slice (some ⟨g,o,none⟩) n c, .string ⟨l.toArray⟩]).run Tryz.prog w =
   .ok (goInt (Nat.min l.length n)) (w.setRow g (splice cur o (ubs (l.take n))).toArray):=by
 have hlen:(ubs (l.take n)).length=Nat.min l.length n:=by rw[Bi,List.length_take,Nat.min_comm]
 have hle:Nat.min l.length n≤n:=Nat.min_le_right _ _;have hst:=run_storeCells_at Tryz.prog g o t (ubs (l.take n)) 0 cur.toArray w hg (by rw[hlen];simp only[List.size_toArray];omega) (Il _)
 have htk:List.take (Nat.min l.length n) (List.map (fun b:UInt8=>Value.int IntKind.u8 (b.toNat:Int)) l)=ubs (l.take n):=by
  rw[Bcg];show List.take _ (ubs l)=_;apply List.ext_getElem?;intro j;rw[List.getElem?_take,List.getElem?_take];by_cases hj:j<n
  ·rw[if_pos hj];by_cases hl:j<l.length
   ·rw[if_pos (Nat.lt_min.2 ⟨hl,hj⟩)]
   ·rw[if_neg (fun h=>hl (Nat.lt_min.1 h).1),List.getElem?_eq_none (by rw[Bi];omega)]
  ·rw[if_neg hj,if_neg (fun h=>hj (Nat.lt_min.1 h).2)]
 obtain⟨i,hi,hz,hsz,hby⟩:=info5;rw[hlen] at hst;simp only[Nat.add_zero] at hst;simp[Builtin.copy_,run_underlying Tryz.underlying27,Builtin.lenOf,Builtin.firstCells,sizeOf,typeInfo,hi,hsz,ByteArray.size];rw[htk,hst];simp[Result.andThen,splice,hlen]
theorem E3 (w:World)(C m b off k c:Nat)(n:Int)(gnu:Bool)(L:List UInt8)(hC:Cho w C m)(hm:m+10≤1000000000000)(hCb:C<b)(hk:3≤k∧k≤12)(hkc:k≤c)
  (hn: -9223372036854775808≤n∧n≤9223372036854775807) (hf:gnu=true∨0≤n∧n<8 ^ (k-1)) (hb:RowB w b L) (hfit:off+k≤L.length) :
  Calls Tryz.prog 123 #[.pointer (some ⟨C,0,none⟩), .slice (some ⟨b,off,none⟩) k c, .int .i64 n, .bool gnu] w fun e w'=>
   e=.returned (.tuple #[])∧Kp (fun i=>i=b∨i=C) w w'∧Cho w' C (m+4)∧∃f,NumE gnu k n f∧RowB w' b (splice L off f):=by
 have key:Calls Tryz.prog 123 #[.pointer (some ⟨C,0,none⟩), .slice (some ⟨b,off,none⟩) k c, .int .i64 n, .bool gnu] w (NumEnd w C m b off k n gnu (ubs L) 5):=by
  cases gnu with
  |true=>exact Xv w C m b off k c n (ubs L) 5 hC hm hCb hk hkc hn hb (by rw[Bi];exact hfit)
  |false=>
   (obtain⟨h0,h1⟩:=hf.resolve_left (by simp));(obtain⟨q,rfl⟩:∃q:Nat,n=(q:Int):=⟨n.toNat,by omega⟩);(have h3:((8 ^ (k-1):Nat):Int)=(8:Int) ^ (k-1):=by rw[Int.natCast_pow];rfl);exact R8 w C m b off k c q (ubs L) 5 hC (by omega) hCb hk hkc (by omega) hb (by rw[Bi];exact hfit)
 refine key.mono ?_;rintro e w' ⟨h1,h2,h3,f,h4,h5⟩;refine⟨h1,h2,h3,f,h4,?_⟩;unfold RowB;rw[←Rx];exact h5
theorem X1 (l m:List UInt8):∀k,(∀i,i<k→¬(148≤i∧i<156)→l.getD i 0=m.getD i 0)→Bz l k=Bz m k:=by
 intro k;induction k with
 |zero=>intro _;rfl
 |succ k ih=>
  intro h;rw[Bz,Bz,ih fun i hi hn=>h i (by omega) hn]
  congr 2
  unfold ck;split
  ·rfl
  ·rename_i hn;exact h k (by omega) hn
theorem Vo (l f:List UInt8)(hl:l.length=512)(hf:f.length=8):Bz (splice l 148 f) 512=Bz l 512:=by
 refine X1 _ _ 512 fun i hi hn=>?_;rw[List.getD_eq_getElem?_getD,List.getD_eq_getElem?_getD,Rw _ _ _ _ (by omega),if_neg (by omega)]
def Bch (w:World)(C m b:Nat)(l:List UInt8)(e:Ending)(w':World):Prop:=
 e=.returned (.slice (some ⟨b,0,none⟩) 512 512)∧Kp (fun i=>i=b∨i=C) w w'∧Cho w' C (m+2)∧∃f,NumE false 8 (Bz l 512) f∧RowB w' b (splice l 148 f)
theorem Lg (w:World)(ty:TypeId)(b off k c g c2:Nat)(f cur:List UInt8)(hf:f.length=k)(hb:RowB w b cur)(hg:RowB w g f)(hfit:off+k≤cur.length) :
  ∃w',(Builtin.copy_ #[27,27] ty #[.slice (some ⟨b,off,none⟩) k c, .slice (some ⟨g,0,none⟩) k c2]).run Tryz.prog w=.ok (.int .i64 k) w'∧Kp (· =b) w w'∧RowB w' b (splice cur off f):=by
 have hr:=run_copy_row (P:=Tryz.prog) w 27 27 ty 5 b off k c ⟨g,0,none⟩ k c2 (ubs cur).toArray 5 (ubs f) Tryz.underlying27 (by kernel_rfl) hb (by rw[Bi,hf];exact(Nat.min_self _).symm) (fun j v hv=>by rw[add_plain',Nat.zero_add];exact cell_of hg j (by simpa using hv))
  (by rw[Bi,hf];simp only[List.size_toArray,Bi];exact hfit) (Il f)
 refine⟨_,?_,Kp.setRow (S:=(· =b)) (Kp.refl _ _) (.inl rfl) (splice (ubs cur) off (ubs f)).toArray,?_⟩
 ·rw[hr,Bi,hf];simp[splice,hf,goInt,Bi]
 ·unfold RowB;rw[Rx];exact setRow_heap w b (ubs cur).toArray _ 5 (0,0) hb
theorem Vp (w:World)(cs:List Bool):J0 (w.alloc (.cells (cs.map Value.bool).toArray 4)) w.heap.size 0 cs.length:=by
 intro i hi;refine⟨cs[i],cell_of (Ba w _) (0+i) ?_⟩;simp[hi]
theorem M4 (w:World)(C m b:Nat)(l:List UInt8)(hC:Cho w C m)(hm:m+10≤1000000000000)(hCb:C<b)(hb:RowB w b l)(hl:l.length=512) :
  Calls Tryz.prog 124 #[.pointer (some ⟨C,0,none⟩), .slice (some ⟨b,0,none⟩) 512 512] w (Bch w C m b l):=by
 have hB:BytesAt w b 0 l:=fun j v hv=>by rw[Nat.zero_add];exact cell_of hb j (by simpa using hv)
 have HS:=hid (Bbt w b 0 512 l hB hl);have HC:=hid hC;have HB:=hid hb;have hsum:=Ks l 512;have HFIN:∀w1 w5 k0 k1 tail,Hid (1≤tail∧tail≤2→Kp (fun i=>i=C) w1 w5→Cho w5 C (m+2)→∀w6,Kp (· =b) w5 w6→RowB w6 b (splice l 148 (Db (8-tail) (Bz l 512)++tails k0 k1 tail))→w1=w→Bch w C m b l (.returned (.slice (some ⟨b,0,none⟩) 512 512)) w6):=fun w1 w5 k0 k1 tail=>by
  intro ht hk hc w6 hk6 hr e;subst e;have h6:Bz l 512<8 ^ (8-tail):=by
   (have:(8:Nat) ^ 6≤8 ^ (8-tail):=Nat.pow_le_pow_right (by omega) (by omega));omega
  exact⟨rfl,(hk.mono (fun _ _ h=>.inr h)).trans (hk6.mono (fun _ _ h=>.inl h)),hc.keep hk6 (fun i hi=>by omega) (Nat.le_refl _),_, .oct (Bz l 512) tail k0 k1 rfl ht.1 ht.2 (by omega) h6,hr⟩
 clear hB hC hb;go_enter Tryz.func124,Tryz.ntmps124
 go_wp2_with fail
 refine HS.out.mono ?_;rintro e w1 ⟨⟨s2,rfl⟩,rfl⟩;go_wp2_with fail
 refine(Cs w1 C m 2 HC.out (by omega) (by omega)).mono ?_
 rintro e w2 ⟨⟨v,hv,rfl⟩,hk2,hc2⟩;have hb2:=hk2.heap HB.out (by omega)
 by_cases hv0:v=0
 ·subst hv0;have hk4:∀o,Kp (fun i=>i=C) w1 (w2.alloc o):=fun o=>hk2.alloc o;have hb4:∀o,RowB (w2.alloc o) b l:=fun o=>((Kp.refl (fun _=>False) w2).alloc o).heap hb2 (fun h=>h);have hc4:∀o,Cho (w2.alloc o) C (m+2):=fun o=>hc2.keep ((Kp.refl (fun _=>False) w2).alloc o) (fun _ h=>h.elim) (by omega)
  have hsz4:∀o,(w2.alloc o).heap.size=w2.heap.size+1:=fun o=>by show (w2.heap.push _).size=_;simp
  have HPO:=hid (Du (w2.alloc (.cells #[.bool false, .bool true] 4)).drew 8 2 (Bz l 512) w2.heap.size 0 2 2 (by omega) (by omega) (by omega) (by omega) (Vp w2 [false,true]) (by show w2.heap.size<(w2.alloc _).heap.size;rw[hsz4];omega) (by omega) (by omega))
  have HK4:=hid hk4;have HB4:=hid hb4;have HC4:=hid hc4;clear hk2 hc2 hb2 hk4 hb4 hc4;go_wp2_with fail
  go_region_held3 (fun _=>True) (trivial) (first|(go_at_call 200;refine HPO.out.mono ?_;rintro e w5 ⟨rfl,hk5,k0,k1,hrow⟩;rw[show ((w2.alloc (.cells #[.bool false, .bool true] 4)).drew).heap.size=w2.heap.size+1 from hsz4 _] at hrow;obtain⟨w6,hr6,hk6,hb6⟩:=Lg w5 3 b 148 8 364 (w2.heap.size+1) 8 _ l (by rw[List.length_append,Dc,tails,List.length_take];rfl) (hk5.heap (HB4.out _) (fun h=>h)) hrow (by omega)))
  have hb5:=hk5.heap (HB4.out _) (fun h=>h);have hc5:=((HC4.out (.cells #[.bool false, .bool true] 4)).keep ((Kp.refl (fun _=>False) _).drew) (fun _ h=>h.elim) (Nat.le_refl _)).keep hk5 (fun _ h=>h.elim) (Nat.le_refl _);have hk15:=((HK4.out (.cells #[.bool false, .bool true] 4)).drew).then hk5 (fun _ _ h=>h.elim);have FIN:=hid ((HFIN w1 w5 k0 k1 2).out ⟨by omega,by omega⟩ hk15 hc5 w6 hk6 hb6 rfl)
  rename_i hHeld;clear hHeld hr6 hk6 hb6 hk15 hc5 hb5 hrow hk5 HK4 HB4 HC4 HFIN HPO;go_wp2_with fail
  go_ret
  exact FIN.out
 ·have hv1:((v:Int)==0)=false:=by rw[beq_eq_false_iff_ne];omega
  have HC2:=hid hc2;have HB2:=hid hb2;have HK2:=hid hk2;clear hk2 hc2 hb2 HC;go_wp2_with fail
  go_region_held3 (fun _=>True) (trivial)
   (first
    |(go_at_call 39;refine(Cs _ C (m+1) 2 (HC2.out.keep ((Kp.refl (fun _=>False) _).drew) (fun _ h=>h.elim) (Nat.le_refl _)) (by omega) (by omega)).mono ?_;rintro e w3 ⟨⟨v2,hv2,rfl⟩,hk3,hc3⟩;have HK3:=hid (HK2.out.drew.trans hk3);have HB3:=hid (hk3.heap (heap_drew HB2.out) (by omega));have HC3:=hid hc3;clear hk3 hc3;have hsz3:∀o,(w3.alloc o).heap.size=w3.heap.size+1:=fun o=>by show (w3.heap.push _).size=_;simp)
    |(go_at_call 200;refine(Du _ 8 1 (Bz l 512) w3.heap.size 0 1 1 (by omega) (by omega) (by omega) (by omega) (Vp w3 [_]) (by rw[hsz3];omega) (by omega) (by omega)).mono ?_;rintro e w5 ⟨rfl,hk5,k0,k1,hrow⟩;rw[hsz3] at hrow ⊢;obtain⟨w6,hr6,hk6,hb6⟩:=Lg w5 3 b 148 8 364 (w3.heap.size+1) 8 _ l (by rw[List.length_append,Dc,tails,List.length_take];rfl) (hk5.heap (heap_alloc HB3.out _) (fun h=>h)) hrow (by omega)))
  have hc5:=(HC3.out.keep ((Kp.refl (fun _=>False) _).alloc _) (fun _ h=>h.elim) (Nat.le_refl _)).keep hk5 (fun _ h=>h.elim) (Nat.le_refl _);have hk15:=(HK3.out.alloc _).then hk5 (fun _ _ h=>h.elim);have FIN:=hid ((HFIN w1 w5 k0 k1 1).out ⟨by omega,by omega⟩ hk15 hc5 w6 hk6 hb6 rfl)
  rename_i hHeld;clear hHeld hr6 hk6 hb6 hk15 hc5 hrow hk5 HK3 HB3 HC3 HFIN;go_wp2_with fail
  go_ret
  exact FIN.out
theorem Cg (k:Nat):Builtin.zeroCells (Value.int .u8 0).cells k=(ubs (List.replicate k 0)).toArray:=by
 apply Array.ext
 ·simp[Builtin.zeroCells,Value.cells,ubs]
 ·intro i h1 h2;have hi:i<k:=by simpa[Builtin.zeroCells,Value.cells] using h1
  simp[Builtin.zeroCells,Value.cells,ubs,ub,Nat.mod_one]
theorem Es (w:World)(base:Nat)(v:Value)(xs:List UInt8)(n:Nat)(tn ty:TypeId)(k kn:IntKind)(htn:Tryz.prog.underlying tn=some (.int kn))(hown:OwnB w base v xs)
  (hn:xs.length+n≤140737488355328) (hbase:base≤w.heap.size) :
  ∃v' w',(Builtin.append_ #[27,tn] ty #[v, .int k n]).run Tryz.prog w=.ok v' w'∧OwnB w' base v' (xs++List.replicate n 0)∧Kp (fun j=>some j=v.ownBlock) w w':=by
 obtain⟨i,hi,hz,hsz,hby⟩:=info5;have ht:=Tryz.underlying27;have hw:IntKind.i64.wrap (n:Int)=n:=by rw[IntKind.wrap_i64];omega
 have hneg:¬((n:Int)<0):=by omega
 have h48i:¬(281474976710656<(n:Int)):=by omega
 have hzl:(ubs (List.replicate n (0:UInt8))).length=n:=by rw[Bi,List.length_replicate]
 have hlen:(xs++List.replicate n (0:UInt8)).length=xs.length+n:=by rw[List.length_append,List.length_replicate]
 rcases hown.2 with ⟨rfl,hx⟩|⟨g,cap,cur,rfl,hbg,hg,hnc,hcm,hcs,htake⟩
 ·have hx:xs=[]:=List.eq_nil_of_length_eq_zero hx;subst hx;by_cases h0:n=0
  ·subst h0;refine⟨.slice none 0 0,w,?_,OwnB.nil _ _,Kp.refl _ _⟩;simp[Builtin.append_,run_underlying ht,run_underlying htn,sizeOf,typeInfo,hi,asInt,asIntOf,show IntKind.i64.wrap 0=0 from rfl]
  ·(have hr:=Lib.run_append_nil_zeros (P:=Tryz.prog) w 27 tn ty 5 i (.int .u8 0) k kn ht htn hi hz n (by omega) (by omega) (by omega) (by rw[hby];omega));have hge:=grownCap_ge w n 0 5;(have hcm:grownCap w n 0 5≤maxLen:=grownCap_le_maxLen w n 0 5 (by simp only[maxLen];omega));refine⟨_,_,hr,⟨by simp[ubs], .inr ⟨w.heap.size,_,_,?_,hbase,heap_alloc_new w.drew _,?_,hcm,?_,?_⟩⟩,(Kp.refl _ _).drew.alloc _⟩
   ·simp
   ·simpa using hge
   ·rw[Cg,Cg];simp[ubs];omega
   ·rw[Cg,Cg];simp[ubs]
 ·have hcs':cur.size=cap:=by simpa using hcs
  have htk:cur.toList.take xs.length=ubs xs:=by simpa using htake
  have hcells:∀(W:World),W.heap=w.heap→∀(j:Nat) (u:Value),(ubs xs)[j]?=some u→W.cell? ((⟨g,0,none⟩:Addr).add j)=some u:=fun W hW j u hu=>by
   rw[add_plain',Nat.zero_add];(refine cell_of (w:=W) (b:=g) (cs:=cur) (t:=5) (fr:=(0,0)) (by rw[hW];exact hg) j ?_);rw[←htk,List.getElem?_take] at hu;split at hu
   ·simpa using hu
   ·cases hu
  by_cases hroom:xs.length+n≤cap
  ·by_cases h0:n=0
   ·subst h0;(refine⟨.slice (some ⟨g,0,none⟩) xs.length cap,w,?_,by simpa using hown,Kp.refl _ _⟩);simp[Builtin.append_,run_underlying ht,run_underlying htn,sizeOf,typeInfo,hi,asInt,asIntOf,show IntKind.i64.wrap 0=0 from rfl,hnc,storeCells]
   ·(have hst:=run_storeCells_at Tryz.prog g xs.length 5 (ubs (List.replicate n 0)) 0 cur w hg (by rw[hzl];omega) (Il _));simp only[Nat.add_zero] at hst;obtain⟨R,hR⟩:∃R,(List.take xs.length cur.toList++ubs (List.replicate n 0)++List.drop (xs.length+(ubs (List.replicate n 0)).length) cur.toList).toArray=R:=⟨_,rfl⟩;rw[hR] at hst;(have hRs:R.size=cap:=by rw[←hR];simp[ubs];omega);have hRt:R.toList.take (xs.length+n)=ubs (xs++List.replicate n 0):=by
     rw[←hR,D2,←htk];(have:(List.take xs.length cur.toList++ubs (List.replicate n 0)).length=xs.length+n:=by rw[htk];simp[ubs]);rw[←this];exact List.take_left
    have hr:(Builtin.append_ #[27,tn] ty #[.slice (some ⟨g,0,none⟩) xs.length cap, .int k n]).run Tryz.prog w=.ok (.slice (some ⟨g,0,none⟩) (xs.length+n) cap) (w.setRow g R):=by
     simp[Builtin.append_,run_underlying ht,run_underlying htn,sizeOf,typeInfo,zeroValue,hi,hz,hsz,hby,asInt,asIntOf,hw,hneg,h48i,hroom,h0,Cg,Addr.add_lit,hst]
    exact⟨_,_,hr,⟨by simp[ubs], .inr ⟨g,cap,R,by rw[hlen],hbg,setRow_heap w g cur R 5 (0,0) hg,by rw[hlen];exact hroom,hcm,by rw[Nat.mul_one];exact hRs,by rw[Nat.mul_one,hlen];exact hRt⟩⟩,Kp.setRow (S:=fun j=>some j=Value.ownBlock (.slice (some ⟨g,0,none⟩) xs.length cap)) (Kp.refl _ _) (.inl rfl) R⟩
  ·(have h0:n≠0:=by omega);(have hf:=run_firstCells_some (P:=Tryz.prog) w.drew i.size xs.length ⟨g,0,none⟩ xs.length cap (ubs xs) (by rw[Bi,hsz,Nat.mul_one]) (hcells w.drew rfl));(have h63':¬(9223372036854775807<((xs.length:Int)+(n:Int))):=by omega);(have h48':=growslice_fits (bytes:=1) (need:=xs.length+n) (old:=cap) (by omega) (by omega));have hge:=grownCap_ge w (xs.length+n) cap 5;(have hcm2:grownCap w (xs.length+n) cap 5≤maxLen:=grownCap_le_maxLen w _ _ 5 (by simp only[maxLen];omega));have hr:(Builtin.append_ #[27,tn] ty #[.slice (some ⟨g,0,none⟩) xs.length cap, .int k n]).run Tryz.prog w=.ok (.slice (some ⟨w.heap.size,0,none⟩) (xs.length+n) (grownCap w (xs.length+n) cap 5)) (w.drew.alloc (.cells ((ubs xs).toArray++Builtin.zeroCells (Value.int .u8 0).cells n++Builtin.zeroCells (Value.int .u8 0).cells (grownCap w (xs.length+n) cap 5-(xs.length+n))) 5)):=by
    rw[hsz] at hf;rw[Nat.mul_one] at h48';(have h48n:¬(281474976710656<Builtin.nextslicecap (xs.length+n) cap):=by omega);simp[Builtin.append_,run_underlying ht,run_underlying htn,sizeOf,typeInfo,zeroValue,hi,hz,hsz,hby,asInt,asIntOf,hw,hneg,h48i,hroom,h0,h63',h48n,Question.forced,hf,newRow,grownCap]
   refine⟨_,_,hr,⟨by simp[ubs], .inr ⟨w.heap.size,_,_,?_,hbase,heap_alloc_new w.drew _,?_,hcm2,?_,?_⟩⟩,(Kp.refl _ _).drew.alloc _⟩
   ·rw[hlen]
   ·rw[hlen];exact hge
   ·rw[Cg,Cg];simp[ubs];omega
   ·rw[Cg,Cg];simp[ubs];(have h1:(List.map ub xs++List.replicate n (ub 0)).length=xs.length+n:=by simp);generalize grownCap w (xs.length+n) cap 5-(xs.length+n)=q;rw[←List.replicate_append_replicate,←List.append_assoc,←h1];exact List.take_left
theorem M5 (w:World)(ty:TypeId)(base:Nat)(v:Value)(xs:List UInt8)(hown:OwnB w base v xs)(ad:Addr)(m c:Nat)(l:List UInt8)(hl:l.length=m)
  (hcells:∀(j:Nat) (u:Value),(ubs l)[j]?=some u→w.cell? (ad.add j)=some u) (hbytes:xs.length+m≤140737488355328) (hbase:base≤w.heap.size) :
  ∃v' w',(Builtin.append_ #[27,27] ty #[v, .slice (some ad) m c]).run Tryz.prog w=.ok v' w'∧OwnB w' base v' (xs++l)∧Kp (fun k=>some k=v.ownBlock) w w'∧(v'.ownBlock=v.ownBlock∨v'.ownBlock=some w.heap.size):=by
 obtain⟨i0,hi,hz,hsz,hby⟩:=info5;obtain⟨v',w',hrun,h2,h3,_,h5⟩:=run_append_own_at (P:=Tryz.prog) w base 27 ty 5 i0 (.int .u8 0) 1 1 Tryz.underlying27 hi hz hsz hby rfl (by omega) v xs.length (ubs xs) hown ad m c (ubs l) (by rw[Bi,hl,Nat.mul_one]) hcells (Il l) (by simp only[maxLen];omega) (by omega) hbase
 refine⟨v',w',hrun,?_,Kp.of_grownBy h3,h5⟩;unfold OwnB;rw[D2,List.length_append,hl];exact h2
theorem X2 (w:World)(ty:TypeId)(base:Nat)(v:Value)(xs:List UInt8)(hown:OwnB w base v xs) :
  (Builtin.append_ #[27,27] ty #[v, .slice none 0 0]).run Tryz.prog w=.ok v w:=by
 obtain⟨i0,hi,hz,hsz,hby⟩:=info5;rcases hown.2 with ⟨rfl,hx⟩|⟨g,cap,cur,rfl,hbg,hg,hnc,hcm,hcs,htake⟩
 ·simp[Builtin.append_,run_underlying Tryz.underlying27,sizeOf,typeInfo,hi,Builtin.lenOf,Builtin.firstCells]
 ·simp[Builtin.append_,run_underlying Tryz.underlying27,sizeOf,typeInfo,hi,Builtin.lenOf,Builtin.firstCells,hnc,storeCells]
def DataAt (w:World)(v:Value)(l:List UInt8):Prop:=Nil0 v∧l=[]∨∃b o c,v=.slice (some ⟨b,o,none⟩) l.length c∧BytesAt w b o l
theorem Ge (w:World)(ty:TypeId)(base:Nat)(v x:Value)(xs l:List UInt8)(hown:OwnB w base v xs)(hx:DataAt w x l)(hbytes:xs.length+l.length≤140737488355328)(hbase:base≤w.heap.size) :
  ∃v' w',(Builtin.append_ #[27,27] ty #[v,x]).run Tryz.prog w=.ok v' w'∧OwnB w' base v' (xs++l)∧Kp (fun k=>some k=v.ownBlock) w w'∧(v'.ownBlock=v.ownBlock∨v'.ownBlock=some w.heap.size):=by
 rcases hx with ⟨rfl|⟨a,c,rfl⟩,rfl⟩|⟨b,o,c,rfl,hb⟩
 ·exact⟨v,w,X2 w ty base v xs hown,by rw[List.append_nil];exact hown,Kp.refl _ _, .inl rfl⟩
 ·exact M5 w ty base v xs hown a 0 c [] rfl (fun j u hu=>by cases hu) hbytes hbase
 ·exact M5 w ty base v xs hown ⟨b,o,none⟩ l.length c l rfl (fun j u hu=>by rw[add_plain'];exact hb j u hu) hbytes hbase
theorem DataAt.shape {w:World}{x:Value}{l:List UInt8}(h:DataAt w x l):∃A c,x=.slice A l.length c:=by
 rcases h with ⟨h,rfl⟩|⟨b,o,c,rfl,_⟩
 ·exact h.shape
 ·exact⟨_,c,rfl⟩
theorem M6 (w:World)(x:Value)(l:List UInt8)(hx:DataAt w x l)(hlen:l.length≤1099511627776) :
  Calls Tryz.prog 77 #[x] w fun e w'=>∃v,e=.returned v∧OwnB w' w.heap.size v (Cb l)∧Kp (fun _=>False) w w':=by
 obtain⟨v1,w1,hr1,hown1,hk1,hb1⟩:=Ge w 27 w.heap.size (.slice none 0 0) x [] l (OwnB.nil _ _) hx (by simp;omega) (Nat.le_refl _)
 obtain⟨A,c,rfl⟩:=hx.shape;have hk1':Kp (fun _=>False) w w1:=hk1.mono (by intro i _ hi;cases hi)
 have hsz:=hk1.size;rw[List.nil_append] at hown1;obtain⟨v2,w2,hr2,hown2,hk2⟩:=Es w1 w.heap.size v1 l (Kw l.length-l.length) 2 27 .i64 .i64 (by kernel_rfl) hown1 (by have:=G7 l.length;omega) hsz
 have hk12:Kp (fun _=>False) w w2:=⟨hk1'.os▸hk2.os,hk1'.tape▸hk2.tape,hk1'.output▸hk2.output,Nat.le_trans hsz hk2.size,fun i hi _=>(hk2.block i (by omega) (fun e=>by have:=(hown1.block e.symm).1;omega)).trans (hk1'.block i hi (fun h=>h))⟩
 have hge:=Y4 l.length;have hsub:((Kw l.length:Nat):Int)-(l.length:Int)=((Kw l.length-l.length:Nat):Int):=by omega
 have hlt:=G7 l.length;have HP:=fun W=>hid (Xu W l.length (by omega))
 have HE:Hid (∃v,Ending.returned v2=.returned v∧OwnB w2 w.heap.size v (Cb l)∧Kp (fun _=>False) w w2):=⟨v2,rfl,hown2,hk12⟩;have HR1:=hid hr1;have HR2:=hid hr2;clear hr1 hr2 hk1 hk2 hk12 hown1 hown2 hb1 hk1' hsz hx;generalize Kw l.length=p at *;go_enter Tryz.func77,Tryz.ntmps77
 go_wp2_with (at_builtin;refine Lib.wpList_append_run _ rfl _ _ _ _ rfl _ _ rfl rfl _ _ HR1.out ?_)
 refine(HP w1).out.mono ?_;rintro e w3 ⟨rfl,rfl⟩;dsimp only;rename_i K h;refine h _ _ ?_;clear h;go_wp2_with (at_builtin;refine Lib.wpList_append_run _ rfl _ _ _ _ rfl _ _ rfl rfl _ _ HR2.out ?_)
 go_ret
 exact HE.out
theorem E4 (a b:List UInt8):(⟨a.toArray⟩:ByteArray)++⟨b.toArray⟩=⟨(a++b).toArray⟩:=by apply ByteArray.ext;simp
theorem E5 (w:World)(n:Nat)(hn:n<9223372036854775808) :
  Calls Tryz.prog 94 #[.int .i64 n] w fun e w'=>e=.returned (.string ⟨(Lib.decDigits n).toArray⟩)∧Kp (fun _=>False) w w':=by
 go_enter Tryz.func94,Tryz.ntmps94
 go_wp2_with fail
 go_loopg [0,3] n (fun g s0 s3 wr=>∃(a:Nat) (t:List UInt8),a≤g∧s0=.int .i64 a∧s3=.string ⟨t.toArray⟩∧Hid (Lib.decDigits n=Lib.decDigits a++t)∧a≤n∧t.length≤100∧Hid (Kp (fun _=>False) w wr))
 case atStart=>exact⟨n,[],Nat.le_refl _,rfl,rfl,(List.append_nil _).symm,Nat.le_refl _,by simp,Kp.refl _ _⟩
 case round=>
  obtain⟨a,t,hag,rfl,rfl,ht,han,htl,hk⟩:=hrel;have hrem:Int.tmod (a:Int) 10=((a%10:Nat):Int):=rfl;have hlt:=Nat.mod_lt a (show 0<10 by omega)
  have hcv:∀x:Nat,x<10→(convert 27 9 (.slice (some ⟨wr.heap.size,0,none⟩) 1 1)).run Tryz.prog (wr.alloc (.cells #[.int .u8 (48+(x:Int))] 5))=.ok (.string ⟨[UInt8.ofNat (48+x)].toArray⟩) (wr.alloc (.cells #[.int .u8 (48+(x:Int))] 5)):=fun x hx=>by
   refine C4 (w:=wr.alloc (.cells #[.int .u8 (48+(x:Int))] 5)) (b:=wr.heap.size) (off:=0) (l:=[UInt8.ofNat (48+x)]) (fun j v hv=>?_) 1
   match j,hv with
   |0,hv=>
    (injection hv with hv);rw[←hv];refine cell_of (Ba wr _) 0 ?_;have:(UInt8.ofNat (48+x)).toNat=48+x:=Gl x hx;show some (Value.int .u8 (48+(x:Int)))=some (ub (UInt8.ofNat (48+x)));unfold ub;rw[this];rfl
   |j+1,hv=>cases hv
  have hc1:=hcv (a%10) hlt;rw[show ((a%10:Nat):Int)=(a:Int)%10 by omega] at hc1
  obtain⟨dg,hdg⟩:∃dg,UInt8.ofNat (48+a%10)=dg:=⟨_,rfl⟩;rw[hdg] at hc1;have hcat:(⟨#[dg]⟩:ByteArray)++⟨t.toArray⟩=⟨(dg::t).toArray⟩:=by apply ByteArray.ext;simp
  have hc1':(convert 27 9 (.slice (some ⟨wr.heap.size,0,none⟩) 1 1)).run Tryz.prog (wr.alloc (.cells #[.int .u8 (48+(a:Int)%10)] 5))=.ok (.string ⟨#[dg]⟩) (wr.alloc (.cells #[.int .u8 (48+(a:Int)%10)] 5)):=hc1;have hcc:Hid (Kp (fun _=>False) w (wr.alloc (.cells #[.int .u8 (48+(a:Int)%10)] 5))):=hk.out.alloc _;have HT:=hid ht.out;have HDG:=hid hdg;clear hcv ht hk hrem hc1 hdg;by_cases h10:a<10
  ·(have hq:((a:Int)/10==0)=true:=by rw[beq_iff_eq];omega);have FIN:Hid (Ending.returned (.string ⟨(dg::t).toArray⟩)=.returned (.string ⟨(Lib.decDigits n).toArray⟩)):=by
    show _=_;rw[HT.out,Lib.decDigits,dif_pos h10,←HDG.out,Nat.mod_eq_of_lt h10];rfl
   clear HT HDG;(go_wp2_with fail);(go_ret);exact⟨FIN.out,hcc.out⟩
  ·(have hq:((a:Int)/10==0)=false:=by rw[beq_eq_false_iff_ne];omega);have NX:Hid (Lib.decDigits n=Lib.decDigits (a/10)++dg::t):=by
    show _=_;rw[HT.out,Lib.decDigits,dif_neg h10,←HDG.out,List.append_assoc];rfl
   clear HT HDG;(go_wp2_with fail);go_roundg (a/10)
   case measure=>omega
   case rel=>exact⟨a/10,dg::t,Nat.le_refl _,by simp,rfl,NX,by omega,by have:=Cr n 19 (by omega) (by omega);rw[NX.out,List.length_append] at this;omega,hcc⟩
def Bag (r:Rec)(wd:Nat)(out:List UInt8):Prop:=
 out=[]∧(∀d,1≤d→d<wd→(Lib.decDigits ((Dv r).length+d)).length≠d)∨out≠[]∧Lt r out
theorem Vq (r:Rec):(Dv r).length=r.1.length+r.2.length+3:=by simp[Dv];omega
set_option maxHeartbeats 1600000 in
theorem O8 (w:World)(r:Rec)(long:Bool)(hl:r.1.length+r.2.length≤281474976710656) :
  Calls Tryz.prog 117 #[.agg #[.string ⟨r.1.toArray⟩, .string ⟨r.2.toArray⟩], .bool long] w fun e w'=>(∃t,e=.returned (.string ⟨t.toArray⟩)∧Lt r t)∧Kp (fun _=>False) w w':=by
 have HN:=fun W n (h:n<9223372036854775808)=>hid (E5 W n h);have hR:=Vq r;have e1:(⟨#[32]⟩:ByteArray)++⟨r.1.toArray⟩=⟨(32::r.1).toArray⟩:=by apply ByteArray.ext;simp
 have e2:(⟨(32::r.1).toArray⟩:ByteArray)++⟨#[61]⟩=⟨((32::r.1)++[61]).toArray⟩:=by apply ByteArray.ext;simp
 obtain⟨q2,hq2⟩:∃q2,(32::r.1)++[(61:UInt8)]=q2:=⟨_,rfl⟩;rw[hq2] at e2;have e3:(⟨q2.toArray⟩:ByteArray)++⟨r.2.toArray⟩=⟨(q2++r.2).toArray⟩:=E4 _ _;obtain⟨q3,hq3⟩:∃q3,q2++r.2=q3:=⟨_,rfl⟩;rw[hq3] at e3;have e4:(⟨q3.toArray⟩:ByteArray)++⟨#[10]⟩=⟨(Dv r).toArray⟩:=by
  have:q3++[10]=Dv r:=by rw[←hq3,←hq2];simp[Dv]
  rw[←this];apply ByteArray.ext;simp
 have hq2l:q2.length=r.1.length+2:=by rw[←hq2];simp
 have hq3l:q3.length=r.1.length+2+r.2.length:=by rw[←hq3,List.length_append,hq2l]
 clear hq2 hq3;have hk0:∀o,Hid (Kp (fun _=>False) w (w.alloc o)):=fun o=>(Kp.refl _ _).alloc _;go_enter Tryz.func117,Tryz.ntmps117
 go_wp2_with fail
 have LP:Hid (Bag r 1 []∧Kp (fun _=>False) w (w.alloc (.cells #[.string ⟨r.1.toArray⟩, .string ⟨r.2.toArray⟩] 136))):=⟨.inl ⟨rfl,fun d h1 h2=>by omega⟩,(hk0 _).out⟩
 clear hk0 e1 e2 e3 e4;generalize w.alloc (.cells #[.string ⟨r.1.toArray⟩, .string ⟨r.2.toArray⟩] 136)=w1 at LP ⊢;obtain⟨R,hR0⟩:∃R,Dv r=R:=⟨_,rfl⟩;rw[hR0] at hR ⊢;have hRb:R.length≤281474976710659:=by omega
 clear hR hl;have HR0:=hid hR0;clear hR0;go_loopg [6,7] 18 (fun g s6 s7 wr=>∃(d:Nat) (out:List UInt8),d+g=19∧1≤d∧s7=.int .i64 d∧s6=.string ⟨out.toArray⟩∧Hid (Bag r d out∧Kp (fun _=>False) w wr))
 case atStart=>exact⟨1,[],by omega,by omega,rfl,rfl,LP⟩
 case round=>
  clear LP;obtain⟨d,out,hdg,hd1,rfl,rfl,hok⟩:=hrel;by_cases hlt:d≤18
  ·obtain⟨hd,hhd⟩:∃hd,Lib.decDigits (R.length+d)=hd:=⟨_,rfl⟩;(have HNN:=fun W=>hid (HN W (R.length+d) (by omega)).out);rw[hhd] at HNN;have HHD:=hid hhd;clear hhd HN;(have hle:decide ((d:Int)≤18)=true:=decide_eq_true (by omega));(have hdl:hd.length≤19:=by rw[←HHD.out];exact Cr _ 19 (by omega) (by omega));(go_wp2_with fail);refine(HNN _).out.mono ?_;rintro e w2 ⟨rfl,hk2⟩;have HK2:=hid (hok.out.2.trans hk2);obtain⟨β,hβ⟩:∃β,((hd.length:Int)==(d:Int))=β:=⟨_,rfl⟩;clear HNN hk2;cases β with
   |false=>
    have NX:Hid (Bag r (d+1) out∧Kp (fun _=>False) w w2):=by
     refine⟨?_,HK2.out⟩;rcases hok.out.1 with ⟨h1,h2⟩|h1
     ·refine .inl ⟨h1,fun e he1 he2=>?_⟩;rcases Nat.lt_or_ge e d with h3|h3
      ·exact h2 e he1 h3
      ·(obtain rfl:e=d:=by omega);rw[HR0.out,HHD.out];intro hc;rw[hc] at hβ;simp at hβ
     ·exact .inr h1
    clear hok;have NX2:=NX;clear NX HK2;(go_wp2_with fail);go_roundg (gk-1)
    case measure=>omega
    case rel=>exact⟨d+1,out,by omega,by omega,by simp,rfl,NX2⟩
   |true=>
    (have hdd:hd.length=d:=by have:=beq_iff_eq.1 hβ;omega);have hcat:(⟨hd.toArray⟩:ByteArray)++⟨R.toArray⟩=⟨(hd++R).toArray⟩:=E4 _ _;have RT:Hid (Lt r (hd++R)):=by
     (have:=Bdy r d (by rw[HR0.out,HHD.out];exact hdd));rwa[HR0.out,HHD.out] at this
    have hne:hd++R≠[]:=by
     intro e;have:=congrArg List.length e;rw[List.length_append,hdd] at this;simp at this;omega
    cases out with
    |nil=>
     have NX:Hid (Bag r (d+1) (hd++R)∧Kp (fun _=>False) w w2):=⟨.inr ⟨hne,RT.out⟩,HK2.out⟩;clear hok RT hne;have NX2:=NX;clear NX HK2;(go_wp2_with fail);go_roundg (gk-1)
     case measure=>omega
     case rel=>exact⟨d+1,_,by omega,by omega,by simp,rfl,NX2⟩
    |cons x xs=>
     have NX:Hid (Bag r (d+1) (x::xs)∧Kp (fun _=>False) w w2):=by
      refine⟨?_,HK2.out⟩;rcases hok.out.1 with ⟨h1,_⟩|h1
      ·cases h1
      ·exact .inr h1
     have NXr:Hid (Bag r (d+1) (hd++R)∧Kp (fun _=>False) w w2):=⟨.inr ⟨hne,RT.out⟩,HK2.out⟩;clear hok RT hne;cases long with
     |true=>
      have NX2:=NXr;clear NX NXr HK2;(go_wp2_with fail);go_roundg (gk-1)
      case measure=>omega
      case rel=>exact⟨d+1,_,by omega,by omega,by simp,rfl,NX2⟩
     |false=>
      have NX2:=NX;clear NX NXr HK2;(go_wp2_with fail);go_roundg (gk-1)
      case measure=>omega
      case rel=>exact⟨d+1,_,by omega,by omega,by simp,rfl,NX2⟩
  ·(obtain rfl:d=19:=by omega);have FIN:Hid ((∃t,Ending.returned (.string ⟨out.toArray⟩)=.returned (.string ⟨t.toArray⟩)∧Lt r t)∧Kp (fun _=>False) w wr):=by
    refine⟨⟨out,rfl,?_⟩,hok.out.2⟩;rcases hok.out.1 with ⟨_,h2⟩|⟨_,h2⟩
    ·(obtain⟨e,he1,he2,he3⟩:=Bbr (Dv r).length (by rw[HR0.out];omega));exact absurd he3 (h2 e he1 (by omega))
    ·exact h2
   clear hok HN;(go_wp2_with fail);(go_ret);exact FIN.out
end Go.Proofs.YtgfcnjfmmjcodaaGreatDoor
