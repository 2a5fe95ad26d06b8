/- chooser.block of the specification, in the formats ustar and. -/
import Derived.Laws.IdiomStrings
import Derived.Test.YtgfcnjfmmjcodaaGreatDoorP18
set_option linter.all false
set_option maxRecDepth 100000
set_option maxHeartbeats 1000000
open Go.Lib (hid)
namespace Go.Proofs.YtgfcnjfmmjcodaaGreatDoor
open Go Go.RowKit
def Bcn (w0:World)(C m:Nat)(h:Hd)(rv:Value)(nm:List UInt8)(w:World):Prop:=∃L1,Bf8 h nm L1∧BlkSt w0 C (m+1) h rv L1 w
def Vt (w0:World)(C m:Nat)(h:Hd)(rv:Value)(base:Nat)(v:Value)(i:Nat)(w:World):Prop:=
 ∃ps,Places h.name i ps∧OwnI w base v ps∧BlkSt w0 C m h rv (List.replicate 512 0) w∧base≤w.heap.size
set_option maxHeartbeats 1600000 in
theorem Vu (w:World)(C m:Nat)(h:Hd)(rv:Value)(fm:Int)(hf:fm=1∨fm=2)(hC:Cho w C m)(hm:m+200≤1000000000000)(hi:NumIn h)(hnl:h.name.length≤1099511627776) :
  Calls Tryz.prog 76 #[.pointer (some ⟨C,0,none⟩), .agg (Bd h rv).toArray, .int .i64 fm] w (M7 w C m h false):=by
 have hCw:C<w.heap.size:=by obtain⟨nv,a,h1,_⟩:=hC;exact Bv h1
 have hk1:∀o,Kp (fun _=>False) w (w.alloc o):=fun o=>(Kp.refl _ _).alloc o;have st0:∀o,o=Obj.cells (Bd h rv).toArray 45→BlkSt w C m h rv (List.replicate 512 0) ((w.alloc o).alloc (.cells (ubs (List.replicate 512 0)).toArray 5)):=by
  rintro o rfl;have k2:=(hk1 (Obj.cells (Bd h rv).toArray 45)).alloc (.cells (ubs (List.replicate 512 0)).toArray 5);have r2:=Ba (w.alloc (.cells (Bd h rv).toArray 45)) (.cells (ubs (List.replicate 512 0)).toArray 5);have hsz:(w.alloc (.cells (Bd h rv).toArray 45)).heap.size=w.heap.size+1:=by show (w.heap.push _).size=_;simp
  rw[hsz] at r2;exact⟨hC.keep k2 (fun _ h=>h.elim) (Nat.le_refl _),r2,heap_alloc (Ba w _) _,k2.mono (fun _ _ h=>h.elim),List.length_replicate⟩
 have hmk:∀w:World,(Instr.makeSlice 27 (.int .i64 512) (.int .i64 512)).run Tryz.prog w=.ok (.slice (some ⟨w.heap.size,0,none⟩) 512 512) (w.alloc (.cells (ubs (List.replicate 512 0)).toArray 5)):=fun w=>Bdw w 512 (by omega)
 have hs1:∀o,(w.alloc o).heap.size=w.heap.size+1:=fun o=>by show (w.heap.push _).size=_;simp
 have hf3:(fm==3)=false:=by rw[beq_eq_false_iff_ne];omega
 have hf3':(fm != 3)=true:=by rw[bne_iff_ne];omega
 have ST0:=fun o=>hid (st0 o);clear st0 hC hk1 hf;unfold Bd at ST0 ⊢;unfold B5 at ST0 ⊢;go_enter Tryz.func76,Tryz.ntmps76
 go_upto_region 2 with fail
 refine(show Code.wp _ _ _ _ ((w.alloc (.cells (Bd h rv).toArray 45)).alloc (.cells (ubs (List.replicate 512 0)).toArray 5)) from ?_)
 have S:=(ST0 (.cells (Bd h rv).toArray 45)).out rfl;generalize (w.alloc (.cells (Bd h rv).toArray 45)).alloc (.cells (ubs (List.replicate 512 0)).toArray 5)=w1 at S ⊢;obtain⟨hv,hhv⟩:∃hv:Value,Value.agg #[.int .u8 (h.typ.toNat:Int), .string ⟨h.name.toArray⟩, .string ⟨h.link.toArray⟩, .int .i64 h.size, .int .i64 h.mode, .int .i64 h.uid, .int .i64 h.gid, .string ⟨h.un.toArray⟩, .string ⟨h.gn.toArray⟩, .int .i64 h.ms, .int .i64 h.mn, .bool h.hasA, .bool h.hasC, .int .i64 h.ats, .int .i64 h.atn, .int .i64 h.cts, .int .i64 h.ctn, .int .i64 h.maj, .int .i64 h.min,rv, .int .i64 h.fmt]=hv:=⟨_,rfl⟩;rw[hhv];clear hhv;have c1:w1.cell? ⟨w.heap.size,1,none⟩=some (.string ⟨h.name.toArray⟩):=cell_of S.hdr 1 rfl;clear ST0 hmk hs1;have hb1:w.heap.size+1<w1.heap.size:=Bv S.row;have SS:=hid S;clear S;go_upto_if 23 with fail
 go_cut [9] from 9 to 73 (fun s9 wx=>∃nm:List UInt8,s9=.string ⟨nm.toArray⟩∧Hid (Bcn w C m h rv nm wx))
 case first=>
  have HASC:=fun W=>hid (Ew W h.name (by omega))
  have HSPL:=fun W i (hi:i≤281474976710656)=>hid (Qo W h.name i (by omega) hi)
  unfold B5 at HASC HSPL;have LP:Hid (Vt w C m h rv w1.heap.size (.slice none 0 0) 0 w1):=⟨[],Places.zero _,OwnI.nil _ _,SS.out,Nat.le_refl _⟩;clear SS c1;go_upto_region 7 with fail
  go_loopg [10,11,26] h.name.length (fun g s10 s11 s26 wr=>∃i:Nat,i+g=h.name.length∧s26=.int .i64 i∧Hid (Vt w C m h rv w1.heap.size s10 i wr))
  case atStart=>exact⟨0,by omega,rfl,LP⟩
  case round=>
   clear LP;obtain⟨i,hig,rfl,hst⟩:=hrel;by_cases hlt:i<h.name.length
   ·obtain⟨β,hβ⟩:∃β,h.name.all okA=β:=⟨_,rfl⟩;obtain⟨γ,hγ⟩:∃γ,splitB h.name i=γ:=⟨_,rfl⟩;rw[hβ] at HASC;(have HS:=fun W=>HSPL W i (by omega));rw[hγ] at HS;clear HSPL;have HBT:=hid (And.intro hβ hγ);clear hβ hγ;cases β with
    |false=>
     have NX:Hid (Vt w C m h rv w1.heap.size u10 (i+1) wr):=by
      obtain⟨ps,h1,h2,h3,h4⟩:=hst.out;exact⟨ps,h1.skip (fun e=>by rw[HBT.out.1] at e;cases e.1),h2,h3,h4⟩
     clear hst;(go_wp2_with (go_at_call 119;refine(HASC _).out.mono ?_;rintro e wx ⟨rfl,rfl⟩));go_roundg (gk-1)
     case measure=>omega
     case rel=>exact⟨i+1,by omega,by simp,NX⟩
    |true=>
     cases γ with
     |false=>
      have NX:Hid (Vt w C m h rv w1.heap.size u10 (i+1) wr):=by
       obtain⟨ps,h1,h2,h3,h4⟩:=hst.out;exact⟨ps,h1.skip (fun e=>by rw[HBT.out.2] at e;cases e.2),h2,h3,h4⟩
      clear hst;(go_wp2_with (first|(go_at_call 119;refine(HASC _).out.mono ?_;rintro e wx ⟨rfl,rfl⟩)|(go_at_call 122;refine(HS _).out.mono ?_;rintro e wx ⟨rfl,rfl⟩)));go_roundg (gk-1)
      case measure=>omega
      case rel=>exact⟨i+1,by omega,by simp,NX⟩
     |true=>
      obtain⟨v2,w2,hr2,NX⟩:∃v2 w2,(Builtin.append_ #[30,30] 30 #[u10, .slice (some ⟨wr.heap.size,0,none⟩) 1 1]).run Tryz.prog (wr.alloc (.cells #[.int .i64 i] 3))=.ok v2 w2∧Hid (Vt w C m h rv w1.heap.size v2 (i+1) w2):=by
       obtain⟨ps,h1,h2,h3,h4⟩:=hst.out;(obtain⟨v2,w2,hr,hown,hk⟩:=X3 wr 30 w1.heap.size u10 ps i h2 (by have:=h1.len;omega) h4);exact⟨v2,w2,hr,ps++[i],h1.add HBT.out.1 HBT.out.2,hown,h3.other hCw hb1 hk,Nat.le_trans h4 hk.size⟩
      clear hst;have HR2:=hid hr2;clear hr2;(go_wp2_with (first|(go_at_call 119;refine(HASC _).out.mono ?_;rintro e wx ⟨rfl,rfl⟩)|(go_at_call 122;refine(HS _).out.mono ?_;rintro e wx ⟨rfl,rfl⟩)|(at_builtin;refine Lib.wpList_append_run _ rfl _ _ _ _ rfl _ _ rfl rfl _ _ HR2.out ?_)));go_roundg (gk-1)
      case measure=>omega
      case rel=>exact⟨i+1,by omega,by simp,NX⟩
   ·(obtain rfl:i=h.name.length:=by omega);obtain⟨ps,hpl,hown,hst2,hbs⟩:=hst.out;clear hst HASC HSPL;obtain⟨A,cc,rfl⟩:=hown.shape;have HPL:=hid hpl;have HOWN:=hid hown;have HST:=hid hst2;have hpn:=hpl.len;clear hpl hown hst2;(go_wp2_with fail);(refine(Cs wr C m (ps.length+1) HST.out.cho (by omega) (by omega)).mono ?_);rintro e w2 ⟨⟨k,hkk,rfl⟩,hk2,hc2⟩;(have st2:BlkSt w C (m+1) h rv (List.replicate 512 0) w2:=⟨hc2,hk2.heap HST.out.row (by omega),hk2.heap HST.out.hdr (by omega),HST.out.kp.trans hk2,HST.out.len⟩);have ST2:=hid st2;(have HOW2:=hid (HOWN.out.keep hk2 (fun b hb e=>by omega)));clear st2 hk2 hc2 HST HOWN;have skip:Hid (ps=[]∨h.name.length≤100→Bcn w C m h rv h.name w2):=fun hor=>by
     refine⟨_, .inl ⟨rfl,rfl,fun ha hl hsp=>?_⟩,ST2.out⟩;rcases hor with rfl|h1
     ·obtain⟨pre,nm,hp⟩:=hsp;have hsb:=Kd hp;have:=(HPL.out.mem pre.length).2 ⟨(Et hsb).2.2.2,(Iw _).2 ha,hsb⟩;cases this
     ·omega
    by_cases hps:ps=[]
    ·have SK:Hid (Bcn w C m h rv h.name w2):=skip.out (.inl hps);(have hl0:(ps.length:Int)=0:=by rw[hps];rfl);clear skip HPL HOW2 ST2 hps;(go_wp2_with fail);go_meet
     case rel=>exact⟨h.name,rfl,SK⟩
    ·have hl0:(0:Int)<(ps.length:Int):=by
      have:=List.length_pos_iff.2 hps;omega
     by_cases hgo:h.name.length≤100∧k=0
     ·obtain⟨hg1,rfl⟩:=hgo;have SK:Hid (Bcn w C m h rv h.name w2):=skip.out (.inr hg1);clear skip HPL HOW2 ST2 hps;(have hd1:decide ((100:Int)<(h.name.length:Int))=false:=decide_eq_false (by omega));have hd0:decide ((0:Int)<(ps.length:Int))=true:=decide_eq_true hl0;(go_wp2_with fail);go_meet
      case rel=>exact⟨h.name,rfl,SK⟩
     ·(have hq:k-1<ps.length:=by omega);obtain⟨p,hp⟩:∃p,ps[k-1]?=some p:=⟨_,List.getElem?_eq_getElem hq⟩;obtain⟨g,c3,hA3,hbg,cp⟩:=HOW2.out.get hp;(injection hA3 with hA1 hA2 hA3);subst hA1 hA3;clear hA2;have hpm:=(HPL.out.mem p).1 (List.mem_of_getElem? hp);have hpl:p<h.name.length:=hpm.1;have hpp:=Et hpm.2.2;have hasc:=(Iw _).1 hpm.2.1;(have hmax:max ((k:Int)-1) 0=((k-1:Nat):Int):=by omega);(have hp0:(0:Int)≤(p:Int):=by omega);(have hp1:(p:Int)≤(h.name.length:Int):=by omega);(have hp2:(p:Int)+1≤(h.name.length:Int):=by omega);have hd0:decide ((0:Int)<(ps.length:Int))=true:=decide_eq_true hl0;obtain⟨q,hqq⟩:∃q,k-1=q:=⟨_,rfl⟩;rw[hqq] at hmax hq cp;have st2d:=ST2.out.grow ((Kp.refl (fun _=>False) w2).drew);(obtain⟨w3,hr3,hk3,hb3⟩:=Cd w2.drew 3 (w.heap.size+1) 345 155 167 (h.name.take p) _ st2d.row (by rw[st2d.len];omega));have e3:(⟨h.name.toArray⟩:ByteArray).extract 0 p=⟨(h.name.take p).toArray⟩:=by
       apply ByteArray.ext;simp[ByteArray.data_extract,List.extract_toArray,List.extract]
      have e4:(⟨h.name.toArray⟩:ByteArray).extract (p+1) h.name.length=⟨(h.name.drop (p+1)).toArray⟩:=by
       apply ByteArray.ext;simp[ByteArray.data_extract,List.extract_toArray,List.extract];rw[List.take_of_length_le (by rw[List.length_drop];omega)]
      (have S3:=st2d.copyTo hCw hk3 hb3 (by rw[List.length_take];omega));have CN:Hid (Bcn w C m h rv (h.name.drop (p+1)) w3):=⟨_, .inr ⟨hasc,_,hpp.1,rfl⟩,S3⟩;clear skip HPL HOW2 hps hpm hpp hasc st2d hk3 hb3 S3 hp ST2;by_cases hlen:100<h.name.length
      ·(have hd1:decide ((100:Int)<(h.name.length:Int))=true:=decide_eq_true (by omega));(go_wp2_with fail);(go_region_held3 (fun _ => True) (trivial) (first | (fail "none")));rename_i hHeld;clear hHeld hr3;(go_wp2_with fail);go_meet
       case rel=>exact⟨_,rfl,CN⟩
      ·(have hk0:¬k=0:=fun e=>hgo ⟨by omega,e⟩);(have hd1:decide ((100:Int)<(h.name.length:Int))=false:=decide_eq_false (by omega));(have hd2:decide ((0:Int)<(k:Int))=true:=decide_eq_true (by omega));(go_wp2_with fail);(go_region_held3 (fun _ => True) (trivial) (first | (fail "none")));rename_i hHeld;clear hHeld hr3;(go_wp2_with fail);go_meet
       case rel=>exact⟨_,rfl,CN⟩
 case rest=>
  obtain⟨nm,rfl,hcn⟩:=hcut;obtain⟨L1,hnm,S1⟩:=hcn.out;clear hcn SS c1;obtain⟨w2,hr2,hk2,hb2⟩:=Cd wc 3 (w.heap.size+1) 0 100 512 nm _ S1.row (by rw[S1.len];omega)
  have S2:=S1.copyTo hCw hk2 hb2 (by rw[List.length_take];omega)
  obtain⟨LN,hLN⟩:∃LN,splice L1 0 (nm.take 100)=LN:=⟨_,rfl⟩;rw[hLN] at S2;have NF:Hid (NameF h false LN):=hLN▸Vs hnm;clear hLN hnm hk2 hb2 S1;go_upto_region 18 with fail
  have d3:w2.cell? ⟨w.heap.size,3,none⟩=some (.int .i64 h.size):=cell_of S2.hdr 3 rfl;have d4:w2.cell? ⟨w.heap.size,4,none⟩=some (.int .i64 h.mode):=cell_of S2.hdr 4 rfl;have d5:w2.cell? ⟨w.heap.size,5,none⟩=some (.int .i64 h.uid):=cell_of S2.hdr 5 rfl;have d6:w2.cell? ⟨w.heap.size,6,none⟩=some (.int .i64 h.gid):=cell_of S2.hdr 6 rfl;have d9:w2.cell? ⟨w.heap.size,9,none⟩=some (.int .i64 h.ms):=cell_of S2.hdr 9 rfl;have d17:w2.cell? ⟨w.heap.size,17,none⟩=some (.int .i64 h.maj):=cell_of S2.hdr 17 rfl;have d18:w2.cell? ⟨w.heap.size,18,none⟩=some (.int .i64 h.min):=cell_of S2.hdr 18 rfl;have SS:=hid S2;clear S2 hr2;go_wp2_with fail
  refine(show Code.wp _ _ _ _ (w2.alloc (.cells (Gg h).toArray 222)) from ?_)
  have LP:Hid (NumLoop w C (m+1) h rv false LN w2.heap.size 0 (w2.alloc (.cells (Gg h).toArray 222))):=
   ⟨⟨_,SS.out.grow ((Kp.refl _ _).alloc _),NumsTo.zero _ _ _ SS.out.len⟩,Ba w2 _⟩
  have hA:w.heap.size+1<w2.heap.size:=Bv SS.out.row;clear d3 d4 d5 d6 d9 d17 d18 SS;generalize w2.alloc (.cells (Gg h).toArray 222)=w3 at LP ⊢;go_loopg [15,16,102] 7 (fun g s15 s16 s102 wr=>∃j:Nat,j+g=7∧s102=.int .i64 j∧Hid (NumLoop w C (m+1) h rv false LN w2.heap.size j wr))
  case atStart=>exact⟨0,by omega,rfl,LP⟩
  case round=>
   clear LP;obtain⟨j,hj,rfl,hl⟩:=hrel;by_cases hlt:j<7
   ·have hb:=K7 j hlt;have ht:=Bcj h j hlt;(have e0:wr.cell? ⟨w2.heap.size,j*3,none⟩=some (.int .i64 (fo j:Nat)):=cell_of hl.out.tbl _ (by rw[List.getElem?_toArray];exact ht.1));(have e1:wr.cell? ⟨w2.heap.size,j*3+1,none⟩=some (.int .i64 (fo j+fw j:Nat)):=cell_of hl.out.tbl _ (by rw[List.getElem?_toArray];exact ht.2.1));(have e2:wr.cell? ⟨w2.heap.size,j*3+2,none⟩=some (.int .i64 (fv h j)):=cell_of hl.out.tbl _ (by rw[List.getElem?_toArray];exact ht.2.2));clear ht;have hg:∀o,Hid (NumLoop w C (m+1) h rv false LN w2.heap.size j (wr.alloc o)):=fun o=>hl.out.grow ((Kp.refl _ _).alloc _);have hfv:=hi.fvs j hlt;(have HF:=fun W=>hid (Cx W (fw j) (fv h j) (by omega) hfv));obtain⟨β,hβ⟩:∃β,(decide (0≤fv h j)&&decide (fv h j<8 ^ (fw j-1)))=β:=⟨_,rfl⟩;rw[hβ] at HF;(have hsto:Hid (stored false (fw j) (fv h j)=if β then fv h j else 0):=by show _=_;rw[←hβ];rfl);(have hfit:Hid (β=true→0≤fv h j∧fv h j<8 ^ (fw j-1)):=fun e=>by rw[e,Bool.and_eq_true] at hβ;exact⟨of_decide_eq_true hβ.1,of_decide_eq_true hβ.2⟩);(have hsub:((fo j:Int)+(fw j:Int))-(fo j:Int)=(fw j:Int):=by omega);clear hl hβ;cases β with
    |true=>
     (go_wp2_with (go_at_call 120;refine(HF _).out.mono ?_;rintro e wx ⟨rfl,rfl⟩));obtain⟨L,hst,hnum⟩:=(hg _).out.st;(refine(E3 _ C (m+1+4*j) (w.heap.size+1) (fo j) (fw j) (512-fo j) (fv h j) false L hst.cho (by omega) (by omega) ⟨hb.2.1,hb.2.2.1⟩ (by omega) hfv (.inr (hfit.out (by trivial))) hst.row (by rw[hst.len];omega)).mono ?_);rintro e w5 ⟨rfl,hk5,hc5,f,hf,hrow⟩;(have NX:Hid (NumLoop w C (m+1) h rv false LN w2.heap.size (j+1) w5):=(hg _).out.next hCw hA hlt hst hnum (by rw[hsto.out];exact hf) hk5 hc5 hrow);clear hg hk5 hc5 hrow hst hnum hf e0 e1 e2 HF;(go_wp2_with fail);go_roundg (gk-1)
     case measure=>omega
     case rel=>exact⟨j+1,by omega,by simp,NX⟩
    |false=>
     (go_wp2_with (go_at_call 120;refine(HF _).out.mono ?_;rintro e wx ⟨rfl,rfl⟩));obtain⟨L,hst,hnum⟩:=(hg _).out.st;(refine(E3 _ C (m+1+4*j) (w.heap.size+1) (fo j) (fw j) (512-fo j) 0 false L hst.cho (by omega) (by omega) ⟨hb.2.1,hb.2.2.1⟩ (by omega) (by omega) (.inr ⟨by omega,by have:(0:Int)<(8:Int) ^ (fw j-1):=Int.pow_pos (by omega);exact this⟩) hst.row (by rw[hst.len];omega)).mono ?_);rintro e w5 ⟨rfl,hk5,hc5,f,hf,hrow⟩;(have NX:Hid (NumLoop w C (m+1) h rv false LN w2.heap.size (j+1) w5):=(hg _).out.next hCw hA hlt hst hnum (by rw[hsto.out];exact hf) hk5 hc5 hrow);clear hg hk5 hc5 hrow hst hnum hf e0 e1 e2 HF;(go_wp2_with fail);go_roundg (gk-1)
     case measure=>omega
     case rel=>exact⟨j+1,by omega,by simp,NX⟩
   ·(obtain rfl:j=7:=by omega);obtain⟨L,hst,hnum⟩:=hl.out.st;clear hl;have hl7:=hid hnum;clear hnum;have c0:wr.cell? ⟨w.heap.size,0,none⟩=some (.int .u8 h.typ.toNat):=cell_of hst.hdr 0 rfl;(obtain⟨x156,b156⟩:=hst.row.at_ 156 (by rw[hst.len];omega));have z156:=Bb hst.row 156;have r4:=hst.row.put 156 h.typ (.int .u8 h.typ.toNat) rfl;have S4:Hid (BlkSt w C (m+1+28) h rv (L.set 156 h.typ) (wr.setCell ⟨w.heap.size+1,156,none⟩ (.int .u8 h.typ.toNat))):=hst.put hCw 156 h.typ;clear hst;(go_upto_region 27 with fail);generalize wr.setCell ⟨w.heap.size+1,156,none⟩ (.int .u8 h.typ.toNat)=w4 at S4 ⊢;clear c0 b156 z156 r4;obtain⟨L4,hL4⟩:∃L4,L.set 156 h.typ=L4:=⟨_,rfl⟩;rw[hL4] at S4;have H4:=hid hL4;clear hL4;have c2:w4.cell? ⟨w.heap.size,2,none⟩=some (.string ⟨h.link.toArray⟩):=cell_of S4.out.hdr 2 rfl;have S4d:=S4.out.grow ((Kp.refl (fun _=>False) _).drew);(obtain⟨w5,hr5,hk5,hb5⟩:=Cd w4.drew 3 (w.heap.size+1) 157 100 355 h.link _ S4d.row (by rw[S4d.len];omega));(have c2b:w5.cell? ⟨w.heap.size,2,none⟩=some (.string ⟨h.link.toArray⟩):=hk5.cell (show w4.drew.cell? _=_ from c2) (by show ¬(w.heap.size=w.heap.size+1);omega));(have S5:=S4d.copyTo hCw hk5 hb5 (by rw[List.length_take];omega));obtain⟨L5,hL5⟩:∃L5,splice L4 157 (h.link.take 100)=L5:=⟨_,rfl⟩;rw[hL5] at S5;have H5:=hid hL5;clear hL5 S4 S4d hk5 hb5;go_region_held3 (fun w' => w'.cell? ⟨w.heap.size, 2, none⟩ = some (.string ⟨h.link.toArray⟩)) (first | (exact c2) | (exact c2b)) (first | (fail "none"))
    rename_i hHeld;clear hHeld hr5 c2 c2b;(obtain⟨w6,hr6,hk6,hb6⟩:=Cd w5 3 (w.heap.size+1) 257 8 255 magicU _ S5.row (by rw[S5.len];omega));(have S6:=S5.copyTo hCw hk6 hb6 (by decide));obtain⟨L6,hL6⟩:∃L6,splice L5 257 (magicU.take 8)=L6:=⟨_,rfl⟩;rw[hL6] at S6;have H6:=hid hL6;clear hL6 S5 hk6 hb6;unfold magicU at hr6;have c7:w6.cell? ⟨w.heap.size,7,none⟩=some (.string ⟨h.un.toArray⟩):=cell_of S6.hdr 7 rfl;have S9d:=S6.grow ((Kp.refl (fun _=>False) _).drew);(obtain⟨wa,hra,hka,hba⟩:=Cd w6.drew 3 (w.heap.size+1) 265 32 247 h.un _ S9d.row (by rw[S9d.len];omega));(have c7b:wa.cell? ⟨w.heap.size,7,none⟩=some (.string ⟨h.un.toArray⟩):=hka.cell (show w6.drew.cell? _=_ from c7) (by show ¬(w.heap.size=w.heap.size+1);omega));(have SA:=S9d.copyTo hCw hka hba (by rw[List.length_take];omega));obtain⟨L10,h10⟩:∃L10,splice L6 265 (h.un.take 32)=L10:=⟨_,rfl⟩;rw[h10] at SA;have H10:=hid h10;clear h10 S6 S9d hka hba;(go_wp2_with fail);clear hr6;(go_region_held3 (fun w' => w'.cell? ⟨w.heap.size, 7, none⟩ = some (.string ⟨h.un.toArray⟩)) (first | (exact c7) | (exact c7b)) (first | (fail "none")));rename_i hHeld;clear hHeld hra c7 c7b;have c8:wa.cell? ⟨w.heap.size,8,none⟩=some (.string ⟨h.gn.toArray⟩):=cell_of SA.hdr 8 rfl;have SAd:=SA.grow ((Kp.refl (fun _=>False) _).drew);obtain⟨wb,hrb,hkb,hbb⟩:=Cd wa.drew 3 (w.heap.size+1) 297 32 215 h.gn _ SAd.row (by rw[SAd.len];omega)
    (have c8b:wb.cell? ⟨w.heap.size,8,none⟩=some (.string ⟨h.gn.toArray⟩):=hkb.cell (show wa.drew.cell? _=_ from c8) (by show ¬(w.heap.size=w.heap.size+1);omega));(have SB:=SAd.copyTo hCw hkb hbb (by rw[List.length_take];omega));obtain⟨L11,h11⟩:∃L11,splice L10 297 (h.gn.take 32)=L11:=⟨_,rfl⟩;rw[h11] at SB;have H11:=hid h11;clear h11 SA SAd hkb hbb;(go_wp2_with fail);(go_region_held3 (fun w' => w'.cell? ⟨w.heap.size, 8, none⟩ = some (.string ⟨h.gn.toArray⟩)) (first | (exact c8) | (exact c8b)) (first | (fail "none")));rename_i hHeld;clear hHeld hrb c8 c8b;(go_wp2_with fail);(refine(M4 wb C (m+1+28) (w.heap.size+1) L11 SB.cho (by omega) (by omega) SB.row SB.len).mono ?_);rintro e wz ⟨rfl,hkz,hcz,fs,hfs,hrz⟩;have FIN:Hid (M7 w C m h false (.returned (.slice (some ⟨w.heap.size+1,0,none⟩) 512 512)) wz):=by
     have e6:L6=splice L5 257 magicU:=H6.out.symm;exact⟨_,rfl,hrz,Zb (L7:=L6) (L8:=L6) (L9:=L6) (fa:=[]) (fc:=[]) NF.out hl7.out H4.out.symm H5.out.symm e6 rfl rfl (fun g=>by cases g) rfl (fun g=>by cases g) H10.out.symm H11.out.symm hfs,SB.kp.then hkz (fun i hi e=>by omega),hcz.keep (Kp.refl (fun _=>False) _) (fun _ h=>h.elim) (by omega)⟩
    clear hkz hcz hfs hrz SB;(go_wp2_with fail);(go_ret);exact FIN.out
structure TldSt (w0:World)(C m:Nat)(h:Hd)(rv:Value)(l:List Rec)(w:World):Prop where
 cho:Cho w C m
 cp:w.heap[w0.heap.size]?=some (.cells #[.pointer (some ⟨C,0,none⟩)] 83 (0,0))
 hdr:w.heap[w0.heap.size+1]?=some (.cells (Bd h rv).toArray 45 (0,0))
 lv:∃v,w.heap[w0.heap.size+2]?=some (.cells #[v] 43 (0,0))∧OwnR 136 w (w0.heap.size+3) v l
 kp:Kp (· =C) w0 w
theorem TldSt.grow {w0 w w':World}{C m:Nat}{h:Hd}{rv:Value}{l:List Rec}(s:TldSt w0 C m h rv l w)(k:Kp (fun _=>False) w w'):TldSt w0 C m h rv l w':=by
 obtain⟨v,h1,h2⟩:=s.lv;exact⟨s.cho.keep k (fun _ h=>h.elim) (Nat.le_refl _),k.heap s.cp (fun h=>h),k.heap s.hdr (fun h=>h),⟨v,k.heap h1 (fun h=>h),h2.keep k (fun _ _ h=>h)⟩,s.kp.then k (fun _ _ h=>h.elim)⟩
theorem TldSt.chose {w0 w w':World}{C m m':Nat}{h:Hd}{rv:Value}{l:List Rec}(s:TldSt w0 C m h rv l w)(hC:C<w0.heap.size)(k:Kp (· =C) w w')(hc:Cho w' C m'):TldSt w0 C m' h rv l w':=by
 obtain⟨v,h1,h2⟩:=s.lv;exact⟨hc,k.heap s.cp (by omega),k.heap s.hdr (by omega),⟨v,k.heap h1 (by omega),h2.keep k (fun b hb e=>by have:=(h2.block hb).1;omega)⟩,s.kp.trans k⟩
theorem TldSt.more {w0 w:World}{C m m':Nat}{h:Hd}{rv:Value}{l:List Rec}(s:TldSt w0 C m h rv l w)(hm:m≤m'):TldSt w0 C m' h rv l w:=
 ⟨s.cho.keep (Kp.refl (fun _=>False) _) (fun _ h=>h.elim) hm,s.cp,s.hdr,s.lv,s.kp⟩
def Qs (l:List Rec)(k v:List UInt8)(must:Bool)(l':List Rec):Prop:=l'=l++[(k,v)]∧v≠[]∨l'=l∧(v=[]∨must=false)
theorem TldSt.add {w0 w:World}{C m:Nat}{h:Hd}{rv:Value}{l:List Rec}(s:TldSt w0 C m h rv l w)(hC:C<w0.heap.size)(r:Rec)(hl:l.length≤4294967295)(lv:Value)(hlv:w.cell? ⟨w0.heap.size+2,0,none⟩=some lv) :
  ∃A2 n2 q2 w2,(Builtin.append_ #[43,43] 43 #[lv, .slice (some ⟨w.heap.size,0,none⟩) 1 1]).run Tryz.prog (w.alloc (.cells #[.string ⟨r.1.toArray⟩, .string ⟨r.2.toArray⟩] 136))=.ok (.slice A2 n2 q2) w2 ∧
   w2.cell? ⟨w0.heap.size+2,0,none⟩=some lv∧w2.frozen? ⟨w0.heap.size+2,0,none⟩=false∧TldSt w0 C m h rv (l++[r]) (w2.setCell ⟨w0.heap.size+2,0,none⟩ (.slice A2 n2 q2)):=by
 obtain⟨v,h1,h2⟩:=s.lv;have e:v=lv:=by
  have:=cell_of h1 0 (v:=v) rfl;rw[hlv] at this;injection this with this
  exact this.symm
 subst e;have hH:w0.heap.size+3≤w.heap.size:=by have:=Bv h1;omega
 obtain⟨v2,w2,hr,ho,hk⟩:=D8 (ty:=43) w infoS (w0.heap.size+3) v l r h2 (by omega) hH
 obtain⟨A2,q2,rfl⟩:=ho.at_.shape;have kw:=h2.wide hk;have g1:=kw.heap h1 (by omega)
 have ks:Kp (· =w0.heap.size+2) w2 (w2.setCell ⟨w0.heap.size+2,0,none⟩ (.slice A2 (l++[r]).length q2)):=Kp.setCell (S:=(· =w0.heap.size+2)) (p:=⟨w0.heap.size+2,0,none⟩) (Kp.refl _ w2) (.inl rfl) _;refine⟨A2,_,q2,w2,hr,cell_of g1 0 rfl,Bb g1 0,(s.cho.keep kw (fun i hi=>by omega) (Nat.le_refl _)).keep ks (fun i hi=>by omega) (Nat.le_refl _),ks.heap (kw.heap s.cp (by omega)) (by omega),ks.heap (kw.heap s.hdr (by omega)) (by omega),⟨_,?_,ho.keep ks (fun b hb e=>by have:=(ho.block hb).1;omega)⟩,(s.kp.then kw (fun i hi e=>by omega)).then ks (fun i hi e=>by omega)⟩
 have:=heap_set g1 0 (.slice A2 (l++[r]).length q2);simpa using this
set_option maxHeartbeats 1600000 in
theorem Bd8 (w0 w:World)(C m:Nat)(h:Hd)(rv:Value)(l:List Rec)(k v:List UInt8)(must:Bool)(hC:C<w0.heap.size)(hs:TldSt w0 C m h rv l w)(hm:m+10≤1000000000000)(hl:l.length≤4294967295) :
  Calls Tryz.prog 118 #[.string ⟨k.toArray⟩, .string ⟨v.toArray⟩, .bool must, .pointer (some ⟨w0.heap.size,0,none⟩), .pointer (some ⟨w0.heap.size+2,0,none⟩)] w fun e w'=>
   e=.returned (.tuple #[])∧Hid (∃l',Qs l k v must l'∧TldSt w0 C (m+1) h rv l' w'):=by
 have HS:=hid hs;have c0:w.cell? ⟨w0.heap.size,0,none⟩=some (.pointer (some ⟨C,0,none⟩)):=cell_of hs.cp 0 rfl;obtain⟨lv,hlv,hown⟩:=hs.lv;have c1:w.cell? ⟨w0.heap.size+2,0,none⟩=some lv:=cell_of hlv 0 rfl;have HOWN:=hid hown;have HLV:=hid hlv;clear hs hlv hown;cases v with
 |nil=>
  have FIN:Hid (∃l',Qs l k [] must l'∧TldSt w0 C (m+1) h rv l' w):=⟨l, .inr ⟨rfl, .inl rfl⟩,HS.out.more (by omega)⟩
  clear HS;go_enter Tryz.func118,Tryz.ntmps118
  go_wp2_with fail
  go_end0
  exact⟨rfl,FIN.out⟩
 |cons x xs=>
  cases must with
  |true=>
   obtain⟨A2,n2,q2,w2,hr2,y1,y2,hst⟩:=HS.out.add hC (k,x::xs) hl lv c1;have HR2:=hid hr2;(have FIN:Hid (∃l',Qs l k (x::xs) true l'∧TldSt w0 C (m+1) h rv l' (w2.setCell ⟨w0.heap.size+2,0,none⟩ (.slice A2 n2 q2))):=⟨_, .inl ⟨rfl,by simp⟩,hst.more (by omega)⟩);clear HS HOWN HLV hr2 hst;(go_enter Tryz.func118,Tryz.ntmps118);(go_wp2_with (at_builtin;refine Lib.wpList_append_run _ rfl _ _ _ _ rfl _ _ rfl rfl _ _ HR2.out ?_));(go_end0);exact⟨rfl,FIN.out⟩
  |false=>
   (go_enter Tryz.func118,Tryz.ntmps118);(go_wp2_with fail);(refine(Cs w C m 3 HS.out.cho (by omega) (by omega)).mono ?_);rintro e w1 ⟨⟨n,hn,rfl⟩,hk1,hc1⟩;have S1:=HS.out.chose hC hk1 hc1;(have c1':w1.cell? ⟨w0.heap.size+2,0,none⟩=some lv:=hk1.cell c1 (by show ¬w0.heap.size+2=C;omega));by_cases hn0:n=0
   ·subst hn0;obtain⟨A2,n2,q2,w2,hr2,y1,y2,hst⟩:=S1.add hC (k,x::xs) hl lv c1';have HR2:=hid hr2;(have FIN:Hid (∃l',Qs l k (x::xs) false l'∧TldSt w0 C (m+1) h rv l' (w2.setCell ⟨w0.heap.size+2,0,none⟩ (.slice A2 n2 q2))):=⟨_, .inl ⟨rfl,by simp⟩,hst⟩);clear HS HOWN HLV hr2 hst S1 hk1 hc1;dsimp only;rename_i K hK;refine hK _ _ ?_;clear hK;(go_wp2_with (at_builtin;refine Lib.wpList_append_run _ rfl _ _ _ _ rfl _ _ rfl rfl _ _ HR2.out ?_));(go_end0);exact⟨rfl,FIN.out⟩
   ·(have hd:((n:Int)==0)=false:=by rw[beq_eq_false_iff_ne];omega);have FIN:Hid (∃l',Qs l k (x::xs) false l'∧TldSt w0 C (m+1) h rv l' w1):=⟨l, .inr ⟨rfl, .inr rfl⟩,S1⟩;clear HS HOWN HLV S1 hk1 hc1;(go_wp2_with fail);(go_end0);exact⟨rfl,FIN.out⟩
theorem B0 (w:World)(b:Bool):Calls Tryz.prog 85 #[.bool b] w fun e w'=>e=.returned (.int .i64 (if b then 1 else 2))∧w'=w:=by
 cases b
 ·go_enter Tryz.func85,Tryz.ntmps85
  go_wp2_with fail
  go_ret
  exact⟨rfl,rfl⟩
 ·go_enter Tryz.func85,Tryz.ntmps85
  go_wp2_with fail
  go_ret
  exact⟨rfl,rfl⟩
def Ia (l:List UInt8):Bool:=l.getLast?==some 47
theorem Li (w:World)(l:List UInt8)(hl:l.length≤1099511627776):Calls Tryz.prog 83 #[.string ⟨l.toArray⟩] w fun e w'=>e=.returned (.bool (Ia l))∧w'=w:=by
 rcases List.eq_nil_or_concat l with rfl|⟨p,c,e0⟩
 ·go_enter Tryz.func83,Tryz.ntmps83
  go_wp2_with fail
  go_ret
  exact⟨rfl,rfl⟩
 ·rw[List.concat_eq_append] at e0;subst e0;have hs:Hid (Ia (p++[c])=(c==47)):=by show _=_;unfold Ia;rw[List.getLast?_concat];rfl
  have hlt:p.length<(p++[c]).length:=by simp
  have hg:(p++[c])[p.length]=c:=by simp
  have e:((p++[c]).length:Int)-1=(p.length:Int):=by simp
  have hE:(p++[c]).isEmpty=false:=by cases p<;>rfl
  rw[hs.out];generalize p++[c]=l at *;clear hs;revert hg hlt e
  generalize p.length=k;intro hlt hg e;have h0:(0:Int)≤(k:Int):=by omega
  have h1:(k:Int)<(l.length:Int):=by omega
  by_cases hc:c=47
  ·(have h2':((((⟨l.toArray⟩:ByteArray)[k]'hlt).toNat:Int)==47)=true:=by show ((l[k].toNat:Int)==47)=true;rw[hg,hc];rfl);subst hc;clear hg;(go_enter Tryz.func83,Tryz.ntmps83);(go_wp2_with fail);(go_ret);exact⟨rfl,rfl⟩
  ·have h2':((((⟨l.toArray⟩:ByteArray)[k]'hlt).toNat:Int)==47)=false:=by
    show ((l[k].toNat:Int)==47)=false;rw[hg,beq_eq_false_iff_ne];intro e;exact hc (UInt8.toNat_inj.mp (by show c.toNat=47;omega))
   (have hcb:(c==47)=false:=by rw[beq_eq_false_iff_ne];exact hc);rw[hcb];clear hg hc hcb;(go_enter Tryz.func83,Tryz.ntmps83);(go_wp2_with fail);(go_ret);exact⟨rfl,rfl⟩
theorem Md (w:World)(s n:Int):Calls Tryz.prog 106 #[.agg #[.int .i64 s, .int .i64 n]] w fun e w'=>(∃b,e=.returned (.bool b)∧(b=false→¬odd s n))∧Kp (fun _=>False) w w':=by
 obtain⟨b1,h1⟩:∃b,(s== -62135596800)=b:=⟨_,rfl⟩;obtain⟨b2,h2⟩:∃b,(n==0)=b:=⟨_,rfl⟩;obtain⟨b3,h3⟩:∃b,decide (n<0)=b:=⟨_,rfl⟩;obtain⟨b4,h4⟩:∃b,decide ((999999999:Int)<n)=b:=⟨_,rfl⟩;have F:Hid ((b1&&b2||b3||b4)=false→¬odd s n):=by
  show _→_;subst h1 h2 h3 h4;intro hf ho;simp only[Bool.or_eq_false_iff,Bool.and_eq_false_iff,beq_eq_false_iff_ne,decide_eq_false_iff_not] at hf;unfold odd at ho;omega
 cases b1<;>cases b2<;>cases b3<;>cases b4<;>(
  go_enter Tryz.func106,Tryz.ntmps106
  go_wp2_with fail
  go_ret
  exact⟨⟨_,rfl,fun h=>by first|exact F.out rfl|exact absurd h (by decide)⟩,(Kp.refl _ _).alloc _⟩)
def X4 (l:List UInt8):Bool:=l.any (· ==0)
theorem Bd9 {l:List UInt8}(h:X4 l=false):NoNul l:=fun c hc e=>by
 subst e
 have:=List.any_eq_false.1 h _ hc
 simp at this
theorem X5 (w:World)(l:List UInt8)(hl:l.length≤281474976710656):Calls Tryz.prog 104 #[.string ⟨l.toArray⟩] w fun e w'=>e=.returned (.bool (X4 l))∧w'=w:=by
 go_enter Tryz.func104,Tryz.ntmps104
 go_wp2_with fail
 go_loopg [3,6] l.length (fun g s3 s6 wr=>∃(i:Nat),i+g=l.length∧s6=.int .i64 i∧Hid (X4 (l.take i)=false)∧wr=w)
 case atStart=>exact⟨0,by omega,rfl,rfl,rfl⟩
 case round=>
  obtain⟨i,hi,rfl,ha,rfl⟩:=hrel;by_cases hlt:i<l.length
  ·by_cases h2:l[i]=0
   ·have hbad:Hid (X4 l=true):=by
     show _=_;exact List.any_eq_true.2 ⟨_,List.getElem_mem hlt,by rw[h2];rfl⟩
    (have h2':((((⟨l.toArray⟩:ByteArray)[i]'hlt).toNat:Int)==0)=true:=by show ((l[i].toNat:Int)==0)=true;rw[h2];rfl);clear h2;(go_wp2_with fail);(go_ret);rw[hbad.out];exact⟨rfl,rfl⟩
   ·have hok:Hid (X4 (l.take (i+1))=false):=by
     show _=_;unfold X4;(rw[List.take_succ_eq_append_getElem hlt,List.any_append,show (l.take i).any (· ==0)=false from ha.out]);simp[h2]
    have h2':((((⟨l.toArray⟩:ByteArray)[i]'hlt).toNat:Int)==0)=false:=by
     show ((l[i].toNat:Int)==0)=false;rw[beq_eq_false_iff_ne];intro e;exact h2 (UInt8.toNat_inj.mp (by simpa using e))
    clear h2;(go_wp2_with fail);go_roundg (gk-1)
    case measure=>omega
    case rel=>exact⟨i+1,by omega,by simp,hok,rfl⟩
  ·(obtain rfl:i=l.length:=by omega);(go_wp2_with fail);(go_ret);have:=ha.out;rw[List.take_length] at this;rw[this];exact⟨rfl,rfl⟩
theorem ext_list (l:List UInt8)(a b:Nat):(⟨l.toArray⟩:ByteArray).extract a b=⟨((l.drop a).take (b-a)).toArray⟩:=by
 rw[Lib.extract_eq]
theorem O9 (w:World)(l:List UInt8)(hl:l.length≤281474976710656):Calls Tryz.prog 103 #[.string ⟨l.toArray⟩] w fun e w'=>(∃b,e=.returned (.bool b)∧(b=false→¬Ct <+: l))∧w'=w:=by
 by_cases hd:11≤l.length
 ·have hd1:(11:Int)≤(l.length:Int):=by omega
  have hd2:decide ((11:Int)≤(l.length:Int))=true:=decide_eq_true hd1;have he:(⟨l.toArray⟩:ByteArray).extract 0 11=⟨(l.take 11).toArray⟩:=by rw[ext_list];rfl
  obtain⟨β,hβ⟩:∃β,(l.take 11==[71,78,85,46,115,112,97,114,115,101,46])=β:=⟨_,rfl⟩;have F:Hid (β=false→¬Ct <+: l):=by
   show _→_;rintro rfl ⟨t,rfl⟩;(rw[show (Ct++t).take 11=Ct from by rw[List.take_append_of_le_length (by decide)];rfl] at hβ);exact absurd hβ (by decide)
  obtain⟨q,hq⟩:∃q,l.take 11=q:=⟨_,rfl⟩;rw[hq] at he hβ;clear hq;go_enter Tryz.func103,Tryz.ntmps103
  go_wp2_with fail
  go_ret
  exact⟨⟨_,rfl,F.out⟩,rfl⟩
 ·have hd2:decide ((11:Int)≤(l.length:Int))=false:=decide_eq_false (by omega)
  have F:Hid (¬Ct <+: l):=by
   show ¬_;rintro⟨t,rfl⟩;apply hd;rw[List.length_append];show 11≤11+_;omega
  clear hd;go_enter Tryz.func103,Tryz.ntmps103
  go_wp2_with fail
  go_ret
  exact⟨⟨_,rfl,fun _=>F.out⟩,rfl⟩
theorem Bco (w:World)(l:List UInt8)(c:UInt8)(hl:l.length≤281474976710656):Calls Tryz.prog 138 #[.string ⟨l.toArray⟩, .int .u8 c.toNat] w fun e w'=>
  ((∃a b,l=a++c::b∧e=.returned (.tuple #[.string ⟨a.toArray⟩, .string ⟨b.toArray⟩, .bool true]))∨e=.returned (.tuple #[.string ⟨l.toArray⟩, .string ⟨#[]⟩, .bool false]))∧Kp (fun _=>False) w w':=by
 go_enter Tryz.func138,Tryz.ntmps138
 go_wp2_with fail
 go_loopg [7,10] l.length (fun g s7 s10 wr=>∃(i:Nat),i+g=l.length∧s10=.int .i64 i∧wr=w)
 case atStart=>exact⟨0,by omega,rfl,rfl⟩
 case round=>
  obtain⟨i,hi,rfl,rfl⟩:=hrel;by_cases hlt:i<l.length
  ·by_cases h2:l[i]=c
   ·(have h2':((((⟨l.toArray⟩:ByteArray)[i]'hlt).toNat:Int)==(c.toNat:Int))=true:=by show ((l[i].toNat:Int)==_)=true;rw[h2];simp);(have e1:(⟨l.toArray⟩:ByteArray).extract 0 i=⟨(l.take i).toArray⟩:=by rw[ext_list];rfl);have e2:(⟨l.toArray⟩:ByteArray).extract (i+1) l.length=⟨(l.drop (i+1)).toArray⟩:=by
     rw[ext_list,List.take_of_length_le (by rw[List.length_drop];omega)]
    have FIN:Hid (l=l.take i++c::l.drop (i+1)):=by
     show _=_;rw[←h2,←List.drop_eq_getElem_cons hlt,List.take_append_drop]
    (have h3:(0:Int)≤(i:Int):=by omega);(have h4:(i:Int)≤(l.length:Int):=by omega);(have h5:(0:Int)≤(i:Int)+1:=by omega);(have h6:(i:Int)+1≤(l.length:Int):=by omega);clear h2;(go_wp2_with fail);(go_quiet (fail));(go_wp2_with fail);(go_ret3);refine⟨.inl ⟨_,_,FIN.out,?_⟩,(Kp.refl _ _).drewN _⟩
    first
     |rfl
     |(rw[e1,e2])
   ·have h2':((((⟨l.toArray⟩:ByteArray)[i]'hlt).toNat:Int)==(c.toNat:Int))=false:=by
     show ((l[i].toNat:Int)==_)=false;rw[beq_eq_false_iff_ne];intro e;exact h2 (UInt8.toNat_inj.mp (by omega))
    clear h2;(go_wp2_with fail);go_roundg (gk-1)
    case measure=>omega
    case rel=>exact⟨i+1,by omega,by simp,rfl⟩
  ·(obtain rfl:i=l.length:=by omega);(go_wp2_with fail);(go_ret3);exact⟨.inr rfl,Kp.refl _ _⟩
def E6 (h:Hd)(t:UInt8):Hd:={h with typ:=t}
theorem Qt (h:Hd)(rv:Value)(t:UInt8):(Bd h rv).toArray.setIfInBounds 0 (.int .u8 (t.toNat:Int))=(Bd (E6 h t) rv).toArray:=rfl
def Bq (h:Hd):Hd:=if h.typ=0 then E6 h (if Ia h.name then 53 else 48) else h
theorem Bea (w:World)(x z:Array Value)(T U:TypeId):∃wB,(w.alloc (.cells x T)).alloc (.cells z U)=wB∧wB.heap[w.heap.size]?=some (.cells x T (0,0))∧wB.heap[w.heap.size+1]?=some (.cells z U (0,0))∧Kp (fun _=>False) w wB∧wB.heap.size=w.heap.size+2:=by
 have s1:(w.alloc (.cells x T)).heap.size=w.heap.size+1:=by show (w.heap.push _).size=_;simp
 have h1:=Ba (w.alloc (.cells x T)) (.cells z U);rw[s1] at h1;refine⟨_,rfl,heap_alloc (Ba w _) _,h1,((Kp.refl _ _).alloc _).alloc _,?_⟩;show ((w.alloc _).heap.push _).size=_;rw[Array.size_push,s1]
theorem Ib {P:Program}{c:Code}{Q:Exit→Act→World→Prop}{a:Act}{w:World}{x z:Array Value}{T U:TypeId}
  (H:∀wB,wB.heap[w.heap.size]?=some (.cells x T (0,0))→wB.heap[w.heap.size+1]?=some (.cells z U (0,0))→Kp (fun _=>False) w wB→wB.heap.size=w.heap.size+2→Code.wp P c Q a wB):Code.wp P c Q a ((w.alloc (.cells x T)).alloc (.cells z U)):=by
 obtain⟨wB,e,h1,h2,h3,h4⟩:=Bea w x z T U;rw[e];exact H wB h1 h2 h3 h4
theorem E7 {P:Program}{c:Code}{Q:Exit→Act→World→Prop}{a:Act}{w:World}{x:Array Value}{T:TypeId}
  (H:∀wB,wB.heap[w.heap.size]?=some (.cells x T (0,0))→Kp (fun _=>False) w wB→wB.heap.size=w.heap.size+1→Code.wp P c Q a wB):Code.wp P c Q a (w.alloc (.cells x T)):=
 H _ (Ba w _) ((Kp.refl _ _).alloc _) (by show (w.heap.push _).size=_;simp)
theorem Dx {h:Hd}{rv:Value}(hr:rv.oneCell'=true):((Bd h rv).toArray.all fun x=>x.oneCell')=true:=by
 simp[Bd,B5,Value.oneCell'];exact hr
theorem M9 {w:World}{C:Nat}{rv:Value}{l:List Rec}(h:RecsAt w C rv l):rv.oneCell'=true:=by
 obtain⟨A,c,rfl⟩:=h.shape;rfl
set_option maxHeartbeats 1600000 in
theorem Ke (w:World)(q:Hd)(rv:Value)(hr:rv.oneCell'=true)(hnl:q.name.length≤1099511627776) :
  Calls Tryz.prog 60 #[.agg (Bd q rv).toArray] w fun e w'=>e=.returned (.agg (Bd (Bq q) rv).toArray)∧Kp (fun _=>False) w w':=by
 have HSL:=fun W=>hid (Li W q.name hnl)
 have fin:∀(h':Hd) (wC:World) (z:Array Value),wC.heap[w.heap.size]?=some (.cells (Bd h' rv).toArray 45 (0,0))→wC.heap[w.heap.size+1]?=some (.cells z 45 (0,0))→Kp (fun _=>False) w wC →
   (wC.setRow (w.heap.size+1) (Bd h' rv).toArray).heap[w.heap.size+1]?=some (.cells (Bd h' rv).toArray 45 (0,0))∧Kp (fun _=>False) w (wC.setRow (w.heap.size+1) (Bd h' rv).toArray):=fun h' wC z h1 h2 k=>by
  refine⟨?_,k.setRow (.inr (by omega)) _⟩
  unfold World.setRow;simp only[Array.getElem?_modify,h2,if_pos rfl];rfl
 have FN:=hid fin;clear fin;obtain⟨hv,hhv⟩:∃hv:Array Value,(Bd q rv).toArray=hv:=⟨_,rfl⟩;rw[hhv];by_cases ht:q.typ=0
 ·obtain⟨β,hβ⟩:∃β,Ia q.name=β:=⟨_,rfl⟩;rw[hβ] at HSL;have hp:Bq q=E6 q (if β then 53 else 48):=by unfold Bq;rw[if_pos ht,hβ]
  rw[hp];go_enter Tryz.func60,Tryz.ntmps60
  go_upto_region 1 with fail
  refine Ib ?_;rintro wB g1 g2 kB sB;rw[←hhv] at g1;have c0:wB.cell? ⟨w.heap.size,0,none⟩=some (.int .u8 0):=by
   have:=cell_of g1 0 (v:=.int .u8 (q.typ.toNat:Int)) rfl;rw[ht] at this;exact this
  have z0:=Bb g1 0;have g3:=heap_set g1 0 (.int .u8 ((48:UInt8).toNat:Int));rw[Qt] at g3;have g4:=Ci g2 ⟨w.heap.size,0,none⟩ (.int .u8 ((48:UInt8).toNat:Int)) (by show ¬w.heap.size+1=w.heap.size;omega)
  have k4:Kp (fun _=>False) w (wB.setCell ⟨w.heap.size,0,none⟩ (.int .u8 ((48:UInt8).toNat:Int))):=kB.setCell (.inr (Nat.le_refl _)) _;have G3:=hid g3;have G4:=hid g4;have K4:=hid k4;clear hhv ht g1 g3 g2 g4 k4 kB hβ;go_upto_region 3 with fail
  refine(show Code.wp _ _ _ _ (wB.setCell ⟨w.heap.size,0,none⟩ (.int .u8 ((48:UInt8).toNat:Int))) from ?_)
  generalize wB.setCell ⟨w.heap.size,0,none⟩ (.int .u8 ((48:UInt8).toNat:Int))=wC at G3 G4 K4 ⊢;have n1:wC.cell? ⟨w.heap.size,1,none⟩=some (.string ⟨q.name.toArray⟩):=cell_of G3.out 1 rfl;have z1:=Bb G3.out 0;clear c0 z0;go_wp2_with fail
  refine(HSL wC).out.mono ?_;rintro e w1 ⟨rfl,rfl⟩;cases β with
  |false=>
   (go_upto_region 5 with fail);(go_step;refine wpList_load_row rfl 45 (.tmp 1) rfl w.heap.size rfl 45 (Bd (E6 q 48) rv).toArray (0,0) _ G3.out Tryz.underlying45 rfl (by kernel_rfl) ?_);have FIN:=hid (FN.out (E6 q 48) w1 _ G3.out G4.out K4.out);(refine wpList_store_row rfl 45 (.tmp 2) (.tmp 11) rfl (w.heap.size+1) (Bd (E6 q 48) rv).toArray rfl rfl 45 _ G4.out (by kernel_rfl) (by rfl) (Dx hr) ?_);clear G3 G4 K4 FN;(go_wp2_with fail);exact bodyPost_ret (results_cell_row rfl _ _ (w.heap.size+1) 45 (Bd (E6 q 48) rv).toArray (0,0) _ rfl FIN.out.1 Tryz.underlying45 rfl (by kernel_rfl)) rfl ⟨rfl,FIN.out.2⟩
  |true=>
   have g3:=heap_set G3.out 0 (.int .u8 ((53:UInt8).toNat:Int));rw[Qt] at g3;(have g4:=Ci G4.out ⟨w.heap.size,0,none⟩ (.int .u8 ((53:UInt8).toNat:Int)) (by show ¬w.heap.size+1=w.heap.size;omega));have k4:Kp (fun _=>False) w (w1.setCell ⟨w.heap.size,0,none⟩ (.int .u8 ((53:UInt8).toNat:Int))):=K4.out.setCell (.inr (Nat.le_refl _)) _;have c0:w1.cell? ⟨w.heap.size,0,none⟩=some (.int .u8 48):=cell_of G3.out 0 rfl;clear G3 G4 K4 n1;have G3:Hid ((w1.setCell ⟨w.heap.size,0,none⟩ (.int .u8 ((53:UInt8).toNat:Int))).heap[w.heap.size]?=some (.cells (Bd (E6 q 53) rv).toArray 45 (0,0))):=g3;have G4:=hid g4;have K4:=hid k4;clear g3 g4 k4;(go_upto_region 5 with fail);(refine(show Code.wp _ _ _ _ (w1.setCell ⟨w.heap.size,0,none⟩ (.int .u8 ((53:UInt8).toNat:Int))) from ?_));generalize w1.setCell ⟨w.heap.size,0,none⟩ (.int .u8 ((53:UInt8).toNat:Int))=wD at G3 G4 K4 ⊢;clear c0 z1;(go_step;refine wpList_load_row rfl 45 (.tmp 1) rfl w.heap.size rfl 45 (Bd (E6 q 53) rv).toArray (0,0) _ G3.out Tryz.underlying45 rfl (by kernel_rfl) ?_);have FIN:=hid (FN.out (E6 q 53) wD _ G3.out G4.out K4.out);(refine wpList_store_row rfl 45 (.tmp 2) (.tmp 11) rfl (w.heap.size+1) (Bd (E6 q 53) rv).toArray rfl rfl 45 _ G4.out (by kernel_rfl) (by rfl) (Dx hr) ?_);clear G3 G4 K4 FN;(go_wp2_with fail);exact bodyPost_ret (results_cell_row rfl _ _ (w.heap.size+1) 45 (Bd (E6 q 53) rv).toArray (0,0) _ rfl FIN.out.1 Tryz.underlying45 rfl (by kernel_rfl)) rfl ⟨rfl,FIN.out.2⟩
 ·have hp:Bq q=q:=if_neg ht;rw[hp];have hne:((q.typ.toNat:Int)==0)=false:=by
   rw[beq_eq_false_iff_ne];intro e;exact ht (UInt8.toNat_inj.1 (by show q.typ.toNat=0;omega))
  go_enter Tryz.func60,Tryz.ntmps60
  go_upto_region 1 with fail
  refine Ib ?_;rintro wB g1 g2 kB sB;rw[←hhv] at g1;have c0:wB.cell? ⟨w.heap.size,0,none⟩=some (.int .u8 (q.typ.toNat:Int)):=cell_of g1 0 rfl;have G3:=hid g1;have G4:=hid g2;have K4:=hid kB;clear hp hhv ht g1 g2 kB HSL;go_upto_region 5 with fail
  go_step;refine wpList_load_row rfl 45 (.tmp 1) rfl w.heap.size rfl 45 (Bd q rv).toArray (0,0) _ G3.out Tryz.underlying45 rfl (by kernel_rfl) ?_
  have FIN:=hid (FN.out (q) wB _ G3.out G4.out K4.out);refine wpList_store_row rfl 45 (.tmp 2) (.tmp 11) rfl (w.heap.size+1) (Bd q rv).toArray rfl rfl 45 _ G4.out (by kernel_rfl) (by rfl) (Dx hr) ?_
  clear G3 G4 K4 FN;go_wp2_with fail
  exact bodyPost_ret (results_cell_row rfl _ _ (w.heap.size+1) 45 (Bd q rv).toArray (0,0) _ rfl FIN.out.1 Tryz.underlying45 rfl (by kernel_rfl)) rfl ⟨rfl,FIN.out.2⟩
structure SaneP (h:Hd):Prop where
 wt:weight h≤524288
 lo:0≤h.fmt
 hi:h.fmt≤3
 mod:¬odd h.ms h.mn
 acc:h.hasA=true→¬odd h.ats h.atn
 chg:h.hasC=true→¬odd h.cts h.ctn
def Dg (l:List Rec):Nat:=(l.map fun r=>r.1.length+r.2.length+24).sum
theorem Qu (l:List Rec)(r:Rec):Dg (l++[r])=Dg l+(r.1.length+r.2.length+24):=by unfold Dg;simp
theorem Baj (l:List Rec)(i:Nat):Dg (l.take i)≤Dg l:=by
 have:Dg l=Dg (l.take i)+Dg (l.drop i):=by
  unfold Dg;rw[←List.sum_append,←List.map_append,List.take_append_drop]
 omega
def Bcp (P:Prop)(e:Ending):Prop:=∃b,e=.returned (.bool b)∧(b=false→P)
set_option maxHeartbeats 1600000 in
theorem Lj (w:World)(h:Hd)(B:Nat)(rv:Value)(hra:RecsAt w B rv h.recs)(hB:B≤w.heap.size)(hw:weight h≤1099511627776) :
  Calls Tryz.prog 59 #[.agg (Bd h rv).toArray] w fun e w'=>Hid (Bcp (SaneP h) e)∧Kp (fun _=>False) w w':=by
 obtain⟨A,c,rfl⟩:=hra.shape;have HRA:=hid hra;obtain⟨n0,hn0⟩:∃n0,h.name.length+h.link.length+h.un.length+h.gn.length=n0:=⟨_,rfl⟩;have hwt:weight h=n0+Dg h.recs:=by unfold weight Dg;rw[←hn0]
 have HWT:=hid hwt;have l1:h.name.length≤1099511627776:=by omega
 have l2:h.link.length≤1099511627776:=by omega
 have l3:h.un.length≤1099511627776:=by omega
 have l4:h.gn.length≤1099511627776:=by omega
 have hsum:(h.name.length:Int)+(h.link.length:Int)+(h.un.length:Int)+(h.gn.length:Int)=(n0:Int):=by omega
 have hnb:n0≤1099511627776:=by omega
 have HN0:=hid hn0;have hrl:h.recs.length≤1099511627776:=by
  have h1:∀l:List Rec,l.length≤Dg l:=fun l=>by
   induction l with
   |nil=>exact Nat.zero_le _
   |cons r l ih=>unfold Dg at ih ⊢;simp only[List.length_cons,List.map_cons,List.sum_cons];omega
  have:=h1 h.recs;omega
 have HW:=hid hw;obtain⟨hv,hhv⟩:∃hv:Array Value,(Bd h (.slice A h.recs.length c)).toArray=hv:=⟨_,rfl⟩;rw[hhv];clear hra hwt hn0 hw;go_enter Tryz.func59,Tryz.ntmps59
 go_upto_region 1 with fail
 refine E7 ?_;intro wA gA kA sA;rw[←hhv] at gA;have c1:wA.cell? ⟨w.heap.size,1,none⟩=some (.string ⟨h.name.toArray⟩):=cell_of gA 1 rfl;have c2:wA.cell? ⟨w.heap.size,2,none⟩=some (.string ⟨h.link.toArray⟩):=cell_of gA 2 rfl;have c7:wA.cell? ⟨w.heap.size,7,none⟩=some (.string ⟨h.un.toArray⟩):=cell_of gA 7 rfl;have c8:wA.cell? ⟨w.heap.size,8,none⟩=some (.string ⟨h.gn.toArray⟩):=cell_of gA 8 rfl;have c19:wA.cell? ⟨w.heap.size,19,none⟩=some (.slice A h.recs.length c):=cell_of gA 19 rfl;have LP:Hid (wA.heap[w.heap.size]?=some (.cells (Bd h (.slice A h.recs.length c)).toArray 45 (0,0))∧Kp (fun _=>False) w wA):=⟨gA,kA⟩;clear hhv gA kA;go_wp2_with fail
 clear c1 c2 c7 c8 c19 l1 l2 l3 l4;go_loopg [3,5,24] h.recs.length (fun g s3 s5 s24 wr=>∃(i n:Nat),i+g=h.recs.length∧s24=.int .i64 i∧s3=.int .i64 n∧n≤2199023255552∧Hid (n=n0+Dg (h.recs.take i))∧Hid (wr.heap[w.heap.size]?=some (.cells (Bd h (.slice A h.recs.length c)).toArray 45 (0,0))∧Kp (fun _=>False) w wr))
 case atStart=>exact⟨0,n0,by omega,rfl,by first|rfl|(rw[hsum]),by omega,by rw[sE];rfl,LP⟩
 case round=>
  clear LP hsum;obtain⟨i,n,hi,rfl,rfl,hnn,hne,hst⟩:=hrel;by_cases hlt:i<h.recs.length
  ·obtain⟨x,hx⟩:∃x,h.recs[i]?=some x:=⟨_,List.getElem?_eq_getElem hlt⟩;have hLr:RecsAt wr B (.slice A h.recs.length c) h.recs:=HRA.out.keep hst.out.2 (fun _ h=>h.elim);obtain⟨b,o,c',hA,hbC,x1,x2⟩:=hLr.get hx;(injection hA with hA1 hA2 hA3);subst hA1 hA3;(have hxg:x=h.recs[i]:=by rw[List.getElem?_eq_getElem hlt] at hx;injection hx with hx;exact hx.symm);(have htk:h.recs.take (i+1)=h.recs.take i++[x]:=by rw[List.take_succ_eq_append_getElem hlt,hxg]);(have hsn:Dg (h.recs.take (i+1))=Dg (h.recs.take i)+(x.1.length+x.2.length+24):=by rw[htk,Qu]);have hle:=Baj h.recs (i+1);(have hb2:x.1.length+x.2.length≤1099511627776:=by have:=HWT.out;have:=HW.out;omega);obtain⟨p,hp⟩:∃p,x.1.length=p:=⟨_,rfl⟩;obtain⟨q,hq⟩:∃q,x.2.length=q:=⟨_,rfl⟩;(have NX:Hid (∃m:Nat,(n:Int)+((p:Int)+(q:Int)+24)=(m:Int)∧m≤2199023255552∧Hid (m=n0+Dg (h.recs.take (i+1)))):=⟨n+(p+q+24),by omega,by have:=HWT.out;have:=HW.out;have:=hne.out;omega,by show _=_;have:=hne.out;omega⟩);have NW:∀O,Hid ((wr.alloc O).heap[w.heap.size]?=some (.cells (Bd h (.slice (some ⟨b,o,none⟩) h.recs.length c)).toArray 45 (0,0))∧Kp (fun _=>False) w (wr.alloc O)):=fun O=>⟨heap_alloc hst.out.1 O,hst.out.2.alloc O⟩;rw[hp,hq] at hb2;clear hA2 hLr hx hxg htk hst hsn hle hne;(go_wp2_with fail);go_roundg (gk-1)
   case measure=>omega
   case rel=>
    obtain⟨m,h1,h2,h3⟩:=NX.out;exact⟨i+1,m,by omega,by simp,by first|exact congrArg (Value.int .i64) h1|(simp only[hp,hq];exact congrArg (Value.int .i64) h1),h2,h3,NW _⟩
  ·(obtain rfl:i=h.recs.length:=by omega);have hnw:n=weight h:=by
    have h1:=hne.out;rw[List.take_length] at h1;have:=HWT.out;omega
   have K:=hid hst.out.2;have c20:wr.cell? ⟨w.heap.size,20,none⟩=some (.int .i64 h.fmt):=cell_of hst.out.1 20 rfl;have c9:wr.cell? ⟨w.heap.size,9,none⟩=some (.int .i64 h.ms):=cell_of hst.out.1 9 rfl;have c10:wr.cell? ⟨w.heap.size,10,none⟩=some (.int .i64 h.mn):=cell_of hst.out.1 10 rfl;obtain⟨ba,ea⟩:∃b,h.hasA=b:=⟨_,rfl⟩;obtain⟨bc,ec⟩:∃b,h.hasC=b:=⟨_,rfl⟩;have c11:wr.cell? ⟨w.heap.size,11,none⟩=some (.bool ba):=ea▸cell_of hst.out.1 11 rfl;have c12:wr.cell? ⟨w.heap.size,12,none⟩=some (.bool bc):=ec▸cell_of hst.out.1 12 rfl;have ROW:=hid hst.out.1;obtain⟨b1,e1⟩:∃b,decide ((524288:Int)<(n:Int))=b:=⟨_,rfl⟩;obtain⟨b2,e2⟩:∃b,decide (h.fmt<0)=b:=⟨_,rfl⟩;obtain⟨b3,e3⟩:∃b,decide ((3:Int)<h.fmt)=b:=⟨_,rfl⟩;have F:Hid (b1=false→b2=false→b3=false→¬odd h.ms h.mn→(ba=true→¬odd h.ats h.atn)→(bc=true→¬odd h.cts h.ctn)→SaneP h):=by
    show _→_→_→_→_→_→_;intro f1 f2 f3 f4 f5 f6;subst f1 f2 f3;simp only[decide_eq_false_iff_not] at e1 e2 e3;exact⟨by omega,by omega,by omega,f4,fun e=>f5 (ea.symm.trans e),fun e=>f6 (ec.symm.trans e)⟩
   clear hst ea ec hne hnw;cases b1 with
   |true=>
    (go_wp2_with fail);(go_ret);exact⟨⟨_,rfl,fun e=>by cases e⟩,K.out⟩
   |false=>
   cases b2 with
   |true=>
    (go_wp2_with fail);(go_ret);exact⟨⟨_,rfl,fun e=>by cases e⟩,K.out⟩
   |false=>
   cases b3 with
   |true=>
    (go_wp2_with fail);(go_ret);exact⟨⟨_,rfl,fun e=>by cases e⟩,K.out⟩
   |false=>
   (go_wp2_with fail);refine(Md wr h.ms h.mn).mono ?_;rintro e w1 ⟨⟨o1,rfl,ho1⟩,k1⟩;have K1:=hid (K.out.trans k1);cases o1 with
   |true=>
    (go_wp2_with fail);(go_ret);exact⟨⟨_,rfl,fun e=>by cases e⟩,K1.out⟩
   |false=>
   (have F:=fun a b=>F.out (by first|rfl|trivial) (by first|rfl|trivial) (by first|rfl|trivial) (ho1 rfl) a b);have R1:=hid (k1.heap ROW.out (fun h=>h));have d11:w1.cell? ⟨w.heap.size,11,none⟩=some (.bool ba):=k1.cell c11 (fun h=>h);have d12:w1.cell? ⟨w.heap.size,12,none⟩=some (.bool bc):=k1.cell c12 (fun h=>h);have d13:w1.cell? ⟨w.heap.size,13,none⟩=some (.int .i64 h.ats):=cell_of R1.out 13 rfl;have d14:w1.cell? ⟨w.heap.size,14,none⟩=some (.int .i64 h.atn):=cell_of R1.out 14 rfl;have d15:w1.cell? ⟨w.heap.size,15,none⟩=some (.int .i64 h.cts):=cell_of R1.out 15 rfl;have d16:w1.cell? ⟨w.heap.size,16,none⟩=some (.int .i64 h.ctn):=cell_of R1.out 16 rfl;have FH:=hid F;clear F ho1 k1 c20 c9 c10 c11 c12 e1 e2 e3 ROW;cases ba with
   |false=>
    cases bc with
    |false=>
     (have F2:=hid (FH.out (fun e=>by cases e) (fun e=>by cases e)));(go_wp2_with fail);(go_ret);exact⟨⟨_,rfl,fun _=>F2.out⟩,K1.out⟩
    |true=>
     (go_wp2_with fail);refine(Md w1 h.cts h.ctn).mono ?_;rintro e w3 ⟨⟨o3,rfl,ho3⟩,k3⟩;have K3:=hid (K1.out.trans k3);(have F2:=hid (fun e=>FH.out (fun e=>by cases e) (fun _=>ho3 e)));clear ho3 k3;(go_wp2_with fail);(go_ret);exact⟨⟨_,rfl,F2.out⟩,K3.out⟩
   |true=>
    (go_wp2_with fail);refine(Md w1 h.ats h.atn).mono ?_;rintro e w2 ⟨⟨o2,rfl,ho2⟩,k2⟩;have K2:=hid (K1.out.trans k2);cases o2 with
    |true=>
     (go_wp2_with fail);(go_ret);exact⟨⟨_,rfl,fun e=>by cases e⟩,K2.out⟩
    |false=>
    have hA:=ho2 rfl;have f12:w2.cell? ⟨w.heap.size,12,none⟩=some (.bool bc):=k2.cell d12 (fun h=>h);have f15:w2.cell? ⟨w.heap.size,15,none⟩=some (.int .i64 h.cts):=k2.cell d15 (fun h=>h);have f16:w2.cell? ⟨w.heap.size,16,none⟩=some (.int .i64 h.ctn):=k2.cell d16 (fun h=>h);have HA:=hid hA;clear hA ho2 k2;cases bc with
    |false=>
     (have F2:=hid (FH.out (fun _=>HA.out) (fun e=>by cases e)));(go_wp2_with fail);(go_ret);exact⟨⟨_,rfl,fun _=>F2.out⟩,K2.out⟩
    |true=>
     (go_wp2_with fail);refine(Md w2 h.cts h.ctn).mono ?_;rintro e w3 ⟨⟨o3,rfl,ho3⟩,k3⟩;have K3:=hid (K2.out.trans k3);have F2:=hid (fun e=>FH.out (fun _=>HA.out) (fun _=>ho3 e));clear ho3 k3;(go_wp2_with fail);(go_ret);exact⟨⟨_,rfl,F2.out⟩,K3.out⟩
theorem RowB.own {w:World}{b base:Nat}{l:List UInt8}(h:RowB w b l)(hb:base≤b)(hl:l.length≤maxLen):OwnB w base (.slice (some ⟨b,0,none⟩) l.length l.length) l:=by
 refine⟨by rw[Bi,Nat.mul_one], .inr ⟨b,l.length,_,rfl,hb,h,Nat.le_refl _,hl,?_,?_⟩⟩
 ·simp[ubs]
 ·rw[Nat.mul_one,show l.length=(ubs l).length from(Bi l).symm,List.take_length]
theorem Vv (w:World)(l:List UInt8):∃c w',(convert 9 27 (.string ⟨l.toArray⟩)).run Tryz.prog w=.ok (.slice (some ⟨w.heap.size,0,none⟩) l.length c) w'∧BytesAt w' w.heap.size 0 l∧Kp (fun _=>False) w w':=by
 have hr:=run_bytes_of_string (P:=Tryz.prog) w 9 27 5 ⟨l.toArray⟩ Tryz.underlying9 Tryz.underlying27 Tryz.underlying5;refine⟨_,_,hr,fun j v hv=>?_,(Kp.refl _ _).drew.alloc _⟩;have hn:=Ba w.drew (.cells (bytesRow ⟨l.toArray⟩ (grownCap w (⟨l.toArray⟩:ByteArray).size 0 5)) 5 ((bytesRow ⟨l.toArray⟩ (grownCap w (⟨l.toArray⟩:ByteArray).size 0 5)).size,(bytesRow ⟨l.toArray⟩ (grownCap w (⟨l.toArray⟩:ByteArray).size 0 5)).size+1));rw[Nat.zero_add];refine cell_of (w:=World.alloc _ _) hn j ?_;have hj:j<l.length:=by
  rcases Nat.lt_or_ge j l.length with h|h
  ·exact h
  ·rw[List.getElem?_eq_none (by rw[Bi];exact h)] at hv;cases hv
 rw[Cy] at hv;unfold bytesRow;rw[Array.getElem?_append_left (by simpa using hj)]
 simpa[ub] using hv
theorem DataAt.of {w:World}{b c:Nat}{l:List UInt8}(h:BytesAt w b 0 l):DataAt w (.slice (some ⟨b,0,none⟩) l.length c) l:=.inr ⟨b,0,c,rfl,h⟩
def Zd (w:World)(C m:Nat)(kind:UInt8)(name data:List UInt8)(gnu:Bool)(e:Ending)(w':World):Prop:=
 ∃v t,e=.returned v∧OwnB w' w.heap.size v t∧MetaE kind name data gnu t∧Kp (· =C) w w'∧Cho w' C (m+100)
theorem X6 (kind:UInt8)(name:List UInt8)(n:Nat)(hn:n≤1099511627776):NumIn (El kind name n):=by
 refine⟨fun j hj=>?_,by simp[El,hd0],by simp[El,hd0]⟩
 match j,hj with
 |0,_=>simp[fv,El,hd0]
 |1,_=>simp[fv,El,hd0]
 |2,_=>simp[fv,El,hd0]
 |3,_=>simp[fv,El,hd0];omega
 |4,_=>simp[fv,El,hd0]
 |5,_=>simp[fv,El,hd0]
 |6,_=>simp[fv,El,hd0]
theorem Qv (w:World)(C m:Nat)(h:Hd)(rv:Value)(fm:Int)(gnu:Bool)(hf:if gnu then fm=3 else fm=1∨fm=2)(hC:Cho w C m)(hm:m+200≤1000000000000)(hi:NumIn h)(hnl:h.name.length≤1099511627776) :
  Calls Tryz.prog 76 #[.pointer (some ⟨C,0,none⟩), .agg (Bd h rv).toArray, .int .i64 fm] w (M7 w C m h gnu):=by
 cases gnu with
 |true=>rw[if_pos rfl] at hf;subst hf;exact Bai w C m h rv hC hm hi
 |false=>rw[if_neg (by simp)] at hf;exact Vu w C m h rv fm hf hC hm hi hnl
theorem Eh (w:World)(C m:Nat)(kind:UInt8)(name data:List UInt8)(fm:Int)(gnu:Bool)(hf:if gnu then fm=3 else fm=1∨fm=2)(hC:Cho w C m)(hm:m+200≤1000000000000)(hd:data.length≤1099511627776)(hnl:name.length≤1099511627776) :
  Calls Tryz.prog 71 #[.pointer (some ⟨C,0,none⟩), .int .u8 kind.toNat, .string ⟨name.toArray⟩, .string ⟨data.toArray⟩, .int .i64 fm] w (Zd w C m kind name data gnu):=by
 have HB:=hid (Qv w C m (El kind name data.length) (.slice none 0 0) fm gnu hf hC hm (X6 kind name _ hd) hnl);have hCw:C<w.heap.size:=by obtain⟨nv,a,h1,_⟩:=hC;exact Bv h1
 clear hC hf;go_enter Tryz.func71,Tryz.ntmps71
 go_wp2_with fail
 refine HB.out.mono ?_;rintro e w1 ⟨l,rfl,hrow,hblk,hk1,hc1⟩;have hl:=hblk.len;obtain⟨c2,w2,hr2,hb2,hk2⟩:=Vv w1 data;have hrow2:=hk2.heap hrow (fun h=>h);have HF:=hid (M6 w2 (.slice (some ⟨w1.heap.size,0,none⟩) data.length c2) data (DataAt.of hb2) hd);have HROW:=hid hrow2;have HBLK:=hid hblk;have HK:=hid (hk1.then hk2 (fun _ _ h=>h.elim));have HC:=hid (hc1.keep hk2 (fun _ h=>h.elim) (Nat.le_refl _));clear hrow hblk hk1 hc1 hb2 hrow2 hk2 HB;go_wp2_with fail
 refine HF.out.mono ?_;rintro e w3 ⟨v3,rfl,hown3,hk3⟩;have hown1:OwnB w3 w.heap.size (.slice (some ⟨w.heap.size+1,0,none⟩) 512 512) l:=by
  have:=RowB.own (base:=w.heap.size) (hk3.heap HROW.out (fun h=>h)) (by omega) (by rw[hl];decide)
  rwa[hl] at this
 obtain⟨A3,c3,rfl⟩:=hown3.shape;have hda:DataAt w3 (.slice A3 (Cb data).length c3) (Cb data):=by
  rcases hown3.2 with ⟨h1,h2⟩|⟨g,cap,cur,h1,h2,h3,h4,h5,h6,h7⟩
  ·exact .inl ⟨.inl h1,List.eq_nil_of_length_eq_zero h2⟩
  ·refine .inr ⟨g,0,cap,h1,fun j u hu=>?_⟩;rw[Nat.zero_add];refine cell_of h3 j ?_;rw[←h7,Nat.mul_one,List.getElem?_take] at hu;split at hu
   ·simpa using hu
   ·cases hu
 have hfl:(Cb data).length≤1099511628800:=by rw[Ef];have:=G7 data.length;omega
 have hsz3:w.heap.size≤w3.heap.size:=Nat.le_trans HK.out.size hk3.size;obtain⟨v4,w4,hr4,hown4,hk4,hx4⟩:=Ge w3 27 w.heap.size _ _ l (Cb data) hown1 hda (by rw[hl];omega) hsz3
 have FIN:Hid (Zd w C m kind name data gnu (.returned v4) w4):=by
  have hc3:=HC.out.keep hk3 (fun _ h=>h.elim) (Nat.le_refl _);exact⟨v4,_,rfl,hown4, .mk l HBLK.out,(HK.out.then hk3 (fun _ _ h=>h.elim)).then hk4 (fun i hi e=>by have e:some i=some (w.heap.size+1):=e;injection e with e;omega),hc3.keep hk4 (fun i e=>by have e:some i=some (w.heap.size+1):=e;injection e with e;omega) (Nat.le_refl _)⟩
 have HR4:=hid hr4;clear hr4 hown4 hk4 hx4 hda hown1 hown3 hk3;dsimp only;rename_i K h;refine h _ _ ?_;clear h;go_wp2_with (at_builtin;refine Lib.wpList_append_run _ rfl _ _ _ _ rfl _ _ rfl rfl _ _ HR4.out ?_)
 go_ret
 exact FIN.out
structure TldL (w0:World)(C m:Nat)(h:Hd)(rv:Value)(l:List Rec)(g cap:Nat)(w:World):Prop where
 st:TldSt w0 C m h rv l w
 lv:w.heap[w0.heap.size+2]?=some (.cells #[.slice (some ⟨g,0,none⟩) l.length cap] 43 (0,0))
 own:OwnR 136 w (w0.heap.size+3) (.slice (some ⟨g,0,none⟩) l.length cap) l
theorem TldSt.open {w0 w:World}{C m:Nat}{h:Hd}{rv:Value}{l:List Rec}(s:TldSt w0 C m h rv l w)(hl:l≠[]):∃g cap,TldL w0 C m h rv l g cap w:=by
 obtain⟨v,h1,h2⟩:=s.lv;rcases h2.shape with ⟨_,e⟩|⟨g,cap,rfl,_⟩
 ·exact absurd e hl
 ·exact⟨g,cap,s,h1,h2⟩
theorem TldL.set {w0 w:World}{C m g cap i:Nat}{h:Hd}{rv:Value}{l:List Rec}(s:TldL w0 C m h rv l g cap w)(hC:C<w0.heap.size)(hi:i<l.length)(r:Rec) :
  TldL w0 C m h rv (l.set i r) g cap ((w.setCell ⟨g,i*2,none⟩ (.string ⟨r.1.toArray⟩)).setCell ⟨g,i*2+1,none⟩ (.string ⟨r.2.toArray⟩)):=by
 have hb:=s.own.block (b:=g) rfl;have k:Kp (· =g) w ((w.setCell ⟨g,i*2,none⟩ (.string ⟨r.1.toArray⟩)).setCell ⟨g,i*2+1,none⟩ (.string ⟨r.2.toArray⟩)):=
  Kp.setCell (S:=(· =g)) (p:=⟨g,i*2+1,none⟩) (Kp.setCell (S:=(· =g)) (p:=⟨g,i*2,none⟩) (Kp.refl _ w) (.inl rfl) _) (.inl rfl) _
 have o:=s.own.set hi r;have hl:(l.set i r).length=l.length:=List.length_set;have lv':=k.heap s.lv (by omega)
 rw[←hl] at o lv';exact⟨⟨s.st.cho.keep k (fun j hj=>by omega) (Nat.le_refl _),k.heap s.st.cp (by omega),k.heap s.st.hdr (by omega),⟨_,lv',o⟩,s.st.kp.then k (fun j hj e=>by omega)⟩,lv',o⟩
theorem TldL.c0 {w0 w:World}{C m g cap i:Nat}{h:Hd}{rv:Value}{l:List Rec}{r:Rec}(s:TldL w0 C m h rv l g cap w)(hr:l[i]?=some r):w.cell? ⟨g,i*2,none⟩=some (.string ⟨r.1.toArray⟩):=s.own.cell0 hr
theorem TldL.c1 {w0 w:World}{C m g cap i:Nat}{h:Hd}{rv:Value}{l:List Rec}{r:Rec}(s:TldL w0 C m h rv l g cap w)(hr:l[i]?=some r):w.cell? ⟨g,i*2+1,none⟩=some (.string ⟨r.2.toArray⟩):=s.own.cell1 hr
theorem Bak (l:List Rec)(i k:Nat)(hi:i<l.length)(hk:k<l.length):((l.set i l[k]).set k l[i]).Perm l:=List.set_set_perm hi hk
end Go.Proofs.YtgfcnjfmmjcodaaGreatDoor
