/- FnSlowAgrees. -/
import Derived.Test.YtgfcnjfmmjcodaaGreatDoorP40
set_option linter.all false
set_option maxRecDepth 100000
set_option maxHeartbeats 1000000
open Go.Lib (hid)
namespace Go.Proofs.YtgfcnjfmmjcodaaGreatDoor
open Go Go.RowKit
theorem Bh2 (w:World)(x:Int):Calls Tryz.prog 16 #[.int .i64 x, .int .i64 4096] w fun e w'=>(∃k:Nat,k<4096∧e=.returned (.int .i64 k))∧w'=w:=by
 have hyb: -(4096:Int)<Int.tmod x 4096∧Int.tmod x 4096<4096:=by
  have h1:=Int.tmod_lt_of_pos x (show (0:Int)<4096 by omega)
  have h2:=Int.neg_tmod (a:=x) (b:=4096);have h3:=Int.tmod_lt_of_pos (-x) (show (0:Int)<4096 by omega)
  omega
 obtain⟨y,hy⟩:∃y,Int.tmod x 4096=y:=⟨_,rfl⟩;rw[hy] at hyb;by_cases hneg:y<0
 ·go_enter Tryz.func16,Tryz.ntmps16
  go_wp2_with fail
  go_ret
  exact⟨⟨(y+4096).toNat,by omega,by show Ending.returned (.int .i64 (y+4096))=_;rw[Int.toNat_of_nonneg (by omega)]⟩,rfl⟩
 ·have hneg':decide (y<0)=false:=decide_eq_false hneg;go_enter Tryz.func16,Tryz.ntmps16
  go_wp2_with fail
  go_ret
  exact⟨⟨y.toNat,by omega,by show Ending.returned (.int .i64 y)=_;rw[Int.toNat_of_nonneg (by omega)]⟩,rfl⟩
def SlB (kz:Int)(n:Nat)(b:Bool)(w w':World):Prop:=(b=true→0≤kz∧kz<(n:Int))∧w'=w
def SlL (L gb n m:Nat)(l:List UInt8)(w w':World):Prop:=(BytesAt w gb 0 l∧l.length≤n∧∃rs ge,FilesP L 0 0 l rs ge∧rs.length≤m)∧w'=w
theorem Bh3 {w:World}{gb cb:Nat}{bb:List UInt8}(h:BytesAt w gb 0 bb)(k:Nat):BytesAt w gb 0 (bb.take k):=fun j u hu=>h j u (by
 rw[Cy] at hu ⊢
 rw[List.getElem?_take] at hu
 split at hu
 ·exact hu
 ·cases hu)
set_option maxHeartbeats 25600000 in
theorem Bh4 {E:Nat→Addr}{B:Nat}(w:World)(hG:Glob E B w)(hut:Lib.Utf8Tabs 14 15 w)(h16:16≤B)(fs:List Bt)(fv nv:Value)(kz lz:Int)(sv:Value)(ss:List Int)(hfs:IFilesAt w w.heap.size fv fs)(hnv:NumsAt w w.heap.size nv)(hss:IntsAt w w.heap.size sv ss)(hsl:ss.length≤1048576)(hsr:∀x∈ss,-9223372036854775808≤x∧x≤9223372036854775807)(ho:InpOk fs) :
  Calls Tryz.prog 11 #[fv,nv, .int .i64 kz, .int .i64 lz,sv] w fun e w'=>e=.returned (.bool true)∧Kp (fun _=>False) w w':=by
 obtain⟨A,c,rfl⟩:=hfs.shape;obtain⟨An,ln,cn,rfl⟩:∃A n c,nv=.slice A n c:=by
  rcases hnv with h|⟨nb,no,nl,nc,h,_⟩
  ·exact⟨_,_,_,h⟩
  ·exact⟨_,_,_,h⟩
 have HZ:=hid (Bgf w w.heap.size _ fs hfs (fun f hf=>by have h1:=(ho.ok f hf).2.wt;have h2:=Ki f.1.recs;rw[C9] at h1;omega) (by have:=ho.len;omega))
 have HTO:=fun W (k:Kp (fun _=>False) w W)=>hid (Bf9 W _ fs (hfs.up k k.size) (fun f hf=>(ho.ok f hf).2) ho.len);obtain⟨As,cs,hsv⟩:=hss.shape;subst hsv;have HSS:=hid hss;have HSR:=hid hsr;have HNV:=hid hnv;have HO:=hid ho;have HUT:=hid hut;have HG:=hid hG;clear hfs hnv ho hut hG hss hsr;have hbz:decide ((2147483647:Int)<(ss.length:Int))=false:=decide_eq_false (by omega)
 obtain⟨bl,ebl⟩:∃b,decide ((2147483647:Int)<(ln:Int))=b:=⟨_,rfl⟩;go_enter Tryz.func11,Tryz.ntmps11
 go_wp2_with fail
 refine HZ.out.mono ?_;rintro e w1 ⟨⟨b1,rfl⟩,k1⟩;clear HZ;cases b1 with
 |false=>
  go_wp2_with fail
  go_ret
  exact⟨rfl,k1⟩
 |true=>
 cases bl with
 |true=>
  go_wp2_with fail
  go_ret
  exact⟨rfl,k1⟩
 |false=>
 have HT:=HTO w1 k1;clear HTO;go_wp2_with fail
 refine HT.out.mono ?_;rintro e w3 hx;obtain⟨v3,b3,rfl,hto,k3⟩:=hx.out;have K3:=hid (k1.trans k3);have HT3:=hid hto;clear hx hto k3 k1 HT hbz ebl;cases b3 with
 |false=>
  go_wp2_with fail
  go_ret
  exact⟨rfl,K3.out⟩
 |true=>
 obtain⟨out,hfa,hta,hds⟩:=HT3.out rfl;obtain⟨hgood,hfin,hol⟩:=Bfp hta HO.out hds;obtain⟨A3,c3,rfl⟩:=hfa.shape;have HEN:=hid (Bfi w3 _ (.slice An ln cn) out hfa (HNV.out.up K3.out K3.out.size) hfin hol (by omega))
 have HGD:=hid hgood;clear hfa hta hds HT3 HNV hgood hfin HO;go_wp2_with fail
 refine(Bh2 _ lz).mono ?_;rintro e w3b ⟨⟨L,hL,rfl⟩,rfl⟩;go_wp2_with fail
 refine HEN.out.mono ?_;rintro e w4 hx;obtain⟨v4,bb,rfl,ho4,hn4,he4,hl4,k4⟩:=hx.out;obtain⟨gb,cb,hv4,hcbl,hcb⟩:∃gb cb,v4=.slice (some ⟨gb,0,none⟩) bb.length cb∧bb.length≤cb∧BytesAt w4 gb 0 bb:=by
  rcases ho4.bytes with ⟨e2,_⟩|⟨g2,c2,e2,hg2,_,hc2,_,hb2⟩
  ·rw[e2] at hn4;exact absurd rfl hn4
  ·exact⟨g2,c2,e2,hc2,hb2⟩
 subst hv4;have K4:=hid (K3.out.trans k4);have harc:ArcS 0 0 bb out:=by have:=ArcS.start he4 [];rwa[List.append_nil] at this
 have HFP:Hid (∀j,j≤bb.length→∃rs ge,FilesP L 0 0 (bb.take j) rs ge∧rs.length≤out.length):=fun j hj=>harc.cutP L HGD.out j hj;have HBY:=hid hcb;have HLE:Hid (bb.length≤140737488355328):=by show bb.length≤140737488355328;omega
 clear hx ho4 hn4 he4 k4 harc HEN hcb HGD
 have REST:Hid (∀(l:List UInt8) (cl:Nat),BytesAt w4 gb 0 l→l.length≤bb.length→(∃rs ge,FilesP L 0 0 l rs ge∧rs.length≤out.length)→∃(rs:List Bgt) (ge:Nat),rs.length≤out.length∧(∀r∈rs,r.2.1.length≤4096)∧(Calls Tryz.prog 25 #[.slice (some ⟨gb,0,none⟩) l.length cl, .int .i64 L] w4 fun e w'=>Hid (Bgx (fun _=>False) w4 L rs ge e w')) ∧
   ∀w5,Kp (fun _=>False) w4 w5→Calls Tryz.prog 29 #[.slice (some ⟨gb,0,none⟩) l.length cl, .int .i64 L, .slice As ss.length cs] w5 fun e w'=>Hid (Bgx (fun _=>False) w5 L rs ge e w')):=by
  show ∀(l:List UInt8) (cl:Nat),_;intro l cl hl hll hfp;obtain⟨rs,ge,hfp,hrl⟩:=hfp;have hlx:=HLE.out;refine⟨rs,ge,hrl,fun r hr=>Nat.le_trans (hfp.dat_le r hr) (by omega),Bia w4 (HG.out.keep K4.out (fun _ h=>h.elim)) (Utf8Tabs.keep HUT.out K4.out (fun h=>h) (fun h=>h)) h16 gb 0 cl l hl (by omega) L rs ge hfp (by omega) (by omega),fun w5 k5=>?_⟩
  have k45:=K4.out.trans k5;exact Bib w5 (HG.out.keep k45 (fun _ h=>h.elim)) (Utf8Tabs.keep HUT.out k45 (fun h=>h) (fun h=>h)) h16 gb 0 cl l (fun j u hu=>k5.cell (hl j u hu) (fun h=>h)) (by omega) L rs ge hfp (by omega) (by omega) _ ss (HSS.out.up k45 k45.size) hsl HSR.out
 go_upto_region 8 with fail
 try simp only[Act.put]
 go_cut [51] from 44 to 51 (fun s51 wx=>∃b:Bool,s51=.bool b∧Hid (SlB kz bb.length b w4 wx))
 case first=>
  by_cases h0:0≤kz
  ·by_cases h1:kz<(bb.length:Int)
   ·have NX:Hid (SlB kz bb.length true w4 w4):=⟨fun _=>⟨h0,h1⟩,rfl⟩;(go_wp2_with fail);go_meet
    case rel=>exact⟨true,rfl,NX⟩
   ·(have NX:Hid (SlB kz bb.length false w4 w4):=⟨(fun h=>by cases h),rfl⟩);have h1':decide (kz<(bb.length:Int))=false:=decide_eq_false h1;(go_wp2_with fail);go_meet
    case rel=>exact⟨false,rfl,NX⟩
  ·(have NX:Hid (SlB kz bb.length false w4 w4):=⟨(fun h=>by cases h),rfl⟩);have h0':decide (0≤kz)=false:=decide_eq_false h0;(go_wp2_with fail);go_meet
   case rel=>exact⟨false,rfl,NX⟩
 case rest=>
 obtain⟨b,rfl,HB⟩:=hcut;have hw4:wc=w4:=HB.out.2;rw[hw4];have HB1:=hid HB.out.1;clear HB;go_upto_if 51 with fail
 try simp only[Act.put]
 go_cut [13] from 51 to 54 (fun s13 wy=>∃(l:List UInt8) (cl:Nat),s13=.slice (some ⟨gb,0,none⟩) l.length cl∧Hid (SlL L gb bb.length out.length l w4 wy))
 case first=>
  cases b with
  |false=>
   (have NX:Hid (SlL L gb bb.length out.length bb w4 w4):=⟨⟨HBY.out,Nat.le_refl _,by have:=HFP.out bb.length (Nat.le_refl _);rwa[List.take_length] at this⟩,rfl⟩);(go_wp2_with fail);go_meet
   case rel=>exact⟨bb,cb,rfl,NX⟩
  |true=>
   (obtain⟨k,hkz⟩:∃k:Nat,kz=(k:Int):=⟨kz.toNat,by have:=(HB1.out rfl).1;omega⟩);subst hkz;have hk1:(k:Int)<(bb.length:Int):=(HB1.out rfl).2;(have hk2:(k:Int)≤(cb:Int):=by omega);(have hk0:(0:Int)≤(k:Int):=by omega);(have hlk:(bb.take k).length=k:=by rw[List.length_take];omega);(have NX:Hid (SlL L gb bb.length out.length (bb.take k) w4 w4):=⟨⟨Bh3 (cb:=cb) HBY.out k,by omega,HFP.out k (by omega)⟩,rfl⟩);have HLK:=hid hlk;clear hlk HB1;(go_wp2_with fail);go_meet
   case rel=>exact⟨bb.take k,cb,by rw[HLK.out],NX⟩
 case rest=>
 obtain⟨l,cl,rfl,HL2⟩:=hcut;have hw5:wc=w4:=HL2.out.2;rw[hw5];obtain⟨rs,ge,hrl,hdl,hread,hslow⟩:=REST.out l cl HL2.out.1.1 HL2.out.1.2.1 HL2.out.1.2.2;have HDL:=hid hdl;clear hdl;have HREAD:=hid hread;have HSLOW:=hid hslow;clear hread hslow REST HFP HL2 HB1;go_wp2_with fail
 refine HREAD.out.mono ?_;rintro e w5 hx;obtain⟨vo,gs,rfl,h1,h2,k5⟩:=hx.out;have HSL:=hid (HSLOW.out w5 k5);obtain⟨Ao,co,rfl⟩:=h1.shape;have HG1:=hid h1;have HG2:=hid h2;have K5:=hid (K4.out.trans k5);have HGL1:=hid h2.len;clear hx h1 h2 k5 HREAD HSLOW;go_wp2_with fail
 refine HSL.out.mono ?_;rintro e w6 hx;obtain⟨vo2,gs2,rfl,h1,h2,k6⟩:=hx.out;obtain⟨Ao2,co2,rfl⟩:=h1.shape;have HGL2:=hid h2.len;have hgl:gs2.length=gs.length:=HGL2.out.trans HGL1.out.symm;have HP1:Hid (IFilesAt w6 w6.heap.size (.slice Ao gs.length co) gs):=HG1.out.up k6 k6.size;have HP2:Hid (IFilesAt w6 w6.heap.size (.slice Ao2 gs2.length co2) gs2):=h1;rw[hgl];have HGS2:=hid h2;have HLEN:=hid hgl;have K6:=hid (K5.out.trans k6);obtain⟨fc,hfc⟩:∃fc,Bg1 ge=fc:=⟨_,rfl⟩;rw[hfc];have hf0:(fc==0)=false:=by rw[←hfc];unfold Bg1;split<;>rfl
 have hgm:gs.length≤1048576:=by rw[HGL1.out];omega
 have S0:Hid (Kp (fun _=>False) w6 w6):=Kp.refl _ _;clear hx h1 h2 k6 HSL HG1 K5 hgl HGL1 HGL2 hfc hrl;go_wp2_with fail
 go_loopg [90] gs.length (fun g s90 wr=>∃(i:Nat),i+g=gs.length∧s90=.int .i64 i∧Hid (Kp (fun _=>False) w6 wr))
 case atStart=>exact⟨0,by omega,rfl,S0⟩
 case round=>
  clear S0;obtain⟨i,hi,rfl,hst⟩:=hrel;by_cases hlt:i<gs.length
  ·obtain⟨g,hgi⟩:∃g,gs[i]?=some g:=⟨_,List.getElem?_eq_getElem hlt⟩;(obtain⟨g2,hgi2⟩:∃g,gs2[i]?=some g:=⟨_,List.getElem?_eq_getElem (by rw[HLEN.out];exact hlt)⟩);obtain⟨hsame,hdat,hend⟩:=HG2.out.pair HGS2.out hgi hgi2;(have hr1:g.1.recs.length≤1048576:=by obtain⟨r,_,_,_,_,h⟩:=HG2.out.get hgi;exact h);(have hr2:g2.1.recs.length≤1048576:=by obtain⟨r,_,_,_,_,h⟩:=HGS2.out.get hgi2;exact h);obtain⟨b,o,c',hA,hbC,rv,dv,hrg,hra,hda⟩:=(HP1.out.keep hst.out (fun _ h=>h.elim)).get hgi;(injection hA with hA1 hA2 hA3);subst hA1 hA3;obtain⟨b2,o2,c2',hB,hbC2,rv2,dv2,hrg2,hra2,hda2⟩:=(HP2.out.keep hst.out (fun _ h=>h.elim)).get hgi2;(injection hB with hB1 hB2 hB3);subst hB1 hB3;(have hi1:(0:Int)≤(i:Int):=by omega);(have hi2:(i:Int)<(gs.length:Int):=by omega);have hda1:=hda.dataAt;have hda3:=hda2.dataAt;rw[←hdat] at hda3;have hdl:g.2.1.length≤1099511627776:=by
    obtain⟨r,hr,_,h,_⟩:=HG2.out.get hgi;rw[h];have:=HDL.out r (List.mem_of_getElem? hr);omega
   obtain⟨Ad,nd,cd,hdv⟩:∃A n c,dv=.slice A n c:=by
    obtain⟨A,c,e⟩:=hda1.shape;exact⟨A,_,c,e⟩
   obtain⟨Ae,ne,ce,hdv2⟩:∃A n c,dv2=.slice A n c:=by
    obtain⟨A,c,e⟩:=hda3.shape;exact⟨A,_,c,e⟩
   obtain⟨Ar,nr,cr,hrv⟩:∃A n c,rv=.slice A n c:=by
    obtain⟨A,c,e⟩:=hra.shape;exact⟨A,_,c,e⟩
   obtain⟨As2,ns2,cs2,hrv2⟩:∃A n c,rv2=.slice A n c:=by
    obtain⟨A,c,e⟩:=hra2.shape;exact⟨A,_,c,e⟩
   have HSB:Hid (∀W,Kp (fun _=>False) wr W→Hid (Calls Tryz.prog 23 #[dv,dv2] W fun e w'=>e=.returned (.bool true)∧Kp (fun _=>False) W w')):=by
    show ∀W,_;intro W k;exact Bfo W dv dv2 g.2.1 (hda1.keepF k) (hda3.keepF k) hdl
   have HPL1:Hid (∀W,Kp (fun _=>False) wr W→Calls Tryz.prog 31 #[.agg (Bu g.1 rv).toArray] W fun e w'=>(∃rv',e=.returned (.agg (Bd g.1 rv').toArray))∧Kp (fun _=>False) W w'):=by
    show ∀W,_;intro W k;exact(Qz W w6.heap.size g.1 rv (hra.keep k (fun _ h=>h.elim)) (by omega)).mono fun e w' ⟨⟨rv',h,_⟩,k⟩=>⟨⟨rv',h⟩,k⟩
   have HPL2:Hid (∀W,Kp (fun _=>False) wr W→Calls Tryz.prog 31 #[.agg (Bu g2.1 rv2).toArray] W fun e w'=>(∃rv',e=.returned (.agg (Bd g2.1 rv').toArray))∧Kp (fun _=>False) W w'):=by
    show ∀W,_;intro W k;exact(Qz W w6.heap.size g2.1 rv2 (hra2.keep k (fun _ h=>h.elim)) (by omega)).mono fun e w' ⟨⟨rv',h,_⟩,k⟩=>⟨⟨rv',h⟩,k⟩
   have HSM:Hid (∀(W:World) (r1 r2:Value),Calls Tryz.prog 30 #[.agg (Bd g.1 r1).toArray, .agg (Bd g2.1 r2).toArray] W fun e w'=>e=.returned (.bool true)∧Kp (fun _=>False) W w'):=fun W r1 r2=>Bcl W g.1 g2.1 r1 r2 hsame;subst hdv hdv2 hrv hrv2;have RB1:Hid (∀W,Kp (fun _=>False) wr W→W.rangeAt b (o+i*23) (Bu g.1 (.slice Ar nr cr))):=by
    show ∀W,_;intro W k j v hv;exact k.cell (hrg j v (by unfold Cf;rw[List.getElem?_append_left (List.getElem?_eq_some_iff.1 hv).1];exact hv)) (fun h=>h)
   have RB2:Hid (∀W,Kp (fun _=>False) wr W→W.rangeAt b2 (o2+i*23) (Bu g2.1 (.slice As2 ns2 cs2))):=by
    show ∀W,_;intro W k j v hv;exact k.cell (hrg2 j v (by unfold Cf;rw[List.getElem?_append_left (List.getElem?_eq_some_iff.1 hv).1];exact hv)) (fun h=>h)
   have C21:Hid (wr.cell? ⟨b,o+i*23+21,none⟩=some (.slice Ad nd cd)):=hrg 21 _ rfl;have C22:Hid (wr.cell? ⟨b,o+i*23+22,none⟩=some (.int .i64 g.2.2)):=hrg 22 _ rfl;have D21:Hid (wr.cell? ⟨b2,o2+i*23+21,none⟩=some (.slice Ae ne ce)):=hrg2 21 _ rfl;have D22:Hid (wr.cell? ⟨b2,o2+i*23+22,none⟩=some (.int .i64 g2.2.2)):=hrg2 22 _ rfl;have KR:=hid hst.out;obtain⟨be,hbe⟩:∃be:Bool,(g.2.2==1)=be:=⟨_,rfl⟩;have hbe2:(g2.2.2==1)=be:=hend.symm.trans hbe;(have hbx:(be != be)=false:=by cases be<;>rfl);have hi4:(i:Int)<(gs.length:Int):=hi2;clear hA2 hB2 hrg hra hda hrg2 hra2 hda2 hda1 hda3 hgi hgi2 hsame hdat hend hr1 hr2 hst hdl;(go_upto_region 17 with fail);have S0:Kp (fun _=>False) wr wr.drew:=(Kp.refl _ _).drew;(refine wp_region_held_drew (S:=fun W=>Kp (fun _=>False) wr W) (by kernel_rfl) S0 (fun hHeld=>?_));clear S0;(refine wpAnyH_take (i:=0) (v:=?_) rfl (by kernel_rfl) (by kernel_rfl) (by kernel_rfl) (fun _ _ _ h=>h) (Or.inl ⟨by rfl,?_⟩) (by assumption) ?_);rotate_left 1
   ·intro W hSw;clear hSw;go_simp;(try with_reducible rfl)
   (try simp only[Act.put,List.getElem_toArray,List.getElem_cons_succ,List.getElem_cons_zero,sA,sB,sC]);(refine wpAnyH_take (i:=1) (v:=?_) rfl (by kernel_rfl) (by kernel_rfl) (by kernel_rfl) (fun _ _ _ h=>h) (Or.inl ⟨by rfl,?_⟩) (by assumption) ?_);rotate_left 1
   ·intro W hSw;clear hSw;go_simp;(try with_reducible rfl)
   (try simp only[Act.put,List.getElem_toArray,List.getElem_cons_succ,List.getElem_cons_zero,sA,sB,sC]);(refine wpAnyH_take (i:=2) (v:=?_) rfl (by kernel_rfl) (by kernel_rfl) (by kernel_rfl) (fun _ _ _ h=>h) (Or.inl ⟨by rfl,?_⟩) (by assumption) ?_);rotate_left 1
   ·intro W hSw;clear hSw;go_simp;(try with_reducible rfl)
   (try simp only[Act.put,List.getElem_toArray,List.getElem_cons_succ,List.getElem_cons_zero,sA,sB,sC]);(refine wpAnyH_take (i:=3) (v:=?_) rfl (by kernel_rfl) (by kernel_rfl) (by kernel_rfl) (fun _ _ _ h=>h) (Or.inl ⟨by rfl,?_⟩) (by assumption) ?_);rotate_left 1
   ·intro W hSw;clear hSw;go_simp;(try with_reducible rfl)
   (try simp only[Act.put,List.getElem_toArray,List.getElem_cons_succ,List.getElem_cons_zero,sA,sB,sC]);(refine wpAnyH_take (i:=4) (v:=?_) rfl (by kernel_rfl) (by kernel_rfl) (by kernel_rfl) (fun _ _ _ h=>h) (Or.inl ⟨by rfl,?_⟩) (by assumption) ?_);rotate_left 1
   ·intro W hSw;have c22:=hSw.cell C22.out (fun h=>h);clear hSw;go_simp;(try with_reducible rfl)
   (try simp only[Act.put,List.getElem_toArray,List.getElem_cons_succ,List.getElem_cons_zero,sA,sB,sC]);(refine wpAnyH_take (i:=5) (v:=?_) rfl (by kernel_rfl) (by kernel_rfl) (by kernel_rfl) (fun _ _ _ h=>h) (Or.inl ⟨by rfl,?_⟩) (by assumption) ?_);rotate_left 1
   ·intro W hSw;clear hSw;go_simp;(try with_reducible rfl)
   (try simp only[Act.put,List.getElem_toArray,List.getElem_cons_succ,List.getElem_cons_zero,sA,sB,sC]);(refine wpAnyH_take (i:=6) (v:=?_) rfl (by kernel_rfl) (by kernel_rfl) (by kernel_rfl) (fun _ _ _ h=>h) (Or.inl ⟨by rfl,?_⟩) (by assumption) ?_);rotate_left 1
   ·intro W hSw;clear hSw;go_simp;(try with_reducible rfl)
   (try simp only[Act.put,List.getElem_toArray,List.getElem_cons_succ,List.getElem_cons_zero,sA,sB,sC]);(refine wpAnyH_take (i:=7) (v:=?_) rfl (by kernel_rfl) (by kernel_rfl) (by kernel_rfl) (fun _ _ _ h=>h) (Or.inl ⟨by rfl,?_⟩) (by assumption) ?_);rotate_left 1
   ·intro W hSw;clear hSw;go_simp;(try with_reducible rfl)
   (try simp only[Act.put,List.getElem_toArray,List.getElem_cons_succ,List.getElem_cons_zero,sA,sB,sC]);(refine wpAnyH_take (i:=8) (v:=?_) rfl (by kernel_rfl) (by kernel_rfl) (by kernel_rfl) (fun _ _ _ h=>h) (Or.inl ⟨by rfl,?_⟩) (by assumption) ?_);rotate_left 1
   ·intro W hSw;clear hSw;go_simp;(try with_reducible rfl)
   (try simp only[Act.put,List.getElem_toArray,List.getElem_cons_succ,List.getElem_cons_zero,sA,sB,sC]);(refine wpAnyH_take (i:=9) (v:=?_) rfl (by kernel_rfl) (by kernel_rfl) (by kernel_rfl) (fun _ _ _ h=>h) (Or.inl ⟨by rfl,?_⟩) (by assumption) ?_);rotate_left 1
   ·intro W hSw;clear hSw;go_simp;(try with_reducible rfl)
   (try simp only[Act.put,List.getElem_toArray,List.getElem_cons_succ,List.getElem_cons_zero,sA,sB,sC]);(refine wpAnyH_take (i:=10) (v:=?_) rfl (by kernel_rfl) (by kernel_rfl) (by kernel_rfl) (fun _ _ _ h=>h) (Or.inl ⟨by rfl,?_⟩) (by assumption) ?_);rotate_left 1
   ·intro W hSw;have d22:=hSw.cell D22.out (fun h=>h);clear hSw;go_simp;(try with_reducible rfl)
   (try simp only[Act.put,List.getElem_toArray,List.getElem_cons_succ,List.getElem_cons_zero,sA,sB,sC]);(refine wpAnyH_take (i:=11) (v:=?_) rfl (by kernel_rfl) (by kernel_rfl) (by kernel_rfl) (fun _ _ _ h=>h) (Or.inl ⟨by rfl,?_⟩) (by assumption) ?_);rotate_left 1
   ·intro W hSw;clear hSw;go_simp;(try with_reducible rfl)
   (try simp only[Act.put,List.getElem_toArray,List.getElem_cons_succ,List.getElem_cons_zero,sA,sB,sC]);(refine wpAnyH_take (i:=12) (v:=?_) rfl (by kernel_rfl) (by kernel_rfl) (by kernel_rfl) (fun _ _ _ h=>h) (Or.inl ⟨by rfl,?_⟩) (by assumption) ?_);rotate_left 1
   ·intro W hSw;clear hSw;go_simp;(try with_reducible rfl)
   (try simp only[Act.put,List.getElem_toArray,List.getElem_cons_succ,List.getElem_cons_zero,sA,sB,sC]);(refine wpAnyH_take (i:=13) (v:=?_) rfl (by kernel_rfl) (by kernel_rfl) (by kernel_rfl) (fun _ _ _ h=>h) (Or.inl ⟨by rfl,?_⟩) (by assumption) ?_);rotate_left 1
   ·intro W hSw;clear hSw;go_simp;(try with_reducible rfl)
   (try simp only[Act.put,List.getElem_toArray,List.getElem_cons_succ,List.getElem_cons_zero,sA,sB,sC]);(refine wpAnyH_take (i:=14) (v:=?_) rfl (by kernel_rfl) (by kernel_rfl) (by kernel_rfl) (fun _ _ _ h=>h) (Or.inl ⟨by rfl,?_⟩) (by assumption) ?_);rotate_left 1
   ·intro W hSw;clear hSw;go_simp;(try with_reducible rfl)
   (try simp only[Act.put,List.getElem_toArray,List.getElem_cons_succ,List.getElem_cons_zero,sA,sB,sC]);(refine wpAnyH_take (i:=15) (v:=?_) rfl (by kernel_rfl) (by kernel_rfl) (by kernel_rfl) (fun _ _ _ h=>h) (Or.inl ⟨by rfl,?_⟩) (by assumption) ?_);rotate_left 1
   ·intro W hSw;clear hSw;go_simp;(try with_reducible rfl)
   (try simp only[Act.put,List.getElem_toArray,List.getElem_cons_succ,List.getElem_cons_zero,sA,sB,sC]);(refine wpAnyH_take (i:=16) (v:=?_) rfl (by kernel_rfl) (by kernel_rfl) (by kernel_rfl) (fun _ _ _ h=>h) (Or.inl ⟨by rfl,?_⟩) (by assumption) ?_);rotate_left 1
   ·intro W hSw;clear hSw;go_simp;(try with_reducible rfl)
   (try simp only[Act.put,List.getElem_toArray,List.getElem_cons_succ,List.getElem_cons_zero,sA,sB,sC]);(refine wpAnyH_take (i:=17) (v:=?_) rfl (by kernel_rfl) (by kernel_rfl) (by kernel_rfl) (fun _ _ _ h=>h) (Or.inl ⟨by rfl,?_⟩) (by assumption) ?_);rotate_left 1
   ·intro W hSw;clear hSw;go_simp;(try with_reducible rfl)
   (try simp only[Act.put,List.getElem_toArray,List.getElem_cons_succ,List.getElem_cons_zero,sA,sB,sC]);(refine wpAnyH_take (i:=18) (v:=?_) rfl (by kernel_rfl) (by kernel_rfl) (by kernel_rfl) (fun _ _ _ h=>h) (Or.inl ⟨by rfl,?_⟩) (by assumption) ?_);rotate_left 1
   ·intro W hSw;have c21:=hSw.cell C21.out (fun h=>h);clear hSw;go_simp;(try with_reducible rfl)
   (try simp only[Act.put,List.getElem_toArray,List.getElem_cons_succ,List.getElem_cons_zero,sA,sB,sC]);(refine wpAnyH_take (i:=19) (v:=?_) rfl (by kernel_rfl) (by kernel_rfl) (by kernel_rfl) (fun _ _ _ h=>h) (Or.inl ⟨by rfl,?_⟩) (by assumption) ?_);rotate_left 1
   ·intro W hSw;clear hSw;go_simp;(try with_reducible rfl)
   (try simp only[Act.put,List.getElem_toArray,List.getElem_cons_succ,List.getElem_cons_zero,sA,sB,sC]);(refine wpAnyH_take (i:=20) (v:=?_) rfl (by kernel_rfl) (by kernel_rfl) (by kernel_rfl) (fun _ _ _ h=>h) (Or.inl ⟨by rfl,?_⟩) (by assumption) ?_);rotate_left 1
   ·intro W hSw;clear hSw;go_simp;(try with_reducible rfl)
   (try simp only[Act.put,List.getElem_toArray,List.getElem_cons_succ,List.getElem_cons_zero,sA,sB,sC]);(refine wpAnyH_take (i:=21) (v:=?_) rfl (by kernel_rfl) (by kernel_rfl) (by kernel_rfl) (fun _ _ _ h=>h) (Or.inl ⟨by rfl,?_⟩) (by assumption) ?_);rotate_left 1
   ·intro W hSw;clear hSw;go_simp;(try with_reducible rfl)
   (try simp only[Act.put,List.getElem_toArray,List.getElem_cons_succ,List.getElem_cons_zero,sA,sB,sC]);(refine wpAnyH_take (i:=22) (v:=?_) rfl (by kernel_rfl) (by kernel_rfl) (by kernel_rfl) (fun _ _ _ h=>h) (Or.inl ⟨by rfl,?_⟩) (by assumption) ?_);rotate_left 1
   ·intro W hSw;clear hSw;go_simp;(try with_reducible rfl)
   (try simp only[Act.put,List.getElem_toArray,List.getElem_cons_succ,List.getElem_cons_zero,sA,sB,sC]);(refine wpAnyH_take (i:=23) (v:=?_) rfl (by kernel_rfl) (by kernel_rfl) (by kernel_rfl) (fun _ _ _ h=>h) (Or.inl ⟨by rfl,?_⟩) (by assumption) ?_);rotate_left 1
   ·intro W hSw;have d21:=hSw.cell D21.out (fun h=>h);clear hSw;go_simp;(try with_reducible rfl)
   (try simp only[Act.put,List.getElem_toArray,List.getElem_cons_succ,List.getElem_cons_zero,sA,sB,sC]);refine Yl (i:=24) (v:=.bool true) rfl (by decide +kernel) (by assumption) (Or.inr ⟨by kernel_rfl,?_⟩) ?_
   ·intro K hK;go_simp;(go_at_call 23);refine(HSB.out _ hHeld).out.mono ?_;rintro e w1 ⟨rfl,k1⟩;(go_wp2_with fail);refine Bc8 (hK.out _ (hHeld.trans k1)) ?_;kernel_rfl
   clear hHeld;intro w9 hHeld;(try simp only[Act.put,List.getElem_toArray,List.getElem_cons_succ,List.getElem_cons_zero,sA,sB,sC]);(refine wpAnyH_take (i:=25) (v:=?_) rfl (by kernel_rfl) (by kernel_rfl) (by kernel_rfl) (fun _ _ _ h=>h) (Or.inl ⟨by rfl,?_⟩) (by assumption) ?_);rotate_left 1
   ·intro W hSw;clear hSw;go_simp;(try with_reducible rfl)
   (try simp only[Act.put,List.getElem_toArray,List.getElem_cons_succ,List.getElem_cons_zero,sA,sB,sC]);(refine wpAnyH_take (i:=26) (v:=?_) rfl (by kernel_rfl) (by kernel_rfl) (by kernel_rfl) (fun _ _ _ h=>h) (Or.inl ⟨by rfl,?_⟩) (by assumption) ?_);rotate_left 1
   ·intro W hSw;clear hSw;go_simp;(try with_reducible rfl)
   (try simp only[Act.put,List.getElem_toArray,List.getElem_cons_succ,List.getElem_cons_zero,sA,sB,sC]);(refine wpAnyH_take (i:=27) (v:=?_) rfl (by kernel_rfl) (by kernel_rfl) (by kernel_rfl) (fun _ _ _ h=>h) (Or.inl ⟨by rfl,?_⟩) (by assumption) ?_);rotate_left 1
   ·intro W hSw;clear hSw;go_simp;(try with_reducible rfl)
   (try simp only[Act.put,List.getElem_toArray,List.getElem_cons_succ,List.getElem_cons_zero,sA,sB,sC]);(refine wpAnyH_take (i:=28) (v:=?_) rfl (by kernel_rfl) (by kernel_rfl) (by kernel_rfl) (fun _ _ _ h=>h) (Or.inl ⟨by rfl,?_⟩) (by assumption) ?_);rotate_left 1
   ·intro W hSw;clear hSw;go_simp;(try with_reducible rfl)
   (try simp only[Act.put,List.getElem_toArray,List.getElem_cons_succ,List.getElem_cons_zero,sA,sB,sC]);(refine wpAnyH_take (i:=29) (v:=?_) rfl (by kernel_rfl) (by kernel_rfl) (by kernel_rfl) (fun _ _ _ h=>h) (Or.inl ⟨by rfl,?_⟩) (by assumption) ?_);rotate_left 1
   ·intro W hSw;clear hSw;go_simp;(try with_reducible rfl)
   (try simp only[Act.put,List.getElem_toArray,List.getElem_cons_succ,List.getElem_cons_zero,sA,sB,sC]);(refine wpAnyH_take (i:=30) (v:=?_) rfl (by kernel_rfl) (by kernel_rfl) (by kernel_rfl) (fun _ _ _ h=>h) (Or.inl ⟨by rfl,?_⟩) (by assumption) ?_);rotate_left 1
   ·intro W hSw;clear hSw;go_simp;(try with_reducible rfl)
   (try simp only[Act.put,List.getElem_toArray,List.getElem_cons_succ,List.getElem_cons_zero,sA,sB,sC]);(refine wpAnyH_take (i:=31) (v:=?_) rfl (by kernel_rfl) (by kernel_rfl) (by kernel_rfl) (fun _ _ _ h=>h) (Or.inl ⟨by rfl,?_⟩) (by assumption) ?_);rotate_left 1
   ·intro W hSw;clear hSw;go_simp;(try with_reducible rfl)
   (try simp only[Act.put,List.getElem_toArray,List.getElem_cons_succ,List.getElem_cons_zero,sA,sB,sC]);(refine' wpAnyH_take (i:=32) (v:=_) rfl (by kernel_rfl) (by kernel_rfl) (by kernel_rfl) (fun _ _ _ h=>h) (yieldsIf_load_mid (by rfl) 26 (.tmp 124) rfl b (o+i*23) rfl (Bu g.1 (.slice Ar nr cr)) _ (fun W hSw=>RB1.out W hSw) Tryz.underlying26 rfl (by kernel_rfl)) (by assumption) ?_);(try simp only[Act.put,List.getElem_toArray,List.getElem_cons_succ,List.getElem_cons_zero,sA,sB,sC]);(refine wpAnyH_take (i:=34) (v:=?_) rfl (by kernel_rfl) (by kernel_rfl) (by kernel_rfl) (fun _ _ _ h=>h) (Or.inl ⟨by rfl,?_⟩) (by assumption) ?_);rotate_left 1
   ·intro W hSw;clear hSw;go_simp;(try with_reducible rfl)
   (try simp only[Act.put,List.getElem_toArray,List.getElem_cons_succ,List.getElem_cons_zero,sA,sB,sC]);(refine wpAnyH_take (i:=35) (v:=?_) rfl (by kernel_rfl) (by kernel_rfl) (by kernel_rfl) (fun _ _ _ h=>h) (Or.inl ⟨by rfl,?_⟩) (by assumption) ?_);rotate_left 1
   ·intro W hSw;clear hSw;go_simp;(try with_reducible rfl)
   (try simp only[Act.put,List.getElem_toArray,List.getElem_cons_succ,List.getElem_cons_zero,sA,sB,sC]);(refine wpAnyH_take (i:=36) (v:=?_) rfl (by kernel_rfl) (by kernel_rfl) (by kernel_rfl) (fun _ _ _ h=>h) (Or.inl ⟨by rfl,?_⟩) (by assumption) ?_);rotate_left 1
   ·intro W hSw;clear hSw;go_simp;(try with_reducible rfl)
   (try simp only[Act.put,List.getElem_toArray,List.getElem_cons_succ,List.getElem_cons_zero,sA,sB,sC]);(refine wpAnyH_take (i:=37) (v:=?_) rfl (by kernel_rfl) (by kernel_rfl) (by kernel_rfl) (fun _ _ _ h=>h) (Or.inl ⟨by rfl,?_⟩) (by assumption) ?_);rotate_left 1
   ·intro W hSw;clear hSw;go_simp;(try with_reducible rfl)
   (try simp only[Act.put,List.getElem_toArray,List.getElem_cons_succ,List.getElem_cons_zero,sA,sB,sC]);(refine' wpAnyH_take (i:=38) (v:=_) rfl (by kernel_rfl) (by kernel_rfl) (by kernel_rfl) (fun _ _ _ h=>h) (yieldsIf_load_mid (by rfl) 26 (.tmp 130) rfl b2 (o2+i*23) rfl (Bu g2.1 (.slice As2 ns2 cs2)) _ (fun W hSw=>RB2.out W hSw) Tryz.underlying26 rfl (by kernel_rfl)) (by assumption) ?_);(try simp only[Act.put,List.getElem_toArray,List.getElem_cons_succ,List.getElem_cons_zero,sA,sB,sC]);(refine wpAnyH_ready (rs:=[33]) (by decide +kernel) (by simp) ?_);refine AllReadyH.cons (o:=_) rfl (fun K hK=>?_) AllReadyH.nil;go_simp;(go_at_call 31);refine(HPL1.out _ hHeld).mono ?_;rintro e w1 ⟨⟨rv1,rfl⟩,k1⟩;(go_wp2_with fail);refine hK.out _ _ (hHeld.trans k1) (fun hNew=>?_);clear hK K hHeld k1;have hHeld:=hNew;clear hNew;(try simp only[Act.put,List.getElem_toArray,List.getElem_cons_succ,List.getElem_cons_zero,sA,sB,sC]);(refine wpAnyH_ready (rs:=[39]) (by decide +kernel) (by simp) ?_);refine AllReadyH.cons (o:=_) rfl (fun K hK=>?_) AllReadyH.nil;go_simp;(go_at_call 31);refine(HPL2.out _ hHeld).mono ?_;rintro e w1 ⟨⟨rv3,rfl⟩,k1⟩;(go_wp2_with fail);refine hK.out _ _ (hHeld.trans k1) (fun hNew=>?_);clear hK K hHeld k1;have hHeld:=hNew;clear hNew
   (try simp only[Act.put,List.getElem_toArray,List.getElem_cons_succ,List.getElem_cons_zero,sA,sB,sC]);(refine wpAnyH_ready (rs:=[40]) (by decide +kernel) (by simp) ?_);refine AllReadyH.cons (o:=_) rfl (fun K hK=>?_) AllReadyH.nil;go_simp;(go_at_call 30);refine(HSM.out _ rv1 rv3).mono ?_;rintro e w1 ⟨rfl,k1⟩;(go_wp2_with fail);refine hK.out _ _ (hHeld.trans k1) (fun hNew=>?_);clear hK K hHeld k1;have hHeld:=hNew;clear hNew;(try simp only[Act.put,List.getElem_toArray,List.getElem_cons_succ,List.getElem_cons_zero,sA,sB,sC]);(refine wpAnyH_take (i:=41) (v:=?_) rfl (by kernel_rfl) (by kernel_rfl) (by kernel_rfl) (fun _ _ _ h=>h) (Or.inl ⟨by rfl,?_⟩) (by assumption) ?_);rotate_left 1
   ·intro W hSw;clear hSw;go_simp;(try with_reducible rfl)
   (try simp only[Act.put,List.getElem_toArray,List.getElem_cons_succ,List.getElem_cons_zero,sA,sB,sC]);(refine wpAnyH_take (i:=42) (v:=?_) rfl (by kernel_rfl) (by kernel_rfl) (by kernel_rfl) (fun _ _ _ h=>h) (Or.inl ⟨by rfl,?_⟩) (by assumption) ?_);rotate_left 1
   ·intro W hSw;clear hSw;go_simp;(try with_reducible rfl)
   (try simp only[Act.put,List.getElem_toArray,List.getElem_cons_succ,List.getElem_cons_zero,sA,sB,sC]);(refine wpAnyH_done (by decide +kernel) ?_ _);have K9:=hid (KR.out.trans hHeld);clear hHeld KR HSB HPL1 HPL2 HSM RB1 RB2 C21 C22 D21 D22;(go_wp2_with fail);go_roundg (gs.length-(i+1))
   case measure=>omega
   case rel=>exact⟨i+1,by omega,by simp,K9⟩
  ·(obtain rfl:i=gs.length:=by omega);(go_wp2_with fail);(go_ret);exact⟨rfl,K6.out.trans hst.out⟩
end Go.Proofs.YtgfcnjfmmjcodaaGreatDoor
