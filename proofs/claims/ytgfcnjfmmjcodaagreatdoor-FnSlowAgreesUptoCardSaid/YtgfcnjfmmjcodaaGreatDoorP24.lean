/- file. -/
import Derived.Test.YtgfcnjfmmjcodaaGreatDoorP22
import Derived.Test.YtgfcnjfmmjcodaaGreatDoorP23
set_option linter.all false
set_option maxRecDepth 100000
set_option maxHeartbeats 1000000
open Go.Lib (hid)
namespace Go.Proofs.YtgfcnjfmmjcodaaGreatDoor
open Go Go.RowKit
inductive HeadT (h:Hd):List UInt8→Prop
 |ustar (hf:h.fmt=1):HeadT h []
 |pax0 (hf:h.fmt=2) (h0:ToldE h []):HeadT h []
 |pax (hf:h.fmt=2) (rs:List Rec) (hr:ToldE h rs) (t m:List UInt8) (hrt:RecsT rs t) (hm:MetaE 120 Iv t false m):HeadT h m
 |gnu (hf:h.fmt=3) (first:Bool) (m k:List UInt8) (hm:C7 76 h.name m) (hk:C7 75 h.link k):HeadT h (if first then m++k else k++m)
theorem Yh (w wA:World)(C m:Nat)(h:Hd)(rv dv:Value)(z:Array Value)(hC:Cho w C m)(kA:Kp (fun _=>False) w wA)(sA:wA.heap.size=w.heap.size+2)
  (a0:wA.heap[w.heap.size]?=some (.cells #[.pointer (some ⟨C,0,none⟩)] 83 (0,0))) (a1:wA.heap[w.heap.size+1]?=some (.cells (Bd h rv++[dv]).toArray 47 (0,0))) :
  FlSt w C m h rv dv [] (((wA.alloc (.cells z 45)).setRow (w.heap.size+2) (Bd h rv).toArray).alloc (.cells #[.slice none 0 0] 27)):=by
 have k1:Kp (fun _=>False) wA ((wA.alloc (.cells z 45)).setRow (w.heap.size+2) (Bd h rv).toArray):=by
  have:=I6 wA (.cells z 45) (Bd h rv).toArray;rwa[sA] at this
 have h1:((wA.alloc (.cells z 45)).setRow (w.heap.size+2) (Bd h rv).toArray).heap[w.heap.size+2]?=some (.cells (Bd h rv).toArray 45 (0,0)):=by
  have:=Hi wA z (Bd h rv).toArray 45;rwa[sA] at this
 have s1:((wA.alloc (.cells z 45)).setRow (w.heap.size+2) (Bd h rv).toArray).heap.size=w.heap.size+3:=by
  show (Array.modify _ _ _).size=_;rw[Array.size_modify];show (wA.heap.push _).size=_;rw[Array.size_push,sA]
 generalize (wA.alloc (.cells z 45)).setRow (w.heap.size+2) (Bd h rv).toArray=wB at k1 h1 s1 ⊢;have h3:=Ba wB (.cells #[.slice none 0 0] 27);rw[s1] at h3;have k:Kp (fun _=>False) w (wB.alloc (.cells #[.slice none 0 0] 27)):=(kA.trans k1).alloc _;exact⟨hC.keep k (fun _ h=>h.elim) (Nat.le_refl _),heap_alloc (k1.heap a0 (fun h=>h)) _,heap_alloc (k1.heap a1 (fun h=>h)) _,heap_alloc h1 _,⟨_,h3,OwnB.nil _ _⟩,k.mono (fun _ _ h=>h.elim)⟩
set_option maxHeartbeats 3200000 in
theorem Bc2 (w:World)(C m:Nat)(h:Hd)(rv dv:Value)(data:List UInt8)(hC:Cho w C m)(hm:m+300000≤1000000000000)(hra:RecsAt w C rv h.recs)(hda:DataAt w dv data)(hdC:∀b o c,dv=.slice (some ⟨b,o,none⟩) data.length c→0<data.length→b<C)(hdl:data.length≤1073741824)(hni:NumIn h)(hfm:h.typ≠103→h.fmt=1∨h.fmt=2∨h.fmt=3)(hti:TldIn h)(htw:TldW h)(hnne:h.typ≠103→h.name≠[])(hrl:h.recs.length≤30000) :
  Calls Tryz.prog 38 #[.pointer (some ⟨C,0,none⟩), .agg (Bd h rv++[dv]).toArray] w fun e w'=>Hid (Ix w C m h data e w'):=by
 obtain⟨Ar,cr,hrv⟩:=hra.shape;have hone:((Bd h rv).toArray.all fun x=>x.oneCell')=true:=by rw[hrv];simp[Bd,B5,Value.oneCell']
 have HRV:=hid hrv;have hCw:C<w.heap.size:=by obtain⟨nv,a,h1,_⟩:=hC;exact Bv h1
 have HRA:=hid hra;have HDA:=hid hda;have HC:=hid hC;replace hdC:=hid hdC;clear hra hda hC hrv;obtain⟨hv,hhv⟩:∃hv:Array Value,(Bd h rv++[dv]).toArray=hv:=⟨_,rfl⟩;rw[hhv];go_enter Tryz.func38,Tryz.ntmps38
 go_upto_region 1 with fail
 have a1:=Ba (w.alloc (.cells #[.pointer (some ⟨C,0,none⟩)] 83)) (.cells hv 47);have s1:(w.alloc (.cells #[.pointer (some ⟨C,0,none⟩)] 83)).heap.size=w.heap.size+1:=by show (w.heap.push _).size=_;simp
 rw[s1] at a1;have a0:=heap_alloc (Ba w (.cells #[.pointer (some ⟨C,0,none⟩)] 83)) (.cells hv 47);have kA:Kp (fun _=>False) w ((w.alloc (.cells #[.pointer (some ⟨C,0,none⟩)] 83)).alloc (.cells hv 47)):=((Kp.refl _ _).alloc _).alloc _;have sA:((w.alloc (.cells #[.pointer (some ⟨C,0,none⟩)] 83)).alloc (.cells hv 47)).heap.size=w.heap.size+2:=by show ((w.alloc _).heap.push _).size=_;rw[Array.size_push,s1]
 generalize (w.alloc (.cells #[.pointer (some ⟨C,0,none⟩)] 83)).alloc (.cells hv 47)=wA at a0 a1 kA sA ⊢;have hrg:wA.rangeAt (w.heap.size+1) 0 (Bd h rv):=fun j v hv'=>by
  rw[Nat.zero_add];refine cell_of a1 j ?_;rw[←hhv,List.getElem?_toArray,List.getElem?_append_left (by exact(List.getElem?_eq_some_iff.1 hv').1)]
  exact hv'
 iterate 4 go_step
 refine wpList_load_mid rfl 45 (.tmp 10) rfl (w.heap.size+1) 0 rfl (Bd h rv) _ hrg Tryz.underlying45 rfl (by kernel_rfl) ?_
 iterate 3 go_step
 refine wpList_store_row rfl 45 (.tmp 5) (.tmp 11) rfl (w.heap.size+2) (Bd h rv).toArray rfl rfl 45 _ (sA▸Ba wA _) (by kernel_rfl) (by rfl) hone ?_
 go_upto_block 0 with fail
 have key:∀(P:Program) (c:Code) (Q:Exit→Act→World→Prop) (a:Act) (z:Array Value),(∀wB,Hid (FlSt w C m h rv dv [] wB)→Code.wp P c Q a wB)→Code.wp P c Q a (((wA.alloc (.cells z 45)).setRow (w.heap.size+2) (Bd h rv).toArray).alloc (.cells #[.slice none 0 0] 27)):=
  fun P c Q a z H=>H _ (hid (Yh w wA C m h rv dv z HC.out kA sA a0 (hhv▸a1)))
 refine key _ _ _ _ _ ?_;clear key HC hrg sA a0 a1 kA s1 hone;clear wA;intro wB S0;have tc:wB.cell? ⟨w.heap.size+2,0,none⟩=some (.int .u8 (h.typ.toNat:Int)):=cell_of S0.out.hd 0 rfl;have cp:wB.cell? ⟨w.heap.size,0,none⟩=some (.pointer (some ⟨C,0,none⟩)):=cell_of S0.out.cp 0 rfl;have fc:wB.cell? ⟨w.heap.size+2,20,none⟩=some (.int .i64 h.fmt):=cell_of S0.out.hd 20 rfl;go_cut [] from 7 to 75 (fun wx=>Hid (∃t,h.typ≠103∧HeadT h t∧t.length≤8388608∧FlSt w C (m+170000) h rv dv t wx))
 case first=>
  by_cases h1:h.typ=103
  ·(have e1:((h.typ.toNat:Int)==103)=true:=by rw[h1];rfl);(go_upto_region 4 with fail);have SD:=hid (S0.out.grow ((Kp.refl (fun _=>False) wB).drew));(have hCB:C<wB.drew.heap.size:=by have:=SD.out.kp.size;omega);(have rw0:RecsAt wB.drew C rv h.recs:=(HRA.out).keep SD.out.kp (fun i e=>by omega));have RW0:=hid rw0;have cp1:wB.drew.cell? ⟨w.heap.size,0,none⟩=some (.pointer (some ⟨C,0,none⟩)):=cp;have nm1:wB.drew.cell? ⟨w.heap.size+2,1,none⟩=some (.string ⟨h.name.toArray⟩):=cell_of S0.out.hd 1 rfl;have rc1:wB.drew.cell? ⟨w.heap.size+2,19,none⟩=some rv:=cell_of S0.out.hd 19 rfl;have HLW:Hid (∀o2,LastE h.recs o2→B9 o2≤600000):=by
    show ∀o2,_;intro o2 hl2;have h1:=hl2.wt;have h4:=htw.w;have h6:h.name.length+h.link.length+h.un.length+h.gn.length+B9 h.recs≤weight h:=Nat.add_le_add_left (Lk h.recs) _;omega
   (have HR73:=fun W hra hC=>hid (Vr W C rv h.recs hra hC (by omega)));have HR72:=fun W v o hC hl hD hlen hw=>hid (Lh W C m W.heap.size v o hC hlen hl hD hw);(have HR71:=fun W (t:List UInt8) hC hd=>hid (Eh W C (m+30000) 103 h.name t 1 false (.inl rfl) hC (by omega) hd (by have:=hti.name;omega)));clear rw0
   go_region_held3 (fun w'=>w'.cell? ⟨w.heap.size,0,none⟩=some (.pointer (some ⟨C,0,none⟩))∧w'.cell? ⟨w.heap.size+2,1,none⟩=some (.string ⟨h.name.toArray⟩)∧w'.cell? ⟨w.heap.size+2,19,none⟩=some rv) (first|(exact⟨cp1,nm1,rc1⟩)|(exact hS2)|(exact hS3)|(exact hS4)) (first
    |(go_at_call 73;refine(HR73 _ RW0.out (by omega)).out.mono ?_;rintro e w2 ⟨⟨v2,o2,rfl,ho2,hl2⟩,hk2⟩;have hS2:w2.cell? ⟨w.heap.size,0,none⟩=some (.pointer (some ⟨C,0,none⟩))∧w2.cell? ⟨w.heap.size+2,1,none⟩=some (.string ⟨h.name.toArray⟩)∧w2.cell? ⟨w.heap.size+2,19,none⟩=some rv:=⟨hk2.cell cp1 (fun h=>h),hk2.cell nm1 (fun h=>h),hk2.cell rc1 (fun h=>h)⟩;have S2:=SD.out.grow hk2;have hw2:B9 o2≤600000:=HLW.out o2 hl2;have hn2:o2.length≤30000:=Nat.le_trans hl2.len hrl)
    |(go_at_call 72;refine(HR72 _ v2 o2 S2.cho ho2.at_ (.inr (fun b o n c e=>by subst e;have h7:wB.drew.heap.size≤b:=(ho2.block rfl).1;omega)) (by omega) hw2).out.mono ?_;rintro e w3 ⟨⟨t3,rfl,hrt3⟩,hk3,hc3⟩;have hS3:w3.cell? ⟨w.heap.size,0,none⟩=some (.pointer (some ⟨C,0,none⟩))∧w3.cell? ⟨w.heap.size+2,1,none⟩=some (.string ⟨h.name.toArray⟩)∧w3.cell? ⟨w.heap.size+2,19,none⟩=some rv:=⟨hk3.cell hS2.1 (by show ¬(w.heap.size=C);omega),hk3.cell hS2.2.1 (by show ¬(w.heap.size+2=C);omega),hk3.cell hS2.2.2 (by show ¬(w.heap.size+2=C);omega)⟩;have S3:=S2.chose hCw hk3 hc3;have ht3:=C3 hrt3 hw2)
    |(go_at_call 71;refine(HR71 _ t3 (S3.more (m':=m+30000) (by omega)).cho (by omega)).out.mono ?_;rintro e w4 ⟨v4,t4,rfl,ho4,hme4,hk4,hc4⟩;have hS4:w4.cell? ⟨w.heap.size,0,none⟩=some (.pointer (some ⟨C,0,none⟩))∧w4.cell? ⟨w.heap.size+2,1,none⟩=some (.string ⟨h.name.toArray⟩)∧w4.cell? ⟨w.heap.size+2,19,none⟩=some rv:=⟨hk4.cell hS3.1 (by show ¬(w.heap.size=C);omega),hk4.cell hS3.2.1 (by show ¬(w.heap.size+2=C);omega),hk4.cell hS3.2.2 (by show ¬(w.heap.size+2=C);omega)⟩;have FIN:Hid (Ix w C m h data (.returned v4) w4):=⟨v4,t4,rfl,ho4.lower (by have:=S3.kp.size;omega), .glob h1 o2 t3 t4 hl2.find hl2.sub hw2 hrt3 hme4,(S3.chose hCw hk4 hc4).cho.keep (Kp.refl (fun _=>False) _) (fun _ h=>h.elim) (by omega),(S3.chose hCw hk4 hc4).kp⟩))
   all_goals
    rename_i hHeld;clear hHeld;(go_wp2_with fail);(go_ret);exact FIN
  ·have e1:((h.typ.toNat:Int)==103)=false:=by
    rw[beq_eq_false_iff_ne];intro e;apply h1;apply UInt8.toNat_inj.1;show h.typ.toNat=103;omega
   rcases hfm h1 with hf|hf|hf
   ·(have e2:(h.fmt==2)=false:=by rw[hf];rfl);(have e3:(h.fmt==3)=false:=by rw[hf];rfl);(have NX:Hid (∃t,h.typ≠103∧HeadT h t∧t.length≤8388608∧FlSt w C (m+170000) h rv dv t wB):=⟨[],h1, .ustar hf,by simp,S0.out.more (by omega)⟩);(go_wp2_with fail);go_meet
    case rel=>exact NX
   ·(have e2:(h.fmt==2)=true:=by rw[hf];rfl);(have HTD:=hid (Bcu wB C m h rv S0.out.cho (by omega) hti ((HRA.out).keep S0.out.kp (fun i e=>by omega)) hrl));(go_upto_region 6 with fail);(iterate 4 go_step);(refine wpList_load_row rfl 45 (.tmp 5) rfl (w.heap.size+2) rfl 45 (Bd h rv).toArray (0,0) _ S0.out.hd Tryz.underlying45 rfl (by kernel_rfl) ?_);(go_wp2_with fail);refine HTD.out.mono ?_;rintro e w2 hx;obtain⟨v2,l2,rfl,hraw,how,hc2,hk2⟩:=hx.out;obtain⟨A2,c2,rfl⟩:=how.at_.shape;have HTE:=hid (told_plain h htw l2 hraw);have S2:=hid (S0.out.chose hCw hk2 hc2);have HOW:=hid how;clear HTD hx hraw how;by_cases hl0:0<l2.length
    ·(have hd0:decide ((0:Int)<(l2.length:Int))=true:=decide_eq_true (by omega));(go_upto_region 8 with fail);have SD:=hid (S2.out.grow ((Kp.refl (fun _=>False) w2).drew));(have hCB:C<wB.heap.size:=by have:=S0.out.kp.size;omega);have hSB:wB.heap.size≤w2.heap.size:=hk2.size;have cp1:w2.drew.cell? ⟨w.heap.size,0,none⟩=some (.pointer (some ⟨C,0,none⟩)):=cell_of S2.out.cp 0 rfl;have RW2:Hid (RecsAt w2.drew w2.drew.heap.size (.slice A2 l2.length c2) l2):=(HOW.out.keep ((Kp.refl (fun _=>False) w2).drew) (fun _ _ h=>h)).at_;have hneC:Hid (∀b o n c,Value.slice A2 l2.length c2=.slice (some ⟨b,o,none⟩) n c→b≠C):=fun b o n c e=>by
      (have:=(HOW.out.block (b:=b) (by rw[e];rfl)).1);omega
     have hw2:B9 l2≤600000:=HTE.out.small;have hn2:l2.length≤60000:=by
      have h7:∀l:List Rec,10*l.length≤B9 l:=fun l=>by
       induction l with
       |nil=>simp[B9]
       |cons r l ih=>rw[G9,List.length_cons];omega
      have:=h7 l2;omega
     (have HR72:=hid (Lh w2.drew C (m+100000) w2.drew.heap.size (.slice A2 l2.length c2) l2 SD.out.cho (by omega) RW2.out (.inr hneC.out) hw2));(have HR71:=fun W (t:List UInt8) hC hd=>hid (Eh W C (m+100000+l2.length) 120 Iv t 1 false (.inl rfl) hC (by omega) hd (by decide)));unfold Iv at HR71;clear hneC RW2
     go_region_held3 (fun w'=>w'.cell? ⟨w.heap.size,0,none⟩=some (.pointer (some ⟨C,0,none⟩))) (first|(exact cp1)|(exact hS3)|(exact hS4)|(exact hS5)) (first
      |(go_at_call 72;refine HR72.out.mono ?_;rintro e w3 ⟨⟨t3,rfl,hrt3⟩,hk3,hc3⟩;have hS3:w3.cell? ⟨w.heap.size,0,none⟩=some (.pointer (some ⟨C,0,none⟩)):=hk3.cell cp1 (by show ¬(w.heap.size=C);omega);have S3:=SD.out.chose hCw hk3 hc3;have ht3:=C3 hrt3 hw2)
      |(go_at_call 71;refine(HR71 _ t3 S3.cho (by omega)).out.mono ?_;rintro e w4 ⟨v4,t4,rfl,ho4,hme4,hk4,hc4⟩;have hS4:w4.cell? ⟨w.heap.size,0,none⟩=some (.pointer (some ⟨C,0,none⟩)):=hk4.cell hS3 (by show ¬(w.heap.size=C);omega);have S4:=S3.chose hCw hk4 hc4;have hlen4:=Cp hme4;obtain⟨lv,hlv,hz4,hone4,S5⟩:=S4.setOut hCw v4 t4 (ho4.lower (by have:=S3.ovlt;omega));have hS5:(w4.setCell ⟨w.heap.size+3,0,none⟩ v4).cell? ⟨w.heap.size,0,none⟩=some (.pointer (some ⟨C,0,none⟩)):=cell_of S5.cp 0 rfl;obtain⟨A4,n4,c4,hv4⟩:∃A n c,v4=.slice A n c:=(by obtain⟨A,c,e⟩:=ho4.shape;exact⟨A,_,c,e⟩);subst hv4;have NX:Hid (∃t,h.typ≠103∧HeadT h t∧t.length≤8388608∧FlSt w C (m+170000) h rv dv t (w4.setCell ⟨w.heap.size+3,0,none⟩ (.slice A4 n4 c4))):=⟨t4,h1, .pax hf l2 HTE.out t3 t4 hrt3 hme4,by omega,S5.more (by omega)⟩;clear hrt3 hk3 hc3 S3 ho4 hme4 hk4 hc4 S4 S5))
     all_goals
      rename_i hHeld;clear hHeld;(go_wp2_with fail);go_meet
      case rel=>exact NX
    ·(have hd0:decide ((0:Int)<(l2.length:Int))=false:=decide_eq_false (by omega));(have hn0:l2=[]:=List.eq_nil_of_length_eq_zero (by omega));(have NX:Hid (∃t,h.typ≠103∧HeadT h t∧t.length≤8388608∧FlSt w C (m+170000) h rv dv t w2):=⟨[],h1, .pax0 hf (hn0▸HTE.out),by simp,S2.out.more (by omega)⟩);(go_wp2_with fail);go_meet
     case rel=>exact NX
   ·(have e2:(h.fmt==2)=false:=by rw[hf];rfl);(have e3:(h.fmt==3)=true:=by rw[hf];rfl);have hnn:h.name.length≤1048576:=hti.name;have hnk:h.link.length≤1048576:=hti.link;(go_wp2_with fail);(refine(Cs wB C m 2 S0.out.cho (by omega) (by omega)).mono ?_);rintro e w1 ⟨⟨n,hn,rfl⟩,hk1,hc1⟩;have S1:=hid (S0.out.chose hCw hk1 hc1);clear hk1 hc1;by_cases h0:n=0
    ·subst h0;(go_wp2_with fail);(refine(Ig w w1 C (m+1) h rv dv [] hCw S1.out (by omega) hnn (hnne h1) (by simp)).mono ?_);rintro e w2 ⟨rfl,hx⟩;obtain⟨t2,hL2,htl2,S2⟩:=hx.out;rw[List.nil_append] at S2;replace S2:=hid S2;have HL2:=hid hL2;clear hx hL2;have nmL:w2.cell? ⟨w.heap.size+2,2,none⟩=some (.string ⟨h.link.toArray⟩):=cell_of S2.out.hd 2 rfl;have cpL:w2.cell? ⟨w.heap.size,0,none⟩=some (.pointer (some ⟨C,0,none⟩)):=cell_of S2.out.cp 0 rfl;by_cases hl:100<h.link.length
     ·(have hd:decide ((100:Int)<(h.link.length:Int))=true:=decide_eq_true (by omega));(have hne:h.link≠[]:=by intro e;rw[e] at hl;simp at hl);(go_upto_region 15 with fail);have SD:=hid (S2.out.grow ((Kp.refl (fun _=>False) w2).drew));obtain⟨lv,hlv⟩:∃lv,w2.drew.cell? ⟨w.heap.size+3,0,none⟩=some lv:=by
       obtain⟨v,h1,_⟩:=SD.out.ov;exact⟨v,cell_of h1 0 rfl⟩
      have cp1:w2.drew.cell? ⟨w.heap.size,0,none⟩=some (.pointer (some ⟨C,0,none⟩)):=cell_of SD.out.cp 0 rfl;have nm1:w2.drew.cell? ⟨w.heap.size+2,2,none⟩=some (.string ⟨h.link.toArray⟩):=cell_of SD.out.hd 2 rfl;have hcat:(⟨h.link.toArray⟩:ByteArray)++⟨#[0]⟩=⟨(h.link++[0]).toArray⟩:=E4 h.link [0];obtain⟨nl,hnl⟩:∃nl,h.link++[(0:UInt8)]=nl:=⟨_,rfl⟩;(have hnll:nl.length≤1048577:=by rw[←hnl,List.length_append,List.length_singleton];omega);rw[hnl] at hcat;have HNL:=hid hnl;(have hq1:h.link.length<9223372036854775807:=by omega);(have hq2:¬9223372036854775807<h.link.length+1:=by omega);(have hq3:¬9223372036854775807≤h.link.length:=by omega);clear hnl;have hsz0:w.heap.size+4≤w2.drew.heap.size:=by
       obtain⟨v,h1,_⟩:=SD.out.ov;have:=Bv h1;omega
      (have HME:=fun W hc=>hid (Eh W C (m+201) 75 Cq nl 3 true rfl hc (by omega) (by omega) (by decide)));unfold Cq at HME;(have hC0:C≠w.heap.size+3:=by omega);refine wp_region_held_drew (S:=(fun w'=>w'.cell? ⟨w.heap.size,0,none⟩=some (.pointer (some ⟨C,0,none⟩))∧w'.cell? ⟨w.heap.size+2,2,none⟩=some (.string ⟨h.link.toArray⟩))) (by kernel_rfl) ?_ (fun hHeld=>?_)
      ·(try dsimp only);(first|(exact⟨cp1,nm1⟩)|(exact hS2)|(exact hS3)|(exact hS4))
      (refine wpAnyH_take (i:=1) (v:=?_) rfl (by kernel_rfl) (by kernel_rfl) (by kernel_rfl) (fun _ _ _ h=>h) (Or.inl ⟨by rfl,?_⟩) (by assumption) ?_);rotate_left 1
      ·intro W hSw;(try dsimp only at hSw);go_simp;(try with_reducible rfl)
      (refine wpAnyH_take (i:=2) (v:=?_) rfl (by kernel_rfl) (by kernel_rfl) (by kernel_rfl) (fun _ _ _ h=>h) (Or.inl ⟨by rfl,?_⟩) (by assumption) ?_);rotate_left 1
      ·intro W hSw;(try dsimp only at hSw);go_simp;(try with_reducible rfl)
      (refine wpAnyH_take (i:=3) (v:=?_) rfl (by kernel_rfl) (by kernel_rfl) (by kernel_rfl) (fun _ _ _ h=>h) (Or.inl ⟨by rfl,?_⟩) (by assumption) ?_);rotate_left 1
      ·intro W hSw;(try dsimp only at hSw);go_simp;(try with_reducible rfl)
      (refine wpAnyH_take (i:=4) (v:=?_) rfl (by kernel_rfl) (by kernel_rfl) (by kernel_rfl) (fun _ _ _ h=>h) (Or.inl ⟨by rfl,?_⟩) (by assumption) ?_);rotate_left 1
      ·intro W hSw;(try dsimp only at hSw);go_simp;(try with_reducible rfl)
      (try simp only[Act.put,List.getElem_toArray,List.getElem_cons_succ,List.getElem_cons_zero,sA,sB,sC]);(refine wpAnyH_ready (rs:=[0,5]) (by kernel_rfl) (by simp) ?_);refine AllReadyH.cons (o:=_) rfl (fun K hK=>?_) (AllReadyH.cons (o:=_) rfl (fun K hK=>?_) AllReadyH.nil);go_simp;refine hK.out _ _ ?_ (fun hNew=>?_)
      ·(first|(exact⟨cp1,nm1⟩)|(exact hS2)|(exact hS3)|(exact hS4))
      clear hK K;(refine wpAnyH_ready (rs:=[5]) (by kernel_rfl) (by simp) ?_);refine AllReadyH.cons (o:=_) rfl (fun K hK=>?_) AllReadyH.nil;go_simp
      (go_at_call 71;refine(HME _ SD.out.cho).out.mono ?_;rintro e w5 ⟨v5,t5,rfl,ho5,hme5,hk5,hc5⟩;have hlv5:w5.cell? ⟨w.heap.size+3,0,none⟩=some lv:=hk5.cell hlv (by show ¬(w.heap.size+3=C);omega);have hS2:w5.cell? ⟨w.heap.size,0,none⟩=some (.pointer (some ⟨C,0,none⟩))∧w5.cell? ⟨w.heap.size+2,2,none⟩=some (.string ⟨h.link.toArray⟩):=⟨hk5.cell cp1 (by show ¬(w.heap.size=C);omega),hk5.cell nm1 (by show ¬(w.heap.size+2=C);omega)⟩;have S5:=SD.out.chose hCw hk5 hc5;have hlen5:=Cp hme5;obtain⟨A6,n6,c6,w6,hr6,y1,y2,S6,k6⟩:=S5.app hCw v5 t5 ho5.dataAt (by first|omega|(simp only[List.length_nil];omega)) 27 lv hlv5;have HR6:=hid hr6;have hS3:w6.cell? ⟨w.heap.size,0,none⟩=some (.pointer (some ⟨C,0,none⟩))∧w6.cell? ⟨w.heap.size+2,2,none⟩=some (.string ⟨h.link.toArray⟩):=⟨k6.cell hS2.1 (by show ¬(w.heap.size+4≤w.heap.size);omega),k6.cell hS2.2 (by show ¬(w.heap.size+4≤w.heap.size+2);omega)⟩;have hS4:(w6.setCell ⟨w.heap.size+3,0,none⟩ (.slice A6 n6 c6)).cell? ⟨w.heap.size,0,none⟩=some (.pointer (some ⟨C,0,none⟩))∧(w6.setCell ⟨w.heap.size+3,0,none⟩ (.slice A6 n6 c6)).cell? ⟨w.heap.size+2,2,none⟩=some (.string ⟨h.link.toArray⟩):=⟨cell_of S6.cp 0 rfl,cell_of S6.hd 2 rfl⟩;have FIN:Hid (∃k,C7 75 h.link k∧k.length≤2097152∧FlSt w C (m+3000) h rv dv (t2++k) (w6.setCell ⟨w.heap.size+3,0,none⟩ (.slice A6 n6 c6))):=⟨t5, .inr ⟨hne,by rw[HNL.out];exact hme5⟩,by omega,S6.more (by omega)⟩;clear hr6 S6 S5 hme5 ho5 hk5 hc5 hlen5 k6);(go_wp2_with fail);refine hK.out _ _ ?_ (fun hNew=>?_)
      ·(first|(exact⟨cp1,nm1⟩)|(exact hS2)|(exact hS3)|(exact hS4))
      clear hK K;(refine wpAnyH_ready (rs:=[6]) (by kernel_rfl) (by simp) ?_);refine AllReadyH.cons (o:=_) rfl (fun K hK=>?_) AllReadyH.nil;refine Bp rfl _ _ _ _ rfl _ _ rfl rfl _ _ HR6.out ?_;refine hK.out _ _ ?_ (fun hNew=>?_)
      ·(first|(exact⟨cp1,nm1⟩)|(exact hS2)|(exact hS3)|(exact hS4))
      clear hK K;(refine wpAnyH_ready (rs:=[7]) (by kernel_rfl) (by simp) ?_);refine AllReadyH.cons (o:=_) rfl (fun K hK=>?_) AllReadyH.nil;go_simp;refine hK.out _ _ ?_ (fun hNew=>?_)
      ·(first|(exact⟨cp1,nm1⟩)|(exact hS2)|(exact hS3)|(exact hS4))
      clear hK K;clear hHeld;(refine wpAnyH_done (by kernel_rfl) ?_ _);rotate_left 1;go_simp
      (go_at_call 71;refine(HME _ SD.out.cho).out.mono ?_;rintro e w5 ⟨v5,t5,rfl,ho5,hme5,hk5,hc5⟩;have hlv5:w5.cell? ⟨w.heap.size+3,0,none⟩=some lv:=hk5.cell hlv (by show ¬(w.heap.size+3=C);omega);have hS2:w5.cell? ⟨w.heap.size,0,none⟩=some (.pointer (some ⟨C,0,none⟩))∧w5.cell? ⟨w.heap.size+2,2,none⟩=some (.string ⟨h.link.toArray⟩):=⟨hk5.cell cp1 (by show ¬(w.heap.size=C);omega),hk5.cell nm1 (by show ¬(w.heap.size+2=C);omega)⟩;have S5:=SD.out.chose hCw hk5 hc5;have hlen5:=Cp hme5;obtain⟨A6,n6,c6,w6,hr6,y1,y2,S6,k6⟩:=S5.app hCw v5 t5 ho5.dataAt (by first|omega|(simp only[List.length_nil];omega)) 27 lv hlv5;have HR6:=hid hr6;have hS3:w6.cell? ⟨w.heap.size,0,none⟩=some (.pointer (some ⟨C,0,none⟩))∧w6.cell? ⟨w.heap.size+2,2,none⟩=some (.string ⟨h.link.toArray⟩):=⟨k6.cell hS2.1 (by show ¬(w.heap.size+4≤w.heap.size);omega),k6.cell hS2.2 (by show ¬(w.heap.size+4≤w.heap.size+2);omega)⟩;have hS4:(w6.setCell ⟨w.heap.size+3,0,none⟩ (.slice A6 n6 c6)).cell? ⟨w.heap.size,0,none⟩=some (.pointer (some ⟨C,0,none⟩))∧(w6.setCell ⟨w.heap.size+3,0,none⟩ (.slice A6 n6 c6)).cell? ⟨w.heap.size+2,2,none⟩=some (.string ⟨h.link.toArray⟩):=⟨cell_of S6.cp 0 rfl,cell_of S6.hd 2 rfl⟩;have FIN:Hid (∃k,C7 75 h.link k∧k.length≤2097152∧FlSt w C (m+3000) h rv dv (t2++k) (w6.setCell ⟨w.heap.size+3,0,none⟩ (.slice A6 n6 c6))):=⟨t5, .inr ⟨hne,by rw[HNL.out];exact hme5⟩,by omega,S6.more (by omega)⟩;clear hr6 S6 S5 hme5 ho5 hk5 hc5 hlen5 k6);(go_wp2_with fail);refine hK.out _ _ ?_ (fun hNew=>?_)
      ·(first|(exact⟨cp1,nm1⟩)|(exact hS2)|(exact hS3)|(exact hS4))
      clear hK K;(refine wpAnyH_ready (rs:=[0]) (by kernel_rfl) (by simp) ?_);refine AllReadyH.cons (o:=_) rfl (fun K hK=>?_) AllReadyH.nil;go_simp;refine hK.out _ _ ?_ (fun hNew=>?_)
      ·(first|(exact⟨cp1,nm1⟩)|(exact hS2)|(exact hS3)|(exact hS4))
      clear hK K;(refine wpAnyH_ready (rs:=[6]) (by kernel_rfl) (by simp) ?_);refine AllReadyH.cons (o:=_) rfl (fun K hK=>?_) AllReadyH.nil;refine Bp rfl _ _ _ _ rfl _ _ rfl rfl _ _ HR6.out ?_;refine hK.out _ _ ?_ (fun hNew=>?_)
      ·(first|(exact⟨cp1,nm1⟩)|(exact hS2)|(exact hS3)|(exact hS4))
      clear hK K;(refine wpAnyH_ready (rs:=[7]) (by kernel_rfl) (by simp) ?_);refine AllReadyH.cons (o:=_) rfl (fun K hK=>?_) AllReadyH.nil;go_simp;refine hK.out _ _ ?_ (fun hNew=>?_)
      ·(first|(exact⟨cp1,nm1⟩)|(exact hS2)|(exact hS3)|(exact hS4))
      clear hK K;clear hHeld;refine wpAnyH_done (by kernel_rfl) ?_ _
      all_goals
       generalize w6.setCell ⟨w.heap.size+3,0,none⟩ (.slice A6 n6 c6)=w7 at FIN ⊢;obtain⟨k7,hk7,hkl7,S7⟩:=FIN.out;(skip);replace S7:=hid S7;have HK7:=hid hk7;clear FIN hk7 hS4 hS3 hS2 SD cp1 nm1 HME hlv y1 y2;(have NX:Hid (∃t,h.typ≠103∧HeadT h t∧t.length≤8388608∧FlSt w C (m+170000) h rv dv t w7):=⟨t2++k7,h1, .gnu hf true t2 k7 HL2.out HK7.out,by rw[List.length_append];omega,S7.out.more (by omega)⟩);(go_wp2_with fail);go_meet
       case rel=>exact NX
     ·(have hd:decide ((100:Int)<(h.link.length:Int))=false:=decide_eq_false (by omega));cases hE:h.link.isEmpty with
      |true=>
       (have HK7:Hid (C7 75 h.link []):=.inl ⟨rfl,by omega⟩);(have S7:Hid (FlSt w C (m+3000) h rv dv t2 w2):=S2.out.more (by omega));obtain⟨k7,hk7⟩:∃k7:List UInt8,[]=k7:=⟨_,rfl⟩;rw[hk7] at HK7;rw[←List.append_nil t2,hk7] at S7;(have hkl7:k7.length≤2097152:=by rw[←hk7];decide);clear hk7;(have NX:Hid (∃t,h.typ≠103∧HeadT h t∧t.length≤8388608∧FlSt w C (m+170000) h rv dv t w2):=⟨t2++k7,h1, .gnu hf true t2 k7 HL2.out HK7.out,by rw[List.length_append];omega,S7.out.more (by omega)⟩);(go_wp2_with fail);go_meet
       case rel=>exact NX
      |false=>
       (have hne:h.link≠[]:=by intro e;rw[e] at hE;simp at hE);(go_wp2_with fail);(refine(Cs w2 C (m+201) 4 S2.out.cho (by omega) (by omega)).mono ?_);rintro e w3 ⟨⟨n3,hn3,rfl⟩,hk3,hc3⟩;have S3:=hid (S2.out.chose hCw hk3 hc3);clear hk3 hc3;have nmL3:w3.cell? ⟨w.heap.size+2,2,none⟩=some (.string ⟨h.link.toArray⟩):=cell_of S3.out.hd 2 rfl;have cpL3:w3.cell? ⟨w.heap.size,0,none⟩=some (.pointer (some ⟨C,0,none⟩)):=cell_of S3.out.cp 0 rfl;by_cases h0:n3=0
       ·subst h0;(go_upto_region 15 with fail);have SD:=hid (S3.out.grow ((Kp.refl (fun _=>False) w3).drew));obtain⟨lv,hlv⟩:∃lv,w3.drew.cell? ⟨w.heap.size+3,0,none⟩=some lv:=by
         obtain⟨v,h1,_⟩:=SD.out.ov;exact⟨v,cell_of h1 0 rfl⟩
        have cp1:w3.drew.cell? ⟨w.heap.size,0,none⟩=some (.pointer (some ⟨C,0,none⟩)):=cell_of SD.out.cp 0 rfl;have nm1:w3.drew.cell? ⟨w.heap.size+2,2,none⟩=some (.string ⟨h.link.toArray⟩):=cell_of SD.out.hd 2 rfl;have hcat:(⟨h.link.toArray⟩:ByteArray)++⟨#[0]⟩=⟨(h.link++[0]).toArray⟩:=E4 h.link [0];obtain⟨nl,hnl⟩:∃nl,h.link++[(0:UInt8)]=nl:=⟨_,rfl⟩;(have hnll:nl.length≤1048577:=by rw[←hnl,List.length_append,List.length_singleton];omega);rw[hnl] at hcat;have HNL:=hid hnl;(have hq1:h.link.length<9223372036854775807:=by omega);(have hq2:¬9223372036854775807<h.link.length+1:=by omega);(have hq3:¬9223372036854775807≤h.link.length:=by omega);clear hnl;have hsz0:w.heap.size+4≤w3.drew.heap.size:=by
         obtain⟨v,h1,_⟩:=SD.out.ov;have:=Bv h1;omega
        (have HME:=fun W hc=>hid (Eh W C (m+201+1) 75 Cq nl 3 true rfl hc (by omega) (by omega) (by decide)));unfold Cq at HME;(have hC0:C≠w.heap.size+3:=by omega);refine wp_region_held_drew (S:=(fun w'=>w'.cell? ⟨w.heap.size,0,none⟩=some (.pointer (some ⟨C,0,none⟩))∧w'.cell? ⟨w.heap.size+2,2,none⟩=some (.string ⟨h.link.toArray⟩))) (by kernel_rfl) ?_ (fun hHeld=>?_)
        ·(try dsimp only);(first|(exact⟨cp1,nm1⟩)|(exact hS2)|(exact hS3)|(exact hS4))
        (refine wpAnyH_take (i:=1) (v:=?_) rfl (by kernel_rfl) (by kernel_rfl) (by kernel_rfl) (fun _ _ _ h=>h) (Or.inl ⟨by rfl,?_⟩) (by assumption) ?_);rotate_left 1
        ·intro W hSw;(try dsimp only at hSw);go_simp;(try with_reducible rfl)
        (refine wpAnyH_take (i:=2) (v:=?_) rfl (by kernel_rfl) (by kernel_rfl) (by kernel_rfl) (fun _ _ _ h=>h) (Or.inl ⟨by rfl,?_⟩) (by assumption) ?_);rotate_left 1
        ·intro W hSw;(try dsimp only at hSw);go_simp;(try with_reducible rfl)
        (refine wpAnyH_take (i:=3) (v:=?_) rfl (by kernel_rfl) (by kernel_rfl) (by kernel_rfl) (fun _ _ _ h=>h) (Or.inl ⟨by rfl,?_⟩) (by assumption) ?_);rotate_left 1
        ·intro W hSw;(try dsimp only at hSw);go_simp;(try with_reducible rfl)
        (refine wpAnyH_take (i:=4) (v:=?_) rfl (by kernel_rfl) (by kernel_rfl) (by kernel_rfl) (fun _ _ _ h=>h) (Or.inl ⟨by rfl,?_⟩) (by assumption) ?_);rotate_left 1
        ·intro W hSw;(try dsimp only at hSw);go_simp;(try with_reducible rfl)
        (try simp only[Act.put,List.getElem_toArray,List.getElem_cons_succ,List.getElem_cons_zero,sA,sB,sC]);(refine wpAnyH_ready (rs:=[0,5]) (by kernel_rfl) (by simp) ?_);refine AllReadyH.cons (o:=_) rfl (fun K hK=>?_) (AllReadyH.cons (o:=_) rfl (fun K hK=>?_) AllReadyH.nil);go_simp;refine hK.out _ _ ?_ (fun hNew=>?_)
        ·(first|(exact⟨cp1,nm1⟩)|(exact hS2)|(exact hS3)|(exact hS4))
        clear hK K;(refine wpAnyH_ready (rs:=[5]) (by kernel_rfl) (by simp) ?_);refine AllReadyH.cons (o:=_) rfl (fun K hK=>?_) AllReadyH.nil;go_simp
        (go_at_call 71;refine(HME _ SD.out.cho).out.mono ?_;rintro e w5 ⟨v5,t5,rfl,ho5,hme5,hk5,hc5⟩;have hlv5:w5.cell? ⟨w.heap.size+3,0,none⟩=some lv:=hk5.cell hlv (by show ¬(w.heap.size+3=C);omega);have hS2:w5.cell? ⟨w.heap.size,0,none⟩=some (.pointer (some ⟨C,0,none⟩))∧w5.cell? ⟨w.heap.size+2,2,none⟩=some (.string ⟨h.link.toArray⟩):=⟨hk5.cell cp1 (by show ¬(w.heap.size=C);omega),hk5.cell nm1 (by show ¬(w.heap.size+2=C);omega)⟩;have S5:=SD.out.chose hCw hk5 hc5;have hlen5:=Cp hme5;obtain⟨A6,n6,c6,w6,hr6,y1,y2,S6,k6⟩:=S5.app hCw v5 t5 ho5.dataAt (by first|omega|(simp only[List.length_nil];omega)) 27 lv hlv5;have HR6:=hid hr6;have hS3:w6.cell? ⟨w.heap.size,0,none⟩=some (.pointer (some ⟨C,0,none⟩))∧w6.cell? ⟨w.heap.size+2,2,none⟩=some (.string ⟨h.link.toArray⟩):=⟨k6.cell hS2.1 (by show ¬(w.heap.size+4≤w.heap.size);omega),k6.cell hS2.2 (by show ¬(w.heap.size+4≤w.heap.size+2);omega)⟩;have hS4:(w6.setCell ⟨w.heap.size+3,0,none⟩ (.slice A6 n6 c6)).cell? ⟨w.heap.size,0,none⟩=some (.pointer (some ⟨C,0,none⟩))∧(w6.setCell ⟨w.heap.size+3,0,none⟩ (.slice A6 n6 c6)).cell? ⟨w.heap.size+2,2,none⟩=some (.string ⟨h.link.toArray⟩):=⟨cell_of S6.cp 0 rfl,cell_of S6.hd 2 rfl⟩;have FIN:Hid (∃k,C7 75 h.link k∧k.length≤2097152∧FlSt w C (m+3000) h rv dv (t2++k) (w6.setCell ⟨w.heap.size+3,0,none⟩ (.slice A6 n6 c6))):=⟨t5, .inr ⟨hne,by rw[HNL.out];exact hme5⟩,by omega,S6.more (by omega)⟩;clear hr6 S6 S5 hme5 ho5 hk5 hc5 hlen5 k6);(go_wp2_with fail);refine hK.out _ _ ?_ (fun hNew=>?_)
        ·(first|(exact⟨cp1,nm1⟩)|(exact hS2)|(exact hS3)|(exact hS4))
        clear hK K;(refine wpAnyH_ready (rs:=[6]) (by kernel_rfl) (by simp) ?_);refine AllReadyH.cons (o:=_) rfl (fun K hK=>?_) AllReadyH.nil;refine Bp rfl _ _ _ _ rfl _ _ rfl rfl _ _ HR6.out ?_;refine hK.out _ _ ?_ (fun hNew=>?_)
        ·(first|(exact⟨cp1,nm1⟩)|(exact hS2)|(exact hS3)|(exact hS4))
        clear hK K;(refine wpAnyH_ready (rs:=[7]) (by kernel_rfl) (by simp) ?_);refine AllReadyH.cons (o:=_) rfl (fun K hK=>?_) AllReadyH.nil;go_simp;refine hK.out _ _ ?_ (fun hNew=>?_)
        ·(first|(exact⟨cp1,nm1⟩)|(exact hS2)|(exact hS3)|(exact hS4))
        clear hK K;clear hHeld;(refine wpAnyH_done (by kernel_rfl) ?_ _);rotate_left 1;go_simp
        (go_at_call 71;refine(HME _ SD.out.cho).out.mono ?_;rintro e w5 ⟨v5,t5,rfl,ho5,hme5,hk5,hc5⟩;have hlv5:w5.cell? ⟨w.heap.size+3,0,none⟩=some lv:=hk5.cell hlv (by show ¬(w.heap.size+3=C);omega);have hS2:w5.cell? ⟨w.heap.size,0,none⟩=some (.pointer (some ⟨C,0,none⟩))∧w5.cell? ⟨w.heap.size+2,2,none⟩=some (.string ⟨h.link.toArray⟩):=⟨hk5.cell cp1 (by show ¬(w.heap.size=C);omega),hk5.cell nm1 (by show ¬(w.heap.size+2=C);omega)⟩;have S5:=SD.out.chose hCw hk5 hc5;have hlen5:=Cp hme5;obtain⟨A6,n6,c6,w6,hr6,y1,y2,S6,k6⟩:=S5.app hCw v5 t5 ho5.dataAt (by first|omega|(simp only[List.length_nil];omega)) 27 lv hlv5;have HR6:=hid hr6;have hS3:w6.cell? ⟨w.heap.size,0,none⟩=some (.pointer (some ⟨C,0,none⟩))∧w6.cell? ⟨w.heap.size+2,2,none⟩=some (.string ⟨h.link.toArray⟩):=⟨k6.cell hS2.1 (by show ¬(w.heap.size+4≤w.heap.size);omega),k6.cell hS2.2 (by show ¬(w.heap.size+4≤w.heap.size+2);omega)⟩;have hS4:(w6.setCell ⟨w.heap.size+3,0,none⟩ (.slice A6 n6 c6)).cell? ⟨w.heap.size,0,none⟩=some (.pointer (some ⟨C,0,none⟩))∧(w6.setCell ⟨w.heap.size+3,0,none⟩ (.slice A6 n6 c6)).cell? ⟨w.heap.size+2,2,none⟩=some (.string ⟨h.link.toArray⟩):=⟨cell_of S6.cp 0 rfl,cell_of S6.hd 2 rfl⟩;have FIN:Hid (∃k,C7 75 h.link k∧k.length≤2097152∧FlSt w C (m+3000) h rv dv (t2++k) (w6.setCell ⟨w.heap.size+3,0,none⟩ (.slice A6 n6 c6))):=⟨t5, .inr ⟨hne,by rw[HNL.out];exact hme5⟩,by omega,S6.more (by omega)⟩;clear hr6 S6 S5 hme5 ho5 hk5 hc5 hlen5 k6);(go_wp2_with fail);refine hK.out _ _ ?_ (fun hNew=>?_)
        ·(first|(exact⟨cp1,nm1⟩)|(exact hS2)|(exact hS3)|(exact hS4))
        clear hK K;(refine wpAnyH_ready (rs:=[0]) (by kernel_rfl) (by simp) ?_);refine AllReadyH.cons (o:=_) rfl (fun K hK=>?_) AllReadyH.nil;go_simp;refine hK.out _ _ ?_ (fun hNew=>?_)
        ·(first|(exact⟨cp1,nm1⟩)|(exact hS2)|(exact hS3)|(exact hS4))
        clear hK K;(refine wpAnyH_ready (rs:=[6]) (by kernel_rfl) (by simp) ?_);refine AllReadyH.cons (o:=_) rfl (fun K hK=>?_) AllReadyH.nil;refine Bp rfl _ _ _ _ rfl _ _ rfl rfl _ _ HR6.out ?_;refine hK.out _ _ ?_ (fun hNew=>?_)
        ·(first|(exact⟨cp1,nm1⟩)|(exact hS2)|(exact hS3)|(exact hS4))
        clear hK K;(refine wpAnyH_ready (rs:=[7]) (by kernel_rfl) (by simp) ?_);refine AllReadyH.cons (o:=_) rfl (fun K hK=>?_) AllReadyH.nil;go_simp;refine hK.out _ _ ?_ (fun hNew=>?_)
        ·(first|(exact⟨cp1,nm1⟩)|(exact hS2)|(exact hS3)|(exact hS4))
        clear hK K;clear hHeld;refine wpAnyH_done (by kernel_rfl) ?_ _
        all_goals
         generalize w6.setCell ⟨w.heap.size+3,0,none⟩ (.slice A6 n6 c6)=w7 at FIN ⊢;obtain⟨k7,hk7,hkl7,S7⟩:=FIN.out;(skip);replace S7:=hid S7;have HK7:=hid hk7;clear FIN hk7 hS4 hS3 hS2 SD cp1 nm1 HME hlv y1 y2;(have NX:Hid (∃t,h.typ≠103∧HeadT h t∧t.length≤8388608∧FlSt w C (m+170000) h rv dv t w7):=⟨t2++k7,h1, .gnu hf true t2 k7 HL2.out HK7.out,by rw[List.length_append];omega,S7.out.more (by omega)⟩);(go_wp2_with fail);go_meet
         case rel=>exact NX
       ·(have hd3:((n3:Int)==0)=false:=by rw[beq_eq_false_iff_ne];omega);(have HK7:Hid (C7 75 h.link []):=.inl ⟨rfl,by omega⟩);(have S7:Hid (FlSt w C (m+3000) h rv dv t2 w3):=S3.out.more (by omega));obtain⟨k7,hk7⟩:∃k7:List UInt8,[]=k7:=⟨_,rfl⟩;rw[hk7] at HK7;rw[←List.append_nil t2,hk7] at S7;(have hkl7:k7.length≤2097152:=by rw[←hk7];decide);clear hk7 h0;(have NX:Hid (∃t,h.typ≠103∧HeadT h t∧t.length≤8388608∧FlSt w C (m+170000) h rv dv t w3):=⟨t2++k7,h1, .gnu hf true t2 k7 HL2.out HK7.out,by rw[List.length_append];omega,S7.out.more (by omega)⟩);(go_wp2_with fail);go_meet
        case rel=>exact NX
    ·(have hd0:((n:Int)==0)=false:=by rw[beq_eq_false_iff_ne];omega);have nmL:w1.cell? ⟨w.heap.size+2,2,none⟩=some (.string ⟨h.link.toArray⟩):=cell_of S1.out.hd 2 rfl;have cpL:w1.cell? ⟨w.heap.size,0,none⟩=some (.pointer (some ⟨C,0,none⟩)):=cell_of S1.out.cp 0 rfl;by_cases hl:100<h.link.length
     ·(have hd:decide ((100:Int)<(h.link.length:Int))=true:=decide_eq_true (by omega));(have hne:h.link≠[]:=by intro e;rw[e] at hl;simp at hl);(go_upto_region 15 with fail);have SD:=hid (S1.out.grow ((Kp.refl (fun _=>False) w1).drew));obtain⟨lv,hlv⟩:∃lv,w1.drew.cell? ⟨w.heap.size+3,0,none⟩=some lv:=by
       obtain⟨v,h1,_⟩:=SD.out.ov;exact⟨v,cell_of h1 0 rfl⟩
      have cp1:w1.drew.cell? ⟨w.heap.size,0,none⟩=some (.pointer (some ⟨C,0,none⟩)):=cell_of SD.out.cp 0 rfl;have nm1:w1.drew.cell? ⟨w.heap.size+2,2,none⟩=some (.string ⟨h.link.toArray⟩):=cell_of SD.out.hd 2 rfl;have hcat:(⟨h.link.toArray⟩:ByteArray)++⟨#[0]⟩=⟨(h.link++[0]).toArray⟩:=E4 h.link [0];obtain⟨nl,hnl⟩:∃nl,h.link++[(0:UInt8)]=nl:=⟨_,rfl⟩;(have hnll:nl.length≤1048577:=by rw[←hnl,List.length_append,List.length_singleton];omega);rw[hnl] at hcat;have HNL:=hid hnl;(have hq1:h.link.length<9223372036854775807:=by omega);(have hq2:¬9223372036854775807<h.link.length+1:=by omega);(have hq3:¬9223372036854775807≤h.link.length:=by omega);clear hnl;have hsz0:w.heap.size+4≤w1.drew.heap.size:=by
       obtain⟨v,h1,_⟩:=SD.out.ov;have:=Bv h1;omega
      (have HME:=fun W hc=>hid (Eh W C (m+1) 75 Cq nl 3 true rfl hc (by omega) (by omega) (by decide)));unfold Cq at HME;(have hC0:C≠w.heap.size+3:=by omega);refine wp_region_held_drew (S:=(fun w'=>w'.cell? ⟨w.heap.size,0,none⟩=some (.pointer (some ⟨C,0,none⟩))∧w'.cell? ⟨w.heap.size+2,2,none⟩=some (.string ⟨h.link.toArray⟩))) (by kernel_rfl) ?_ (fun hHeld=>?_)
      ·(try dsimp only);(first|(exact⟨cp1,nm1⟩)|(exact hS2)|(exact hS3)|(exact hS4))
      (refine wpAnyH_take (i:=1) (v:=?_) rfl (by kernel_rfl) (by kernel_rfl) (by kernel_rfl) (fun _ _ _ h=>h) (Or.inl ⟨by rfl,?_⟩) (by assumption) ?_);rotate_left 1
      ·intro W hSw;(try dsimp only at hSw);go_simp;(try with_reducible rfl)
      (refine wpAnyH_take (i:=2) (v:=?_) rfl (by kernel_rfl) (by kernel_rfl) (by kernel_rfl) (fun _ _ _ h=>h) (Or.inl ⟨by rfl,?_⟩) (by assumption) ?_);rotate_left 1
      ·intro W hSw;(try dsimp only at hSw);go_simp;(try with_reducible rfl)
      (refine wpAnyH_take (i:=3) (v:=?_) rfl (by kernel_rfl) (by kernel_rfl) (by kernel_rfl) (fun _ _ _ h=>h) (Or.inl ⟨by rfl,?_⟩) (by assumption) ?_);rotate_left 1
      ·intro W hSw;(try dsimp only at hSw);go_simp;(try with_reducible rfl)
      (refine wpAnyH_take (i:=4) (v:=?_) rfl (by kernel_rfl) (by kernel_rfl) (by kernel_rfl) (fun _ _ _ h=>h) (Or.inl ⟨by rfl,?_⟩) (by assumption) ?_);rotate_left 1
      ·intro W hSw;(try dsimp only at hSw);go_simp;(try with_reducible rfl)
      (try simp only[Act.put,List.getElem_toArray,List.getElem_cons_succ,List.getElem_cons_zero,sA,sB,sC]);(refine wpAnyH_ready (rs:=[0,5]) (by kernel_rfl) (by simp) ?_);refine AllReadyH.cons (o:=_) rfl (fun K hK=>?_) (AllReadyH.cons (o:=_) rfl (fun K hK=>?_) AllReadyH.nil);go_simp;refine hK.out _ _ ?_ (fun hNew=>?_)
      ·(first|(exact⟨cp1,nm1⟩)|(exact hS2)|(exact hS3)|(exact hS4))
      clear hK K;(refine wpAnyH_ready (rs:=[5]) (by kernel_rfl) (by simp) ?_);refine AllReadyH.cons (o:=_) rfl (fun K hK=>?_) AllReadyH.nil;go_simp
      (go_at_call 71;refine(HME _ SD.out.cho).out.mono ?_;rintro e w5 ⟨v5,t5,rfl,ho5,hme5,hk5,hc5⟩;have hlv5:w5.cell? ⟨w.heap.size+3,0,none⟩=some lv:=hk5.cell hlv (by show ¬(w.heap.size+3=C);omega);have hS2:w5.cell? ⟨w.heap.size,0,none⟩=some (.pointer (some ⟨C,0,none⟩))∧w5.cell? ⟨w.heap.size+2,2,none⟩=some (.string ⟨h.link.toArray⟩):=⟨hk5.cell cp1 (by show ¬(w.heap.size=C);omega),hk5.cell nm1 (by show ¬(w.heap.size+2=C);omega)⟩;have S5:=SD.out.chose hCw hk5 hc5;have hlen5:=Cp hme5;obtain⟨A6,n6,c6,w6,hr6,y1,y2,S6,k6⟩:=S5.app hCw v5 t5 ho5.dataAt (by first|omega|(simp only[List.length_nil];omega)) 27 lv hlv5;have HR6:=hid hr6;have hS3:w6.cell? ⟨w.heap.size,0,none⟩=some (.pointer (some ⟨C,0,none⟩))∧w6.cell? ⟨w.heap.size+2,2,none⟩=some (.string ⟨h.link.toArray⟩):=⟨k6.cell hS2.1 (by show ¬(w.heap.size+4≤w.heap.size);omega),k6.cell hS2.2 (by show ¬(w.heap.size+4≤w.heap.size+2);omega)⟩;have hS4:(w6.setCell ⟨w.heap.size+3,0,none⟩ (.slice A6 n6 c6)).cell? ⟨w.heap.size,0,none⟩=some (.pointer (some ⟨C,0,none⟩))∧(w6.setCell ⟨w.heap.size+3,0,none⟩ (.slice A6 n6 c6)).cell? ⟨w.heap.size+2,2,none⟩=some (.string ⟨h.link.toArray⟩):=⟨cell_of S6.cp 0 rfl,cell_of S6.hd 2 rfl⟩;have FIN:Hid (∃k,C7 75 h.link k∧k.length≤2097152∧FlSt w C (m+3000) h rv dv ([]++k) (w6.setCell ⟨w.heap.size+3,0,none⟩ (.slice A6 n6 c6))):=⟨t5, .inr ⟨hne,by rw[HNL.out];exact hme5⟩,by omega,S6.more (by omega)⟩;clear hr6 S6 S5 hme5 ho5 hk5 hc5 hlen5 k6);(go_wp2_with fail);refine hK.out _ _ ?_ (fun hNew=>?_)
      ·(first|(exact⟨cp1,nm1⟩)|(exact hS2)|(exact hS3)|(exact hS4))
      clear hK K;(refine wpAnyH_ready (rs:=[6]) (by kernel_rfl) (by simp) ?_);refine AllReadyH.cons (o:=_) rfl (fun K hK=>?_) AllReadyH.nil;refine Bp rfl _ _ _ _ rfl _ _ rfl rfl _ _ HR6.out ?_;refine hK.out _ _ ?_ (fun hNew=>?_)
      ·(first|(exact⟨cp1,nm1⟩)|(exact hS2)|(exact hS3)|(exact hS4))
      clear hK K;(refine wpAnyH_ready (rs:=[7]) (by kernel_rfl) (by simp) ?_);refine AllReadyH.cons (o:=_) rfl (fun K hK=>?_) AllReadyH.nil;go_simp;refine hK.out _ _ ?_ (fun hNew=>?_)
      ·(first|(exact⟨cp1,nm1⟩)|(exact hS2)|(exact hS3)|(exact hS4))
      clear hK K;clear hHeld;(refine wpAnyH_done (by kernel_rfl) ?_ _);rotate_left 1;go_simp
      (go_at_call 71;refine(HME _ SD.out.cho).out.mono ?_;rintro e w5 ⟨v5,t5,rfl,ho5,hme5,hk5,hc5⟩;have hlv5:w5.cell? ⟨w.heap.size+3,0,none⟩=some lv:=hk5.cell hlv (by show ¬(w.heap.size+3=C);omega);have hS2:w5.cell? ⟨w.heap.size,0,none⟩=some (.pointer (some ⟨C,0,none⟩))∧w5.cell? ⟨w.heap.size+2,2,none⟩=some (.string ⟨h.link.toArray⟩):=⟨hk5.cell cp1 (by show ¬(w.heap.size=C);omega),hk5.cell nm1 (by show ¬(w.heap.size+2=C);omega)⟩;have S5:=SD.out.chose hCw hk5 hc5;have hlen5:=Cp hme5;obtain⟨A6,n6,c6,w6,hr6,y1,y2,S6,k6⟩:=S5.app hCw v5 t5 ho5.dataAt (by first|omega|(simp only[List.length_nil];omega)) 27 lv hlv5;have HR6:=hid hr6;have hS3:w6.cell? ⟨w.heap.size,0,none⟩=some (.pointer (some ⟨C,0,none⟩))∧w6.cell? ⟨w.heap.size+2,2,none⟩=some (.string ⟨h.link.toArray⟩):=⟨k6.cell hS2.1 (by show ¬(w.heap.size+4≤w.heap.size);omega),k6.cell hS2.2 (by show ¬(w.heap.size+4≤w.heap.size+2);omega)⟩;have hS4:(w6.setCell ⟨w.heap.size+3,0,none⟩ (.slice A6 n6 c6)).cell? ⟨w.heap.size,0,none⟩=some (.pointer (some ⟨C,0,none⟩))∧(w6.setCell ⟨w.heap.size+3,0,none⟩ (.slice A6 n6 c6)).cell? ⟨w.heap.size+2,2,none⟩=some (.string ⟨h.link.toArray⟩):=⟨cell_of S6.cp 0 rfl,cell_of S6.hd 2 rfl⟩;have FIN:Hid (∃k,C7 75 h.link k∧k.length≤2097152∧FlSt w C (m+3000) h rv dv ([]++k) (w6.setCell ⟨w.heap.size+3,0,none⟩ (.slice A6 n6 c6))):=⟨t5, .inr ⟨hne,by rw[HNL.out];exact hme5⟩,by omega,S6.more (by omega)⟩;clear hr6 S6 S5 hme5 ho5 hk5 hc5 hlen5 k6);(go_wp2_with fail);refine hK.out _ _ ?_ (fun hNew=>?_)
      ·(first|(exact⟨cp1,nm1⟩)|(exact hS2)|(exact hS3)|(exact hS4))
      clear hK K;(refine wpAnyH_ready (rs:=[0]) (by kernel_rfl) (by simp) ?_);refine AllReadyH.cons (o:=_) rfl (fun K hK=>?_) AllReadyH.nil;go_simp;refine hK.out _ _ ?_ (fun hNew=>?_)
      ·(first|(exact⟨cp1,nm1⟩)|(exact hS2)|(exact hS3)|(exact hS4))
      clear hK K;(refine wpAnyH_ready (rs:=[6]) (by kernel_rfl) (by simp) ?_);refine AllReadyH.cons (o:=_) rfl (fun K hK=>?_) AllReadyH.nil;refine Bp rfl _ _ _ _ rfl _ _ rfl rfl _ _ HR6.out ?_;refine hK.out _ _ ?_ (fun hNew=>?_)
      ·(first|(exact⟨cp1,nm1⟩)|(exact hS2)|(exact hS3)|(exact hS4))
      clear hK K;(refine wpAnyH_ready (rs:=[7]) (by kernel_rfl) (by simp) ?_);refine AllReadyH.cons (o:=_) rfl (fun K hK=>?_) AllReadyH.nil;go_simp;refine hK.out _ _ ?_ (fun hNew=>?_)
      ·(first|(exact⟨cp1,nm1⟩)|(exact hS2)|(exact hS3)|(exact hS4))
      clear hK K;clear hHeld;refine wpAnyH_done (by kernel_rfl) ?_ _
      all_goals
       generalize w6.setCell ⟨w.heap.size+3,0,none⟩ (.slice A6 n6 c6)=w7 at FIN ⊢;obtain⟨k7,hk7,hkl7,S7⟩:=FIN.out;rw[List.nil_append] at S7;replace S7:=hid S7;have HK7:=hid hk7;clear FIN hk7 hS4 hS3 hS2 SD cp1 nm1 HME hlv y1 y2;(go_wp2_with fail);(refine(Ig w w7 C (m+3000) h rv dv k7 hCw S7.out (by omega) hnn (hnne h1) (by omega)).mono ?_);rintro e w8 ⟨rfl,hx⟩;obtain⟨t8,hL8,htl8,S8⟩:=hx.out;(have NX:Hid (∃t,h.typ≠103∧HeadT h t∧t.length≤8388608∧FlSt w C (m+170000) h rv dv t w8):=⟨k7++t8,h1, .gnu hf false t8 k7 hL8 HK7.out,by rw[List.length_append];omega,S8.more (by omega)⟩);clear hx hL8 S8;(go_wp2_with fail);go_meet
       case rel=>exact NX
     ·(have hd:decide ((100:Int)<(h.link.length:Int))=false:=decide_eq_false (by omega));cases hE:h.link.isEmpty with
      |true=>
       (have HK7:Hid (C7 75 h.link []):=.inl ⟨rfl,by omega⟩);(have S7:Hid (FlSt w C (m+3000) h rv dv [] w1):=S1.out.more (by omega));obtain⟨k7,hk7⟩:∃k7:List UInt8,[]=k7:=⟨_,rfl⟩;rw[hk7] at HK7 S7;(have hkl7:k7.length≤2097152:=by rw[←hk7];decide);clear hk7;(go_wp2_with fail);(refine(Ig w w1 C (m+3000) h rv dv k7 hCw S7.out (by omega) hnn (hnne h1) (by omega)).mono ?_);rintro e w8 ⟨rfl,hx⟩;obtain⟨t8,hL8,htl8,S8⟩:=hx.out;(have NX:Hid (∃t,h.typ≠103∧HeadT h t∧t.length≤8388608∧FlSt w C (m+170000) h rv dv t w8):=⟨k7++t8,h1, .gnu hf false t8 k7 hL8 HK7.out,by rw[List.length_append];omega,S8.more (by omega)⟩);clear hx hL8 S8;(go_wp2_with fail);go_meet
       case rel=>exact NX
      |false=>
       (have hne:h.link≠[]:=by intro e;rw[e] at hE;simp at hE);(go_wp2_with fail);(refine(Cs w1 C (m+1) 4 S1.out.cho (by omega) (by omega)).mono ?_);rintro e w3 ⟨⟨n3,hn3,rfl⟩,hk3,hc3⟩;have S3:=hid (S1.out.chose hCw hk3 hc3);clear hk3 hc3;have nmL3:w3.cell? ⟨w.heap.size+2,2,none⟩=some (.string ⟨h.link.toArray⟩):=cell_of S3.out.hd 2 rfl;have cpL3:w3.cell? ⟨w.heap.size,0,none⟩=some (.pointer (some ⟨C,0,none⟩)):=cell_of S3.out.cp 0 rfl;by_cases h0:n3=0
       ·subst h0;(go_upto_region 15 with fail);have SD:=hid (S3.out.grow ((Kp.refl (fun _=>False) w3).drew));obtain⟨lv,hlv⟩:∃lv,w3.drew.cell? ⟨w.heap.size+3,0,none⟩=some lv:=by
         obtain⟨v,h1,_⟩:=SD.out.ov;exact⟨v,cell_of h1 0 rfl⟩
        have cp1:w3.drew.cell? ⟨w.heap.size,0,none⟩=some (.pointer (some ⟨C,0,none⟩)):=cell_of SD.out.cp 0 rfl;have nm1:w3.drew.cell? ⟨w.heap.size+2,2,none⟩=some (.string ⟨h.link.toArray⟩):=cell_of SD.out.hd 2 rfl;have hcat:(⟨h.link.toArray⟩:ByteArray)++⟨#[0]⟩=⟨(h.link++[0]).toArray⟩:=E4 h.link [0];obtain⟨nl,hnl⟩:∃nl,h.link++[(0:UInt8)]=nl:=⟨_,rfl⟩;(have hnll:nl.length≤1048577:=by rw[←hnl,List.length_append,List.length_singleton];omega);rw[hnl] at hcat;have HNL:=hid hnl;(have hq1:h.link.length<9223372036854775807:=by omega);(have hq2:¬9223372036854775807<h.link.length+1:=by omega);(have hq3:¬9223372036854775807≤h.link.length:=by omega);clear hnl;have hsz0:w.heap.size+4≤w3.drew.heap.size:=by
         obtain⟨v,h1,_⟩:=SD.out.ov;have:=Bv h1;omega
        (have HME:=fun W hc=>hid (Eh W C (m+1+1) 75 Cq nl 3 true rfl hc (by omega) (by omega) (by decide)));unfold Cq at HME;(have hC0:C≠w.heap.size+3:=by omega);refine wp_region_held_drew (S:=(fun w'=>w'.cell? ⟨w.heap.size,0,none⟩=some (.pointer (some ⟨C,0,none⟩))∧w'.cell? ⟨w.heap.size+2,2,none⟩=some (.string ⟨h.link.toArray⟩))) (by kernel_rfl) ?_ (fun hHeld=>?_)
        ·(try dsimp only);(first|(exact⟨cp1,nm1⟩)|(exact hS2)|(exact hS3)|(exact hS4))
        (refine wpAnyH_take (i:=1) (v:=?_) rfl (by kernel_rfl) (by kernel_rfl) (by kernel_rfl) (fun _ _ _ h=>h) (Or.inl ⟨by rfl,?_⟩) (by assumption) ?_);rotate_left 1
        ·intro W hSw;(try dsimp only at hSw);go_simp;(try with_reducible rfl)
        (refine wpAnyH_take (i:=2) (v:=?_) rfl (by kernel_rfl) (by kernel_rfl) (by kernel_rfl) (fun _ _ _ h=>h) (Or.inl ⟨by rfl,?_⟩) (by assumption) ?_);rotate_left 1
        ·intro W hSw;(try dsimp only at hSw);go_simp;(try with_reducible rfl)
        (refine wpAnyH_take (i:=3) (v:=?_) rfl (by kernel_rfl) (by kernel_rfl) (by kernel_rfl) (fun _ _ _ h=>h) (Or.inl ⟨by rfl,?_⟩) (by assumption) ?_);rotate_left 1
        ·intro W hSw;(try dsimp only at hSw);go_simp;(try with_reducible rfl)
        (refine wpAnyH_take (i:=4) (v:=?_) rfl (by kernel_rfl) (by kernel_rfl) (by kernel_rfl) (fun _ _ _ h=>h) (Or.inl ⟨by rfl,?_⟩) (by assumption) ?_);rotate_left 1
        ·intro W hSw;(try dsimp only at hSw);go_simp;(try with_reducible rfl)
        (try simp only[Act.put,List.getElem_toArray,List.getElem_cons_succ,List.getElem_cons_zero,sA,sB,sC]);(refine wpAnyH_ready (rs:=[0,5]) (by kernel_rfl) (by simp) ?_);refine AllReadyH.cons (o:=_) rfl (fun K hK=>?_) (AllReadyH.cons (o:=_) rfl (fun K hK=>?_) AllReadyH.nil);go_simp;refine hK.out _ _ ?_ (fun hNew=>?_)
        ·(first|(exact⟨cp1,nm1⟩)|(exact hS2)|(exact hS3)|(exact hS4))
        clear hK K;(refine wpAnyH_ready (rs:=[5]) (by kernel_rfl) (by simp) ?_);refine AllReadyH.cons (o:=_) rfl (fun K hK=>?_) AllReadyH.nil;go_simp
        (go_at_call 71;refine(HME _ SD.out.cho).out.mono ?_;rintro e w5 ⟨v5,t5,rfl,ho5,hme5,hk5,hc5⟩;have hlv5:w5.cell? ⟨w.heap.size+3,0,none⟩=some lv:=hk5.cell hlv (by show ¬(w.heap.size+3=C);omega);have hS2:w5.cell? ⟨w.heap.size,0,none⟩=some (.pointer (some ⟨C,0,none⟩))∧w5.cell? ⟨w.heap.size+2,2,none⟩=some (.string ⟨h.link.toArray⟩):=⟨hk5.cell cp1 (by show ¬(w.heap.size=C);omega),hk5.cell nm1 (by show ¬(w.heap.size+2=C);omega)⟩;have S5:=SD.out.chose hCw hk5 hc5;have hlen5:=Cp hme5;obtain⟨A6,n6,c6,w6,hr6,y1,y2,S6,k6⟩:=S5.app hCw v5 t5 ho5.dataAt (by first|omega|(simp only[List.length_nil];omega)) 27 lv hlv5;have HR6:=hid hr6;have hS3:w6.cell? ⟨w.heap.size,0,none⟩=some (.pointer (some ⟨C,0,none⟩))∧w6.cell? ⟨w.heap.size+2,2,none⟩=some (.string ⟨h.link.toArray⟩):=⟨k6.cell hS2.1 (by show ¬(w.heap.size+4≤w.heap.size);omega),k6.cell hS2.2 (by show ¬(w.heap.size+4≤w.heap.size+2);omega)⟩;have hS4:(w6.setCell ⟨w.heap.size+3,0,none⟩ (.slice A6 n6 c6)).cell? ⟨w.heap.size,0,none⟩=some (.pointer (some ⟨C,0,none⟩))∧(w6.setCell ⟨w.heap.size+3,0,none⟩ (.slice A6 n6 c6)).cell? ⟨w.heap.size+2,2,none⟩=some (.string ⟨h.link.toArray⟩):=⟨cell_of S6.cp 0 rfl,cell_of S6.hd 2 rfl⟩;have FIN:Hid (∃k,C7 75 h.link k∧k.length≤2097152∧FlSt w C (m+3000) h rv dv ([]++k) (w6.setCell ⟨w.heap.size+3,0,none⟩ (.slice A6 n6 c6))):=⟨t5, .inr ⟨hne,by rw[HNL.out];exact hme5⟩,by omega,S6.more (by omega)⟩;clear hr6 S6 S5 hme5 ho5 hk5 hc5 hlen5 k6);(go_wp2_with fail);refine hK.out _ _ ?_ (fun hNew=>?_)
        ·(first|(exact⟨cp1,nm1⟩)|(exact hS2)|(exact hS3)|(exact hS4))
        clear hK K;(refine wpAnyH_ready (rs:=[6]) (by kernel_rfl) (by simp) ?_);refine AllReadyH.cons (o:=_) rfl (fun K hK=>?_) AllReadyH.nil;refine Bp rfl _ _ _ _ rfl _ _ rfl rfl _ _ HR6.out ?_;refine hK.out _ _ ?_ (fun hNew=>?_)
        ·(first|(exact⟨cp1,nm1⟩)|(exact hS2)|(exact hS3)|(exact hS4))
        clear hK K;(refine wpAnyH_ready (rs:=[7]) (by kernel_rfl) (by simp) ?_);refine AllReadyH.cons (o:=_) rfl (fun K hK=>?_) AllReadyH.nil;go_simp;refine hK.out _ _ ?_ (fun hNew=>?_)
        ·(first|(exact⟨cp1,nm1⟩)|(exact hS2)|(exact hS3)|(exact hS4))
        clear hK K;clear hHeld;(refine wpAnyH_done (by kernel_rfl) ?_ _);rotate_left 1;go_simp
        (go_at_call 71;refine(HME _ SD.out.cho).out.mono ?_;rintro e w5 ⟨v5,t5,rfl,ho5,hme5,hk5,hc5⟩;have hlv5:w5.cell? ⟨w.heap.size+3,0,none⟩=some lv:=hk5.cell hlv (by show ¬(w.heap.size+3=C);omega);have hS2:w5.cell? ⟨w.heap.size,0,none⟩=some (.pointer (some ⟨C,0,none⟩))∧w5.cell? ⟨w.heap.size+2,2,none⟩=some (.string ⟨h.link.toArray⟩):=⟨hk5.cell cp1 (by show ¬(w.heap.size=C);omega),hk5.cell nm1 (by show ¬(w.heap.size+2=C);omega)⟩;have S5:=SD.out.chose hCw hk5 hc5;have hlen5:=Cp hme5;obtain⟨A6,n6,c6,w6,hr6,y1,y2,S6,k6⟩:=S5.app hCw v5 t5 ho5.dataAt (by first|omega|(simp only[List.length_nil];omega)) 27 lv hlv5;have HR6:=hid hr6;have hS3:w6.cell? ⟨w.heap.size,0,none⟩=some (.pointer (some ⟨C,0,none⟩))∧w6.cell? ⟨w.heap.size+2,2,none⟩=some (.string ⟨h.link.toArray⟩):=⟨k6.cell hS2.1 (by show ¬(w.heap.size+4≤w.heap.size);omega),k6.cell hS2.2 (by show ¬(w.heap.size+4≤w.heap.size+2);omega)⟩;have hS4:(w6.setCell ⟨w.heap.size+3,0,none⟩ (.slice A6 n6 c6)).cell? ⟨w.heap.size,0,none⟩=some (.pointer (some ⟨C,0,none⟩))∧(w6.setCell ⟨w.heap.size+3,0,none⟩ (.slice A6 n6 c6)).cell? ⟨w.heap.size+2,2,none⟩=some (.string ⟨h.link.toArray⟩):=⟨cell_of S6.cp 0 rfl,cell_of S6.hd 2 rfl⟩;have FIN:Hid (∃k,C7 75 h.link k∧k.length≤2097152∧FlSt w C (m+3000) h rv dv ([]++k) (w6.setCell ⟨w.heap.size+3,0,none⟩ (.slice A6 n6 c6))):=⟨t5, .inr ⟨hne,by rw[HNL.out];exact hme5⟩,by omega,S6.more (by omega)⟩;clear hr6 S6 S5 hme5 ho5 hk5 hc5 hlen5 k6);(go_wp2_with fail);refine hK.out _ _ ?_ (fun hNew=>?_)
        ·(first|(exact⟨cp1,nm1⟩)|(exact hS2)|(exact hS3)|(exact hS4))
        clear hK K;(refine wpAnyH_ready (rs:=[0]) (by kernel_rfl) (by simp) ?_);refine AllReadyH.cons (o:=_) rfl (fun K hK=>?_) AllReadyH.nil;go_simp;refine hK.out _ _ ?_ (fun hNew=>?_)
        ·(first|(exact⟨cp1,nm1⟩)|(exact hS2)|(exact hS3)|(exact hS4))
        clear hK K;(refine wpAnyH_ready (rs:=[6]) (by kernel_rfl) (by simp) ?_);refine AllReadyH.cons (o:=_) rfl (fun K hK=>?_) AllReadyH.nil;refine Bp rfl _ _ _ _ rfl _ _ rfl rfl _ _ HR6.out ?_;refine hK.out _ _ ?_ (fun hNew=>?_)
        ·(first|(exact⟨cp1,nm1⟩)|(exact hS2)|(exact hS3)|(exact hS4))
        clear hK K;(refine wpAnyH_ready (rs:=[7]) (by kernel_rfl) (by simp) ?_);refine AllReadyH.cons (o:=_) rfl (fun K hK=>?_) AllReadyH.nil;go_simp;refine hK.out _ _ ?_ (fun hNew=>?_)
        ·(first|(exact⟨cp1,nm1⟩)|(exact hS2)|(exact hS3)|(exact hS4))
        clear hK K;clear hHeld;refine wpAnyH_done (by kernel_rfl) ?_ _
        all_goals
         generalize w6.setCell ⟨w.heap.size+3,0,none⟩ (.slice A6 n6 c6)=w7 at FIN ⊢;obtain⟨k7,hk7,hkl7,S7⟩:=FIN.out;rw[List.nil_append] at S7;replace S7:=hid S7;have HK7:=hid hk7;clear FIN hk7 hS4 hS3 hS2 SD cp1 nm1 HME hlv y1 y2;(go_wp2_with fail);(refine(Ig w w7 C (m+3000) h rv dv k7 hCw S7.out (by omega) hnn (hnne h1) (by omega)).mono ?_);rintro e w8 ⟨rfl,hx⟩;obtain⟨t8,hL8,htl8,S8⟩:=hx.out;(have NX:Hid (∃t,h.typ≠103∧HeadT h t∧t.length≤8388608∧FlSt w C (m+170000) h rv dv t w8):=⟨k7++t8,h1, .gnu hf false t8 k7 hL8 HK7.out,by rw[List.length_append];omega,S8.more (by omega)⟩);clear hx hL8 S8;(go_wp2_with fail);go_meet
         case rel=>exact NX
       ·(have hd3:((n3:Int)==0)=false:=by rw[beq_eq_false_iff_ne];omega);(have HK7:Hid (C7 75 h.link []):=.inl ⟨rfl,by omega⟩);(have S7:Hid (FlSt w C (m+3000) h rv dv [] w3):=S3.out.more (by omega));obtain⟨k7,hk7⟩:∃k7:List UInt8,[]=k7:=⟨_,rfl⟩;rw[hk7] at HK7 S7;(have hkl7:k7.length≤2097152:=by rw[←hk7];decide);clear hk7 h0;(go_wp2_with fail);(refine(Ig w w3 C (m+3000) h rv dv k7 hCw S7.out (by omega) hnn (hnne h1) (by omega)).mono ?_);rintro e w8 ⟨rfl,hx⟩;obtain⟨t8,hL8,htl8,S8⟩:=hx.out;(have NX:Hid (∃t,h.typ≠103∧HeadT h t∧t.length≤8388608∧FlSt w C (m+170000) h rv dv t w8):=⟨k7++t8,h1, .gnu hf false t8 k7 hL8 HK7.out,by rw[List.length_append];omega,S8.more (by omega)⟩);clear hx hL8 S8;(go_wp2_with fail);go_meet
        case rel=>exact NX
 case rest=>
 obtain⟨t,ht1,hH,htl,S1⟩:=hcut.out;replace S1:=hid S1;have HH:=hid hH;clear hcut hH;obtain⟨cs,hcs⟩:∃cs,Bd h rv=cs:=⟨_,rfl⟩;have hfm3:=hfm ht1;obtain⟨gnu,hgn⟩:∃gnu:Bool,if gnu then h.fmt=3 else h.fmt=1∨h.fmt=2:=by
  rcases hfm3 with e|e|e
  ·exact⟨false, .inl e⟩
  ·exact⟨false, .inr e⟩
  ·exact⟨true,e⟩
 have HNI:=hid hni;have HBK:=fun W hc=>hid (Qv W C (m+170000) h rv h.fmt gnu hgn hc (by omega) HNI.out (by have:=hti.name;omega))
 rw[hcs] at HBK;have HGN:=hid hgn;have hcl:cs.length=21:=by rw[←hcs];rfl
 have HCL:=hid hcl;have hi45:(Tryz.prog.info? 45).map (·.size)=some cs.length:=by rw[hcl];kernel_rfl
 have HI45:=hid hi45;have hrg:wc.rangeAt (w.heap.size+2) 0 cs:=fun j v hv'=>by
  rw[Nat.zero_add];rw[←hcs] at hv';exact cell_of S1.out.hd j (by rw[List.getElem?_toArray];exact hv')
 have HRG:=hid hrg;have HCS:=hid hcs;clear hcs hcl hgn hi45 hrg hfm3;go_upto_region 18 with fail
 go_cut [] from 76 to 82 (fun wx=>Hid (∃l,BlkE h gnu l∧FlSt w C (m+180000) h rv dv (t++l) wx))
 case first=>
  have hrun:∀W:World,W.rangeAt (w.heap.size+2) 0 cs→(Instr.loadAt 45 (.pointer (some ⟨w.heap.size+2,0,none⟩))).run Tryz.prog W=.ok (.agg cs.toArray) W:=fun W h=>run_loadAt_mid W _ _ 45 cs _ h Tryz.underlying45 rfl HI45.out;have SD:=hid (S1.out.grow ((Kp.refl (fun _=>False) wc).drew));obtain⟨lv,hlv⟩:∃lv,wc.drew.cell? ⟨w.heap.size+3,0,none⟩=some lv:=by
   obtain⟨v,h1,_⟩:=SD.out.ov;exact⟨v,cell_of h1 0 rfl⟩
  have cp1:wc.drew.cell? ⟨w.heap.size,0,none⟩=some (.pointer (some ⟨C,0,none⟩)):=cell_of SD.out.cp 0 rfl;have fm1:wc.drew.cell? ⟨w.heap.size+2,20,none⟩=some (.int .i64 h.fmt):=cell_of SD.out.hd 20 rfl;have rg1:wc.drew.rangeAt (w.heap.size+2) 0 cs:=HRG.out;have hsz0:w.heap.size+4≤wc.drew.heap.size:=SD.out.ovlt;have hC0:C≠w.heap.size+3:=by omega
  refine wp_region_held_drew (S:=fun w'=>w'.cell? ⟨w.heap.size,0,none⟩=some (.pointer (some ⟨C,0,none⟩))∧w'.cell? ⟨w.heap.size+2,20,none⟩=some (.int .i64 h.fmt)∧w'.rangeAt (w.heap.size+2) 0 cs) (by kernel_rfl) ?_ (fun hHeld=>?_)
  ·exact⟨cp1,fm1,rg1⟩
  refine wpAnyH_take (i:=1) (v:=?_) rfl (by kernel_rfl) (by kernel_rfl) (by kernel_rfl) (fun _ _ _ h=>h) (Or.inl ⟨by rfl,?_⟩) (by assumption) ?_
  rotate_left 1
  ·intro W hSw;(try dsimp only at hSw);go_simp;(try with_reducible rfl)
  try simp only[Act.put,sA,sB,sC]
  refine' wpAnyH_take (i:=2) (v:=_) rfl (by kernel_rfl) (by kernel_rfl) (by kernel_rfl) (fun _ _ _ h=>h) (yieldsIf_load_mid (by rfl) 45 (.tmp 5) rfl (w.heap.size+2) 0 rfl cs _ (fun W hSw=>hSw.2.2) Tryz.underlying45 rfl HI45.out) (by assumption) ?_
  try simp only[Act.put,sA,sB,sC]
  refine wpAnyH_take (i:=3) (v:=?_) rfl (by kernel_rfl) (by kernel_rfl) (by kernel_rfl) (fun _ _ _ h=>h) (Or.inl ⟨by rfl,?_⟩) (by assumption) ?_
  rotate_left 1
  ·intro W hSw;(try dsimp only at hSw);go_simp;(try with_reducible rfl)
  try simp only[Act.put,sA,sB,sC]
  refine wpAnyH_take (i:=4) (v:=?_) rfl (by kernel_rfl) (by kernel_rfl) (by kernel_rfl) (fun _ _ _ h=>h) (Or.inl ⟨by rfl,?_⟩) (by assumption) ?_
  rotate_left 1
  ·intro W hSw;(try dsimp only at hSw);go_simp;(try with_reducible rfl)
  try simp only[Act.put,sA,sB,sC]
  refine wpAnyH_ready (rs:=[0,5]) (by kernel_rfl) (by simp) ?_
  refine AllReadyH.cons (o:=_) rfl (fun K hK=>?_) (AllReadyH.cons (o:=_) rfl (fun K hK=>?_) AllReadyH.nil)
  ·go_simp;refine hK.out _ _ ?_ (fun hHeld=>?_)
   ·exact⟨cp1,fm1,rg1⟩
   clear hK K;(try simp only[Act.put,sA,sB,sC]);(refine wpAnyH_ready (rs:=[5]) (by kernel_rfl) (by simp) ?_);refine AllReadyH.cons (o:=_) rfl (fun K hK=>?_) AllReadyH.nil;go_simp;(go_at_call 76);refine(HBK _ SD.out.cho).out.mono ?_;rintro e w5 ⟨l5,rfl,hrow5,hblk5,hk5,hc5⟩;(have hlv5:w5.cell? ⟨w.heap.size+3,0,none⟩=some lv:=hk5.cell hlv (by show ¬(w.heap.size+3=C);omega));have S5:=SD.out.chose hCw hk5 hc5;have hS2:w5.cell? ⟨w.heap.size,0,none⟩=some (.pointer (some ⟨C,0,none⟩))∧w5.cell? ⟨w.heap.size+2,20,none⟩=some (.int .i64 h.fmt)∧w5.rangeAt (w.heap.size+2) 0 cs:=⟨cell_of S5.cp 0 rfl,cell_of S5.hd 20 rfl,S5.range HCS.out⟩;have hl5:=hblk5.len;(have ho5:OwnB w5 (wc.drew.heap.size+1) (.slice (some ⟨wc.drew.heap.size+1,0,none⟩) 512 512) l5:=(by(have:=RowB.own (base:=wc.drew.heap.size+1) hrow5 (Nat.le_refl _) (by rw[hl5];decide));rwa[hl5] at this));(obtain⟨A6,n6,c6,w6,hr6,y1,y2,S6,k6⟩:=S5.app hCw _ l5 ho5.dataAt (by omega) 27 lv hlv5);have HR6:=hid hr6;have hS3:w6.cell? ⟨w.heap.size,0,none⟩=some (.pointer (some ⟨C,0,none⟩))∧w6.cell? ⟨w.heap.size+2,20,none⟩=some (.int .i64 h.fmt)∧w6.rangeAt (w.heap.size+2) 0 cs:=⟨k6.cell hS2.1 (by show ¬(w.heap.size+4≤w.heap.size);omega),k6.cell hS2.2.1 (by show ¬(w.heap.size+4≤w.heap.size+2);omega),fun j v hv=>k6.cell (hS2.2.2 j v hv) (by show ¬(w.heap.size+4≤w.heap.size+2);omega)⟩
   have hS4:(w6.setCell ⟨w.heap.size+3,0,none⟩ (.slice A6 n6 c6)).cell? ⟨w.heap.size,0,none⟩=some (.pointer (some ⟨C,0,none⟩))∧(w6.setCell ⟨w.heap.size+3,0,none⟩ (.slice A6 n6 c6)).cell? ⟨w.heap.size+2,20,none⟩=some (.int .i64 h.fmt)∧(w6.setCell ⟨w.heap.size+3,0,none⟩ (.slice A6 n6 c6)).rangeAt (w.heap.size+2) 0 cs:=⟨cell_of S6.cp 0 rfl,cell_of S6.hd 20 rfl,S6.range HCS.out⟩;(have FIN:Hid (∃l,BlkE h gnu l∧FlSt w C (m+180000) h rv dv (t++l) (w6.setCell ⟨w.heap.size+3,0,none⟩ (.slice A6 n6 c6))):=⟨l5,hblk5,S6.more (by omega)⟩);(go_wp2_with fail);refine hK.out _ _ ?_ (fun hHeld=>?_)
   ·exact hS2
   clear hK K;(try simp only[Act.put,sA,sB,sC]);(refine wpAnyH_ready (rs:=[6]) (by kernel_rfl) (by simp) ?_);refine AllReadyH.cons (o:=_) rfl (fun K hK=>?_) AllReadyH.nil;refine Bp rfl _ _ _ _ rfl _ _ rfl rfl _ _ HR6.out ?_;refine hK.out _ _ ?_ (fun hHeld=>?_)
   ·exact hS3
   clear hK K;(try simp only[Act.put,sA,sB,sC]);(refine wpAnyH_ready (rs:=[7]) (by kernel_rfl) (by simp) ?_);refine AllReadyH.cons (o:=_) rfl (fun K hK=>?_) AllReadyH.nil;go_simp;refine hK.out _ _ ?_ (fun hHeld=>?_)
   ·exact hS4
   clear hK K;(try simp only[Act.put,sA,sB,sC]);(refine wpAnyH_done (by kernel_rfl) ?_ _);clear hr6 S6 S5 hblk5 hrow5 ho5 hk5 hc5 hl5 k6 hHeld;(go_wp2_with fail);go_meet
   case rel=>exact FIN
  ·go_simp;(go_at_call 76);refine(HBK _ SD.out.cho).out.mono ?_;rintro e w5 ⟨l5,rfl,hrow5,hblk5,hk5,hc5⟩;(have hlv5:w5.cell? ⟨w.heap.size+3,0,none⟩=some lv:=hk5.cell hlv (by show ¬(w.heap.size+3=C);omega));have S5:=SD.out.chose hCw hk5 hc5;have hS2:w5.cell? ⟨w.heap.size,0,none⟩=some (.pointer (some ⟨C,0,none⟩))∧w5.cell? ⟨w.heap.size+2,20,none⟩=some (.int .i64 h.fmt)∧w5.rangeAt (w.heap.size+2) 0 cs:=⟨cell_of S5.cp 0 rfl,cell_of S5.hd 20 rfl,S5.range HCS.out⟩;have hl5:=hblk5.len;(have ho5:OwnB w5 (wc.drew.heap.size+1) (.slice (some ⟨wc.drew.heap.size+1,0,none⟩) 512 512) l5:=(by(have:=RowB.own (base:=wc.drew.heap.size+1) hrow5 (Nat.le_refl _) (by rw[hl5];decide));rwa[hl5] at this));(obtain⟨A6,n6,c6,w6,hr6,y1,y2,S6,k6⟩:=S5.app hCw _ l5 ho5.dataAt (by omega) 27 lv hlv5);have HR6:=hid hr6;have hS3:w6.cell? ⟨w.heap.size,0,none⟩=some (.pointer (some ⟨C,0,none⟩))∧w6.cell? ⟨w.heap.size+2,20,none⟩=some (.int .i64 h.fmt)∧w6.rangeAt (w.heap.size+2) 0 cs:=⟨k6.cell hS2.1 (by show ¬(w.heap.size+4≤w.heap.size);omega),k6.cell hS2.2.1 (by show ¬(w.heap.size+4≤w.heap.size+2);omega),fun j v hv=>k6.cell (hS2.2.2 j v hv) (by show ¬(w.heap.size+4≤w.heap.size+2);omega)⟩
   have hS4:(w6.setCell ⟨w.heap.size+3,0,none⟩ (.slice A6 n6 c6)).cell? ⟨w.heap.size,0,none⟩=some (.pointer (some ⟨C,0,none⟩))∧(w6.setCell ⟨w.heap.size+3,0,none⟩ (.slice A6 n6 c6)).cell? ⟨w.heap.size+2,20,none⟩=some (.int .i64 h.fmt)∧(w6.setCell ⟨w.heap.size+3,0,none⟩ (.slice A6 n6 c6)).rangeAt (w.heap.size+2) 0 cs:=⟨cell_of S6.cp 0 rfl,cell_of S6.hd 20 rfl,S6.range HCS.out⟩;(have FIN:Hid (∃l,BlkE h gnu l∧FlSt w C (m+180000) h rv dv (t++l) (w6.setCell ⟨w.heap.size+3,0,none⟩ (.slice A6 n6 c6))):=⟨l5,hblk5,S6.more (by omega)⟩);(go_wp2_with fail);refine hK.out _ _ ?_ (fun hHeld=>?_)
   ·exact hS2
   clear hK K;(try simp only[Act.put,sA,sB,sC]);(refine wpAnyH_ready (rs:=[0]) (by kernel_rfl) (by simp) ?_);refine AllReadyH.cons (o:=_) rfl (fun K hK=>?_) AllReadyH.nil;go_simp;refine hK.out _ _ ?_ (fun hHeld=>?_)
   ·exact hS2
   clear hK K;(try simp only[Act.put,sA,sB,sC]);(refine wpAnyH_ready (rs:=[6]) (by kernel_rfl) (by simp) ?_);refine AllReadyH.cons (o:=_) rfl (fun K hK=>?_) AllReadyH.nil;refine Bp rfl _ _ _ _ rfl _ _ rfl rfl _ _ HR6.out ?_;refine hK.out _ _ ?_ (fun hHeld=>?_)
   ·exact hS3
   clear hK K;(try simp only[Act.put,sA,sB,sC]);(refine wpAnyH_ready (rs:=[7]) (by kernel_rfl) (by simp) ?_);refine AllReadyH.cons (o:=_) rfl (fun K hK=>?_) AllReadyH.nil;go_simp;refine hK.out _ _ ?_ (fun hHeld=>?_)
   ·exact hS4
   clear hK K;(try simp only[Act.put,sA,sB,sC]);(refine wpAnyH_done (by kernel_rfl) ?_ _);clear hr6 S6 S5 hblk5 hrow5 ho5 hk5 hc5 hl5 k6 hHeld;(go_wp2_with fail);go_meet
   case rel=>exact FIN
 case rest=>
 obtain⟨l,hblk,S2⟩:=hcut.out;replace S2:=hid S2;have HBLK:=hid hblk;have hbl:=hblk.len;have HBL:=hid hbl;clear hcut hblk S1 hbl HRG;have ty2:wc.cell? ⟨w.heap.size+2,0,none⟩=some (.int .u8 (h.typ.toNat:Int)):=cell_of S2.out.hd 0 rfl;have HHD:=fun W=>hid (H9 W h.typ);obtain⟨β,hβ⟩:∃β,B8 h.typ=β:=⟨_,rfl⟩;rw[hβ] at HHD;have HBE:Hid (De h data=if β then Cb data else []):=by show _=_;unfold De;rw[hβ]
 have HFE:Hid (∀body,De h data=body→FileE h data (t++l++body)):=by
  show ∀body,_→_;rintro body rfl;have hg:=HGN.out;cases HH.out with
  |ustar hf=>
   (have:gnu=false:=by cases gnu with|false=>rfl|true=>rw[if_pos rfl] at hg;omega);subst this;rw[List.nil_append];exact .ustar ht1 hf l HBLK.out
  |pax0 hf h0=>
   (have:gnu=false:=by cases gnu with|false=>rfl|true=>rw[if_pos rfl] at hg;omega);subst this;rw[List.nil_append];exact .pax0 ht1 hf h0 l HBLK.out
  |pax hf rs hr t' m' hrt hm=>
   (have:gnu=false:=by cases gnu with|false=>rfl|true=>rw[if_pos rfl] at hg;omega);subst this;rw[List.append_assoc];exact .pax ht1 hf rs hr t' t hrt hm l HBLK.out
  |gnu hf first m' k' hm hk=>
   (have:gnu=true:=by cases gnu with|true=>rfl|false=>rw[if_neg (by simp)] at hg;omega);subst this;rw[List.append_assoc];exact .gnu ht1 hf first m' k' hm hk l HBLK.out
 clear hβ;cases β with
 |false=>
  obtain⟨lv,hlv⟩:∃lv,wc.cell? ⟨w.heap.size+3,0,none⟩=some lv:=by
   obtain⟨v,h1,_⟩:=S2.out.ov;exact⟨v,cell_of h1 0 rfl⟩
  have FIN:Hid (Ix w C m h data (.returned lv) wc):=S2.out.fin lv hlv (by have:=HFE.out [] HBE.out;rwa[List.append_nil] at this) (by omega)
  go_wp2_with fail
  refine(HHD _).out.mono ?_;rintro e w1 ⟨rfl,rfl⟩;go_wp2_with fail
  go_ret
  exact FIN
 |true=>
  go_wp2_with fail
  refine(HHD _).out.mono ?_;rintro e w1 ⟨rfl,rfl⟩;go_upto_region 20 with fail
  have SD:=hid (S2.out.grow ((Kp.refl (fun _=>False) w1).drew));obtain⟨lv,hlv⟩:∃lv,w1.drew.cell? ⟨w.heap.size+3,0,none⟩=some lv:=by
   obtain⟨v,h1,_⟩:=SD.out.ov;exact⟨v,cell_of h1 0 rfl⟩
  have dv1:w1.drew.cell? ⟨w.heap.size+1,21,none⟩=some dv:=cell_of SD.out.fr 21 rfl;have hda1:Hid (DataAt w1.drew dv data):=by
   have kk:Kp (· =C) w w1.drew:=SD.out.kp;rcases HDA.out with h|⟨b,o,c,h1,h2⟩
   ·exact .inl h
   ·exact .inr ⟨b,o,c,h1,fun j u hu=>kk.cell (h2 j u hu) (by
     have:=hdC.out b o c h1 (Zg hu);show ¬b=C;omega)⟩
  have HF:=hid (M6 w1.drew dv data hda1.out (by omega))
  have hsz0:w.heap.size+4≤w1.drew.heap.size:=SD.out.ovlt;have hpd:=G7 data.length;have hfl:=Ef data;have hC0:C≠w.heap.size+3:=by omega
  have HPD:=hid (And.intro hpd hfl);clear hpd hfl;refine wp_region_held_drew (S:=(fun w'=>w'.cell? ⟨w.heap.size+1,21,none⟩=some dv)) (by kernel_rfl) ?_ (fun hHeld=>?_)
  ·(try dsimp only);(first|(exact dv1)|(exact hS2)|(exact hS3)|(exact hS4))
  refine wpAnyH_take (i:=1) (v:=?_) rfl (by kernel_rfl) (by kernel_rfl) (by kernel_rfl) (fun _ _ _ h=>h) (Or.inl ⟨by rfl,?_⟩) (by assumption) ?_
  rotate_left 1
  ·intro W hSw;(try dsimp only at hSw);go_simp;(try with_reducible rfl)
  refine wpAnyH_take (i:=2) (v:=?_) rfl (by kernel_rfl) (by kernel_rfl) (by kernel_rfl) (fun _ _ _ h=>h) (Or.inl ⟨by rfl,?_⟩) (by assumption) ?_
  rotate_left 1
  ·intro W hSw;(try dsimp only at hSw);go_simp;(try with_reducible rfl)
  try simp only[Act.put,List.getElem_toArray,List.getElem_cons_succ,List.getElem_cons_zero,sA,sB,sC]
  refine wpAnyH_ready (rs:=[0,3]) (by kernel_rfl) (by simp) ?_
  refine AllReadyH.cons (o:=_) rfl (fun K hK=>?_) (AllReadyH.cons (o:=_) rfl (fun K hK=>?_) AllReadyH.nil);go_simp;refine hK.out _ _ ?_ (fun hNew=>?_)
  ·(first|(exact dv1)|(exact hS2)|(exact hS3)|(exact hS4))
  clear hK K;refine wpAnyH_ready (rs:=[3]) (by kernel_rfl) (by simp) ?_
  refine AllReadyH.cons (o:=_) rfl (fun K hK=>?_) AllReadyH.nil;go_simp;go_at_call 77;refine HF.out.mono ?_;rintro e w5 ⟨v5,rfl,ho5,hk5⟩;have hlv5:w5.cell? ⟨w.heap.size+3,0,none⟩=some lv:=hk5.cell hlv (fun h=>h);have S5:=SD.out.grow hk5;have hS2:w5.cell? ⟨w.heap.size+1,21,none⟩=some dv:=cell_of S5.fr 21 rfl;obtain⟨A6,n6,c6,w6,hr6,y1,y2,S6,k6⟩:=S5.app hCw v5 (Cb data) ho5.dataAt (by have h8:=HPD.out;have h9:=HBL.out;rw[List.length_append];omega) 27 lv hlv5;have HR6:=hid hr6;have hS3:w6.cell? ⟨w.heap.size+1,21,none⟩=some dv:=k6.cell hS2 (by show ¬(w.heap.size+4≤w.heap.size+1);omega);have hS4:(w6.setCell ⟨w.heap.size+3,0,none⟩ (.slice A6 n6 c6)).cell? ⟨w.heap.size+1,21,none⟩=some dv:=cell_of S6.fr 21 rfl;have FIN:Hid (Ix w C m h data (.returned (.slice A6 n6 c6)) (w6.setCell ⟨w.heap.size+3,0,none⟩ (.slice A6 n6 c6))):=S6.fin _ (Jb y1) (by have:=HFE.out _ HBE.out;exact this) (by omega);clear hr6 S6 S5 ho5 hk5 k6
  go_wp2_with fail
  refine hK.out _ _ ?_ (fun hNew=>?_)
  ·(first|(exact dv1)|(exact hS2)|(exact hS3)|(exact hS4))
  clear hK K;refine wpAnyH_ready (rs:=[4]) (by kernel_rfl) (by simp) ?_
  refine AllReadyH.cons (o:=_) rfl (fun K hK=>?_) AllReadyH.nil;refine Bp rfl _ _ _ _ rfl _ _ rfl rfl _ _ HR6.out ?_;refine hK.out _ _ ?_ (fun hNew=>?_)
  ·(first|(exact dv1)|(exact hS2)|(exact hS3)|(exact hS4))
  clear hK K;refine wpAnyH_ready (rs:=[5]) (by kernel_rfl) (by simp) ?_
  refine AllReadyH.cons (o:=_) rfl (fun K hK=>?_) AllReadyH.nil;go_simp;refine hK.out _ _ ?_ (fun hNew=>?_)
  ·(first|(exact dv1)|(exact hS2)|(exact hS3)|(exact hS4))
  clear hK K;clear hHeld;refine wpAnyH_done (by kernel_rfl) ?_ _
  rotate_left 1;go_simp;go_at_call 77;refine HF.out.mono ?_;rintro e w5 ⟨v5,rfl,ho5,hk5⟩;have hlv5:w5.cell? ⟨w.heap.size+3,0,none⟩=some lv:=hk5.cell hlv (fun h=>h);have S5:=SD.out.grow hk5;have hS2:w5.cell? ⟨w.heap.size+1,21,none⟩=some dv:=cell_of S5.fr 21 rfl;obtain⟨A6,n6,c6,w6,hr6,y1,y2,S6,k6⟩:=S5.app hCw v5 (Cb data) ho5.dataAt (by have h8:=HPD.out;have h9:=HBL.out;rw[List.length_append];omega) 27 lv hlv5;have HR6:=hid hr6;have hS3:w6.cell? ⟨w.heap.size+1,21,none⟩=some dv:=k6.cell hS2 (by show ¬(w.heap.size+4≤w.heap.size+1);omega);have hS4:(w6.setCell ⟨w.heap.size+3,0,none⟩ (.slice A6 n6 c6)).cell? ⟨w.heap.size+1,21,none⟩=some dv:=cell_of S6.fr 21 rfl;have FIN:Hid (Ix w C m h data (.returned (.slice A6 n6 c6)) (w6.setCell ⟨w.heap.size+3,0,none⟩ (.slice A6 n6 c6))):=S6.fin _ (Jb y1) (by have:=HFE.out _ HBE.out;exact this) (by omega);clear hr6 S6 S5 ho5 hk5 k6
  go_wp2_with fail
  refine hK.out _ _ ?_ (fun hNew=>?_)
  ·(first|(exact dv1)|(exact hS2)|(exact hS3)|(exact hS4))
  clear hK K;refine wpAnyH_ready (rs:=[0]) (by kernel_rfl) (by simp) ?_
  refine AllReadyH.cons (o:=_) rfl (fun K hK=>?_) AllReadyH.nil;go_simp;refine hK.out _ _ ?_ (fun hNew=>?_)
  ·(first|(exact dv1)|(exact hS2)|(exact hS3)|(exact hS4))
  clear hK K;refine wpAnyH_ready (rs:=[4]) (by kernel_rfl) (by simp) ?_
  refine AllReadyH.cons (o:=_) rfl (fun K hK=>?_) AllReadyH.nil;refine Bp rfl _ _ _ _ rfl _ _ rfl rfl _ _ HR6.out ?_;refine hK.out _ _ ?_ (fun hNew=>?_)
  ·(first|(exact dv1)|(exact hS2)|(exact hS3)|(exact hS4))
  clear hK K;refine wpAnyH_ready (rs:=[5]) (by kernel_rfl) (by simp) ?_
  refine AllReadyH.cons (o:=_) rfl (fun K hK=>?_) AllReadyH.nil;go_simp;refine hK.out _ _ ?_ (fun hNew=>?_)
  ·(first|(exact dv1)|(exact hS2)|(exact hS3)|(exact hS4))
  clear hK K;clear hHeld;refine wpAnyH_done (by kernel_rfl) ?_ _
  all_goals
   (go_wp2_with fail);(go_ret);exact FIN
end Go.Proofs.YtgfcnjfmmjcodaaGreatDoor
