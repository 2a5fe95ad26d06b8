/- wanted of the laws. -/
import Derived.Test.YtgfcnjfmmjcodaaGreatDoorP29
set_option linter.all false
set_option maxRecDepth 100000
set_option maxHeartbeats 1000000
open Go.Lib (hid)
namespace Go.Proofs.YtgfcnjfmmjcodaaGreatDoor
open Go Go.RowKit
section
def Yq (w:World)(fs:List Bt)(e:Ending)(w':World):Prop:=
 ∃v vd,e=.returned (.tuple #[v, .int .i64 vd])∧V3 vd∧(vd=1→∃out,FilesAt w' w'.heap.size v out∧WantAll fs out∧He out≤1048576)∧Kp (fun _=>False) w w'
structure WanR (w:World)(fs:List Bt)(i n:Nat)(vd:Int)(v:Value)(F H:Nat)(f:Bt)(rv dv:Value)(x:Int)(wx:World):Prop where
 v3:V3 x
 st:WanSt w fs i n vd v wx
 file:wx.heap[F]?=some (.cells (Cf f.1 rv dv f.2.2).toArray 29 (0,0))
 dat:DataQ wx (Wq wx v) dv f.2.1
 ok:x=1→∃g rv',wx.heap[H]?=some (.cells (Bd g rv').toArray 45 (0,0))∧RecsQ wx (Wq wx v) rv' g.recs∧Jn f (g,f.2.1)
theorem DataQ.shape {w:World}{Q:Nat→Prop}{dv:Value}{l:List UInt8}(h:DataQ w Q dv l):∃A c,dv=.slice A l.length c:=by
 rcases h with ⟨h,rfl⟩|⟨b,o,c,rfl,_⟩
 ·exact h.shape
 ·exact⟨_,c,rfl⟩
theorem Chosen.recs {h h':Hd}(c:Chosen h h'):h'.recs=h.recs:=by
 by_cases e:h.fmt=0
 ·obtain⟨s,_,h1⟩:=c.rnd e;rw[h1,Hb];rfl
 ·rw[c.same e,Hb]
theorem OwnF.far {w w':World}{base:Nat}{Q Q':Nat→Prop}{v:Value}{fs:List B4}{S:Nat→Prop}(h:OwnF w base Q v fs)(k:Kp S w w')(hS:∀b,S b→w.heap.size≤b)(hq:∀b,Q b→b<w.heap.size)(hQ:∀b,Q b→Q' b):OwnF w' base Q' v fs:=by
 obtain⟨cs,⟨h1,h2⟩,h3⟩:=h.own;refine⟨cs,⟨h1,?_⟩,h3.keep k (fun b hb hs=>by have:=hq b hb;have:=hS b hs;omega) hQ⟩
 rcases h2 with hn|⟨g,cap,cur,e,hb,hg,rest⟩
 ·exact .inl hn
 ·exact .inr ⟨g,cap,cur,e,hb,k.heap hg (fun hs=>by have:=Bv hg;have:=hS g hs;omega),rest⟩
theorem WanSt.far {w:World}{fs:List Bt}{i n:Nat}{vd:Int}{v:Value}{wr w2:World}{S:Nat→Prop}(s:WanSt w fs i n vd v wr)(k:Kp S wr w2)(hS:∀b,S b→wr.heap.size≤b):WanSt w fs i n vd v w2:=by
 obtain⟨out,h1,h2,h3⟩:=s.own;exact⟨⟨out,h1.far k hS (fun b hb=>hb.1) (fun b hb=>⟨Nat.lt_of_lt_of_le hb.1 k.size,hb.2⟩),h2,h3⟩,s.vd,s.le,s.kp.then k (fun j hj hs=>by have:=hS j hs;have:=s.kp.size;omega)⟩
structure WanM (w:World)(fs:List Bt)(i n:Nat)(vd:Int)(v:Value)(wr:World)(H:Nat)(f:Bt)(rv dv:Value)(h:Hd)(rv1:Value)(wx:World):Prop where
 st0:WanSt w fs i n vd v wr
 far:Kp (fun k=>wr.heap.size≤k) wr wx
 file:wx.heap[wr.heap.size]?=some (.cells (Cf f.1 rv dv f.2.2).toArray 29 (0,0))
 hd:wx.heap[H]?=some (.cells (Bd h rv1).toArray 45 (0,0))
 dat:DataQ wx (fun b=>b<w.heap.size) dv f.2.1
 rin:RecsAt wx w.heap.size rv f.1.recs
 rq:RecsQ wx (fun b=>wr.heap.size<b∧b<H) rv1 f.1.recs
 lt:wr.heap.size<H
section
variable {w:World} {fs:List Bt} {i n:Nat} {vd:Int} {v:Value} {wr:World} {H:Nat} {f:Bt} {rv dv:Value} {h:Hd} {rv1:Value} {wx wy:World}
theorem WanM.grow (s:WanM w fs i n vd v wr H f rv dv h rv1 wx)(k:Kp (fun _=>False) wx wy):WanM w fs i n vd v wr H f rv dv h rv1 wy:=
 ⟨s.st0,s.far.then k (fun _ _ h=>h.elim),k.heap s.file (fun h=>h),k.heap s.hd (fun h=>h),s.dat.keep k (fun _ _ h=>h) (fun _ h=>h),s.rin.keep k (fun _ h=>h.elim),s.rq.keep k (fun _ _ h=>h) (fun b hb=>hb),s.lt⟩
theorem WanM.st (s:WanM w fs i n vd v wr H f rv dv h rv1 wx):WanSt w fs i n vd v wx:=s.st0.far s.far (fun _ h=>h)
theorem WanM.datq (s:WanM w fs i n vd v wr H f rv dv h rv1 wx):DataQ wx (Wq wx v) dv f.2.1:=
 s.dat.keep (Kp.refl (fun _=>False) wx) (fun _ _ h=>h) (fun b hb=>⟨Nat.lt_of_lt_of_le hb s.st.kp.size,fun e=>by have:=(s.st.block e.symm).1;omega⟩)
theorem WanM.range (s:WanM w fs i n vd v wr H f rv dv h rv1 wx):wx.rangeAt wr.heap.size 0 (Bu f.1 rv):=fun j u hu=>by
 rw[Nat.zero_add]
 exact cell_of s.file j (by rw[List.getElem?_toArray];unfold Cf;rw[List.getElem?_append_left (List.getElem?_eq_some_iff.1 hu).1];exact hu)
theorem WanM.cell21 (s:WanM w fs i n vd v wr H f rv dv h rv1 wx):wx.cell? ⟨wr.heap.size,21,none⟩=some dv:=cell_of s.file 21 rfl
theorem WanM.rqw (s:WanM w fs i n vd v wr H f rv dv h rv1 wx):RecsQ wx (Wq wx v) rv1 f.1.recs:=
 s.rq.keep (Kp.refl (fun _=>False) wx) (fun _ _ h=>h) (fun b hb=>⟨by have:=Bv s.hd;omega,fun e=>by have:=(s.st0.block e.symm).2;omega⟩)
theorem WanM.recsAt (s:WanM w fs i n vd v wr H f rv dv h rv1 wx):RecsAt wx wx.heap.size rv1 f.1.recs:=s.rqw.at_ (fun _ h=>h.1)
theorem WanM.put (s:WanM w fs i n vd v wr H f rv dv h rv1 wx)(g:Hd):WanM w fs i n vd v wr H f rv dv g rv1 (wx.setRow H (Bd g rv1).toArray):=by
 have k:Kp (· =H) wx (wx.setRow H (Bd g rv1).toArray):=Kp.setRow (S:=(· =H)) (Kp.refl _ _) (.inl rfl) _;have hlt:=s.lt;have hsz:=s.st0.kp.size;refine⟨s.st0,s.far.then k (fun j hj e=>by omega),k.heap s.file (by omega),Gd s.hd _,s.dat.keep k (fun b hb e=>by omega) (fun _ h=>h),s.rin.keep k (fun b e=>by omega),s.rq.keep k (fun b hb e=>by omega) (fun _ h=>h),s.lt⟩
theorem WanM.yes (s:WanM w fs i n vd v wr H f rv dv h rv1 wx){x:Int}(h3:V3 x)(hh:x=1→h.recs=f.1.recs∧Jn f (h,f.2.1)):WanR w fs i n vd v wr.heap.size H f rv dv x wx:=
 ⟨h3,s.st,s.file,s.datq,fun e=>⟨h,rv1,s.hd,by rw[(hh e).1];exact s.rqw,(hh e).2⟩⟩
theorem WanM.no (s:WanM w fs i n vd v wr H f rv dv h rv1 wx){x:Int}(h3:V3 x)(hx:x≠1):WanR w fs i n vd v wr.heap.size H f rv dv x wx:=s.yes h3 (fun e=>absurd e hx)
end
theorem Yr {f:Bt}(ht:f.1.typ=103)(hd:f.2.1=[])(hg:GlobAll f.1):Jn f (f.1,f.2.1):=.inl ⟨ht,by rw[hd],hd,hg⟩
set_option maxHeartbeats 25600000 in
theorem Ys (w:World)(fv:Value)(fs:List Bt)(hfs:IFilesAt w w.heap.size fv fs)(hok:∀f∈fs,IFileOk f)(hfl:fs.length≤1048576) :
  Calls Tryz.prog 35 #[fv] w fun e w'=>Hid (Yq w fs e w'):=by
 obtain⟨A,c,rfl⟩:=hfs.shape;have HFS:=hid hfs;have HOK:=hid hok;have LP:Hid (WanSt w fs 0 0 1 (.slice none 0 0) w):=WanSt.start w fs;clear hfs hok;go_enter Tryz.func35,Tryz.ntmps35
 go_wp2_with fail
 go_loopg [4,5,6,8,9,10,13] fs.length (fun g s4 s5 s6 s8 s9 s10 s13 wr=>∃(i n:Nat) (vd:Int),i+g=fs.length∧s13=.int .i64 i∧s5=.int .i64 n∧s6=.int .i64 vd∧Hid (WanSt w fs i n vd s4 wr))
 case atStart=>exact⟨0,0,1,by omega,rfl,rfl,rfl,LP⟩
 case round=>
  clear LP;obtain⟨i,n,vd,hi,rfl,rfl,rfl,hst⟩:=hrel;by_cases hlt:i<fs.length
  ·obtain⟨f,hf⟩:∃f,fs[i]?=some f:=⟨_,List.getElem?_eq_getElem hlt⟩;have hfr:IFilesAt wr w.heap.size (.slice A fs.length c) fs:=HFS.out.keep hst.out.kp (fun _ h=>h.elim);obtain⟨b,o,c',hA,hbC,hat⟩:=hfr.get hf;(injection hA with hA1 hA2 hA3);subst hA1 hA3;have hfi:IFileOk f:=HOK.out f (List.mem_of_getElem? hf);obtain⟨rv,dv,hrg,hra,hda⟩:=hat;obtain⟨Ad,cd,rfl⟩:=hda.shape;obtain⟨dl,hdl⟩:∃dl,f.2.1.length=dl:=⟨_,rfl⟩;rw[hdl] at hrg hda;have HDL:=hid hdl;have hone:((Cf f.1 rv (.slice Ad dl cd) f.2.2).toArray.all fun x=>x.oneCell')=true:=by
    obtain⟨Ar,cr,hr1⟩:=hra.shape;subst hr1;simp[Cf,Bu,Ha,B5,Value.oneCell']
   (have hi1:(0:Int)≤(i:Int):=by omega);(have hi2:(i:Int)<(fs.length:Int):=by omega);have HRG:=hid hrg;have HRA:=hid hra;have HDA:=hid hda;have HFI:=hid hfi;have HF:=hid hf;clear hA2 hfr hrg hra hda hfi hf hdl;(go_upto_region 5 with fail);(go_step;go_step;go_step;go_step;refine wpList_load_mid rfl 29 (.tmp 15) rfl b (o+i*23) rfl (Cf f.1 rv (.slice Ad dl cd) f.2.2) _ HRG.out Tryz.underlying29 rfl (by kernel_rfl) ?_);(go_step;go_step;go_step;refine wpList_store_row rfl 29 (.tmp 8) (.tmp 16) rfl wr.heap.size (Cf f.1 rv (.slice Ad dl cd) f.2.2).toArray rfl rfl 29 _ (Ba wr _) (by kernel_rfl) (by rfl) hone ?_);(go_upto_region 6 with fail);refine Gv ?_;intro wB gB kB sB;have hF:w.heap.size≤wr.heap.size:=hst.out.kp.size;have GB:=hid gB;have HRB:Hid (RecsAt wB w.heap.size rv f.1.recs):=HRA.out.keep kB (fun _ h=>h.elim);have HDB:Hid (DataQ wB (fun b=>b<w.heap.size) (.slice Ad dl cd) f.2.1):=HDA.out.keep kB (fun _ _ h=>h) (fun _ h=>h);have hRGB:Hid (wB.rangeAt wr.heap.size 0 (Bu f.1 rv)):=by
    intro j v hv;rw[Nat.zero_add];exact cell_of GB.out j (by rw[List.getElem?_toArray];unfold Cf;rw[List.getElem?_append_left (List.getElem?_eq_some_iff.1 hv).1];exact hv)
   (have HPL:=hid (Qz wB w.heap.size f.1 rv HRB.out (by have h1:=HFI.out.wt;have h2:=Ki f.1.recs;rw[C9] at h1;omega)));have MK:Hid (∀w1 rv1 wC H,Kp (fun _=>False) wB w1→OwnR 136 w1 wB.heap.size rv1 f.1.recs→w1.heap.size=H→Kp (fun _=>False) w1 wC→wC.heap[H]?=some (.cells (Bd f.1 rv1).toArray 45 (0,0))→WanM w fs i n vd u4 wr H f rv (.slice Ad dl cd) f.1 rv1 wC):=by
    show ∀w1,_;rintro w1 rv1 wC H k1 ho rfl kC gC;have kt:=(kB.trans k1).trans kC;have s1:=k1.size;(refine⟨hst.out,kt.mono (fun _ _ h=>h.elim),(k1.trans kC).heap GB.out (fun h=>h),gC,HDB.out.keep (k1.trans kC) (fun _ _ h=>h) (fun _ h=>h),HRB.out.keep (k1.trans kC) (fun _ h=>h.elim),?_,by omega⟩);exact(Bc0 (Q:=fun b=>wr.heap.size<b∧b<w1.heap.size) ho.at_ ho.cap (fun b o c e=>by have:=ho.block (b:=b) (by rw[e];rfl);omega)).keep kC (fun _ _ h=>h) (fun _ h=>h)
   clear gB kB hst HRG HRA HDA hone GB HRB HDB;(go_step;go_step;go_step;go_step;refine wpList_load_mid rfl 26 (.tmp 17) rfl wr.heap.size 0 rfl (Bu f.1 rv) _ hRGB.out Tryz.underlying26 rfl (by kernel_rfl) ?_);(go_wp2_with fail);refine HPL.out.mono ?_;rintro e w1 ⟨⟨rv1,rfl,ho1⟩,k1⟩;have hone1:=Dx (h:=f.1) ho1.out.one;have MK2:=fun wC H=>hid (MK.out w1 rv1 wC H k1 ho1.out);clear HPL k1 hRGB MK ho1;dsimp only;rename_i K hK;refine hK _ _ ?_;clear hK;(go_step;go_step;go_step;refine wpList_store_row rfl 45 (.tmp 9) (.tmp 19) rfl w1.heap.size (Bd f.1 rv1).toArray rfl rfl 45 _ (Ba w1 _) (by kernel_rfl) (by rfl) hone1 ?_);(go_upto_region 7 with fail);refine Gv ?_;intro wC gC kC sC;have MC:Hid (WanM w fs i n vd u4 wr w1.heap.size f rv (.slice Ad dl cd) f.1 rv1 wC):=(MK2 wC w1.heap.size).out rfl kC gC;obtain⟨bt,ebt⟩:∃b,((f.1.typ.toNat:Int)==103)=b:=⟨_,rfl⟩;have c0:wC.cell? ⟨w1.heap.size,0,none⟩=some (.int .u8 (f.1.typ.toNat:Int)):=cell_of gC 0 rfl;clear gC kC sC MK2 hone1;generalize w1.heap.size=H at MC c0 ⊢;(go_upto_if 22 with fail);(try simp only[Act.put]);go_cut [10] from 23 to 61 (fun s10 wx=>∃x:Int,s10=.int .i64 x∧Hid (WanR w fs i n vd u4 wr.heap.size H f rv (.slice Ad dl cd) x wx))
   case first=>
    cases bt with
    |true=>
     (have ht:f.1.typ=103:=UInt8.toNat_inj.1 (by show f.1.typ.toNat=103;have:=ebt;simp at this;omega));have RGC:Hid (wC.rangeAt wr.heap.size 0 (Bu f.1 rv)):=MC.out.range;(have HGL:=hid (Yp wC w.heap.size f.1 rv ht MC.out.rin (by have h1:=HFI.out.wt;rw[C9] at h1;omega)));have HT:=hid ht;clear ht;(go_upto_region 8 with fail);(go_step;go_step;go_step;go_step;refine wpList_load_mid rfl 26 (.tmp 23) rfl wr.heap.size 0 rfl (Bu f.1 rv) _ RGC.out Tryz.underlying26 rfl (by kernel_rfl) ?_);(go_wp2_with fail);refine HGL.out.mono ?_;rintro e w2 ⟨hx,k2⟩;obtain⟨v,rfl,hv3,hg⟩:=hx.out;have M2:=hid (MC.out.grow k2);have c21:w2.cell? ⟨wr.heap.size,21,none⟩=some (.slice Ad dl cd):=M2.out.cell21;obtain⟨bl,ebl⟩:∃b,decide (0<dl)=b:=⟨_,rfl⟩;cases bl with
     |true=>
      (have NX:=hid (M2.out.no (x:=0) (.inl rfl) (by decide)));clear MC M2 hx hv3 hg k2 c0 HGL RGC;(go_wp2_with fail);go_meet
      case rel=>exact⟨_,rfl,NX⟩
     |false=>
      (have NX:=hid (M2.out.yes (x:=v) hv3 (fun e=>⟨rfl,Yr HT.out (List.eq_nil_of_length_eq_zero (by have h1:=of_decide_eq_false ebl;have h2:=HDL.out;omega)) (hg e)⟩)));clear MC M2 hx hv3 hg k2 c0 HGL RGC;(go_wp2_with fail);go_meet
      case rel=>exact⟨_,rfl,NX⟩
    |false=>
     (have ht:f.1.typ≠103:=fun e=>by rw[e] at ebt;exact absurd ebt (by decide));have HT:=hid ht;(have HCH:=hid (Yo wC f.1 rv1 MC.out.recsAt (by have:=HFI.out.wt;omega)));have hone2:=hid (fun q=>Dx (h:=q) MC.out.rqw.one);clear ht;(go_upto_region 11 with fail);(go_step;refine wpList_load_row rfl 45 (.tmp 9) rfl H rfl 45 (Bd f.1 rv1).toArray (0,0) _ MC.out.hd Tryz.underlying45 rfl (by kernel_rfl) ?_);(go_wp2_with fail);refine HCH.out.mono ?_;rintro e w2 ⟨hx,k2⟩;obtain⟨h',v,rfl,hv3,hch⟩:=hx.out;have M2:=hid (MC.out.grow k2);clear MC c0 HCH k2 hx;dsimp only;rename_i K hK;refine hK _ _ ?_;clear hK;(go_step;go_step;go_step;go_step;go_step;go_step;go_step;go_step;go_step;refine wpList_store_row rfl 45 (.tmp 9) (.tmp 33) rfl H (Bd h' rv1).toArray rfl rfl 45 _ M2.out.hd (by kernel_rfl) (by rfl) (hone2.out h') ?_);have M3:=hid (M2.out.put h');clear M2;rcases hv3 with e|e|e
     ·subst e;(have NX:=hid (M3.out.no (x:=0) (.inl rfl) (by decide)));clear M3 hch HT;(go_wp2_with fail);go_meet
      case rel=>exact⟨_,rfl,NX⟩
     ·subst e;have CH:=hid (hch rfl);have d0:(w2.setRow H (Bd h' rv1).toArray).cell? ⟨H,0,none⟩=some (.int .u8 (h'.typ.toNat:Int)):=cell_of M3.out.hd 0 rfl;have d3:(w2.setRow H (Bd h' rv1).toArray).cell? ⟨H,3,none⟩=some (.int .i64 h'.size):=cell_of M3.out.hd 3 rfl;have c21:=M3.out.cell21;have HHD:=fun W=>hid (H9 W h'.typ);have YES:Hid (V8 h'.typ h'.size f.2.1→Hid (WanR w fs i n vd u4 wr.heap.size H f rv (.slice Ad dl cd) 1 (w2.setRow H (Bd h' rv1).toArray))):=fun hd=>M3.out.yes (.inr (.inl rfl)) (fun _=>⟨CH.out.recs, .inr ⟨HT.out,rfl,CH.out,hd⟩⟩);(have NO:Hid (Hid (WanR w fs i n vd u4 wr.heap.size H f rv (.slice Ad dl cd) 0 (w2.setRow H (Bd h' rv1).toArray))):=M3.out.no (.inl rfl) (by decide));clear M3 hch HT CH;generalize w2.setRow H (Bd h' rv1).toArray=w3 at d0 d3 c21 YES NO ⊢;obtain⟨bd,hbd⟩:∃b,B8 h'.typ=b:=⟨_,rfl⟩;rw[hbd] at HHD;have DOK:Hid (V8 h'.typ h'.size f.2.1=if bd then (dl:Int)=h'.size else f.2.1=[]):=by
       show _=_;unfold V8;rw[hbd,HDL.out]
      rw[DOK.out] at YES;clear hbd DOK;cases bd with
      |true=>
       obtain⟨bs,ebs⟩:∃b,((dl:Int) != h'.size)=b:=⟨_,rfl⟩;(go_wp2_with fail);refine(HHD w3).out.mono ?_;rintro e w4 ⟨rfl,rfl⟩;cases bs with
       |true=>
        have NX:=NO.out;clear YES NO;(go_wp2_with fail);go_meet
        case rel=>exact⟨_,rfl,NX⟩
       |false=>
        (have NX:=YES.out (by have:=ebs;simpa using this));clear YES NO;(go_wp2_with fail);refine(HHD w4).out.mono ?_;rintro e w5 ⟨rfl,rfl⟩;(go_wp2_with fail);go_meet
        case rel=>exact⟨_,rfl,NX⟩
      |false=>
       obtain⟨bs,ebs⟩:∃b,decide (0<dl)=b:=⟨_,rfl⟩;(go_wp2_with fail);refine(HHD w3).out.mono ?_;rintro e w4 ⟨rfl,rfl⟩;(go_wp2_with fail);refine(HHD w4).out.mono ?_;rintro e w5 ⟨rfl,rfl⟩;cases bs with
       |true=>
        have NX:=NO.out;clear YES NO;(go_wp2_with fail);go_meet
        case rel=>exact⟨_,rfl,NX⟩
       |false=>
        (have NX:=YES.out (List.eq_nil_of_length_eq_zero (by have h1:=of_decide_eq_false ebs;have h2:=HDL.out;omega)));clear YES NO;(go_wp2_with fail);go_meet
        case rel=>exact⟨_,rfl,NX⟩
     ·subst e;(have NX:=hid (M3.out.no (x:=2) (.inr (.inr rfl)) (by decide)));clear M3 hch HT;(go_wp2_with fail);go_meet
      case rel=>exact⟨_,rfl,NX⟩
   case rest=>
   obtain⟨x,rfl,hR⟩:=hcut;obtain⟨b3,e3⟩:∃b,(x != 1)=b:=⟨_,rfl⟩;cases b3 with
   |true=>
    (have FINX:Hid (Yq w fs (.returned (.tuple #[.slice none 0 0, .int .i64 x])) wc):=⟨_,x,rfl,hR.out.v3,fun e=>(by rw[e] at e3;exact absurd e3 (by decide)),hR.out.st.kp⟩);clear hR MC c0;(go_wp2_with fail);(go_ret2);exact FINX.out
   |false=>
    (have hx1:x=1:=by simpa using e3);obtain⟨g,rvg,hrg,hrq,hwo⟩:=hR.out.ok hx1;have hgd:g.recs=g.recs:=rfl;have cd1:wc.cell? ⟨wr.heap.size,21,none⟩=some (.slice Ad dl cd):=cell_of hR.out.file 21 rfl;(obtain⟨m,hm⟩:∃m:Nat,(n:Int)+(dl:Int)=(m:Int):=⟨n+dl,by omega⟩);(have hnb:n≤1125899906842624:=by have h1:=hR.out.st.le;omega);(have hdb:dl≤1073741824:=by have h1:=HFI.out.dl;have h2:=HDL.out;omega);obtain⟨bo,ebo⟩:∃b,decide ((1048576:Int)<(m:Int))=b:=⟨_,rfl⟩;have PU:Hid (∃v3 w3,(Builtin.append_ #[32,32] 32 #[u4, .slice (some ⟨wc.heap.size,0,none⟩) 1 1]).run Tryz.prog (wc.alloc (.cells (Bd g rvg++[Value.slice Ad dl cd]).toArray 47))=.ok v3 w3∧Hid (WanSt w fs (i+1) m (if bo then 0 else vd) v3 w3)):=by
     (have e1:n+f.2.1.length=m:=by have h2:=HDL.out;omega);obtain⟨v3,w3,p1,p2⟩:=hR.out.st.push (g:=(g,f.2.1)) (rv:=rvg) (dv:=.slice Ad dl cd) (vd':=if bo then 0 else vd) HF.out hfl hwo hrq hR.out.dat HFI.out.dl (by
      cases bo with
      |true=>exact .inr rfl
      |false=>
       refine .inl ⟨rfl,?_⟩;have h1:=of_decide_eq_false ebo;have e1:n+f.2.1.length=m:=e1;show n+f.2.1.length≤_;omega) 32
     refine⟨v3,w3,p1,?_⟩;have e1:n+(g,f.2.1).2.length=m:=e1;rw[e1] at p2;exact p2
    obtain⟨Ag,cg,erv⟩:=(hrq.at_ (B:=wc.heap.size) (fun b h=>h.1)).shape;rw[erv] at hrg PU;have HB:=fun W=>V9 W g Ag g.recs.length cg Ad dl cd;have HS:=fun W=>Bdb W g (.slice Ag g.recs.length cg) (.slice Ad dl cd);obtain⟨cs,hcs⟩:∃cs:Array Value,(Bd g (.slice Ag g.recs.length cg)).toArray=cs:=⟨_,rfl⟩;obtain⟨row,hrow⟩:∃row:Array Value,(Bd g (.slice Ag g.recs.length cg)++[Value.slice Ad dl cd]).toArray=row:=⟨_,rfl⟩;(have hsz:(Tryz.prog.info? 45).map (·.size)=some cs.size:=by rw[←hcs];kernel_rfl);rw[hcs] at hrg HB;rw[hrow] at HB HS PU;have HSZ:=hid hsz;have HRG2:=hid hrg;clear hcs hrow hsz erv;clear hrg hrq hwo hgd hR MC c0 HF HFI;obtain⟨v3,w3,hr3,NX⟩:=PU.out;have HR3:=hid hr3;clear PU hr3;cases bo with
    |true=>
     (go_upto_region 19 with fail);go_step;go_step;go_step;go_step;refine wpList_load_row rfl 45 (.tmp 9) rfl H rfl 45 cs (0,0) _ HRG2.out Tryz.underlying45 rfl HSZ.out ?_;go_step;go_step;go_step;go_step;go_step;go_step;refine Hk rfl 47 #[(0, .tmp 73),(1, .tmp 75)] rfl #[(0, .agg cs),(1, .slice Ad dl cd)] ?_ (.agg row) (HB _) ?_
     ·kernel_rfl
     refine Gw rfl 32 1 #[(0, .tmp 76)] rfl #[(0, .agg row)] ?_ (.slice (some ⟨wc.heap.size,0,none⟩) 1 1) (HS _) ?_
     ·kernel_rfl
     refine Lib.wpList_append_run _ rfl _ _ _ _ rfl _ _ rfl rfl _ _ HR3.out ?_;(go_wp2_with fail);go_roundg (gk-1)
     case measure=>omega
     case rel=>exact⟨i+1,m,_,by omega,by simp,rfl,rfl,NX⟩
    |false=>
     (go_upto_region 19 with fail);go_step;go_step;go_step;go_step;refine wpList_load_row rfl 45 (.tmp 9) rfl H rfl 45 cs (0,0) _ HRG2.out Tryz.underlying45 rfl HSZ.out ?_;go_step;go_step;go_step;go_step;go_step;go_step;refine Hk rfl 47 #[(0, .tmp 73),(1, .tmp 75)] rfl #[(0, .agg cs),(1, .slice Ad dl cd)] ?_ (.agg row) (HB _) ?_
     ·kernel_rfl
     refine Gw rfl 32 1 #[(0, .tmp 76)] rfl #[(0, .agg row)] ?_ (.slice (some ⟨wc.heap.size,0,none⟩) 1 1) (HS _) ?_
     ·kernel_rfl
     refine Lib.wpList_append_run _ rfl _ _ _ _ rfl _ _ rfl rfl _ _ HR3.out ?_;(go_wp2_with fail);go_roundg (gk-1)
     case measure=>omega
     case rel=>exact⟨i+1,m,_,by omega,by simp,rfl,rfl,NX⟩
  ·(obtain rfl:i=fs.length:=by omega);have FIN:∀v,v=u4→Hid (Yq w fs (.returned (.tuple #[v, .int .i64 vd])) wr):=by
    rintro v rfl;obtain⟨out,h1,h2,h3⟩:=hst.out.own;rw[List.take_length] at h2;refine⟨_,vd,rfl,?_,fun e=>⟨out,h1.filesAt (fun b hb=>hb.1) (Nat.le_refl _),h2,?_⟩,hst.out.kp⟩
    ·rcases hst.out.vd with ⟨e,_⟩|e
     ·exact .inr (.inl e)
     ·exact .inl e
    ·rcases hst.out.vd with ⟨_,h⟩|e2
     ·omega
     ·rw[e2] at e;exact absurd e (by decide)
   have FINH:=hid FIN;clear FIN hst;(go_wp2_with fail);(go_ret2);exact FINH.out _ rfl
end
def ToldOk (f:Bt)(g:B4):Prop:=
 (f.1.typ=103∧g=(f.1,[])∧f.2.1=[]∧GlobAll f.1)∨(f.1.typ≠103∧g=(Bq f.1,f.2.1)∧(f.1.fmt=1∨f.1.fmt=2∨f.1.fmt=3)∧CanP (Bq f.1) f.1.fmt∧V8 (Bq f.1).typ (Bq f.1).size f.2.1)
inductive ToldAll:List Bt→List B4→Prop
 |nil:ToldAll [] []
 |cons {f g fs gs} (h:ToldOk f g) (hs:ToldAll fs gs):ToldAll (f::fs) (g::gs)
def Xa (f:Bt):Prop:=f.1.typ≠103→f.1.fmt≠0
theorem Baw {f:Bt}{g:B4}(h:Jn f g)(hn:Xa f):ToldOk f g:=by
 rcases h with h|⟨h1,h2,h3,h4⟩
 ·exact .inl h
 ·have e:=h3.same (hn h1);have h5:=h3.fmt;have h6:=h3.can;obtain⟨gh,gd⟩:=g;simp only at e h2 h5 h6 h4;subst e h2;rw[Do] at h5 h6;exact .inr ⟨h1,rfl,h5,h6,h4⟩
theorem Om:∀ {fs:List Bt} {gs:List B4},WantAll fs gs→(∀f∈fs,Xa f)→ToldAll fs gs
 |_,_, .nil,_=>.nil
 |_,_, .cons h1 h2,hn=>.cons (Baw h1 (hn _ (List.mem_cons_self ..))) (Om h2 (fun f hf=>hn f (List.mem_cons_of_mem _ hf)))
theorem ToldOk.fileP {f:Bt}{g:B4}(h:ToldOk f g):Qm g:=by
 rcases h with ⟨h1,rfl,h3,h4⟩|⟨h1,rfl,h3,h4,h5⟩
 ·exact Yj h4
 ·refine .inr ⟨?_,by rw[Do];exact h3,by rw[Do];exact h4,h5⟩
  intro e;have:=h4.typ.2;have e:(Bq f.1).typ=103:=e;rw[e] at this;exact absurd this (by decide)
theorem ToldOk.fileIn {f:Bt}{g:B4}(h:ToldOk f g)(r:Rng f.1)(hd:f.2.1.length≤1073741824):FileIn g:=by
 rcases h with ⟨h1,rfl,h3,h4⟩|⟨h1,rfl,h3,h4,h5⟩
 ·exact V4 h4 r
 ·exact Yi (by rw[Do];exact h4) (by rw[Do];exact h3) r.prom hd
theorem FilesAt.mono {w:World}{B B':Nat}{fv:Value}{fs:List B4}(h:FilesAt w B fv fs)(hB:B≤B'):FilesAt w B' fv fs:=by
 rcases h with h|⟨b,o,c,h1,h2,h3⟩
 ·exact .inl h
 ·refine .inr ⟨b,o,c,h1,Nat.lt_of_lt_of_le h2 hB,fun i f hf=>?_⟩;obtain⟨rv,dv,g1,g2,g3,g4,g5⟩:=h3 i f hf;exact⟨rv,dv,g1,g2.mono hB,g3,fun b o c e hp=>Nat.lt_of_lt_of_le (g4 b o c e hp) hB,g5⟩
theorem Bax {w w':World}{B:Nat}{Q:Nat→Prop}{h:Hd}{rv dv:Value}{n:Int}{l:List UInt8}(hra:RecsAt w B rv h.recs)(hda:DataQ w' Q dv l):((Cf h rv dv n).toArray.all fun x=>x.oneCell')=true:=by
 obtain⟨Ar,cr,hr1⟩:=hra.shape;have hd1:=hda.one;subst hr1;simp[Cf,Bu,Ha,B5,Value.oneCell'];exact hd1
def TolEnd (w:World)(fs:List Bt)(e:Ending)(w':World):Prop:=
 ∃v b,e=.returned (.tuple #[v, .bool b])∧(b=true→∃out,FilesAt w' w'.heap.size v out∧ToldAll fs out∧He out≤1048576)∧Kp (fun _=>False) w w'
theorem TolEnd.no {w w':World}{fs:List Bt}(v:Value)(k:Kp (fun _=>False) w w'):TolEnd w fs (.returned (.tuple #[v, .bool false])) w':=⟨v,false,rfl,(fun e=>by cases e),k⟩
theorem Bfj {t:UInt8}{b:Bool}(e:((t.toNat:Int) != 103)=b):b=true↔t≠103:=by
 subst e;rw[bne_iff_ne];constructor
 ·intro h e;exact h (by rw[e];rfl)
 ·intro h e;exact h (UInt8.toNat_inj.1 (by show t.toNat=103;omega))
set_option maxHeartbeats 6400000 in
theorem Bf9 (w:World)(fv:Value)(fs:List Bt)(hfs:IFilesAt w w.heap.size fv fs)(hok:∀f∈fs,IFileOk f)(hfl:fs.length≤1048576) :
  Calls Tryz.prog 15 #[fv] w fun e w'=>Hid (TolEnd w fs e w'):=by
 obtain⟨A,c,rfl⟩:=hfs.shape;have HW:=hid (Ys w _ fs hfs hok hfl);have HFS:=hid hfs;clear hfs hok;go_enter Tryz.func15,Tryz.ntmps15
 go_wp2_with fail
 refine HW.out.mono ?_;rintro e w1 hx;obtain⟨v,vd,rfl,hv3,hwa,k1⟩:=hx.out;have HWA:=hid hwa;have HV3:=hid hv3;have LP:Hid ((∀f∈fs.take 0,Xa f)∧Kp (fun _=>False) w1 w1):=⟨(fun f hf=>by rw[sE] at hf;cases hf),Kp.refl _ _⟩
 have K1:=hid k1;clear hx hwa hv3 k1 HW;go_wp2_with fail
 go_loopg [7,15] fs.length (fun g s7 s15 wr=>∃(i:Nat),i+g=fs.length∧s15=.int .i64 i∧Hid ((∀f∈fs.take i,Xa f)∧Kp (fun _=>False) w1 wr))
 case atStart=>exact⟨0,by omega,rfl,LP⟩
 case round=>
  clear LP;obtain⟨i,hi,rfl,hst⟩:=hrel;by_cases hlt:i<fs.length
  ·obtain⟨f,hf⟩:∃f,fs[i]?=some f:=⟨_,List.getElem?_eq_getElem hlt⟩;have hfr:IFilesAt wr w.heap.size (.slice A fs.length c) fs:=HFS.out.keep (K1.out.trans hst.out.2) (fun _ h=>h.elim);obtain⟨b,o,c',hA,hbC,hat⟩:=hfr.get hf;(injection hA with hA1 hA2 hA3);subst hA1 hA3;obtain⟨rv,dv,hrg,hra,hda⟩:=hat;have hone:((Cf f.1 rv dv f.2.2).toArray.all fun x=>x.oneCell')=true:=Bax hra hda;have htk:fs.take (i+1)=fs.take i++[f]:=by
    rw[List.take_succ_eq_append_getElem hlt];rw[List.getElem?_eq_getElem hlt] at hf;(injection hf with hf);rw[hf]
   (have hi1:(0:Int)≤(i:Int):=by omega);(have hi2:(i:Int)<(fs.length:Int):=by omega);have HRG:=hid hrg;have HTK:=hid htk;clear hA2 hfr hrg hra hda hf htk;(go_upto_region 4 with fail);(go_step;go_step;go_step;go_step;refine wpList_load_mid rfl 29 (.tmp 17) rfl b (o+i*23) rfl (Cf f.1 rv dv f.2.2) _ HRG.out Tryz.underlying29 rfl (by kernel_rfl) ?_);(go_step;go_step;go_step;refine wpList_store_row rfl 29 (.tmp 7) (.tmp 18) rfl wr.heap.size (Cf f.1 rv dv f.2.2).toArray rfl rfl 29 _ (Ba wr _) (by kernel_rfl) (by rfl) hone ?_);(go_upto_region 5 with fail);refine Gv ?_;intro wB gB kB sB;have c0:wB.cell? ⟨wr.heap.size,0,none⟩=some (.int .u8 (f.1.typ.toNat:Int)):=cell_of gB 0 rfl;have c20:wB.cell? ⟨wr.heap.size,20,none⟩=some (.int .i64 f.1.fmt):=cell_of gB 20 rfl;have KB:=hid (hst.out.2.trans kB);have HN:=hid hst.out.1;generalize wr.heap.size=F at c0 c20 ⊢;clear gB kB sB HRG hone hst;obtain⟨b1,e1⟩:∃b,((f.1.typ.toNat:Int) != 103)=b:=⟨_,rfl⟩;obtain⟨b2,e2⟩:∃b,(f.1.fmt==0)=b:=⟨_,rfl⟩;have NX:Hid ((b1=false∨b2=false)→Hid ((∀f∈fs.take (i+1),Xa f)∧Kp (fun _=>False) w1 wB)):=by
    show _→_;intro hb;refine⟨fun g hg=>?_,KB.out⟩;rw[HTK.out] at hg;rcases List.mem_append.1 hg with hg|hg
    ·exact HN.out g hg
    ·rw[List.mem_singleton] at hg;subst hg;intro ht h0;have h1:=(Bfj e1).2 ht;(have h2:b2=true:=by rw[←e2,h0];rfl);rcases hb with hb|hb
     ·rw[hb] at h1;cases h1
     ·rw[hb] at h2;cases h2
   cases b1 with
   |true=>
    cases b2 with
    |true=>
     (go_wp2_with fail);(go_ret2);exact TolEnd.no _ (K1.out.trans KB.out)
    |false=>
     have NY:=NX.out (.inr rfl);clear NX;(go_wp2_with fail);go_roundg (gk-1)
     case measure=>omega
     case rel=>exact⟨i+1,by omega,by simp,NY⟩
   |false=>
    have NY:=NX.out (.inl rfl);clear NX;(go_wp2_with fail);go_roundg (gk-1)
    case measure=>omega
    case rel=>exact⟨i+1,by omega,by simp,NY⟩
  ·(obtain rfl:i=fs.length:=by omega);obtain⟨b3,e3⟩:∃b,(vd==1)=b:=⟨_,rfl⟩;have FIN:Hid (TolEnd w fs (.returned (.tuple #[v, .bool b3])) wr):=by
    have hn:=hst.out.1;rw[List.take_length] at hn;refine⟨v,b3,rfl,fun e=>?_,K1.out.trans hst.out.2⟩;subst e;(obtain⟨out,h1,h2,h3⟩:=HWA.out (by simpa using e3));exact⟨out,(h1.keep hst.out.2 (fun _ h=>h.elim)).mono hst.out.2.size,Om h2 hn,h3⟩
   clear hst HFS HWA;(go_wp2_with fail);(go_ret2);exact FIN.out
end Go.Proofs.YtgfcnjfmmjcodaaGreatDoor
