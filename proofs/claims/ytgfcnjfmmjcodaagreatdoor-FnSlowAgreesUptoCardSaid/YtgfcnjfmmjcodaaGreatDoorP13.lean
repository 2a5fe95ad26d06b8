/- readHeader at a good block of GNU's format. -/
import Derived.Test.YtgfcnjfmmjcodaaGreatDoorP05
set_option linter.all false
set_option maxRecDepth 100000
set_option maxHeartbeats 1000000
open Go.Lib (hid)
namespace Go.Proofs.YtgfcnjfmmjcodaaGreatDoor
open Go.RowKit
def GT (l:List UInt8)(o:Nat):Option Int→Prop
 |none=>l[o]?=some 0
 |some a=>Dp (fld l o 12) a∧(∃x,l[o]?=some x∧x≠0)∧ -100000000000000001≤a∧a≤100000000000000001
def gtv:Option Int→Int
 |none=>0
 |some a=>a+62135596800
set_option maxHeartbeats 4000000 in
theorem K5 {E:Nat→Addr}{B:Nat}{T:TypeId}{v:Value}{S:Nat→Prop}{inv:World→Nat→List UInt8→Prop}(hR:IsRd E B T v S inv)
  (w:World) (R:Nat) (pad:Int) (curr:Value) (blk:List Value) (err:Value) (rest:List UInt8) (hi:RhIn E B T v S inv R pad curr blk err rest w)
  (hs:512≤rest.length) (hz:(rest.take 512==zblk)=false) (n:Nat) (tf:UInt8) (size mode uid gid mt maj min:Int) (hh:HdBlk (rest.take 512) n tf size mode uid gid mt maj min) (hf:Ld (rest.take 512)=8)
  (ga gc:Option Int) (hga:GT (rest.take 512) 345 ga) (hgc:GT (rest.take 512) 357 gc) :
  Calls Tryz.prog 127 #[.pointer (some ⟨R,0,none⟩)] w (Rr E B T v S inv R pad curr (rest.take 512) err (rest.drop 512) w (Ek tf.toNat (textOf (fld (rest.take 512) 0 100)) (textOf (fld (rest.take 512) 157 100)) size mode uid gid (textOf (fld (rest.take 512) 265 32)) (textOf (fld (rest.take 512) 297 32)) mt 0 (gtv ga) 0 (gtv gc) maj min)):=by
 have c0:w.cell? ⟨R,0,none⟩=some (.iface T v):=cell_of hi.row 0 rfl;have HI:=hid hi;clear hi;have hrf:Da E 512 rest.length=.nilIface:=by rw[Da,if_pos hs]
 have HE:=hid hrf;have htl:(rest.take 512).length=512:=by rw[List.length_take];omega
 have HF:=fun w1 hb hlt=>hh.sum.elim fun ho=>hid (Hr w1 R 3 n (rest.take 512) hb htl hlt ho hh.good);rw[hf] at HF;have HL:=hid htl;have HZ:=hid hz;have HH:=hid hh;obtain⟨l,hl⟩:∃l,rest.take 512=l:=⟨_,rfl⟩;have HR:=hid hl;rw[hl];rw[hl] at HF HL HZ HH hga hgc;have HGA:=hid hga;have HGC:=hid hgc;clear hga hgc;have htf:=HH.out.typ;have HTF:=hid htf;have htl:=tf.toNat_lt;clear hrf hs hz hh hl hf htf;go_enter Tryz.func127,Tryz.ntmps127
 go_wp2_with fail
 refine Bh [8] (by kernel_rfl) ?_
 simp only[Ce,sD,sE,sF,sG];repeat still_step
 refine wpStill_nil ?_;go_wp2_with fail
 refine(HI.out.full hR).mono ?_;rintro e w1 ⟨rfl,hk1,hi1⟩;rw[D5 _ _ (by rw[Bi,HI.out.blen,HR.out,HL.out]),HR.out] at hi1
 rw[HE.out];have hB1:BytesAt w1 R 3 l:=hi1.bytes;have hB2:BytesAt (w1.alloc (.cells Tryz.zeroCells156 156)).drew R 3 l:=hB1.keep ((Kp.refl (fun _=>False) _).alloc _).drew (fun h=>h);have HB2:=hid hB2;clear hB1 hB2 c0;go_wp2_with fail
 repeat still_step
 refine wpStill_nil ?_;go_wp2_with fail
 go_region_with (go_at_call 203;refine(Gk _ _ _ _ HB2.out HL.out (D4 _)).mono ?_;rintro e w2 ⟨rfl,rfl⟩;rw[HZ.out])
 have hi1k:=hi1.keep hR ((Kp.refl (fun _=>False) _).alloc (.cells Tryz.zeroCells156 156)).drew;have hk1k:=(hk1.alloc (.cells Tryz.zeroCells156 156)).drew;have HI2:=hid hi1k;have HK1:=hid hk1k;have hB3:=HB2.out;generalize (w1.alloc (.cells Tryz.zeroCells156 156)).drew=w2 at HI2 HK1 hB3 ⊢;clear hi1 hk1 hi1k hk1k HB2;go_wp2_with fail
 refine(HF w2 hB3 (Bv HI2.out.row)).out.mono ?_;rintro e w3 ⟨rfl,hk3⟩;have ST:=hid (RhSt.start hB3 hk3 (Bv HI2.out.row));clear hB3;go_wp2_with fail
 generalize (w3.alloc (.cells #[.nilIface] 236)).alloc (.cells #[.int .u8 0, .string ⟨#[]⟩, .string ⟨#[]⟩, .int .i64 0, .int .i64 0, .int .i64 0, .int .i64 0, .string ⟨#[]⟩, .string ⟨#[]⟩, .int .u64 0, .int .i64 0, .int .u64 0, .int .i64 0, .int .u64 0, .int .i64 0, .int .i64 0, .int .i64 0, .map none, .map none, .int .i64 0] 167)=wk at ST ⊢;refine(Ju _ _).mono ?_;rintro e wn ⟨rfl,rfl⟩;go_wp2_with fail
 refine(Js _ _ _).mono ?_;rintro e wk ⟨rfl,rfl⟩;have ct:=ST.out.bytes 156 (ub tf) (by rw[Cy,HTF.out];rfl)
 have cc:=cell_of ST.out.row 0 rfl;have zz:=Bb ST.out.row 0;have STn:=hid (ST.out.set 0 (.int .u8 (tf.toNat:Int)));unfold ub at ct;clear ST;go_wp2_with fail
 generalize World.setCell wk ⟨w3.heap.size+1,0,none⟩ (.int .u8 (tf.toNat:Int))=wn at STn ⊢;clear cc zz ct;obtain⟨ST⟩:Nonempty (type_of% STn):=⟨STn⟩;clear STn;refine(U0 _ _ _).mono ?_;rintro e wk ⟨rfl,rfl⟩;go_wp2_with fail
 refine(Jx ST.out.bytes 0 100 _ _ _ rfl (by rw[HL.out];decide) (by decide) (by decide)).mono ?_
 rintro e wk ⟨rfl,rfl⟩;have cc:=cell_of ST.out.row 1 rfl;have zz:=Bb ST.out.row 1;have STn:=hid (ST.out.set 1 (.string ⟨(textOf (fld l 0 100)).toArray⟩));go_wp2_with fail
 generalize World.setCell wk ⟨w3.heap.size+1,1,none⟩ (.string ⟨(textOf (fld l 0 100)).toArray⟩)=wn at STn ⊢;clear cc zz ST;obtain⟨ST⟩:Nonempty (type_of% STn):=⟨STn⟩;clear STn;refine(Jr _ _ _).mono ?_;rintro e wk ⟨rfl,rfl⟩;go_wp2_with fail
 refine(Jx ST.out.bytes 157 100 _ _ _ rfl (by rw[HL.out];decide) (by decide) (by decide)).mono ?_
 rintro e wk ⟨rfl,rfl⟩;have cc:=cell_of ST.out.row 2 rfl;have zz:=Bb ST.out.row 2;have STn:=hid (ST.out.set 2 (.string ⟨(textOf (fld l 157 100)).toArray⟩));go_wp2_with fail
 generalize World.setCell wk ⟨w3.heap.size+1,2,none⟩ (.string ⟨(textOf (fld l 157 100)).toArray⟩)=wn at STn ⊢;clear cc zz ST;obtain⟨ST⟩:Nonempty (type_of% STn):=⟨STn⟩;clear STn;refine(Ml _ _ _).mono ?_;rintro e wk ⟨rfl,rfl⟩;go_wp2_with fail
 refine(Ec ST.out.bytes ST.out.lt 124 12 _ _ size _ HH.out.n_size rfl (by rw[HL.out];decide) (by decide) (by decide) (by decide)).mono ?_
 rintro e wk ⟨rfl,hk4⟩;have STk:=hid (ST.out.step hk4);clear ST hk4;have cc:=cell_of STk.out.row 3 rfl;have zz:=Bb STk.out.row 3;have STn:=hid (STk.out.set 3 (.int .i64 size));clear STk;go_wp2_with fail
 generalize World.setCell wk ⟨w3.heap.size+1,3,none⟩ (.int .i64 size)=wn at STn ⊢;clear cc zz;obtain⟨ST⟩:Nonempty (type_of% STn):=⟨STn⟩;clear STn;refine(Mk _ _ _).mono ?_;rintro e wk ⟨rfl,rfl⟩;go_wp2_with fail
 refine(Ec ST.out.bytes ST.out.lt 100 8 _ _ mode _ HH.out.n_mode rfl (by rw[HL.out];decide) (by decide) (by decide) (by decide)).mono ?_
 rintro e wk ⟨rfl,hk4⟩;have STk:=hid (ST.out.step hk4);clear ST hk4;have cc:=cell_of STk.out.row 4 rfl;have zz:=Bb STk.out.row 4;have STn:=hid (STk.out.set 4 (.int .i64 mode));clear STk;go_wp2_with fail
 generalize World.setCell wk ⟨w3.heap.size+1,4,none⟩ (.int .i64 mode)=wn at STn ⊢;clear cc zz;obtain⟨ST⟩:Nonempty (type_of% STn):=⟨STn⟩;clear STn;refine(Rl _ _ _).mono ?_;rintro e wk ⟨rfl,rfl⟩;go_wp2_with fail
 refine(Ec ST.out.bytes ST.out.lt 108 8 _ _ uid _ HH.out.n_uid rfl (by rw[HL.out];decide) (by decide) (by decide) (by decide)).mono ?_
 rintro e wk ⟨rfl,hk4⟩;have STk:=hid (ST.out.step hk4);clear ST hk4;have cc:=cell_of STk.out.row 5 rfl;have zz:=Bb STk.out.row 5;have STn:=hid (STk.out.set 5 (.int .i64 uid));clear STk;go_wp2_with fail
 generalize World.setCell wk ⟨w3.heap.size+1,5,none⟩ (.int .i64 uid)=wn at STn ⊢;clear cc zz;obtain⟨ST⟩:Nonempty (type_of% STn):=⟨STn⟩;clear STn;refine(Rm _ _ _).mono ?_;rintro e wk ⟨rfl,rfl⟩;go_wp2_with fail
 refine(Ec ST.out.bytes ST.out.lt 116 8 _ _ gid _ HH.out.n_gid rfl (by rw[HL.out];decide) (by decide) (by decide) (by decide)).mono ?_
 rintro e wk ⟨rfl,hk4⟩;have STk:=hid (ST.out.step hk4);clear ST hk4;have cc:=cell_of STk.out.row 6 rfl;have zz:=Bb STk.out.row 6;have STn:=hid (STk.out.set 6 (.int .i64 gid));clear STk;go_wp2_with fail
 generalize World.setCell wk ⟨w3.heap.size+1,6,none⟩ (.int .i64 gid)=wn at STn ⊢;clear cc zz;obtain⟨ST⟩:Nonempty (type_of% STn):=⟨STn⟩;clear STn;refine(Hq _ _ _).mono ?_;rintro e wk ⟨rfl,rfl⟩;go_wp2_with fail
 refine(Ec ST.out.bytes ST.out.lt 136 12 _ _ mt _ HH.out.n_mt rfl (by rw[HL.out];decide) (by decide) (by decide) (by decide)).mono ?_
 rintro e wk ⟨rfl,hk4⟩;have STk:=hid (ST.out.step hk4);clear ST hk4;go_wp2_with fail
 refine(Hs _ mt HH.out.tmt.1 HH.out.tmt.2).mono ?_;rintro e wj ⟨rfl,hk4⟩;have ST:=hid (STk.out.step hk4);clear STk hk4;have cc:=cell_of ST.out.row 9 rfl;have zz:=Bb ST.out.row 9;have cc2:=cell_of ST.out.row 10 rfl;have zz2:=Bb ST.out.row 10;have STn:=hid ((ST.out.set 9 (.int .u64 0)).set 10 (.int .i64 (mt+62135596800)));clear ST;go_wp2_with fail
 generalize World.setCell (World.setCell wj ⟨w3.heap.size+1,9,none⟩ (.int .u64 0)) ⟨w3.heap.size+1,10,none⟩ (.int .i64 (mt+62135596800))=wn at STn ⊢;clear cc zz cc2 zz2;obtain⟨ST⟩:Nonempty (type_of% STn):=⟨STn⟩;clear STn;refine(Eb _ _).mono ?_;rintro e wk ⟨rfl,rfl⟩;go_wp2_with fail
 refine(Jt _ _ _).mono ?_;rintro e wk ⟨rfl,rfl⟩;go_wp2_with fail
 refine(Jx ST.out.bytes 265 32 _ _ _ rfl (by rw[HL.out];decide) (by decide) (by decide)).mono ?_
 rintro e wk ⟨rfl,rfl⟩;have cc:=cell_of ST.out.row 7 rfl;have zz:=Bb ST.out.row 7;have STn:=hid (ST.out.set 7 (.string ⟨(textOf (fld l 265 32)).toArray⟩));go_wp2_with fail
 generalize World.setCell wk ⟨w3.heap.size+1,7,none⟩ (.string ⟨(textOf (fld l 265 32)).toArray⟩)=wn at STn ⊢;clear cc zz ST;obtain⟨ST⟩:Nonempty (type_of% STn):=⟨STn⟩;clear STn;refine(I2 _ _ _).mono ?_;rintro e wk ⟨rfl,rfl⟩;go_wp2_with fail
 refine(Jx ST.out.bytes 297 32 _ _ _ rfl (by rw[HL.out];decide) (by decide) (by decide)).mono ?_
 rintro e wk ⟨rfl,rfl⟩;have cc:=cell_of ST.out.row 8 rfl;have zz:=Bb ST.out.row 8;have STn:=hid (ST.out.set 8 (.string ⟨(textOf (fld l 297 32)).toArray⟩));go_wp2_with fail
 generalize World.setCell wk ⟨w3.heap.size+1,8,none⟩ (.string ⟨(textOf (fld l 297 32)).toArray⟩)=wn at STn ⊢;clear cc zz ST;obtain⟨ST⟩:Nonempty (type_of% STn):=⟨STn⟩;clear STn;refine(G0 _ _ _).mono ?_;rintro e wk ⟨rfl,rfl⟩;go_wp2_with fail
 refine(Ec ST.out.bytes ST.out.lt 329 8 _ _ maj _ HH.out.n_maj rfl (by rw[HL.out];decide) (by decide) (by decide) (by decide)).mono ?_
 rintro e wk ⟨rfl,hk4⟩;have STk:=hid (ST.out.step hk4);clear ST hk4;have cc:=cell_of STk.out.row 15 rfl;have zz:=Bb STk.out.row 15;have STn:=hid (STk.out.set 15 (.int .i64 maj));clear STk;go_wp2_with fail
 generalize World.setCell wk ⟨w3.heap.size+1,15,none⟩ (.int .i64 maj)=wn at STn ⊢;clear cc zz;obtain⟨ST⟩:Nonempty (type_of% STn):=⟨STn⟩;clear STn;refine(G5 _ _ _).mono ?_;rintro e wk ⟨rfl,rfl⟩;go_wp2_with fail
 refine(Ec ST.out.bytes ST.out.lt 337 8 _ _ min _ HH.out.n_min rfl (by rw[HL.out];decide) (by decide) (by decide) (by decide)).mono ?_
 rintro e wk ⟨rfl,hk4⟩;have STk:=hid (ST.out.step hk4);clear ST hk4;have cc:=cell_of STk.out.row 16 rfl;have zz:=Bb STk.out.row 16;have STn:=hid (STk.out.set 16 (.int .i64 min));clear STk;go_wp2_with fail
 generalize World.setCell wk ⟨w3.heap.size+1,16,none⟩ (.int .i64 min)=wn at STn ⊢;clear cc zz;obtain⟨ST⟩:Nonempty (type_of% STn):=⟨STn⟩;clear STn;refine(Jv _ 8 6).mono ?_;rintro e wk ⟨rfl,rfl⟩;rw[show (bits .and .i64 8 6 != 0)=false from by decide]
 go_wp2_with fail
 refine(Jv _ 8 16).mono ?_;rintro e wk ⟨rfl,rfl⟩;rw[show (bits .and .i64 8 16 != 0)=false from by decide]
 go_wp2_with fail
 refine(Jv _ 8 8).mono ?_;rintro e wk ⟨rfl,rfl⟩;rw[show (bits .and .i64 8 8 != 0)=true from by decide]
 have cc:=cell_of ST.out.row 19 rfl;have zz:=Bb ST.out.row 19;have hszk:=Bv ST.out.row;have STn:=hid ((ST.out.set 19 (.int .i64 8)).step ((Kp.refl (fun _=>False) _).alloc (.cells #[.nilIface] 236)));have hp2:((World.setCell wk ⟨w3.heap.size+1,19,none⟩ (.int .i64 8)).alloc (.cells #[.nilIface] 236)).cell? ⟨wk.heap.size,0,none⟩=some .nilIface:=by
  have:=Ba (World.setCell wk ⟨w3.heap.size+1,19,none⟩ (.int .i64 8)) (.cells #[.nilIface] 236);rw[show (World.setCell wk ⟨w3.heap.size+1,19,none⟩ (.int .i64 8)).heap.size=wk.heap.size by simp[World.setCell]] at this
  exact cell_of this 0 rfl
 have P2:=hid hp2;clear ST hp2;go_wp2_with fail
 generalize (World.setCell wk ⟨w3.heap.size+1,19,none⟩ (.int .i64 8)).alloc (.cells #[.nilIface] 236)=wn at STn P2 ⊢;clear cc zz;obtain⟨ST⟩:Nonempty (type_of% STn):=⟨STn⟩;clear STn;obtain⟨n2,hn2⟩:∃n2,wk.heap.size=n2:=⟨_,rfl⟩;rw[hn2] at P2 hszk ⊢;clear hn2;refine(Zs _ _).mono ?_;rintro e wj ⟨rfl,rfl⟩;go_wp2_with fail
 obtain⟨nm,hnm⟩:∃x,textOf (fld l 0 100)=x:=⟨_,rfl⟩;rw[hnm] at ST;have HNM:=hid hnm;clear hnm;refine(U2 _ _ _).mono ?_;rintro e wj ⟨rfl,rfl⟩;cases ga with
 |none=>
  have hb0:l[345]?=some 0:=HGA.out;have ct:=ST.out.bytes 345 (ub 0) (by rw[Cy,hb0];rfl)
  unfold ub at ct;clear hb0;go_wp2_with fail
  clear ct;refine(Lc _ _ _).mono ?_;rintro e wj ⟨rfl,rfl⟩;cases gc with
  |none=>
   have hb0:l[357]?=some 0:=HGC.out;(have ct:=ST.out.bytes 357 (ub 0) (by rw[Cy,hb0];rfl));unfold ub at ct;clear hb0;have pk2:=P2.out;have pk:=ST.out.par;(go_wp2_with fail);clear ct;have STf:=ST.out;(go_quiet (fail));(go_wp2_with fail);refine bodyPost_ret (results_tmp3 rfl _ _ _) rfl ?_;rw[HNM.out];exact RhSt.good (f:=8) hR HK1.out HI2.out STf rfl _
  |some tA=>
   obtain⟨hnum,⟨xb,hxb,hxn⟩,htb1,htb2⟩:Dp (fld l 357 12) tA∧(∃x,l[357]?=some x∧x≠0)∧ -100000000000000001≤tA∧tA≤100000000000000001:=HGC.out;(have ct:=ST.out.bytes 357 (ub xb) (by rw[Cy,hxb];rfl));unfold ub at ct;have hxz:((xb.toNat:Int) != 0)=true:=by
    rw[bne_iff_ne];intro e;exact hxn (UInt8.toNat_inj.1 (by show xb.toNat=0;omega))
   have HNum:=hid hnum;clear hxb hxn hnum;(go_wp2_with fail);clear ct hxz;(refine(Ec ST.out.bytes ST.out.lt 357 12 _ _ tA _ HNum.out rfl (by rw[HL.out];decide) (by decide) (by decide) (by decide)).mono ?_);rintro e wa ⟨rfl,hk4⟩;have STk:=hid (ST.out.step hk4);have P2k:=hid (hk4.cell P2.out (fun h=>h));clear ST P2 hk4;(go_wp2_with fail);refine(Hs _ tA htb1 htb2).mono ?_;rintro e wb ⟨rfl,hk4⟩;have ST:=hid (STk.out.step hk4);have P2j:=hid (hk4.cell P2k.out (fun h=>h));clear STk P2k hk4;have cc:=cell_of ST.out.row 13 rfl;have zz:=Bb ST.out.row 13;have cc2:=cell_of ST.out.row 14 rfl;have zz2:=Bb ST.out.row 14;have STn:=hid ((ST.out.set 13 (.int .u64 0)).set 14 (.int .i64 (tA+62135596800)));have P2n:Hid ((World.setCell (World.setCell wb ⟨w3.heap.size+1,13,none⟩ (.int .u64 0)) ⟨w3.heap.size+1,14,none⟩ (.int .i64 (tA+62135596800))).cell? ⟨n2,0,none⟩=some .nilIface):=
    hid (((Kp.setCell (S:=(· =w3.heap.size+1)) (Kp.setCell (S:=(· =w3.heap.size+1)) (p:=⟨w3.heap.size+1,13,none⟩) (Kp.refl _ wb) (.inl rfl) _) (.inl rfl) _).cell P2j.out (by show ¬n2=w3.heap.size+1;omega)))
   have pk2:=P2j.out;have pk:=ST.out.par;(have hnn:n2≠w3.heap.size+1:=by omega);clear ST P2j P2n;(go_wp2_with fail);(go_quiet (fail));(go_wp2_with fail);refine bodyPost_ret (results_tmp3 rfl _ _ _) rfl ?_;rw[HNM.out];exact RhSt.good (f:=8) hR HK1.out HI2.out STn.out rfl _
 |some tA=>
  obtain⟨hnum,⟨xb,hxb,hxn⟩,htb1,htb2⟩:Dp (fld l 345 12) tA∧(∃x,l[345]?=some x∧x≠0)∧ -100000000000000001≤tA∧tA≤100000000000000001:=HGA.out;have ct:=ST.out.bytes 345 (ub xb) (by rw[Cy,hxb];rfl)
  unfold ub at ct;have hxz:((xb.toNat:Int) != 0)=true:=by
   rw[bne_iff_ne];intro e;exact hxn (UInt8.toNat_inj.1 (by show xb.toNat=0;omega))
  have HNum:=hid hnum;clear hxb hxn hnum;go_wp2_with fail
  clear ct hxz;refine(Ec ST.out.bytes ST.out.lt 345 12 _ _ tA _ HNum.out rfl (by rw[HL.out];decide) (by decide) (by decide) (by decide)).mono ?_
  rintro e wa ⟨rfl,hk4⟩;have STk:=hid (ST.out.step hk4);have P2k:=hid (hk4.cell P2.out (fun h=>h));clear ST P2 hk4;go_wp2_with fail
  refine(Hs _ tA htb1 htb2).mono ?_;rintro e wb ⟨rfl,hk4⟩;have ST:=hid (STk.out.step hk4);have P2j:=hid (hk4.cell P2k.out (fun h=>h));clear STk P2k hk4;have cc:=cell_of ST.out.row 11 rfl;have zz:=Bb ST.out.row 11;have cc2:=cell_of ST.out.row 12 rfl;have zz2:=Bb ST.out.row 12;have STn:=hid ((ST.out.set 11 (.int .u64 0)).set 12 (.int .i64 (tA+62135596800)));have P2n:Hid ((World.setCell (World.setCell wb ⟨w3.heap.size+1,11,none⟩ (.int .u64 0)) ⟨w3.heap.size+1,12,none⟩ (.int .i64 (tA+62135596800))).cell? ⟨n2,0,none⟩=some .nilIface):=
   hid (((Kp.setCell (S:=(· =w3.heap.size+1)) (Kp.setCell (S:=(· =w3.heap.size+1)) (p:=⟨w3.heap.size+1,11,none⟩) (Kp.refl _ wb) (.inl rfl) _) (.inl rfl) _).cell P2j.out (by show ¬n2=w3.heap.size+1;omega)))
  clear ST P2j;go_wp2_with fail
  generalize World.setCell (World.setCell wb ⟨w3.heap.size+1,11,none⟩ (.int .u64 0)) ⟨w3.heap.size+1,12,none⟩ (.int .i64 (tA+62135596800))=wd at STn P2n ⊢;clear cc zz cc2 zz2;obtain⟨ST⟩:Nonempty (type_of% STn):=⟨STn⟩;obtain⟨P2⟩:Nonempty (type_of% P2n):=⟨P2n⟩;clear STn P2n HNum;refine(Lc _ _ _).mono ?_;rintro e wj ⟨rfl,rfl⟩;cases gc with
  |none=>
   have hb0:l[357]?=some 0:=HGC.out;(have ct:=ST.out.bytes 357 (ub 0) (by rw[Cy,hb0];rfl));unfold ub at ct;clear hb0;have pk2:=P2.out;have pk:=ST.out.par;(go_wp2_with fail);clear ct;have STf:=ST.out;(go_quiet (fail));(go_wp2_with fail);refine bodyPost_ret (results_tmp3 rfl _ _ _) rfl ?_;rw[HNM.out];exact RhSt.good (f:=8) hR HK1.out HI2.out STf rfl _
  |some tA=>
   obtain⟨hnum,⟨xb,hxb,hxn⟩,htb1,htb2⟩:Dp (fld l 357 12) tA∧(∃x,l[357]?=some x∧x≠0)∧ -100000000000000001≤tA∧tA≤100000000000000001:=HGC.out;(have ct:=ST.out.bytes 357 (ub xb) (by rw[Cy,hxb];rfl));unfold ub at ct;have hxz:((xb.toNat:Int) != 0)=true:=by
    rw[bne_iff_ne];intro e;exact hxn (UInt8.toNat_inj.1 (by show xb.toNat=0;omega))
   have HNum:=hid hnum;clear hxb hxn hnum;(go_wp2_with fail);clear ct hxz;(refine(Ec ST.out.bytes ST.out.lt 357 12 _ _ tA _ HNum.out rfl (by rw[HL.out];decide) (by decide) (by decide) (by decide)).mono ?_);rintro e wa ⟨rfl,hk4⟩;have STk:=hid (ST.out.step hk4);have P2k:=hid (hk4.cell P2.out (fun h=>h));clear ST P2 hk4;(go_wp2_with fail);refine(Hs _ tA htb1 htb2).mono ?_;rintro e wb ⟨rfl,hk4⟩;have ST:=hid (STk.out.step hk4);have P2j:=hid (hk4.cell P2k.out (fun h=>h));clear STk P2k hk4;have cc:=cell_of ST.out.row 13 rfl;have zz:=Bb ST.out.row 13;have cc2:=cell_of ST.out.row 14 rfl;have zz2:=Bb ST.out.row 14;have STn:=hid ((ST.out.set 13 (.int .u64 0)).set 14 (.int .i64 (tA+62135596800)));have P2n:Hid ((World.setCell (World.setCell wb ⟨w3.heap.size+1,13,none⟩ (.int .u64 0)) ⟨w3.heap.size+1,14,none⟩ (.int .i64 (tA+62135596800))).cell? ⟨n2,0,none⟩=some .nilIface):=
    hid (((Kp.setCell (S:=(· =w3.heap.size+1)) (Kp.setCell (S:=(· =w3.heap.size+1)) (p:=⟨w3.heap.size+1,13,none⟩) (Kp.refl _ wb) (.inl rfl) _) (.inl rfl) _).cell P2j.out (by show ¬n2=w3.heap.size+1;omega)))
   have pk2:=P2j.out;have pk:=ST.out.par;(have hnn:n2≠w3.heap.size+1:=by omega);clear ST P2j P2n;(go_wp2_with fail);(go_quiet (fail));(go_wp2_with fail);refine bodyPost_ret (results_tmp3 rfl _ _ _) rfl ?_;rw[HNM.out];exact RhSt.good (f:=8) hR HK1.out HI2.out STn.out rfl _
end Go.Proofs.YtgfcnjfmmjcodaaGreatDoor
