/- next. -/
import Derived.Test.YtgfcnjfmmjcodaaGreatDoorN16
set_option linter.all false
set_option maxRecDepth 100000
set_option maxHeartbeats 1000000
open Go.Lib (hid)
namespace Go.Proofs.YtgfcnjfmmjcodaaGreatDoor
open Go Go.RowKit
set_option maxHeartbeats 40000000 in
theorem next_any {E:Nat→Addr}{B:Nat}{T:TypeId}{v:Value}{S:Nat→Prop}{inv:World→Nat→List UInt8→Prop}(hs:IsSrc E B T v S inv)
  (w:World) (R nb pad:Nat) (src:List UInt8) (out:Out) (hi:NxIn E B T v S inv R nb pad src w) (hh:HeadP nb pad none [] [] src out) :
  Calls Tryz.prog 78 #[.pointer (some ⟨R,0,none⟩)] w (NxOut E B T v S inv R w out):=by
 have HS:=hid hs
 have hSw:∀k,S k→k<w.heap.size:=by obtain⟨cur,blk,h,_⟩:=hi;exact(hs.rd.foot h.rd).2
 have hRw:R<w.heap.size:=by obtain⟨cur,blk,h,_⟩:=hi;exact lt_of h.row
 have hstart:NxRel E B T v S inv R w out nb pad none [] [] src (.map none) (w.alloc (.cells #[.int .i64 14] 165)):=by
  have ka:Kp (fun _=>False) w (w.alloc (.cells #[.int .i64 14] 165)):=(Kp.refl _ _).alloc _
  obtain⟨cur,blk,h1,h2,h3,h4⟩:=hi
  exact⟨⟨cur,blk,h1.keep hs.rd ka,h2.keep ka,h3,h4⟩,rfl,hh,ka.mono (fun _ _ h=>h.elim),⟨14,heap_new w _⟩,by simp,by intro _ h;cases h⟩
 have H0:=hid hstart
 clear hstart hi hh hs
 go_enter Tryz.func78,Tryz.ntmps78
 go_wp2_with fail
 go_loopg [4,5,6] src.length (fun k s4 s5 s6 wr=>∃nb pad pax ln ll src' pm,src'.length≤k∧pm=s4∧s5=strv ln∧s6=strv ll∧NxRel E B T v S inv R w out nb pad pax ln ll src' pm wr)
 case atStart=>exact⟨nb,pad,none,[],[],src,_,Nat.le_refl _,rfl,rfl,rfl,H0.out⟩
 case round=>
  clear H0
  obtain⟨nb,pad,pax,ln,ll,src',pm,hk,rfl,rfl,rfl,rel⟩:=hrel
  obtain⟨cur,blk,hin,hcur,hnb,hpad⟩:=rel.inp
  obtain⟨cT,cv,pf,rv,rfl,hm,hna,hcf,hph⟩:=hcur.now
  have c0:wr.cell? ⟨R,0,none⟩=some (.iface T v):=cell_of hin.row 0 rfl
  have c2:wr.cell? ⟨R,2,none⟩=some (.iface cT cv):=cell_of hin.row 2 rfl
  have HPH:=hid hph
  have HIN:=hid hin
  have REL:=hid rel
  clear hph hin hcur rel
  rcases REL.out.head.split with ⟨hlen,hout⟩|hrest
  ·have HO:=hid hout
   clear hout
   go_wp2_with fail
   go_region_held3 (fun w'=>w'.cell? ⟨R,0,none⟩=some (.iface T v)∧w'.cell? ⟨R,2,none⟩=some (.iface cT cv))
    (first|(exact⟨hk2.cell (hk1.cell c0 (fun h=>h)) HIN.out.out,hk2.cell (hk1.cell c2 (fun h=>h)) HIN.out.out⟩)|(exact⟨hk1.cell c0 (fun h=>h),hk1.cell c2 (fun h=>h)⟩)|go_keep)
    (first
     |(refine HPH.out.mono ?_;rintro e w1 ⟨rfl,hk1⟩;replace hk1:=((Kp.refl (fun _=>False) wr).drew).trans hk1)
     |(go_at_call 125;refine(HS.out.disc_cut _ nb src' (HIN.out.keep HS.out.rd hk1).glob (HIN.out.keep HS.out.rd hk1).rd hnb hlen).mono ?_;rintro e w2 ⟨rfl,hk2⟩))
   have hra:=hid ((HIN.out.rowAt.keep hk1 (fun h=>h)).keep hk2 HIN.out.out)
   have hkk:Kp (fun k=>S k∨k=R) w w2:=(REL.out.kp.then hk1 (fun _ _ h=>h.elim)).then hk2 (fun _ _ h=>.inl h)
   clear hk1 hk2
   go_wp2_with fail
   go_ret2
   rw[HO.out]
   exact⟨hkk,rfl,hra.out⟩
  ·have hlen:nb≤src'.length:=by
    rcases hrest with ⟨d,p,h1,h2,_⟩|⟨d,p,rest,h1,h2,_⟩<;>(rw[h1,List.length_append];omega)
   have HREST:=hid hrest
   clear hrest
   go_wp2_with fail
   go_region_held3 (fun w'=>w'.cell? ⟨R,0,none⟩=some (.iface T v)∧w'.cell? ⟨R,2,none⟩=some (.iface cT cv))
    (first|(exact⟨hk2.cell (hk1.cell c0 (fun h=>h)) HIN.out.out,hk2.cell (hk1.cell c2 (fun h=>h)) HIN.out.out⟩)|(exact⟨hk1.cell c0 (fun h=>h),hk1.cell c2 (fun h=>h)⟩)|go_keep)
    (first
     |(refine HPH.out.mono ?_;rintro e w1 ⟨rfl,hk1⟩;replace hk1:=((Kp.refl (fun _=>False) wr).drew).trans hk1)
     |(go_at_call 125;refine(HS.out.disc_ok _ nb src' (HIN.out.keep HS.out.rd hk1).glob (HIN.out.keep HS.out.rd hk1).rd hnb hlen).mono ?_;rintro e w2 ⟨rfl,hk2,hin2⟩))
   have hk12:Kp S wr w2:=(hk1.mono (fun _ _ h=>h.elim)).trans hk2
   have hi2:RhIn E B T v S inv R (pad:Int) (.iface cT cv) blk .nilIface (src'.drop nb) w2:=HIN.out.move HS.out.rd hk12 hin2
   have d0:w2.cell? ⟨R,0,none⟩=some (.iface T v):=cell_of hi2.row 0 rfl
   have d1:w2.cell? ⟨R,1,none⟩=some (.int .i64 (pad:Int)):=cell_of hi2.row 1 rfl
   have HI2:=hid hi2
   have HK12:=hid hk12
   have hsl:=fun w a=>run_arr156_h w a pad hpad
   clear hi2 hk12 hk1 hk2 hin2 c0 c2 hm hna hcf
   rcases HREST.out with ⟨d,p,h1,h2,h3,h4⟩|⟨d,p,rest,h1,h2,h3,hb⟩
   ·have hl2:decide (pad≤(src'.drop nb).length)=false:=by rw[h1,←h2,List.drop_left'];simpa using h3;rfl
    have HLEN:=hid hl2
    have HO:=hid h4
    clear HREST hl2 h1 h2 h3 h4
    go_wp2_with fail
    refine region_seg [12] (by kernel_rfl) ?_
    simp only[wpSeg,sD,sE,sF,sG]
    repeat still_step
    refine wpStill_nil ?_
    go_wp2_with fail
    refine(HI2.out.skip HS.out.rd hpad).mono ?_
    rintro e w3 ⟨rfl,hk3,blk3,hin3⟩
    rw[HLEN.out]
    have hkk:=(REL.out.kp.then HK12.out (fun _ _ h=>.inl h)).then hk3 (fun _ _ h=>h)
    have hra:=hid hin3.rowAt
    clear hk3 hin3
    rw[nilOr_f]
    go_wp2_with fail
    repeat still_step
    refine wpStill_nil ?_
    go_wp2_with fail
    go_ret2
    rw[HO.out]
    exact⟨hkk,rfl,hra.out⟩
   ·have hl2:decide (pad≤(src'.drop nb).length)=true:=by rw[h1,←h2,List.drop_left' rfl,List.length_append];simp;omega
    have hdr:(src'.drop nb).drop pad=rest:=by rw[h1,←h2,List.drop_left' rfl,←h3,List.drop_left' rfl]
    have hlen2:rest.length≤src'.length:=by rw[h1];simp;omega
    have HLEN:=hid hl2
    have HDR:=hid hdr
    have HB:=hid hb
    clear HREST hl2 h1 h2 h3 hb hdr
    go_wp2_with fail
    refine region_seg [12] (by kernel_rfl) ?_
    simp only[wpSeg,sD,sE,sF,sG]
    repeat still_step
    refine wpStill_nil ?_
    go_wp2_with fail
    refine(HI2.out.skip HS.out.rd hpad).mono ?_
    rintro e w3 ⟨rfl,hk3,blk3,hin3⟩
    rw[HLEN.out]
    rw[HDR.out] at hin3
    have hkk:=(REL.out.kp.then HK12.out (fun _ _ h=>.inl h)).then hk3 (fun _ _ h=>h)
    have hf3:∃f,w3.heap[w.heap.size]?=some (.cells #[.int .i64 f] 165 (0,0)):=by
     obtain⟨f,hf⟩:=REL.out.fmt
     have n1:¬S w.heap.size:=fun h=>by have:=hSw _ h;omega
     exact⟨f,hk3.heap (HK12.out.heap hf n1) (by rintro(h|h);exact n1 h;omega)⟩
    have hpx3:PaxV w pax pm w3:=(REL.out.paxv.keep HK12.out hSw).keep hk3 (by rintro k (h|rfl);exact hSw _ h;exact hRw)
    clear hk3
    rw[nilOr_t]
    have e1:=cell_of hin3.row 1 rfl
    have y1:=free_of hin3.row 1
    have HI3:=hid (hin3.setPad HS.out.rd 0)
    have HKK:=hid (hkk.setCell (p:=⟨R,1,none⟩) (.inl (.inr rfl)) (.int .i64 0))
    clear hin3 hkk
    go_wp2_with fail
    repeat still_step
    refine wpStill_nil ?_
    go_wp2_with fail
    have hf4:∃f,(w3.setCell ⟨R,1,none⟩ (.int .i64 0)).heap[w.heap.size]?=some (.cells #[.int .i64 f] 165 (0,0)):=by
     obtain⟨f,hf⟩:=hf3
     exact⟨f,heap_set_ne hf _ _ (by show w.heap.size≠R;omega)⟩
    have hpx4:PaxV w pax pm (w3.setCell ⟨R,1,none⟩ (.int .i64 0)):=hpx3.keep (Kp.setCell (S:=(· =R)) (p:=⟨R,1,none⟩) (Kp.refl _ _) (.inl rfl) _) (by rintro k rfl;exact hRw)
    have HF4:=hid hf4
    have HPX:=hid hpx4
    have hlens:=hid REL.out.lens
    have hplen:=hid REL.out.plen
    generalize w3.setCell ⟨R,1,none⟩ (.int .i64 0)=w5 at HI3 HKK HF4 HPX ⊢
    clear hf3 hpx3 hf4 hpx4 e1 y1 HLEN HDR HK12 HI2 HIN HPH hsl REL d0 d1
    cases hb':HB.out with
    |err _ g hf=>
     refine(readHeader_fail HS.out.rd w5 R 0 _ blk3 _ rest HI3.out g hf).mono ?_
     rintro e w6 ⟨rfl,hk6,hr6⟩
     have hkk6:=HKK.out.then hk6 (fun _ _ h=>h)
     have hra:=hid hr6
     clear hk6 hr6
     go_wp2_with fail
     go_ret2
     exact⟨hkk6,rfl,hra.out⟩
    |hdr l rest' h0 fm hl hbr hc=>
     have hsz:0≤h0.size∧h0.size≤4611686018427387904∨hasData h0.typ=false:=by
      cases hc with
      |file _ _ _ _ ht hs _ _ _=>exact hs
      |_=>left;omega
     refine(readHeader_rd HS.out.rd w5 R 0 _ blk3 _ l rest' hl HI3.out h0 fm hbr).mono ?_
     rintro e w6 ⟨nh,f,rfl,hk6,hi6,hnh,hrow6⟩
     have hw5:w.heap.size<w5.heap.size:=by obtain⟨f,hf⟩:=HF4.out;exact lt_of hf
     have HB':=hid hbr
     have HC':=hid hc
     have HSZ:=hid hsz
     clear hbr hc hsz hb'
     go_wp2_with fail
     refine(handleReg_any w6 R nh T v _ _ (ubs l) .nilIface _ h0.typ h0.size hi6.row hrow6 rfl rfl HSZ.out).mono ?_
     rintro e w7 hre
     obtain⟨rfl,Rf,g1,g2,g3,g4⟩:=hi6.handled HS.out.rd hre
     have st:FSt E B T v S inv R w rest' l nh pax pm (.map none) f h0 (datLen h0) (datLen h0) w7:=by
      have k56:=hk6.then g2 (fun _ _ h=>.inr h)
      obtain⟨fq,hfq⟩:=HF4.out
      have hne:∀k,(S k∨k=R)→k<w.heap.size:=by rintro k (h|rfl);exact hSw _ h;exact hRw
      have hs6:=hk6.size
      exact⟨⟨Rf,g3,g4,by omega⟩,g2.heap hrow6 (by omega),HPX.out.keep k56 hne,HKK.out.then k56 (fun _ _ h=>h),⟨fq,k56.heap hfq (fun h=>by have:=hne _ h;omega)⟩,by omega,hSw,hRw,by have:=hi6.above;omega⟩
     clear hre g1 g2 g3 g4 hk6 hi6 hnh hrow6 hw5 HSZ HI3 HKK HF4 HPX
     have cF:w7.cell? ⟨nh,19,none⟩=some (.int .i64 f):=cell_of st.row 19 rfl
     have ST:=hid st
     clear st
     go_wp2_with fail
     refine(ST.out.only' HS.out.rd _).mono ?_
     rintro e w8 ⟨rfl,st8⟩
     clear ST cF
     have cT:w8.cell? ⟨nh,0,none⟩=some (.int .u8 h0.typ.toNat):=cell_of st8.row 0 rfl
     have ST8:=hid st8
     clear st8
     have hnt:∀n:UInt8,h0.typ≠n→((h0.typ.toNat:Int)==n.toNat)=false:=by
      intro n hn
      rw[beq_eq_false_iff_ne]
      intro e
      exact hn (UInt8.toNat_inj.mp (by omega))
     have hyt:∀n:UInt8,h0.typ=n→((h0.typ.toNat:Int)==n.toNat)=true:=by
      rintro n rfl
      exact beq_self_eq_true _
     cases hc':HC'.out with
     |file _ _ h1 h2 ht hs hm hn hs2=>
      have t1:((h0.typ.toNat:Int)==120)=false:=hnt 120 ht.2.1
      have t2:((h0.typ.toNat:Int)==103)=false:=hnt 103 ht.2.2.1
      have t3:((h0.typ.toNat:Int)==76)=false:=hnt 76 ht.2.2.2.1
      have t4:((h0.typ.toNat:Int)==75)=false:=hnt 75 ht.2.2.2.2.1
      have HT:=hid ht
      have HM:Hid (MgO pax h0 h1):=hid hm
      have HN:=hid hn
      have HS2:=hid hs2
      clear hc' HC' hnt hyt ht hm hn hs2
      go_wp2_with fail
      refine(ST8.out.merge HS.out.rd HM.out hplen.out).mono ?_
      rintro e w9 ⟨rfl,st9⟩
      clear ST8 cT
      have ST9:=hid st9
      clear st9
      have e5:strv ln=.string ⟨ln.toArray⟩:=rfl
      have e6:strv ll=.string ⟨ll.toArray⟩:=rfl
      go_upto_if 87 with fail
      go_cut [] from 21 to 203 (fun wx=>Hid (FSt E B T v S inv R w rest' l nh pax pm pm f {h1 with name:=over ln h1.name} (datLen h0) (datLen h0) wx))
      case first=>
       have cc:w9.cell? ⟨nh,1,none⟩=some (strv h1.name):=cell_of ST9.out.row 1 rfl
       have zz:=free_of ST9.out.row 1
       cases ln with
       |nil=>
        go_wp2_with fail
        go_meet
        case rel=>exact ST9.out
       |cons x xs=>
        go_wp2_with fail
        go_meet
        case rel=>exact ST9.out.set HS.out.rd 1 _ rfl
      go_upto_if 93 with fail
      go_cut [] from 21 to 203 (fun wx=>Hid (FSt E B T v S inv R w rest' l nh pax pm pm f {h1 with name:=over ln h1.name,link:=over ll h1.link} (datLen h0) (datLen h0) wx))
      case first=>
       have cc:wc.cell? ⟨nh,2,none⟩=some (strv h1.link):=cell_of hcut.out.row 2 rfl
       have zz:=free_of hcut.out.row 2
       cases ll with
       |nil=>
        go_wp2_with fail
        go_meet
        case rel=>exact hcut.out
       |cons x xs=>
        go_wp2_with fail
        go_meet
        case rel=>exact hcut.out.set HS.out.rd 2 _ rfl
      have hty:h2.typ=h0.typ:=by
       rw[HN.out]
       have hm:=HM.out
       cases pax with
       |none=>rw[show h1=h0 from hm]
       |some rs=>exact(show Merged h0 h1 (findL rs) from hm).typ
      have hns:∀rs,pax=some rs→∀k u,findL rs k=some u→¬kSparse <+: k:=by
       rintro rs rfl
       exact(show Merged h0 h1 (findL rs) from HM.out).noSparse
      have t0:((h2.typ.toNat:Int)==0)=false:=by
       rw[hty,beq_eq_false_iff_ne]
       have:=HT.out.1
       omega
      have ht83:h2.typ≠83:=by rw[hty];exact HT.out.2.2.2.2.2
      have STC:Hid (FSt E B T v S inv R w rest' l nh pax pm pm f h2 (datLen h0) (datLen h0) wc):=by rw[HN.out];exact hcut.out
      have HTY:=hid ht83
      have HNS:=hid hns
      clear hcut ht83 hns hty HT HM HN
      have cT:wc.cell? ⟨nh,0,none⟩=some (.int .u8 h2.typ.toNat):=cell_of STC.out.row 0 rfl
      go_wp2_with fail
      refine(STC.out.handle HS.out.rd HS2.out).mono ?_
      rintro e w10 ⟨rfl,st10⟩
      clear STC cT t0
      have ST10:=hid st10
      clear st10
      go_wp2_with fail
      refine(ST10.out.sparse HS.out.rd HTY.out HNS.out _ _).mono ?_
      rintro e w11 ⟨rfl,st11⟩
      clear ST10
      obtain⟨g11,hg11⟩:=st11.fmt
      have ST11:=hid st11
      have cg:w11.cell? ⟨w.heap.size,0,none⟩=some (.int .i64 g11):=cell_of hg11 0 rfl
      clear st11 hg11
      have zn:=free_of ST11.out.row 19
      have cn:w11.cell? ⟨nh,19,none⟩=some (.int .i64 f):=cell_of ST11.out.row 19 rfl
      have FIN:∀(g:Int) (wz:World),FSt E B T v S inv R w rest' l nh pax pm pm f h2 (datLen h2) (datLen h2) wz→NxOut E B T v S inv R w (Out.file h2 pax rest') (.returned (.tuple #[.pointer (some ⟨nh,0,none⟩), .nilIface])) (wz.setCell ⟨nh,19,none⟩ (.int .i64 g)):=by
       intro g wz st
       have sg:FSt E B T v S inv R w rest' l nh pax pm pm g h2 (datLen h2) (datLen h2) (wz.setCell ⟨nh,19,none⟩ (.int .i64 g)):=st.set HS.out.rd 19 _ rfl
       obtain⟨Rf,r1,r2,r3⟩:=sg.rh
       refine⟨sg.kp,nh,Rf,ubs l,g,pm,rfl,Nat.le_of_lt sg.low,r3,sg.row,sg.pmIs HS.out.rd,?_,r1,r2⟩
       rintro b rfl
       have hp:=sg.paxv
       cases pax with
       |none=>cases (show Value.map (some b)=.map none from hp)
       |some rs=>
        obtain⟨b',q,e1,e2,_⟩:=hp
        injection e1 with e1
        injection e1 with e1
        omega
      go_wp2_with fail
      refine(has_some w11 _ _).mono ?_
      rintro e wq ⟨⟨b1,rfl⟩,rfl⟩
      cases b1
      ·go_wp2_with fail
       go_ret2
       exact FIN _ _ ST11.out
      ·go_wp2_with fail
       refine(has_some _ _ _).mono ?_
       rintro e wq ⟨⟨b2,rfl⟩,rfl⟩
       cases b2
       ·go_wp2_with fail
        go_ret2
        exact FIN _ _ ST11.out
       ·go_wp2_with fail
        refine(ST11.out.only' HS.out.rd _).mono ?_
        rintro e w12 ⟨rfl,st12⟩
        obtain⟨g12,hg12⟩:=st12.fmt
        have ST12:=hid st12
        have cg12:w12.cell? ⟨w.heap.size,0,none⟩=some (.int .i64 g12):=cell_of hg12 0 rfl
        have zn12:=free_of ST12.out.row 19
        have cn12:w12.cell? ⟨nh,19,none⟩=some (.int .i64 f):=cell_of ST12.out.row 19 rfl
        clear ST11 cg cn zn st12 hg12
        go_wp2_with fail
        go_ret2
        exact FIN _ _ ST12.out
     |glob t rest2 _ rs ht hs hr hk htl=>
      have t1:((h0.typ.toNat:Int)==120)=false:=hnt 120 (by rw[ht];decide)
      have t2:((h0.typ.toNat:Int)==103)=true:=hyt 103 ht
      have hdl:datLen h0=t.length:=by rw[datLen_meta (.inr (.inl ht))];omega
      have HT:=hid ht
      have HR:=hid hr
      have HK:=hid hk
      have HL2:=hid htl
      have HDL:=hid hdl
      clear hc' HC' hnt hyt ht hs hr hk htl hdl
      go_wp2_with fail
      refine(ST8.out.only' HS.out.rd _).mono ?_
      rintro e w9 ⟨rfl,st9⟩
      clear ST8 cT
      rw[HDL.out] at st9
      obtain⟨S2,inv2,q1,q2,q3,q4,q6,q5⟩:=st9.spec HS.out.rd (by have:=HL2.out;omega)
      rw[List.take_left' rfl,endOf_le (by rw[List.length_append];omega)] at q3
      rw[List.drop_left' rfl] at q5
      have Q1:=hid q1
      have Q2:=hid q2
      have Q3:=hid q3
      have Q4:=hid q4
      have Q5:=hid q5
      have hs9:=hid st9.kp.size
      clear q1 q2 q3 q4 q5 q6 st9
      go_wp2_with fail
      refine(parsePAX_any Q1.out w9 rs t Q2.out Q3.out HL2.out HR.out (own_parse HK.out)).mono ?_
      rintro e w10 ⟨b,n',rfl,hb,hn',hmap,hk10,hi10⟩
      have st10:FSt E B T v S inv R w rest2 l nh (some rs) (.map (some b)) (.map none) f h0 t.length 0 w10:=(Q5.out w10 hk10 hi10).withPax ⟨b,n',rfl,by have:=hs9.out;omega,hmap⟩
      have hbw:w.heap.size≤b:=by have:=hs9.out;omega
      have HBW:=hid hbw
      clear Q1 Q2 Q3 Q4 Q5 hmap hk10 hi10 hn' hb hbw hs9
      have cT:w10.cell? ⟨nh,0,none⟩=some (.int .u8 h0.typ.toNat):=cell_of st10.row 0 rfl
      have ST10:=hid st10
      clear st10
      go_wp2_with fail
      refine(ST10.out.merge HS.out.rd (h1:=h0) (own_merged HK.out h0) ?_).mono ?_
      ·rintro rs' e k u hu
       injection e with e
       subst e
       exact Nat.le_trans (recs_vlen HR.out k u hu) HL2.out
      rintro e w11 ⟨rfl,st11⟩
      clear ST10 cT t1 t2
      have cT:w11.cell? ⟨nh,0,none⟩=some (.int .u8 103):=by
       have h:w11.cell? ⟨nh,0,none⟩=some (.int .u8 h0.typ.toNat):=cell_of st11.row 0 rfl
       rw[h,HT.out];rfl
      have cN:w11.cell? ⟨nh,1,none⟩=some (.string ⟨h0.name.toArray⟩):=cell_of st11.row 1 rfl
      have cX:w11.cell? ⟨nh,17,none⟩=some (.map none):=cell_of st11.row 17 rfl
      have cP:w11.cell? ⟨nh,18,none⟩=some (.map (some b)):=cell_of st11.row 18 rfl
      obtain⟨g11,hg11⟩:=st11.fmt
      have cg:w11.cell? ⟨w.heap.size,0,none⟩=some (.int .i64 g11):=cell_of hg11 0 rfl
      have ST11:=hid st11
      clear st11 hg11
      go_wp2_with fail
      go_region
      all_goals
       go_wp2_with fail
       go_ret2
       exact ST11.out.globOut HS.out.rd HBW.out h0.name g11 _ rfl
     |pax t rest2 _ rs ht hs hr htl hk hh=>
      have t1:((h0.typ.toNat:Int)==120)=true:=hyt 120 ht
      have t2:((h0.typ.toNat:Int)==103)=false:=hnt 103 (by rw[ht];decide)
      have hdl:datLen h0=t.length:=by rw[datLen_meta (.inl ht)];omega
      have HR:=hid hr
      have HK:=hid hk
      have HH:=hid hh
      have HL2:=hid htl
      have HDL:=hid hdl
      have hmeas:rest2.length<src'.length:=by
       simp only[List.length_append] at hlen2
       omega
      have HME:=hid hmeas
      clear hc' HC' hnt hyt ht hs hr hk htl hdl hh hmeas
      go_wp2_with fail
      refine(ST8.out.only' HS.out.rd _).mono ?_
      rintro e w9 ⟨rfl,st9⟩
      clear ST8 cT
      rw[HDL.out] at st9
      obtain⟨S2,inv2,q1,q2,q3,q4,q6,q5⟩:=st9.spec HS.out.rd (by have:=HL2.out;omega)
      rw[List.take_left' rfl,endOf_le (by rw[List.length_append];omega)] at q3
      rw[List.drop_left' rfl] at q5
      have Q1:=hid q1
      have Q2:=hid q2
      have Q3:=hid q3
      have Q4:=hid q4
      have Q5:=hid q5
      have hs9:=hid st9.kp.size
      clear q1 q2 q3 q4 q5 q6 st9
      go_wp2_with fail
      refine(parsePAX_any Q1.out w9 rs t Q2.out Q3.out HL2.out HR.out HK.out).mono ?_
      rintro e w10 ⟨b,n',rfl,hb,hn',hmap,hk10,hi10⟩
      have st10:FSt E B T v S inv R w rest2 l nh (some rs) (.map (some b)) (.map none) f h0 t.length 0 w10:=(Q5.out w10 hk10 hi10).withPax ⟨b,n',rfl,by have:=hs9.out;omega,hmap⟩
      clear Q1 Q2 Q3 Q4 Q5 hmap hk10 hi10 hn' hb hs9
      have cT:w10.cell? ⟨nh,0,none⟩=some (.int .u8 h0.typ.toNat):=cell_of st10.row 0 rfl
      have ST10:=hid st10
      clear st10
      go_wp2_with fail
      go_roundg rest2.length
      case measure=>have:=HME.out;omega
      case rel=>
       refine⟨0,zpad t.length,some rs,ln,ll,rest2,_,Nat.le_refl _,rfl,rfl,rfl,ST10.out.round HS.out.rd (Nat.zero_le _) ST10.out.paxv HH.out hlens.out ?_⟩
       rintro rs' e k u hu
       injection e with e
       subst e
       exact Nat.le_trans (recs_vlen HR.out k u hu) HL2.out
     |name s rest2 _ ht hs hz htl hh=>
      have t1:((h0.typ.toNat:Int)==120)=false:=hnt 120 (by rw[ht];decide)
      have t2:((h0.typ.toNat:Int)==103)=false:=hnt 103 (by rw[ht];decide)
      have t3:((h0.typ.toNat:Int)==76)=true:=hyt 76 ht
      have t4:((h0.typ.toNat:Int)==75)=false:=hnt 75 (by rw[ht];decide)
      have hdl:datLen h0=s.length+1:=by rw[datLen_meta (.inr (.inr (.inl ht)))];omega
      have hsp:s++0::rest2=(s++[0])++rest2:=by simp
      have hsl:(s++[0]).length=s.length+1:=by simp
      have HZ:=hid hz
      have HH:=hid hh
      have HL2:=hid htl
      have HDL:=hid hdl
      have hmeas:rest2.length<src'.length:=by
       simp only[List.length_append,List.length_cons] at hlen2
       omega
      have HME:=hid hmeas
      clear hc' HC' hnt hyt ht hs hz htl hdl hh hmeas
      have HSP:=hid hsp
      have HSL:=hid hsl
      clear hsp hsl
      go_wp2_with fail
      refine(ST8.out.only' HS.out.rd _).mono ?_
      rintro e w9 ⟨rfl,st9⟩
      clear ST8 cT
      rw[HDL.out] at st9
      obtain⟨S2,inv2,q1,q2,q3,q4,q6,q5⟩:=st9.spec HS.out.rd (by have:=HL2.out;omega)
      rw[HSP.out,List.take_left' HSL.out,endOf_le (by rw[List.length_append,HSL.out];omega)] at q3
      rw[HSP.out,List.drop_left' HSL.out] at q5
      have Q1:=hid q1
      have Q2:=hid q2
      have Q3:=hid q3
      have Q4:=hid q4
      have Q5:=hid q5
      clear q1 q2 q3 q4 q5 q6 st9
      go_wp2_with fail
      refine(readSpecial_any Q1.out w9 0 (s++[0]) Q2.out Q3.out (by rw[HSL.out];have:=HL2.out;omega)).mono ?_
      rintro e w10 ⟨all,rfl,hown,hk10,hi10⟩
      have st10:FSt E B T v S inv R w rest2 l nh pax pm (.map none) f h0 (s.length+1) 0 w10:=Q5.out w10 hk10 hi10
      clear Q1 Q2 Q3 Q4 Q5 hk10 hi10
      have cT:w10.cell? ⟨nh,0,none⟩=some (.int .u8 h0.typ.toNat):=cell_of st10.row 0 rfl
      have cTa:∀o:Obj,(w10.alloc o).cell? ⟨nh,0,none⟩=some (.int .u8 h0.typ.toNat):=fun o=>((Kp.refl (fun _=>False) w10).alloc o).cell cT (fun h=>h)
      have ST10:=hid st10
      have HO:=hid hown
      clear st10 hown
      rw[if_pos rfl]
      have HPS:∀(o:Obj) (p:Value),Calls Tryz.prog 133 #[p,all] (w10.alloc o) fun e w'=>e=.returned (.string ⟨s.toArray⟩)∧w'=w10.alloc o:=by
       intro o p
       have:=parseString_own (p:=p) (HO.out.keep ((Kp.refl (fun _=>False) w10).alloc o) (fun _ _ h=>h)) (by rw[HSL.out];have:=HL2.out;omega) (by simp)
       rwa[textOf_app s [] HZ.out] at this
      have HPSH:=fun o p=>hid (HPS o p)
      clear HPS
      go_wp2_with fail
      refine(HPSH _ _).out.mono ?_
      rintro e w12 ⟨rfl,rfl⟩
      go_wp2_with fail
      go_roundg rest2.length
      case measure=>have:=HME.out;omega
      case rel=>
       have ST12:∀o:Obj,FSt E B T v S inv R w rest2 l nh pax pm (.map none) f h0 (s.length+1) 0 (w10.alloc o):=fun o=>ST10.out.kpf HS.out.rd ((Kp.refl (fun _=>False) w10).alloc o)
       exact⟨0,zpad (s.length+1),pax,s,ll,rest2,_,Nat.le_refl _,rfl,rfl,rfl,(ST12 _).round HS.out.rd (Nat.zero_le _) (ST12 _).paxv HH.out ⟨by have:=HL2.out;omega,hlens.out.2⟩ hplen.out⟩
     |link s rest2 _ ht hs hz htl hh=>
      have t1:((h0.typ.toNat:Int)==120)=false:=hnt 120 (by rw[ht];decide)
      have t2:((h0.typ.toNat:Int)==103)=false:=hnt 103 (by rw[ht];decide)
      have t3:((h0.typ.toNat:Int)==76)=false:=hnt 76 (by rw[ht];decide)
      have t4:((h0.typ.toNat:Int)==75)=true:=hyt 75 ht
      have hdl:datLen h0=s.length+1:=by rw[datLen_meta (.inr (.inr (.inr ht)))];omega
      have hsp:s++0::rest2=(s++[0])++rest2:=by simp
      have hsl:(s++[0]).length=s.length+1:=by simp
      have HZ:=hid hz
      have HH:=hid hh
      have HL2:=hid htl
      have HDL:=hid hdl
      have hmeas:rest2.length<src'.length:=by
       simp only[List.length_append,List.length_cons] at hlen2
       omega
      have HME:=hid hmeas
      clear hc' HC' hnt hyt ht hs hz htl hdl hh hmeas
      have HSP:=hid hsp
      have HSL:=hid hsl
      clear hsp hsl
      go_wp2_with fail
      refine(ST8.out.only' HS.out.rd _).mono ?_
      rintro e w9 ⟨rfl,st9⟩
      clear ST8 cT
      rw[HDL.out] at st9
      obtain⟨S2,inv2,q1,q2,q3,q4,q6,q5⟩:=st9.spec HS.out.rd (by have:=HL2.out;omega)
      rw[HSP.out,List.take_left' HSL.out,endOf_le (by rw[List.length_append,HSL.out];omega)] at q3
      rw[HSP.out,List.drop_left' HSL.out] at q5
      have Q1:=hid q1
      have Q2:=hid q2
      have Q3:=hid q3
      have Q4:=hid q4
      have Q5:=hid q5
      clear q1 q2 q3 q4 q5 q6 st9
      go_wp2_with fail
      refine(readSpecial_any Q1.out w9 0 (s++[0]) Q2.out Q3.out (by rw[HSL.out];have:=HL2.out;omega)).mono ?_
      rintro e w10 ⟨all,rfl,hown,hk10,hi10⟩
      have st10:FSt E B T v S inv R w rest2 l nh pax pm (.map none) f h0 (s.length+1) 0 w10:=Q5.out w10 hk10 hi10
      clear Q1 Q2 Q3 Q4 Q5 hk10 hi10
      have cT:w10.cell? ⟨nh,0,none⟩=some (.int .u8 h0.typ.toNat):=cell_of st10.row 0 rfl
      have cTa:∀o:Obj,(w10.alloc o).cell? ⟨nh,0,none⟩=some (.int .u8 h0.typ.toNat):=fun o=>((Kp.refl (fun _=>False) w10).alloc o).cell cT (fun h=>h)
      have ST10:=hid st10
      have HO:=hid hown
      clear st10 hown
      rw[if_pos rfl]
      have HPS:∀(o:Obj) (p:Value),Calls Tryz.prog 133 #[p,all] (w10.alloc o) fun e w'=>e=.returned (.string ⟨s.toArray⟩)∧w'=w10.alloc o:=by
       intro o p
       have:=parseString_own (p:=p) (HO.out.keep ((Kp.refl (fun _=>False) w10).alloc o) (fun _ _ h=>h)) (by rw[HSL.out];have:=HL2.out;omega) (by simp)
       rwa[textOf_app s [] HZ.out] at this
      have HPSH:=fun o p=>hid (HPS o p)
      clear HPS
      go_wp2_with fail
      refine(HPSH _ _).out.mono ?_
      rintro e w12 ⟨rfl,rfl⟩
      go_wp2_with fail
      go_roundg rest2.length
      case measure=>have:=HME.out;omega
      case rel=>
       have ST12:∀o:Obj,FSt E B T v S inv R w rest2 l nh pax pm (.map none) f h0 (s.length+1) 0 (w10.alloc o):=fun o=>ST10.out.kpf HS.out.rd ((Kp.refl (fun _=>False) w10).alloc o)
       exact⟨0,zpad (s.length+1),pax,ln,s,rest2,_,Nat.le_refl _,rfl,rfl,rfl,(ST12 _).round HS.out.rd (Nat.zero_le _) (ST12 _).paxv HH.out ⟨hlens.out.1,by have:=HL2.out;omega⟩ hplen.out⟩
     |cut _ _ ht hs htl hsm=>
      have hdl:datLen h0=h0.size.toNat:=datLen_meta ht
      have hlt:rest'.length<h0.size.toNat:=by omega
      have hbd:h0.size.toNat≤4611686018427387904:=by omega
      have HDL:=hid hdl
      have HLT:=hid hlt
      have HBD:=hid hbd
      have HL2:=hid htl
      clear hc' HC' hs htl hsm hdl hlt hbd
      rcases ht with ht|ht|ht|ht
      ·have t1:((h0.typ.toNat:Int)==120)=true:=hyt 120 ht
       clear hnt hyt ht
       go_wp2_with fail
       refine(ST8.out.only' HS.out.rd _).mono ?_
       rintro e w9 ⟨rfl,st9⟩
       clear ST8 cT
       rw[HDL.out] at st9
       obtain⟨S2,inv2,q1,q2,q3,q4,q6,q5⟩:=st9.spec HS.out.rd HBD.out
       rw[List.take_of_length_le (Nat.le_of_lt HLT.out),endOf_gt (by have:=HLT.out;omega)] at q3
       have Q1:=hid q1
       have Q2:=hid q2
       have Q3:=hid q3
       have Q4:=hid q4
       have Q6:=hid q6
       clear q1 q2 q3 q4 q5 q6 st9
       go_wp2_with fail
       refine(parsePAX_err Q1.out w9 rest' Q2.out Q3.out HL2.out).mono ?_
       rintro e w10 ⟨rfl,hk10,hi10⟩
       have hkk:=Q4.out w10 hk10
       have hra:=hid (Q6.out w10 _ hi10)
       clear Q1 Q2 Q3 Q4 Q6 hk10 hi10
       go_wp2_with fail
       go_ret2
       exact⟨hkk,rfl,hra.out⟩
      ·have t1:((h0.typ.toNat:Int)==120)=false:=hnt 120 (by rw[ht];decide)
       have t2:((h0.typ.toNat:Int)==103)=true:=hyt 103 ht
       clear hnt hyt ht
       go_wp2_with fail
       refine(ST8.out.only' HS.out.rd _).mono ?_
       rintro e w9 ⟨rfl,st9⟩
       clear ST8 cT
       rw[HDL.out] at st9
       obtain⟨S2,inv2,q1,q2,q3,q4,q6,q5⟩:=st9.spec HS.out.rd HBD.out
       rw[List.take_of_length_le (Nat.le_of_lt HLT.out),endOf_gt (by have:=HLT.out;omega)] at q3
       have Q1:=hid q1
       have Q2:=hid q2
       have Q3:=hid q3
       have Q4:=hid q4
       have Q6:=hid q6
       clear q1 q2 q3 q4 q5 q6 st9
       go_wp2_with fail
       refine(parsePAX_err Q1.out w9 rest' Q2.out Q3.out HL2.out).mono ?_
       rintro e w10 ⟨rfl,hk10,hi10⟩
       have hkk:=Q4.out w10 hk10
       have hra:=hid (Q6.out w10 _ hi10)
       clear Q1 Q2 Q3 Q4 Q6 hk10 hi10
       go_wp2_with fail
       go_ret2
       exact⟨hkk,rfl,hra.out⟩
      ·have t1:((h0.typ.toNat:Int)==120)=false:=hnt 120 (by rw[ht];decide)
       have t2:((h0.typ.toNat:Int)==103)=false:=hnt 103 (by rw[ht];decide)
       have t3:((h0.typ.toNat:Int)==76)=true:=hyt 76 ht
       clear hnt hyt ht
       go_wp2_with fail
       refine(ST8.out.only' HS.out.rd _).mono ?_
       rintro e w9 ⟨rfl,st9⟩
       clear ST8 cT
       rw[HDL.out] at st9
       obtain⟨S2,inv2,q1,q2,q3,q4,q6,q5⟩:=st9.spec HS.out.rd HBD.out
       rw[List.take_of_length_le (Nat.le_of_lt HLT.out),endOf_gt (by have:=HLT.out;omega)] at q3
       have Q1:=hid q1
       have Q2:=hid q2
       have Q3:=hid q3
       have Q4:=hid q4
       have Q6:=hid q6
       clear q1 q2 q3 q4 q5 q6 st9
       go_wp2_with fail
       refine(readSpecial_any Q1.out w9 5 rest' Q2.out Q3.out HL2.out).mono ?_
       rintro e w10 ⟨all,rfl,_,hk10,hi10⟩
       rw[if_neg (by decide)]
       have hkk:=Q4.out w10 hk10
       have hra:=hid (Q6.out w10 _ hi10)
       clear Q1 Q2 Q3 Q4 Q6 hk10 hi10
       go_wp2_with fail
       go_ret2
       exact⟨hkk,rfl,hra.out⟩
      ·have t1:((h0.typ.toNat:Int)==120)=false:=hnt 120 (by rw[ht];decide)
       have t2:((h0.typ.toNat:Int)==103)=false:=hnt 103 (by rw[ht];decide)
       have t3:((h0.typ.toNat:Int)==76)=false:=hnt 76 (by rw[ht];decide)
       have t4:((h0.typ.toNat:Int)==75)=true:=hyt 75 ht
       clear hnt hyt ht
       go_wp2_with fail
       refine(ST8.out.only' HS.out.rd _).mono ?_
       rintro e w9 ⟨rfl,st9⟩
       clear ST8 cT
       rw[HDL.out] at st9
       obtain⟨S2,inv2,q1,q2,q3,q4,q6,q5⟩:=st9.spec HS.out.rd HBD.out
       rw[List.take_of_length_le (Nat.le_of_lt HLT.out),endOf_gt (by have:=HLT.out;omega)] at q3
       have Q1:=hid q1
       have Q2:=hid q2
       have Q3:=hid q3
       have Q4:=hid q4
       have Q6:=hid q6
       clear q1 q2 q3 q4 q5 q6 st9
       go_wp2_with fail
       refine(readSpecial_any Q1.out w9 5 rest' Q2.out Q3.out HL2.out).mono ?_
       rintro e w10 ⟨all,rfl,_,hk10,hi10⟩
       rw[if_neg (by decide)]
       have hkk:=Q4.out w10 hk10
       have hra:=hid (Q6.out w10 _ hi10)
       clear Q1 Q2 Q3 Q4 Q6 hk10 hi10
       go_wp2_with fail
       go_ret2
       exact⟨hkk,rfl,hra.out⟩
theorem RhIn.setErr {E:Nat→Addr}{B:Nat}{T:TypeId}{v:Value}{S:Nat→Prop}{inv:World→Nat→List UInt8→Prop}(hR:IsRd E B T v S inv)
  {R:Nat} {pad:Int} {curr:Value} {blk:List Value} {err:Value} {rest:List UInt8} {w:World} (h:RhIn E B T v S inv R pad curr blk err rest w) (q:Value) :
  RhIn E B T v S inv R pad curr blk q rest (w.setCell ⟨R,515,none⟩ q):=by
 have k:Kp (· =R) w (w.setCell ⟨R,515,none⟩ q):=Kp.setCell (S:=(· =R)) (p:=⟨R,515,none⟩) (Kp.refl _ w) (.inl rfl) _
 have h16:=h.low
 have hab:=h.above
 have hset:=heap_set h.row 515 q
 rw[trRow_set_err h.blen] at hset
 exact⟨h.glob.keep k (by rintro b rfl;exact h.above),Utf8Tabs.keep h.tabs k (fun h1=>by omega) (fun h1=>by omega),h.low,hR.frame h.rd (fun b hb=>k.block b ((hR.foot h.rd).2 b hb) (fun e=>h.out (e▸hb))),hset,h.blen,h.out,h.above⟩
theorem RowAt.setErr {w:World}{R:Nat}(h:RowAt w R)(q:Value):RowAt (w.setCell ⟨R,515,none⟩ q) R:=by
 obtain⟨x,pad,cur,blk,err,h1,h2⟩:=h
 have:=heap_set h2 515 q
 rw[trRow_set_err h1] at this
 exact⟨x,pad,cur,blk,q,h1,this⟩
theorem RowAt.cell {w:World}{R:Nat}(h:RowAt w R):(∃q,w.cell? ⟨R,515,none⟩=some q)∧w.frozen? ⟨R,515,none⟩=false:=by
 obtain⟨x,pad,cur,blk,err,h1,h2⟩:=h
 exact⟨⟨err,cell_of h2 515 (trRow_err h1)⟩,free_of h2 515⟩
theorem Next_any {E:Nat→Addr}{B:Nat}{T:TypeId}{v:Value}{S:Nat→Prop}{inv:World→Nat→List UInt8→Prop}(hs:IsSrc E B T v S inv)
  (w:World) (R nb pad:Nat) (src:List UInt8) (out:Out) (hi:NxIn E B T v S inv R nb pad src w) (hh:HeadP nb pad none [] [] src out) :
  Calls Tryz.prog 43 #[.pointer (some ⟨R,0,none⟩)] w (NxOut E B T v S inv R w out):=by
 have c4:w.cell? ⟨R,515,none⟩=some .nilIface:=by
  obtain⟨cur,blk,h,_⟩:=hi
  exact cell_of h.row 515 (by rw[List.getElem?_toArray];simp[trRow,h.blen])
 have HC:=hid (next_any hs w R nb pad src out hi hh)
 have hRw:R<w.heap.size:=by obtain⟨cur,blk,h,_⟩:=hi;exact lt_of h.row
 clear hi hh
 go_enter Tryz.func43,Tryz.ntmps43
 go_wp2_with fail
 refine HC.out.mono ?_
 rintro e w1 h1
 have kset:∀q,Kp (· =R) w1 (w1.setCell ⟨R,515,none⟩ q):=fun q=>Kp.setCell (S:=(· =R)) (p:=⟨R,515,none⟩) (Kp.refl _ w1) (.inl rfl) _
 cases out with
 |fail g=>
  obtain⟨kp,rfl,hr⟩:=h1
  obtain⟨⟨q,hq⟩,hz⟩:=hr.cell
  have fin:NxOut E B T v S inv R w (.fail g) (.returned (.tuple #[.pointer none,errv (E g)])) (w1.setCell ⟨R,515,none⟩ (errv (E g))):=⟨kp.then (kset _) (fun _ _ h=>.inr h),rfl,hr.setErr _⟩
  obtain⟨et,ev,he⟩:∃t v,errv (E g)=.iface t v:=⟨_,_,rfl⟩
  rw[he] at fin ⊢
  have FIN:=hid fin
  clear fin hr HC c4 kset kp he
  go_wp2_with fail
  go_ret2
  exact FIN.out
 |file h pax src'=>
  obtain⟨kp,nh,Rf,blk,f,pm,rfl,h1,h2,h3,h4,h5,h6,h7⟩:=h1
  obtain⟨⟨q,hq⟩,hz⟩:=h6.rowAt.cell
  have fin:NxOut E B T v S inv R w (.file h pax src') (.returned (.tuple #[.pointer (some ⟨nh,0,none⟩), .nilIface])) (w1.setCell ⟨R,515,none⟩ .nilIface):=
   ⟨kp.then (kset _) (fun _ _ h=>.inr h),nh,Rf,blk,f,pm,rfl,h1,h2,(kset _).heap h3 (by omega),h4.keep (kset _) (fun b e=>by have:=h5 b e;omega),h5,h6.setErr hs.rd _,(kset _).heap h7 (by omega)⟩
  have FIN:=hid fin
  clear fin HC c4 kset kp h3 h4 h6 h7
  go_wp2_with fail
  go_ret2
  exact FIN.out
 |glob name rs pad' src'=>
  obtain⟨kp,nh,Rf,blk,f,b,rfl,h1,h2,h3,h4,h5,h6,h7⟩:=h1
  obtain⟨⟨q,hq⟩,hz⟩:=h6.rowAt.cell
  have fin:NxOut E B T v S inv R w (.glob name rs pad' src') (.returned (.tuple #[.pointer (some ⟨nh,0,none⟩), .nilIface])) (w1.setCell ⟨R,515,none⟩ .nilIface):=
   ⟨kp.then (kset _) (fun _ _ h=>.inr h),nh,Rf,blk,f,b,rfl,h1,h2,h3,(kset _).heap h4 (by omega),h5.keep (kset _) (fun b' e=>by injection e with e;injection e with e;omega),h6.setErr hs.rd _,(kset _).heap h7 (by omega)⟩
  have FIN:=hid fin
  clear fin HC c4 kset kp h4 h5 h6 h7
  go_wp2_with fail
  go_ret2
  exact FIN.out
theorem zero158:Tryz.zeroCells158=(trRow .nilIface 0 .nilIface (ubs zblk) .nilIface).toArray:=by kernel_rfl
theorem row158 (a c:Value):((Tryz.zeroCells158.setIfInBounds 0 a).setIfInBounds 2 c)=(trRow a 0 c (ubs zblk) .nilIface).toArray:=by
 rw[zero158,sA,sA]
 rfl
theorem newReader_any {E:Nat→Addr}{B:Nat}{T:TypeId}{v:Value}{S:Nat→Prop}{inv:World→Nat→List UInt8→Prop}(hR:IsRd E B T v S inv)
  (w:World) (src:List UInt8) (hG:Glob E B w) (ht:Lib.Utf8Tabs 14 15 w) (h16:16≤B) (hi:inv w 0 src) :
  Calls Tryz.prog 40 #[.iface T v] w fun e w'=>∃R,e=.returned (.pointer (some ⟨R,0,none⟩))∧w.heap.size≤R∧Kp (fun _=>False) w w'∧NxIn E B T v S inv R 0 0 src w':=by
 have hB:B≤w.heap.size:=hG.size
 have k1:∀o1 o2,Kp (fun _=>False) w ((w.alloc o1).alloc o2):=fun o1 o2=>((Kp.refl _ _).alloc _).alloc _
 have hS:∀k,S k→k<w.heap.size:=(hR.foot hi).2
 have fin:∀a c,(a=.iface T v)→c=.iface 150 (.pointer (some ⟨w.heap.size,0,none⟩))→NxIn E B T v S inv (w.heap.size+1) 0 0 src ((w.alloc (.cells #[.iface T v, .int .i64 0] 152)).alloc (.cells ((Tryz.zeroCells158.setIfInBounds 0 a).setIfInBounds 2 c) 158)):=by
  rintro a c rfl rfl
  have k:=k1 (.cells #[.iface T v, .int .i64 0] 152) (.cells ((Tryz.zeroCells158.setIfInBounds 0 (.iface T v)).setIfInBounds 2 (.iface 150 (.pointer (some ⟨w.heap.size,0,none⟩)))) 158)
  have hn:=heap_new (w.alloc (.cells #[.iface T v, .int .i64 0] 152)) (.cells ((Tryz.zeroCells158.setIfInBounds 0 (.iface T v)).setIfInBounds 2 (.iface 150 (.pointer (some ⟨w.heap.size,0,none⟩)))) 158)
  have hsz:(w.alloc (.cells #[.iface T v, .int .i64 0] 152)).heap.size=w.heap.size+1:=by show (w.heap.push _).size=_;simp
  rw[hsz] at hn
  have hr:((w.alloc (.cells #[.iface T v, .int .i64 0] 152)).alloc (.cells ((Tryz.zeroCells158.setIfInBounds 0 (.iface T v)).setIfInBounds 2 (.iface 150 (.pointer (some ⟨w.heap.size,0,none⟩)))) 158)).heap[w.heap.size]?=some (.cells #[.iface T v, .int .i64 0] 152 (0,0)):=by
   have h1:=heap_new w (.cells #[.iface T v, .int .i64 0] 152)
   exact((Kp.refl (fun _=>False) (w.alloc (.cells #[.iface T v, .int .i64 0] 152))).alloc _).heap h1 (fun h=>h)
  refine⟨_,ubs zblk,⟨hG.keep k (fun _ h=>h.elim),Utf8Tabs.keep ht k (fun h=>h) (fun h=>h),h16,hR.frame hi (fun b hb=>k.block b (hS b hb) (fun h=>h)),?_,by rw[ubs_length];rfl,fun h=>by have:=hS _ h;omega,by omega⟩,curOk_reg (nb:=0) hr,by omega,by omega⟩
  rw[hn,row158]
  rfl
 go_enter Tryz.func40,Tryz.ntmps40
 go_wp2_with fail
 go_ret
 exact⟨w.heap.size+1,rfl,by omega,k1 _ _,fin _ _ rfl rfl⟩
theorem isSrc_bytes {E:Nat→Addr}{B S D:Nat}(hS:B≤S)(hD:B≤D):IsSrc E B 94 (.pointer (some ⟨S,0,none⟩)) (fun k=>k=S∨k=D) (BrInv S D):=
 ⟨isRd_bytes hS hD,fun w n rest hG hi hn=>discard_bytes hS hD w n rest hG hi hn⟩
theorem bytesNewReader (w:World)(A:Option Addr)(n c:Nat):Calls Tryz.prog 41 #[.slice A n c] w fun e w'=>e=.returned (.pointer (some ⟨w.heap.size,0,none⟩))∧w'=w.alloc (.cells #[.slice A n c, .int .i64 0, .int .i64 (-1)] 160):=by
 go_enter Tryz.func41,Tryz.ntmps41
 go_wp2_with fail
 go_ret
 exact⟨rfl,rfl⟩
theorem clone_any (w:World)(b off c:Nat)(l:List UInt8)(hl:BytesAt w b off l)(hlen:l.length≤140737488355328) :
  Calls Tryz.prog 42 #[.slice (some ⟨b,off,none⟩) l.length c] w fun e w'=>∃v,e=.returned v∧OwnB w' w.heap.size v l∧v.ownBlock≠none∧Kp (fun _=>False) w w':=by
 have hnil:∀w,(binOp .eql 27 (.slice (some ⟨b,off,none⟩) l.length c) (.slice none 0 0)).run Tryz.prog w=.ok (.bool false) w:=fun _=>by kernel_rfl
 have hown:OwnB (w.alloc (.cells #[] 5)) w.heap.size (.slice (some ⟨w.heap.size,0,none⟩) 0 0) []:=World.ownsRow_made w #[] 0 (Nat.le_refl _) (by decide) rfl
 have hka:Kp (fun _=>False) w (w.alloc (.cells #[] 5)):=(Kp.refl _ _).alloc _
 have hcells:∀(j:Nat) (u:Value),(ubs l)[j]?=some u→(w.alloc (.cells #[] 5)).cell? ((⟨b,off,none⟩:Addr).add j)=some u:=fun j u hu=>by
  rw[add_plain']
  exact hka.cell (hl j u hu) (fun h=>h)
 have hsz:(w.alloc (.cells #[] 5)).heap.size=w.heap.size+1:=by show (w.heap.push _).size=_;simp
 have HL:=hid hl
 clear hl
 go_enter Tryz.func42,Tryz.ntmps42
 go_wp2_with (at_builtin;refine wp_append rfl (.tmp 5) (.tmp 6) rfl w.heap.size _ [] rfl hown ⟨b,off,none⟩ l.length c l rfl rfl hcells (by simpa using hlen) (by rw[hsz];omega) ?_;intro v2 w2 hown2 hk2 hat2)
 go_ret
 have hv2:v2.ownBlock≠none:=by
  rcases hat2 with h|h
  ·rw[h];exact fun e=>by cases e
  ·rw[h];exact fun e=>by cases e
 refine⟨v2,rfl,by simpa using hown2,hv2,hka.then hk2 (fun i hi h=>?_)⟩
 have h':some i=some w.heap.size:=h
 injection h' with h'
 omega
theorem source_bytes {w:World}{base:Nat}{v:Value}{l:List UInt8}(h:OwnB w base v l)(hv:v.ownBlock≠none)(hl:l.length≤281474976710656) :
  ∃D c,v=.slice (some ⟨D,0,none⟩) l.length c∧base≤D∧D<w.heap.size∧BrInv w.heap.size D (w.alloc (.cells #[v, .int .i64 0, .int .i64 (-1)] 160)) 0 l:=by
 have hc:=fun g hg=>World.ownsRow.cells h (g:=g) hg
 rcases h.2 with ⟨rfl,h0⟩|⟨g,cap,cur,rfl,hg,hh,h3,h4,h5⟩
 ·exact absurd rfl hv
 ·have hgs:=lt_of hh
  refine⟨g,cap,rfl,hg,hgs,rfl,by omega,l,some ⟨g,0,none⟩,0,cap, .int .i64 (-1),160,5,(0,0),cur,heap_new w _,?_,fun _=>rfl,?_,h3,hl,Nat.zero_le _,rfl⟩
  ·exact((Kp.refl (fun _=>False) w).alloc _).heap hh (fun h=>h)
  ·intro j u hu
   have:=hc g rfl j u hu
   rw[add_plain',Nat.zero_add] at this
   simp[World.cell?,hh] at this
   exact this
end Go.Proofs.YtgfcnjfmmjcodaaGreatDoor
