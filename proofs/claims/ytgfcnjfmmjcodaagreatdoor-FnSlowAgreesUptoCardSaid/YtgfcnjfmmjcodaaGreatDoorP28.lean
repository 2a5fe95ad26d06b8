/- Can of the specification. -/
import Derived.Test.YtgfcnjfmmjcodaaGreatDoorP23
import Derived.Test.YtgfcnjfmmjcodaaGreatDoorP26
set_option linter.all false
set_option maxRecDepth 100000
set_option maxHeartbeats 1000000
open Go.Lib (hid)
namespace Go.Proofs.YtgfcnjfmmjcodaaGreatDoor
open Go Go.RowKit
set_option maxHeartbeats 40000000 in
theorem Uj (w:World)(h0:Hd)(rv:Value)(f:Int)(hf:f=1∨f=2∨f=3)(hra:RecsAt w w.heap.size rv h0.recs)(hw:weight h0≤1099511627776) :
  Calls Tryz.prog 48 #[.agg (Bd h0 rv).toArray, .int .i64 f] w fun e w'=>Hid (Oh h0 f e)∧Kp (fun _=>False) w w':=by
 have hone:=fun h=>Dx (h:=h) (M9 hra);have hwl:h0.name.length≤1099511627776∧h0.link.length≤1099511627776∧h0.un.length≤1099511627776∧h0.gn.length≤1099511627776∧h0.recs.length≤1099511627776:=by
  have h2:=Ki h0.recs;rw[C9] at hw;omega
 obtain⟨A,c,rfl⟩:=hra.shape;have HONE:=hid hone;have HRA:=hid hra;have HST:=fun W (k:Kp (fun _=>False) w W)=>hid (Lj W h0 w.heap.size (.slice A h0.recs.length c) (hra.keep k (fun _ h=>h.elim)) k.size hw);have HPR:=fun W=>hid (Ke W h0 (.slice A h0.recs.length c) rfl hwl.1);obtain⟨hv,hhv⟩:∃hv:Array Value,(Bd h0 (.slice A h0.recs.length c)).toArray=hv:=⟨_,rfl⟩;rw[hhv];clear hra hone;go_enter Tryz.func48,Tryz.ntmps48
 go_upto_region 1 with fail
 refine E7 ?_;intro wA gA kA sA;rw[←hhv] at gA;have GA:=hid gA;have KA:=hid kA;clear hhv gA kA
 first
  |refine wpList_load_row rfl 45 (.tmp 2) rfl w.heap.size rfl 45 (Bd h0 (.slice A h0.recs.length c)).toArray (0,0) _ GA.out Tryz.underlying45 rfl (by kernel_rfl) ?_
  |(go_step;refine wpList_load_row rfl 45 (.tmp 2) rfl w.heap.size rfl 45 (Bd h0 (.slice A h0.recs.length c)).toArray (0,0) _ GA.out Tryz.underlying45 rfl (by kernel_rfl) ?_)
  |(go_step;go_step;refine wpList_load_row rfl 45 (.tmp 2) rfl w.heap.size rfl 45 (Bd h0 (.slice A h0.recs.length c)).toArray (0,0) _ GA.out Tryz.underlying45 rfl (by kernel_rfl) ?_)
 go_wp2_with fail
 refine(HST wA KA.out).out.mono ?_;rintro e w1 ⟨hx1,k1⟩;obtain⟨b,rfl,hsane⟩:=hx1.out;cases b with
 |true=>
  have FIN:Hid (Oh h0 f (.returned (.int .i64 0))∧Kp (fun _=>False) w w1):=⟨⟨0,rfl, .inl rfl,fun h=>absurd h (by decide)⟩,KA.out.trans k1⟩
  go_wp2_with fail
  go_ret
  exact FIN.out
 |false=>
 have HSANE:=hid (hsane rfl);have G1:=hid (k1.heap GA.out (fun h=>h));have K1:=hid (KA.out.trans k1);clear hsane k1 HST GA KA;go_upto_region 4 with fail
 first
  |refine wpList_load_row rfl 45 (.tmp 2) rfl w.heap.size rfl 45 (Bd h0 (.slice A h0.recs.length c)).toArray (0,0) _ G1.out Tryz.underlying45 rfl (by kernel_rfl) ?_
  |(go_step;refine wpList_load_row rfl 45 (.tmp 2) rfl w.heap.size rfl 45 (Bd h0 (.slice A h0.recs.length c)).toArray (0,0) _ G1.out Tryz.underlying45 rfl (by kernel_rfl) ?_)
  |(go_step;go_step;refine wpList_load_row rfl 45 (.tmp 2) rfl w.heap.size rfl 45 (Bd h0 (.slice A h0.recs.length c)).toArray (0,0) _ G1.out Tryz.underlying45 rfl (by kernel_rfl) ?_)
 go_wp2_with fail
 refine(HPR w1).out.mono ?_;rintro e w2 ⟨rfl,k2⟩;have ht0:=Bap h0;have hrc:=Hb h0;have hl1:(Bq h0).name.length≤1099511627776:=by rw[Yd];omega
 have hl2:(Bq h0).link.length≤1099511627776:=by rw[Ye];omega
 have hl3:(Bq h0).un.length≤1099511627776:=by rw[Bcx];omega
 have hl4:(Bq h0).gn.length≤1099511627776:=by rw[Bcy];omega
 have hl5:(Bq h0).recs.length≤1099511627776:=by rw[hrc];omega
 have HR0:Hid (RecsAt w w.heap.size (.slice A h0.recs.length c) (Bq h0).recs):=by rw[hrc];exact HRA.out
 have G2:=hid (k2.heap G1.out (fun h=>h));have K2:=hid (K1.out.trans k2);dsimp only;rename_i K hK;refine hK _ _ ?_;clear hK k2 G1 K1 HPR;obtain⟨h,hh⟩:∃h,Bq h0=h:=⟨_,rfl⟩;obtain⟨rv,hrv⟩:∃rv:Value, .slice A h0.recs.length c=rv:=⟨_,rfl⟩;rw[hh] at ht0 hrc hl1 hl2 hl3 hl4 hl5 HR0;rw[hrv] at HR0 G2 HONE;rw[hh,hrv];have HHH:=hid hh;have HRV:Hid (rv=.slice A h.recs.length c):=by show _=_;rw[←hrv,hrc]
 refine wpList_store_row rfl 45 (.tmp 2) (.tmp 12) rfl w.heap.size (Bd h rv).toArray rfl rfl 45 _ G2.out (by kernel_rfl) (by rfl) (HONE.out h) ?_
 have ST:Hid (CnSt w h rv (w2.setRow w.heap.size (Bd h rv).toArray)):=⟨Gd G2.out _,K2.out.setRow (.inr (Nat.le_refl _)) _⟩;generalize w2.setRow w.heap.size (Bd h rv).toArray=wB at ST ⊢;have HWT:Hid (∀x∈h.recs,x.1.length+x.2.length≤1099511627776):=by
  show ∀x∈h.recs,_;intro x hx;rw[hrc] at hx;have h2:=Bcz hx;rw[C9] at hw;omega
 clear G2 K2 HRA hh hrv hwl hrc HONE;have T0:((h.typ.toNat:Int) != 0)=true:=by
  rw[bne_iff_ne];intro e;apply ht0;apply UInt8.toNat_inj.1;show h.typ.toNat=0;omega
 go_upto_region 5 with fail
 try simp only[Act.put]
 go_cut [60] from 13 to 60 (fun s60 wx=>∃b:Bool,s60=.bool b∧Hid (CdR b (Ie h f 0) wB wx))
 case first=>
  have c0:wB.cell? ⟨w.heap.size,0,none⟩=some (.int .u8 (h.typ.toNat:Int)):=ST.out.cell 0 rfl;have c1:wB.cell? ⟨w.heap.size,1,none⟩=some (.string ⟨h.name.toArray⟩):=ST.out.cell 1 rfl;have c2:wB.cell? ⟨w.heap.size,2,none⟩=some (.string ⟨h.link.toArray⟩):=ST.out.cell 2 rfl;have HSL:=fun W=>hid (Li W h.name hl1);obtain⟨b1,e1⟩:∃b,decide ((h.typ.toNat:Int)<48)=b:=⟨_,rfl⟩;obtain⟨b2,e2⟩:∃b,decide ((55:Int)<(h.typ.toNat:Int))=b:=⟨_,rfl⟩;obtain⟨b3,e3⟩:∃b,Ia h.name=b:=⟨_,rfl⟩;obtain⟨b4,e4⟩:∃b,((h.typ.toNat:Int) != 53)=b:=⟨_,rfl⟩;obtain⟨b5,e5⟩:∃b,((h.typ.toNat:Int) != 49)=b:=⟨_,rfl⟩;obtain⟨b6,e6⟩:∃b,((h.typ.toNat:Int) != 50)=b:=⟨_,rfl⟩;obtain⟨bn,en⟩:∃b,h.name.isEmpty=b:=⟨_,rfl⟩;obtain⟨bl,el⟩:∃b,h.link.isEmpty=b:=⟨_,rfl⟩;rw[e3] at HSL;have N1:Hid (CdR true (Ie h f 0) wB wB):=⟨fun e=>(by cases e),Kp.refl _ _⟩
  have F:Hid (b1=false→b2=false→bn=false→(b3&&b4|| !bl&&(b5&&b6))=false→Hid (CdR false (Ie h f 0) wB wB)):=by
   show _→_→_→_→_;intro f1 f2 f3 f4;subst f1 f2 f3;simp only[decide_eq_false_iff_not] at e1 e2;refine⟨fun _=>⟨by omega,?_,?_,?_⟩,Kp.refl _ _⟩
   ·intro e;rw[e] at en;cases en
   ·intro e;rw[e3] at e;subst e;simp only[Bool.true_and,Bool.or_eq_false_iff] at f4;rw[f4.1,bne_eq_false_iff_eq] at e4;omega
   ·intro e;have:bl=false:=by
     rw[←el];cases hq:h.link with
     |nil=>exact absurd hq e
     |cons a l=>rfl
    subst this;simp only[Bool.not_false,Bool.true_and,Bool.or_eq_false_iff,Bool.and_eq_false_iff] at f4;rcases f4.2 with f5|f5
    ·rw[f5,bne_eq_false_iff_eq] at e5;omega
    ·rw[f5,bne_eq_false_iff_eq] at e6;omega
  cases b1 with
  |true=>
   (go_wp2_with fail);go_meet
   case rel=>exact⟨true,rfl,N1⟩
  |false=>
  cases b2 with
  |true=>
   (go_wp2_with fail);go_meet
   case rel=>exact⟨true,rfl,N1⟩
  |false=>
  cases bn with
  |true=>
   (go_wp2_with fail);go_meet
   case rel=>exact⟨true,rfl,N1⟩
  |false=>
  cases b3<;>cases b4<;>cases bl<;>cases b5<;>cases b6<;>(
   (go_wp2_with fail);refine(HSL _).out.mono ?_;rintro e w1 ⟨rfl,rfl⟩;(go_wp2_with fail);go_meet
   case rel=>first|exact⟨true,rfl,N1⟩|exact⟨false,rfl,F.out (by first|rfl|trivial) (by first|rfl|trivial) (by first|rfl|trivial) (by first|rfl|trivial)⟩
  )
 case rest=>
 obtain⟨b,rfl,RB⟩:=hcut;go_upto_if 60 with fail
 try simp only[Act.put]
 go_cut [5] from 60 to 60 (fun s5 wx=>∃v:Int,s5=.int .i64 v∧Hid (CnR w h rv f 1 v wx))
 case first=>
  cases b with
  |true=>
   have NX:Hid (CnR w h rv f 1 0 wc):=CnR.open_ (ST.out.grow RB.out.2);(go_wp2_with fail);go_meet
   case rel=>exact⟨0,rfl,NX⟩
  |false=>
   have NX:Hid (CnR w h rv f 1 1 wc):=⟨.inr (.inl rfl),fun _=>(CanTo.zero h f).step (RB.out.1 rfl),ST.out.grow RB.out.2⟩;(go_wp2_with fail);go_meet
   case rel=>exact⟨1,rfl,NX⟩
 case rest=>
 obtain⟨v,rfl,R0⟩:=hcut;go_upto_region 7 with fail
 try simp only[Act.put]
 go_cut [78] from 61 to 78 (fun s78 wx=>∃b:Bool,s78=.bool b∧Hid (CdR b (Ie h f 1) wc wx))
 case first=>
  have c0:wc.cell? ⟨w.heap.size,0,none⟩=some (.int .u8 (h.typ.toNat:Int)):=R0.out.2.2.cell 0 rfl;have c1:wc.cell? ⟨w.heap.size,17,none⟩=some (.int .i64 h.maj):=R0.out.2.2.cell 17 rfl;have c2:wc.cell? ⟨w.heap.size,18,none⟩=some (.int .i64 h.min):=R0.out.2.2.cell 18 rfl;obtain⟨b1,e1⟩:∃b,((h.typ.toNat:Int) != 51)=b:=⟨_,rfl⟩;obtain⟨b2,e2⟩:∃b,((h.typ.toNat:Int) != 52)=b:=⟨_,rfl⟩;obtain⟨b3,e3⟩:∃b,(h.maj != 0)=b:=⟨_,rfl⟩;obtain⟨b4,e4⟩:∃b,(h.min != 0)=b:=⟨_,rfl⟩;have N1:Hid (CdR true (Ie h f 1) wc wc):=⟨fun e=>(by cases e),Kp.refl _ _⟩
  have F:Hid ((b1&&b2&&(b3||b4))=false→Hid (CdR false (Ie h f 1) wc wc)):=by
   show _→_;intro f1;refine⟨fun _=>?_,Kp.refl _ _⟩;intro g1 g2;(have:b1=true:=by rw[←e1,bne_iff_ne];omega);subst this;(have:b2=true:=by rw[←e2,bne_iff_ne];omega);subst this;simp only[Bool.true_and,Bool.or_eq_false_iff] at f1;rw[f1.1,bne_eq_false_iff_eq] at e3;rw[f1.2,bne_eq_false_iff_eq] at e4;exact⟨e3,e4⟩
  cases b1<;>cases b2<;>cases b3<;>cases b4<;>(
   (go_wp2_with fail);go_meet
   case rel=>first|exact⟨true,rfl,N1⟩|exact⟨false,rfl,F.out (by first|rfl|trivial)⟩)
 case rest=>
 obtain⟨b,rfl,RB⟩:=hcut;go_upto_if 78 with fail
 try simp only[Act.put]
 go_cut [5] from 78 to 78 (fun s5 wx=>∃v:Int,s5=.int .i64 v∧Hid (CnR w h rv f 2 v wx))
 case first=>
  cases b with
  |true=>
   have NX:Hid (CnR w h rv f 2 0 wc):=CnR.open_ (R0.out.2.2.grow RB.out.2);(go_wp2_with fail);go_meet
   case rel=>exact⟨0,rfl,NX⟩
  |false=>
   have NX:Hid (CnR w h rv f 2 v wc):=R0.out.keep (RB.out.1 rfl) RB.out.2;(go_wp2_with fail);go_meet
   case rel=>exact⟨v,rfl,NX⟩
 case rest=>
 obtain⟨v,rfl,R0⟩:=hcut;go_upto_region 9 with fail
 go_cut [6] from 79 to 82 (fun s6 wx=>∃x:Int,s6=.int .i64 x∧Hid (TxV h.name 256 f x∧Kp (fun _=>False) wc wx))
 case first=>
  have c1:wc.cell? ⟨w.heap.size,1,none⟩=some (.string ⟨h.name.toArray⟩):=R0.out.2.2.cell 1 rfl;have HT:=hid (Bcw wc h.name 256 f hf hl1);go_wp2_with fail
  refine HT.out.mono ?_;rintro e w1 ⟨⟨x,rfl,hx⟩,rfl⟩;have NX:Hid (TxV h.name 256 f x∧Kp (fun _=>False) w1 w1):=⟨hx.out,Kp.refl _ _⟩;clear hx HT;go_wp2_with fail
  go_meet
  case rel=>exact⟨x,rfl,NX⟩
 case rest=>
 obtain⟨x,rfl,RX⟩:=hcut;replace R0:=hid (show CnR w h rv f 2 v wc from⟨R0.out.1,R0.out.2.1,R0.out.2.2.grow RX.out.2⟩)
 replace RX:=hid RX.out.1;go_upto_region 10 with fail
 try simp only[Act.put]
 go_cut [88] from 83 to 88 (fun s88 wx=>∃b:Bool,s88=.bool b∧Hid (CdC b f x wc wx))
 case first=>
  obtain⟨b1,e1⟩:∃b,(f==1)=b:=⟨_,rfl⟩;obtain⟨b2,e2⟩:∃b,(x==1)=b:=⟨_,rfl⟩;have F:Hid (∀b,(b=(b1&&b2))→Hid (CdC b f x wc wc)):=by
   show ∀b,_;rintro b rfl;refine⟨⟨fun g g1 g2=>?_,fun g=>?_⟩,Kp.refl _ _⟩
   ·subst g1 g2;subst e1 e2;cases g
   ·rw[Bool.and_eq_true] at g;rw[g.2] at e2;exact eq_of_beq e2
  cases b1<;>cases b2<;>(
   (go_wp2_with fail);go_meet
   case rel=>exact⟨_,rfl,F.out _ rfl⟩)
 case rest=>
 obtain⟨b,rfl,RB⟩:=hcut;go_upto_if 88 with fail
 try simp only[Act.put]
 go_cut [6] from 88 to 98 (fun s6 wx=>∃x:Int,s6=.int .i64 x∧Hid ((V3 x∧(x=1→NoNul h.name∧(f=1→Ascii h.name∧(h.name.length≤100∨Dj h.name))))∧CnR w h rv f 2 v wx))
 case first=>
  cases b with
  |false=>
   have NX:Hid ((V3 x∧(x=1→NoNul h.name∧(f=1→Ascii h.name∧(h.name.length≤100∨Dj h.name))))∧CnR w h rv f 2 v wc):=⟨⟨RX.out.1,fun e=>⟨(RX.out.2 e).nul,fun e1=>absurd e (RB.out.1.1 rfl e1)⟩⟩,R0.out.1,R0.out.2.1,R0.out.2.2.grow RB.out.2⟩;(go_wp2_with fail);go_meet
   case rel=>exact⟨x,rfl,NX⟩
  |true=>
   have RX1:=hid (RX.out.2 (RB.out.1.2 rfl));have c1:wc.cell? ⟨w.heap.size,1,none⟩=some (.string ⟨h.name.toArray⟩):=(R0.out.2.2.grow RB.out.2).cell 1 rfl;have HSP:=fun W=>hid (M8 W h.name hl1);have NXT:Hid (∀q:Bool,(q=true→h.name.length≤100∨Dj h.name)→Hid ((V3 (if q then 1 else 2)∧((if q then (1:Int) else 2)=1→NoNul h.name∧(f=1→Ascii h.name∧(h.name.length≤100∨Dj h.name))))∧CnR w h rv f 2 v wc)):=by
    show ∀q:Bool,_;intro q hq;exact⟨⟨Ch q,fun e=>⟨(RX1.out).nul,fun e2=>⟨(RX1.out.one e2).1,hq (Kh e)⟩⟩⟩,R0.out.1,R0.out.2.1,R0.out.2.2.grow RB.out.2⟩
   by_cases hl:h.name.length≤100
   ·(have t1:decide ((h.name.length:Int)≤100)=true:=decide_eq_true (by omega));have NX:=NXT.out true (fun _=>.inl hl);clear NXT;(go_wp2_with fail);refine(B0 _ _).mono ?_;rintro e w2 ⟨rfl,rfl⟩;(go_wp2_with fail);go_meet
    case rel=>exact⟨_,rfl,NX⟩
   ·(have t1:decide ((h.name.length:Int)≤100)=false:=decide_eq_false (by omega));obtain⟨b2,e2⟩:∃b,spB h.name=b:=⟨_,rfl⟩;have NX:=NXT.out b2 (fun e=>.inr ((Zc _).1 (e2.trans e)));rw[e2] at HSP;clear NXT e2;cases b2<;>(
     (go_wp2_with fail);refine(HSP _).out.mono ?_;rintro e w2 ⟨rfl,rfl⟩;(go_wp2_with fail);refine(B0 _ _).mono ?_;rintro e w2 ⟨rfl,rfl⟩;(go_wp2_with fail);go_meet
     case rel=>exact⟨_,rfl,NX⟩)
 case rest=>
 obtain⟨x6,rfl,R6⟩:=hcut;go_upto_region 12 with fail
 try simp only[Act.put]
 go_cut [5] from 99 to 114 (fun s5 wx=>∃v:Int,s5=.int .i64 v∧Hid (CnR w h rv f 3 v wx))
 case first=>
  have S0:wc.drew.cell? ⟨w.heap.size,2,none⟩=some (.string ⟨h.link.toArray⟩)∧wc.drew.cell? ⟨w.heap.size,7,none⟩=some (.string ⟨h.un.toArray⟩)∧wc.drew.cell? ⟨w.heap.size,8,none⟩=some (.string ⟨h.gn.toArray⟩)∧Kp (fun _=>False) wc wc.drew:=⟨R6.out.2.2.2.cell 2 rfl,R6.out.2.2.2.cell 7 rfl,R6.out.2.2.2.cell 8 rfl,(Kp.refl _ _).drew⟩;have FIN:Hid (∀x1 x2 x3 y wy,Hid (TxV h.link 100 f x1)→Hid (OwV h.un f x2)→Hid (OwV h.gn f x3)→V3 y→(y=1→∀u∈[v,x6,x1,x2,x3],u=1)→Kp (fun _=>False) wc wy→Hid (CnR w h rv f 3 y wy)):=by
   show ∀x1 x2 x3 y wy,_;intro x1 x2 x3 y wy g1 g2 g3 hy hyy k;exact R6.out.2.join hy (fun e=>hyy e v (by simp)) (fun e=>⟨R6.out.1.2 (hyy e x6 (by simp)),g1.out.2 (hyy e x1 (by simp)),g2.out.2 (hyy e x2 (by simp)),g3.out.2 (hyy e x3 (by simp))⟩) k
  have HV:=hid (And.intro R6.out.2.1 R6.out.1.1);have HT1:=fun W=>hid (Bcw W h.link 100 f hf hl2);have HO2:=fun W=>hid (Zf W h.un f hf hl3);have HO3:=fun W=>hid (Zf W h.gn f hf hl4);refine wp_region_held_drew (S:=fun w'=>w'.cell? ⟨w.heap.size,2,none⟩=some (.string ⟨h.link.toArray⟩)∧w'.cell? ⟨w.heap.size,7,none⟩=some (.string ⟨h.un.toArray⟩)∧w'.cell? ⟨w.heap.size,8,none⟩=some (.string ⟨h.gn.toArray⟩)∧Kp (fun _=>False) wc w') (by kernel_rfl) ?_ (fun hHeld=>?_)
  ·exact S0
  refine wpAnyH_take (i:=0) (v:=?_) rfl (by kernel_rfl) (by kernel_rfl) (by kernel_rfl) (fun _ _ _ h=>h) (Or.inl ⟨by rfl,?_⟩) (by assumption) ?_
  rotate_left 1
  ·intro W hSw;(try dsimp only at hSw);go_simp;(try with_reducible rfl)
  try simp only[Act.put,sA,sB,sC]
  refine wpAnyH_take (i:=1) (v:=?_) rfl (by kernel_rfl) (by kernel_rfl) (by kernel_rfl) (fun _ _ _ h=>h) (Or.inl ⟨by rfl,?_⟩) (by assumption) ?_
  rotate_left 1
  ·intro W hSw;(try dsimp only at hSw);go_simp;(try with_reducible rfl)
  try simp only[Act.put,sA,sB,sC]
  refine wpAnyH_take (i:=2) (v:=?_) rfl (by kernel_rfl) (by kernel_rfl) (by kernel_rfl) (fun _ _ _ h=>h) (Or.inl ⟨by rfl,?_⟩) (by assumption) ?_
  rotate_left 1
  ·intro W hSw;(try dsimp only at hSw);go_simp;(try with_reducible rfl)
  try simp only[Act.put,sA,sB,sC]
  refine wpAnyH_take (i:=3) (v:=?_) rfl (by kernel_rfl) (by kernel_rfl) (by kernel_rfl) (fun _ _ _ h=>h) (Or.inl ⟨by rfl,?_⟩) (by assumption) ?_
  rotate_left 1
  ·intro W hSw;(try dsimp only at hSw);go_simp;(try with_reducible rfl)
  try simp only[Act.put,sA,sB,sC]
  refine wpAnyH_take (i:=4) (v:=?_) rfl (by kernel_rfl) (by kernel_rfl) (by kernel_rfl) (fun _ _ _ h=>h) (Or.inl ⟨by rfl,?_⟩) (by assumption) ?_
  rotate_left 1
  ·intro W hSw;(try dsimp only at hSw);go_simp;(try with_reducible rfl)
  try simp only[Act.put,sA,sB,sC]
  refine wpAnyH_take (i:=6) (v:=?_) rfl (by kernel_rfl) (by kernel_rfl) (by kernel_rfl) (fun _ _ _ h=>h) (Or.inl ⟨by rfl,?_⟩) (by assumption) ?_
  rotate_left 1
  ·intro W hSw;(try dsimp only at hSw);go_simp;(try with_reducible rfl)
  try simp only[Act.put,sA,sB,sC]
  refine wpAnyH_take (i:=7) (v:=?_) rfl (by kernel_rfl) (by kernel_rfl) (by kernel_rfl) (fun _ _ _ h=>h) (Or.inl ⟨by rfl,?_⟩) (by assumption) ?_
  rotate_left 1
  ·intro W hSw;(try dsimp only at hSw);go_simp;(try with_reducible rfl)
  try simp only[Act.put,sA,sB,sC]
  refine wpAnyH_take (i:=8) (v:=?_) rfl (by kernel_rfl) (by kernel_rfl) (by kernel_rfl) (fun _ _ _ h=>h) (Or.inl ⟨by rfl,?_⟩) (by assumption) ?_
  rotate_left 1
  ·intro W hSw;(try dsimp only at hSw);go_simp;(try with_reducible rfl)
  try simp only[Act.put,sA,sB,sC]
  refine wpAnyH_take (i:=10) (v:=?_) rfl (by kernel_rfl) (by kernel_rfl) (by kernel_rfl) (fun _ _ _ h=>h) (Or.inl ⟨by rfl,?_⟩) (by assumption) ?_
  rotate_left 1
  ·intro W hSw;(try dsimp only at hSw);go_simp;(try with_reducible rfl)
  try simp only[Act.put,sA,sB,sC]
  refine wpAnyH_take (i:=11) (v:=?_) rfl (by kernel_rfl) (by kernel_rfl) (by kernel_rfl) (fun _ _ _ h=>h) (Or.inl ⟨by rfl,?_⟩) (by assumption) ?_
  rotate_left 1
  ·intro W hSw;(try dsimp only at hSw);go_simp;(try with_reducible rfl)
  try simp only[Act.put,sA,sB,sC]
  refine wpAnyH_take (i:=12) (v:=?_) rfl (by kernel_rfl) (by kernel_rfl) (by kernel_rfl) (fun _ _ _ h=>h) (Or.inl ⟨by rfl,?_⟩) (by assumption) ?_
  rotate_left 1
  ·intro W hSw;(try dsimp only at hSw);go_simp;(try with_reducible rfl)
  try simp only[Act.put,sA,sB,sC]
  refine wpAnyH_ready (rs:=[5]) (by kernel_rfl) (by simp) ?_
  refine AllReadyH.cons (o:=_) rfl (fun K hK=>?_) AllReadyH.nil;go_simp;go_at_call 84
  refine(HT1 _).out.mono ?_;rintro e w1 ⟨⟨x1,rfl,hx1⟩,rfl⟩;go_wp2_with fail
  refine hK.out _ _ ?_ (fun hHeld=>?_)
  ·exact hHeld
  clear hK K;try simp only[Act.put,sA,sB,sC]
  refine wpAnyH_ready (rs:=[9]) (by kernel_rfl) (by simp) ?_
  refine AllReadyH.cons (o:=_) rfl (fun K hK=>?_) AllReadyH.nil;go_simp;go_at_call 88
  refine(HO2 _).out.mono ?_;rintro e w2 ⟨⟨x2,rfl,hx2⟩,hk2⟩;go_wp2_with fail
  refine hK.out _ _ ?_ (fun hHeld=>?_)
  ·exact Bcv hk2 hHeld
  clear hK K;try simp only[Act.put,sA,sB,sC]
  refine wpAnyH_ready (rs:=[13]) (by kernel_rfl) (by simp) ?_
  refine AllReadyH.cons (o:=_) rfl (fun K hK=>?_) AllReadyH.nil;go_simp;go_at_call 88
  refine(HO3 _).out.mono ?_;rintro e w3 ⟨⟨x3,rfl,hx3⟩,hk3⟩;go_wp2_with fail
  refine hK.out _ _ ?_ (fun hHeld=>?_)
  ·exact Bcv hk3 hHeld
  clear hK K;try simp only[Act.put,sA,sB,sC]
  refine wpAnyH_ready (rs:=[14]) (by kernel_rfl) (by simp) ?_
  refine AllReadyH.cons (o:=_) rfl (fun K hK=>?_) AllReadyH.nil;go_simp;refine hK.out _ _ ?_ (fun hHeld=>?_)
  ·exact Bcv (kpA _ _) hHeld
  clear hK K;try simp only[Act.put,sA,sB,sC]
  refine wpAnyH_ready (rs:=[15]) (by kernel_rfl) (by simp) ?_
  refine AllReadyH.cons (o:=_) rfl (fun K hK=>?_) AllReadyH.nil;go_simp;go_at_call 87
  refine(Cu _ _ [v,x6,x1,x2,x3] (Bs HV.out.1 (Bs HV.out.2 (Bs hx1.out.1 (Bs hx2.out.1 (Bs hx3.out.1 Ej))))) (Ba _ _) (by simp)).mono ?_
  rintro e w9 ⟨⟨y,rfl,hy,hyy⟩,rfl⟩;go_wp2_with fail
  refine hK.out _ _ ?_ (fun hHeld=>?_)
  ·exact hHeld
  clear hK K;try simp only[Act.put,sA,sB,sC]
  refine wpAnyH_ready (rs:=[16]) (by kernel_rfl) (by simp) ?_
  refine AllReadyH.cons (o:=_) rfl (fun K hK=>?_) AllReadyH.nil;go_simp;refine hK.out _ _ ?_ (fun hHeld=>?_)
  ·exact hHeld
  clear hK K;try simp only[Act.put,sA,sB,sC]
  refine wpAnyH_done (by kernel_rfl) ?_ _
  have NX:=FIN.out x1 x2 x3 y _ hx1 hx2 hx3 hy hyy hHeld.2.2.2;clear hHeld FIN hx1 hx2 hx3 hy hyy hk2 hk3 HT1 HO2 HO3;go_wp2_with fail
  go_meet
  case rel=>exact⟨_,rfl,NX⟩
 case rest=>
 obtain⟨v,rfl,R0⟩:=hcut;go_upto_region 13 with fail
 try simp only[Act.put]
 go_cut [5] from 115 to 137 (fun s5 wx=>∃v:Int,s5=.int .i64 v∧Hid (CnR w h rv f 4 v wx))
 case first=>
  have c4:wc.cell? ⟨w.heap.size,4,none⟩=some (.int .i64 h.mode):=R0.out.2.2.cell 4 rfl;have c5:wc.cell? ⟨w.heap.size,5,none⟩=some (.int .i64 h.uid):=R0.out.2.2.cell 5 rfl;have c6:wc.cell? ⟨w.heap.size,6,none⟩=some (.int .i64 h.gid):=R0.out.2.2.cell 6 rfl;have c17:wc.cell? ⟨w.heap.size,17,none⟩=some (.int .i64 h.maj):=R0.out.2.2.cell 17 rfl;have c18:wc.cell? ⟨w.heap.size,18,none⟩=some (.int .i64 h.min):=R0.out.2.2.cell 18 rfl;have FIN:Hid (∀y wy,V3 y→(y=1→∀u∈[v,Bw h.mode f false,Bw h.uid f true,Bw h.gid f true,Bw h.maj f false,Bw h.min f false],u=1)→Kp (fun _=>False) wc wy→Hid (CnR w h rv f 4 y wy)):=by
   show ∀y wy,_;intro y wy hy hyy k;exact R0.out.join hy (fun e=>hyy e v (by simp)) (fun e=>⟨E8 (hyy e _ (by simp)),E8 (hyy e _ (by simp)),E8 (hyy e _ (by simp)),E8 (hyy e _ (by simp)),E8 (hyy e _ (by simp))⟩) k
  have HALL:=hid (Cu ((wc.alloc (.cells #[.int .i64 v, .int .i64 (Bw h.mode f false), .int .i64 (Bw h.uid f true), .int .i64 (Bw h.gid f true), .int .i64 (Bw h.maj f false), .int .i64 (Bw h.min f false)] 3)).drew) wc.heap.size [v,Bw h.mode f false,Bw h.uid f true,Bw h.gid f true,Bw h.maj f false,Bw h.min f false] (Bs R0.out.1 (Bs (Gt _ _ _) (Bs (Gt _ _ _) (Bs (Gt _ _ _) (Bs (Gt _ _ _) (Bs (Gt _ _ _) Ej)))))) (Ba wc _) (by simp))
  refine Bh [21,0] (by kernel_rfl) ?_
  simp only[Ce,sD,sE,sF,sG];iterate 4 (with_reducible refine wpStill_step (fun K hK=>?_);go_simp;with_reducible refine hK _ ?_;clear hK K)
  with_reducible refine wpStill_step (fun K hK=>?_)
  go_simp;with_reducible refine⟨.int .i64 (Bw h.mode f false),Gu wc.drew h.mode f false hf,hK _ ?_⟩
  iterate 3 (clear hK K;with_reducible refine wpStill_step (fun K hK=>?_);go_simp;with_reducible refine hK _ ?_)
  clear hK K;with_reducible refine wpStill_step (fun K hK=>?_)
  go_simp;with_reducible refine⟨.int .i64 (Bw h.uid f true),Gu wc.drew h.uid f true hf,hK _ ?_⟩
  iterate 3 (clear hK K;with_reducible refine wpStill_step (fun K hK=>?_);go_simp;with_reducible refine hK _ ?_)
  clear hK K;with_reducible refine wpStill_step (fun K hK=>?_)
  go_simp;with_reducible refine⟨.int .i64 (Bw h.gid f true),Gu wc.drew h.gid f true hf,hK _ ?_⟩
  iterate 3 (clear hK K;with_reducible refine wpStill_step (fun K hK=>?_);go_simp;with_reducible refine hK _ ?_)
  clear hK K;with_reducible refine wpStill_step (fun K hK=>?_)
  go_simp;with_reducible refine⟨.int .i64 (Bw h.maj f false),Gu wc.drew h.maj f false hf,hK _ ?_⟩
  iterate 3 (clear hK K;with_reducible refine wpStill_step (fun K hK=>?_);go_simp;with_reducible refine hK _ ?_)
  clear hK K;with_reducible refine wpStill_step (fun K hK=>?_)
  go_simp;with_reducible refine⟨.int .i64 (Bw h.min f false),Gu wc.drew h.min f false hf,hK _ ?_⟩
  clear hK K;iterate 2 (with_reducible refine wpStill_nil ?_;go_wp2_with fail)
  refine HALL.out.mono ?_;rintro e w9 ⟨⟨y,rfl,hy,hyy⟩,rfl⟩;have NX:=FIN.out y ((wc.alloc (.cells #[.int .i64 v, .int .i64 (Bw h.mode f false), .int .i64 (Bw h.uid f true), .int .i64 (Bw h.gid f true), .int .i64 (Bw h.maj f false), .int .i64 (Bw h.min f false)] 3)).drew) hy hyy ((kpA _ _).drew);clear FIN HALL hy hyy;go_wp2_with fail
  with_reducible refine wpStill_step (fun K hK=>?_)
  go_simp;with_reducible refine hK _ ?_
  clear hK K;with_reducible refine wpStill_nil ?_
  go_wp2_with fail
  go_meet
  case rel=>exact⟨_,rfl,NX⟩
 case rest=>
 obtain⟨v,rfl,R0⟩:=hcut;go_upto_region 14 with fail
 try simp only[Act.put]
 go_cut [5] from 138 to 163 (fun s5 wx=>∃v:Int,s5=.int .i64 v∧Hid (CnR w h rv f 5 v wx))
 case first=>
  have S0:wc.drew.cell? ⟨w.heap.size,0,none⟩=some (.int .u8 (h.typ.toNat:Int))∧wc.drew.cell? ⟨w.heap.size,3,none⟩=some (.int .i64 h.size)∧wc.drew.cell? ⟨w.heap.size,9,none⟩=some (.int .i64 h.ms)∧wc.drew.cell? ⟨w.heap.size,10,none⟩=some (.int .i64 h.mn)∧Kp (fun _=>False) wc wc.drew:=⟨R0.out.2.2.cell 0 rfl,R0.out.2.2.cell 3 rfl,R0.out.2.2.cell 9 rfl,R0.out.2.2.cell 10 rfl,(Kp.refl _ _).drew⟩;obtain⟨b1,e1⟩:∃b,decide (0≤h.size)=b:=⟨_,rfl⟩;obtain⟨b2,e2⟩:∃b,B8 h.typ=b:=⟨_,rfl⟩;obtain⟨b3,e3⟩:∃b,(f != 1)=b:=⟨_,rfl⟩;obtain⟨b4,e4⟩:∃b,decide (h.size<8589934592)=b:=⟨_,rfl⟩;have HHD:=fun W=>hid (H9 W h.typ);rw[e2] at HHD;have FIN:Hid (∀(b:Bool) x2 y wy,(b=((b1|| !b2)&&(b3||b4)))→Hid (MoV h.ms h.mn f x2)→V3 y→(y=1→∀u∈[v,if b then 1 else 2,x2],u=1)→Kp (fun _=>False) wc wy→Hid (CnR w h rv f 5 y wy)):=by
   show ∀(b:Bool) x2 y wy,_;intro b x2 y wy hb g2 hy hyy k;(refine R0.out.join hy (fun e=>hyy e v (by simp)) (fun e=>⟨fun hf1=>?_,g2.out.2 (hyy e x2 (by simp))⟩) k);(have hb1:b=true:=Kh (hyy e _ (by simp)));rw[hb1] at hb;have h5:=hb.symm;rw[Bool.and_eq_true,Bool.or_eq_true,Bool.or_eq_true] at h5;rcases h5.2 with h6|h6
   ·rw[h6,bne_iff_ne] at e3;exact absurd hf1 e3
   ·rw[h6,decide_eq_true_eq] at e4;exact e4
  have HV:=hid R0.out.1;obtain⟨g,eg⟩:∃g,(b1|| !b2)=g:=⟨_,rfl⟩;rw[eg] at FIN;obtain⟨q,eq⟩:∃q,(g&&(b3||b4))=q:=⟨_,rfl⟩;rw[eq] at FIN;obtain⟨z,ez⟩:∃z:Int,(if q then 1 else 2)=z:=⟨_,rfl⟩;have VZ:Hid (V3 z):=ez▸Ch q;have HWN:∀W,Hid (Calls Tryz.prog 85 #[.bool q] W fun e w'=>e=.returned (.int .i64 z)∧w'=W):=fun W=>by
   rw[←ez];exact B0 W q
  replace FIN:Hid (∀x2 y wy,Hid (MoV h.ms h.mn f x2)→V3 y→(y=1→∀u∈[v,z,x2],u=1)→Kp (fun _=>False) wc wy→Hid (CnR w h rv f 5 y wy)):=by
   show ∀x2 y wy,_;intro x2 y wy a1 a2 a3 a4;rw[←ez] at a3;exact FIN.out q x2 y wy rfl a1 a2 a3 a4
  clear ez;refine wp_region_held_drew (S:=fun w'=>w'.cell? ⟨w.heap.size,0,none⟩=some (.int .u8 (h.typ.toNat:Int))∧w'.cell? ⟨w.heap.size,3,none⟩=some (.int .i64 h.size)∧w'.cell? ⟨w.heap.size,9,none⟩=some (.int .i64 h.ms)∧w'.cell? ⟨w.heap.size,10,none⟩=some (.int .i64 h.mn)∧Kp (fun _=>False) wc w') (by kernel_rfl) ?_ (fun hHeld=>?_)
  ·exact S0
  refine wpAnyH_take (i:=0) (v:=?_) rfl (by kernel_rfl) (by kernel_rfl) (by kernel_rfl) (fun _ _ _ h=>h) (Or.inl ⟨by rfl,?_⟩) (by assumption) ?_
  rotate_left 1
  ·intro W hSw;(try dsimp only at hSw);go_simp;(try with_reducible rfl)
  try simp only[Act.put,sA,sB,sC]
  refine wpAnyH_take (i:=1) (v:=?_) rfl (by kernel_rfl) (by kernel_rfl) (by kernel_rfl) (fun _ _ _ h=>h) (Or.inl ⟨by rfl,?_⟩) (by assumption) ?_
  rotate_left 1
  ·intro W hSw;(try dsimp only at hSw);go_simp;(try with_reducible rfl)
  try simp only[Act.put,sA,sB,sC]
  refine wpAnyH_take (i:=2) (v:=?_) rfl (by kernel_rfl) (by kernel_rfl) (by kernel_rfl) (fun _ _ _ h=>h) (Or.inl ⟨by rfl,?_⟩) (by assumption) ?_
  rotate_left 1
  ·intro W hSw;(try dsimp only at hSw);go_simp;(try with_reducible rfl)
  try simp only[Act.put,sA,sB,sC]
  refine wpAnyH_take (i:=3) (v:=?_) rfl (by kernel_rfl) (by kernel_rfl) (by kernel_rfl) (fun _ _ _ h=>h) (Or.inl ⟨by rfl,?_⟩) (by assumption) ?_
  rotate_left 1
  ·intro W hSw;(try dsimp only at hSw);go_simp;(try with_reducible rfl)
  try simp only[Act.put,sA,sB,sC]
  try rw[e1]
  refine wpAnyH_take (i:=4) (v:=?_) rfl (by kernel_rfl) (by kernel_rfl) (by kernel_rfl) (fun _ _ _ h=>h) (Or.inl ⟨by rfl,?_⟩) (by assumption) ?_
  rotate_left 1
  ·intro W hSw;(try dsimp only at hSw);go_simp;(try with_reducible rfl)
  try simp only[Act.put,sA,sB,sC]
  refine wpAnyH_take (i:=20) (v:=?_) rfl (by kernel_rfl) (by kernel_rfl) (by kernel_rfl) (fun _ _ _ h=>h) (Or.inl ⟨by rfl,?_⟩) (by assumption) ?_
  rotate_left 1
  ·intro W hSw;(try dsimp only at hSw);go_simp;(try with_reducible rfl)
  try simp only[Act.put,sA,sB,sC]
  refine wpAnyH_take (i:=21) (v:=?_) rfl (by kernel_rfl) (by kernel_rfl) (by kernel_rfl) (fun _ _ _ h=>h) (Or.inl ⟨by rfl,?_⟩) (by assumption) ?_
  rotate_left 1
  ·intro W hSw;(try dsimp only at hSw);go_simp;(try with_reducible rfl)
  try simp only[Act.put,sA,sB,sC]
  refine wpAnyH_take (i:=22) (v:=?_) rfl (by kernel_rfl) (by kernel_rfl) (by kernel_rfl) (fun _ _ _ h=>h) (Or.inl ⟨by rfl,?_⟩) (by assumption) ?_
  rotate_left 1
  ·intro W hSw;(try dsimp only at hSw);go_simp;(try with_reducible rfl)
  try simp only[Act.put,sA,sB,sC]
  refine wpAnyH_take (i:=5) (v:=cond b1 undef (.pointer (some {block:=w.heap.size,off:=0}))) rfl (by kernel_rfl) (by kernel_rfl) (by kernel_rfl) (fun _ _ _ h=>h) ?_ (by assumption) ?_
  ·cases b1
   ·refine Or.inl ⟨by kernel_rfl,?_⟩;intro W hSw;(try dsimp only at hSw);go_simp;(try rw[e3]);(try rw[e4]);(try rfl)
   ·exact Or.inr ⟨by kernel_rfl,rfl⟩
  try simp only[Act.put,sA,sB,sC]
  refine wpAnyH_take (i:=6) (v:=cond b1 undef (.int .u8 (h.typ.toNat:Int))) rfl (by kernel_rfl) (by kernel_rfl) (by kernel_rfl) (fun _ _ _ h=>h) ?_ (by assumption) ?_
  ·cases b1
   ·refine Or.inl ⟨by kernel_rfl,?_⟩;intro W hSw;(try dsimp only at hSw);go_simp;(try rw[e3]);(try rw[e4]);(try rfl)
   ·exact Or.inr ⟨by kernel_rfl,rfl⟩
  try simp only[Act.put,sA,sB,sC]
  refine Yl (i:=7) (v:=cond b1 undef (.bool b2)) rfl (by decide +kernel) (by assumption) ?_ ?_
  ·cases b1 with
   |true=>exact Or.inl ⟨by kernel_rfl,rfl⟩
   |false=>
    (refine Or.inr ⟨by kernel_rfl,?_⟩);intro K hK;go_simp;(go_at_call 67);refine(HHD _).out.mono ?_;rintro e w1 ⟨rfl,rfl⟩;(go_wp2_with fail);refine Bc8 (hK.out _ hHeld) ?_;kernel_rfl
  clear hHeld;intro w9 hHeld;try simp only[Act.put,sA,sB,sC]
  refine wpAnyH_take (i:=8) (v:=cond b1 undef (.bool (!b2))) rfl (by kernel_rfl) (by kernel_rfl) (by kernel_rfl) (fun _ _ _ h=>h) ?_ (by assumption) ?_
  ·cases b1
   ·refine Or.inl ⟨by kernel_rfl,?_⟩;intro W hSw;(try dsimp only at hSw);go_simp;(try rw[e3]);(try rw[e4]);(try rfl)
   ·exact Or.inr ⟨by kernel_rfl,rfl⟩
  try simp only[Act.put,sA,sB,sC]
  refine wpAnyH_take (i:=9) (v:=.bool g) rfl (by kernel_rfl) (by kernel_rfl) (by kernel_rfl) (fun _ _ _ h=>h) ?_ (by assumption) ?_
  ·subst eg;cases b1<;>cases b2
   ·refine Or.inl ⟨by kernel_rfl,?_⟩;intro W hSw;(try dsimp only at hSw);go_simp;(try rw[e3]);(try rw[e4]);(try rfl)
   ·refine Or.inl ⟨by kernel_rfl,?_⟩;intro W hSw;(try dsimp only at hSw);go_simp;(try rw[e3]);(try rw[e4]);(try rfl)
   ·refine Or.inl ⟨by kernel_rfl,?_⟩;intro W hSw;(try dsimp only at hSw);go_simp;(try rw[e3]);(try rw[e4]);(try rfl)
   ·refine Or.inl ⟨by kernel_rfl,?_⟩;intro W hSw;(try dsimp only at hSw);go_simp;(try rw[e3]);(try rw[e4]);(try rfl)
  try simp only[Act.put,sA,sB,sC]
  refine wpAnyH_take (i:=10) (v:=?_) rfl (by kernel_rfl) (by kernel_rfl) (by kernel_rfl) (fun _ _ _ h=>h) (Or.inl ⟨by rfl,?_⟩) (by assumption) ?_
  rotate_left 1
  ·intro W hSw;(try dsimp only at hSw);go_simp;(try with_reducible rfl)
  try simp only[Act.put,sA,sB,sC]
  refine wpAnyH_take (i:=11) (v:=cond g (.int .i64 f) undef) rfl (by kernel_rfl) (by kernel_rfl) (by kernel_rfl) (fun _ _ _ h=>h) ?_ (by assumption) ?_
  ·cases g
   ·exact Or.inr ⟨by kernel_rfl,rfl⟩
   ·refine Or.inl ⟨by kernel_rfl,?_⟩;intro W hSw;(try dsimp only at hSw);go_simp;(try rw[e3]);(try rw[e4]);(try rfl)
  try simp only[Act.put,sA,sB,sC]
  refine wpAnyH_take (i:=12) (v:=cond g (.bool b3) undef) rfl (by kernel_rfl) (by kernel_rfl) (by kernel_rfl) (fun _ _ _ h=>h) ?_ (by assumption) ?_
  ·cases g
   ·exact Or.inr ⟨by kernel_rfl,rfl⟩
   ·refine Or.inl ⟨by kernel_rfl,?_⟩;intro W hSw;(try dsimp only at hSw);go_simp;(try rw[e3]);(try rw[e4]);(try rfl)
  try simp only[Act.put,sA,sB,sC]
  refine wpAnyH_take (i:=13) (v:=cond g (.bool b3) undef) rfl (by kernel_rfl) (by kernel_rfl) (by kernel_rfl) (fun _ _ _ h=>h) ?_ (by assumption) ?_
  ·cases g
   ·exact Or.inr ⟨by kernel_rfl,rfl⟩
   ·refine Or.inl ⟨by kernel_rfl,?_⟩;intro W hSw;(try dsimp only at hSw);go_simp;(try rw[e3]);(try rw[e4]);(try rfl)
  try simp only[Act.put,sA,sB,sC]
  refine wpAnyH_take (i:=14) (v:=cond (g&& !b3) (.pointer (some {block:=w.heap.size,off:=3})) undef) rfl (by kernel_rfl) (by kernel_rfl) (by kernel_rfl) (fun _ _ _ h=>h) ?_ (by assumption) ?_
  ·cases g<;>cases b3
   ·exact Or.inr ⟨by kernel_rfl,rfl⟩
   ·exact Or.inr ⟨by kernel_rfl,rfl⟩
   ·refine Or.inl ⟨by kernel_rfl,?_⟩;intro W hSw;(try dsimp only at hSw);go_simp;(try rw[e3]);(try rw[e4]);(try rfl)
   ·exact Or.inr ⟨by kernel_rfl,rfl⟩
  try simp only[Act.put,sA,sB,sC]
  refine wpAnyH_take (i:=15) (v:=cond (g&& !b3) (.int .i64 h.size) undef) rfl (by kernel_rfl) (by kernel_rfl) (by kernel_rfl) (fun _ _ _ h=>h) ?_ (by assumption) ?_
  ·cases g<;>cases b3
   ·exact Or.inr ⟨by kernel_rfl,rfl⟩
   ·exact Or.inr ⟨by kernel_rfl,rfl⟩
   ·refine Or.inl ⟨by kernel_rfl,?_⟩;intro W hSw;(try dsimp only at hSw);go_simp;(try rw[e3]);(try rw[e4]);(try rfl)
   ·exact Or.inr ⟨by kernel_rfl,rfl⟩
  try simp only[Act.put,sA,sB,sC]
  refine wpAnyH_take (i:=16) (v:=cond (g&& !b3) (.bool b4) undef) rfl (by kernel_rfl) (by kernel_rfl) (by kernel_rfl) (fun _ _ _ h=>h) ?_ (by assumption) ?_
  ·cases g<;>cases b3
   ·exact Or.inr ⟨by kernel_rfl,rfl⟩
   ·exact Or.inr ⟨by kernel_rfl,rfl⟩
   ·refine Or.inl ⟨by kernel_rfl,?_⟩;intro W hSw;(try dsimp only at hSw);go_simp;(try rw[e3]);(try rw[e4]);(try rfl)
   ·exact Or.inr ⟨by kernel_rfl,rfl⟩
  try simp only[Act.put,sA,sB,sC]
  refine wpAnyH_take (i:=17) (v:=cond g (.bool (b3||b4)) undef) rfl (by kernel_rfl) (by kernel_rfl) (by kernel_rfl) (fun _ _ _ h=>h) ?_ (by assumption) ?_
  ·cases g<;>cases b3<;>cases b4
   ·exact Or.inr ⟨by kernel_rfl,rfl⟩
   ·exact Or.inr ⟨by kernel_rfl,rfl⟩
   ·exact Or.inr ⟨by kernel_rfl,rfl⟩
   ·exact Or.inr ⟨by kernel_rfl,rfl⟩
   ·refine Or.inl ⟨by kernel_rfl,?_⟩;intro W hSw;(try dsimp only at hSw);go_simp;(try rw[e3]);(try rw[e4]);(try rfl)
   ·refine Or.inl ⟨by kernel_rfl,?_⟩;intro W hSw;(try dsimp only at hSw);go_simp;(try rw[e3]);(try rw[e4]);(try rfl)
   ·refine Or.inl ⟨by kernel_rfl,?_⟩;intro W hSw;(try dsimp only at hSw);go_simp;(try rw[e3]);(try rw[e4]);(try rfl)
   ·refine Or.inl ⟨by kernel_rfl,?_⟩;intro W hSw;(try dsimp only at hSw);go_simp;(try rw[e3]);(try rw[e4]);(try rfl)
  try simp only[Act.put,sA,sB,sC]
  refine wpAnyH_take (i:=18) (v:=.bool q) rfl (by kernel_rfl) (by kernel_rfl) (by kernel_rfl) (fun _ _ _ h=>h) ?_ (by assumption) ?_
  ·subst eq;cases g<;>cases b3<;>cases b4
   ·refine Or.inl ⟨by kernel_rfl,?_⟩;intro W hSw;(try dsimp only at hSw);go_simp;(try rw[e3]);(try rw[e4]);(try rfl)
   ·refine Or.inl ⟨by kernel_rfl,?_⟩;intro W hSw;(try dsimp only at hSw);go_simp;(try rw[e3]);(try rw[e4]);(try rfl)
   ·refine Or.inl ⟨by kernel_rfl,?_⟩;intro W hSw;(try dsimp only at hSw);go_simp;(try rw[e3]);(try rw[e4]);(try rfl)
   ·refine Or.inl ⟨by kernel_rfl,?_⟩;intro W hSw;(try dsimp only at hSw);go_simp;(try rw[e3]);(try rw[e4]);(try rfl)
   ·refine Or.inl ⟨by kernel_rfl,?_⟩;intro W hSw;(try dsimp only at hSw);go_simp;(try rw[e3]);(try rw[e4]);(try rfl)
   ·refine Or.inl ⟨by kernel_rfl,?_⟩;intro W hSw;(try dsimp only at hSw);go_simp;(try rw[e3]);(try rw[e4]);(try rfl)
   ·refine Or.inl ⟨by kernel_rfl,?_⟩;intro W hSw;(try dsimp only at hSw);go_simp;(try rw[e3]);(try rw[e4]);(try rfl)
   ·refine Or.inl ⟨by kernel_rfl,?_⟩;intro W hSw;(try dsimp only at hSw);go_simp;(try rw[e3]);(try rw[e4]);(try rfl)
  try simp only[Act.put,sA,sB,sC]
  refine wpAnyH_ready (rs:=[19]) (by decide +kernel) (by simp) ?_
  refine AllReadyH.cons (o:=_) rfl (fun K hK=>?_) AllReadyH.nil;go_simp;go_at_call 85
  refine(HWN _).out.mono ?_;rintro e w2 ⟨rfl,rfl⟩;go_wp2_with fail
  refine hK.out _ _ ?_ (fun hHeld=>?_)
  ·exact hHeld
  clear hK K;try simp only[Act.put,sA,sB,sC]
  refine wpAnyH_ready (rs:=[23]) (by decide +kernel) (by simp) ?_
  refine AllReadyH.cons (o:=_) rfl (fun K hK=>?_) AllReadyH.nil;go_simp;go_at_call 90
  refine(Og _ h.ms h.mn f).mono ?_;rintro e w3 ⟨⟨x2,rfl,hx2⟩,hk2⟩;go_wp2_with fail
  refine hK.out _ _ ?_ (fun hHeld=>?_)
  ·exact Bet hk2 hHeld
  clear hK K;try simp only[Act.put,sA,sB,sC]
  refine wpAnyH_ready (rs:=[24]) (by decide +kernel) (by simp) ?_
  refine AllReadyH.cons (o:=_) rfl (fun K hK=>?_) AllReadyH.nil;go_simp;refine hK.out _ _ ?_ (fun hHeld=>?_)
  ·exact Bet (kpA _ _) hHeld
  clear hK K;try simp only[Act.put,sA,sB,sC]
  refine wpAnyH_ready (rs:=[25]) (by decide +kernel) (by simp) ?_
  refine AllReadyH.cons (o:=_) rfl (fun K hK=>?_) AllReadyH.nil;go_simp;go_at_call 87
  refine(Cu _ _ [v,z,x2] (Bs HV.out (Bs VZ.out (Bs hx2.out.1 Ej))) (Ba _ _) (by simp)).mono ?_
  rintro e w9 ⟨⟨y,rfl,hy,hyy⟩,rfl⟩;go_wp2_with fail
  refine hK.out _ _ ?_ (fun hHeld=>?_)
  ·exact hHeld
  clear hK K;try simp only[Act.put,sA,sB,sC]
  refine wpAnyH_ready (rs:=[26]) (by decide +kernel) (by simp) ?_
  refine AllReadyH.cons (o:=_) rfl (fun K hK=>?_) AllReadyH.nil;go_simp;refine hK.out _ _ ?_ (fun hHeld=>?_)
  ·exact hHeld
  clear hK K;try simp only[Act.put,sA,sB,sC]
  refine wpAnyH_done (by decide +kernel) ?_ _
  have NX:=FIN.out x2 y _ hx2 hy hyy hHeld.2.2.2.2;clear hHeld FIN hx2 hy hyy hk2;go_wp2_with fail
  go_meet
  case rel=>exact⟨_,rfl,NX⟩
 case rest=>
 obtain⟨v,rfl,R0⟩:=hcut;go_upto_region 15 with fail
 try simp only[Act.put]
 go_cut [181] from 164 to 181 (fun s181 wx=>∃b:Bool,s181=.bool b∧Hid (CdR b (Ie h f 5) wc wx))
 case first=>
  have c0:wc.cell? ⟨w.heap.size,0,none⟩=some (.int .u8 (h.typ.toNat:Int)):=R0.out.2.2.cell 0 rfl;have c3:wc.cell? ⟨w.heap.size,3,none⟩=some (.int .i64 h.size):=R0.out.2.2.cell 3 rfl;obtain⟨b1,e1⟩:∃b,decide (h.size<0)=b:=⟨_,rfl⟩;obtain⟨b2,e2⟩:∃b,decide (0<h.size)=b:=⟨_,rfl⟩;obtain⟨b3,e3⟩:∃b,((h.typ.toNat:Int)==49)=b:=⟨_,rfl⟩;obtain⟨b4,e4⟩:∃b,((h.typ.toNat:Int)==50)=b:=⟨_,rfl⟩;have N1:Hid (CdR true (Ie h f 5) wc wc):=⟨fun e=>(by cases e),Kp.refl _ _⟩
  have F:Hid ((b1||b2&&(b3||b4))=false→Hid (CdR false (Ie h f 5) wc wc)):=by
   show _→_;intro f1;rw[Bool.or_eq_false_iff,Bool.and_eq_false_iff,Bool.or_eq_false_iff] at f1;refine⟨fun _=>⟨?_,?_⟩,Kp.refl _ _⟩
   ·rw[f1.1,decide_eq_false_iff_not] at e1;omega
   ·intro g;rcases f1.2 with f2|⟨f2,f3⟩
    ·rw[f2,decide_eq_false_iff_not] at e2;exact absurd g e2
    ·rw[f2,beq_eq_false_iff_ne] at e3;rw[f3,beq_eq_false_iff_ne] at e4;omega
  cases b1<;>cases b2<;>cases b3<;>cases b4<;>(
   (go_wp2_with fail);go_meet
   case rel=>first|exact⟨true,rfl,N1⟩|exact⟨false,rfl,F.out (by first|rfl|trivial)⟩)
 case rest=>
 obtain⟨b,rfl,RB⟩:=hcut;go_upto_if 181 with fail
 try simp only[Act.put]
 go_cut [5] from 181 to 184 (fun s5 wx=>∃v:Int,s5=.int .i64 v∧Hid (CnR w h rv f 6 v wx))
 case first=>
  cases b with
  |true=>
   (have HALL:=fun W=>hid (Cu (World.alloc W (.cells #[.int .i64 v, .int .i64 0] 3)) W.heap.size [v,0] (Of R0.out.1 (.inl rfl)) (Ba W _) (by simp)));(go_wp2_with fail);refine(HALL _).out.mono ?_;rintro e w9 ⟨⟨y,rfl,hy,hyy⟩,rfl⟩;(have NX:Hid (CnR w h rv f 6 y (wc.alloc (.cells #[.int .i64 v, .int .i64 0] 3))):=R0.out.join hy (fun e=>hyy e v (by simp)) (fun e=>absurd (hyy e 0 (by simp)) (by decide)) (RB.out.2.trans (kpA _ _)));clear HALL hy hyy;(go_wp2_with fail);go_meet
   case rel=>exact⟨_,rfl,NX⟩
  |false=>
   have NX:Hid (CnR w h rv f 6 v wc):=R0.out.keep (RB.out.1 rfl) RB.out.2;(go_wp2_with fail);go_meet
   case rel=>exact⟨v,rfl,NX⟩
 case rest=>
 obtain⟨v,rfl,R0⟩:=hcut;obtain⟨bf,ef⟩:∃b,(f==1)=b:=⟨_,rfl⟩;go_upto_if 186 with fail
 try simp only[Act.put]
 go_cut [5] from 187 to 209 (fun s5 wx=>∃v:Int,s5=.int .i64 v∧Hid (CnR w h rv f 7 v wx))
 case first=>
  cases bf with
  |false=>
   (have NX:Hid (CnR w h rv f 7 v wc):=R0.out.keep (fun e=>by rw[e] at ef;cases ef) (Kp.refl _ _));(go_wp2_with fail);go_meet
   case rel=>exact⟨v,rfl,NX⟩
  |true=>
   have hf1:f=1:=eq_of_beq ef;obtain⟨b1,e1⟩:∃b,decide (0≤h.ms)=b:=⟨_,rfl⟩;obtain⟨b2,e2⟩:∃b,decide (h.ms<8589934592)=b:=⟨_,rfl⟩;obtain⟨ba,ea⟩:∃b,h.hasA=b:=⟨_,rfl⟩;obtain⟨bc,ec⟩:∃b,h.hasC=b:=⟨_,rfl⟩;have c9:wc.cell? ⟨w.heap.size,9,none⟩=some (.int .i64 h.ms):=R0.out.2.2.cell 9 rfl;have c11:wc.cell? ⟨w.heap.size,11,none⟩=some (.bool ba):=ea▸R0.out.2.2.cell 11 rfl;have c12:wc.cell? ⟨w.heap.size,12,none⟩=some (.bool bc):=ec▸R0.out.2.2.cell 12 rfl;have FIN:Hid (∀(x1 x2:Bool) y wy,(x1=(b1&&b2))→(x2=(!ba&& !bc))→V3 y→(y=1→∀u∈[v,if x1 then 1 else 2,if x2 then 1 else 2],u=1)→Kp (fun _=>False) wc wy→Hid (CnR w h rv f 7 y wy)):=by
    show ∀(x1 x2:Bool) y wy,_;intro x1 x2 y wy g1 g2 hy hyy k;(refine R0.out.join hy (fun e=>hyy e v (by simp)) (fun e _=>?_) k);(have h1:x1=true:=Kh (hyy e _ (by simp)));(have h2:x2=true:=Kh (hyy e _ (by simp)));rw[h1] at g1;rw[h2] at g2;have g1:=g1.symm;have g2:=g2.symm;rw[Bool.and_eq_true] at g1 g2;rw[g1.1,decide_eq_true_eq] at e1;rw[g1.2,decide_eq_true_eq] at e2;refine⟨⟨e1,e2⟩,?_,?_⟩
    ·rw[ea];simpa using g2.1
    ·rw[ec];simpa using g2.2
   have HV:=hid R0.out.1;(go_upto_region 18 with fail);clear ea ec ef hf1;cases b1 with
   |false=>
    cases ba with
    |true=>
     (refine Bh [21,0] (by kernel_rfl) ?_);simp only[Ce,sD,sE,sF,sG];(iterate 6 (with_reducible refine wpStill_step (fun K hK=>?_);go_simp;with_reducible refine hK _ ?_;clear hK K));with_reducible refine Bc ?hh ?_
     case hh=>kernel_rfl
     simp only[Act.put,sA,sB,sC];with_reducible refine Bc ?hh ?_
     case hh=>kernel_rfl
     simp only[Act.put,sA,sB,sC];with_reducible refine Bc ?hh ?_
     case hh=>kernel_rfl
     simp only[Act.put,sA,sB,sC];with_reducible refine Bc ?hh ?_
     case hh=>kernel_rfl
     simp only[Act.put,sA,sB,sC];(with_reducible refine wpStill_step (fun K hK=>?_));go_simp;(with_reducible refine hK _ ?_);clear hK K;(with_reducible refine wpStill_step (fun K hK=>?_));go_simp;(with_reducible refine⟨.int .i64 (if false then 1 else 2),B0 wc.drew false,hK _ ?_⟩);(iterate 4 (clear hK K;with_reducible refine wpStill_step (fun K hK=>?_);go_simp;with_reducible refine hK _ ?_));clear hK K;with_reducible refine Bc ?hh ?_
     case hh=>kernel_rfl
     simp only[Act.put,sA,sB,sC];with_reducible refine Bc ?hh ?_
     case hh=>kernel_rfl
     simp only[Act.put,sA,sB,sC];with_reducible refine Bc ?hh ?_
     case hh=>kernel_rfl
     simp only[Act.put,sA,sB,sC];(with_reducible refine wpStill_step (fun K hK=>?_));go_simp;(with_reducible refine hK _ ?_);clear hK K;(with_reducible refine wpStill_step (fun K hK=>?_));go_simp;(with_reducible refine⟨.int .i64 (if false then 1 else 2),B0 wc.drew false,hK _ ?_⟩);clear hK K;(with_reducible refine wpStill_nil ?_);(have HALL:=hid (Cu ((wc.alloc (.cells #[.int .i64 v, .int .i64 (if false then 1 else 2), .int .i64 (if false then 1 else 2)] 3)).drew) wc.heap.size [v,if false then 1 else 2,if false then 1 else 2] (Bs HV.out (Bs (Ch _) (Bs (Ch _) Ej))) (Ba wc _) (by simp)));(go_wp2_with fail);(with_reducible refine wpStill_nil ?_);(go_wp2_with fail);refine HALL.out.mono ?_;rintro e w9 ⟨⟨y,rfl,hy,hyy⟩,rfl⟩;have NX:=FIN.out false false y ((wc.alloc (.cells #[.int .i64 v, .int .i64 (if false then 1 else 2), .int .i64 (if false then 1 else 2)] 3)).drew) rfl rfl hy hyy ((kpA _ _).drew);clear FIN HALL hy hyy;(go_wp2_with fail);(with_reducible refine wpStill_step (fun K hK=>?_));go_simp;(with_reducible refine hK _ ?_);clear hK K;(with_reducible refine wpStill_nil ?_);(go_wp2_with fail);go_meet
     case rel=>exact⟨_,rfl,NX⟩
    |false=>
     cases bc with
     |true=>
      (refine Bh [21,0] (by kernel_rfl) ?_);simp only[Ce,sD,sE,sF,sG];(iterate 6 (with_reducible refine wpStill_step (fun K hK=>?_);go_simp;with_reducible refine hK _ ?_;clear hK K));with_reducible refine Bc ?hh ?_
      case hh=>kernel_rfl
      simp only[Act.put,sA,sB,sC];with_reducible refine Bc ?hh ?_
      case hh=>kernel_rfl
      simp only[Act.put,sA,sB,sC];with_reducible refine Bc ?hh ?_
      case hh=>kernel_rfl
      simp only[Act.put,sA,sB,sC];with_reducible refine Bc ?hh ?_
      case hh=>kernel_rfl
      simp only[Act.put,sA,sB,sC];(with_reducible refine wpStill_step (fun K hK=>?_));go_simp;(with_reducible refine hK _ ?_);clear hK K;(with_reducible refine wpStill_step (fun K hK=>?_));go_simp;(with_reducible refine⟨.int .i64 (if false then 1 else 2),B0 wc.drew false,hK _ ?_⟩);(iterate 8 (clear hK K;with_reducible refine wpStill_step (fun K hK=>?_);go_simp;with_reducible refine hK _ ?_));clear hK K;(with_reducible refine wpStill_step (fun K hK=>?_));go_simp;(with_reducible refine⟨.int .i64 (if false then 1 else 2),B0 wc.drew false,hK _ ?_⟩);clear hK K;(with_reducible refine wpStill_nil ?_);(have HALL:=hid (Cu ((wc.alloc (.cells #[.int .i64 v, .int .i64 (if false then 1 else 2), .int .i64 (if false then 1 else 2)] 3)).drew) wc.heap.size [v,if false then 1 else 2,if false then 1 else 2] (Bs HV.out (Bs (Ch _) (Bs (Ch _) Ej))) (Ba wc _) (by simp)));(go_wp2_with fail);(with_reducible refine wpStill_nil ?_);(go_wp2_with fail);refine HALL.out.mono ?_;rintro e w9 ⟨⟨y,rfl,hy,hyy⟩,rfl⟩;have NX:=FIN.out false false y ((wc.alloc (.cells #[.int .i64 v, .int .i64 (if false then 1 else 2), .int .i64 (if false then 1 else 2)] 3)).drew) rfl rfl hy hyy ((kpA _ _).drew);clear FIN HALL hy hyy;(go_wp2_with fail);(with_reducible refine wpStill_step (fun K hK=>?_));go_simp;(with_reducible refine hK _ ?_);clear hK K;(with_reducible refine wpStill_nil ?_);(go_wp2_with fail);go_meet
      case rel=>exact⟨_,rfl,NX⟩
     |false=>
      (refine Bh [21,0] (by kernel_rfl) ?_);simp only[Ce,sD,sE,sF,sG];(iterate 6 (with_reducible refine wpStill_step (fun K hK=>?_);go_simp;with_reducible refine hK _ ?_;clear hK K));with_reducible refine Bc ?hh ?_
      case hh=>kernel_rfl
      simp only[Act.put,sA,sB,sC];with_reducible refine Bc ?hh ?_
      case hh=>kernel_rfl
      simp only[Act.put,sA,sB,sC];with_reducible refine Bc ?hh ?_
      case hh=>kernel_rfl
      simp only[Act.put,sA,sB,sC];with_reducible refine Bc ?hh ?_
      case hh=>kernel_rfl
      simp only[Act.put,sA,sB,sC];(with_reducible refine wpStill_step (fun K hK=>?_));go_simp;(with_reducible refine hK _ ?_);clear hK K;(with_reducible refine wpStill_step (fun K hK=>?_));go_simp;(with_reducible refine⟨.int .i64 (if false then 1 else 2),B0 wc.drew false,hK _ ?_⟩);(iterate 8 (clear hK K;with_reducible refine wpStill_step (fun K hK=>?_);go_simp;with_reducible refine hK _ ?_));clear hK K;(with_reducible refine wpStill_step (fun K hK=>?_));go_simp;(with_reducible refine⟨.int .i64 (if true then 1 else 2),B0 wc.drew true,hK _ ?_⟩);clear hK K;(with_reducible refine wpStill_nil ?_);(have HALL:=hid (Cu ((wc.alloc (.cells #[.int .i64 v, .int .i64 (if false then 1 else 2), .int .i64 (if true then 1 else 2)] 3)).drew) wc.heap.size [v,if false then 1 else 2,if true then 1 else 2] (Bs HV.out (Bs (Ch _) (Bs (Ch _) Ej))) (Ba wc _) (by simp)));(go_wp2_with fail);(with_reducible refine wpStill_nil ?_);(go_wp2_with fail);refine HALL.out.mono ?_;rintro e w9 ⟨⟨y,rfl,hy,hyy⟩,rfl⟩;have NX:=FIN.out false true y ((wc.alloc (.cells #[.int .i64 v, .int .i64 (if false then 1 else 2), .int .i64 (if true then 1 else 2)] 3)).drew) rfl rfl hy hyy ((kpA _ _).drew);clear FIN HALL hy hyy;(go_wp2_with fail);(with_reducible refine wpStill_step (fun K hK=>?_));go_simp;(with_reducible refine hK _ ?_);clear hK K;(with_reducible refine wpStill_nil ?_);(go_wp2_with fail);go_meet
      case rel=>exact⟨_,rfl,NX⟩
   |true=>
    cases b2 with
    |false=>
     cases ba with
     |true=>
      (refine Bh [21,0] (by kernel_rfl) ?_);simp only[Ce,sD,sE,sF,sG];(iterate 11 (with_reducible refine wpStill_step (fun K hK=>?_);go_simp;with_reducible refine hK _ ?_;clear hK K));(with_reducible refine wpStill_step (fun K hK=>?_));go_simp;(with_reducible refine⟨.int .i64 (if false then 1 else 2),B0 wc.drew false,hK _ ?_⟩);(iterate 4 (clear hK K;with_reducible refine wpStill_step (fun K hK=>?_);go_simp;with_reducible refine hK _ ?_));clear hK K;with_reducible refine Bc ?hh ?_
      case hh=>kernel_rfl
      simp only[Act.put,sA,sB,sC];with_reducible refine Bc ?hh ?_
      case hh=>kernel_rfl
      simp only[Act.put,sA,sB,sC];with_reducible refine Bc ?hh ?_
      case hh=>kernel_rfl
      simp only[Act.put,sA,sB,sC];(with_reducible refine wpStill_step (fun K hK=>?_));go_simp;(with_reducible refine hK _ ?_);clear hK K;(with_reducible refine wpStill_step (fun K hK=>?_));go_simp;(with_reducible refine⟨.int .i64 (if false then 1 else 2),B0 wc.drew false,hK _ ?_⟩);clear hK K;(with_reducible refine wpStill_nil ?_);(have HALL:=hid (Cu ((wc.alloc (.cells #[.int .i64 v, .int .i64 (if false then 1 else 2), .int .i64 (if false then 1 else 2)] 3)).drew) wc.heap.size [v,if false then 1 else 2,if false then 1 else 2] (Bs HV.out (Bs (Ch _) (Bs (Ch _) Ej))) (Ba wc _) (by simp)));(go_wp2_with fail);(with_reducible refine wpStill_nil ?_);(go_wp2_with fail);refine HALL.out.mono ?_;rintro e w9 ⟨⟨y,rfl,hy,hyy⟩,rfl⟩;have NX:=FIN.out false false y ((wc.alloc (.cells #[.int .i64 v, .int .i64 (if false then 1 else 2), .int .i64 (if false then 1 else 2)] 3)).drew) rfl rfl hy hyy ((kpA _ _).drew);clear FIN HALL hy hyy;(go_wp2_with fail);(with_reducible refine wpStill_step (fun K hK=>?_));go_simp;(with_reducible refine hK _ ?_);clear hK K;(with_reducible refine wpStill_nil ?_);(go_wp2_with fail);go_meet
      case rel=>exact⟨_,rfl,NX⟩
     |false=>
      cases bc with
      |true=>
       (refine Bh [21,0] (by kernel_rfl) ?_);simp only[Ce,sD,sE,sF,sG];(iterate 11 (with_reducible refine wpStill_step (fun K hK=>?_);go_simp;with_reducible refine hK _ ?_;clear hK K));(with_reducible refine wpStill_step (fun K hK=>?_));go_simp;(with_reducible refine⟨.int .i64 (if false then 1 else 2),B0 wc.drew false,hK _ ?_⟩);(iterate 8 (clear hK K;with_reducible refine wpStill_step (fun K hK=>?_);go_simp;with_reducible refine hK _ ?_));clear hK K;(with_reducible refine wpStill_step (fun K hK=>?_));go_simp;(with_reducible refine⟨.int .i64 (if false then 1 else 2),B0 wc.drew false,hK _ ?_⟩);clear hK K;(with_reducible refine wpStill_nil ?_);(have HALL:=hid (Cu ((wc.alloc (.cells #[.int .i64 v, .int .i64 (if false then 1 else 2), .int .i64 (if false then 1 else 2)] 3)).drew) wc.heap.size [v,if false then 1 else 2,if false then 1 else 2] (Bs HV.out (Bs (Ch _) (Bs (Ch _) Ej))) (Ba wc _) (by simp)));(go_wp2_with fail);(with_reducible refine wpStill_nil ?_);(go_wp2_with fail);refine HALL.out.mono ?_;rintro e w9 ⟨⟨y,rfl,hy,hyy⟩,rfl⟩;have NX:=FIN.out false false y ((wc.alloc (.cells #[.int .i64 v, .int .i64 (if false then 1 else 2), .int .i64 (if false then 1 else 2)] 3)).drew) rfl rfl hy hyy ((kpA _ _).drew);clear FIN HALL hy hyy;(go_wp2_with fail);(with_reducible refine wpStill_step (fun K hK=>?_));go_simp;(with_reducible refine hK _ ?_);clear hK K
       (with_reducible refine wpStill_nil ?_);(go_wp2_with fail);go_meet
       case rel=>exact⟨_,rfl,NX⟩
      |false=>
       (refine Bh [21,0] (by kernel_rfl) ?_);simp only[Ce,sD,sE,sF,sG];(iterate 11 (with_reducible refine wpStill_step (fun K hK=>?_);go_simp;with_reducible refine hK _ ?_;clear hK K));(with_reducible refine wpStill_step (fun K hK=>?_));go_simp;(with_reducible refine⟨.int .i64 (if false then 1 else 2),B0 wc.drew false,hK _ ?_⟩);(iterate 8 (clear hK K;with_reducible refine wpStill_step (fun K hK=>?_);go_simp;with_reducible refine hK _ ?_));clear hK K;(with_reducible refine wpStill_step (fun K hK=>?_));go_simp;(with_reducible refine⟨.int .i64 (if true then 1 else 2),B0 wc.drew true,hK _ ?_⟩);clear hK K;(with_reducible refine wpStill_nil ?_);(have HALL:=hid (Cu ((wc.alloc (.cells #[.int .i64 v, .int .i64 (if false then 1 else 2), .int .i64 (if true then 1 else 2)] 3)).drew) wc.heap.size [v,if false then 1 else 2,if true then 1 else 2] (Bs HV.out (Bs (Ch _) (Bs (Ch _) Ej))) (Ba wc _) (by simp)));(go_wp2_with fail);(with_reducible refine wpStill_nil ?_);(go_wp2_with fail);refine HALL.out.mono ?_;rintro e w9 ⟨⟨y,rfl,hy,hyy⟩,rfl⟩;have NX:=FIN.out false true y ((wc.alloc (.cells #[.int .i64 v, .int .i64 (if false then 1 else 2), .int .i64 (if true then 1 else 2)] 3)).drew) rfl rfl hy hyy ((kpA _ _).drew);clear FIN HALL hy hyy;(go_wp2_with fail);(with_reducible refine wpStill_step (fun K hK=>?_));go_simp;(with_reducible refine hK _ ?_);clear hK K
       (with_reducible refine wpStill_nil ?_);(go_wp2_with fail);go_meet
       case rel=>exact⟨_,rfl,NX⟩
    |true=>
     cases ba with
     |true=>
      (refine Bh [21,0] (by kernel_rfl) ?_);simp only[Ce,sD,sE,sF,sG];(iterate 11 (with_reducible refine wpStill_step (fun K hK=>?_);go_simp;with_reducible refine hK _ ?_;clear hK K));(with_reducible refine wpStill_step (fun K hK=>?_));go_simp;(with_reducible refine⟨.int .i64 (if true then 1 else 2),B0 wc.drew true,hK _ ?_⟩);(iterate 4 (clear hK K;with_reducible refine wpStill_step (fun K hK=>?_);go_simp;with_reducible refine hK _ ?_));clear hK K;with_reducible refine Bc ?hh ?_
      case hh=>kernel_rfl
      simp only[Act.put,sA,sB,sC];with_reducible refine Bc ?hh ?_
      case hh=>kernel_rfl
      simp only[Act.put,sA,sB,sC];with_reducible refine Bc ?hh ?_
      case hh=>kernel_rfl
      simp only[Act.put,sA,sB,sC];(with_reducible refine wpStill_step (fun K hK=>?_));go_simp;(with_reducible refine hK _ ?_);clear hK K;(with_reducible refine wpStill_step (fun K hK=>?_));go_simp;(with_reducible refine⟨.int .i64 (if false then 1 else 2),B0 wc.drew false,hK _ ?_⟩);clear hK K;(with_reducible refine wpStill_nil ?_);(have HALL:=hid (Cu ((wc.alloc (.cells #[.int .i64 v, .int .i64 (if true then 1 else 2), .int .i64 (if false then 1 else 2)] 3)).drew) wc.heap.size [v,if true then 1 else 2,if false then 1 else 2] (Bs HV.out (Bs (Ch _) (Bs (Ch _) Ej))) (Ba wc _) (by simp)));(go_wp2_with fail);(with_reducible refine wpStill_nil ?_);(go_wp2_with fail);refine HALL.out.mono ?_;rintro e w9 ⟨⟨y,rfl,hy,hyy⟩,rfl⟩;have NX:=FIN.out true false y ((wc.alloc (.cells #[.int .i64 v, .int .i64 (if true then 1 else 2), .int .i64 (if false then 1 else 2)] 3)).drew) rfl rfl hy hyy ((kpA _ _).drew);clear FIN HALL hy hyy;(go_wp2_with fail);(with_reducible refine wpStill_step (fun K hK=>?_));go_simp;(with_reducible refine hK _ ?_);clear hK K;(with_reducible refine wpStill_nil ?_);(go_wp2_with fail);go_meet
      case rel=>exact⟨_,rfl,NX⟩
     |false=>
      cases bc with
      |true=>
       (refine Bh [21,0] (by kernel_rfl) ?_);simp only[Ce,sD,sE,sF,sG];(iterate 11 (with_reducible refine wpStill_step (fun K hK=>?_);go_simp;with_reducible refine hK _ ?_;clear hK K));(with_reducible refine wpStill_step (fun K hK=>?_));go_simp;(with_reducible refine⟨.int .i64 (if true then 1 else 2),B0 wc.drew true,hK _ ?_⟩);(iterate 8 (clear hK K;with_reducible refine wpStill_step (fun K hK=>?_);go_simp;with_reducible refine hK _ ?_));clear hK K;(with_reducible refine wpStill_step (fun K hK=>?_));go_simp;(with_reducible refine⟨.int .i64 (if false then 1 else 2),B0 wc.drew false,hK _ ?_⟩);clear hK K;(with_reducible refine wpStill_nil ?_);(have HALL:=hid (Cu ((wc.alloc (.cells #[.int .i64 v, .int .i64 (if true then 1 else 2), .int .i64 (if false then 1 else 2)] 3)).drew) wc.heap.size [v,if true then 1 else 2,if false then 1 else 2] (Bs HV.out (Bs (Ch _) (Bs (Ch _) Ej))) (Ba wc _) (by simp)));(go_wp2_with fail);(with_reducible refine wpStill_nil ?_);(go_wp2_with fail);refine HALL.out.mono ?_;rintro e w9 ⟨⟨y,rfl,hy,hyy⟩,rfl⟩;have NX:=FIN.out true false y ((wc.alloc (.cells #[.int .i64 v, .int .i64 (if true then 1 else 2), .int .i64 (if false then 1 else 2)] 3)).drew) rfl rfl hy hyy ((kpA _ _).drew);clear FIN HALL hy hyy;(go_wp2_with fail);(with_reducible refine wpStill_step (fun K hK=>?_));go_simp;(with_reducible refine hK _ ?_);clear hK K
       (with_reducible refine wpStill_nil ?_);(go_wp2_with fail);go_meet
       case rel=>exact⟨_,rfl,NX⟩
      |false=>
       (refine Bh [21,0] (by kernel_rfl) ?_);simp only[Ce,sD,sE,sF,sG];(iterate 11 (with_reducible refine wpStill_step (fun K hK=>?_);go_simp;with_reducible refine hK _ ?_;clear hK K));(with_reducible refine wpStill_step (fun K hK=>?_));go_simp;(with_reducible refine⟨.int .i64 (if true then 1 else 2),B0 wc.drew true,hK _ ?_⟩);(iterate 8 (clear hK K;with_reducible refine wpStill_step (fun K hK=>?_);go_simp;with_reducible refine hK _ ?_));clear hK K;(with_reducible refine wpStill_step (fun K hK=>?_));go_simp;(with_reducible refine⟨.int .i64 (if true then 1 else 2),B0 wc.drew true,hK _ ?_⟩);clear hK K;(with_reducible refine wpStill_nil ?_);(have HALL:=hid (Cu ((wc.alloc (.cells #[.int .i64 v, .int .i64 (if true then 1 else 2), .int .i64 (if true then 1 else 2)] 3)).drew) wc.heap.size [v,if true then 1 else 2,if true then 1 else 2] (Bs HV.out (Bs (Ch _) (Bs (Ch _) Ej))) (Ba wc _) (by simp)));(go_wp2_with fail);(with_reducible refine wpStill_nil ?_);(go_wp2_with fail);refine HALL.out.mono ?_;rintro e w9 ⟨⟨y,rfl,hy,hyy⟩,rfl⟩;have NX:=FIN.out true true y ((wc.alloc (.cells #[.int .i64 v, .int .i64 (if true then 1 else 2), .int .i64 (if true then 1 else 2)] 3)).drew) rfl rfl hy hyy ((kpA _ _).drew);clear FIN HALL hy hyy;(go_wp2_with fail);(with_reducible refine wpStill_step (fun K hK=>?_));go_simp;(with_reducible refine hK _ ?_);clear hK K
       (with_reducible refine wpStill_nil ?_);(go_wp2_with fail);go_meet
       case rel=>exact⟨_,rfl,NX⟩
 case rest=>
 obtain⟨v,rfl,R0⟩:=hcut;obtain⟨b,e⟩:∃b,h.hasA=b:=⟨_,rfl⟩;have ch:wc.cell? ⟨w.heap.size,11,none⟩=some (.bool b):=e▸R0.out.2.2.cell 11 rfl;go_upto_if 211 with fail
 try simp only[Act.put]
 go_cut [5] from 212 to 218 (fun s5 wx=>∃v:Int,s5=.int .i64 v∧Hid (CnR w h rv f 8 v wx))
 case first=>
  have cs:wc.cell? ⟨w.heap.size,13,none⟩=some (.int .i64 h.ats):=R0.out.2.2.cell 13 rfl;have cn:wc.cell? ⟨w.heap.size,14,none⟩=some (.int .i64 h.atn):=R0.out.2.2.cell 14 rfl;cases b with
  |false=>
   (have NX:Hid (CnR w h rv f 8 v wc):=R0.out.keep (fun e2=>by rw[e] at e2;cases e2) (Kp.refl _ _));clear e;(go_wp2_with fail);go_meet
   case rel=>exact⟨v,rfl,NX⟩
  |true=>
   (have HALL:=fun W x (hx:V3 x)=>hid (Cu (World.alloc W (.cells #[.int .i64 v, .int .i64 x] 3)) W.heap.size [v,x] (Of R0.out.1 hx) (Ba W _) (by simp)));have HM:=hid (Og wc h.ats h.atn f);clear e;(go_wp2_with fail);refine HM.out.mono ?_;rintro e w1 ⟨⟨x,rfl,hx⟩,hk⟩;(go_wp2_with fail);refine(HALL _ x hx.out.1).out.mono ?_;rintro e w9 ⟨⟨y,rfl,hy,hyy⟩,rfl⟩;(have NX:Hid (CnR w h rv f 8 y (w1.alloc (.cells #[.int .i64 v, .int .i64 x] 3))):=R0.out.join hy (fun e=>hyy e v (by simp)) (fun e _=>hx.out.2 (hyy e x (by simp))) (hk.trans (kpA _ _)));clear HALL HM hx hk hy hyy;(go_wp2_with fail);go_meet
   case rel=>exact⟨_,rfl,NX⟩
 case rest=>
 obtain⟨v,rfl,R0⟩:=hcut;clear ch e;obtain⟨b,e⟩:∃b,h.hasC=b:=⟨_,rfl⟩;have ch:wc.cell? ⟨w.heap.size,12,none⟩=some (.bool b):=e▸R0.out.2.2.cell 12 rfl;go_upto_if 220 with fail
 try simp only[Act.put]
 go_cut [5] from 221 to 227 (fun s5 wx=>∃v:Int,s5=.int .i64 v∧Hid (CnR w h rv f 9 v wx))
 case first=>
  have cs:wc.cell? ⟨w.heap.size,15,none⟩=some (.int .i64 h.cts):=R0.out.2.2.cell 15 rfl;have cn:wc.cell? ⟨w.heap.size,16,none⟩=some (.int .i64 h.ctn):=R0.out.2.2.cell 16 rfl;cases b with
  |false=>
   (have NX:Hid (CnR w h rv f 9 v wc):=R0.out.keep (fun e2=>by rw[e] at e2;cases e2) (Kp.refl _ _));clear e;(go_wp2_with fail);go_meet
   case rel=>exact⟨v,rfl,NX⟩
  |true=>
   (have HALL:=fun W x (hx:V3 x)=>hid (Cu (World.alloc W (.cells #[.int .i64 v, .int .i64 x] 3)) W.heap.size [v,x] (Of R0.out.1 hx) (Ba W _) (by simp)));have HM:=hid (Og wc h.cts h.ctn f);clear e;(go_wp2_with fail);refine HM.out.mono ?_;rintro e w1 ⟨⟨x,rfl,hx⟩,hk⟩;(go_wp2_with fail);refine(HALL _ x hx.out.1).out.mono ?_;rintro e w9 ⟨⟨y,rfl,hy,hyy⟩,rfl⟩;(have NX:Hid (CnR w h rv f 9 y (w1.alloc (.cells #[.int .i64 v, .int .i64 x] 3))):=R0.out.join hy (fun e=>hyy e v (by simp)) (fun e _=>hx.out.2 (hyy e x (by simp))) (hk.trans (kpA _ _)));clear HALL HM hx hk hy hyy;(go_wp2_with fail);go_meet
   case rel=>exact⟨_,rfl,NX⟩
 case rest=>
 obtain⟨v,rfl,R0⟩:=hcut;clear ch e;go_upto_region 23 with fail
 try simp only[Act.put]
 go_cut [235] from 228 to 235 (fun s235 wx=>∃b:Bool,s235=.bool b∧Hid (CdR b (Ie h f 9) wc wx))
 case first=>
  have c19:wc.cell? ⟨w.heap.size,19,none⟩=some (.slice A h.recs.length c):=HRV.out▸R0.out.2.2.cell 19 rfl;obtain⟨b1,e1⟩:∃b,decide ((0:Int)<(h.recs.length:Int))=b:=⟨_,rfl⟩;obtain⟨b2,e2⟩:∃b,(f != 2)=b:=⟨_,rfl⟩;have e3:decide (0<h.recs.length)=b1:=by rw[←e1];exact decide_eq_decide.2 (by omega)
  have N1:Hid (CdR true (Ie h f 9) wc wc):=⟨fun e=>(by cases e),Kp.refl _ _⟩
  have F:Hid ((b1&&b2)=false→Hid (CdR false (Ie h f 9) wc wc)):=by
   show _→_;intro f1;refine⟨fun _ g=>?_,Kp.refl _ _⟩;rw[Bool.and_eq_false_iff] at f1;rcases f1 with f1|f1
   ·rw[f1,decide_eq_false_iff_not] at e1;exact absurd (List.eq_nil_of_length_eq_zero (by omega)) g
   ·rw[f1,bne_eq_false_iff_eq] at e2;exact e2
  cases b1<;>cases b2<;>(
   (go_wp2_with fail);go_meet
   case rel=>first|exact⟨true,rfl,N1⟩|exact⟨false,rfl,F.out (by first|rfl|trivial)⟩)
 case rest=>
 obtain⟨b,rfl,RB⟩:=hcut;go_upto_if 235 with fail
 try simp only[Act.put]
 go_cut [5] from 235 to 238 (fun s5 wx=>∃v:Int,s5=.int .i64 v∧Hid (CnR w h rv f 10 v wx))
 case first=>
  cases b with
  |true=>
   (have HALL:=fun W=>hid (Cu (World.alloc W (.cells #[.int .i64 v, .int .i64 2] 3)) W.heap.size [v,2] (Of R0.out.1 (.inr (.inr rfl))) (Ba W _) (by simp)));(go_wp2_with fail);refine(HALL _).out.mono ?_;rintro e w9 ⟨⟨y,rfl,hy,hyy⟩,rfl⟩;(have NX:Hid (CnR w h rv f 10 y (wc.alloc (.cells #[.int .i64 v, .int .i64 2] 3))):=R0.out.join hy (fun e=>hyy e v (by simp)) (fun e=>absurd (hyy e 2 (by simp)) (by decide)) (RB.out.2.trans (kpA _ _)));clear HALL hy hyy;(go_wp2_with fail);go_meet
   case rel=>exact⟨_,rfl,NX⟩
  |false=>
   have NX:Hid (CnR w h rv f 10 v wc):=R0.out.keep (RB.out.1 rfl) RB.out.2;(go_wp2_with fail);go_meet
   case rel=>exact⟨v,rfl,NX⟩
 case rest=>
 obtain⟨v,rfl,R0⟩:=hcut;have HRV2:=HRV.out;subst HRV2;have c19:wc.cell? ⟨w.heap.size,19,none⟩=some (.slice A h.recs.length c):=R0.out.2.2.cell 19 rfl;have LP:Hid (V3 v∧(v=1→CanTo h f 10∧∀r∈h.recs.take 0,OwnOk r)∧CnSt w h (.slice A h.recs.length c) wc):=⟨R0.out.1,fun e=>⟨R0.out.2.1 e,fun r hr=>by rw[sE] at hr;cases hr⟩,R0.out.2.2⟩
 clear R0;go_wp2_with fail
 go_loopg [5,8,242] h.recs.length (fun g s5 s8 s242 wr=>∃(i:Nat) (v:Int),i+g=h.recs.length∧s242=.int .i64 i∧s5=.int .i64 v∧Hid (V3 v∧(v=1→CanTo h f 10∧∀r∈h.recs.take i,OwnOk r)∧CnSt w h (.slice A h.recs.length c) wr))
 case atStart=>exact⟨0,v,by omega,rfl,rfl,LP⟩
 case round=>
  clear LP;obtain⟨i,v,hi,rfl,rfl,hst⟩:=hrel;by_cases hlt:i<h.recs.length
  ·obtain⟨x,hx⟩:∃x,h.recs[i]?=some x:=⟨_,List.getElem?_eq_getElem hlt⟩;have hLr:RecsAt wr w.heap.size (.slice A h.recs.length c) h.recs:=HR0.out.keep hst.out.2.2.kp (fun _ h=>h.elim);obtain⟨b,o,c',hA,hbC,x1,x2⟩:=hLr.get hx;(injection hA with hA1 hA2 hA3);subst hA1 hA3;(have hxg:x=h.recs[i]:=by rw[List.getElem?_eq_getElem hlt] at hx;injection hx with hx;exact hx.symm);(have htk:h.recs.take (i+1)=h.recs.take i++[x]:=by rw[List.take_succ_eq_append_getElem hlt,hxg]);have hxl:x.1.length+x.2.length≤1099511627776:=HWT.out x (hxg▸List.getElem_mem hlt);have HRF:=fun W=>hid (Od W x hxl);(have HALL:=fun W y (hy:V3 y)=>hid (Cu (World.alloc W (.cells #[.int .i64 v, .int .i64 y] 3)) W.heap.size [v,y] (Of hst.out.1 hy) (Ba W _) (by simp)));have NXF:Hid (∀z y wy,Hid (RfV x z)→V3 y→(y=1→∀u∈[v,z],u=1)→Kp (fun _=>False) wr wy→Hid (V3 y∧(y=1→CanTo h f 10∧∀r∈h.recs.take (i+1),OwnOk r)∧CnSt w h (.slice (some ⟨b,o,none⟩) h.recs.length c) wy)):=by
    show ∀z y wy,_;intro z y wy hz hy hyy k;refine⟨hy,fun e=>?_,hst.out.2.2.grow k⟩;(obtain⟨q1,q2⟩:=hst.out.2.1 (hyy e v (by simp)));refine⟨q1,fun r hr=>?_⟩;rw[htk,List.mem_append,List.mem_singleton] at hr;rcases hr with hr|rfl
    ·exact q2 r hr
    ·exact hz.out.2 (hyy e z (by simp))
   clear hA2 hLr hx hxg htk hst hxl;(go_wp2_with fail);refine(HRF _).out.mono ?_;rintro e w1 ⟨⟨z,rfl,hz⟩,hk⟩;(go_wp2_with fail);refine(HALL _ z hz.out.1).out.mono ?_;rintro e w9 ⟨⟨y,rfl,hy,hyy⟩,rfl⟩;have NX:=NXF.out z y (w1.alloc (.cells #[.int .i64 v, .int .i64 z] 3)) hz hy hyy (((kpA _ _).trans hk).trans (kpA _ _));clear NXF HALL HRF hz hk hy hyy;(go_wp2_with fail);go_roundg (gk-1)
   case measure=>omega
   case rel=>exact⟨i+1,y,by omega,by simp,rfl,NX⟩
  ·(obtain rfl:i=h.recs.length:=by omega);have FIN:Hid (Oh h0 f (.returned (.int .i64 v))∧Kp (fun _=>False) w wr):=by
    refine⟨⟨v,rfl,hst.out.1,fun e=>⟨HSANE.out,?_⟩⟩,hst.out.2.2.kp⟩;rw[HHH.out];obtain⟨q1,q2⟩:=hst.out.2.1 e;rw[List.take_length] at q2;exact q1.step q2
   clear hst;(go_wp2_with fail);(go_ret);exact FIN.out
end Go.Proofs.YtgfcnjfmmjcodaaGreatDoor
