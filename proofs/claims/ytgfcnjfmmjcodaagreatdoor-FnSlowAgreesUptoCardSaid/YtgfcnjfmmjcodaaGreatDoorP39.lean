/- files of package impl, over an archive that may be cut. -/
import Derived.Deep.RegionLaw
import Derived.Test.YtgfcnjfmmjcodaaGreatDoorP38
set_option linter.all false
set_option maxRecDepth 100000
set_option maxHeartbeats 1000000
open Go.Lib (hid)
namespace Go.Proofs.YtgfcnjfmmjcodaaGreatDoor
open Go Go.RowKit
theorem Bhs {E:Nat→Addr}{B:Nat}(W:World)(hG:Glob E B W)(g:Nat)(hg:g=0∨g=5):Calls Tryz.prog 45 #[By (E g)] W fun e w'=>e=.returned (.int .i64 (Bgu g:Nat))∧w'=W:=by
 rcases hg with rfl|rfl
 ·exact Bgd W hG 0 (.inl rfl)
 ·exact Bgd W hG 5 (.inr (.inr rfl))
set_option maxHeartbeats 25600000 in
theorem Bhg {E:Nat→Addr}{B:Nat}{T:TypeId}{v:Value}{S:Nat→Prop}{inv:World→Nat→List UInt8→Prop}(hs:IsSrc E B T v S inv)(w:World)(R nb pad:Nat)(src:List UInt8)(L:Nat)(rs:List Bgt)(ge:Nat)
  (hin:Bad E B T v S inv R nb pad src w) (hf:FilesP L nb pad src rs ge) (hL:L≤1048577) (hrl:rs.length≤1048576) :
  Calls Tryz.prog 52 #[.pointer (some ⟨R,0,none⟩), .int .i64 L] w fun e w'=>Hid (Bgx (fun k=>S k∨k=R) w L rs ge e w'):=by
 have hold:(∀k,S k→k<w.heap.size)∧R<w.heap.size∧B≤w.heap.size:=by
  obtain⟨cur,blk,h,_⟩:=hin;exact⟨(hs.rd.foot h.rd).2,Bv h.row,h.glob.size⟩
 have S0:Hid (GsSt E B T v S inv R w L rs ge 0 (.slice none 0 0) w):=⟨⟨[],OwnG.nil _ _ _,by rw[sE];exact .nil⟩,⟨nb,pad,src,hin,by rw[sG];exact hf⟩,Kp.refl _ _,hold⟩
 have HS:=hid hs;have HOLD:=hid hold;have hL0:(0:Int)≤(L:Int):=by omega
 clear hin hf hold hs;go_enter Tryz.func52,Tryz.ntmps52
 go_wp2_with fail
 go_loopg [6] rs.length (fun g s6 wr=>∃(i:Nat),i+g=rs.length∧Hid (GsSt E B T v S inv R w L rs ge i s6 wr))
 case atStart=>exact⟨0,by omega,S0⟩
 case round=>
  clear S0;obtain⟨i,hi,hst⟩:=hrel;obtain⟨nb,pad,src,hn,hfp⟩:=hst.out.rd;by_cases hlt:i<rs.length
  ·obtain⟨r,hr⟩:∃r,rs[i]?=some r:=⟨_,List.getElem?_eq_getElem hlt⟩;have hdr:rs.drop i=r::rs.drop (i+1):=by
    rw[List.drop_eq_getElem_cons hlt];rw[List.getElem?_eq_getElem hlt] at hr;(injection hr with hr);rw[hr]
   rw[hdr] at hfp;obtain⟨hh,hfine,hbp⟩:=hfp.one;have HNX:=hid (Bf0 HS.out wr R nb pad src r.1 hn hh);have HAF:Hid (∀e w1,Lf E B T v S inv R wr r.1 e w1→∃(nh:Nat) (hd:Hd) (x pm:Value) (fm:Int) (M:List UInt8→Option (List UInt8)) (ks:List (List UInt8)) (Rf:Nat),e=.returned (.tuple #[.pointer (some ⟨nh,0,none⟩), .nilIface])∧AtOut E B T v S inv R wr r.1 nh hd x pm fm M ks Rf w1):=by
    intro e w1 hnx;have h1:=HOLD.out;have h2:=hst.out.kp.size;exact Bh9 hnx hfine (fun k hk=>by have:=h1.1 k hk;omega) (by omega)
   have hfill:=hfine.fill;have HR:=hid hr;have HBP:=hid hbp;clear hn hfp hh hdr hr hfine hbp;(go_wp2_with fail);refine HNX.out.mono ?_;rintro e w1 hnx;obtain⟨nh,hd,x,pm,fm,M,ks,Rf,rfl,hat⟩:=HAF.out e w1 hnx;have HAT:=hid hat;have HOF:=hid (Beh w1 nh hd x pm fm M ks hat.row hat.pm hat.times hat.keys hat.kl);clear hnx hat HNX HAF;(go_wp2_with fail);refine HOF.out.mono ?_;rintro e w2 hx;obtain⟨rv,l,rfl,ho,hl,k2⟩:=hx.out;obtain⟨Ar,cr,hrv⟩:=ho.at_.shape;subst hrv;have HB:=fun W=>Bey W (Dk hd fm true true) Ar l.length cr;(have hone:((Cf (Dk hd fm true true) (.slice Ar l.length cr) (.slice none 0 0) 0).toArray.all fun x=>x.oneCell')=true:=by simp[Cf,Bu,Ha,B5,Value.oneCell']);have ST:Hid (∀wB,wB.heap[w2.heap.size]?=some (.cells (Cf (Dk hd fm true true) (.slice Ar l.length cr) (.slice none 0 0) 0).toArray 29 (0,0))→Kp (fun _=>False) w2 wB→wB.heap.size=w2.heap.size+1→Hid (GlIn E B T v S inv R w L rs ge i r u6 wB.heap.size w2.heap.size Rf r.1.fill (I0 r.1.dat r.1.rest.length) {Dk hd fm true true with recs:=l} (.slice Ar l.length cr) (r.1.rest.take r.1.dat) (r.1.rest.drop r.1.dat) 0 0 wB)):=by
    show ∀wB,_;intro wB gB kB sB;exact GlIn.start HS.out.rd hst.out HAT.out (k2.trans kB) hl ⟨k2.size,by omega⟩ gB (ho.keep kB (fun _ _ h=>h)) (fun e=>by have:=ho.block e;omega) HBP.out hfill
   clear ho hl k2 hx HOF HAT hst hfill;dsimp only;rename_i K hK;refine hK _ _ ?_;clear hK;refine Hk rfl 29 #[(0, .tmp 24)] rfl #[(0, .agg (Bu (Dk hd fm true true) (.slice Ar l.length cr)).toArray)] ?_ (.agg (Cf (Dk hd fm true true) (.slice Ar l.length cr) (.slice none 0 0) 0).toArray) (HB _) ?_
   ·kernel_rfl
   (go_step;go_step;go_step;refine wpList_store_row rfl 29 (.tmp 9) (.tmp 25) rfl w2.heap.size (Cf (Dk hd fm true true) (.slice Ar l.length cr) (.slice none 0 0) 0).toArray rfl rfl 29 _ (Ba w2 _) (by kernel_rfl) (by rfl) hone ?_);(go_wp2_with fail);refine Gv ?_;intro wB gB kB sB;have SB:=ST.out wB gB kB sB;clear gB kB ST hone HB HBP;generalize wB.heap.size=N0 at SB;clear sB;generalize w2.heap.size=F at SB ⊢;(obtain⟨hh,hhh⟩:∃hh,{Dk hd fm true true with recs:=l}=hh:=⟨_,rfl⟩);obtain⟨rv,hrv⟩:∃rv,Value.slice Ar l.length cr=rv:=⟨_,rfl⟩;rw[hhh,hrv] at SB;clear hhh hrv;generalize r.1.fill=pd at SB;generalize I0 r.1.dat r.1.rest.length=g0 at SB;generalize r.1.rest.take r.1.dat=body at SB;generalize r.1.rest.drop r.1.dat=tl at SB;have hg05:g0=0∨g0=5:=SB.out.bp.g05;have hbl:body.length≤1048576:=SB.out.bp.bl;have HEN0:=fun W (hW:Glob E B W)=>hid (Bhs W hW g0 hg05);have hec:(Bgu g0:Int)=1∨(Bgu g0:Int)=6:=by
    rcases hg05 with rfl|rfl
    ·exact .inl rfl
    ·exact .inr rfl
   have HEC:=hid hec;have HG05:=hid hg05;clear hec hg05;go_loopg [10] (body.length+1) (fun g s10 wx=>∃(k:Nat) (en:Int),Hid (GlIn E B T v S inv R w L rs ge i r u6 N0 F Rf pd g0 hh rv body tl k en wx)∧(en=0∧k≤body.length∧body.length-k+1≤g∨en≠0))
   case atStart=>exact⟨0,0,SB, .inl ⟨rfl,Nat.zero_le _,by omega⟩⟩
   case round=>
    clear SB;obtain⟨k,en,hSI,hor⟩:=hrel;have SI:Hid (GlIn E B T v S inv R w L rs ge i r u6 N0 F Rf pd g0 hh rv body tl k en wr):=hSI.out;have hkL:k≤L:=by
     rcases SI.out.at_ with ⟨_,_,h,_⟩|⟨_,_,h,_⟩<;>exact h
    have hcase:(en=0∧k<L∧k≤body.length∧body.length-k+1≤gk)∨(en=0∧k=L)∨en=1∨en=6:=by
     rcases hor with ⟨h1,h2,h3⟩|h
     ·by_cases hlt:k<L
      ·exact .inl ⟨h1,hlt,h2,h3⟩
      ·exact .inr (.inl ⟨h1,by omega⟩)
     ·rcases SI.out.at_ with ⟨h1,_⟩|⟨h1,_⟩
      ·exact absurd h1 h
      ·rcases HEC.out with h2|h2
       ·exact .inr (.inr (.inl (h1.trans h2)))
       ·exact .inr (.inr (.inr (h1.trans h2)))
    clear hor;rcases hcase with ⟨rfl,hkL2,hk,hgk⟩|hex
    ·obtain⟨dv,hrow,hown⟩:=SI.out.row;obtain⟨nbx,hing⟩:=SI.out.inf (.inl rfl);obtain⟨A1,c1,hdv⟩:=hown.shape;rw[List.length_take,Nat.min_eq_left hk] at hdv;subst hdv;have c21:wr.cell? ⟨F,21,none⟩=some (.slice A1 k c1):=cell_of hrow 21 rfl;have c22:wr.cell? ⟨F,22,none⟩=some (.int .i64 0):=cell_of hrow 22 rfl;(obtain⟨n,hn,hn1,hn2,hn3⟩:∃n:Nat,Hid (min 512 (L-k)=n)∧1≤n∧n≤512∧k+n≤L:=⟨_,hid rfl,by omega,by omega,by omega⟩);(have hk2:(k:Int)<(L:Int):=by omega);(have hmin:min (512:Int) ((L:Int)-(k:Int))=(n:Int):=by have:=hn.out;omega);(have hmin2:(if ((L:Int)-(k:Int))<512 then (L:Int)-(k:Int) else 512)=(n:Int):=by have:=hn.out;split<;>omega);(have hwr:IntKind.i64.wrap ((L:Int)-(k:Int))=(L:Int)-(k:Int):=IntWalk.i64_in _ (by omega));(have hmk:=fun W=>Bdw W n (by omega));have HRD:Hid (Calls Tryz.prog 51 #[.pointer (some ⟨R,0,none⟩), .slice (some ⟨wr.heap.size,0,none⟩) n n] (wr.alloc (.cells (ubs (List.replicate n 0)).toArray 5)) (RdX E B T v S inv R Rf pd nbx g0 (body.drop k) tl (wr.alloc (.cells (ubs (List.replicate n 0)).toArray 5)) wr.heap.size n (ubs (List.replicate n 0)) 5)):=by
      have hlt2:=hing.lt HS.out.rd;have hN:=SI.out.nl;have hB:=HOLD.out.2.2;have hkw:=SI.out.kp.size;exact(hing.keep HS.out.rd ((Kp.refl (fun _=>False) _).alloc _) (fun _ h=>h.elim)).read HS.out.rd _ n n 5 _ hn1 (by omega) (Ba wr _) (by rw[Bi,List.length_replicate];omega) (Nat.le_refl _) (fun h=>by have:=hlt2 _ h;omega) (by omega)
     have HGK:=hid hgk;have HHK:=hid hk;clear hSI hrow hown hgk hk hn hing;(go_wp2_with fail);refine HRD.out.mono ?_;rintro e w3 hrd;have hrd0:=hrd;obtain⟨m,err,rfl,_⟩:=hrd0;(obtain⟨q1,q2,q3,q4,q5,dv',w4,hrun,z21,⟨x21,y21⟩,z22,y22,q6,⟨A2,c2,rfl⟩,NXn,NXe⟩:=SI.out.step HS.out.rd c21 wr.heap.size n m nbx _ (wr.alloc (.cells (ubs (List.replicate n 0)).toArray 5)) w3 w3.drew _ 5 rfl ((Kp.refl _ _).alloc _) ((Kp.refl _ _).drew) hrd (by rw[Bi,List.length_replicate];omega) err rfl hn3 hn1 n 27);have HRUN:=hid hrun;have HQ2:=hid q2;have HNXn:=hid NXn;have HNXe:=hid NXe;(have hmi:(m:Int)≤(n:Int):=by omega);(have hmi0:(0:Int)≤(m:Int):=by omega);(have hn0:¬n=0:=by omega);clear hrd c21 c22 hmk hrun q2 NXn NXe HRD hmin hmin2 hwr SI q4 hn3;rcases q3 with ⟨rfl,hm⟩|rfl
     ·have HM:=hid hm;clear hm;(go_upto_region 9 with fail);go_region_law (refine Bp rfl _ _ _ _ rfl _ _ rfl rfl _ _ HRUN.out ?_)
      all_goals
       (go_wp2_with fail);refine(Bgc _).mono ?_;rintro e w5 ⟨rfl,rfl⟩;(go_wp2_with fail);go_roundg (body.length-(k+m)+1)
       case measure=>have h1:=HGK.out;have h2:=HQ2.out;have h3:=HM.out;omega
       case rel=>exact⟨k+m,0,HNXn.out (by first|rfl|trivial), .inl ⟨rfl,HQ2.out,Nat.le_refl _⟩⟩
     ·obtain⟨et,ev,hev⟩:∃t v,By (E g0)=.iface t v:=⟨_,_,rfl⟩;have HEN:=HEN0;(have HNX2:Hid (GlIn E B T v S inv R w L rs ge i r u6 N0 F Rf pd g0 hh rv body tl (k+m) (Bgu g0:Nat) ((w4.setCell ⟨F,21,none⟩ (.slice A2 (k+m) c2)).setCell ⟨F,22,none⟩ (.int .i64 (Bgu g0:Nat)))):=HNXe.out (by first|rfl|trivial));rw[hev] at HEN ⊢;(go_upto_region 9 with fail);go_region_law (refine Bp rfl _ _ _ _ rfl _ _ rfl rfl _ _ HRUN.out ?_)
      all_goals
       (go_wp2_with fail);refine(HEN _ q6).out.mono ?_;rintro e w5 ⟨rfl,rfl⟩;(go_wp2_with fail);go_roundg 0
       case measure=>have h1:=HGK.out;omega
       case rel=>exact⟨k+m,_,HNX2, .inr (by have:=HEC.out;omega)⟩
    ·have hend:en≠0∨k=L:=by
      rcases hex with ⟨_,h⟩|h|h
      ·exact .inr h
      ·exact .inl (by omega)
      ·exact .inl (by omega)
     obtain⟨dv,hrow,hone,v3,w3,hrun,c22n,hown3,hkp3,NX,NX6⟩:=SI.out.done HS.out.rd HR.out hend hrl 35;have hown':∃A c1,dv=.slice A k c1:=by
      obtain⟨dv2,hrow2,hown2⟩:=SI.out.row;have e1:=cell_of hrow 21 (v:=dv) rfl;have e2:=cell_of hrow2 21 (v:=dv2) rfl;rw[e1] at e2;(injection e2 with e2);obtain⟨A,c,h⟩:=hown2.shape;(have hk:k≤body.length:=by rcases SI.out.at_ with ⟨_,h,_⟩|⟨_,h,_⟩<;>omega);rw[List.length_take,Nat.min_eq_left hk] at h;exact⟨A,c,e2.trans h⟩
     obtain⟨A1,c1,hdv⟩:=hown';subst hdv;have c21:wr.cell? ⟨F,21,none⟩=some (.slice A1 k c1):=cell_of hrow 21 rfl;have c22:wr.cell? ⟨F,22,none⟩=some (.int .i64 en):=cell_of hrow 22 rfl;have HRUN:=hid hrun;have HROW:=hid hrow;have HOWN3:=hid hown3;have HKP3:=hid hkp3;have HNX:=hid NX;have HNX6:=hid NX6;clear hSI SI hrun NX NX6 hrow hown3 hkp3 hend;rcases hex with ⟨rfl,rfl⟩|rfl|rfl
     ·(go_upto_region 11 with fail);(go_step;go_step;go_step;go_step;refine wpList_load_row rfl 29 (.tmp 9) rfl F rfl 29 (Cf hh rv (.slice A1 k c1) 0).toArray (0,0) _ HROW.out Tryz.underlying29 rfl (by kernel_rfl) ?_);refine Gw rfl 35 1 #[(0, .tmp 64)] rfl #[(0, .agg (Cf hh rv (.slice A1 k c1) 0).toArray)] ?_ (.slice (some ⟨wr.heap.size,0,none⟩) 1 1) (Bgg _ _ _ _ _) ?_
      ·kernel_rfl
      refine Lib.wpList_append_run _ rfl _ _ _ _ rfl _ _ rfl rfl _ _ HRUN.out ?_;(go_wp2_with fail);go_roundg (rs.length-(i+1))
      case measure=>omega
      case rel=>exact⟨i+1,by omega,HNX.out (by first|exact .inl rfl|exact .inl trivial|exact trivial)⟩
     ·(go_upto_region 11 with fail);(go_step;go_step;go_step;go_step;refine wpList_load_row rfl 29 (.tmp 9) rfl F rfl 29 (Cf hh rv (.slice A1 k c1) 1).toArray (0,0) _ HROW.out Tryz.underlying29 rfl (by kernel_rfl) ?_);refine Gw rfl 35 1 #[(0, .tmp 64)] rfl #[(0, .agg (Cf hh rv (.slice A1 k c1) 1).toArray)] ?_ (.slice (some ⟨wr.heap.size,0,none⟩) 1 1) (Bgg _ _ _ _ _) ?_
      ·kernel_rfl
      refine Lib.wpList_append_run _ rfl _ _ _ _ rfl _ _ rfl rfl _ _ HRUN.out ?_;(go_wp2_with fail);go_roundg (rs.length-(i+1))
      case measure=>omega
      case rel=>exact⟨i+1,by omega,HNX.out (by first|exact .inr rfl|exact .inr trivial|exact trivial)⟩
     ·(go_upto_region 11 with fail);(go_step;go_step;go_step;go_step;refine wpList_load_row rfl 29 (.tmp 9) rfl F rfl 29 (Cf hh rv (.slice A1 k c1) 6).toArray (0,0) _ HROW.out Tryz.underlying29 rfl (by kernel_rfl) ?_);refine Gw rfl 35 1 #[(0, .tmp 64)] rfl #[(0, .agg (Cf hh rv (.slice A1 k c1) 6).toArray)] ?_ (.slice (some ⟨wr.heap.size,0,none⟩) 1 1) (Bgg _ _ _ _ _) ?_
      ·kernel_rfl
      refine Lib.wpList_append_run _ rfl _ _ _ _ rfl _ _ rfl rfl _ _ HRUN.out ?_;have FIN:Hid (Bgx (fun k=>S k∨k=R) w L rs ge (.returned (.tuple #[v3, .int .i64 6])) w3∧∀n,Bgx (fun k=>S k∨k=R) w L rs ge (.returned (.tuple #[v3, .int .i64 6])) (w3.drewN n)):=by
       (obtain⟨_,h2,h3⟩:=HNX6.out (by omega) (by omega));have h4:=HOWN3.out;rw[←h2,List.take_length] at h4;(have e6:(6:Int)=Bg1 ge:=by rw[h3];rfl);rw[e6];exact⟨Bhw h4 HOLD.out HKP3.out (Kp.refl _ _),fun n=>Bhw h4 HOLD.out HKP3.out ((Kp.refl _ _).drewN n)⟩
      (go_wp2_with fail);(go_quiet (fail));(go_wp2_with fail);(go_ret2);exact FIN.out.2 _
  ·(obtain rfl:i=rs.length:=by omega);rw[List.drop_length] at hfp;obtain⟨hh,hg⟩:HeadP nb pad none [] [] src (.fail ge)∧(ge=0∨ge=5):=by
    cases hfp with
    |stop h hg=>exact⟨h,hg⟩
   have HNX:=hid (Bf0 HS.out wr R nb pad src (.fail ge) hn hh);have hG0:Glob E B wr∧B≤R:=by
    obtain⟨cur,blk,h,_⟩:=hn;exact⟨h.glob,h.above⟩
   clear hn hfp hh;have HOWN:=hid hst.out.own;have HKP:=hid hst.out.kp;obtain⟨et,ev,hev⟩:∃t v,By (E ge)=.iface t v:=⟨_,_,rfl⟩;have HGG:=hid hg;clear hg;(go_wp2_with fail);refine HNX.out.mono ?_;rintro e w1 ⟨k1,rfl,hr1⟩;have FIN:Hid (Bgx (fun k=>S k∨k=R) w L rs ge (.returned (.tuple #[u6, .int .i64 (Bgu ge:Nat)])) w1):=by
    have h4:=HOWN.out;rw[List.take_length] at h4;have e6:((Bgu ge:Nat):Int)=Bg1 ge:=by
     rcases HGG.out with h|h
     ·rw[h];rfl
     ·rw[h];rfl
    rw[e6];exact Bhw h4 HOLD.out HKP.out k1
   have hG1:Glob E B w1:=hG0.1.keep k1 (fun b hb=>by
    rcases hb with h|h
    ·exact HS.out.rd.low _ h
    ·rw[h];exact hG0.2)
   have HEN:=hid (Bhs w1 hG1 ge HGG.out);rw[hev] at HEN ⊢;clear hst HNX hr1 k1 HOWN HKP;(go_wp2_with fail);refine HEN.out.mono ?_;rintro e w2 ⟨rfl,rfl⟩;(go_wp2_with fail);(go_ret2);exact FIN
end Go.Proofs.YtgfcnjfmmjcodaaGreatDoor
