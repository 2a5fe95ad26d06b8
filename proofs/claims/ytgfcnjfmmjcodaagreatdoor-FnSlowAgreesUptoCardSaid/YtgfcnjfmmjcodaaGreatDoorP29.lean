/- Choose of the specification. -/
import Derived.Great.BuildSlice
import Derived.Test.YtgfcnjfmmjcodaaGreatDoorP27
import Derived.Test.YtgfcnjfmmjcodaaGreatDoorP28
set_option linter.all false
set_option maxRecDepth 100000
set_option maxHeartbeats 1000000
open Go.Lib (hid)
namespace Go.Proofs.YtgfcnjfmmjcodaaGreatDoor
open Go Go.RowKit
section
def V6 (h:Hd)(s f:Int):Hd:={h with ms:=s,mn:=0,hasA:=false,hasC:=false,ats:=0,atn:=0,cts:=0,ctn:=0,fmt:=f}
def msH (h:Hd)(s:Int):Hd:={h with ms:=s}
structure Chosen (h h':Hd):Prop where
 fmt:h'.fmt=1∨h'.fmt=2∨h'.fmt=3
 can:CanP h' h'.fmt
 same:h.fmt≠0→h'=Bq h
 rnd:h.fmt=0→∃s,(s=h.ms∨s=wrap64 (h.ms+1))∧h'=Bq (V6 h s h'.fmt)
def ChEnd (h:Hd)(rv:Value)(e:Ending):Prop:=∃h' v,e=.returned (.tuple #[.agg (Bd h' rv).toArray, .int .i64 v])∧V3 v∧(v=1→Chosen h h')
structure ChS (w:World)(h:Hd)(rv:Value)(W:World):Prop where
 row:W.heap[w.heap.size]?=some (.cells (Bd h rv).toArray 45 (0,0))
 own:∃cs,cs.size=21∧W.heap[w.heap.size+1]?=some (.cells cs 45 (0,0))
 kp:Kp (fun _=>False) w W
section
variable {w:World} {h:Hd} {rv:Value} {W W':World}
theorem ChS.cell (s:ChS w h rv W)(i:Nat){v:Value}(hv:(Bd h rv)[i]?=some v):W.cell? ⟨w.heap.size,i,none⟩=some v:=
 cell_of s.row i (by rw[List.getElem?_toArray];exact hv)
theorem ChS.free (s:ChS w h rv W)(i:Nat):W.frozen? ⟨w.heap.size,i,none⟩=false:=Bb s.row i
theorem ChS.range (s:ChS w h rv W){cs:List Value}(e:Bd h rv=cs):W.rangeAt w.heap.size 0 cs:=fun j v hv=>by
 rw[Nat.zero_add]
 rw[←e] at hv
 exact s.cell j hv
theorem ChS.grow (s:ChS w h rv W)(k:Kp (fun _=>False) W W'):ChS w h rv W':=
 ⟨k.heap s.row (fun h=>h),(let ⟨cs,h1,h2⟩:=s.own;⟨cs,h1,k.heap h2 (fun h=>h)⟩),s.kp.trans k⟩
theorem ChS.there (s:ChS w h rv W):W.there (w.heap.size+1) 0 21:=by
 obtain⟨cs,h1,h2⟩:=s.own;exact Ga h2 (by omega)
theorem ChS.store (s:ChS w h rv W){vs:List Value}(hv:vs.length=21) :
  ChS w h rv (W.setCells (w.heap.size+1) 0 vs)∧((W.setCells (w.heap.size+1) 0 vs).heap[w.heap.size+1]?=some (.cells vs.toArray 45 (0,0))∧Kp (fun _=>False) w (W.setCells (w.heap.size+1) 0 vs)):=by
 obtain⟨cs,h1,h2⟩:=s.own;have k:Kp (· =w.heap.size+1) W (W.setCells (w.heap.size+1) 0 vs):=Dn (S:=(· =w.heap.size+1)) _ (.inl rfl) _ _ _ (Kp.refl _ _);have kw:Kp (fun _=>False) w (W.setCells (w.heap.size+1) 0 vs):=Dn _ (.inr (by omega)) _ _ _ s.kp
 have g:=Dz (vs:=vs) h2 (by rw[h1,hv])
 exact⟨⟨k.heap s.row (by omega),⟨_,by rw[List.size_toArray];exact hv,g⟩,kw⟩,g,kw⟩
theorem ChS.set (s:ChS w h rv W)(i:Nat)(v:Value)(h':Hd)(e:(Bd h rv).toArray.setIfInBounds i v=(Bd h' rv).toArray):ChS w h' rv (W.setCell ⟨w.heap.size,i,none⟩ v):=by
 obtain⟨cs,h1,h2⟩:=s.own;have g:=heap_set s.row i v;rw[e] at g;exact⟨g,⟨cs,h1,Ci h2 _ _ (by show ¬w.heap.size+1=w.heap.size;omega)⟩,s.kp.setCell (.inr (Nat.le_refl _)) _⟩
end
theorem Ym (h:Hd)(f:Int):Bq {h with fmt:=f}={Bq h with fmt:=f}:=by unfold Bq E6;split<;>rfl
theorem CanP.setF {h:Hd}{f:Int}(c:CanP h f)(g:Int):CanP {h with fmt:=g} f:=
 ⟨⟨c.sane.small,c.sane.mod,c.sane.acc,c.sane.chg⟩,c.typ,c.name,c.link,c.un,c.gn,c.mode,c.uid,c.gid,c.maj,c.min,c.dev,c.size,c.mod,c.acc,c.chg,c.recs,c.own⟩
theorem ChEnd.open_ (h h':Hd)(rv:Value):ChEnd h rv (.returned (.tuple #[.agg (Bd h' rv).toArray, .int .i64 0])):=⟨h',0,rfl, .inl rfl,fun h=>absurd h (by decide)⟩
theorem ChEnd.wrong (h h':Hd)(rv:Value):ChEnd h rv (.returned (.tuple #[.agg (Bd h' rv).toArray, .int .i64 2])):=⟨h',2,rfl, .inr (.inr rfl),fun h=>absurd h (by decide)⟩
theorem Yn {h:Hd}{s f:Int}(h0:h.fmt=0)(hs:s=h.ms∨s=wrap64 (h.ms+1))(hf:f=1∨f=2∨f=3)(hv:SaneP (V6 h s h.fmt)∧CanTo (Bq (V6 h s h.fmt)) f 11):Chosen h (Bq {V6 h s h.fmt with fmt:=f}):=by
 have e:(Bq {V6 h s h.fmt with fmt:=f}).fmt=f:=by rw[Do]
 refine⟨by rw[e];exact hf,by rw[e,Ym];exact(Zi hv.1 hv.2).setF f,fun h=>absurd h0 h,fun _=>⟨s,hs,by rw[e];rfl⟩⟩
theorem V7 {h:Hd}(hf:h.fmt=1∨h.fmt=2∨h.fmt=3)(hv:SaneP h∧CanTo (Bq h) h.fmt 11):Chosen h (Bq h):=
 ⟨by rw[Do];exact hf,by rw[Do];exact Zi hv.1 hv.2,fun _=>rfl,fun e=>by omega⟩
set_option maxHeartbeats 12800000 in
theorem Yo (w:World)(h:Hd)(rv:Value)(hra:RecsAt w w.heap.size rv h.recs)(hw:weight h≤1099511627776) :
  Calls Tryz.prog 32 #[.agg (Bd h rv).toArray] w fun e w'=>Hid (ChEnd h rv e)∧Kp (fun _=>False) w w':=by
 have hone:=fun h=>Dx (h:=h) (M9 hra);have hwl:h.name.length≤1099511627776:=by
  rw[C9] at hw;omega
 have HONE:=hid hone;have HST:=fun W (k:Kp (fun _=>False) w W)=>hid (Lj W h w.heap.size rv (hra.keep k (fun _ h=>h.elim)) k.size hw);have HPR:=fun W (q:Hd) (e:q.name=h.name)=>hid (Ke W q rv (M9 hra) (by rw[e];exact hwl))
 have HCN:=fun W (q:Hd) (f:Int) (hf:f=1∨f=2∨f=3) (k:Kp (fun _=>False) w W) (e:q.recs=h.recs) (e2:weight q=weight h)=>hid (Uj W q rv f hf (by rw[e];exact(hra.keep k (fun _ h=>h.elim)).mono k.size) (by rw[e2];exact hw))
 obtain⟨hv,hhv⟩:∃hv:Array Value,(Bd h rv).toArray=hv:=⟨_,rfl⟩;rw[hhv];clear hra hone hwl hw;go_enter Tryz.func32,Tryz.ntmps32
 go_upto_region 1 with fail
 refine Ib ?_;intro wB g1 g2 kB sB;rw[←hhv] at g1;have SB:Hid (ChS w h rv wB):=⟨g1,⟨_,by rfl,g2⟩,kB⟩
 clear hhv g1 g2 kB sB;go_step;refine wpList_load_row rfl 45 (.tmp 1) rfl w.heap.size rfl 45 (Bd h rv).toArray (0,0) _ SB.out.row Tryz.underlying45 rfl (by kernel_rfl) ?_
 go_wp2_with fail
 refine(HST wB SB.out.kp).out.mono ?_;rintro e w1 ⟨hx1,k1⟩;obtain⟨b,rfl,hsane⟩:=hx1.out;have S1:=hid (SB.out.grow k1);clear k1 SB hx1;cases b with
 |true=>
  go_upto_region 2 with fail
  go_step;refine wpList_load_row rfl 45 (.tmp 1) rfl w.heap.size rfl 45 (Bd h rv).toArray (0,0) _ S1.out.row Tryz.underlying45 rfl (by kernel_rfl) ?_
  have ⟨S8,S9⟩:=S1.out.store (vs:=Bd h rv) rfl;have FIN:=hid S9;refine wpList_store_mid rfl 45 (.tmp 2) (.tmp 8) rfl (w.heap.size+1) 0 (Bd h rv).toArray rfl rfl S1.out.there (by kernel_rfl) (HONE.out h) ?_
  clear S8 S9;go_wp2_with fail
  exact bodyPost_ret (B3 rfl _ _ (w.heap.size+1) (.agg (Bd h rv).toArray) rfl (run_loadVar_row _ (w.heap.size+1) 45 45 _ (0,0) _ FIN.out.1 Tryz.underlying45 rfl (by kernel_rfl))) rfl ⟨ChEnd.open_ h h rv,FIN.out.2⟩
 |false=>
 have HSN:=hid (hsane rfl);clear hsane;obtain⟨b3,e3⟩:∃b,(h.fmt != 0)=b:=⟨_,rfl⟩;have c20:w1.cell? ⟨w.heap.size,20,none⟩=some (.int .i64 h.fmt):=S1.out.cell 20 rfl;cases b3 with
 |true=>
  have hf:h.fmt=1∨h.fmt=2∨h.fmt=3:=by
   have h1:=HSN.out.lo;have h2:=HSN.out.hi;(have h3:h.fmt≠0:=by simpa using e3);omega
  have hf0:h.fmt≠0:=by simpa using e3
  obtain⟨cs,hcs⟩:∃cs,Bd h rv=cs:=⟨_,rfl⟩;have hi45:(Tryz.prog.info? 45).map (·.size)=some cs.length:=by rw[←hcs];kernel_rfl
  have HI45:=hid hi45;have HCS:=hid hcs;have HF:=hid hf;have HF0:=hid hf0;clear hi45 hcs hf hf0;go_upto_region 4 with fail
  have S0:ChS w h rv w1.drew:=S1.out.grow ((Kp.refl _ _).drew);refine wp_region_held_drew (S:=ChS w h rv) (by kernel_rfl) ?_ (fun hHeld=>?_)
  ·exact S0
  clear S0;refine' wpAnyH_take (i:=0) (v:=_) rfl (by kernel_rfl) (by kernel_rfl) (by kernel_rfl) (fun _ _ _ h=>h) (yieldsIf_load_mid (by rfl) 45 (.tmp 1) rfl w.heap.size 0 rfl cs _ (fun W hSw=>hSw.range HCS.out) Tryz.underlying45 rfl HI45.out) (by assumption) ?_
  try simp only[Act.put,sA,sB,sC]
  refine' wpAnyH_take (i:=2) (v:=_) rfl (by kernel_rfl) (by kernel_rfl) (by kernel_rfl) (fun _ _ _ h=>h) (yieldsIf_load_mid (by rfl) 45 (.tmp 1) rfl w.heap.size 0 rfl cs _ (fun W hSw=>hSw.range HCS.out) Tryz.underlying45 rfl HI45.out) (by assumption) ?_
  try simp only[Act.put,sA,sB,sC]
  refine wpAnyH_take (i:=3) (v:=?_) rfl (by kernel_rfl) (by kernel_rfl) (by kernel_rfl) (fun _ _ _ h=>h) (Or.inl ⟨by rfl,?_⟩) (by assumption) ?_
  rotate_left 1
  ·intro W hSw;go_simp;(try with_reducible rfl)
  try simp only[Act.put,sA,sB,sC]
  refine wpAnyH_take (i:=4) (v:=?_) rfl (by kernel_rfl) (by kernel_rfl) (by kernel_rfl) (fun _ _ _ h=>h) (Or.inl ⟨by rfl,?_⟩) (by assumption) ?_
  rotate_left 1
  ·intro W hSw;have c20:=hSw.cell 20 (v:=.int .i64 h.fmt) rfl;clear hSw;go_simp;(try with_reducible rfl)
  try simp only[Act.put,sA,sB,sC]
  refine wpAnyH_ready (rs:=[1]) (by decide +kernel) (by simp) ?_
  refine AllReadyH.cons (o:=_) rfl (fun K hK=>?_) AllReadyH.nil;go_simp;go_at_call 60
  rw[←HCS.out];refine(HPR _ h rfl).out.mono ?_;rintro e w2 ⟨rfl,k2⟩;rw[HCS.out];have S2:=hid (hHeld.grow k2);clear k2 hHeld;go_wp2_with fail
  refine hK.out _ _ ?_ (fun hHeld=>?_)
  ·exact S2.out
  clear hK K;try simp only[Act.put,sA,sB,sC]
  refine wpAnyH_ready (rs:=[5]) (by decide +kernel) (by simp) ?_
  refine AllReadyH.cons (o:=_) rfl (fun K hK=>?_) AllReadyH.nil;go_simp;go_at_call 48
  rw[←HCS.out];refine(HCN _ h h.fmt HF.out S2.out.kp rfl rfl).out.mono ?_;rintro e w3 ⟨hx3,k3⟩;rw[HCS.out];obtain⟨v,rfl,hv3,hv1⟩:=hx3.out;have FV:Hid (ChEnd h rv (.returned (.tuple #[.agg (Bd (Bq h) rv).toArray, .int .i64 v]))):=⟨Bq h,v,rfl,hv3,fun e=>V7 HF.out (hv1 e)⟩;have S3:=hid (S2.out.grow k3);clear k3 hHeld S2 hx3 hv3 hv1;go_wp2_with fail
  refine hK.out _ _ ?_ (fun hHeld=>?_)
  ·exact S3.out
  clear hK K;try simp only[Act.put,sA,sB,sC]
  refine wpAnyH_ready (rs:=[6]) (by decide +kernel) (by simp) ?_
  refine AllReadyH.cons (o:=_) rfl (fun K hK=>?_) AllReadyH.nil;rw[if_pos (by rfl)]
  have ⟨S8,S9⟩:=S3.out.store (vs:=Bd (Bq h) rv) rfl;have FIN:=hid S9;refine wp_store_mid 45 (.tmp 2) (.tmp 13) rfl (w.heap.size+1) 0 (Bd (Bq h) rv).toArray rfl rfl S3.out.there (by kernel_rfl) (HONE.out (Bq h)) ?_
  clear S9;refine hK.out _ _ ?_ (fun hHeld=>?_)
  ·exact S8
  clear hK K S8;try simp only[Act.put,sA,sB,sC]
  refine wpAnyH_ready (rs:=[7]) (by decide +kernel) (by simp) ?_
  refine AllReadyH.cons (o:=_) rfl (fun K hK=>?_) AllReadyH.nil;go_simp;refine hK.out _ _ ?_ (fun hHeld=>?_)
  ·exact hHeld
  clear hK K;try simp only[Act.put,sA,sB,sC]
  refine wpAnyH_done (by decide +kernel) ?_ _
  clear hHeld;go_wp2_with fail
  exact bodyPost_ret (B3 rfl _ _ (w.heap.size+1) (.agg (Bd (Bq h) rv).toArray) rfl (run_loadVar_row _ (w.heap.size+1) 45 45 _ (0,0) _ FIN.out.1 Tryz.underlying45 rfl (by kernel_rfl))) rfl ⟨FV,FIN.out.2⟩
 |false=>
 have hf0:h.fmt=0:=by simpa using e3
 have HF0:=hid hf0;clear hf0;have c10:w1.cell? ⟨w.heap.size,10,none⟩=some (.int .i64 h.mn):=S1.out.cell 10 rfl;obtain⟨b4,e4⟩:∃b,(h.mn==500000000)=b:=⟨_,rfl⟩;cases b4 with
 |true=>
  go_upto_region 6 with fail
  go_step;refine wpList_load_row rfl 45 (.tmp 1) rfl w.heap.size rfl 45 (Bd h rv).toArray (0,0) _ S1.out.row Tryz.underlying45 rfl (by kernel_rfl) ?_
  have ⟨S8,S9⟩:=S1.out.store (vs:=Bd h rv) rfl;have FIN:=hid S9;refine wpList_store_mid rfl 45 (.tmp 2) (.tmp 22) rfl (w.heap.size+1) 0 (Bd h rv).toArray rfl rfl S1.out.there (by kernel_rfl) (HONE.out h) ?_
  clear S8 S9;go_wp2_with fail
  exact bodyPost_ret (B3 rfl _ _ (w.heap.size+1) (.agg (Bd h rv).toArray) rfl (run_loadVar_row _ (w.heap.size+1) 45 45 _ (0,0) _ FIN.out.1 Tryz.underlying45 rfl (by kernel_rfl))) rfl ⟨ChEnd.open_ h h rv,FIN.out.2⟩
 |false=>
 obtain⟨b5,e5⟩:∃b,decide ((500000000:Int)<h.mn)=b:=⟨_,rfl⟩;have c9:w1.cell? ⟨w.heap.size,9,none⟩=some (.int .i64 h.ms):=S1.out.cell 9 rfl;have z9:=S1.out.free 9;have GO:∀(s:Int) (wx:World),(s=h.ms∨s=wrap64 (h.ms+1))→Hid (ChS w (msH h s) rv wx)→Hid (∃s,(s=h.ms∨s=wrap64 (h.ms+1))∧ChS w (msH h s) rv wx):=fun s wx h1 h2=>⟨s,h1,h2.out⟩;go_upto_if 26 with fail
 try simp only[Act.put]
 go_cut [] from 23 to 32 (fun wx=>Hid (∃s,(s=h.ms∨s=wrap64 (h.ms+1))∧ChS w (msH h s) rv wx))
 case first=>
  cases b5 with
  |false=>
   have NX:=GO h.ms w1 (.inl rfl) S1.out;clear S1 GO;(go_wp2_with fail);go_meet
   case rel=>exact NX
  |true=>
   have NX:=GO _ _ (.inr rfl) (hid (S1.out.set 9 (.int .i64 (wrap64 (h.ms+1))) (msH h (wrap64 (h.ms+1))) rfl));clear S1 GO;(go_wp2_with fail);(go_meet);trace_state
   case rel=>exact NX
 case rest=>
 obtain⟨s,hs,Sc⟩:=hcut.out;have HS:=hid hs;have S2:=hid Sc;clear hcut hs Sc S1 GO c9 c10 z9 e4 e5 c20 e3;have y0:=S2.out.free 10;have y1:=S2.out.free 11;have y2:=S2.out.free 12;have y3:=S2.out.free 13;have y4:=S2.out.free 14;have y5:=S2.out.free 15;have y6:=S2.out.free 16;have x0:wc.cell? ⟨w.heap.size,10,none⟩=some (.int .i64 h.mn):=S2.out.cell 10 rfl;have x1:wc.cell? ⟨w.heap.size,11,none⟩=some (.bool h.hasA):=S2.out.cell 11 rfl;have x2:wc.cell? ⟨w.heap.size,12,none⟩=some (.bool h.hasC):=S2.out.cell 12 rfl;have x3:wc.cell? ⟨w.heap.size,13,none⟩=some (.int .i64 h.ats):=S2.out.cell 13 rfl;have x4:wc.cell? ⟨w.heap.size,14,none⟩=some (.int .i64 h.atn):=S2.out.cell 14 rfl;have x5:wc.cell? ⟨w.heap.size,15,none⟩=some (.int .i64 h.cts):=S2.out.cell 15 rfl;have x6:wc.cell? ⟨w.heap.size,16,none⟩=some (.int .i64 h.ctn):=S2.out.cell 16 rfl;have S3:Hid (ChS w (V6 h s h.fmt) rv (((((((wc.setCell ⟨w.heap.size,10,none⟩ (.int .i64 0)).setCell ⟨w.heap.size,11,none⟩ (.bool false)).setCell ⟨w.heap.size,12,none⟩ (.bool false)).setCell ⟨w.heap.size,13,none⟩ (.int .i64 0)).setCell ⟨w.heap.size,14,none⟩ (.int .i64 0)).setCell ⟨w.heap.size,15,none⟩ (.int .i64 0)).setCell ⟨w.heap.size,16,none⟩ (.int .i64 0))):=by
  have a0:=S2.out.set 10 (.int .i64 0) {msH h s with mn:=0} rfl
  have a1:=a0.set 11 (.bool false) {msH h s with mn:=0,hasA:=false} rfl
  have a2:=a1.set 12 (.bool false) {msH h s with mn:=0,hasA:=false,hasC:=false} rfl
  have a3:=a2.set 13 (.int .i64 0) {msH h s with mn:=0,hasA:=false,hasC:=false,ats:=0} rfl
  have a4:=a3.set 14 (.int .i64 0) {msH h s with mn:=0,hasA:=false,hasC:=false,ats:=0,atn:=0} rfl
  have a5:=a4.set 15 (.int .i64 0) {msH h s with mn:=0,hasA:=false,hasC:=false,ats:=0,atn:=0,cts:=0} rfl
  exact a5.set 16 (.int .i64 0) (V6 h s h.fmt) rfl
 go_upto_region 12 with fail
 refine(show Code.wp _ _ _ _ (((((((wc.setCell ⟨w.heap.size,10,none⟩ (.int .i64 0)).setCell ⟨w.heap.size,11,none⟩ (.bool false)).setCell ⟨w.heap.size,12,none⟩ (.bool false)).setCell ⟨w.heap.size,13,none⟩ (.int .i64 0)).setCell ⟨w.heap.size,14,none⟩ (.int .i64 0)).setCell ⟨w.heap.size,15,none⟩ (.int .i64 0)).setCell ⟨w.heap.size,16,none⟩ (.int .i64 0)) from ?_)
 generalize (((((((wc.setCell ⟨w.heap.size,10,none⟩ (.int .i64 0)).setCell ⟨w.heap.size,11,none⟩ (.bool false)).setCell ⟨w.heap.size,12,none⟩ (.bool false)).setCell ⟨w.heap.size,13,none⟩ (.int .i64 0)).setCell ⟨w.heap.size,14,none⟩ (.int .i64 0)).setCell ⟨w.heap.size,15,none⟩ (.int .i64 0)).setCell ⟨w.heap.size,16,none⟩ (.int .i64 0))=wD at S3 ⊢;clear y0 y1 y2 y3 y4 y5 y6 x0 x1 x2 x3 x4 x5 x6 S2;obtain⟨q,hq⟩:∃q,V6 h s h.fmt=q:=⟨_,rfl⟩;rw[hq] at S3;have QN:Hid (q.name=h.name∧q.recs=h.recs∧weight q=weight h∧∀f,(f=1∨f=2∨f=3)→(SaneP q∧CanTo (Bq q) f 11)→Chosen h (Bq {q with fmt:=f})):=by
  subst hq;exact⟨rfl,rfl,rfl,fun f hf hv=>Yn HF0.out HS.out hf hv⟩
 clear hq HS;go_wp2_with fail
 go_loopg [4,5] 3 (fun g s4 s5 wr=>∃f:Int,1≤f∧f+g=4∧s4=.int .i64 f∧Hid (ChS w q rv wr))
 case atStart=>exact⟨1,by omega,by omega,rfl,S3⟩
 case round=>
  clear S3;obtain⟨f,hf1,hf2,rfl,hst⟩:=hrel;by_cases hle:f≤3
  ·(have hf:f=1∨f=2∨f=3:=by omega);have HF:=hid hf;clear hf;(go_upto_region 15 with fail);(go_step;refine wpList_load_row rfl 45 (.tmp 1) rfl w.heap.size rfl 45 (Bd q rv).toArray (0,0) _ hst.out.row Tryz.underlying45 rfl (by kernel_rfl) ?_);(go_wp2_with fail);refine(HCN _ q f HF.out hst.out.kp QN.out.2.1 QN.out.2.2.1).out.mono ?_;rintro e w3 ⟨hx3,k3⟩;obtain⟨v,rfl,hv3,hv1⟩:=hx3.out;have S4:=hid (hst.out.grow k3);clear hst k3 hx3;obtain⟨b6,e6⟩:∃b,(v != 2)=b:=⟨_,rfl⟩;cases b6 with
   |true=>
    (have S5:=hid (S4.out.set 20 (.int .i64 f) {q with fmt:=f} rfl));have y20:=S4.out.free 20;have x20:w3.cell? ⟨w.heap.size,20,none⟩=some (.int .i64 q.fmt):=S4.out.cell 20 rfl;(have FV:Hid (ChEnd h rv (.returned (.tuple #[.agg (Bd (Bq {q with fmt:=f}) rv).toArray, .int .i64 v]))):=⟨_,v,rfl,hv3,fun e=>QN.out.2.2.2 f HF.out (hv1 e)⟩);(have HPQ:=fun W=>hid (HPR W {q with fmt:=f} QN.out.1).out);clear hv3 hv1 S4 HCN HPR;(obtain⟨q2,hq2⟩:∃q2:Hd,{q with fmt:=f}=q2:=⟨_,rfl⟩);rw[hq2] at S5 FV HPQ;clear hq2;(go_upto_region 18 with fail);(refine(show Code.wp _ _ _ _ (w3.setCell ⟨w.heap.size,20,none⟩ (.int .i64 f)) from ?_));generalize w3.setCell ⟨w.heap.size,20,none⟩ (.int .i64 f)=wE at S5 ⊢;clear y20 x20;(go_step;refine wpList_load_row rfl 45 (.tmp 1) rfl w.heap.size rfl 45 (Bd q2 rv).toArray (0,0) _ S5.out.row Tryz.underlying45 rfl (by kernel_rfl) ?_);(go_wp2_with fail);refine(HPQ wE).out.mono ?_;rintro e w5 ⟨rfl,k5⟩;have S6:=hid (S5.out.grow k5);clear k5 S5 HPQ;dsimp only;rename_i K hK;refine hK _ _ ?_;clear hK;have ⟨S8,S9⟩:=S6.out.store (vs:=Bd (Bq q2) rv) rfl;have FIN:=hid S9;clear S8 S9;(go_step;go_step;go_step;refine wpList_store_mid rfl 45 (.tmp 2) (.tmp 53) rfl (w.heap.size+1) 0 (Bd (Bq q2) rv).toArray rfl rfl S6.out.there (by kernel_rfl) (HONE.out (Bq q2)) ?_);go_wp2_with fail
    exact bodyPost_ret (B3 rfl _ _ (w.heap.size+1) (.agg (Bd (Bq q2) rv).toArray) rfl (run_loadVar_row _ (w.heap.size+1) 45 45 _ (0,0) _ FIN.out.1 Tryz.underlying45 rfl (by kernel_rfl))) rfl ⟨FV,FIN.out.2⟩
   |false=>
    (have hv2:v=2:=by simpa using e6);clear hv3 hv1;(go_wp2_with fail);go_roundg (gk-1)
    case measure=>omega
    case rel=>exact⟨f+1,by omega,by omega,by simp,S4⟩
  ·(obtain rfl:f=4:=by omega);(go_upto_region 19 with fail);(go_step;refine wpList_load_row rfl 45 (.tmp 1) rfl w.heap.size rfl 45 (Bd q rv).toArray (0,0) _ hst.out.row Tryz.underlying45 rfl (by kernel_rfl) ?_);have ⟨S8,S9⟩:=hst.out.store (vs:=Bd q rv) rfl;have FIN:=hid S9;(refine wpList_store_mid rfl 45 (.tmp 2) (.tmp 55) rfl (w.heap.size+1) 0 (Bd q rv).toArray rfl rfl hst.out.there (by kernel_rfl) (HONE.out q) ?_);clear S8 S9;(go_wp2_with fail);exact bodyPost_ret (B3 rfl _ _ (w.heap.size+1) (.agg (Bd q rv).toArray) rfl (run_loadVar_row _ (w.heap.size+1) 45 45 _ (0,0) _ FIN.out.1 Tryz.underlying45 rfl (by kernel_rfl))) rfl ⟨ChEnd.wrong h q rv,FIN.out.2⟩
end
def GlobEnd (h:Hd)(e:Ending):Prop:=∃v,e=.returned (.int .i64 v)∧V3 v∧(v=1→GlobAll h)
theorem GlobEnd.open_ (h:Hd):GlobEnd h (.returned (.int .i64 0)):=⟨0,rfl, .inl rfl,fun h=>absurd h (by decide)⟩
def Ih (h:Hd):Hd:={hd0 with typ:=48,name:=[120],recs:=h.recs}
theorem Kj (h:Hd)(hw:Dg h.recs≤17179869184):weight (Ih h)≤1099511627776:=by
 rw[C9];show 1+0+0+0+Dg h.recs≤_;omega
theorem Ol (h:Hd)(hw:weight (Ih h)≤524288):Dg h.recs≤524288:=by
 rw[C9] at hw;have e:Dg (Ih h).recs=Dg h.recs:=rfl;omega
theorem Q0 (h:Hd)(c:CanTo (Bq (Ih h)) 2 11):∀r∈h.recs,OwnOk r:=by
 have:=c 10 (by omega)
 have h2:∀r∈(Bq (Ih h)).recs,OwnOk r:=this;rw[Hb] at h2;exact h2
set_option maxHeartbeats 40000000 in
theorem Yp (w:World)(B:Nat)(h:Hd)(rv:Value)(ht:h.typ=103)(hra:RecsAt w B rv h.recs)(hw:Dg h.recs≤17179869184) :
  Calls Tryz.prog 66 #[.agg (Bu h rv).toArray] w fun e w'=>Hid (GlobEnd h e)∧Kp (fun _=>False) w w':=by
 have hlr:h.recs.length≤2147483648:=by have:=Ki h.recs;omega
 have HRO:=fun W (k:Kp (fun _=>False) w W)=>hid (Oj W B rv h.recs (hra.keep k (fun _ h=>h.elim)) hlr);obtain⟨A,c,rfl⟩:=hra.shape;obtain⟨hv,hhv⟩:∃hv:Array Value,(Bu h (.slice A h.recs.length c)).toArray=hv:=⟨_,rfl⟩;rw[hhv];clear hra;go_enter Tryz.func66,Tryz.ntmps66
 go_upto_region 1 with fail
 refine E7 ?_;intro wA gA kA sA;rw[←hhv] at gA;have c1:wA.cell? ⟨w.heap.size,1,none⟩=some (.string ⟨h.name.toArray⟩):=cell_of gA 1 rfl;have c2:wA.cell? ⟨w.heap.size,2,none⟩=some (.string ⟨h.link.toArray⟩):=cell_of gA 2 rfl;have c3:wA.cell? ⟨w.heap.size,3,none⟩=some (.int .i64 h.size):=cell_of gA 3 rfl;have c4:wA.cell? ⟨w.heap.size,4,none⟩=some (.int .i64 h.mode):=cell_of gA 4 rfl;have c5:wA.cell? ⟨w.heap.size,5,none⟩=some (.int .i64 h.uid):=cell_of gA 5 rfl;have c6:wA.cell? ⟨w.heap.size,6,none⟩=some (.int .i64 h.gid):=cell_of gA 6 rfl;have c7:wA.cell? ⟨w.heap.size,7,none⟩=some (.string ⟨h.un.toArray⟩):=cell_of gA 7 rfl;have c8:wA.cell? ⟨w.heap.size,8,none⟩=some (.string ⟨h.gn.toArray⟩):=cell_of gA 8 rfl;have c9:wA.cell? ⟨w.heap.size,9,none⟩=some (.int .i64 h.ms):=cell_of gA 9 rfl;have c10:wA.cell? ⟨w.heap.size,10,none⟩=some (.int .i64 h.mn):=cell_of gA 10 rfl;have c11:wA.cell? ⟨w.heap.size,11,none⟩=some (.bool h.hasA):=cell_of gA 11 rfl;have c14:wA.cell? ⟨w.heap.size,14,none⟩=some (.bool h.hasC):=cell_of gA 14 rfl;have c17:wA.cell? ⟨w.heap.size,17,none⟩=some (.int .i64 h.maj):=cell_of gA 17 rfl;have c18:wA.cell? ⟨w.heap.size,18,none⟩=some (.int .i64 h.min):=cell_of gA 18 rfl;have c19:wA.cell? ⟨w.heap.size,19,none⟩=some (.slice A h.recs.length c):=cell_of gA 19 rfl;have c20:wA.cell? ⟨w.heap.size,20,none⟩=some (.int .i64 h.fmt):=cell_of gA 20 rfl;have KA:=hid kA;clear hhv gA kA;obtain⟨b0,e0⟩:∃b:Bool,(!h.name.isEmpty)=b:=⟨_,rfl⟩
 obtain⟨b1,e1⟩:∃b:Bool,(!h.link.isEmpty)=b:=⟨_,rfl⟩;obtain⟨b2,e2⟩:∃b:Bool,(h.size != 0)=b:=⟨_,rfl⟩;obtain⟨b3,e3⟩:∃b:Bool,(h.mode != 0)=b:=⟨_,rfl⟩;obtain⟨b4,e4⟩:∃b:Bool,(h.uid != 0)=b:=⟨_,rfl⟩;obtain⟨b5,e5⟩:∃b:Bool,(h.gid != 0)=b:=⟨_,rfl⟩;obtain⟨b6,e6⟩:∃b:Bool,(!h.un.isEmpty)=b:=⟨_,rfl⟩;obtain⟨b7,e7⟩:∃b:Bool,(!h.gn.isEmpty)=b:=⟨_,rfl⟩;obtain⟨b9,e9⟩:∃b:Bool,(h.hasA)=b:=⟨_,rfl⟩;obtain⟨b10,e10⟩:∃b:Bool,(h.hasC)=b:=⟨_,rfl⟩;obtain⟨b11,e11⟩:∃b:Bool,(h.maj != 0)=b:=⟨_,rfl⟩;obtain⟨b12,e12⟩:∃b:Bool,(h.min != 0)=b:=⟨_,rfl⟩;obtain⟨b13,e13⟩:∃b:Bool,(((h.recs.length:Int)==0))=b:=⟨_,rfl⟩;obtain⟨b14,e14⟩:∃b:Bool,(h.fmt != 0)=b:=⟨_,rfl⟩;cases b0 with
 |true=>
  go_wp2_with fail
  all_goals (
   (go_ret);exact⟨GlobEnd.open_ h,KA.out⟩)
 |false=>
 cases b1 with
 |true=>
  go_wp2_with fail
  all_goals (
   (go_ret);exact⟨GlobEnd.open_ h,KA.out⟩)
 |false=>
 cases b2 with
 |true=>
  go_wp2_with fail
  all_goals (
   (go_ret);exact⟨GlobEnd.open_ h,KA.out⟩)
 |false=>
 cases b3 with
 |true=>
  go_wp2_with fail
  all_goals (
   (go_ret);exact⟨GlobEnd.open_ h,KA.out⟩)
 |false=>
 cases b4 with
 |true=>
  go_wp2_with fail
  all_goals (
   (go_ret);exact⟨GlobEnd.open_ h,KA.out⟩)
 |false=>
 cases b5 with
 |true=>
  go_wp2_with fail
  all_goals (
   (go_ret);exact⟨GlobEnd.open_ h,KA.out⟩)
 |false=>
 cases b6 with
 |true=>
  go_wp2_with fail
  all_goals (
   (go_ret);exact⟨GlobEnd.open_ h,KA.out⟩)
 |false=>
 cases b7 with
 |true=>
  go_wp2_with fail
  all_goals (
   (go_ret);exact⟨GlobEnd.open_ h,KA.out⟩)
 |false=>
 by_cases hmn:h.ms= -62135596800∧h.mn=0
 case neg=>
  go_wp2_with fail
  all_goals first
   |exact absurd (And.intro (by assumption) (by assumption)) hmn
   |(go_ret;exact⟨GlobEnd.open_ h,KA.out⟩)
 rw[hmn.1] at c9;rw[hmn.2] at c10;rw[e9] at c11;cases b9 with
 |true=>
  go_wp2_with fail
  all_goals (
   (go_ret);exact⟨GlobEnd.open_ h,KA.out⟩)
 |false=>
 rw[e10] at c14;cases b10 with
 |true=>
  go_wp2_with fail
  all_goals (
   (go_ret);exact⟨GlobEnd.open_ h,KA.out⟩)
 |false=>
 cases b11 with
 |true=>
  go_wp2_with fail
  all_goals (
   (go_ret);exact⟨GlobEnd.open_ h,KA.out⟩)
 |false=>
 cases b12 with
 |true=>
  go_wp2_with fail
  all_goals (
   (go_ret);exact⟨GlobEnd.open_ h,KA.out⟩)
 |false=>
 cases b13 with
 |true=>
  go_wp2_with fail
  all_goals (
   (go_ret);exact⟨GlobEnd.open_ h,KA.out⟩)
 |false=>
 obtain⟨bz,ez⟩:∃b:Bool,(h.fmt != 2)=b:=⟨_,rfl⟩;have FACT:Hid (∀v,V3 v→(v=1→(∀r∈h.recs,OwnOk r)∧Dg h.recs≤524288)→GlobEnd h (.returned (.int .i64 v))):=by
  show ∀v,_;intro v hv hown;refine⟨v,rfl,hv,fun h1=>?_⟩;have f0:h.name=[]:=by simpa using e0
  have f1:h.link=[]:=by simpa using e1
  have f6:h.un=[]:=by simpa using e6
  have f7:h.gn=[]:=by simpa using e7
  have f8:h.ms= -62135596800∧h.mn=0:=hmn;have f13:h.recs≠[]:=by
   intro e;rw[e] at e13;exact absurd e13 (by decide)
  exact⟨ht,f0,f1,by simpa using e2,by simpa using e3,by simpa using e4,by simpa using e5,f6,f7,f8.1,f8.2,e9,e10,by simpa using e11,by simpa using e12,f13,(hown h1).2,(hown h1).1⟩
 cases b14 with
 |true=>
  cases bz with
  |true=>
   (go_wp2_with fail);all_goals (
    (go_ret);exact⟨GlobEnd.open_ h,KA.out⟩)
  |false=>
   (go_wp2_with fail);clear e0 e1 e2 e3 e4 e5 e6 e7 e9 e10 e11 e12 hmn;refine(HRO wA KA.out).out.mono ?_;rintro e w1 ⟨⟨v,rfl,ho⟩,k1⟩;have K1:=hid (KA.out.trans k1);clear KA k1 HRO;obtain⟨A',c',rfl⟩:=ho.out.at_.shape;have HC:=hid (Uj w1 (Ih h) (.slice A' h.recs.length c') 2 (.inr (.inl rfl)) ho.out.at_ (Kj h hw));have FIN:Hid (∀e w2,Hid (Oh (Ih h) 2 e)→Kp (fun _=>False) w1 w2→∃v,e=.returned (.int .i64 v)∧Hid (Hid (GlobEnd h (.returned (.int .i64 v)))∧Kp (fun _=>False) w w2)):=by
    show ∀e w2,_;intro e w2 hx k2;obtain⟨v,rfl,hv,hc⟩:=hx.out;exact⟨v,rfl,FACT.out v hv (fun e=>⟨Q0 h (hc e).2,Ol h (hc e).1.wt⟩),K1.out.trans k2⟩
   (go_wp2_with fail);(refine(show Calls Tryz.prog 48 #[.agg (Bd (Ih h) (.slice A' h.recs.length c')).toArray, .int .i64 2] w1 _ from ?_));refine HC.out.mono ?_;rintro e w2 ⟨hx,k2⟩;obtain⟨v,rfl,NX⟩:=FIN.out _ _ hx k2;clear hx k2 FIN HC;(go_wp2_with fail);(go_ret);exact NX.out
 |false=>
  go_wp2_with fail
  clear e0 e1 e2 e3 e4 e5 e6 e7 e9 e10 e11 e12 hmn;refine(HRO wA KA.out).out.mono ?_;rintro e w1 ⟨⟨v,rfl,ho⟩,k1⟩;have K1:=hid (KA.out.trans k1);clear KA k1 HRO;obtain⟨A',c',rfl⟩:=ho.out.at_.shape;have HC:=hid (Uj w1 (Ih h) (.slice A' h.recs.length c') 2 (.inr (.inl rfl)) ho.out.at_ (Kj h hw));have FIN:Hid (∀e w2,Hid (Oh (Ih h) 2 e)→Kp (fun _=>False) w1 w2→∃v,e=.returned (.int .i64 v)∧Hid (Hid (GlobEnd h (.returned (.int .i64 v)))∧Kp (fun _=>False) w w2)):=by
   show ∀e w2,_;intro e w2 hx k2;obtain⟨v,rfl,hv,hc⟩:=hx.out;exact⟨v,rfl,FACT.out v hv (fun e=>⟨Q0 h (hc e).2,Ol h (hc e).1.wt⟩),K1.out.trans k2⟩
  go_wp2_with fail
  refine(show Calls Tryz.prog 48 #[.agg (Bd (Ih h) (.slice A' h.recs.length c')).toArray, .int .i64 2] w1 _ from ?_)
  refine HC.out.mono ?_;rintro e w2 ⟨hx,k2⟩;obtain⟨v,rfl,NX⟩:=FIN.out _ _ hx k2;clear hx k2 FIN HC;go_wp2_with fail
  go_ret
  exact NX.out
abbrev Bt:=Hd × List UInt8 × Int
def IFileAt (w:World)(B b o:Nat)(f:Bt):Prop:=
 ∃rv dv,w.rangeAt b o (Cf f.1 rv dv f.2.2)∧RecsAt w B rv f.1.recs∧DataQ w (fun b=>b<B) dv f.2.1
def IFilesAt (w:World)(B:Nat)(fv:Value)(fs:List Bt):Prop:=
 fv=.slice none 0 0∧fs=[]∨∃b o c,fv=.slice (some ⟨b,o,none⟩) fs.length c∧b<B∧∀i f,fs[i]?=some f→IFileAt w B b (o+i*23) f
theorem IFileAt.keep {w w':World}{B b o:Nat}{f:Bt}{S:Nat→Prop}(h:IFileAt w B b o f)(hb:b<B)(k:Kp S w w')(hS:∀i,S i→B≤i):IFileAt w' B b o f:=by
 obtain⟨rv,dv,h1,h2,h3⟩:=h;exact⟨rv,dv,fun j v hv=>k.cell (h1 j v hv) (fun hs=>by have h5:B≤b:=hS _ hs;omega),h2.keep k hS,h3.keep k (fun b hb hs=>by have:=hS _ hs;omega) (fun _ h=>h)⟩
theorem IFilesAt.keep {w w':World}{B:Nat}{fv:Value}{fs:List Bt}{S:Nat→Prop}(h:IFilesAt w B fv fs)(k:Kp S w w')(hS:∀i,S i→B≤i):IFilesAt w' B fv fs:=by
 rcases h with h|⟨b,o,c,h1,h2,h3⟩
 ·exact .inl h
 ·exact .inr ⟨b,o,c,h1,h2,fun i f hf=>(h3 i f hf).keep h2 k hS⟩
theorem IFilesAt.shape {w:World}{B:Nat}{fv:Value}{fs:List Bt}(h:IFilesAt w B fv fs):∃A c,fv=.slice A fs.length c:=by
 rcases h with ⟨rfl,rfl⟩|⟨b,o,c,rfl,_⟩
 ·exact⟨none,0,rfl⟩
 ·exact⟨_,c,rfl⟩
theorem IFilesAt.get {w:World}{B:Nat}{fv:Value}{fs:List Bt}(h:IFilesAt w B fv fs){i:Nat}{f:Bt}(hf:fs[i]?=some f) :
  ∃b o c,fv=.slice (some ⟨b,o,none⟩) fs.length c∧b<B∧IFileAt w B b (o+i*23) f:=by
 rcases h with ⟨rfl,rfl⟩|⟨b,o,c,rfl,h2,h3⟩
 ·cases hf
 ·exact⟨b,o,c,rfl,h2,h3 i f hf⟩
structure IFileOk (f:Bt):Prop where
 wt:weight f.1≤17179869184
 dl:f.2.1.length≤1073741824
def V8 (t:UInt8)(size:Int)(data:List UInt8):Prop:=if B8 t then (data.length:Int)=size else data=[]
def Jn (f:Bt)(g:B4):Prop:=
 (f.1.typ=103∧g=(f.1,[])∧f.2.1=[]∧GlobAll f.1)∨(f.1.typ≠103∧g.2=f.2.1∧Chosen f.1 g.1∧V8 g.1.typ g.1.size f.2.1)
inductive WantAll:List Bt→List B4→Prop
 |nil:WantAll [] []
 |cons {f g fs gs} (h:Jn f g) (hs:WantAll fs gs):WantAll (f::fs) (g::gs)
theorem WantAll.snoc {f:Bt}{g:B4}(h:Jn f g):∀ {fs:List Bt} {gs:List B4},WantAll fs gs→WantAll (fs++[f]) (gs++[g])
 |_,_, .nil=>.cons h .nil
 |_,_, .cons h1 h2=>.cons h1 (WantAll.snoc h h2)
theorem WantAll.len:∀ {fs:List Bt} {gs:List B4},WantAll fs gs→gs.length=fs.length
 |_,_, .nil=>rfl
 |_,_, .cons h1 h2=>by rw[List.length_cons,List.length_cons,WantAll.len h2]
def Wq (w:World)(v:Value)(b:Nat):Prop:=b<w.heap.size∧some b≠v.ownBlock
theorem OwnF.block {w:World}{base:Nat}{Q:Nat→Prop}{v:Value}{fs:List B4}(h:OwnF w base Q v fs){b:Nat}(hb:v.ownBlock=some b):base≤b∧b<w.heap.size:=by
 obtain⟨cs,h1,_⟩:=h.own;exact World.ownsRow.lt h1 b hb
theorem Bew:InfoX 47 32 22 232:=Vy Tryz.underlying32 (by kernel_rfl)
theorem Bau (fs:List B4)(f:B4):He (fs++[f])=He fs+f.2.length:=by unfold He;simp
structure WanSt (w:World)(fs:List Bt)(i:Nat)(n:Nat)(vd:Int)(v:Value)(wr:World):Prop where
 own:∃out,OwnF wr w.heap.size (Wq wr v) v out∧WantAll (fs.take i) out∧n=He out
 vd:vd=1∧n≤1048576∨vd=0
 le:n≤i*1073741824
 kp:Kp (fun _=>False) w wr
theorem WanSt.start (w:World)(fs:List Bt):WanSt w fs 0 0 1 (.slice none 0 0) w:=
 ⟨⟨[],⟨[],⟨rfl, .inl ⟨rfl,rfl⟩⟩,rfl⟩,by rw[sE];exact .nil,rfl⟩, .inl ⟨rfl,by omega⟩,by omega,Kp.refl _ _⟩
theorem WanSt.block {w:World}{fs:List Bt}{i n:Nat}{vd:Int}{v:Value}{wr:World}(s:WanSt w fs i n vd v wr){b:Nat}(hb:v.ownBlock=some b):w.heap.size≤b∧b<wr.heap.size:=by
 obtain⟨out,h1,_⟩:=s.own;exact h1.block hb
theorem WanSt.push {w:World}{fs:List Bt}{i n:Nat}{vd vd':Int}{v:Value}{wr:World}(s:WanSt w fs i n vd v wr){f:Bt}{g:B4}{rv dv:Value}(hf:fs[i]?=some f)(hl:fs.length≤1048576)(hw:Jn f g)(hr:RecsQ wr (Wq wr v) rv g.1.recs)(hd:DataQ wr (Wq wr v) dv g.2)
  (hdl:g.2.length≤1073741824) (hvd:vd'=vd∧n+g.2.length≤1048576∨vd'=0) (ty:TypeId) :
  ∃v3 w3,(Builtin.append_ #[32,32] ty #[v, .slice (some ⟨wr.heap.size,0,none⟩) 1 1]).run Tryz.prog (wr.alloc (.cells (Bd g.1 rv++[dv]).toArray 47))=.ok v3 w3∧WanSt w fs (i+1) (n+g.2.length) vd' v3 w3:=by
 obtain⟨out,⟨cs,h1,hc⟩,h2,h3⟩:=s.own;have hi:i<fs.length:=(List.getElem?_eq_some_iff.1 hf).1;have hlen:=h2.len;rw[List.length_take] at hlen;obtain⟨v3,w3,hrun,ho,hk,hb⟩:=Vz (ty:=ty) wr Bew (by decide) (by decide) w.heap.size v out.length cs (Bd g.1 rv++[dv]) h1 rfl (fun u hu=>by
  rcases List.mem_append.1 hu with hu|hu
  ·exact Qy hr.one u hu
  ·rw[List.mem_singleton] at hu;rw[hu];exact hd.one) (by omega) s.kp.size
 have hv3:∀b,b<wr.heap.size→some b≠v.ownBlock→some b≠v3.ownBlock:=fun b hb1 hb2 e=>by
  rcases hb with hb|hb
  ·exact hb2 (e.trans hb)
  ·rw[hb] at e;injection e with e;omega
 have hQ:∀b,Wq wr v b→Wq w3 v3 b:=fun b hb=>⟨Nat.lt_of_lt_of_le hb.1 hk.size,hv3 b hb.1 hb.2⟩;have hS:∀b,Wq wr v b→¬(some b=v.ownBlock):=fun b hb=>hb.2;have htk:fs.take (i+1)=fs.take i++[f]:=by
  rw[List.take_succ_eq_append_getElem hi];rw[List.getElem?_eq_getElem hi] at hf;injection hf with hf
  rw[hf]
 refine⟨v3,w3,hrun,⟨⟨out++[g],⟨_,by rw[List.length_append,List.length_singleton];exact ho,?_⟩,by rw[htk];exact h2.snoc hw,by rw[Bau,h3]⟩,?_,?_,?_⟩⟩
 ·exact FCells.snoc (hr.keep hk hS hQ) (hd.keep hk hS hQ) (hc.keep hk hS hQ)
 ·rcases hvd with ⟨e,h4⟩|e
  ·rcases s.vd with ⟨e2,h5⟩|e2
   ·exact .inl ⟨e.trans e2,h4⟩
   ·exact .inr (e.trans e2)
  ·exact .inr e
 ·have:=s.le;omega
 ·exact s.kp.then hk (fun j hj e=>by have:=(World.ownsRow.lt h1 j e.symm).1;omega)
theorem Bex:InfoX 29 35 23 248:=Vy Tryz.underlying35 (by kernel_rfl)
def GCells (w:World)(Q:Nat→Prop):List Bt→List Value→Prop
 |[],cs=>cs=[]
 |f::fs,cs=>∃rv dv rest,cs=Cf f.1 rv dv f.2.2++rest∧RecsQ w Q rv f.1.recs∧DataQ w Q dv f.2.1∧GCells w Q fs rest
theorem Bav (h:Hd)(rv dv:Value)(e:Int):(Cf h rv dv e).length=23:=rfl
theorem GCells.keep {w w':World}{Q Q':Nat→Prop}{S:Nat→Prop}(k:Kp S w w')(hS:∀b,Q b→¬S b)(hQ:∀b,Q b→Q' b):∀ {fs:List Bt} {cs:List Value},GCells w Q fs cs→GCells w' Q' fs cs
 |[],cs,h=>h
 |f::fs,cs,⟨rv,dv,rest,h1,h2,h3,h4⟩=>⟨rv,dv,rest,h1,h2.keep k hS hQ,h3.keep k hS hQ,GCells.keep k hS hQ h4⟩
theorem GCells.snoc {w:World}{Q:Nat→Prop}{f:Bt}{rv dv:Value}(h1:RecsQ w Q rv f.1.recs)(h2:DataQ w Q dv f.2.1):∀ {fs:List Bt} {cs:List Value},GCells w Q fs cs→GCells w Q (fs++[f]) (cs++Cf f.1 rv dv f.2.2)
 |[],cs,h=>by
  have h:cs=[]:=h
  subst h
  exact⟨rv,dv,[],by simp,h1,h2,rfl⟩
 |g::fs,cs,⟨rv',dv',rest,g1,g2,g3,g4⟩=>by
  subst g1
  exact⟨rv',dv',rest++Cf f.1 rv dv f.2.2,by rw[List.append_assoc],g2,g3,GCells.snoc h1 h2 g4⟩
theorem GCells.get {w:World}{Q:Nat→Prop}{B:Nat}(hQ:∀b,Q b→b<B):∀ {fs:List Bt} {cs:List Value},GCells w Q fs cs→∀ {i:Nat} {f:Bt},fs[i]?=some f →
  ∃rv dv,(∀j v,(Cf f.1 rv dv f.2.2)[j]?=some v→cs[i*23+j]?=some v)∧RecsAt w B rv f.1.recs∧DataQ w (fun b=>b<B) dv f.2.1
 |[],cs,h,i,f,hf=>by cases hf
 |g::fs,cs,⟨rv,dv,rest,g1,g2,g3,g4⟩,i,f,hf=>by
  subst g1
  have hl:=Bav g.1 rv dv g.2.2
  cases i with
  |zero=>
   injection hf with hf
   subst hf
   refine⟨rv,dv,fun j v hv=>?_,g2.at_ hQ,g3.keep (Kp.refl (fun _=>False) _) (fun _ _ h=>h) hQ⟩
   rw[Nat.zero_mul,Nat.zero_add,List.getElem?_append_left (by exact(List.getElem?_eq_some_iff.1 hv).1)]
   exact hv
  |succ i=>
   rw[List.getElem?_cons_succ] at hf
   obtain⟨rv2,dv2,k1,k2⟩:=GCells.get hQ g4 hf
   refine⟨rv2,dv2,fun j v hv=>?_,k2⟩
   rw[List.getElem?_append_right (by rw[hl];omega),hl,show (i+1)*23+j-23=i*23+j by omega]
   exact k1 j v hv
def Gq (w wr:World)(vo:Value)(b:Nat):Prop:=w.heap.size≤b∧b<wr.heap.size∧¬some b=vo.ownBlock
def Gi (w:World)(N F Rf:Nat)(vo:Value)(b:Nat):Prop:=w.heap.size≤b∧b<N∧b≠Rf∧b≠F∧¬some b=vo.ownBlock
structure OwnG (w:World)(base:Nat)(Q:Nat→Prop)(v:Value)(fs:List Bt):Prop where
 own:∃cs,w.ownsRow base 29 23 v fs.length cs∧GCells w Q fs cs
theorem OwnG.filesAt {w:World}{base:Nat}{Q:Nat→Prop}{v:Value}{fs:List Bt}{B:Nat}(h:OwnG w base Q v fs)(hQ:∀b,Q b→b<B)(hB:w.heap.size≤B):IFilesAt w B v fs:=by
 obtain⟨cs,h1,h2⟩:=h.own;rcases h1.2 with ⟨e1,e2⟩|⟨g,cap,cur,e,hg,hh,h3,h4,h5,h6⟩
 ·exact .inl ⟨e1,List.eq_nil_of_length_eq_zero e2⟩
 ·subst e;refine .inr ⟨g,0,cap,rfl,by have:=Bv hh;omega,fun i f hf=>?_⟩
  obtain⟨rv,dv,k1,k2,k3⟩:=h2.get hQ hf;refine⟨rv,dv,fun j u hu=>?_,k2,k3⟩;have hc:=World.ownsRow.cells h1 (g:=g) rfl (i*23+j) u (k1 j u hu);rw[add_plain',Nat.zero_add] at hc;rw[Nat.zero_add];exact hc
theorem OwnG.nil (w:World)(base:Nat)(Q:Nat→Prop):OwnG w base Q (.slice none 0 0) []:=⟨[],⟨rfl, .inl ⟨rfl,rfl⟩⟩,rfl⟩
theorem OwnG.keep {w w':World}{base:Nat}{Q Q':Nat→Prop}{S:Nat→Prop}{v:Value}{fs:List Bt}(h:OwnG w base Q v fs)(k:Kp S w w')(hv:∀b,v.ownBlock=some b→¬S b)(hS:∀b,Q b→¬S b)(hQ:∀b,Q b→Q' b):OwnG w' base Q' v fs:=by
 obtain⟨cs,⟨h1,h2⟩,h3⟩:=h.own;refine⟨cs,⟨h1,?_⟩,h3.keep k hS hQ⟩;rcases h2 with hn|⟨g,cap,cur,e,hb,hg,rest⟩
 ·exact .inl hn
 ·exact .inr ⟨g,cap,cur,e,hb,k.heap hg (hv g (by rw[e];rfl)),rest⟩
theorem OwnG.block {w:World}{base:Nat}{Q:Nat→Prop}{v:Value}{fs:List Bt}(h:OwnG w base Q v fs){b:Nat}(hb:v.ownBlock=some b):base≤b∧b<w.heap.size:=by
 obtain⟨cs,h1,_⟩:=h.own;exact World.ownsRow.lt h1 b hb
theorem OwnG.push {w:World}{base:Nat}{Q:Nat→Prop}{v:Value}{gs:List Bt}(h:OwnG w base Q v gs)(g:Bt){rv dv:Value}(hr:RecsQ w Q rv g.1.recs)(hd:DataQ w Q dv g.2.1)(hlen:gs.length≤1048576)(hb:base≤w.heap.size)(hQ:∀b,Q b→¬some b=v.ownBlock)(ty:TypeId) :
  ∃v3 w3,(Builtin.append_ #[35,35] ty #[v, .slice (some ⟨w.heap.size,0,none⟩) 1 1]).run Tryz.prog (w.alloc (.cells (Cf g.1 rv dv g.2.2).toArray 29))=.ok v3 w3∧OwnG w3 base Q v3 (gs++[g])∧Kp (fun j=>some j=v.ownBlock) w w3∧(v3.ownBlock=v.ownBlock∨v3.ownBlock=some (w.heap.size+1)):=by
 obtain⟨cs,h1,h2⟩:=h.own;have hone:∀u∈Cf g.1 rv dv g.2.2,u.oneCell'=true:=by
  have h1:=hr.one;have h2:=hd.one;have:((Cf g.1 rv dv g.2.2).all fun x=>x.oneCell')=true:=by
   simp[Cf,Bu,Ha,B5,Value.oneCell'];exact⟨h1,h2⟩
  exact List.all_eq_true.1 this
 obtain⟨v3,w3,hrun,ho,hk,hv⟩:=Vz (ty:=ty) w Bex (by decide) (by decide) base v gs.length cs (Cf g.1 rv dv g.2.2) h1 rfl hone (by omega) hb
 exact⟨v3,w3,hrun,⟨_,by rw[List.length_append,List.length_singleton];exact ho,GCells.snoc (hr.keep hk hQ (fun _ h=>h)) (hd.keep hk hQ (fun _ h=>h)) (h2.keep hk hQ (fun _ h=>h))⟩,hk,hv⟩
set_option maxHeartbeats 1600000 in
theorem Bgf (w:World)(B:Nat)(fv:Value)(fs:List Bt)(hfs:IFilesAt w B fv fs)(hok:∀f∈fs,f.1.recs.length≤1099511627776)(hl:fs.length≤1099511627776):Calls Tryz.prog 24 #[fv] w (Bas w):=by
 obtain⟨A,c,rfl⟩:=hfs.shape;have HFS:=hid hfs;have HOK:=hid hok;clear hfs hok;obtain⟨b1,e1⟩:∃b,decide ((2147483647:Int)<(fs.length:Int))=b:=⟨_,rfl⟩;cases b1 with
 |true=>
  go_enter Tryz.func24,Tryz.ntmps24
  go_wp2_with fail
  go_ret
  exact⟨⟨_,rfl⟩,Kp.refl _ _⟩
 |false=>
 go_enter Tryz.func24,Tryz.ntmps24
 go_wp2_with fail
 go_loopg [4,10] fs.length (fun g s4 s10 wr=>∃(i:Nat),i+g=fs.length∧s10=.int .i64 i∧Hid (Kp (fun _=>False) w wr))
 case atStart=>exact⟨0,by omega,rfl,Kp.refl _ _⟩
 case round=>
  obtain⟨i,hi,rfl,hst⟩:=hrel;by_cases hlt:i<fs.length
  ·obtain⟨f,hf⟩:∃f,fs[i]?=some f:=⟨_,List.getElem?_eq_getElem hlt⟩;have hfr:IFilesAt wr B (.slice A fs.length c) fs:=HFS.out.keep hst.out (fun _ h=>h.elim);obtain⟨b,o,c',hA,hbC,hat⟩:=hfr.get hf;(injection hA with hA1 hA2 hA3);subst hA1 hA3;obtain⟨rv,dv,hrg,hra,hda⟩:=hat;have hone:((Cf f.1 rv dv f.2.2).toArray.all fun x=>x.oneCell')=true:=by
    have h1:rv.oneCell'=true:=by
     obtain⟨Ar,cr,hr1⟩:=hra.shape;subst hr1;rfl
    have h2:=hda.one;simp[Cf,Bu,Ha,B5,Value.oneCell'];exact⟨h1,h2⟩
   have hZ:∀W,Kp (fun _=>False) wr W→Hid (Calls Tryz.prog 14 #[.agg (Cf f.1 rv dv f.2.2).toArray] W (Bas W)):=fun W k=>by
    obtain⟨Ad,cd,hd1⟩:∃A c,dv=.slice A f.2.1.length c:=by
     rcases hda with ⟨h,e⟩|⟨b,o,c,rfl,_⟩
     ·rw[e];exact h.shape
     ·exact⟨_,c,rfl⟩
    subst hd1;exact Bef W B f.1 rv Ad _ cd f.2.2 (hra.keep k (fun _ h=>h.elim)) (HOK.out f (List.mem_of_getElem? hf))
   (have hi1:(0:Int)≤(i:Int):=by omega);(have hi2:(i:Int)<(fs.length:Int):=by omega);have HRG:=hid hrg;clear hA2 hfr hrg hra hda hf;(go_upto_region 5 with fail);(go_step;go_step;go_step;go_step;refine wpList_load_mid rfl 29 (.tmp 12) rfl b (o+i*23) rfl (Cf f.1 rv dv f.2.2) _ HRG.out Tryz.underlying29 rfl (by kernel_rfl) ?_);(go_step;go_step;go_step;refine wpList_store_row rfl 29 (.tmp 4) (.tmp 13) rfl wr.heap.size (Cf f.1 rv dv f.2.2).toArray rfl rfl 29 _ (Ba wr _) (by kernel_rfl) (by rfl) hone ?_);(go_upto_region 6 with fail);refine Gv ?_;intro wB gB kB sB;have GB:=hid gB;have HZ:=hZ wB kB;have KB:=hid (hst.out.trans kB);clear gB kB hZ hst HRG hone;(go_step;refine wpList_load_row rfl 29 (.tmp 4) rfl wr.heap.size rfl 29 (Cf f.1 rv dv f.2.2).toArray (0,0) _ GB.out Tryz.underlying29 rfl (by kernel_rfl) ?_);(go_wp2_with fail);refine HZ.out.mono ?_;rintro e w1 ⟨⟨b1,rfl⟩,k1⟩;have K1:=hid (KB.out.trans k1);clear KB k1 HZ GB;cases b1 with
   |false=>
    (go_wp2_with fail);(go_ret);exact⟨⟨_,rfl⟩,K1.out⟩
   |true=>
    (go_wp2_with fail);go_roundg (gk-1)
    case measure=>omega
    case rel=>exact⟨i+1,by omega,by simp,K1⟩
  ·(obtain rfl:i=fs.length:=by omega);(go_wp2_with fail);(go_ret);exact⟨⟨_,rfl⟩,hst.out⟩
theorem V9 (W:World)(g:Hd)(Ar:Option Addr)(nr cr:Nat)(A:Option Addr)(n c:Nat):(Instr.build 47 #[(0, .agg (Bd g (.slice Ar nr cr)).toArray),(1, .slice A n c)]).run Tryz.prog W=.ok (.agg (Bd g (.slice Ar nr cr)++[Value.slice A n c]).toArray) W:=
 run_build W 47 _ _ (by kernel_rfl)
theorem Bda (W:World){T ST:TypeId}{bt:Nat}(k:Nat)(I:InfoX T ST k bt)(row:Array Value)(hk:0<k)(hk2:k≤100)
  (hf:∀z:Array Value,Instr.fill (fun i=>some (i*k,k)) ((Array.range (1*k)).map (z[· %z.size]!)) [(0, .agg row)]=some row) :
  (Instr.buildSlice ST 1 #[(0, .agg row)]).run Tryz.prog W=.ok (.slice (some ⟨W.heap.size,0,none⟩) 1 1) (W.alloc (.cells row T)):=by
 obtain⟨i0,z,hi,hz,hsz,hby,hzs⟩:=I.info;refine run_buildSlice W ST T 1 _ _ i0 z I.und hi hz (by rw[hsz];omega) (by rw[hsz];omega) ?_
 rw[hsz];exact hf z.cells
theorem Bdb (W:World)(g:Hd)(rv dv:Value):(Instr.buildSlice 32 1 #[(0, .agg (Bd g rv++[dv]).toArray)]).run Tryz.prog W=.ok (.slice (some ⟨W.heap.size,0,none⟩) 1 1) (W.alloc (.cells (Bd g rv++[dv]).toArray 47)):=
 Bda W 22 Bew _ (by decide) (by decide) (fun z=>by kernel_rfl)
theorem Hk {P:Program}{ops:Array Oper}{rest:List Oper}{o:Oper}{a:Act}{w:World}{Q:Exit→Act→World→Prop}(hg:o.guard=none)(t:TypeId)(parts:Array (Nat × Operand))(ho:o.op=.build t parts)
  (V:Array (Nat × Value)) (hp:(parts.map fun (i,x)=>(i,a.eval x))=V) (v:Value) (hr:(Instr.build t V).run P w=.ok v w) (h:wpList P ops Q rest (a.put o.dst v) w):wpList P ops Q (o::rest) a w:=
 wpList_plain hg fun _ hK=>by
  unfold Oper.wp execOp
  simp only[ho,hp,Sem.run_bind,hr,Result.andThen_ok]
  exact hK _ _ h
theorem Gw {P:Program}{ops:Array Oper}{rest:List Oper}{o:Oper}{a:Act}{w w':World}{Q:Exit→Act→World→Prop}(hg:o.guard=none)(t:TypeId)(n:Nat)(parts:Array (Nat × Operand))(ho:o.op=.buildSlice t n parts)
  (V:Array (Nat × Value)) (hp:(parts.map fun (i,x)=>(i,a.eval x))=V) (v:Value) (hr:(Instr.buildSlice t n V).run P w=.ok v w') (h:wpList P ops Q rest (a.put o.dst v) w'):wpList P ops Q (o::rest) a w:=
 wpList_plain hg fun _ hK=>by
  unfold Oper.wp execOp
  simp only[ho,hp,Sem.run_bind,hr,Result.andThen_ok]
  exact hK _ _ h
theorem Bgg (W : World) (h : Hd) (rv dv : Value) (en : Int) : (Instr.buildSlice 35 1 #[(0, .agg (Cf h rv dv en).toArray)]).run Tryz.prog W = .ok (.slice (some ⟨W.heap.size, 0, none⟩) 1 1) (W.alloc (.cells (Cf h rv dv en).toArray 29)) :=
  Bda W 23 Bex _ (by decide) (by decide) (fun z => by kernel_rfl)
theorem Bey (W : World) (h : Hd) (A : Option Addr) (n c : Nat) : (Instr.build 29 #[(0, .agg (Bu h (.slice A n c)).toArray)]).run Tryz.prog W = .ok (.agg (Cf h (.slice A n c) (.slice none 0 0) 0).toArray) W :=
  run_build W 29 _ _ (by kernel_rfl)
end Go.Proofs.YtgfcnjfmmjcodaaGreatDoor
