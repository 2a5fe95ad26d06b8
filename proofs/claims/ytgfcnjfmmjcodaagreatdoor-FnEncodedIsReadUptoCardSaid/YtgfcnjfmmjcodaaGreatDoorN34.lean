/- Choose of the specification. -/
import Derived.Great.BuildSlice
import Derived.Test.YtgfcnjfmmjcodaaGreatDoorN31
import Derived.Test.YtgfcnjfmmjcodaaGreatDoorN33
set_option linter.all false
set_option maxRecDepth 100000
set_option maxHeartbeats 1000000
open Go.Lib (hid)
namespace Go.Proofs.YtgfcnjfmmjcodaaGreatDoor
open Go Go.RowKit
section
def rndF (h:Hd)(s f:Int):Hd:={h with ms:=s,mn:=0,hasA:=false,hasC:=false,ats:=0,atn:=0,cts:=0,ctn:=0,fmt:=f}
def msH (h:Hd)(s:Int):Hd:={h with ms:=s}
structure Chosen (h h':Hd):Prop where
 fmt:h'.fmt=1∨h'.fmt=2∨h'.fmt=3
 can:CanP h' h'.fmt
 same:h.fmt≠0→h'=promH h
 rnd:h.fmt=0→∃s,(s=h.ms∨s=wrap64 (h.ms+1))∧h'=promH (rndF h s h'.fmt)
def ChEnd (h:Hd)(rv:Value)(e:Ending):Prop:=∃h' v,e=.returned (.tuple #[.agg (sRow h' rv).toArray, .int .i64 v])∧V3 v∧(v=1→Chosen h h')
structure ChS (w:World)(h:Hd)(rv:Value)(W:World):Prop where
 row:W.heap[w.heap.size]?=some (.cells (sRow h rv).toArray 45 (0,0))
 own:∃cs,cs.size=21∧W.heap[w.heap.size+1]?=some (.cells cs 45 (0,0))
 kp:Kp (fun _=>False) w W
section
variable {w:World} {h:Hd} {rv:Value} {W W':World}
theorem ChS.cell (s:ChS w h rv W)(i:Nat){v:Value}(hv:(sRow h rv)[i]?=some v):W.cell? ⟨w.heap.size,i,none⟩=some v:=
 cell_of s.row i (by rw[List.getElem?_toArray];exact hv)
theorem ChS.free (s:ChS w h rv W)(i:Nat):W.frozen? ⟨w.heap.size,i,none⟩=false:=free_of s.row i
theorem ChS.range (s:ChS w h rv W){cs:List Value}(e:sRow h rv=cs):W.rangeAt w.heap.size 0 cs:=fun j v hv=>by
 rw[Nat.zero_add]
 rw[←e] at hv
 exact s.cell j hv
theorem ChS.grow (s:ChS w h rv W)(k:Kp (fun _=>False) W W'):ChS w h rv W':=
 ⟨k.heap s.row (fun h=>h),(let ⟨cs,h1,h2⟩:=s.own;⟨cs,h1,k.heap h2 (fun h=>h)⟩),s.kp.trans k⟩
theorem ChS.there (s:ChS w h rv W):W.there (w.heap.size+1) 0 21:=by
 obtain⟨cs,h1,h2⟩:=s.own
 exact there_of h2 (by omega)
theorem ChS.store (s:ChS w h rv W){vs:List Value}(hv:vs.length=21) :
  ChS w h rv (W.setCells (w.heap.size+1) 0 vs)∧((W.setCells (w.heap.size+1) 0 vs).heap[w.heap.size+1]?=some (.cells vs.toArray 45 (0,0))∧Kp (fun _=>False) w (W.setCells (w.heap.size+1) 0 vs)):=by
 obtain⟨cs,h1,h2⟩:=s.own
 have k:Kp (· =w.heap.size+1) W (W.setCells (w.heap.size+1) 0 vs):=kp_setCells (S:=(· =w.heap.size+1)) _ (.inl rfl) _ _ _ (Kp.refl _ _)
 have kw:Kp (fun _=>False) w (W.setCells (w.heap.size+1) 0 vs):=kp_setCells _ (.inr (by omega)) _ _ _ s.kp
 have g:=heap_setCells_all (vs:=vs) h2 (by rw[h1,hv])
 exact⟨⟨k.heap s.row (by omega),⟨_,by rw[List.size_toArray];exact hv,g⟩,kw⟩,g,kw⟩
theorem ChS.set (s:ChS w h rv W)(i:Nat)(v:Value)(h':Hd)(e:(sRow h rv).toArray.setIfInBounds i v=(sRow h' rv).toArray):ChS w h' rv (W.setCell ⟨w.heap.size,i,none⟩ v):=by
 obtain⟨cs,h1,h2⟩:=s.own
 have g:=heap_set s.row i v
 rw[e] at g
 exact⟨g,⟨cs,h1,heap_set_ne h2 _ _ (by show ¬w.heap.size+1=w.heap.size;omega)⟩,s.kp.setCell (.inr (Nat.le_refl _)) _⟩
end
theorem promH_setF (h:Hd)(f:Int):promH {h with fmt:=f}={promH h with fmt:=f}:=by unfold promH setT;split<;>rfl
theorem CanP.setF {h:Hd}{f:Int}(c:CanP h f)(g:Int):CanP {h with fmt:=g} f:=
 ⟨⟨c.sane.small,c.sane.mod,c.sane.acc,c.sane.chg⟩,c.typ,c.name,c.link,c.un,c.gn,c.mode,c.uid,c.gid,c.maj,c.min,c.dev,c.size,c.mod,c.acc,c.chg,c.recs,c.own⟩
theorem ChEnd.open_ (h h':Hd)(rv:Value):ChEnd h rv (.returned (.tuple #[.agg (sRow h' rv).toArray, .int .i64 0])):=⟨h',0,rfl, .inl rfl,fun h=>absurd h (by decide)⟩
theorem ChEnd.wrong (h h':Hd)(rv:Value):ChEnd h rv (.returned (.tuple #[.agg (sRow h' rv).toArray, .int .i64 2])):=⟨h',2,rfl, .inr (.inr rfl),fun h=>absurd h (by decide)⟩
theorem chosen_rnd {h:Hd}{s f:Int}(h0:h.fmt=0)(hs:s=h.ms∨s=wrap64 (h.ms+1))(hf:f=1∨f=2∨f=3)(hv:SaneP (rndF h s h.fmt)∧CanTo (promH (rndF h s h.fmt)) f 11):Chosen h (promH {rndF h s h.fmt with fmt:=f}):=by
 have e:(promH {rndF h s h.fmt with fmt:=f}).fmt=f:=by rw[promH_fmt]
 refine⟨by rw[e];exact hf,by rw[e,promH_setF];exact(canP_of hv.1 hv.2).setF f,fun h=>absurd h0 h,fun _=>⟨s,hs,by rw[e];rfl⟩⟩
theorem chosen_same {h:Hd}(hf:h.fmt=1∨h.fmt=2∨h.fmt=3)(hv:SaneP h∧CanTo (promH h) h.fmt 11):Chosen h (promH h):=
 ⟨by rw[promH_fmt];exact hf,by rw[promH_fmt];exact canP_of hv.1 hv.2,fun _=>rfl,fun e=>by omega⟩
set_option maxHeartbeats 12800000 in
theorem choose_any (w:World)(h:Hd)(rv:Value)(hra:RecsAt w w.heap.size rv h.recs)(hw:weight h≤1099511627776) :
  Calls Tryz.prog 32 #[.agg (sRow h rv).toArray] w fun e w'=>Hid (ChEnd h rv e)∧Kp (fun _=>False) w w':=by
 have hone:=fun h=>one_sRow (h:=h) (one_recs hra)
 have hwl:h.name.length≤1099511627776:=by
  rw[weight_eq] at hw
  omega
 have HONE:=hid hone
 have HST:=fun W (k:Kp (fun _=>False) w W)=>hid (strange_any W h w.heap.size rv (hra.keep k (fun _ h=>h.elim)) k.size hw)
 have HPR:=fun W (q:Hd) (e:q.name=h.name)=>hid (promoted_any W q rv (one_recs hra) (by rw[e];exact hwl))
 have HCN:=fun W (q:Hd) (f:Int) (hf:f=1∨f=2∨f=3) (k:Kp (fun _=>False) w W) (e:q.recs=h.recs) (e2:weight q=weight h)=>hid (can_any W q rv f hf (by rw[e];exact(hra.keep k (fun _ h=>h.elim)).mono k.size) (by rw[e2];exact hw))
 obtain⟨hv,hhv⟩:∃hv:Array Value,(sRow h rv).toArray=hv:=⟨_,rfl⟩
 rw[hhv]
 clear hra hone hwl hw
 go_enter Tryz.func32,Tryz.ntmps32
 go_upto_region 1 with fail
 refine code_two ?_
 intro wB g1 g2 kB sB
 rw[←hhv] at g1
 have SB:Hid (ChS w h rv wB):=⟨g1,⟨_,by rfl,g2⟩,kB⟩
 clear hhv g1 g2 kB sB
 go_step;refine wpList_load_row rfl 45 (.tmp 1) rfl w.heap.size rfl 45 (sRow h rv).toArray (0,0) _ SB.out.row Tryz.underlying45 rfl (by kernel_rfl) ?_
 go_wp2_with fail
 refine(HST wB SB.out.kp).out.mono ?_
 rintro e w1 ⟨hx1,k1⟩
 obtain⟨b,rfl,hsane⟩:=hx1.out
 have S1:=hid (SB.out.grow k1)
 clear k1 SB hx1
 cases b with
 |true=>
  go_upto_region 2 with fail
  go_step;refine wpList_load_row rfl 45 (.tmp 1) rfl w.heap.size rfl 45 (sRow h rv).toArray (0,0) _ S1.out.row Tryz.underlying45 rfl (by kernel_rfl) ?_
  have ⟨S8,S9⟩:=S1.out.store (vs:=sRow h rv) rfl
  have FIN:=hid S9
  refine wpList_store_mid rfl 45 (.tmp 2) (.tmp 8) rfl (w.heap.size+1) 0 (sRow h rv).toArray rfl rfl S1.out.there (by kernel_rfl) (HONE.out h) ?_
  clear S8 S9
  go_wp2_with fail
  exact bodyPost_ret (results_cell_row2 rfl _ _ (w.heap.size+1) (.agg (sRow h rv).toArray) rfl (run_loadVar_row _ (w.heap.size+1) 45 45 _ (0,0) _ FIN.out.1 Tryz.underlying45 rfl (by kernel_rfl))) rfl ⟨ChEnd.open_ h h rv,FIN.out.2⟩
 |false=>
 have HSN:=hid (hsane rfl)
 clear hsane
 obtain⟨b3,e3⟩:∃b,(h.fmt != 0)=b:=⟨_,rfl⟩
 have c20:w1.cell? ⟨w.heap.size,20,none⟩=some (.int .i64 h.fmt):=S1.out.cell 20 rfl
 cases b3 with
 |true=>
  have hf:h.fmt=1∨h.fmt=2∨h.fmt=3:=by
   have h1:=HSN.out.lo
   have h2:=HSN.out.hi
   have h3:h.fmt≠0:=by simpa using e3
   omega
  have hf0:h.fmt≠0:=by simpa using e3
  obtain⟨cs,hcs⟩:∃cs,sRow h rv=cs:=⟨_,rfl⟩
  have hi45:(Tryz.prog.info? 45).map (·.size)=some cs.length:=by rw[←hcs];kernel_rfl
  have HI45:=hid hi45
  have HCS:=hid hcs
  have HF:=hid hf
  have HF0:=hid hf0
  clear hi45 hcs hf hf0
  go_upto_region 4 with fail
  have S0:ChS w h rv w1.drew:=S1.out.grow ((Kp.refl _ _).drew)
  refine wp_region_held_drew (S:=ChS w h rv) (by kernel_rfl) ?_ (fun hHeld=>?_)
  ·exact S0
  clear S0
  refine' wpAnyH_take (i:=0) (v:=_) rfl (by kernel_rfl) (by kernel_rfl) (by kernel_rfl) (fun _ _ _ h=>h) (yieldsIf_load_mid (by rfl) 45 (.tmp 1) rfl w.heap.size 0 rfl cs _ (fun W hSw=>hSw.range HCS.out) Tryz.underlying45 rfl HI45.out) (by assumption) ?_
  try simp only[Act.put,sA,sB,sC]
  refine' wpAnyH_take (i:=2) (v:=_) rfl (by kernel_rfl) (by kernel_rfl) (by kernel_rfl) (fun _ _ _ h=>h) (yieldsIf_load_mid (by rfl) 45 (.tmp 1) rfl w.heap.size 0 rfl cs _ (fun W hSw=>hSw.range HCS.out) Tryz.underlying45 rfl HI45.out) (by assumption) ?_
  try simp only[Act.put,sA,sB,sC]
  refine wpAnyH_take (i:=3) (v:=?_) rfl (by kernel_rfl) (by kernel_rfl) (by kernel_rfl) (fun _ _ _ h=>h) (Or.inl ⟨by rfl,?_⟩) (by assumption) ?_
  rotate_left 1
  ·intro W hSw;go_simp;(try with_reducible rfl)
  try simp only[Act.put,sA,sB,sC]
  refine wpAnyH_take (i:=4) (v:=?_) rfl (by kernel_rfl) (by kernel_rfl) (by kernel_rfl) (fun _ _ _ h=>h) (Or.inl ⟨by rfl,?_⟩) (by assumption) ?_
  rotate_left 1
  ·intro W hSw;have c20:=hSw.cell 20 (v:=.int .i64 h.fmt) rfl;clear hSw;go_simp;(try with_reducible rfl)
  try simp only[Act.put,sA,sB,sC]
  refine wpAnyH_ready (rs:=[1]) (by decide +kernel) (by simp) ?_
  refine AllReadyH.cons (o:=_) rfl (fun K hK=>?_) AllReadyH.nil
  go_simp
  go_at_call 60
  rw[←HCS.out]
  refine(HPR _ h rfl).out.mono ?_
  rintro e w2 ⟨rfl,k2⟩
  rw[HCS.out]
  have S2:=hid (hHeld.grow k2)
  clear k2 hHeld
  go_wp2_with fail
  refine hK.out _ _ ?_ (fun hHeld=>?_)
  ·exact S2.out
  clear hK K
  try simp only[Act.put,sA,sB,sC]
  refine wpAnyH_ready (rs:=[5]) (by decide +kernel) (by simp) ?_
  refine AllReadyH.cons (o:=_) rfl (fun K hK=>?_) AllReadyH.nil
  go_simp
  go_at_call 48
  rw[←HCS.out]
  refine(HCN _ h h.fmt HF.out S2.out.kp rfl rfl).out.mono ?_
  rintro e w3 ⟨hx3,k3⟩
  rw[HCS.out]
  obtain⟨v,rfl,hv3,hv1⟩:=hx3.out
  have FV:Hid (ChEnd h rv (.returned (.tuple #[.agg (sRow (promH h) rv).toArray, .int .i64 v]))):=⟨promH h,v,rfl,hv3,fun e=>chosen_same HF.out (hv1 e)⟩
  have S3:=hid (S2.out.grow k3)
  clear k3 hHeld S2 hx3 hv3 hv1
  go_wp2_with fail
  refine hK.out _ _ ?_ (fun hHeld=>?_)
  ·exact S3.out
  clear hK K
  try simp only[Act.put,sA,sB,sC]
  refine wpAnyH_ready (rs:=[6]) (by decide +kernel) (by simp) ?_
  refine AllReadyH.cons (o:=_) rfl (fun K hK=>?_) AllReadyH.nil
  rw[if_pos (by rfl)]
  have ⟨S8,S9⟩:=S3.out.store (vs:=sRow (promH h) rv) rfl
  have FIN:=hid S9
  refine wp_store_mid 45 (.tmp 2) (.tmp 13) rfl (w.heap.size+1) 0 (sRow (promH h) rv).toArray rfl rfl S3.out.there (by kernel_rfl) (HONE.out (promH h)) ?_
  clear S9
  refine hK.out _ _ ?_ (fun hHeld=>?_)
  ·exact S8
  clear hK K S8
  try simp only[Act.put,sA,sB,sC]
  refine wpAnyH_ready (rs:=[7]) (by decide +kernel) (by simp) ?_
  refine AllReadyH.cons (o:=_) rfl (fun K hK=>?_) AllReadyH.nil
  go_simp
  refine hK.out _ _ ?_ (fun hHeld=>?_)
  ·exact hHeld
  clear hK K
  try simp only[Act.put,sA,sB,sC]
  refine wpAnyH_done (by decide +kernel) ?_ _
  clear hHeld
  go_wp2_with fail
  exact bodyPost_ret (results_cell_row2 rfl _ _ (w.heap.size+1) (.agg (sRow (promH h) rv).toArray) rfl (run_loadVar_row _ (w.heap.size+1) 45 45 _ (0,0) _ FIN.out.1 Tryz.underlying45 rfl (by kernel_rfl))) rfl ⟨FV,FIN.out.2⟩
 |false=>
 have hf0:h.fmt=0:=by simpa using e3
 have HF0:=hid hf0
 clear hf0
 have c10:w1.cell? ⟨w.heap.size,10,none⟩=some (.int .i64 h.mn):=S1.out.cell 10 rfl
 obtain⟨b4,e4⟩:∃b,(h.mn==500000000)=b:=⟨_,rfl⟩
 cases b4 with
 |true=>
  go_upto_region 6 with fail
  go_step;refine wpList_load_row rfl 45 (.tmp 1) rfl w.heap.size rfl 45 (sRow h rv).toArray (0,0) _ S1.out.row Tryz.underlying45 rfl (by kernel_rfl) ?_
  have ⟨S8,S9⟩:=S1.out.store (vs:=sRow h rv) rfl
  have FIN:=hid S9
  refine wpList_store_mid rfl 45 (.tmp 2) (.tmp 22) rfl (w.heap.size+1) 0 (sRow h rv).toArray rfl rfl S1.out.there (by kernel_rfl) (HONE.out h) ?_
  clear S8 S9
  go_wp2_with fail
  exact bodyPost_ret (results_cell_row2 rfl _ _ (w.heap.size+1) (.agg (sRow h rv).toArray) rfl (run_loadVar_row _ (w.heap.size+1) 45 45 _ (0,0) _ FIN.out.1 Tryz.underlying45 rfl (by kernel_rfl))) rfl ⟨ChEnd.open_ h h rv,FIN.out.2⟩
 |false=>
 obtain⟨b5,e5⟩:∃b,decide ((500000000:Int)<h.mn)=b:=⟨_,rfl⟩
 have c9:w1.cell? ⟨w.heap.size,9,none⟩=some (.int .i64 h.ms):=S1.out.cell 9 rfl
 have z9:=S1.out.free 9
 have GO:∀(s:Int) (wx:World),(s=h.ms∨s=wrap64 (h.ms+1))→Hid (ChS w (msH h s) rv wx)→Hid (∃s,(s=h.ms∨s=wrap64 (h.ms+1))∧ChS w (msH h s) rv wx):=fun s wx h1 h2=>⟨s,h1,h2.out⟩
 go_upto_if 26 with fail
 try simp only[Act.put]
 go_cut [] from 23 to 32 (fun wx=>Hid (∃s,(s=h.ms∨s=wrap64 (h.ms+1))∧ChS w (msH h s) rv wx))
 case first=>
  cases b5 with
  |false=>
   have NX:=GO h.ms w1 (.inl rfl) S1.out
   clear S1 GO
   go_wp2_with fail
   go_meet
   case rel=>exact NX
  |true=>
   have NX:=GO _ _ (.inr rfl) (hid (S1.out.set 9 (.int .i64 (wrap64 (h.ms+1))) (msH h (wrap64 (h.ms+1))) rfl))
   clear S1 GO
   go_wp2_with fail
   go_meet
   trace_state
   case rel=>exact NX
 case rest=>
 obtain⟨s,hs,Sc⟩:=hcut.out
 have HS:=hid hs
 have S2:=hid Sc
 clear hcut hs Sc S1 GO c9 c10 z9 e4 e5 c20 e3
 have y0:=S2.out.free 10
 have y1:=S2.out.free 11
 have y2:=S2.out.free 12
 have y3:=S2.out.free 13
 have y4:=S2.out.free 14
 have y5:=S2.out.free 15
 have y6:=S2.out.free 16
 have x0:wc.cell? ⟨w.heap.size,10,none⟩=some (.int .i64 h.mn):=S2.out.cell 10 rfl
 have x1:wc.cell? ⟨w.heap.size,11,none⟩=some (.bool h.hasA):=S2.out.cell 11 rfl
 have x2:wc.cell? ⟨w.heap.size,12,none⟩=some (.bool h.hasC):=S2.out.cell 12 rfl
 have x3:wc.cell? ⟨w.heap.size,13,none⟩=some (.int .i64 h.ats):=S2.out.cell 13 rfl
 have x4:wc.cell? ⟨w.heap.size,14,none⟩=some (.int .i64 h.atn):=S2.out.cell 14 rfl
 have x5:wc.cell? ⟨w.heap.size,15,none⟩=some (.int .i64 h.cts):=S2.out.cell 15 rfl
 have x6:wc.cell? ⟨w.heap.size,16,none⟩=some (.int .i64 h.ctn):=S2.out.cell 16 rfl
 have S3:Hid (ChS w (rndF h s h.fmt) rv (((((((wc.setCell ⟨w.heap.size,10,none⟩ (.int .i64 0)).setCell ⟨w.heap.size,11,none⟩ (.bool false)).setCell ⟨w.heap.size,12,none⟩ (.bool false)).setCell ⟨w.heap.size,13,none⟩ (.int .i64 0)).setCell ⟨w.heap.size,14,none⟩ (.int .i64 0)).setCell ⟨w.heap.size,15,none⟩ (.int .i64 0)).setCell ⟨w.heap.size,16,none⟩ (.int .i64 0))):=by
  have a0:=S2.out.set 10 (.int .i64 0) {msH h s with mn:=0} rfl
  have a1:=a0.set 11 (.bool false) {msH h s with mn:=0,hasA:=false} rfl
  have a2:=a1.set 12 (.bool false) {msH h s with mn:=0,hasA:=false,hasC:=false} rfl
  have a3:=a2.set 13 (.int .i64 0) {msH h s with mn:=0,hasA:=false,hasC:=false,ats:=0} rfl
  have a4:=a3.set 14 (.int .i64 0) {msH h s with mn:=0,hasA:=false,hasC:=false,ats:=0,atn:=0} rfl
  have a5:=a4.set 15 (.int .i64 0) {msH h s with mn:=0,hasA:=false,hasC:=false,ats:=0,atn:=0,cts:=0} rfl
  exact a5.set 16 (.int .i64 0) (rndF h s h.fmt) rfl
 go_upto_region 12 with fail
 refine(show Code.wp _ _ _ _ (((((((wc.setCell ⟨w.heap.size,10,none⟩ (.int .i64 0)).setCell ⟨w.heap.size,11,none⟩ (.bool false)).setCell ⟨w.heap.size,12,none⟩ (.bool false)).setCell ⟨w.heap.size,13,none⟩ (.int .i64 0)).setCell ⟨w.heap.size,14,none⟩ (.int .i64 0)).setCell ⟨w.heap.size,15,none⟩ (.int .i64 0)).setCell ⟨w.heap.size,16,none⟩ (.int .i64 0)) from ?_)
 generalize (((((((wc.setCell ⟨w.heap.size,10,none⟩ (.int .i64 0)).setCell ⟨w.heap.size,11,none⟩ (.bool false)).setCell ⟨w.heap.size,12,none⟩ (.bool false)).setCell ⟨w.heap.size,13,none⟩ (.int .i64 0)).setCell ⟨w.heap.size,14,none⟩ (.int .i64 0)).setCell ⟨w.heap.size,15,none⟩ (.int .i64 0)).setCell ⟨w.heap.size,16,none⟩ (.int .i64 0))=wD at S3 ⊢
 clear y0 y1 y2 y3 y4 y5 y6 x0 x1 x2 x3 x4 x5 x6 S2
 obtain⟨q,hq⟩:∃q,rndF h s h.fmt=q:=⟨_,rfl⟩
 rw[hq] at S3
 have QN:Hid (q.name=h.name∧q.recs=h.recs∧weight q=weight h∧∀f,(f=1∨f=2∨f=3)→(SaneP q∧CanTo (promH q) f 11)→Chosen h (promH {q with fmt:=f})):=by
  subst hq
  exact⟨rfl,rfl,rfl,fun f hf hv=>chosen_rnd HF0.out HS.out hf hv⟩
 clear hq HS
 go_wp2_with fail
 go_loopg [4,5] 3 (fun g s4 s5 wr=>∃f:Int,1≤f∧f+g=4∧s4=.int .i64 f∧Hid (ChS w q rv wr))
 case atStart=>exact⟨1,by omega,by omega,rfl,S3⟩
 case round=>
  clear S3
  obtain⟨f,hf1,hf2,rfl,hst⟩:=hrel
  by_cases hle:f≤3
  ·have hf:f=1∨f=2∨f=3:=by omega
   have HF:=hid hf
   clear hf
   go_upto_region 15 with fail
   go_step;refine wpList_load_row rfl 45 (.tmp 1) rfl w.heap.size rfl 45 (sRow q rv).toArray (0,0) _ hst.out.row Tryz.underlying45 rfl (by kernel_rfl) ?_
   go_wp2_with fail
   refine(HCN _ q f HF.out hst.out.kp QN.out.2.1 QN.out.2.2.1).out.mono ?_
   rintro e w3 ⟨hx3,k3⟩
   obtain⟨v,rfl,hv3,hv1⟩:=hx3.out
   have S4:=hid (hst.out.grow k3)
   clear hst k3 hx3
   obtain⟨b6,e6⟩:∃b,(v != 2)=b:=⟨_,rfl⟩
   cases b6 with
   |true=>
    have S5:=hid (S4.out.set 20 (.int .i64 f) {q with fmt:=f} rfl)
    have y20:=S4.out.free 20
    have x20:w3.cell? ⟨w.heap.size,20,none⟩=some (.int .i64 q.fmt):=S4.out.cell 20 rfl
    have FV:Hid (ChEnd h rv (.returned (.tuple #[.agg (sRow (promH {q with fmt:=f}) rv).toArray, .int .i64 v]))):=⟨_,v,rfl,hv3,fun e=>QN.out.2.2.2 f HF.out (hv1 e)⟩
    have HPQ:=fun W=>hid (HPR W {q with fmt:=f} QN.out.1).out
    clear hv3 hv1 S4 HCN HPR
    obtain⟨q2,hq2⟩:∃q2:Hd,{q with fmt:=f}=q2:=⟨_,rfl⟩
    rw[hq2] at S5 FV HPQ
    clear hq2
    go_upto_region 18 with fail
    refine(show Code.wp _ _ _ _ (w3.setCell ⟨w.heap.size,20,none⟩ (.int .i64 f)) from ?_)
    generalize w3.setCell ⟨w.heap.size,20,none⟩ (.int .i64 f)=wE at S5 ⊢
    clear y20 x20
    go_step;refine wpList_load_row rfl 45 (.tmp 1) rfl w.heap.size rfl 45 (sRow q2 rv).toArray (0,0) _ S5.out.row Tryz.underlying45 rfl (by kernel_rfl) ?_
    go_wp2_with fail
    refine(HPQ wE).out.mono ?_
    rintro e w5 ⟨rfl,k5⟩
    have S6:=hid (S5.out.grow k5)
    clear k5 S5 HPQ
    dsimp only
    rename_i K hK
    refine hK _ _ ?_
    clear hK
    have ⟨S8,S9⟩:=S6.out.store (vs:=sRow (promH q2) rv) rfl
    have FIN:=hid S9
    clear S8 S9
    go_step;go_step;go_step;refine wpList_store_mid rfl 45 (.tmp 2) (.tmp 53) rfl (w.heap.size+1) 0 (sRow (promH q2) rv).toArray rfl rfl S6.out.there (by kernel_rfl) (HONE.out (promH q2)) ?_
    go_wp2_with fail
    exact bodyPost_ret (results_cell_row2 rfl _ _ (w.heap.size+1) (.agg (sRow (promH q2) rv).toArray) rfl (run_loadVar_row _ (w.heap.size+1) 45 45 _ (0,0) _ FIN.out.1 Tryz.underlying45 rfl (by kernel_rfl))) rfl ⟨FV,FIN.out.2⟩
   |false=>
    have hv2:v=2:=by simpa using e6
    clear hv3 hv1
    go_wp2_with fail
    go_roundg (gk-1)
    case measure=>omega
    case rel=>exact⟨f+1,by omega,by omega,by simp,S4⟩
  ·obtain rfl:f=4:=by omega
   go_upto_region 19 with fail
   go_step;refine wpList_load_row rfl 45 (.tmp 1) rfl w.heap.size rfl 45 (sRow q rv).toArray (0,0) _ hst.out.row Tryz.underlying45 rfl (by kernel_rfl) ?_
   have ⟨S8,S9⟩:=hst.out.store (vs:=sRow q rv) rfl
   have FIN:=hid S9
   refine wpList_store_mid rfl 45 (.tmp 2) (.tmp 55) rfl (w.heap.size+1) 0 (sRow q rv).toArray rfl rfl hst.out.there (by kernel_rfl) (HONE.out q) ?_
   clear S8 S9
   go_wp2_with fail
   exact bodyPost_ret (results_cell_row2 rfl _ _ (w.heap.size+1) (.agg (sRow q rv).toArray) rfl (run_loadVar_row _ (w.heap.size+1) 45 45 _ (0,0) _ FIN.out.1 Tryz.underlying45 rfl (by kernel_rfl))) rfl ⟨ChEnd.wrong h q rv,FIN.out.2⟩
end
def GlobEnd (h:Hd)(e:Ending):Prop:=∃v,e=.returned (.int .i64 v)∧V3 v∧(v=1→GlobAll h)
theorem GlobEnd.open_ (h:Hd):GlobEnd h (.returned (.int .i64 0)):=⟨0,rfl, .inl rfl,fun h=>absurd h (by decide)⟩
def globH (h:Hd):Hd:={hd0 with typ:=48,name:=[120],recs:=h.recs}
theorem globH_weight (h:Hd)(hw:wsum h.recs≤17179869184):weight (globH h)≤1099511627776:=by
 rw[weight_eq]
 show 1+0+0+0+wsum h.recs≤_
 omega
theorem globH_wsum (h:Hd)(hw:weight (globH h)≤524288):wsum h.recs≤524288:=by
 rw[weight_eq] at hw
 have e:wsum (globH h).recs=wsum h.recs:=rfl
 omega
theorem globH_own (h:Hd)(c:CanTo (promH (globH h)) 2 11):∀r∈h.recs,OwnOk r:=by
 have:=c 10 (by omega)
 have h2:∀r∈(promH (globH h)).recs,OwnOk r:=this
 rw[promH_recs] at h2
 exact h2
set_option maxHeartbeats 40000000 in
theorem global_any (w:World)(B:Nat)(h:Hd)(rv:Value)(ht:h.typ=103)(hra:RecsAt w B rv h.recs)(hw:wsum h.recs≤17179869184) :
  Calls Tryz.prog 66 #[.agg (iRowH h rv).toArray] w fun e w'=>Hid (GlobEnd h e)∧Kp (fun _=>False) w w':=by
 have hlr:h.recs.length≤2147483648:=by have:=wsum_len h.recs;omega
 have HRO:=fun W (k:Kp (fun _=>False) w W)=>hid (records_of W B rv h.recs (hra.keep k (fun _ h=>h.elim)) hlr)
 obtain⟨A,c,rfl⟩:=hra.shape
 obtain⟨hv,hhv⟩:∃hv:Array Value,(iRowH h (.slice A h.recs.length c)).toArray=hv:=⟨_,rfl⟩
 rw[hhv]
 clear hra
 go_enter Tryz.func66,Tryz.ntmps66
 go_upto_region 1 with fail
 refine code_one ?_
 intro wA gA kA sA
 rw[←hhv] at gA
 have c1:wA.cell? ⟨w.heap.size,1,none⟩=some (.string ⟨h.name.toArray⟩):=cell_of gA 1 rfl
 have c2:wA.cell? ⟨w.heap.size,2,none⟩=some (.string ⟨h.link.toArray⟩):=cell_of gA 2 rfl
 have c3:wA.cell? ⟨w.heap.size,3,none⟩=some (.int .i64 h.size):=cell_of gA 3 rfl
 have c4:wA.cell? ⟨w.heap.size,4,none⟩=some (.int .i64 h.mode):=cell_of gA 4 rfl
 have c5:wA.cell? ⟨w.heap.size,5,none⟩=some (.int .i64 h.uid):=cell_of gA 5 rfl
 have c6:wA.cell? ⟨w.heap.size,6,none⟩=some (.int .i64 h.gid):=cell_of gA 6 rfl
 have c7:wA.cell? ⟨w.heap.size,7,none⟩=some (.string ⟨h.un.toArray⟩):=cell_of gA 7 rfl
 have c8:wA.cell? ⟨w.heap.size,8,none⟩=some (.string ⟨h.gn.toArray⟩):=cell_of gA 8 rfl
 have c9:wA.cell? ⟨w.heap.size,9,none⟩=some (.int .i64 h.ms):=cell_of gA 9 rfl
 have c10:wA.cell? ⟨w.heap.size,10,none⟩=some (.int .i64 h.mn):=cell_of gA 10 rfl
 have c11:wA.cell? ⟨w.heap.size,11,none⟩=some (.bool h.hasA):=cell_of gA 11 rfl
 have c14:wA.cell? ⟨w.heap.size,14,none⟩=some (.bool h.hasC):=cell_of gA 14 rfl
 have c17:wA.cell? ⟨w.heap.size,17,none⟩=some (.int .i64 h.maj):=cell_of gA 17 rfl
 have c18:wA.cell? ⟨w.heap.size,18,none⟩=some (.int .i64 h.min):=cell_of gA 18 rfl
 have c19:wA.cell? ⟨w.heap.size,19,none⟩=some (.slice A h.recs.length c):=cell_of gA 19 rfl
 have c20:wA.cell? ⟨w.heap.size,20,none⟩=some (.int .i64 h.fmt):=cell_of gA 20 rfl
 have KA:=hid kA
 clear hhv gA kA
 obtain⟨b0,e0⟩:∃b:Bool,(!h.name.isEmpty)=b:=⟨_,rfl⟩
 obtain⟨b1,e1⟩:∃b:Bool,(!h.link.isEmpty)=b:=⟨_,rfl⟩
 obtain⟨b2,e2⟩:∃b:Bool,(h.size != 0)=b:=⟨_,rfl⟩
 obtain⟨b3,e3⟩:∃b:Bool,(h.mode != 0)=b:=⟨_,rfl⟩
 obtain⟨b4,e4⟩:∃b:Bool,(h.uid != 0)=b:=⟨_,rfl⟩
 obtain⟨b5,e5⟩:∃b:Bool,(h.gid != 0)=b:=⟨_,rfl⟩
 obtain⟨b6,e6⟩:∃b:Bool,(!h.un.isEmpty)=b:=⟨_,rfl⟩
 obtain⟨b7,e7⟩:∃b:Bool,(!h.gn.isEmpty)=b:=⟨_,rfl⟩
 obtain⟨b9,e9⟩:∃b:Bool,(h.hasA)=b:=⟨_,rfl⟩
 obtain⟨b10,e10⟩:∃b:Bool,(h.hasC)=b:=⟨_,rfl⟩
 obtain⟨b11,e11⟩:∃b:Bool,(h.maj != 0)=b:=⟨_,rfl⟩
 obtain⟨b12,e12⟩:∃b:Bool,(h.min != 0)=b:=⟨_,rfl⟩
 obtain⟨b13,e13⟩:∃b:Bool,(((h.recs.length:Int)==0))=b:=⟨_,rfl⟩
 obtain⟨b14,e14⟩:∃b:Bool,(h.fmt != 0)=b:=⟨_,rfl⟩
 cases b0 with
 |true=>
  go_wp2_with fail
  all_goals (
   go_ret
   exact⟨GlobEnd.open_ h,KA.out⟩)
 |false=>
 cases b1 with
 |true=>
  go_wp2_with fail
  all_goals (
   go_ret
   exact⟨GlobEnd.open_ h,KA.out⟩)
 |false=>
 cases b2 with
 |true=>
  go_wp2_with fail
  all_goals (
   go_ret
   exact⟨GlobEnd.open_ h,KA.out⟩)
 |false=>
 cases b3 with
 |true=>
  go_wp2_with fail
  all_goals (
   go_ret
   exact⟨GlobEnd.open_ h,KA.out⟩)
 |false=>
 cases b4 with
 |true=>
  go_wp2_with fail
  all_goals (
   go_ret
   exact⟨GlobEnd.open_ h,KA.out⟩)
 |false=>
 cases b5 with
 |true=>
  go_wp2_with fail
  all_goals (
   go_ret
   exact⟨GlobEnd.open_ h,KA.out⟩)
 |false=>
 cases b6 with
 |true=>
  go_wp2_with fail
  all_goals (
   go_ret
   exact⟨GlobEnd.open_ h,KA.out⟩)
 |false=>
 cases b7 with
 |true=>
  go_wp2_with fail
  all_goals (
   go_ret
   exact⟨GlobEnd.open_ h,KA.out⟩)
 |false=>
 by_cases hmn:h.ms= -62135596800∧h.mn=0
 case neg=>
  go_wp2_with fail
  all_goals first
   |exact absurd (And.intro (by assumption) (by assumption)) hmn
   |(go_ret;exact⟨GlobEnd.open_ h,KA.out⟩)
 rw[hmn.1] at c9
 rw[hmn.2] at c10
 rw[e9] at c11
 cases b9 with
 |true=>
  go_wp2_with fail
  all_goals (
   go_ret
   exact⟨GlobEnd.open_ h,KA.out⟩)
 |false=>
 rw[e10] at c14
 cases b10 with
 |true=>
  go_wp2_with fail
  all_goals (
   go_ret
   exact⟨GlobEnd.open_ h,KA.out⟩)
 |false=>
 cases b11 with
 |true=>
  go_wp2_with fail
  all_goals (
   go_ret
   exact⟨GlobEnd.open_ h,KA.out⟩)
 |false=>
 cases b12 with
 |true=>
  go_wp2_with fail
  all_goals (
   go_ret
   exact⟨GlobEnd.open_ h,KA.out⟩)
 |false=>
 cases b13 with
 |true=>
  go_wp2_with fail
  all_goals (
   go_ret
   exact⟨GlobEnd.open_ h,KA.out⟩)
 |false=>
 obtain⟨bz,ez⟩:∃b:Bool,(h.fmt != 2)=b:=⟨_,rfl⟩
 have FACT:Hid (∀v,V3 v→(v=1→(∀r∈h.recs,OwnOk r)∧wsum h.recs≤524288)→GlobEnd h (.returned (.int .i64 v))):=by
  show ∀v,_
  intro v hv hown
  refine⟨v,rfl,hv,fun h1=>?_⟩
  have f0:h.name=[]:=by simpa using e0
  have f1:h.link=[]:=by simpa using e1
  have f6:h.un=[]:=by simpa using e6
  have f7:h.gn=[]:=by simpa using e7
  have f8:h.ms= -62135596800∧h.mn=0:=hmn
  have f13:h.recs≠[]:=by
   intro e
   rw[e] at e13
   exact absurd e13 (by decide)
  exact⟨ht,f0,f1,by simpa using e2,by simpa using e3,by simpa using e4,by simpa using e5,f6,f7,f8.1,f8.2,e9,e10,by simpa using e11,by simpa using e12,f13,(hown h1).2,(hown h1).1⟩
 cases b14 with
 |true=>
  cases bz with
  |true=>
   go_wp2_with fail
   all_goals (
    go_ret
    exact⟨GlobEnd.open_ h,KA.out⟩)
  |false=>
   go_wp2_with fail
   clear e0 e1 e2 e3 e4 e5 e6 e7 e9 e10 e11 e12 hmn
   refine(HRO wA KA.out).out.mono ?_
   rintro e w1 ⟨⟨v,rfl,ho⟩,k1⟩
   have K1:=hid (KA.out.trans k1)
   clear KA k1 HRO
   obtain⟨A',c',rfl⟩:=ho.out.at_.shape
   have HC:=hid (can_any w1 (globH h) (.slice A' h.recs.length c') 2 (.inr (.inl rfl)) ho.out.at_ (globH_weight h hw))
   have FIN:Hid (∀e w2,Hid (CanEnd (globH h) 2 e)→Kp (fun _=>False) w1 w2→∃v,e=.returned (.int .i64 v)∧Hid (Hid (GlobEnd h (.returned (.int .i64 v)))∧Kp (fun _=>False) w w2)):=by
    show ∀e w2,_
    intro e w2 hx k2
    obtain⟨v,rfl,hv,hc⟩:=hx.out
    exact⟨v,rfl,FACT.out v hv (fun e=>⟨globH_own h (hc e).2,globH_wsum h (hc e).1.wt⟩),K1.out.trans k2⟩
   go_wp2_with fail
   refine(show Calls Tryz.prog 48 #[.agg (sRow (globH h) (.slice A' h.recs.length c')).toArray, .int .i64 2] w1 _ from ?_)
   refine HC.out.mono ?_
   rintro e w2 ⟨hx,k2⟩
   obtain⟨v,rfl,NX⟩:=FIN.out _ _ hx k2
   clear hx k2 FIN HC
   go_wp2_with fail
   go_ret
   exact NX.out
 |false=>
  go_wp2_with fail
  clear e0 e1 e2 e3 e4 e5 e6 e7 e9 e10 e11 e12 hmn
  refine(HRO wA KA.out).out.mono ?_
  rintro e w1 ⟨⟨v,rfl,ho⟩,k1⟩
  have K1:=hid (KA.out.trans k1)
  clear KA k1 HRO
  obtain⟨A',c',rfl⟩:=ho.out.at_.shape
  have HC:=hid (can_any w1 (globH h) (.slice A' h.recs.length c') 2 (.inr (.inl rfl)) ho.out.at_ (globH_weight h hw))
  have FIN:Hid (∀e w2,Hid (CanEnd (globH h) 2 e)→Kp (fun _=>False) w1 w2→∃v,e=.returned (.int .i64 v)∧Hid (Hid (GlobEnd h (.returned (.int .i64 v)))∧Kp (fun _=>False) w w2)):=by
   show ∀e w2,_
   intro e w2 hx k2
   obtain⟨v,rfl,hv,hc⟩:=hx.out
   exact⟨v,rfl,FACT.out v hv (fun e=>⟨globH_own h (hc e).2,globH_wsum h (hc e).1.wt⟩),K1.out.trans k2⟩
  go_wp2_with fail
  refine(show Calls Tryz.prog 48 #[.agg (sRow (globH h) (.slice A' h.recs.length c')).toArray, .int .i64 2] w1 _ from ?_)
  refine HC.out.mono ?_
  rintro e w2 ⟨hx,k2⟩
  obtain⟨v,rfl,NX⟩:=FIN.out _ _ hx k2
  clear hx k2 FIN HC
  go_wp2_with fail
  go_ret
  exact NX.out
abbrev IFile:=Hd × List UInt8 × Int
def IFileAt (w:World)(B b o:Nat)(f:IFile):Prop:=
 ∃rv dv,w.rangeAt b o (iFRow f.1 rv dv f.2.2)∧RecsAt w B rv f.1.recs∧DataQ w (fun b=>b<B) dv f.2.1
def IFilesAt (w:World)(B:Nat)(fv:Value)(fs:List IFile):Prop:=
 fv=.slice none 0 0∧fs=[]∨∃b o c,fv=.slice (some ⟨b,o,none⟩) fs.length c∧b<B∧∀i f,fs[i]?=some f→IFileAt w B b (o+i*23) f
theorem IFileAt.keep {w w':World}{B b o:Nat}{f:IFile}{S:Nat→Prop}(h:IFileAt w B b o f)(hb:b<B)(k:Kp S w w')(hS:∀i,S i→B≤i):IFileAt w' B b o f:=by
 obtain⟨rv,dv,h1,h2,h3⟩:=h
 exact⟨rv,dv,fun j v hv=>k.cell (h1 j v hv) (fun hs=>by have h5:B≤b:=hS _ hs;omega),h2.keep k hS,h3.keep k (fun b hb hs=>by have:=hS _ hs;omega) (fun _ h=>h)⟩
theorem IFilesAt.keep {w w':World}{B:Nat}{fv:Value}{fs:List IFile}{S:Nat→Prop}(h:IFilesAt w B fv fs)(k:Kp S w w')(hS:∀i,S i→B≤i):IFilesAt w' B fv fs:=by
 rcases h with h|⟨b,o,c,h1,h2,h3⟩
 ·exact .inl h
 ·exact .inr ⟨b,o,c,h1,h2,fun i f hf=>(h3 i f hf).keep h2 k hS⟩
theorem IFilesAt.shape {w:World}{B:Nat}{fv:Value}{fs:List IFile}(h:IFilesAt w B fv fs):∃A c,fv=.slice A fs.length c:=by
 rcases h with ⟨rfl,rfl⟩|⟨b,o,c,rfl,_⟩
 ·exact⟨none,0,rfl⟩
 ·exact⟨_,c,rfl⟩
theorem IFilesAt.get {w:World}{B:Nat}{fv:Value}{fs:List IFile}(h:IFilesAt w B fv fs){i:Nat}{f:IFile}(hf:fs[i]?=some f) :
  ∃b o c,fv=.slice (some ⟨b,o,none⟩) fs.length c∧b<B∧IFileAt w B b (o+i*23) f:=by
 rcases h with ⟨rfl,rfl⟩|⟨b,o,c,rfl,h2,h3⟩
 ·cases hf
 ·exact⟨b,o,c,rfl,h2,h3 i f hf⟩
structure IFileOk (f:IFile):Prop where
 wt:weight f.1≤17179869184
 dl:f.2.1.length≤1073741824
def DatOk (t:UInt8)(size:Int)(data:List UInt8):Prop:=if hasData t then (data.length:Int)=size else data=[]
def WantOk (f:IFile)(g:File):Prop:=
 (f.1.typ=103∧g=(f.1,[])∧f.2.1=[]∧GlobAll f.1)∨(f.1.typ≠103∧g.2=f.2.1∧Chosen f.1 g.1∧DatOk g.1.typ g.1.size f.2.1)
inductive WantAll:List IFile→List File→Prop
 |nil:WantAll [] []
 |cons {f g fs gs} (h:WantOk f g) (hs:WantAll fs gs):WantAll (f::fs) (g::gs)
theorem WantAll.snoc {f:IFile}{g:File}(h:WantOk f g):∀ {fs:List IFile} {gs:List File},WantAll fs gs→WantAll (fs++[f]) (gs++[g])
 |_,_, .nil=>.cons h .nil
 |_,_, .cons h1 h2=>.cons h1 (WantAll.snoc h h2)
theorem WantAll.len:∀ {fs:List IFile} {gs:List File},WantAll fs gs→gs.length=fs.length
 |_,_, .nil=>rfl
 |_,_, .cons h1 h2=>by rw[List.length_cons,List.length_cons,WantAll.len h2]
def Wq (w:World)(v:Value)(b:Nat):Prop:=b<w.heap.size∧some b≠v.ownBlock
theorem OwnF.block {w:World}{base:Nat}{Q:Nat→Prop}{v:Value}{fs:List File}(h:OwnF w base Q v fs){b:Nat}(hb:v.ownBlock=some b):base≤b∧b<w.heap.size:=by
 obtain⟨cs,h1,_⟩:=h.own
 exact World.ownsRow.lt h1 b hb
theorem infoF:InfoX 47 32 22 232:=infoX_of Tryz.underlying32 (by kernel_rfl)
theorem dsum_snoc (fs:List File)(f:File):dsum (fs++[f])=dsum fs+f.2.length:=by unfold dsum;simp
structure WanSt (w:World)(fs:List IFile)(i:Nat)(n:Nat)(vd:Int)(v:Value)(wr:World):Prop where
 own:∃out,OwnF wr w.heap.size (Wq wr v) v out∧WantAll (fs.take i) out∧n=dsum out
 vd:vd=1∧n≤1048576∨vd=0
 le:n≤i*1073741824
 kp:Kp (fun _=>False) w wr
theorem WanSt.start (w:World)(fs:List IFile):WanSt w fs 0 0 1 (.slice none 0 0) w:=
 ⟨⟨[],⟨[],⟨rfl, .inl ⟨rfl,rfl⟩⟩,rfl⟩,by rw[sE];exact .nil,rfl⟩, .inl ⟨rfl,by omega⟩,by omega,Kp.refl _ _⟩
theorem WanSt.block {w:World}{fs:List IFile}{i n:Nat}{vd:Int}{v:Value}{wr:World}(s:WanSt w fs i n vd v wr){b:Nat}(hb:v.ownBlock=some b):w.heap.size≤b∧b<wr.heap.size:=by
 obtain⟨out,h1,_⟩:=s.own
 exact h1.block hb
theorem WanSt.push {w:World}{fs:List IFile}{i n:Nat}{vd vd':Int}{v:Value}{wr:World}(s:WanSt w fs i n vd v wr){f:IFile}{g:File}{rv dv:Value}(hf:fs[i]?=some f)(hl:fs.length≤1048576)(hw:WantOk f g)(hr:RecsQ wr (Wq wr v) rv g.1.recs)(hd:DataQ wr (Wq wr v) dv g.2)
  (hdl:g.2.length≤1073741824) (hvd:vd'=vd∧n+g.2.length≤1048576∨vd'=0) (ty:TypeId) :
  ∃v3 w3,(Builtin.append_ #[32,32] ty #[v, .slice (some ⟨wr.heap.size,0,none⟩) 1 1]).run Tryz.prog (wr.alloc (.cells (sRow g.1 rv++[dv]).toArray 47))=.ok v3 w3∧WanSt w fs (i+1) (n+g.2.length) vd' v3 w3:=by
 obtain⟨out,⟨cs,h1,hc⟩,h2,h3⟩:=s.own
 have hi:i<fs.length:=(List.getElem?_eq_some_iff.1 hf).1
 have hlen:=h2.len
 rw[List.length_take] at hlen
 obtain⟨v3,w3,hrun,ho,hk,hb⟩:=app_x_ex (ty:=ty) wr infoF (by decide) (by decide) w.heap.size v out.length cs (sRow g.1 rv++[dv]) h1 rfl (fun u hu=>by
  rcases List.mem_append.1 hu with hu|hu
  ·exact plain_one hr.one u hu
  ·rw[List.mem_singleton] at hu;rw[hu];exact hd.one) (by omega) s.kp.size
 have hv3:∀b,b<wr.heap.size→some b≠v.ownBlock→some b≠v3.ownBlock:=fun b hb1 hb2 e=>by
  rcases hb with hb|hb
  ·exact hb2 (e.trans hb)
  ·rw[hb] at e;injection e with e;omega
 have hQ:∀b,Wq wr v b→Wq w3 v3 b:=fun b hb=>⟨Nat.lt_of_lt_of_le hb.1 hk.size,hv3 b hb.1 hb.2⟩
 have hS:∀b,Wq wr v b→¬(some b=v.ownBlock):=fun b hb=>hb.2
 have htk:fs.take (i+1)=fs.take i++[f]:=by
  rw[List.take_succ_eq_append_getElem hi]
  rw[List.getElem?_eq_getElem hi] at hf
  injection hf with hf
  rw[hf]
 refine⟨v3,w3,hrun,⟨⟨out++[g],⟨_,by rw[List.length_append,List.length_singleton];exact ho,?_⟩,by rw[htk];exact h2.snoc hw,by rw[dsum_snoc,h3]⟩,?_,?_,?_⟩⟩
 ·exact FCells.snoc (hr.keep hk hS hQ) (hd.keep hk hS hQ) (hc.keep hk hS hQ)
 ·rcases hvd with ⟨e,h4⟩|e
  ·rcases s.vd with ⟨e2,h5⟩|e2
   ·exact .inl ⟨e.trans e2,h4⟩
   ·exact .inr (e.trans e2)
  ·exact .inr e
 ·have:=s.le
  omega
 ·exact s.kp.then hk (fun j hj e=>by have:=(World.ownsRow.lt h1 j e.symm).1;omega)
structure InsOk (w wx:World)(P:Nat)(hh:Hd)(l:List Rec)(lv:Value)(g cap i n:Nat)(w4:World):Prop where
 cl4:w4.cell? ⟨P,19,none⟩=some (.slice (some ⟨g,0,none⟩) (n+1) cap)
 fz:∀j,w4.frozen? ⟨g,j,none⟩=false
 gc0:∃s,w4.cell? ⟨g,i*2,none⟩=some (.string s)
 gc1:∃s,w4.cell? ⟨g,i*2+1,none⟩=some (.string s)
 fin:∀k v:List UInt8,∃L,HfSt w P hh L ((w4.setCell ⟨g,i*2,none⟩ (.string ⟨k.toArray⟩)).setCell ⟨g,i*2+1,none⟩ (.string ⟨v.toArray⟩))∧L.Perm ((k,v)::l) ∧
  Kp (fun j=>j=P∨lv.ownBlock=some j∨wx.heap.size≤j) wx ((w4.setCell ⟨g,i*2,none⟩ (.string ⟨k.toArray⟩)).setCell ⟨g,i*2+1,none⟩ (.string ⟨v.toArray⟩))
structure InsD (w wx:World)(P:Nat)(hh:Hd)(l:List Rec)(lv:Value)(g cap i n:Nat)(wD:World):Prop where
 cl:wD.drew.cell? ⟨P,19,none⟩=some (.slice (some ⟨g,0,none⟩) (n+1) cap)
 gP:g≠P
 hc1:n+1≤cap
 hc2:cap≤maxLen
 endc:cap=i+1→i=n∧∃w4,(Builtin.copy_ #[24,24] 3 #[.slice (some ⟨g,0,none⟩) 0 0, .slice (some ⟨g,i*2,none⟩) 1 1]).run Tryz.prog wD.drew=.ok (goInt (0:Nat)) w4∧InsOk w wx P hh l lv g cap i n w4
 mid:cap≠i+1→∃w4,(Builtin.copy_ #[24,24] 3 #[.slice (some ⟨g,(i+1)*2,none⟩) (n-i) (cap-(i+1)), .slice (some ⟨g,i*2,none⟩) (n+1-i) (cap-i)]).run Tryz.prog wD.drew=.ok (goInt (n-i:Nat)) w4∧InsOk w wx P hh l lv g cap i n w4
theorem HfSt.ins {w wx:World}{P:Nat}{hh:Hd}{l:List Rec}(s:HfSt w P hh l wx)(hl:l.length≤1048576)(lv:Value)(hlv:wx.cell? ⟨P,19,none⟩=some lv)(i n:Nat)(hn:l.length=n)(hi:i≤n) :
  ∃g cap w3,(Builtin.append_ #[24,24] 24 #[lv, .slice (some ⟨wx.heap.size,0,none⟩) 1 1]).run Tryz.prog (wx.alloc (.cells #[.string ⟨#[]⟩, .string ⟨#[]⟩] 171))=.ok (.slice (some ⟨g,0,none⟩) (n+1) cap) w3 ∧
   w3.cell? ⟨P,19,none⟩=some lv∧w3.frozen? ⟨P,19,none⟩=false∧InsD w wx P hh l lv g cap i n (w3.setCell ⟨P,19,none⟩ (.slice (some ⟨g,0,none⟩) (n+1) cap)):=by
 obtain⟨v0,row0,own0,ne0⟩:=s.row
 have e0:v0=lv:=by
  have:=cell_of row0 19 (v:=v0) rfl
  rw[hlv] at this
  injection this with this
  exact this.symm
 subst e0
 have hlt:=s.lt
 have hPw:=lt_of row0
 obtain⟨g,cap,w3,hr,y1,y2,g3,o3,gP,hg,k3,hgb,hc1,hc2⟩:=s.app (by omega) v0 hlv
 rw[hn] at hr g3 o3 k3 hc1
 have en:(l++[(([]:List UInt8),([]:List UInt8))]).length=n+1:=by rw[List.length_append,hn];rfl
 obtain⟨wD,hwD⟩:∃wD,w3.setCell ⟨P,19,none⟩ (.slice (some ⟨g,0,none⟩) (n+1) cap)=wD:=⟨_,rfl⟩
 rw[hwD] at g3 o3 k3
 refine⟨g,cap,w3,hr,y1,y2,?_⟩
 rw[hwD]
 have hgw:w.heap.size+1≤g:=hg
 have kd:Kp (fun _=>False) wD wD.drew:=(Kp.refl _ _).drew
 have own':OwnR 171 wD.drew (w.heap.size+1) (.slice (some ⟨g,0,none⟩) (l.length+1) cap) (l++[([],[])]):=by
  rw[hn];exact o3.keep kd (fun _ _ h=>h)
 have rowD:wD.drew.heap[P]?=some (.cells (iRowH hh (.slice (some ⟨g,0,none⟩) (n+1) cap)).toArray 26 (0,0)):=kd.heap g3 (fun h=>h)
 have resD:wD.drew.heap[w.heap.size]?=some (.cells iZero.toArray 26 (0,0)):=by
  refine kd.heap (k3.heap s.res (fun e=>?_)) (fun h=>h)
  rcases e with e|e
  ·omega
  ·have:=(own0.block e).1;omega
 have kwD:Kp (fun j=>j=P∨v0.ownBlock=some j) wx wD.drew:=k3.then kd (fun _ _ h=>h.elim)
 have ok:∀w4,OwnR 171 w4 (w.heap.size+1) (.slice (some ⟨g,0,none⟩) (n+1) cap) ((l++[([],[])]).take (i+1)++l.drop i)→Kp (fun j=>j=g) wD.drew w4→InsOk w wx P hh l v0 g cap i n w4:=by
  intro w4 own4 k4
  have row4:=k4.heap rowD (fun e=>gP e.symm)
  have res4:=k4.heap resD (by omega)
  obtain⟨L,hL⟩:∃L,(l++[(([]:List UInt8),([]:List UInt8))]).take (i+1)++l.drop i=L:=⟨_,rfl⟩
  have hLn:L.length=n+1:=by
   have hip:=(ins_perm l ([],[]) ([],[]) i (by omega)).length_eq
   rw[hL,List.length_set,List.length_cons,hn] at hip
   exact hip
  have hip:=fun r=>ins_perm l ([],[]) r i (by omega)
  rw[hL] at own4
  have hkL:i<L.length:=by omega
  refine⟨cell_of row4 19 rfl,own4.free,⟨_,own4.cell0 (List.getElem?_eq_getElem hkL)⟩,⟨_,own4.cell1 (List.getElem?_eq_getElem hkL)⟩,fun k v=>⟨L.set i (k,v),?_,?_,?_⟩⟩
  ·have k5:Kp (· =g) w4 ((w4.setCell ⟨g,i*2,none⟩ (.string ⟨k.toArray⟩)).setCell ⟨g,i*2+1,none⟩ (.string ⟨v.toArray⟩)):=
    Kp.setCell (S:=(· =g)) (p:=⟨g,i*2+1,none⟩) (Kp.setCell (S:=(· =g)) (p:=⟨g,i*2,none⟩) (Kp.refl _ w4) (.inl rfl) _) (.inl rfl) _
   refine HfSt.of_row (k5.heap row4 (fun e=>gP e.symm)) (own4.set hkL (k,v)) gP (k5.heap res4 (by omega)) ?_ hlt
   refine((s.kp.then kwD (fun j hj e=>?_)).then k4 (fun j hj e=>by omega)).then k5 (fun j hj e=>by omega)
   rcases e with e|e
   ·omega
   ·have:=(own0.block e).1;omega
  ·have:=hip (k,v)
   rw[hL] at this
   exact this
  ·have k5:Kp (· =g) w4 ((w4.setCell ⟨g,i*2,none⟩ (.string ⟨k.toArray⟩)).setCell ⟨g,i*2+1,none⟩ (.string ⟨v.toArray⟩)):=
    Kp.setCell (S:=(· =g)) (p:=⟨g,i*2+1,none⟩) (Kp.setCell (S:=(· =g)) (p:=⟨g,i*2,none⟩) (Kp.refl _ w4) (.inl rfl) _) (.inl rfl) _
   have gg:∀j,j<wx.heap.size→j=g→j=P∨v0.ownBlock=some j∨wx.heap.size≤j:=fun j hj e=>.inr (.inl (by rw[e];exact hgb (by omega)))
   exact((kwD.mono (fun j _ e=>by rcases e with e|e;exact .inl e;exact .inr (.inl e))).then k4 gg).then k5 gg
 refine⟨cell_of rowD 19 rfl,gP,hc1,hc2,fun hc=>?_,fun hc=>?_⟩
 ·have hin:i=n:=by omega
  obtain⟨w4,h4,o4,k4⟩:=copy_none_ex (ty:=3) wD.drew infoI (w.heap.size+1) g cap i l ([],[]) own' (by omega) ⟨g,0,none⟩ 0 1
  rw[hn] at h4 o4
  refine⟨hin,w4,?_,ok w4 o4 k4⟩
  have e1:n-i=0:=by omega
  have e2:n+1-i=1:=by omega
  rw[e1,e2] at h4
  exact h4
 ·obtain⟨w4,h4,o4,k4⟩:=copy_shift_ex (ty:=3) wD.drew infoI (w.heap.size+1) g cap i l ([],[]) own' (by omega) (cap-(i+1)) (cap-i)
  rw[hn] at h4 o4
  exact⟨w4,h4,ok w4 o4 k4⟩
theorem run_build47 (W:World)(g:Hd)(Ar:Option Addr)(nr cr:Nat)(A:Option Addr)(n c:Nat):(Instr.build 47 #[(0, .agg (sRow g (.slice Ar nr cr)).toArray),(1, .slice A n c)]).run Tryz.prog W=.ok (.agg (sRow g (.slice Ar nr cr)++[Value.slice A n c]).toArray) W:=
 run_build W 47 _ _ (by kernel_rfl)
theorem run_bs (W:World){T ST:TypeId}{bt:Nat}(k:Nat)(I:InfoX T ST k bt)(row:Array Value)(hk:0<k)(hk2:k≤100)
  (hf:∀z:Array Value,Instr.fill (fun i=>some (i*k,k)) ((Array.range (1*k)).map (z[· %z.size]!)) [(0, .agg row)]=some row) :
  (Instr.buildSlice ST 1 #[(0, .agg row)]).run Tryz.prog W=.ok (.slice (some ⟨W.heap.size,0,none⟩) 1 1) (W.alloc (.cells row T)):=by
 obtain⟨i0,z,hi,hz,hsz,hby,hzs⟩:=I.info
 refine run_buildSlice W ST T 1 _ _ i0 z I.und hi hz (by rw[hsz];omega) (by rw[hsz];omega) ?_
 rw[hsz]
 exact hf z.cells
theorem run_bs47 (W:World)(g:Hd)(rv dv:Value):(Instr.buildSlice 32 1 #[(0, .agg (sRow g rv++[dv]).toArray)]).run Tryz.prog W=.ok (.slice (some ⟨W.heap.size,0,none⟩) 1 1) (W.alloc (.cells (sRow g rv++[dv]).toArray 47)):=
 run_bs W 22 infoF _ (by decide) (by decide) (fun z=>by kernel_rfl)
theorem wpList_build_as {P:Program}{ops:Array Oper}{rest:List Oper}{o:Oper}{a:Act}{w:World}{Q:Exit→Act→World→Prop}(hg:o.guard=none)(t:TypeId)(parts:Array (Nat × Operand))(ho:o.op=.build t parts)
  (V:Array (Nat × Value)) (hp:(parts.map fun (i,x)=>(i,a.eval x))=V) (v:Value) (hr:(Instr.build t V).run P w=.ok v w) (h:wpList P ops Q rest (a.put o.dst v) w):wpList P ops Q (o::rest) a w:=
 wpList_plain hg fun _ hK=>by
  unfold Oper.wp execOp
  simp only[ho,hp,Sem.run_bind,hr,Result.andThen_ok]
  exact hK _ _ h
theorem wpList_bslice_as {P:Program}{ops:Array Oper}{rest:List Oper}{o:Oper}{a:Act}{w w':World}{Q:Exit→Act→World→Prop}(hg:o.guard=none)(t:TypeId)(n:Nat)(parts:Array (Nat × Operand))(ho:o.op=.buildSlice t n parts)
  (V:Array (Nat × Value)) (hp:(parts.map fun (i,x)=>(i,a.eval x))=V) (v:Value) (hr:(Instr.buildSlice t n V).run P w=.ok v w') (h:wpList P ops Q rest (a.put o.dst v) w'):wpList P ops Q (o::rest) a w:=
 wpList_plain hg fun _ hK=>by
  unfold Oper.wp execOp
  simp only[ho,hp,Sem.run_bind,hr,Result.andThen_ok]
  exact hK _ _ h
end Go.Proofs.YtgfcnjfmmjcodaaGreatDoor
