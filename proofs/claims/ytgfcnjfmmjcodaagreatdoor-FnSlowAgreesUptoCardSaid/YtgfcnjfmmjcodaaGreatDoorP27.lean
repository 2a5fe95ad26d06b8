/- records, plain of the laws. -/
import Derived.Test.YtgfcnjfmmjcodaaGreatDoorP25
set_option linter.all false
set_option maxRecDepth 100000
set_option maxHeartbeats 1000000
open Go.Lib (hid)
namespace Go.Proofs.YtgfcnjfmmjcodaaGreatDoor
open Go Go.RowKit
def Bc9 (w:World)(l:List Rec)(i:Nat)(v:Value)(wr:World):Prop:=OwnR 136 wr w.heap.size v (l.take i)∧Kp (fun _=>False) w wr
set_option maxHeartbeats 1600000 in
theorem Oj (w:World)(B:Nat)(rv:Value)(l:List Rec)(hra:RecsAt w B rv l)(hl:l.length≤2147483648) :
  Calls Tryz.prog 58 #[rv] w fun e w'=>(∃v,e=.returned v∧Hid (OwnR 136 w' w.heap.size v l))∧Kp (fun _=>False) w w':=by
 obtain⟨A,c,rfl⟩:=hra.shape;have HRA:=hid hra;clear hra;have LP:Hid (Bc9 w l 0 (.slice none 0 0) w):=⟨by rw[sE];exact OwnR.nil _ _ _,Kp.refl _ _⟩
 go_enter Tryz.func58,Tryz.ntmps58
 go_wp2_with fail
 go_loopg [3,5,8] l.length (fun g s3 s5 s8 wr=>∃(i:Nat),i+g=l.length∧s8=.int .i64 i∧Hid (Bc9 w l i s3 wr))
 case atStart=>exact⟨0,by omega,rfl,LP⟩
 case round=>
  clear LP;obtain⟨i,hi,rfl,hst⟩:=hrel;by_cases hlt:i<l.length
  ·obtain⟨x,hx⟩:∃x,l[i]?=some x:=⟨_,List.getElem?_eq_getElem hlt⟩;have hLr:RecsAt wr B (.slice A l.length c) l:=HRA.out.keep hst.out.2 (fun _ h=>h.elim);obtain⟨b,o,c',hA,hbC,x1,x2⟩:=hLr.get hx;(injection hA with hA1 hA2 hA3);subst hA1 hA3;(have hxg:x=l[i]:=by rw[List.getElem?_eq_getElem hlt] at hx;injection hx with hx;exact hx.symm);(have htk:l.take (i+1)=l.take i++[x]:=by rw[List.take_succ_eq_append_getElem hlt,hxg]);(have hsz:∀o,(wr.alloc o).heap.size=wr.heap.size+1:=fun o=>by show (wr.heap.push _).size=_;simp);have APX:∀XO YO,XO=Obj.cells #[.string ⟨x.1.toArray⟩, .string ⟨x.2.toArray⟩] 171→YO=Obj.cells #[.string ⟨x.1.toArray⟩, .string ⟨x.2.toArray⟩] 136→∃v2 w2,(Builtin.append_ #[43,43] 43 #[u3, .slice (some ⟨wr.heap.size+1,0,none⟩) 1 1]).run Tryz.prog ((wr.alloc XO).alloc YO)=.ok v2 w2∧Hid (Bc9 w l (i+1) v2 w2):=by
    rintro XO YO rfl rfl;obtain⟨h1,h3⟩:=hst.out;have k1:Kp (fun _=>False) wr (wr.alloc (.cells #[.string ⟨x.1.toArray⟩, .string ⟨x.2.toArray⟩] 171)):=(Kp.refl _ _).alloc _;have h1':=h1.keep k1 (fun _ _ h=>h);have hs1:=k1.size;have hs0:=h3.size;(obtain⟨v2,w2,e1,e2,e3⟩:=D8 (ty:=43) (wr.alloc (.cells #[.string ⟨x.1.toArray⟩, .string ⟨x.2.toArray⟩] 171)) infoS w.heap.size u3 (l.take i) x h1' (by rw[List.length_take];omega) (by omega));rw[hsz] at e1;have kw:=h1'.wide e3;exact⟨v2,w2,e1,by rw[htk];exact e2,(h3.trans k1).then kw (fun i hi e=>by omega)⟩
   obtain⟨v2,w2,hr2,NX⟩:=APX _ _ rfl rfl;have HR2:=hid hr2;clear APX hr2 hA2 hLr hx hxg htk hst hsz;(go_wp2_with (at_builtin;refine Lib.wpList_append_run _ rfl _ _ _ _ rfl _ _ rfl rfl _ _ HR2.out ?_));go_roundg (gk-1)
   case measure=>omega
   case rel=>exact⟨i+1,by omega,by simp,NX⟩
  ·(obtain rfl:i=l.length:=by omega);have FIN:Hid ((∃v,Ending.returned u3=.returned v∧Hid (OwnR 136 wr w.heap.size v l))∧Kp (fun _=>False) w wr):=by
    obtain⟨h1,h2⟩:=hst.out;rw[List.take_length] at h1;exact⟨⟨u3,rfl,h1⟩,h2⟩
   clear hst;(go_wp2_with fail);(go_ret);exact FIN.out
theorem Qy {h:Hd}{rv:Value}(hr:rv.oneCell'=true):∀v∈Bd h rv,v.oneCell'=true:=fun v hv=>by
 have:=Dx (h:=h) hr
 rw[Array.all_eq_true_iff_forall_mem] at this
 exact this v (by simpa using hv)
structure PlS (w:World)(h:Hd)(rv:Value)(W:World):Prop where
 row:W.heap[w.heap.size]?=some (.cells (Bu h rv).toArray 26 (0,0))
 own:∃cs,cs.size=21∧W.heap[w.heap.size+1]?=some (.cells cs 45 (0,0))
 kp:Kp (fun _=>False) w W
theorem PlS.cell {w:World}{h:Hd}{rv:Value}{W:World}(s:PlS w h rv W)(i:Nat){v:Value}(hv:(Bu h rv)[i]?=some v):W.cell? ⟨w.heap.size,i,none⟩=some v:=
 cell_of s.row i (by rw[List.getElem?_toArray];exact hv)
theorem PlS.size {w:World}{h:Hd}{rv:Value}{W:World}(s:PlS w h rv W):w.heap.size+2≤W.heap.size:=by
 obtain⟨cs,_,h2⟩:=s.own;have:=(Array.getElem?_eq_some_iff.1 h2).1;omega
theorem PlS.store {w:World}{h:Hd}{rv rv':Value}{W:World}(s:PlS w h rv W)(ho:OwnR 136 W (w.heap.size+2) rv' h.recs) :
  PlS w h rv (W.setCells (w.heap.size+1) 0 (Bd h rv'))∧((W.setCells (w.heap.size+1) 0 (Bd h rv')).heap[w.heap.size+1]?=some (.cells (Bd h rv').toArray 45 (0,0))∧(OwnR 136 (W.setCells (w.heap.size+1) 0 (Bd h rv')) w.heap.size rv' h.recs∧Kp (fun _=>False) w (W.setCells (w.heap.size+1) 0 (Bd h rv')))):=by
 obtain⟨cs,h1,h2⟩:=s.own;have k:Kp (· =w.heap.size+1) W (W.setCells (w.heap.size+1) 0 (Bd h rv')):=Dn (S:=(· =w.heap.size+1)) _ (.inl rfl) _ _ _ (Kp.refl _ _);have kw:Kp (fun _=>False) w (W.setCells (w.heap.size+1) 0 (Bd h rv')):=Dn _ (.inr (by omega)) _ _ _ s.kp
 have g:=Dz (vs:=Bd h rv') h2 (by rw[h1];rfl)
 refine⟨⟨k.heap s.row (by omega),⟨_,by rfl,g⟩,kw⟩,g,?_,kw⟩
 exact(ho.keep k (fun b hb e=>by have:=(ho.block hb).1;omega)).lower (by omega)
theorem OwnR.one {T:TypeId}{w:World}{base:Nat}{v:Value}{l:List Rec}(h:OwnR T w base v l):v.oneCell'=true:=by
 rcases h.shape with ⟨rfl,_⟩|⟨g,cap,rfl,_⟩<;>rfl
theorem PlS.grow {w:World}{h:Hd}{rv:Value}{W W':World}(s:PlS w h rv W)(k:Kp (fun _=>False) W W'):PlS w h rv W':=
 ⟨k.heap s.row (fun h=>h),(let ⟨cs,h1,h2⟩:=s.own;⟨cs,h1,k.heap h2 (fun h=>h)⟩),s.kp.trans k⟩
set_option maxHeartbeats 6400000 in
theorem Qz (w:World)(B:Nat)(h:Hd)(rv:Value)(hra:RecsAt w B rv h.recs)(hl:h.recs.length≤2147483648) :
  Calls Tryz.prog 31 #[.agg (Bu h rv).toArray] w fun e w'=>(∃rv',e=.returned (.agg (Bd h rv').toArray)∧Hid (OwnR 136 w' w.heap.size rv' h.recs))∧Kp (fun _=>False) w w':=by
 have HRO:=fun W (k:Kp (fun _=>False) w W)=>hid (Oj W B rv h.recs (hra.keep k (fun _ h=>h.elim)) hl);obtain⟨A,c,rfl⟩:=hra.shape;obtain⟨hv,hhv⟩:∃hv:Array Value,(Bu h (.slice A h.recs.length c)).toArray=hv:=⟨_,rfl⟩;rw[hhv];clear hra;go_enter Tryz.func31,Tryz.ntmps31
 go_upto_region 1 with fail
 refine Ib ?_;intro wB g1 g2 kB sB;rw[←hhv] at g1;clear hhv;have S0:PlS w h (.slice A h.recs.length c) wB.drew:=⟨g1,⟨_,by rfl,g2⟩,kB.drew⟩
 clear g1 g2 kB sB;refine wp_region_held_drew (S:=PlS w h (.slice A h.recs.length c)) (by kernel_rfl) ?_ (fun hHeld=>?_)
 ·exact S0
 clear S0;refine wpAnyH_take (i:=0) (v:=?_) rfl (by kernel_rfl) (by kernel_rfl) (by kernel_rfl) (fun _ _ _ h=>h) (Or.inl ⟨by rfl,?_⟩) (by assumption) ?_
 rotate_left 1
 ·intro W hSw;go_simp;(try with_reducible rfl)
 try simp only[Act.put,sA,sB,sC]
 refine wpAnyH_take (i:=1) (v:=?_) rfl (by kernel_rfl) (by kernel_rfl) (by kernel_rfl) (fun _ _ _ h=>h) (Or.inl ⟨by rfl,?_⟩) (by assumption) ?_
 rotate_left 1
 ·intro W hSw;have c0:W.cell? ⟨w.heap.size,0,none⟩=some (.int .u8 (h.typ.toNat:Int)):=hSw.cell 0 rfl;clear hSw;go_simp;(try with_reducible rfl)
 try simp only[Act.put,sA,sB,sC]
 refine wpAnyH_take (i:=2) (v:=?_) rfl (by kernel_rfl) (by kernel_rfl) (by kernel_rfl) (fun _ _ _ h=>h) (Or.inl ⟨by rfl,?_⟩) (by assumption) ?_
 rotate_left 1
 ·intro W hSw;go_simp;(try with_reducible rfl)
 try simp only[Act.put,sA,sB,sC]
 refine wpAnyH_take (i:=3) (v:=?_) rfl (by kernel_rfl) (by kernel_rfl) (by kernel_rfl) (fun _ _ _ h=>h) (Or.inl ⟨by rfl,?_⟩) (by assumption) ?_
 rotate_left 1
 ·intro W hSw;have c1:W.cell? ⟨w.heap.size,1,none⟩=some (.string ⟨h.name.toArray⟩):=hSw.cell 1 rfl;clear hSw;go_simp;(try with_reducible rfl)
 try simp only[Act.put,sA,sB,sC]
 refine wpAnyH_take (i:=4) (v:=?_) rfl (by kernel_rfl) (by kernel_rfl) (by kernel_rfl) (fun _ _ _ h=>h) (Or.inl ⟨by rfl,?_⟩) (by assumption) ?_
 rotate_left 1
 ·intro W hSw;go_simp;(try with_reducible rfl)
 try simp only[Act.put,sA,sB,sC]
 refine wpAnyH_take (i:=5) (v:=?_) rfl (by kernel_rfl) (by kernel_rfl) (by kernel_rfl) (fun _ _ _ h=>h) (Or.inl ⟨by rfl,?_⟩) (by assumption) ?_
 rotate_left 1
 ·intro W hSw;have c2:W.cell? ⟨w.heap.size,2,none⟩=some (.string ⟨h.link.toArray⟩):=hSw.cell 2 rfl;clear hSw;go_simp;(try with_reducible rfl)
 try simp only[Act.put,sA,sB,sC]
 refine wpAnyH_take (i:=6) (v:=?_) rfl (by kernel_rfl) (by kernel_rfl) (by kernel_rfl) (fun _ _ _ h=>h) (Or.inl ⟨by rfl,?_⟩) (by assumption) ?_
 rotate_left 1
 ·intro W hSw;go_simp;(try with_reducible rfl)
 try simp only[Act.put,sA,sB,sC]
 refine wpAnyH_take (i:=7) (v:=?_) rfl (by kernel_rfl) (by kernel_rfl) (by kernel_rfl) (fun _ _ _ h=>h) (Or.inl ⟨by rfl,?_⟩) (by assumption) ?_
 rotate_left 1
 ·intro W hSw;have c3:W.cell? ⟨w.heap.size,3,none⟩=some (.int .i64 h.size):=hSw.cell 3 rfl;clear hSw;go_simp;(try with_reducible rfl)
 try simp only[Act.put,sA,sB,sC]
 refine wpAnyH_take (i:=8) (v:=?_) rfl (by kernel_rfl) (by kernel_rfl) (by kernel_rfl) (fun _ _ _ h=>h) (Or.inl ⟨by rfl,?_⟩) (by assumption) ?_
 rotate_left 1
 ·intro W hSw;go_simp;(try with_reducible rfl)
 try simp only[Act.put,sA,sB,sC]
 refine wpAnyH_take (i:=9) (v:=?_) rfl (by kernel_rfl) (by kernel_rfl) (by kernel_rfl) (fun _ _ _ h=>h) (Or.inl ⟨by rfl,?_⟩) (by assumption) ?_
 rotate_left 1
 ·intro W hSw;have c4:W.cell? ⟨w.heap.size,4,none⟩=some (.int .i64 h.mode):=hSw.cell 4 rfl;clear hSw;go_simp;(try with_reducible rfl)
 try simp only[Act.put,sA,sB,sC]
 refine wpAnyH_take (i:=10) (v:=?_) rfl (by kernel_rfl) (by kernel_rfl) (by kernel_rfl) (fun _ _ _ h=>h) (Or.inl ⟨by rfl,?_⟩) (by assumption) ?_
 rotate_left 1
 ·intro W hSw;go_simp;(try with_reducible rfl)
 try simp only[Act.put,sA,sB,sC]
 refine wpAnyH_take (i:=11) (v:=?_) rfl (by kernel_rfl) (by kernel_rfl) (by kernel_rfl) (fun _ _ _ h=>h) (Or.inl ⟨by rfl,?_⟩) (by assumption) ?_
 rotate_left 1
 ·intro W hSw;have c5:W.cell? ⟨w.heap.size,5,none⟩=some (.int .i64 h.uid):=hSw.cell 5 rfl;clear hSw;go_simp;(try with_reducible rfl)
 try simp only[Act.put,sA,sB,sC]
 refine wpAnyH_take (i:=12) (v:=?_) rfl (by kernel_rfl) (by kernel_rfl) (by kernel_rfl) (fun _ _ _ h=>h) (Or.inl ⟨by rfl,?_⟩) (by assumption) ?_
 rotate_left 1
 ·intro W hSw;go_simp;(try with_reducible rfl)
 try simp only[Act.put,sA,sB,sC]
 refine wpAnyH_take (i:=13) (v:=?_) rfl (by kernel_rfl) (by kernel_rfl) (by kernel_rfl) (fun _ _ _ h=>h) (Or.inl ⟨by rfl,?_⟩) (by assumption) ?_
 rotate_left 1
 ·intro W hSw;have c6:W.cell? ⟨w.heap.size,6,none⟩=some (.int .i64 h.gid):=hSw.cell 6 rfl;clear hSw;go_simp;(try with_reducible rfl)
 try simp only[Act.put,sA,sB,sC]
 refine wpAnyH_take (i:=14) (v:=?_) rfl (by kernel_rfl) (by kernel_rfl) (by kernel_rfl) (fun _ _ _ h=>h) (Or.inl ⟨by rfl,?_⟩) (by assumption) ?_
 rotate_left 1
 ·intro W hSw;go_simp;(try with_reducible rfl)
 try simp only[Act.put,sA,sB,sC]
 refine wpAnyH_take (i:=15) (v:=?_) rfl (by kernel_rfl) (by kernel_rfl) (by kernel_rfl) (fun _ _ _ h=>h) (Or.inl ⟨by rfl,?_⟩) (by assumption) ?_
 rotate_left 1
 ·intro W hSw;have c7:W.cell? ⟨w.heap.size,7,none⟩=some (.string ⟨h.un.toArray⟩):=hSw.cell 7 rfl;clear hSw;go_simp;(try with_reducible rfl)
 try simp only[Act.put,sA,sB,sC]
 refine wpAnyH_take (i:=16) (v:=?_) rfl (by kernel_rfl) (by kernel_rfl) (by kernel_rfl) (fun _ _ _ h=>h) (Or.inl ⟨by rfl,?_⟩) (by assumption) ?_
 rotate_left 1
 ·intro W hSw;go_simp;(try with_reducible rfl)
 try simp only[Act.put,sA,sB,sC]
 refine wpAnyH_take (i:=17) (v:=?_) rfl (by kernel_rfl) (by kernel_rfl) (by kernel_rfl) (fun _ _ _ h=>h) (Or.inl ⟨by rfl,?_⟩) (by assumption) ?_
 rotate_left 1
 ·intro W hSw;have c8:W.cell? ⟨w.heap.size,8,none⟩=some (.string ⟨h.gn.toArray⟩):=hSw.cell 8 rfl;clear hSw;go_simp;(try with_reducible rfl)
 try simp only[Act.put,sA,sB,sC]
 refine wpAnyH_take (i:=18) (v:=?_) rfl (by kernel_rfl) (by kernel_rfl) (by kernel_rfl) (fun _ _ _ h=>h) (Or.inl ⟨by rfl,?_⟩) (by assumption) ?_
 rotate_left 1
 ·intro W hSw;go_simp;(try with_reducible rfl)
 try simp only[Act.put,sA,sB,sC]
 refine wpAnyH_take (i:=19) (v:=?_) rfl (by kernel_rfl) (by kernel_rfl) (by kernel_rfl) (fun _ _ _ h=>h) (Or.inl ⟨by rfl,?_⟩) (by assumption) ?_
 rotate_left 1
 ·intro W hSw;have c9:W.cell? ⟨w.heap.size,9,none⟩=some (.int .i64 h.ms):=hSw.cell 9 rfl;have c10:W.cell? ⟨w.heap.size,10,none⟩=some (.int .i64 h.mn):=hSw.cell 10 rfl;clear hSw;go_simp;(try with_reducible rfl)
 try simp only[Act.put,sA,sB,sC]
 refine wpAnyH_take (i:=20) (v:=?_) rfl (by kernel_rfl) (by kernel_rfl) (by kernel_rfl) (fun _ _ _ h=>h) (Or.inl ⟨by rfl,?_⟩) (by assumption) ?_
 rotate_left 1
 ·intro W hSw;go_simp;(try with_reducible rfl)
 try simp only[Act.put,sA,sB,sC]
 refine wpAnyH_take (i:=21) (v:=?_) rfl (by kernel_rfl) (by kernel_rfl) (by kernel_rfl) (fun _ _ _ h=>h) (Or.inl ⟨by rfl,?_⟩) (by assumption) ?_
 rotate_left 1
 ·intro W hSw;have c11:W.cell? ⟨w.heap.size,11,none⟩=some (.bool h.hasA):=hSw.cell 11 rfl;clear hSw;go_simp;(try with_reducible rfl)
 try simp only[Act.put,sA,sB,sC]
 refine wpAnyH_take (i:=22) (v:=?_) rfl (by kernel_rfl) (by kernel_rfl) (by kernel_rfl) (fun _ _ _ h=>h) (Or.inl ⟨by rfl,?_⟩) (by assumption) ?_
 rotate_left 1
 ·intro W hSw;go_simp;(try with_reducible rfl)
 try simp only[Act.put,sA,sB,sC]
 refine wpAnyH_take (i:=23) (v:=?_) rfl (by kernel_rfl) (by kernel_rfl) (by kernel_rfl) (fun _ _ _ h=>h) (Or.inl ⟨by rfl,?_⟩) (by assumption) ?_
 rotate_left 1
 ·intro W hSw;have c12:W.cell? ⟨w.heap.size,12,none⟩=some (.int .i64 h.ats):=hSw.cell 12 rfl;have c13:W.cell? ⟨w.heap.size,13,none⟩=some (.int .i64 h.atn):=hSw.cell 13 rfl;clear hSw;go_simp;(try with_reducible rfl)
 try simp only[Act.put,sA,sB,sC]
 refine wpAnyH_take (i:=24) (v:=?_) rfl (by kernel_rfl) (by kernel_rfl) (by kernel_rfl) (fun _ _ _ h=>h) (Or.inl ⟨by rfl,?_⟩) (by assumption) ?_
 rotate_left 1
 ·intro W hSw;go_simp;(try with_reducible rfl)
 try simp only[Act.put,sA,sB,sC]
 refine wpAnyH_take (i:=25) (v:=?_) rfl (by kernel_rfl) (by kernel_rfl) (by kernel_rfl) (fun _ _ _ h=>h) (Or.inl ⟨by rfl,?_⟩) (by assumption) ?_
 rotate_left 1
 ·intro W hSw;have c14:W.cell? ⟨w.heap.size,14,none⟩=some (.bool h.hasC):=hSw.cell 14 rfl;clear hSw;go_simp;(try with_reducible rfl)
 try simp only[Act.put,sA,sB,sC]
 refine wpAnyH_take (i:=26) (v:=?_) rfl (by kernel_rfl) (by kernel_rfl) (by kernel_rfl) (fun _ _ _ h=>h) (Or.inl ⟨by rfl,?_⟩) (by assumption) ?_
 rotate_left 1
 ·intro W hSw;go_simp;(try with_reducible rfl)
 try simp only[Act.put,sA,sB,sC]
 refine wpAnyH_take (i:=27) (v:=?_) rfl (by kernel_rfl) (by kernel_rfl) (by kernel_rfl) (fun _ _ _ h=>h) (Or.inl ⟨by rfl,?_⟩) (by assumption) ?_
 rotate_left 1
 ·intro W hSw;have c15:W.cell? ⟨w.heap.size,15,none⟩=some (.int .i64 h.cts):=hSw.cell 15 rfl;have c16:W.cell? ⟨w.heap.size,16,none⟩=some (.int .i64 h.ctn):=hSw.cell 16 rfl;clear hSw;go_simp;(try with_reducible rfl)
 try simp only[Act.put,sA,sB,sC]
 refine wpAnyH_take (i:=28) (v:=?_) rfl (by kernel_rfl) (by kernel_rfl) (by kernel_rfl) (fun _ _ _ h=>h) (Or.inl ⟨by rfl,?_⟩) (by assumption) ?_
 rotate_left 1
 ·intro W hSw;go_simp;(try with_reducible rfl)
 try simp only[Act.put,sA,sB,sC]
 refine wpAnyH_take (i:=29) (v:=?_) rfl (by kernel_rfl) (by kernel_rfl) (by kernel_rfl) (fun _ _ _ h=>h) (Or.inl ⟨by rfl,?_⟩) (by assumption) ?_
 rotate_left 1
 ·intro W hSw;have c17:W.cell? ⟨w.heap.size,17,none⟩=some (.int .i64 h.maj):=hSw.cell 17 rfl;clear hSw;go_simp;(try with_reducible rfl)
 try simp only[Act.put,sA,sB,sC]
 refine wpAnyH_take (i:=30) (v:=?_) rfl (by kernel_rfl) (by kernel_rfl) (by kernel_rfl) (fun _ _ _ h=>h) (Or.inl ⟨by rfl,?_⟩) (by assumption) ?_
 rotate_left 1
 ·intro W hSw;go_simp;(try with_reducible rfl)
 try simp only[Act.put,sA,sB,sC]
 refine wpAnyH_take (i:=31) (v:=?_) rfl (by kernel_rfl) (by kernel_rfl) (by kernel_rfl) (fun _ _ _ h=>h) (Or.inl ⟨by rfl,?_⟩) (by assumption) ?_
 rotate_left 1
 ·intro W hSw;have c18:W.cell? ⟨w.heap.size,18,none⟩=some (.int .i64 h.min):=hSw.cell 18 rfl;clear hSw;go_simp;(try with_reducible rfl)
 try simp only[Act.put,sA,sB,sC]
 refine wpAnyH_take (i:=32) (v:=?_) rfl (by kernel_rfl) (by kernel_rfl) (by kernel_rfl) (fun _ _ _ h=>h) (Or.inl ⟨by rfl,?_⟩) (by assumption) ?_
 rotate_left 1
 ·intro W hSw;go_simp;(try with_reducible rfl)
 try simp only[Act.put,sA,sB,sC]
 refine wpAnyH_take (i:=33) (v:=?_) rfl (by kernel_rfl) (by kernel_rfl) (by kernel_rfl) (fun _ _ _ h=>h) (Or.inl ⟨by rfl,?_⟩) (by assumption) ?_
 rotate_left 1
 ·intro W hSw;have c19:W.cell? ⟨w.heap.size,19,none⟩=some (.slice A h.recs.length c):=hSw.cell 19 rfl;clear hSw;go_simp;(try with_reducible rfl)
 try simp only[Act.put,sA,sB,sC]
 refine wpAnyH_take (i:=35) (v:=?_) rfl (by kernel_rfl) (by kernel_rfl) (by kernel_rfl) (fun _ _ _ h=>h) (Or.inl ⟨by rfl,?_⟩) (by assumption) ?_
 rotate_left 1
 ·intro W hSw;go_simp;(try with_reducible rfl)
 try simp only[Act.put,sA,sB,sC]
 refine wpAnyH_take (i:=36) (v:=?_) rfl (by kernel_rfl) (by kernel_rfl) (by kernel_rfl) (fun _ _ _ h=>h) (Or.inl ⟨by rfl,?_⟩) (by assumption) ?_
 rotate_left 1
 ·intro W hSw;have c20:W.cell? ⟨w.heap.size,20,none⟩=some (.int .i64 h.fmt):=hSw.cell 20 rfl;clear hSw;go_simp;(try with_reducible rfl)
 try simp only[Act.put,sA,sB,sC]
 refine wpAnyH_ready (rs:=[34]) (by decide +kernel) (by simp) ?_
 refine AllReadyH.cons (o:=_) rfl (fun K hK=>?_) AllReadyH.nil;go_simp;go_at_call 58
 refine(HRO _ hHeld.kp).out.mono ?_;rintro e w1 ⟨⟨rv',rfl,ho⟩,k1⟩;replace ho:=hid (ho.out.lower hHeld.size);go_wp2_with fail
 refine hK.out _ _ ?_ (fun hHeld=>?_)
 ·exact hHeld.grow k1
 clear hK K;try simp only[Act.put,sA,sB,sC]
 obtain⟨A',c',rfl⟩:=ho.out.at_.shape;refine wpAnyH_ready (rs:=[37]) (by decide +kernel) (by simp) ?_
 refine AllReadyH.cons (o:=_) rfl (fun K hK=>?_) AllReadyH.nil;go_simp;refine hK.out _ _ ?_ (fun hHeld=>?_)
 ·exact hHeld
 clear hK K;try simp only[Act.put,sA,sB,sC]
 have ONE:=hid (Qy (h:=h) (rv:=.slice A' h.recs.length c') ho.out.one);refine wpAnyH_ready (rs:=[38]) (by decide +kernel) (by simp) ?_
 refine AllReadyH.cons (o:=_) rfl (fun K hK=>?_) AllReadyH.nil;rw[if_pos (by rfl)]
 obtain⟨cs,hcs,hg2⟩:=hHeld.own;have T:=Ga hg2 (n:=21) (by omega)
 have ⟨S9,FIN⟩:=hHeld.store ho.out;replace FIN:=hid FIN;clear hg2 hcs k1 ho HRO;refine wp_store_mid 45 (.tmp 2) (.tmp 40) rfl (w.heap.size+1) 0 (Bd h (.slice A' h.recs.length c')).toArray rfl rfl T (by kernel_rfl) (all_oneCell_toArray ONE.out) ?_
 refine hK.out _ _ ?_ (fun hHeld=>?_)
 ·exact S9
 clear hK K S9 T;try simp only[Act.put,sA,sB,sC]
 refine wpAnyH_done (by decide +kernel) ?_ _
 clear hHeld;go_wp2_with fail
 exact bodyPost_ret (results_cell_row rfl _ _ (w.heap.size+1) 45 (Bd h (.slice A' h.recs.length c')).toArray (0,0) _ rfl FIN.out.1 Tryz.underlying45 rfl (by kernel_rfl)) rfl ⟨⟨(.slice A' h.recs.length c'),rfl,FIN.out.2.1⟩,FIN.out.2.2⟩
end Go.Proofs.YtgfcnjfmmjcodaaGreatDoor
