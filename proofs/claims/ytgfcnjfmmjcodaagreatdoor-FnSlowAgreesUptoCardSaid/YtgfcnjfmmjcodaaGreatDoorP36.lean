/- A file's reader, which may be cut. -/
import Derived.Test.YtgfcnjfmmjcodaaGreatDoorP16
set_option linter.all false
set_option maxRecDepth 100000
set_option maxHeartbeats 1000000
open Go.Lib (hid)
namespace Go.Proofs.YtgfcnjfmmjcodaaGreatDoor
open Go Go.RowKit
section
def RegN (R:Nat)(T:TypeId)(v:Value)(S:Nat→Prop)(inv:World→Nat→List UInt8→Prop)(tl:List UInt8)(nb:Nat)(w:World)(g:Nat)(rest:List UInt8):Prop:=
 ∃(src:List UInt8),inv w 0 src∧w.heap[R]?=some (.cells #[.iface T v, .int .i64 nb] 152 (0,0))∧¬S R∧rest=src.take nb∧g=I0 nb src.length∧nb≤4611686018427387904∧src.drop nb=tl
theorem RegN.foot {R:Nat}{T:TypeId}{v:Value}{S:Nat→Prop}{inv:World→Nat→List UInt8→Prop}{E:Nat→Addr}{B:Nat}(hR:IsRd E B T v S inv){tl:List UInt8}{nb:Nat}{w:World}{g:Nat}{rest:List UInt8}(h:RegN R T v S inv tl nb w g rest):(g=0∨g=5)∧∀k,(S k∨k=R)→k<w.heap.size:=by
 obtain⟨src,hi,hr,hS,rfl,rfl,hm,hx⟩:=h;refine⟨by unfold I0;split<;>simp,?_⟩
 rintro k (h|rfl)
 ·exact(hR.foot hi).2 k h
 ·exact Bv hr
theorem RegN.frame {R:Nat}{T:TypeId}{v:Value}{S:Nat→Prop}{inv:World→Nat→List UInt8→Prop}{E:Nat→Addr}{B:Nat}(hR:IsRd E B T v S inv){tl:List UInt8}{nb:Nat}{w w':World}{g:Nat}{rest:List UInt8}(h:RegN R T v S inv tl nb w g rest)(hk:∀k,(S k∨k=R)→w'.heap[k]?=w.heap[k]?):RegN R T v S inv tl nb w' g rest:=by
 obtain⟨src,hi,hr,h⟩:=h;exact⟨src,hR.frame hi fun k h=>hk k (.inl h),(hk R (.inr rfl)).trans hr,h⟩
def Bip (E:Nat→Addr)(S:Nat→Prop)(inv:Nat→World→Nat→List UInt8→Prop)(nb:Nat)(w:World)(g:Nat)(rest:List UInt8)(b off n:Nat)(cur:List Value)(t:TypeId)(e:Ending)(w':World):Prop:=
 ∃(m:Nat) (err:Value),e=.returned (.tuple #[.int .i64 m,err])∧m≤n∧m≤rest.length∧(err=.nilIface∧1≤m∧(g=0→m<rest.length)∨err=By (E g)∧m=rest.length) ∧
  Kp (fun k=>S k∨k=b) w w'∧w'.heap[b]?=some (.cells (splice cur off (ubs (rest.take m))).toArray t (0,0))∧m≤nb∧inv (nb-m) w' g (rest.drop m)
theorem Bhb {tl:List UInt8}{E:Nat→Addr}{B:Nat}{T:TypeId}{v:Value}{S:Nat→Prop}{inv:World→Nat→List UInt8→Prop}(hR:IsRd E B T v S inv)
  (w:World) (R b off n c nb:Nat) (t:TypeId) (cur:List Value) (src:List UInt8) (hG:Glob E B w) (hi:inv w 0 src)
  (hr:w.heap[R]?=some (.cells #[.iface T v, .int .i64 nb] 152 (0,0))) (hnb:1≤nb) (hnbm:nb≤4611686018427387904) (htl:src.drop nb=tl) (hSR:¬S R) (hBR:B≤R)
  (hn:1≤n) (hnm:n≤281474976710656) (hb:w.heap[b]?=some (.cells cur.toArray t (0,0))) (hfit:off+n≤cur.length) (hnc:n≤c) (hbS:¬S b) (hbB:B≤b) (hbR:R≠b) :
  Calls Tryz.prog 380 #[.pointer (some ⟨R,0,none⟩), .slice (some ⟨b,off,none⟩) n c] w
   (Bip E (fun k=>S k∨k=R) (RegN R T v S inv tl) nb w (I0 nb src.length) (src.take nb) b off n cur t):=by
 have HTL:=hid htl;clear htl;have c0:=cell_of hr 0 rfl;have c1:=cell_of hr 1 rfl;have f1:=Bb hr 1;obtain⟨f,recv,hm,hna,hcf,hrd⟩:=hR.reads;have H:=hid hrd;clear hrd;by_cases hlt:nb<n
 all_goals
  have hnb2:nb<n→nb≤c:=by omega
  go_enter Tryz.func380,Tryz.ntmps380
  go_wp2_with fail
  first
   |((with_reducible refine(H.out w 0 src b off nb c cur t hG hi hnb (by omega) hb (by omega) (by omega) hbS hbB).mono ?_))
   |((with_reducible refine(H.out w 0 src b off n c cur t hG hi hn hnm hb hfit hnc hbS hbB).mono ?_))
  rintro e w1 ⟨m,err,rfl,hmn,hml,hcase,hk,hb1,hi1⟩;have hG1:=hG.keep hk (by rintro k (h|rfl);exact hR.low _ h;exact hbB)
  have hr1:=hk.heap hr (by rintro(h|h);exact hSR h;exact hbR h)
  have hE1:=hG1.eof;have hU1:=hG1.unexp;have d1:=cell_of hr1 1 rfl;have e1:=Bb hr1 1;clear c0 c1 f1;have hmnb:m≤nb:=by omega
  have hkp:∀n1,Kp (fun k=>(S k∨k=R)∨k=b) w ((w1.setCell ⟨R,1,none⟩ (.int .i64 ((nb:Int)-m))).drewN n1):=fun n1=>
   (Kp.drewN (Kp.setCell (hk.mono (by rintro k _ (h|h);exact .inl (.inl h);exact .inr h)) (.inl (.inl (.inr rfl))) _) n1)
  have hbb:∀n1,((w1.setCell ⟨R,1,none⟩ (.int .i64 ((nb:Int)-m))).drewN n1).heap[b]?=some (.cells (splice cur off (ubs ((src.take nb).take m))).toArray t (0,0)):=fun n1=>by
   rw[List.take_take,Nat.min_eq_left hmnb];exact heap_drewN (Ci hb1 _ _ (Ne.symm hbR)) n1
  have hinv:∀n1,m≤nb∧RegN R T v S inv tl (nb-m) ((w1.setCell ⟨R,1,none⟩ (.int .i64 ((nb:Int)-m))).drewN n1) (I0 nb src.length) ((src.take nb).drop m):=fun n1=>by
   refine⟨hmnb,src.drop m,hR.frame hi1 fun k hk=>?_,?_,hSR,?_,?_,by omega,by rw[List.drop_drop,show m+(nb-m)=nb by omega];exact HTL.out⟩
   ·show ((w1.setCell _ _).heap[k]?:Option Obj)=_;rw[Below.heap_setCell _ _ _ _ (fun h=>hSR (by have:k=R:=h;exact this▸hk))]
   ·(rw[show ((nb-m:Nat):Int)=(nb:Int)-(m:Int) by omega]);exact heap_drewN (heap_set hr1 1 _) n1
   ·rw[List.drop_take]
   ·rw[List.length_drop];unfold I0;congr 1;simp;omega
  rcases hcase with ⟨rfl,h1⟩|⟨rfl,h2⟩
  ·by_cases hz:m=nb
   ·(have hz1:((nb:Int)-(m:Int)==0)=true:=by rw[beq_iff_eq];omega);have Hz:=hid hz;clear hz;(go_wp2_with fail);(go_quiet (fail));(go_wp2_with fail);(go_ret2);exact⟨m,By (E 0),rfl,by omega,by rw[List.length_take];omega, .inr ⟨by rw[Ey (by have:=Hz.out;omega)],by rw[List.length_take];have:=Hz.out;omega⟩,hkp _,hbb _,hinv _⟩
   ·(have hz1:((nb:Int)-(m:Int)==0)=false:=by rw[beq_eq_false_iff_ne];omega);have Hz:=hid hz;clear hz;(go_wp2_with fail);(go_ret2);exact⟨m, .nilIface,rfl,by omega,by rw[List.length_take];omega, .inl ⟨rfl,h1,fun hg=>by have h3:=Hz.out;rw[List.length_take];unfold I0 at hg;split at hg<;>omega⟩,hkp 0,hbb 0,hinv 0⟩
  ·have H2:=hid h2;clear h2;by_cases hz:m=nb
   ·(have hz1:¬0<(nb:Int)-(m:Int):=by omega);have Hz:=hid hz;clear hz;(go_wp2_with fail);(go_ret2);exact⟨m,By (E 0),rfl,by omega,by rw[List.length_take];omega, .inr ⟨by rw[Ey (by have:=H2.out;have:=Hz.out;omega)],by rw[List.length_take];have:=Hz.out;have:=H2.out;omega⟩,hkp 0,hbb 0,hinv 0⟩
   ·(have hz1:0<(nb:Int)-(m:Int):=by omega);(go_wp2_with fail);(go_quiet (fail));(go_wp2_with fail);(go_ret2);exact⟨m,By (E 5),rfl,by omega,by rw[List.length_take];omega, .inr ⟨by rw[Ho (by have:=H2.out;omega)],by rw[List.length_take];have:=H2.out;omega⟩,hkp _,hbb _,hinv _⟩
theorem Bh7 {tl:List UInt8}{E:Nat→Addr}{B:Nat}{T:TypeId}{v:Value}{S:Nat→Prop}{inv:World→Nat→List UInt8→Prop}(hR:IsRd E B T v S inv)
  (w:World) (R b off n c g nb:Nat) (t:TypeId) (cur:List Value) (r:List UInt8) (hG:Glob E B w) (hi:RegN R T v S inv tl nb w g r) (hBR:B≤R)
  (hn:1≤n) (hnm:n≤281474976710656) (hb:w.heap[b]?=some (.cells cur.toArray t (0,0))) (hfit:off+n≤cur.length) (hnc:n≤c) (hbS:¬(S b∨b=R)) (hbB:B≤b) :
  Calls Tryz.prog 380 #[.pointer (some ⟨R,0,none⟩), .slice (some ⟨b,off,none⟩) n c] w (Bip E (fun k=>S k∨k=R) (RegN R T v S inv tl) nb w g r b off n cur t):=by
 obtain⟨src,hi,hr,hS,rfl,rfl,hm,hx⟩:=hi;by_cases h0:nb=0
 ·subst h0;refine(Rc w R n c ⟨b,off,none⟩ _ 152 (E 0) hr hG.eof).mono ?_;rintro e w' ⟨rfl,k,rfl⟩;refine⟨0,By (E 0),rfl,by omega,by omega, .inr ⟨rfl,rfl⟩,(Kp.refl _ _).drewN k,by simpa[splice,ubs] using heap_drewN hb k,Nat.le_refl _,src,hR.frame hi fun _ _=>rfl,heap_drewN hr k,hS,rfl,rfl,hm,hx⟩
 ·exact Bhb hR w R b off n c nb t cur src hG hi hr (by omega) hm hx hS hBR hn hnm hb hfit hnc (fun h=>hbS (.inl h)) hbB (fun h=>hbS (.inr h.symm))
structure InG (E:Nat→Addr)(B:Nat)(T:TypeId)(v:Value)(S:Nat→Prop)(inv:World→Nat→List UInt8→Prop)(R Rf pad nb g:Nat)(rest tl:List UInt8)(w:World):Prop where
 rd:RegN Rf T v S inv tl nb w g rest
 lim:nb≤1048576
 out:¬(S R∨R=Rf)
 row:∃blk,blk.length=512∧w.heap[R]?=some (.cells (Cz (.iface T v) (pad:Int) (.iface 150 (.pointer (some ⟨Rf,0,none⟩))) blk .nilIface).toArray 158 (0,0))
 glob:Glob E B w
 tabs:Lib.Utf8Tabs 14 15 w
 low:16≤B
 above:B≤R
 aboveF:B≤Rf
section
variable {E:Nat→Addr} {B:Nat} {T:TypeId} {v:Value} {S:Nat→Prop} {inv:World→Nat→List UInt8→Prop} {R Rf pad nb g:Nat} {rest tl src:List UInt8} {w w':World}
theorem InG.of {n:Nat}{blk:List Value}(h:RhIn E B T v S inv R (pad:Int) (.iface 150 (.pointer (some ⟨Rf,0,none⟩))) blk .nilIface src w)(hf:w.heap[Rf]?=some (.cells #[.iface T v, .int .i64 n] 152 (0,0)))
  (hS:¬S Rf) (hB:B≤Rf) (hn:n≤1048576):InG E B T v S inv R Rf pad n (I0 n src.length) (src.take n) (src.drop n) w:=by
 have hne:R≠Rf:=by
  intro e;have:=h.row;rw[e,hf] at this;injection this with this
  injection this with _ this
  cases this
 refine⟨⟨src,h.rd,hf,hS,rfl,rfl,by omega,rfl⟩,hn,?_,⟨blk,h.blen,h.row⟩,h.glob,h.tabs,h.low,h.above,hB⟩
 rintro(h1|h1)
 ·exact h.out h1
 ·exact hne h1
theorem InG.nxin (h:InG E B T v S inv R Rf pad nb g rest tl w)(hp:pad≤512):(g=0→nb=rest.length)∧(g≠0→rest.length<nb)∧Bad E B T v S inv R nb pad (rest++tl) w:=by
 obtain⟨src,h1,h2,h3,h4,h5,h6,h7⟩:=h.rd;obtain⟨blk,hb,h9⟩:=h.row;have hlim:=h.lim;have hsrc:src=rest++tl:=by rw[h4,←h7,List.take_append_drop]
 have hrl:rest.length=min nb src.length:=by rw[h4,List.length_take]
 rw[hsrc] at h1;refine⟨fun hg=>?_,fun hg=>?_,_,blk,⟨h.glob,h.tabs,h.low,h1,h9,hb,fun hS=>h.out (.inl hS),h.above⟩,K6 h2,by omega,hp⟩
 ·rw[hg] at h5;unfold I0 at h5;split at h5
  ·omega
  ·cases h5
 ·unfold I0 at h5;split at h5
  ·exact absurd h5 hg
  ·omega
theorem InG.keep {Q:Nat→Prop}(hR:IsRd E B T v S inv)(h:InG E B T v S inv R Rf pad nb g rest tl w)(k:Kp Q w w')(hQ:∀i,Q i→¬S i∧i≠Rf∧i≠R∧B≤i):InG E B T v S inv R Rf pad nb g rest tl w':=by
 obtain⟨blk,hb,hr⟩:=h.row;have h16:=h.low;refine⟨h.rd.frame hR fun b hs=>k.block b ((h.rd.foot hR).2 b hs) fun hq=>?_,h.lim,h.out,⟨blk,hb,k.heap hr fun hq=>(hQ _ hq).2.2.1 rfl⟩,h.glob.keep k (fun b hb=>(hQ b hb).2.2.2),Utf8Tabs.keep h.tabs k (fun h1=>by have:=(hQ _ h1).2.2.2;omega) (fun h1=>by have:=(hQ _ h1).2.2.2;omega),h.low,h.above,h.aboveF⟩
 obtain⟨q1,q2,q3,_⟩:=hQ b hq;rcases hs with hs|hs
 ·exact q1 hs
 ·exact q2 hs
theorem InG.lt (hR:IsRd E B T v S inv)(h:InG E B T v S inv R Rf pad nb g rest tl w):∀k,((S k∨k=Rf)∨k=R)→k<w.heap.size:=by
 obtain⟨blk,hb,hr⟩:=h.row;rintro k (hk|rfl)
 ·exact(h.rd.foot hR).2 k hk
 ·exact Bv hr
def RdX (E:Nat→Addr)(B:Nat)(T:TypeId)(v:Value)(S:Nat→Prop)(inv:World→Nat→List UInt8→Prop)(R Rf pad nb g:Nat)(rest tl:List UInt8)(w:World)(b n:Nat)(cur:List Value)(t:TypeId)(e:Ending)(w':World):Prop:=
 ∃(m:Nat) (err:Value),e=.returned (.tuple #[.int .i64 m,err])∧m≤n∧m≤rest.length∧(err=.nilIface∧1≤m∧(g=0→m<rest.length)∨err=By (E g)∧m=rest.length) ∧
  Kp (fun k=>((S k∨k=Rf)∨k=R)∨k=b) w w'∧w'.heap[b]?=some (.cells (splice cur 0 (ubs (rest.take m))).toArray t (0,0))∧Glob E B w'∧m≤nb∧(g=0∨err=.nilIface→InG E B T v S inv R Rf pad (nb-m) g (rest.drop m) tl w')
theorem InG.read (hR:IsRd E B T v S inv)(h:InG E B T v S inv R Rf pad nb g rest tl w)(b n c:Nat)(t:TypeId)(cur:List Value)(hn:1≤n)(hnm:n≤281474976710656)
  (hb:w.heap[b]?=some (.cells cur.toArray t (0,0))) (hfit:n≤cur.length) (hnc:n≤c) (hbS:¬((S b∨b=Rf)∨b=R)) (hbB:B≤b) :
  Calls Tryz.prog 51 #[.pointer (some ⟨R,0,none⟩), .slice (some ⟨b,0,none⟩) n c] w (RdX E B T v S inv R Rf pad nb g rest tl w b n cur t):=by
 obtain⟨blk,hbl,hr⟩:=h.row;have c2:w.cell? ⟨R,2,none⟩=some (.iface 150 (.pointer (some ⟨Rf,0,none⟩))):=cell_of hr 2 rfl;have ce:=cell_of hr 515 (Iq hbl);have hF:=Ir tl hR Rf h.aboveF;have hg05:=(h.rd.foot hR).1;have hm : ∀ w, (method 560 150 (.pointer (some ⟨Rf, 0, none⟩)) "Read").run Tryz.prog w = .ok (380, .pointer (some ⟨Rf, 0, none⟩)) w := fun _ => by kernel_rfl
 have hna : ∀ w, (nilAhead 560 150 (.pointer (some ⟨Rf, 0, none⟩)) "Read").run Tryz.prog w = .ok (some false) w := fun _ => by kernel_rfl
 have hcf:∀args w,(callFunc 380 args).run Tryz.prog w=.ok (.enter 380 args) w:=fun _ _=>by kernel_rfl
 have HRD:=hid (Bh7 hR w Rf b 0 n c g nb t cur rest h.glob h.rd h.aboveF hn hnm hb (by omega) hnc (fun hs=>hbS (.inl hs)) hbB)
 have HR:=hid hR;have HH:=hid h;have HB:=hid hbl;have HBS:=hid hbS;have HROW:=hid hr;have HBB:=hid hbB;have HFI:Hid (∀(m:Nat) (w1:World),Kp (fun k=>(S k∨k=Rf)∨k=b) w w1→w1.heap[R]?=some (.cells (Cz (.iface T v) (pad:Int) (.iface 150 (.pointer (some ⟨Rf,0,none⟩))) blk .nilIface).toArray 158 (0,0))→RegN Rf T v S inv tl (nb-m) w1 g (rest.drop m)→InG E B T v S inv R Rf pad (nb-m) g (rest.drop m) tl w1):=by
  intro m w1 hk h2 h3;have h16:=h.low;have hlim:=h.lim;have hlo:∀k,((S k∨k=Rf)∨k=b)→B≤k:=by
   rintro k (h1|rfl)
   ·exact hF.low k h1
   ·exact hbB
  exact⟨h3,by omega,h.out,⟨blk,hbl,h2⟩,h.glob.keep hk hlo,Utf8Tabs.keep h.tabs hk (fun h1=>by have:=hlo _ h1;omega) (fun h1=>by have:=hlo _ h1;omega),h.low,h.above,h.aboveF⟩
 have HLOW:Hid (∀k,((S k∨k=Rf)∨k=b)→B≤k):=by
  rintro k (h1|rfl)
  ·exact hF.low k h1
  ·exact hbB
 have HOUT:=hid h.out;have HG:=hid h.glob;have HABV:=hid h.above;clear h hr hbl hbS hb hfit hF hR hbB;rcases hg05 with rfl|rfl
 all_goals
  go_enter Tryz.func51,Tryz.ntmps51
  go_wp2_with fail
  refine HRD.out.mono ?_;rintro e w1 ⟨m,err,rfl,hmn,hml,hcase,hk,hb1,hmb,hi1⟩;have HMB:=hid hmb;clear hmb;have hr1:=hk.heap HROW.out (by rintro(h|h);exact HOUT.out h;exact HBS.out (.inr h.symm))
  have hG1:=HG.out.keep hk HLOW.out;have hE1:=hG1.eof;have e1:=cell_of hr1 515 (Iq HB.out);have f1:=Bb hr1 515;clear c2 ce;have hkp:Kp (fun k=>((S k∨k=Rf)∨k=R)∨k=b) w w1:=hk.mono (by rintro k _ (h|h);exact .inl (.inl h);exact .inr h)
  have hne:=Me hG1 (g:=5) (h:=0) (by decide) (by decide) (by decide)
  rcases hcase with ⟨rfl,h1,h2⟩|⟨rfl,h2⟩
  ·have H1:=hid h1;have H2:=hid h2;clear h1 h2;(go_wp2_with fail);(go_ret2);exact⟨m, .nilIface,rfl,hmn,hml, .inl ⟨rfl,H1.out,fun h=>by first|exact H2.out h|exact H2.out trivial|cases h⟩,hkp,hb1,hG1,HMB.out,fun _=>HFI.out m w1 hk hr1 hi1⟩
  ·have H2:=hid h2;clear h2;(go_wp2_with fail);(try(rw[Iy];go_simp;go_wp2_with fail));go_ret2
   first
    |exact⟨m,By (E 0),rfl,hmn,hml, .inr ⟨rfl,H2.out⟩,hkp,hb1,hG1,HMB.out,fun _=>HFI.out m w1 hk hr1 hi1⟩
    |(refine⟨m,By (E 5),rfl,hmn,hml, .inr ⟨rfl,H2.out⟩,hkp.setCell (.inl (.inl (.inr rfl))) _,Ci hb1 _ _ (fun h=>HBS.out (.inr h)),hG1.keep (Kp.setCell (S:=(· =R)) (p:=⟨R,515,none⟩) (Kp.refl _ w1) (.inl rfl) _) (fun b hb=>by rw[hb];exact HABV.out),HMB.out,fun h=>?_⟩
      rcases h with h|h
      ·cases h
      ·cases h)
end
end
def SoInv (P D Z:Nat)(w:World)(g:Nat)(rest:List UInt8):Prop:=
 g=0∧P≠D∧P≠Z∧∃A C zv,w.heap[P]?=some (.cells #[.slice A rest.length C,zv] 121 (0,0))∧D<w.heap.size∧Z<w.heap.size∧rest.length≤C∧rest.length≤281474976710656 ∧
  (rest≠[]→∃o,A=some ⟨D,o,none⟩∧BytesAt w D o rest) ∧
  ((∃A0 c0,zv=.slice A0 0 c0)∨∃o n c,zv=.slice (some ⟨Z,o,none⟩) n c∧1≤n∧n≤c∧n≤4194304∧∀i,i<n→∃x:Int,-9223372036854775808≤x∧x≤9223372036854775807∧w.cell? ⟨Z,o+i,none⟩=some (.int .i64 x))
theorem BytesAt.of_block {w w':World}{D o:Nat}{l:List UInt8}(h:BytesAt w D o l)(e:w'.heap[D]?=w.heap[D]?):BytesAt w' D o l:=fun j u hu=>(World.cell?_of_block (w:=w) e).trans (h j u hu)
theorem Bgw {w w':World}{D:Nat}(h:D<w.heap.size)(e:w'.heap[D]?=w.heap[D]?):D<w'.heap.size:=by
 rcases Nat.lt_or_ge D w'.heap.size with h1|h1
 ·exact h1
 ·rw[Array.getElem?_eq_none h1,Array.getElem?_eq_getElem h] at e;cases e
theorem SoInv.frame {P D Z:Nat}{w w':World}{g:Nat}{rest:List UInt8}(h:SoInv P D Z w g rest)(hk:∀k,(k=P∨k=D∨k=Z)→w'.heap[k]?=w.heap[k]?):SoInv P D Z w' g rest:=by
 obtain⟨h0,h1,h2,A,C,zv,h3,h4,h5,h6,h7,h8,h9⟩:=h;have eP:=hk P (.inl rfl);have eD:=hk D (.inr (.inl rfl));have eZ:=hk Z (.inr (.inr rfl));refine⟨h0,h1,h2,A,C,zv,eP.trans h3,Bgw h4 eD,Bgw h5 eZ,h6,h7,fun hr=>?_,?_⟩
 ·obtain⟨o,e1,e2⟩:=h8 hr;exact⟨o,e1,e2.of_block eD⟩
 ·rcases h9 with h9|⟨o,n,c,e1,e2,e3,e5,e4⟩
  ·exact .inl h9
  ·refine .inr ⟨o,n,c,e1,e2,e3,e5,fun i hi=>?_⟩;obtain⟨x,x1,x2,x3⟩:=e4 i hi;exact⟨x,x1,x2,(World.cell?_of_block (w:=w) eZ).trans x3⟩
theorem Bgy {E:Nat→Addr}{P D Z:Nat}{w wS w1:World}{rest:List UInt8}{o C m n M b off:Nat}{zv':Value}{cur:List Value}{t:TypeId}{A':Option Addr}{C' N':Nat}
  (hPD:P≠D) (hPZ:P≠Z) (hPb:P≠b) (hDb:D≠b) (hZb:Z≠b) (hD:D<w.heap.size) (hZ:Z<w.heap.size) (hC:rest.length≤C) (hL:rest.length≤281474976710656) (hby:BytesAt w D o rest) (hM:M≤rest.length) (hM1:1≤M) (hn1:1≤n) (hm:min M n=m)
  (kS:Kp (fun k=>k=P) w wS) (hPS:wS.heap[P]?=some (.cells #[.slice (some ⟨D,o,none⟩) rest.length C,zv'] 121 (0,0))) (hz:(∃A0 c0,zv'=.slice A0 0 c0)∨∃o n c,zv'=.slice (some ⟨Z,o,none⟩) n c∧1≤n∧n≤c∧n≤4194304∧∀i,i<n→∃x:Int,-9223372036854775808≤x∧x≤9223372036854775807∧w.cell? ⟨Z,o+i,none⟩=some (.int .i64 x))
  (k1:Kp (fun k=>k=b) wS w1) (hb1:w1.heap[b]?=some (.cells (splice cur off (ubs (rest.take m))).toArray t (0,0))) (hA:C=m∧A'=some ⟨D,o,none⟩∨C≠m∧A'=some ⟨D,o+m,none⟩) (hC':C'=C-m) (hN':N'=rest.length-m) :
  Lx E (fun k=>k=P∨k=D∨k=Z) (SoInv P D Z) w 0 rest b off n cur t (.returned (.tuple #[.int .i64 m, .nilIface])) (w1.setCell ⟨P,0,none⟩ (.slice A' N' C')):=by
 subst hN';have hmM:m≤M:=by omega
 have hmn:m≤n:=by omega
 have hm1:1≤m:=by omega
 have kP:Kp (fun k=>k=P) w1 (w1.setCell ⟨P,0,none⟩ (.slice A' (rest.length-m) C')):=Kp.setCell (S:=(· =P)) (p:=⟨P,0,none⟩) (Kp.refl _ w1) (.inl rfl) _;have kall:Kp (fun k=>(k=P∨k=D∨k=Z)∨k=b) w (w1.setCell ⟨P,0,none⟩ (.slice A' (rest.length-m) C')):=
  (((kS.mono (S':=fun k=>(k=P∨k=D∨k=Z)∨k=b) (fun _ _ h=>.inl (.inl h))).then k1 (fun _ _ h=>.inr h)).then kP (fun _ _ h=>.inl (.inl h)))
 have eD:(w1.setCell ⟨P,0,none⟩ (.slice A' (rest.length-m) C')).heap[D]?=w.heap[D]?:=
  ((kP.block D (Nat.lt_of_lt_of_le (Nat.lt_of_lt_of_le hD kS.size) k1.size) (Ne.symm hPD)).trans (k1.block D (Nat.lt_of_lt_of_le hD kS.size) hDb)).trans (kS.block D hD (Ne.symm hPD))
 have eZ:(w1.setCell ⟨P,0,none⟩ (.slice A' (rest.length-m) C')).heap[Z]?=w.heap[Z]?:=
  ((kP.block Z (Nat.lt_of_lt_of_le (Nat.lt_of_lt_of_le hZ kS.size) k1.size) (Ne.symm hPZ)).trans (k1.block Z (Nat.lt_of_lt_of_le hZ kS.size) hZb)).trans (kS.block Z hZ (Ne.symm hPZ))
 have hlen:(rest.drop m).length=rest.length-m:=List.length_drop;have hrow:=heap_set (k1.heap hPS hPb) 0 (.slice A' (rest.length-m) C');refine⟨m, .nilIface,rfl,hmn,by omega, .inl ⟨rfl,hm1⟩,kall,Ci hb1 _ _ (Ne.symm hPb),rfl,hPD,hPZ,A',C',zv',by rw[hlen];exact hrow,Bgw hD eD,Bgw hZ eZ,by rw[hlen,hC'];omega,by rw[hlen];omega,fun hr=>?_,?_⟩
 ·have hne:C≠m:=fun e=>hr (List.eq_nil_of_length_eq_zero (by rw[hlen];omega))
  rcases hA with ⟨e,_⟩|⟨_,rfl⟩
  ·exact absurd e hne
  ·refine⟨o+m,rfl,BytesAt.of_block (w:=w) (fun j u hu=>?_) eD⟩;rw[Cy,List.getElem?_drop,←Cy] at hu;have:=hby (m+j) u hu;(rw[show o+(m+j)=o+m+j by omega] at this);exact this
 ·rcases hz with h9|⟨o,n,c,e1,e2,e3,e5,e4⟩
  ·exact .inl h9
  ·refine .inr ⟨o,n,c,e1,e2,e3,e5,fun i hi=>?_⟩;obtain⟨x,x1,x2,x3⟩:=e4 i hi;exact⟨x,x1,x2,(World.cell?_of_block (w:=w) eZ).trans x3⟩
set_option maxHeartbeats 3200000 in
theorem Bg2 {E:Nat→Addr}{B:Nat}(w:World)(hG:Glob E B w)(P D Z b off n c o C c0:Nat)(t:TypeId)(cur:List Value)(rest:List UInt8)(hPD:P≠D)(hPZ:P≠Z)(hPb:P≠b)(hDb:D≠b)(hZb:Z≠b)(hD:D<w.heap.size)(hZ:Z<w.heap.size)(hC:rest.length≤C)(hL:rest.length≤281474976710656)
  (hby:BytesAt w D o rest) (hr0:1≤rest.length) (hn:1≤n) (hnm:n≤281474976710656) (hb:w.heap[b]?=some (.cells cur.toArray t (0,0))) (hfit:off+n≤cur.length) (hnc:n≤c) (A0:Option Addr) (hP:w.heap[P]?=some (.cells #[.slice (some ⟨D,o,none⟩) rest.length C, .slice A0 0 c0] 121 (0,0))) :
  Calls Tryz.prog 375 #[.pointer (some ⟨P,0,none⟩), .slice (some ⟨b,off,none⟩) n c] w (Lx E (fun k=>k=P∨k=D∨k=Z) (SoInv P D Z) w 0 rest b off n cur t):=by
 have cc0:=cell_of hP 0 rfl;have cc1:=cell_of hP 1 rfl;have hl0:((rest.length:Int)==0)=false:=by rw[beq_eq_false_iff_ne];omega
 have hCL:(rest.length:Int)≤(C:Int):=by omega
 have hL0:(0:Int)≤(rest.length:Int):=by omega
 obtain⟨m,hm⟩:∃m,min rest.length n=m:=⟨_,rfl⟩;have HM2:=hid hm;have HBY0:=hid hby;have HBY:=hid hby;have KS:Hid (Kp (fun k=>k=P) w w):=Kp.refl _ _;have HPS:=hid hP;have HZV:Hid ((∃A1 c1,Value.slice A0 0 c0=.slice A1 0 c1)∨∃o n c,Value.slice A0 0 c0=.slice (some ⟨Z,o,none⟩) n c∧1≤n∧n≤c∧n≤4194304∧∀i,i<n→∃x:Int,-9223372036854775808≤x∧x≤9223372036854775807∧w.cell? ⟨Z,o+i,none⟩=some (.int .i64 x)):=.inl ⟨_,_,rfl⟩;have hbS0:=hb;clear hby hP hm;go_enter Tryz.func375,Tryz.ntmps375
 go_upto_region 8 with fail
 have HLN:Hid ((rest.take m).length=Nat.min rest.length n):=by
  show (rest.take m).length=min rest.length n;rw[List.length_take];have:=HM2.out;omega
 have HSR:Hid (∀(j:Nat) (v:Value),(ubs (rest.take m))[j]?=some v→(w).cell? ((⟨D,o,none⟩:Addr).add j)=some v):=by
  show ∀(j:Nat) (v:Value),_;intro j v hv;rw[add_plain'];exact HBY.out j v (by rw[Cy] at hv ⊢;rw[List.getElem?_take] at hv;split at hv;exact hv;cases hv)
 have HFT:Hid (off+(rest.take m).length≤cur.length):=by
  show off+(rest.take m).length≤cur.length;rw[List.length_take];have:=HM2.out;omega
 iterate 8 go_step
 rename_i K hK;go_simp;refine hK _ _ ?_;clear hK K;iterate 4 (go_step;rename_i K hK;(try go_simp);refine hK _ _ ?_;clear hK K)
 refine Im rfl (.tmp 48) (.tmp 54) rfl b off n c rest.length C ⟨D,o,none⟩ rfl rfl cur t hbS0 (rest.take m) HLN.out HSR.out HFT.out ?_;intro w1 hk hb1;have hlen:(rest.take m).length=m:=by rw[List.length_take];have:=HM2.out;omega
 rw[hlen];have hPS1:=hk.heap HPS.out (fun h=>hPb h);have d0:=cell_of hPS1 0 rfl;have e0:=Bb hPS1 0;have hmL:(m:Int)≤(rest.length:Int):=by have:=HM2.out;omega
 have hm0:(0:Int)≤(m:Int):=by omega
 by_cases hCm:C=m
 ·have FIN:Hid (Lx E (fun k=>k=P∨k=D∨k=Z) (SoInv P D Z) w 0 rest b off n cur t (.returned (.tuple #[.int .i64 m, .nilIface])) (w1.setCell ⟨P,0,none⟩ (.slice (some ⟨D,o,none⟩) 0 0))):=
   Bgy hPD hPZ hPb hDb hZb hD hZ hC hL HBY0.out (Nat.le_refl _) hr0 hn HM2.out KS.out HPS.out HZV.out hk hb1 (.inl ⟨hCm,rfl⟩) (by omega) (by omega)
  clear hk hb1 hPS1;subst hCm;go_wp2_with fail
  go_ret2
  exact FIN.out
 ·have FIN:Hid (Lx E (fun k=>k=P∨k=D∨k=Z) (SoInv P D Z) w 0 rest b off n cur t (.returned (.tuple #[.int .i64 m, .nilIface])) (w1.setCell ⟨P,0,none⟩ (.slice (some ⟨D,o+m,none⟩) (rest.length-m) (C-m)))):=
   Bgy hPD hPZ hPb hDb hZb hD hZ hC hL HBY0.out (Nat.le_refl _) hr0 hn HM2.out KS.out HPS.out HZV.out hk hb1 (.inr ⟨hCm,rfl⟩) rfl rfl
  clear hk hb1 hPS1;go_wp2_with fail
  go_ret2
  exact FIN.out
set_option maxHeartbeats 3200000 in
theorem Bg7 {E:Nat→Addr}{B:Nat}(w:World)(hG:Glob E B w)(P D Z b off n c o C oz nz cz:Nat)(t:TypeId)(cur:List Value)(rest:List UInt8)(hPD:P≠D)(hPZ:P≠Z)(hPb:P≠b)(hDb:D≠b)(hZb:Z≠b)(hD:D<w.heap.size)(hZ:Z<w.heap.size)(hC:rest.length≤C)(hL:rest.length≤281474976710656)
  (hby:BytesAt w D o rest) (hr0:1≤rest.length) (hn:1≤n) (hnm:n≤281474976710656) (hb:w.heap[b]?=some (.cells cur.toArray t (0,0))) (hfit:off+n≤cur.length) (hnc:n≤c) (x:Int) (hx:w.cell? ⟨Z,oz,none⟩=some (.int .i64 x)) (hP:w.heap[P]?=some (.cells #[.slice (some ⟨D,o,none⟩) rest.length C, .slice (some ⟨Z,oz,none⟩) nz cz] 121 (0,0))) (hnz:nz=1) (hcz:nz≤cz) (hnz2:nz≤4194304) (hzs:∀i,i<nz→∃x:Int,-9223372036854775808≤x∧x≤9223372036854775807∧w.cell? ⟨Z,oz+i,none⟩=some (.int .i64 x)) :
  Calls Tryz.prog 375 #[.pointer (some ⟨P,0,none⟩), .slice (some ⟨b,off,none⟩) n c] w (Lx E (fun k=>k=P∨k=D∨k=Z) (SoInv P D Z) w 0 rest b off n cur t):=by
 have cc0:=cell_of hP 0 rfl;have cc1:=cell_of hP 1 rfl;have f1:=Bb hP 1;have hl0:((rest.length:Int)==0)=false:=by rw[beq_eq_false_iff_ne];omega
 have hCL:(rest.length:Int)≤(C:Int):=by omega
 have hL0:(0:Int)≤(rest.length:Int):=by omega
 have hnz0:(0:Int)<(nz:Int):=by omega
 subst hnz;obtain⟨y,hy⟩:∃y:Int,(if (1:Int)<x then x else 1)=y:=⟨_,rfl⟩;have hy1:1≤y:=by rw[←hy];split<;>omega
 have hmx:max (1:Int) x=y:=by rw[←hy];split<;>omega
 have hmx2:(if x<1 then 1 else x)=y:=by rw[←hy];split<;>split<;>omega
 obtain⟨M,hMe⟩:∃M:Nat,(if y<(rest.length:Int) then y else (rest.length:Int))=(M:Int):=⟨(if y<(rest.length:Int) then y else (rest.length:Int)).toNat,by split<;>omega⟩
 have hMe2:min (rest.length:Int) y=(M:Int):=by rw[←hMe];split<;>omega
 have hM:M≤rest.length:=by split at hMe<;>omega
 have hM1:1≤M:=by split at hMe<;>omega
 have hMC:(M:Int)≤(C:Int):=by omega
 have hM0:(0:Int)≤(M:Int):=by omega
 obtain⟨m,hm⟩:∃m,min M n=m:=⟨_,rfl⟩;have HM2:=hid hm;have HBY0:=hid hby;have HBY:=hid hby;have KS:Hid (Kp (fun k=>k=P) w w):=Kp.refl _ _;have HPS:=hid hP;have HZV:Hid ((∃A1 c1,Value.slice (some ⟨Z,oz,none⟩) 1 cz=.slice A1 0 c1)∨∃o n c,Value.slice (some ⟨Z,oz,none⟩) 1 cz=.slice (some ⟨Z,o,none⟩) n c∧1≤n∧n≤c∧n≤4194304∧∀i,i<n→∃x:Int,-9223372036854775808≤x∧x≤9223372036854775807∧w.cell? ⟨Z,o+i,none⟩=some (.int .i64 x)):=.inr ⟨oz,1,cz,rfl,Nat.le_refl _,hcz,hnz2,hzs⟩;have hbS0:=hb;clear hby hP hm hzs;go_enter Tryz.func375,Tryz.ntmps375
 go_upto_region 8 with fail
 have HLN:Hid ((rest.take m).length=Nat.min M n):=by
  show (rest.take m).length=min M n;rw[List.length_take];have:=HM2.out;omega
 have HSR:Hid (∀(j:Nat) (v:Value),(ubs (rest.take m))[j]?=some v→(w).cell? ((⟨D,o,none⟩:Addr).add j)=some v):=by
  show ∀(j:Nat) (v:Value),_;intro j v hv;rw[add_plain'];exact HBY.out j v (by rw[Cy] at hv ⊢;rw[List.getElem?_take] at hv;split at hv;exact hv;cases hv)
 have HFT:Hid (off+(rest.take m).length≤cur.length):=by
  show off+(rest.take m).length≤cur.length;rw[List.length_take];have:=HM2.out;omega
 iterate 8 go_step
 rename_i K hK;go_simp;refine hK _ _ ?_;clear hK K;iterate 4 (go_step;rename_i K hK;(try go_simp);refine hK _ _ ?_;clear hK K)
 refine Im rfl (.tmp 48) (.tmp 54) rfl b off n c M C ⟨D,o,none⟩ rfl rfl cur t hbS0 (rest.take m) HLN.out HSR.out HFT.out ?_;intro w1 hk hb1;have hlen:(rest.take m).length=m:=by rw[List.length_take];have:=HM2.out;omega
 rw[hlen];have hPS1:=hk.heap HPS.out (fun h=>hPb h);have d0:=cell_of hPS1 0 rfl;have e0:=Bb hPS1 0;have hmL:(m:Int)≤(rest.length:Int):=by have:=HM2.out;omega
 have hm0:(0:Int)≤(m:Int):=by omega
 by_cases hCm:C=m
 ·have FIN:Hid (Lx E (fun k=>k=P∨k=D∨k=Z) (SoInv P D Z) w 0 rest b off n cur t (.returned (.tuple #[.int .i64 m, .nilIface])) (w1.setCell ⟨P,0,none⟩ (.slice (some ⟨D,o,none⟩) 0 0))):=
   Bgy hPD hPZ hPb hDb hZb hD hZ hC hL HBY0.out hM hM1 hn HM2.out KS.out HPS.out HZV.out hk hb1 (.inl ⟨hCm,rfl⟩) (by omega) (by omega)
  clear hk hb1 hPS1;subst hCm;go_wp2_with fail
  go_ret2
  exact FIN.out
 ·have FIN:Hid (Lx E (fun k=>k=P∨k=D∨k=Z) (SoInv P D Z) w 0 rest b off n cur t (.returned (.tuple #[.int .i64 m, .nilIface])) (w1.setCell ⟨P,0,none⟩ (.slice (some ⟨D,o+m,none⟩) (rest.length-m) (C-m)))):=
   Bgy hPD hPZ hPb hDb hZb hD hZ hC hL HBY0.out hM hM1 hn HM2.out KS.out HPS.out HZV.out hk hb1 (.inr ⟨hCm,rfl⟩) rfl rfl
  clear hk hb1 hPS1;go_wp2_with fail
  go_ret2
  exact FIN.out
set_option maxHeartbeats 3200000 in
theorem Bg3 {E:Nat→Addr}{B:Nat}(w:World)(hG:Glob E B w)(P D Z b off n c o C oz nz cz:Nat)(t:TypeId)(cur:List Value)(rest:List UInt8)(hPD:P≠D)(hPZ:P≠Z)(hPb:P≠b)(hDb:D≠b)(hZb:Z≠b)(hD:D<w.heap.size)(hZ:Z<w.heap.size)(hC:rest.length≤C)(hL:rest.length≤281474976710656)
  (hby:BytesAt w D o rest) (hr0:1≤rest.length) (hn:1≤n) (hnm:n≤281474976710656) (hb:w.heap[b]?=some (.cells cur.toArray t (0,0))) (hfit:off+n≤cur.length) (hnc:n≤c) (x:Int) (hx:w.cell? ⟨Z,oz,none⟩=some (.int .i64 x)) (hP:w.heap[P]?=some (.cells #[.slice (some ⟨D,o,none⟩) rest.length C, .slice (some ⟨Z,oz,none⟩) nz cz] 121 (0,0))) (hnz:2≤nz) (hcz:nz≤cz) (hnz2:nz≤4194304) (hzs:∀i,i<nz→∃x:Int,-9223372036854775808≤x∧x≤9223372036854775807∧w.cell? ⟨Z,oz+i,none⟩=some (.int .i64 x)) :
  Calls Tryz.prog 375 #[.pointer (some ⟨P,0,none⟩), .slice (some ⟨b,off,none⟩) n c] w (Lx E (fun k=>k=P∨k=D∨k=Z) (SoInv P D Z) w 0 rest b off n cur t):=by
 have cc0:=cell_of hP 0 rfl;have cc1:=cell_of hP 1 rfl;have f1:=Bb hP 1;have hl0:((rest.length:Int)==0)=false:=by rw[beq_eq_false_iff_ne];omega
 have hCL:(rest.length:Int)≤(C:Int):=by omega
 have hL0:(0:Int)≤(rest.length:Int):=by omega
 have hnz0:(0:Int)<(nz:Int):=by omega
 have hnz1:(1:Int)<(nz:Int):=by omega
 have hnz3:(1:Int)≤(nz:Int):=by omega
 have hcz1:¬cz=1:=by omega
 obtain⟨y,hy⟩:∃y:Int,(if (1:Int)<x then x else 1)=y:=⟨_,rfl⟩;have hy1:1≤y:=by rw[←hy];split<;>omega
 have hmx:max (1:Int) x=y:=by rw[←hy];split<;>omega
 have hmx2:(if x<1 then 1 else x)=y:=by rw[←hy];split<;>split<;>omega
 obtain⟨M,hMe⟩:∃M:Nat,(if y<(rest.length:Int) then y else (rest.length:Int))=(M:Int):=⟨(if y<(rest.length:Int) then y else (rest.length:Int)).toNat,by split<;>omega⟩
 have hMe2:min (rest.length:Int) y=(M:Int):=by rw[←hMe];split<;>omega
 have hM:M≤rest.length:=by split at hMe<;>omega
 have hM1:1≤M:=by split at hMe<;>omega
 have hMC:(M:Int)≤(C:Int):=by omega
 have hM0:(0:Int)≤(M:Int):=by omega
 obtain⟨m,hm⟩:∃m,min M n=m:=⟨_,rfl⟩;have HM2:=hid hm;have HBY0:=hid hby;have kS:Kp (fun k=>k=P) w (w.setCell ⟨P,1,none⟩ (.slice (some ⟨Z,oz+1,none⟩) (nz-1) (cz-1))):=Kp.setCell (S:=(· =P)) (p:=⟨P,1,none⟩) (Kp.refl _ w) (.inl rfl) _;have KS:=hid kS;have HPS:Hid ((w.setCell ⟨P,1,none⟩ (.slice (some ⟨Z,oz+1,none⟩) (nz-1) (cz-1))).heap[P]?=some (.cells #[.slice (some ⟨D,o,none⟩) rest.length C, .slice (some ⟨Z,oz+1,none⟩) (nz-1) (cz-1)] 121 (0,0))):=heap_set hP 1 _;have HBY:Hid (BytesAt (w.setCell ⟨P,1,none⟩ (.slice (some ⟨Z,oz+1,none⟩) (nz-1) (cz-1))) D o rest):=hby.of_block (kS.block D hD (Ne.symm hPD));have HZV:Hid ((∃A1 c1,Value.slice (some ⟨Z,oz+1,none⟩) (nz-1) (cz-1)=.slice A1 0 c1)∨∃o n c,Value.slice (some ⟨Z,oz+1,none⟩) (nz-1) (cz-1)=.slice (some ⟨Z,o,none⟩) n c∧1≤n∧n≤c∧n≤4194304∧∀i,i<n→∃x:Int,-9223372036854775808≤x∧x≤9223372036854775807∧w.cell? ⟨Z,o+i,none⟩=some (.int .i64 x)):=by
  refine .inr ⟨oz+1,nz-1,cz-1,rfl,by omega,by omega,by omega,fun i hi=>?_⟩
  obtain⟨x,x1,x2,x3⟩:=hzs (i+1) (by omega)
  rw[show oz+(i+1)=oz+1+i by omega] at x3
  exact⟨x,x1,x2,x3⟩
 have hbS0:(w.setCell ⟨P,1,none⟩ (.slice (some ⟨Z,oz+1,none⟩) (nz-1) (cz-1))).heap[b]?=some (.cells cur.toArray t (0,0)):=Ci hb _ _ (Ne.symm hPb);have dd0:=cell_of HPS.out 0 rfl;clear hby hP hm hzs kS;go_enter Tryz.func375,Tryz.ntmps375
 go_upto_region 8 with fail
 have HLN:Hid ((rest.take m).length=Nat.min M n):=by
  show (rest.take m).length=min M n;rw[List.length_take];have:=HM2.out;omega
 have HSR:Hid (∀(j:Nat) (v:Value),(ubs (rest.take m))[j]?=some v→(w.setCell ⟨P,1,none⟩ (.slice (some ⟨Z,oz+1,none⟩) (nz-1) (cz-1))).cell? ((⟨D,o,none⟩:Addr).add j)=some v):=by
  show ∀(j:Nat) (v:Value),_;intro j v hv;rw[add_plain'];exact HBY.out j v (by rw[Cy] at hv ⊢;rw[List.getElem?_take] at hv;split at hv;exact hv;cases hv)
 have HFT:Hid (off+(rest.take m).length≤cur.length):=by
  show off+(rest.take m).length≤cur.length;rw[List.length_take];have:=HM2.out;omega
 iterate 8 go_step
 rename_i K hK;go_simp;refine hK _ _ ?_;clear hK K;iterate 4 (go_step;rename_i K hK;(try go_simp);refine hK _ _ ?_;clear hK K)
 refine Im rfl (.tmp 48) (.tmp 54) rfl b off n c M C ⟨D,o,none⟩ rfl rfl cur t hbS0 (rest.take m) HLN.out HSR.out HFT.out ?_;intro w1 hk hb1;have hlen:(rest.take m).length=m:=by rw[List.length_take];have:=HM2.out;omega
 rw[hlen];have hPS1:=hk.heap HPS.out (fun h=>hPb h);have d0:=cell_of hPS1 0 rfl;have e0:=Bb hPS1 0;have hmL:(m:Int)≤(rest.length:Int):=by have:=HM2.out;omega
 have hm0:(0:Int)≤(m:Int):=by omega
 by_cases hCm:C=m
 ·have FIN:Hid (Lx E (fun k=>k=P∨k=D∨k=Z) (SoInv P D Z) w 0 rest b off n cur t (.returned (.tuple #[.int .i64 m, .nilIface])) (w1.setCell ⟨P,0,none⟩ (.slice (some ⟨D,o,none⟩) 0 0))):=
   Bgy hPD hPZ hPb hDb hZb hD hZ hC hL HBY0.out hM hM1 hn HM2.out KS.out HPS.out HZV.out hk hb1 (.inl ⟨hCm,rfl⟩) (by omega) (by omega)
  clear hk hb1 hPS1;subst hCm;go_wp2_with fail
  go_ret2
  exact FIN.out
 ·have FIN:Hid (Lx E (fun k=>k=P∨k=D∨k=Z) (SoInv P D Z) w 0 rest b off n cur t (.returned (.tuple #[.int .i64 m, .nilIface])) (w1.setCell ⟨P,0,none⟩ (.slice (some ⟨D,o+m,none⟩) (rest.length-m) (C-m)))):=
   Bgy hPD hPZ hPb hDb hZb hD hZ hC hL HBY0.out hM hM1 hn HM2.out KS.out HPS.out HZV.out hk hb1 (.inr ⟨hCm,rfl⟩) rfl rfl
  clear hk hb1 hPS1;go_wp2_with fail
  go_ret2
  exact FIN.out
theorem Bg8 {E:Nat→Addr}{B:Nat}(w:World)(hG:Glob E B w)(P n c C:Nat)(A p:Option Addr)(zv:Value)(TS:TypeId)(hP:w.heap[P]?=some (.cells #[.slice A 0 C,zv] TS (0,0))) :
  Calls Tryz.prog 375 #[.pointer (some ⟨P,0,none⟩), .slice p n c] w fun e w'=>e=.returned (.tuple #[.int .i64 0,By (E 0)])∧∃k,w'=w.drewN k:=by
 have cc0:=cell_of hP 0 rfl;have hE:=hG.eof;clear hP;go_enter Tryz.func375,Tryz.ntmps375
 go_wp2_with fail
 go_quiet (fail)
 go_wp2_with fail
 go_ret2
 exact⟨rfl,_,rfl⟩
theorem Bhj {E:Nat→Addr}{B P D Z:Nat}(hP:B≤P)(hD:B≤D)(hZ:B≤Z):IsRd E B 119 (.pointer (some ⟨P,0,none⟩)) (fun k=>k=P∨k=D∨k=Z) (SoInv P D Z) where
 low:=by rintro k (rfl|rfl|rfl)<;>assumption
 foot:=by
  rintro w g rest ⟨rfl,_,_,_,_,_,h1,h2,h3,_⟩;refine⟨.inl rfl,?_⟩;rintro k (rfl|rfl|rfl)
  ·exact Bv h1
  ·exact h2
  ·exact h3
 frame:=fun h hk=>h.frame hk
 reads:=by
  refine⟨375, .pointer (some ⟨P,0,none⟩),fun _=>by kernel_rfl,fun _=>by kernel_rfl,fun _ _=>by kernel_rfl,?_⟩
  intro w g rest b off n c cur t hG hinv hn hnm hb hfit hnc hbS hbB;have hinv0:=hinv;obtain⟨rfl,hPD,hPZ,A,C,zv,h3,h4,h5,h6,h7,h8,h9⟩:=hinv;have hPb:P≠b:=fun e=>hbS (.inl e.symm);have hDb:D≠b:=fun e=>hbS (.inr (.inl e.symm));have hZb:Z≠b:=fun e=>hbS (.inr (.inr e.symm));by_cases hr:rest=[]
  ·subst hr;refine(Bg8 w hG P n c C A _ zv _ h3).mono ?_;rintro e w' ⟨rfl,k,rfl⟩;exact⟨0,By (E 0),rfl,Nat.zero_le _,Nat.zero_le _, .inr ⟨rfl,rfl⟩,(Kp.refl _ _).drewN k,by simpa[splice,ubs] using heap_drewN hb k,hinv0.frame (fun _ _=>rfl)⟩
  ·obtain⟨o,rfl,hby⟩:=h8 hr;have hr0:1≤rest.length:=by
    cases rest with
    |nil=>exact absurd rfl hr
    |cons a l=>simp
   rcases h9 with ⟨A0,c0,rfl⟩|⟨oz,nz,cz,rfl,z1,z2,z3,z4⟩
   ·exact Bg2 w hG P D Z b off n c o C c0 t cur rest hPD hPZ hPb hDb hZb h4 h5 h6 h7 hby hr0 hn hnm hb hfit hnc A0 h3
   ·(obtain⟨x,x1,x2,x3⟩:=z4 0 (by omega));rw[Nat.add_zero] at x3;by_cases h1:nz=1
    ·exact Bg7 w hG P D Z b off n c o C oz nz cz t cur rest hPD hPZ hPb hDb hZb h4 h5 h6 h7 hby hr0 hn hnm hb hfit hnc x x3 h3 h1 z2 z3 z4
    ·exact Bg3 w hG P D Z b off n c o C oz nz cz t cur rest hPD hPZ hPb hDb hZb h4 h5 h6 h7 hby hr0 hn hnm hb hfit hnc x x3 h3 (by omega) z2 z3 z4
theorem Bit : ∃ m, Instr.missingMethod #[("Seek", 298)] Tryz.t119.methods = some m := by
 have h1 : (List.map (fun x => x.fst) (List.filter (fun (x : String × TypeId) => match x with | (name, sig) => !Tryz.t119.methods.any fun m => m.name == name && m.sig == sig) #[("Seek", 298)].toList)) = ["Seek"] := by
  simp[Tryz.t119]
 unfold Instr.missingMethod;simp only[h1,List.partition,List.partition.loop];cases h : String.contains "Seek" '.' with
 |true=>exact⟨_,rfl⟩
 |false=>exact⟨_,rfl⟩
theorem Bhc (w:World)(P:Nat):(Instr.typeAssert (.iface 119 (.pointer (some ⟨P,0,none⟩))) 149 295 true).run Tryz.prog w=.ok (.tuple #[.nilIface, .bool false]) w:=by
 obtain⟨m,hm⟩:=Bit;have hz:(zeroValue 295).run Tryz.prog w=.ok .nilIface w:=by kernel_rfl
 simp[Instr.typeAssert,hm,hz]
theorem Bhv {E:Nat→Addr}{B P D Z:Nat}(hP:B≤P)(hD:B≤D)(hZ:B≤Z)(w:World)(n:Nat)(rest:List UInt8)(hG:Glob E B w)(hi:SoInv P D Z w 0 rest)(hnm:n≤2305843009213693952) :
  Calls Tryz.prog 125 #[.iface 119 (.pointer (some ⟨P,0,none⟩)), .int .i64 n] w (Ben E (fun k=>k=P∨k=D∨k=Z) (SoInv P D Z) w rest n):=by
 have hta:∀w,(Instr.typeAssert (.iface 119 (.pointer (some ⟨P,0,none⟩))) 149 295 true).run Tryz.prog w=.ok (.tuple #[.nilIface, .bool false]) w:=fun w=>Bhc w P;have hR:=Bhj (E:=E) hP hD hZ;have HD:=Gy hR w n rest hG hi (by omega)
 go_enter Tryz.func125,Tryz.ntmps125
 go_wp2_with fail
 refine HD.mono ?_;rintro e w3 ⟨k,err,rfl,hk3,hi3,hcase⟩;have hG3:=hG.keep hk3 (by rintro b (rfl|rfl|rfl)<;>assumption)
 have hE3:=hG3.eof;have hU3:=hG3.unexp;rcases hcase with ⟨h,rfl,rfl⟩|⟨h,hk0,rfl⟩
 ·clear HD;go_wp2_with fail
  go_ret
  exact⟨hk3, .inl ⟨h,rfl,hi3⟩⟩
 ·have hlt:(k:Int)<(n:Int):=by omega
  have HK:=hid hk0;clear HD hi3 hk0;go_wp2_with fail
  go_ret
  exact⟨hk3, .inr ⟨h,rfl⟩⟩
theorem Bh8 {E:Nat→Addr}{B P D Z:Nat}(hP:B≤P)(hD:B≤D)(hZ:B≤Z):IsSrc E B 119 (.pointer (some ⟨P,0,none⟩)) (fun k=>k=P∨k=D∨k=Z) (SoInv P D Z):=
 ⟨Bhj hP hD hZ,fun w n rest hG hi hn=>Bhv hP hD hZ w n rest hG hi hn⟩
end Go.Proofs.YtgfcnjfmmjcodaaGreatDoor
