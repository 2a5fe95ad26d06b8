/- The states of next. -/
import Derived.Deep.RegionHeld3
import Derived.Deep.DrawnRows
import Derived.Test.YtgfcnjfmmjcodaaGreatDoorP14
set_option linter.all false
set_option maxRecDepth 100000
set_option maxHeartbeats 1000000
open Go.Lib (hid)
namespace Go.Proofs.YtgfcnjfmmjcodaaGreatDoor
open Go Go.RowKit
section
structure IsSrc (E:Nat→Addr)(B:Nat)(T:TypeId)(v:Value)(S:Nat→Prop)(inv:World→Nat→List UInt8→Prop):Prop where
 rd:IsRd E B T v S inv
 disc:∀(w:World) (n:Nat) (rest:List UInt8),Glob E B w→inv w 0 rest→n≤2305843009213693952→Calls Tryz.prog 125 #[.iface T v, .int .i64 n] w (Ben E S inv w rest n)
def CurOk (w:World)(cur:Value)(nb:Nat):Prop:=
 ∃Sc:Nat→Prop,(∀k,Sc k→k<w.heap.size)∧∃cT cv,cur=.iface cT cv∧∀w':World,(∀k,Sc k→w'.heap[k]?=w.heap[k]?) →
  ∃ f rv, (method 560 cT cv "tapearchives/pub/gotar.physicalRemaining").run Tryz.prog w' = .ok (f, rv) w' ∧
  (nilAhead 560 cT cv "tapearchives/pub/gotar.physicalRemaining").run Tryz.prog w' = .ok (some false) w' ∧ (∀ args w, (callFunc f args).run Tryz.prog w = .ok (.enter f args) w) ∧
  Calls Tryz.prog f #[rv] w' fun e w''=>e=.returned (.int .i64 nb)∧Kp (fun _=>False) w' w''
theorem Bb8 : ∀ w b, (nilAhead 560 150 (.pointer (some ⟨b, 0, none⟩)) "tapearchives/pub/gotar.physicalRemaining").run Tryz.prog w = .ok (some false) w := fun _ _ => by kernel_rfl
theorem K6 {w:World}{b:Nat}{r:Value}{nb:Nat}(h:w.heap[b]?=some (.cells #[r, .int .i64 nb] 152 (0,0))):CurOk w (.iface 150 (.pointer (some ⟨b,0,none⟩))) nb:=
 ⟨(· =b),(by rintro k rfl;exact Bv h),150,_,rfl,fun w' hw'=>⟨382,_,Z5 w' b r nb ((hw' b rfl).trans h),Bb8 w' b,fun _ _=>by kernel_rfl,(Bbp w' r nb).mono fun e w'' ⟨h1,h2⟩=>⟨h1,by rw[h2];exact(Kp.refl _ _).alloc _⟩⟩⟩
theorem CurOk.keep {w w':World}{cur:Value}{nb:Nat}(h:CurOk w cur nb)(k:Kp (fun _=>False) w w'):CurOk w' cur nb:=by
 obtain⟨Sc,h1,cT,cv,rfl,h2⟩:=h;exact⟨Sc,fun k' hk=>Nat.lt_of_lt_of_le (h1 k' hk) k.size,cT,cv,rfl,fun x hx=>h2 x fun k' hk=>(hx k' hk).trans (k.block k' (h1 k' hk) (fun h=>h))⟩
theorem CurOk.now {w : World} {cur : Value} {nb : Nat} (h : CurOk w cur nb) : ∃ cT cv f rv, cur = .iface cT cv ∧ (method 560 cT cv "tapearchives/pub/gotar.physicalRemaining").run Tryz.prog w.drew = .ok (f, rv) w.drew ∧
  (nilAhead 560 cT cv "tapearchives/pub/gotar.physicalRemaining").run Tryz.prog w.drew = .ok (some false) w.drew ∧ (∀ args w, (callFunc f args).run Tryz.prog w = .ok (.enter f args) w) ∧
  Calls Tryz.prog f #[rv] w.drew fun e w''=>e=.returned (.int .i64 nb)∧Kp (fun _=>False) w.drew w'':=by
 obtain⟨Sc,h1,cT,cv,rfl,h2⟩:=h;obtain⟨f,rv,h3⟩:=h2 w.drew fun _ _=>rfl;exact⟨cT,cv,f,rv,rfl,h3⟩
def Bad (E:Nat→Addr)(B:Nat)(T:TypeId)(v:Value)(S:Nat→Prop)(inv:World→Nat→List UInt8→Prop)(R nb pad:Nat)(src:List UInt8)(w:World):Prop:=
 ∃cur blk,RhIn E B T v S inv R (pad:Int) cur blk .nilIface src w∧CurOk w cur nb∧nb≤2305843009213693952∧pad≤512
def PaxV (w0:World)(pax:Option (List Rec))(s:Value)(w:World):Prop:=
 match pax with
 |none=>s=.map none
 |some rs=>∃b n,s=.map (some b)∧w0.heap.size≤b∧MapIs w b n (Bf rs)
theorem PaxV.keep {w0 w w':World}{pax:Option (List Rec)}{s:Value}{S:Nat→Prop}(h:PaxV w0 pax s w)(k:Kp S w w')(hS:∀k,S k→k<w0.heap.size):PaxV w0 pax s w':=by
 cases pax with
 |none=>exact h
 |some rs=>
  obtain⟨b,n,h1,h2,h3⟩:=h;exact⟨b,n,h1,h2,h3.keep k (fun e=>by have:=hS _ e;omega)⟩
def Bae (pax:Option (List Rec)):List UInt8→Option (List UInt8):=match pax with|none=>fun _=>none|some rs=>Bf rs
def Lf (E:Nat→Addr)(B:Nat)(T:TypeId)(v:Value)(S:Nat→Prop)(inv:World→Nat→List UInt8→Prop)(R:Nat)(w:World)(out:Out)(e:Ending)(w':World):Prop:=
 Kp (fun k=>S k∨k=R) w w' ∧
 match out with
 | .fail g=>e=.returned (.tuple #[.pointer none,By (E g)])∧RowAt w' R
 | .file h pax src=>∃nh Rf blk f pm,e=.returned (.tuple #[.pointer (some ⟨nh,0,none⟩), .nilIface])∧w.heap.size≤nh∧w.heap.size≤Rf∧w'.heap[nh]?=some (.cells (B2 h (.map none) pm f).toArray 167 (0,0)) ∧
   PmIs w' pm (Bae pax)∧(∀b,pm=.map (some b)→w.heap.size≤b)∧RhIn E B T v S inv R (Cv (Cm h):Nat) (.iface 150 (.pointer (some ⟨Rf,0,none⟩))) blk .nilIface src w' ∧
   w'.heap[Rf]?=some (.cells #[.iface T v, .int .i64 (Cm h:Nat)] 152 (0,0))
 | .glob name rs pad src=>∃nh Rf blk f b,e=.returned (.tuple #[.pointer (some ⟨nh,0,none⟩), .nilIface])∧w.heap.size≤nh∧w.heap.size≤Rf∧w.heap.size≤b ∧
   w'.heap[nh]?=some (.cells (B2 {hd0 with typ:=103,name:=name,ms:= -62135596800} (.map none) (.map (some b)) f).toArray 167 (0,0))∧PmIs w' (.map (some b)) (Bf rs) ∧
   RhIn E B T v S inv R (pad:Int) (.iface 150 (.pointer (some ⟨Rf,0,none⟩))) blk .nilIface src w'∧w'.heap[Rf]?=some (.cells #[.iface T v, .int .i64 0] 152 (0,0))
theorem IsSrc.disc_ok {E:Nat→Addr}{B:Nat}{T:TypeId}{v:Value}{S:Nat→Prop}{inv:World→Nat→List UInt8→Prop}(hs:IsSrc E B T v S inv)(w:World)(n:Nat)(rest:List UInt8)(hG:Glob E B w)(hi:inv w 0 rest)(hn:n≤2305843009213693952)(hl:n≤rest.length) :
  Calls Tryz.prog 125 #[.iface T v, .int .i64 n] w fun e w'=>e=.returned .nilIface∧Kp S w w'∧inv w' 0 (rest.drop n):=
 (hs.disc w n rest hG hi hn).mono fun e w' ⟨h1,h2⟩=>by
  rcases h2 with ⟨_,h3,h4⟩|⟨h3,_⟩
  ·exact⟨h3,h1,h4⟩
  ·omega
theorem IsSrc.disc_cut {E:Nat→Addr}{B:Nat}{T:TypeId}{v:Value}{S:Nat→Prop}{inv:World→Nat→List UInt8→Prop}(hs:IsSrc E B T v S inv)(w:World)(n:Nat)(rest:List UInt8)(hG:Glob E B w)(hi:inv w 0 rest)(hn:n≤2305843009213693952)(hl:rest.length<n) :
  Calls Tryz.prog 125 #[.iface T v, .int .i64 n] w fun e w'=>e=.returned (By (E 5))∧Kp S w w':=
 (hs.disc w n rest hG hi hn).mono fun e w' ⟨h1,h2⟩=>by
  rcases h2 with ⟨h3,_,_⟩|⟨_,h4⟩
  ·omega
  ·exact⟨h4,h1⟩
theorem Bb9:Tryz.prog.arrayLen 156=512:=by kernel_rfl
theorem Bfc:Tryz.prog.underlying 156=some (.array (Tryz.prog.arrayLen 156) (Tryz.prog.elem 156)):=by kernel_rfl
theorem Bd2:Tryz.prog.elem 156=5:=by kernel_rfl
theorem Ug (w:World)(a:Addr)(m:Nat)(h:m≤512) :
  (Instr.sliceAt 156 (.pointer (some a)) none (some (.int .i64 (m:Int))) none).run Tryz.prog w=.ok (.slice (some a) m 512) w:=by
 rw[run_sliceAt_array_h w 156 a Bfc .i64 (m:Int) (by omega) (by rw[Bb9];omega),Bd2,Ur,Bb9]
 simp[slicedAt,Addr.add]
theorem RhIn.move {E:Nat→Addr}{B:Nat}{T:TypeId}{v:Value}{S:Nat→Prop}{inv:World→Nat→List UInt8→Prop}(hR:IsRd E B T v S inv)
  {R:Nat} {pad:Int} {curr:Value} {blk:List Value} {err:Value} {rest rest':List UInt8} {w w':World} (h:RhIn E B T v S inv R pad curr blk err rest w) (k:Kp S w w') (hi:inv w' 0 rest') :
  RhIn E B T v S inv R pad curr blk err rest' w':=by
 have h16:=h.low;exact⟨h.glob.keep k hR.low,Utf8Tabs.keep h.tabs k (fun h1=>by have:=hR.low _ h1;omega) (fun h1=>by have:=hR.low _ h1;omega),h.low,hi,k.heap h.row h.out,h.blen,h.out,h.above⟩
theorem RhIn.skip {E:Nat→Addr}{B:Nat}{T:TypeId}{v:Value}{S:Nat→Prop}{inv:World→Nat→List UInt8→Prop}(hR:IsRd E B T v S inv)
  {R pad:Nat} {curr:Value} {blk:List Value} {err:Value} {rest:List UInt8} {w:World} (h:RhIn E B T v S inv R (pad:Int) curr blk err rest w) (hp:pad≤512) :
  Calls Tryz.prog 126 #[.iface T v, .slice (some ⟨R,3,none⟩) pad 512] w.drew fun e w'=>e=.returned (.tuple #[.int .i64 (min pad rest.length:Nat),Qc E (decide (pad≤rest.length))]) ∧
   Kp (fun k=>S k∨k=R) w w'∧∃blk',RhIn E B T v S inv R (pad:Int) curr blk' err (rest.drop pad) w':=by
 refine(Lo hR w.drew R 3 pad 512 158 _ rest (h.glob.keep ((Kp.refl (fun _=>False) _).drew) (fun _ h=>h.elim)) (hR.frame h.rd (fun _ _=>rfl)) (by omega) h.row (by rw[Qd h.blen];omega) (by omega) h.out h.above).mono ?_
 rintro e w' ⟨he,hk,hb,hi⟩;have hk':Kp (fun k=>S k∨k=R) w w':=((Kp.refl _ w).drew).trans hk;have hlow:∀b,(S b∨b=R)→B≤b:=by rintro b (h1|rfl);exact hR.low _ h1;exact h.above
 have h16:=h.low;have hl:(ubs (rest.take pad)).length≤blk.length:=by rw[Bi,h.blen,List.length_take];omega
 refine⟨he,hk',splice blk 0 (ubs (rest.take pad)),⟨h.glob.keep hk' hlow,Utf8Tabs.keep h.tabs hk' (fun h1=>by have:=hlow _ h1;omega) (fun h1=>by have:=hlow _ h1;omega),h.low,hi,?_,?_,h.out,h.above⟩⟩
 ·rw[hb,Jp _ hl]
 ·rw[D3 _ _ _ (by rw[Bi] at hl;omega),h.blen]
theorem RhIn.setPad {E:Nat→Addr}{B:Nat}{T:TypeId}{v:Value}{S:Nat→Prop}{inv:World→Nat→List UInt8→Prop}(hR:IsRd E B T v S inv)
  {R:Nat} {pad:Int} {curr:Value} {blk:List Value} {err:Value} {rest:List UInt8} {w:World} (h:RhIn E B T v S inv R pad curr blk err rest w) (q:Int) :
  RhIn E B T v S inv R q curr blk err rest (w.setCell ⟨R,1,none⟩ (.int .i64 q)):=by
 have k:Kp (· =R) w (w.setCell ⟨R,1,none⟩ (.int .i64 q)):=Kp.setCell (S:=(· =R)) (p:=⟨R,1,none⟩) (Kp.refl _ w) (.inl rfl) _;have h16:=h.low;have hab:=h.above;have hset:=heap_set h.row 1 (.int .i64 q);rw[I1] at hset;exact⟨h.glob.keep k (by rintro b rfl;exact h.above),Utf8Tabs.keep h.tabs k (fun h1=>by omega) (fun h1=>by omega),h.low,hR.frame h.rd (fun b hb=>k.block b ((hR.foot h.rd).2 b hb) (fun e=>h.out (e▸hb))),hset,h.blen,h.out,h.above⟩
theorem RhIn.other {E:Nat→Addr}{B:Nat}{T:TypeId}{v:Value}{S:Nat→Prop}{inv:World→Nat→List UInt8→Prop}(hR:IsRd E B T v S inv)
  {R:Nat} {pad:Int} {curr:Value} {blk:List Value} {err:Value} {rest:List UInt8} {w w':World} {S':Nat→Prop} (h:RhIn E B T v S inv R pad curr blk err rest w) (k:Kp S' w w') (hS:∀k,S' k→¬S k∧k≠R∧B≤k) :
  RhIn E B T v S inv R pad curr blk err rest w':=by
 have h16:=h.low;exact⟨h.glob.keep k (fun b hb=>(hS b hb).2.2),Utf8Tabs.keep h.tabs k (fun h1=>by have:=(hS _ h1).2.2;omega) (fun h1=>by have:=(hS _ h1).2.2;omega),h.low,
  hR.frame h.rd (fun b hb=>k.block b ((hR.foot h.rd).2 b hb) (fun e=>(hS b e).1 hb)),k.heap h.row (fun e=>(hS _ e).2.1 rfl),h.blen,h.out,h.above⟩
theorem RhIn.handled {E:Nat→Addr}{B:Nat}{T:TypeId}{v:Value}{S:Nat→Prop}{inv:World→Nat→List UInt8→Prop}(hR:IsRd E B T v S inv)
  {R:Nat} {pad:Int} {curr:Value} {blk:List Value} {rest:List UInt8} {w w':World} {n:Nat} {e:Ending} (h:RhIn E B T v S inv R pad curr blk .nilIface rest w) (hh:HrEnd w R (.iface T v) blk .nilIface n e w') :
  e=.returned .nilIface∧∃Rf,w.heap.size≤Rf∧Kp (· =R) w w'∧RhIn E B T v S inv R (Cv n:Nat) (.iface 150 (.pointer (some ⟨Rf,0,none⟩))) blk .nilIface rest w'∧w'.heap[Rf]?=some (.cells #[.iface T v, .int .i64 n] 152 (0,0)):=by
 obtain⟨he,Rf,h1,k,h2,h3⟩:=hh;have h16:=h.low;have hab:=h.above;exact⟨he,Rf,h1,k,⟨h.glob.keep k (by rintro b rfl;exact h.above),Utf8Tabs.keep h.tabs k (fun h1=>by omega) (fun h1=>by omega),h.low,
  hR.frame h.rd (fun b hb=>k.block b ((hR.foot h.rd).2 b hb) (fun e=>h.out (e▸hb))),h2,h.blen,h.out,h.above⟩,h3⟩
theorem Bd3 {E:Nat→Addr}:Qc E true=.nilIface:=rfl
theorem Bd4 {E:Nat→Addr}:Qc E false=By (E 0):=rfl
structure NxRel (E:Nat→Addr)(B:Nat)(T:TypeId)(v:Value)(S:Nat→Prop)(inv:World→Nat→List UInt8→Prop)(R:Nat)(w:World)(out:Out)(nb pad:Nat)(pax:Option (List Rec))(ln ll src:List UInt8)(s4:Value)(wr:World):Prop where
 inp:Bad E B T v S inv R nb pad src wr
 paxv:PaxV w pax s4 wr
 head:HeadP nb pad pax ln ll src out
 kp:Kp (fun k=>S k∨k=R) w wr
 fmt:∃f,wr.heap[w.heap.size]?=some (.cells #[.int .i64 f] 165 (0,0))
 lens:ln.length≤1048576∧ll.length≤1048576
 plen:∀rs,pax=some rs→∀k u,Bf rs k=some u→u.length≤1048576
theorem M0 {w:World}{a b:Nat}{c d:Array Value}{t u:TypeId}(h:w.heap[a]?=some (.cells c t (0,0)))(k:w.heap[b]?=some (.cells d u (0,0)))(hne:t≠u):a≠b:=by
 rintro rfl;rw[h] at k;injection k with k
 injection k with _ k
 exact hne k
def MgO (pax:Option (List Rec))(h h1:Hd):Prop:=match pax with|none=>h1=h|some rs=>Merged h h1 (Bf rs)
structure FSt (E:Nat→Addr)(B:Nat)(T:TypeId)(v:Value)(S:Nat→Prop)(inv:World→Nat→List UInt8→Prop)(R:Nat)(w0:World)(rest l:List UInt8)(nh:Nat)(pax:Option (List Rec))(pm p:Value)(f:Int)(h:Hd)(n m:Nat)(wx:World):Prop where
 rh:∃Rf,RhIn E B T v S inv R (Cv n:Nat) (.iface 150 (.pointer (some ⟨Rf,0,none⟩))) (ubs l) .nilIface rest wx∧wx.heap[Rf]?=some (.cells #[.iface T v, .int .i64 m] 152 (0,0))∧w0.heap.size≤Rf
 row:wx.heap[nh]?=some (.cells (B2 h (.map none) p f).toArray 167 (0,0))
 paxv:PaxV w0 pax pm wx
 kp:Kp (fun k=>S k∨k=R) w0 wx
 fmt:∃g,wx.heap[w0.heap.size]?=some (.cells #[.int .i64 g] 165 (0,0))
 low:w0.heap.size<nh
 old:(∀k,S k→k<w0.heap.size)∧R<w0.heap.size∧B≤w0.heap.size
section
variable {E:Nat→Addr} {B:Nat} {T:TypeId} {v:Value} {S:Nat→Prop} {inv:World→Nat→List UInt8→Prop} (hR:IsRd E B T v S inv)
 {R:Nat} {w0 wx wy:World} {rest l:List UInt8} {nh:Nat} {pax:Option (List Rec)} {pm p p':Value} {f f':Int} {h h':Hd} {n m:Nat}
include hR
theorem FSt.step (st:FSt E B T v S inv R w0 rest l nh pax pm p f h n m wx){b:Nat}(k:Kp (· =b) wx wy)(hb:w0.heap.size≤b)(hbm:∀m,pm=.map (some m)→m≠b)
  (hRf:∀Rf t c,wx.heap[Rf]?=some (.cells c t (0,0))→t=152→Rf≠b) (hrow:wy.heap[nh]?=some (.cells (B2 h' (.map none) p' f').toArray 167 (0,0)))
  (hf:∃g,wy.heap[w0.heap.size]?=some (.cells #[.int .i64 g] 165 (0,0))):FSt E B T v S inv R w0 rest l nh pax pm p' f' h' n m wy:=by
 obtain⟨Rf,h1,h2,h3⟩:=st.rh;refine⟨⟨Rf,h1.other hR k ?_,k.heap h2 (hRf Rf _ _ h2 rfl),h3⟩,hrow,?_,st.kp.then k (fun i hi e=>by omega),hf,st.low,st.old⟩
 ·rintro i rfl;exact⟨fun hs=>by have:=st.old.1 _ hs;omega,by have:=st.old.2.1;omega,by have:=st.old.2.2;omega⟩
 ·have hp:=st.paxv;cases pax with
  |none=>exact hp
  |some rs=>
   obtain⟨m,q,e1,e2,e3⟩:=hp;exact⟨m,q,e1,e2,e3.keep k (hbm m e1)⟩
theorem FSt.map_ne (st:FSt E B T v S inv R w0 rest l nh pax pm p f h n m wx){b:Nat}{c:Array Value}{t:TypeId}(hb:wx.heap[b]?=some (.cells c t (0,0))):∀m,pm=.map (some m)→m≠b:=by
 rintro m e rfl;have hp:=st.paxv;cases pax with
 |none=>rw[show pm=.map none from hp] at e;cases e
 |some rs=>
  obtain⟨m',q,e1,e2,D,⟨es,cl,e3,_⟩,_⟩:=hp;rw[e1] at e;injection e with e
  injection e with e
  subst e;rw[e3] at hb;cases hb
theorem FSt.set (st:FSt E B T v S inv R w0 rest l nh pax pm p f h n m wx)(i:Nat)(u:Value)(hset:B2 h' (.map none) p' f'=(B2 h (.map none) p f).set i u):FSt E B T v S inv R w0 rest l nh pax pm p' f' h' n m (wx.setCell ⟨nh,i,none⟩ u):=by
 have k:Kp (· =nh) wx (wx.setCell ⟨nh,i,none⟩ u):=Kp.setCell (S:=(· =nh)) (p:=⟨nh,i,none⟩) (Kp.refl _ _) (.inl rfl) _;refine st.step hR k (Nat.le_of_lt st.low) (st.map_ne hR st.row) (fun Rf t c hx ht=>M0 hx st.row (by rw[ht];decide)) ?_ ?_
 ·rw[hset];have:=heap_set st.row i u;rwa[sA] at this
 ·obtain⟨g,hg⟩:=st.fmt;exact⟨g,k.heap hg (by have:=st.low;omega)⟩
theorem FSt.setFmt (st:FSt E B T v S inv R w0 rest l nh pax pm p f h n m wx)(g:Int):FSt E B T v S inv R w0 rest l nh pax pm p f h n m (wx.setCell ⟨w0.heap.size,0,none⟩ (.int .i64 g)):=by
 obtain⟨g0,hg⟩:=st.fmt;have k:Kp (· =w0.heap.size) wx (wx.setCell ⟨w0.heap.size,0,none⟩ (.int .i64 g)):=Kp.setCell (S:=(· =w0.heap.size)) (p:=⟨w0.heap.size,0,none⟩) (Kp.refl _ _) (.inl rfl) _;exact st.step hR k (Nat.le_refl _) (st.map_ne hR hg) (fun Rf t c hx ht=>M0 hx hg (by rw[ht];decide)) (k.heap st.row (by have:=st.low;omega)) ⟨g,heap_set hg 0 _⟩
theorem FSt.kpf (st:FSt E B T v S inv R w0 rest l nh pax pm p f h n m wx)(k:Kp (fun _=>False) wx wy):FSt E B T v S inv R w0 rest l nh pax pm p f h n m wy:=by
 obtain⟨Rf,h1,h2,h3⟩:=st.rh;obtain⟨g,hg⟩:=st.fmt;exact⟨⟨Rf,h1.keep hR k,k.heap h2 (fun h=>h),h3⟩,k.heap st.row (fun h=>h),st.paxv.keep k (fun _ h=>h.elim),st.kp.then k (fun _ _ h=>h.elim),⟨g,k.heap hg (fun h=>h)⟩,st.low,st.old⟩
theorem FSt.mono (st:FSt E B T v S inv R w0 rest l nh pax pm p f h n m wx)(k:Kp (· =nh) wx wy)(hrow:wy.heap[nh]?=some (.cells (B2 h' (.map none) p' f').toArray 167 (0,0))):FSt E B T v S inv R w0 rest l nh pax pm p' f' h' n m wy:=by
 refine st.step hR k (Nat.le_of_lt st.low) (st.map_ne hR st.row) (fun Rf t c hx ht=>M0 hx st.row (by rw[ht];decide)) hrow ?_
 obtain⟨g,hg⟩:=st.fmt;exact⟨g,k.heap hg (by have:=st.low;omega)⟩
theorem FSt.handle (st:FSt E B T v S inv R w0 rest l nh pax pm p f h n m wx)(hs:0≤h.size∧h.size≤4611686018427387904∨B8 h.typ=false) :
  Calls Tryz.prog 128 #[.pointer (some ⟨R,0,none⟩), .pointer (some ⟨nh,0,none⟩)] wx fun e w'=>e=.returned .nilIface∧FSt E B T v S inv R w0 rest l nh pax pm p f h (Cm h) (Cm h) w':=by
 obtain⟨Rf,h1,h2,h3⟩:=st.rh;refine(I3 wx R nh T v _ _ (ubs l) .nilIface _ h.typ h.size h1.row st.row rfl rfl hs).mono ?_;rintro e w' hre;obtain⟨he,Rf',g1,g2,g3,g4⟩:=h1.handled hR hre;obtain⟨g,hg⟩:=st.fmt;have hsz:=st.kp.size;have hl:=st.low;exact⟨he,⟨Rf',g3,g4,by omega⟩,g2.heap st.row (by have:=st.old.2.1;omega),st.paxv.keep g2 (by rintro k rfl;exact st.old.2.1),st.kp.then g2 (fun i hi e=>.inr e),⟨g,g2.heap hg (by have:=st.old.2.1;omega)⟩,st.low,st.old⟩
theorem FSt.merge (st:FSt E B T v S inv R w0 rest l nh pax pm (.map none) f h n m wx){h1:Hd}(hm:MgO pax h h1)(hsz:∀rs,pax=some rs→∀k u,Bf rs k=some u→u.length≤1048576) :
  Calls Tryz.prog 131 #[.pointer (some ⟨nh,0,none⟩),pm] wx fun e w'=>e=.returned .nilIface∧FSt E B T v S inv R w0 rest l nh pax pm pm f h1 n m w':=by
 have hp:=st.paxv;cases pax with
 |none=>
  obtain rfl:pm=.map none:=hp;obtain rfl:h1=h:=hm;exact(Uf wx nh h1 (.map none) (.map none) f st.row).mono fun e w' ⟨e1,e2,e3⟩=>⟨e1,st.mono hR e2 e3⟩
 |some rs=>
  obtain⟨b,q,rfl,e2,e3⟩:=hp;exact(Ue wx nh b q (Bf rs) h h1 (.map none) (.map none) f st.row e3 hm (hsz rs rfl)).mono fun e w' ⟨e1,e2,e3⟩=>⟨e1,st.mono hR e2 e3⟩
theorem FSt.pmIs (st:FSt E B T v S inv R w0 rest l nh pax pm p f h n m wx):PmIs wx pm (Bae pax):=by
 have hp:=st.paxv;cases pax with
 |none=>exact .inl ⟨hp,rfl⟩
 |some rs=>obtain⟨b,q,e1,e2,e3⟩:=hp;exact .inr ⟨b,q,e1,e3⟩
theorem FSt.sparse (st:FSt E B T v S inv R w0 rest l nh pax pm pm f h n m wx)(ht:h.typ≠83)(hns:∀rs,pax=some rs→∀k u,Bf rs k=some u→¬Ct <+: k)(P Q:Value) :
  Calls Tryz.prog 134 #[P, .pointer (some ⟨nh,0,none⟩),Q] wx fun e w'=>e=.returned .nilIface∧FSt E B T v S inv R w0 rest l nh pax pm pm f h n m w':=by
 refine(J9 wx P Q nh _ pm (Bae pax) h.typ st.row rfl ht rfl (st.pmIs hR) ?_).mono ?_
 ·intro k hk;cases pax with
  |none=>rfl
  |some rs=>
   cases e:Bf rs k with
   |none=>exact e
   |some u=>exact absurd hk (hns rs rfl k u e)
 ·rintro e w' ⟨e1,m,rfl⟩;exact⟨e1,st.kpf hR ((Kp.refl _ _).drewN m)⟩
theorem FSt.spec (st:FSt E B T v S inv R w0 rest l nh pax pm p f h n n wx)(hn:n≤4611686018427387904) :
  ∃(S2:Nat→Prop) (inv2:World→Nat→List UInt8→Prop),IsRd E B 92 (.pointer (some ⟨R,0,none⟩)) S2 inv2∧Glob E B wx∧inv2 wx (I0 n rest.length) (rest.take n) ∧
   (∀w',Kp S2 wx w'→Kp (fun k=>S k∨k=R) w0 w')∧(∀w' g,inv2 w' g []→RowAt w' R)∧(∀w',Kp S2 wx w'→inv2 w' 0 []→FSt E B T v S inv R w0 (rest.drop n) l nh pax pm p f h n 0 w'):=by
 obtain⟨Rf,h1,h2,h3⟩:=st.rh;have ho:=st.old;have hlow:=st.low;have hRRf:¬(S R∨R=Rf):=by rintro(h|e);exact h1.out h;omega
 have hSRf:¬S Rf:=fun h=>by have:=ho.1 _ h;omega
 have hBRf:B≤Rf:=by omega
 have hkp:∀w',Kp (fun k=>(S k∨k=Rf)∨k=R) wx w'→Kp (fun k=>S k∨k=R) w0 w':=fun w' k=>st.kp.then k (by rintro i hi ((h|h)|h);exact .inl h;omega;exact .inr h)
 refine⟨_,_,Ly (Ir (rest.drop n) hR Rf hBRf) R h1.above (.iface T v) (Cv n:Nat) (ubs l) 158 h1.blen,h1.glob,?_,hkp,?_,?_⟩
 ·exact⟨⟨rest,n,h1.rd,h2,hSRf,rfl,rfl,hn,rfl⟩,hRRf, .nilIface,h1.row, .inl rfl⟩
 ·rintro w' g ⟨_,_,err,i6,_⟩;exact⟨_,_,_,_,err,h1.blen,i6⟩
 ·rintro w' k ⟨⟨src,nb,i1,i2,_,i3,i4,_,i5⟩,_,err,i6,i7⟩;have hnb:nb≤src.length:=by
   have:=i4;unfold I0 at this;split at this
   ·assumption
   ·omega
  have h0:nb=0:=by
   have:=congrArg List.length i3;rw[List.length_take,List.length_nil] at this;omega
  subst h0;rw[sG] at i5;subst i5;obtain rfl:err=.nilIface:=by rcases i7 with h|⟨_,h,_⟩;exact h;omega
  have hnhRf:nh≠Rf:=fun e=>by subst e;have:=st.row;rw[h2] at this;injection this with this;injection this with _ this;cases this
  have hn2:¬((S nh∨nh=Rf)∨nh=R):=by rintro((h|h)|h);have:=ho.1 _ h;omega;exact hnhRf h;omega
  have hB:∀i,((S i∨i=Rf)∨i=R)→B≤i:=by rintro i ((h|h)|h);exact hR.low _ h;omega;rw[h];exact h1.above
  have h16:=h1.low;refine⟨⟨Rf,⟨h1.glob.keep k hB,Utf8Tabs.keep h1.tabs k (fun h=>by have:=hB _ h;omega) (fun h=>by have:=hB _ h;omega),h1.low,i1,i6,h1.blen,h1.out,h1.above⟩,i2,h3⟩,k.heap st.row hn2,?_,hkp w' k,?_,st.low,st.old⟩
  ·have hp:=st.paxv;cases pax with
   |none=>exact hp
   |some rs=>
    obtain⟨b,q,rfl,e2,e3⟩:=hp;refine⟨b,q,rfl,e2,e3.keep k ?_⟩;rintro((h|h)|h)
    ·have:=ho.1 _ h;omega
    ·exact st.map_ne hR h2 b rfl h
    ·omega
  ·obtain⟨g,hg⟩:=st.fmt;refine⟨g,k.heap hg ?_⟩;rintro((h|h)|h)
   ·have:=ho.1 _ h;omega
   ·rw[h] at hg;rw[h2] at hg;injection hg with hg;injection hg with _ hg;cases hg
   ·omega
theorem FSt.round {out:Out}{ln ll:List UInt8}{s4:Value}{pax':Option (List Rec)}(st:FSt E B T v S inv R w0 rest l nh pax pm p f h n m wx)(hm:m≤2305843009213693952)(hp:PaxV w0 pax' s4 wx)(hh:HeadP m (Cv n) pax' ln ll rest out)
  (hl:ln.length≤1048576∧ll.length≤1048576) (hpl:∀rs,pax'=some rs→∀k u,Bf rs k=some u→u.length≤1048576):NxRel E B T v S inv R w0 out m (Cv n) pax' ln ll rest s4 wx:=by
 obtain⟨Rf,h1,h2,h3⟩:=st.rh;exact⟨⟨_,_,h1,K6 h2,hm,Nat.le_of_lt (Ry n)⟩,hp,hh,st.kp,st.fmt,hl,hpl⟩
theorem FSt.globOut {rs:List Rec}{b:Nat}(st:FSt E B T v S inv R w0 rest l nh (some rs) (.map (some b)) p f h n 0 wx)(hb:w0.heap.size≤b)(name:List UInt8)(g:Int)(row:Array Value)
  (hrow:row=(B2 {hd0 with typ:=103,name:=name,ms:= -62135596800} (.map none) (.map (some b)) g).toArray) :
  Lf E B T v S inv R w0 (.glob name rs (Cv n) rest) (.returned (.tuple #[.pointer (some ⟨wx.heap.size,0,none⟩), .nilIface])) ((wx.alloc (.cells row 167)).drew):=by
 subst hrow;have k:Kp (fun _=>False) wx ((wx.alloc (.cells (B2 {hd0 with typ:=103,name:=name,ms:= -62135596800} (.map none) (.map (some b)) g).toArray 167)).drew):=((Kp.refl _ wx).alloc _).drew
 have st2:=st.kpf hR k;obtain⟨Rf,r1,r2,r3⟩:=st2.rh;exact⟨st2.kp,wx.heap.size,Rf,ubs l,g,b,rfl,st.kp.size,r3,hb,Ba wx _,st2.pmIs hR,r1,r2⟩
theorem FSt.only (st:FSt E B T v S inv R w0 rest l nh pax pm p f h n m wx)(g:Int):∃f0,Calls Tryz.prog 129 #[.pointer (some ⟨w0.heap.size,0,none⟩), .int .i64 g] wx fun e w'=>e=.returned (.tuple #[])∧w'=wx.setCell ⟨w0.heap.size,0,none⟩ (.int .i64 (bits .and .i64 f0 g)):=by
 obtain⟨f0,hf⟩:=st.fmt;exact⟨f0,O4 wx w0.heap.size f0 g 165 hf⟩
theorem FSt.only' (st:FSt E B T v S inv R w0 rest l nh pax pm p f h n m wx)(g:Int):Calls Tryz.prog 129 #[.pointer (some ⟨w0.heap.size,0,none⟩), .int .i64 g] wx fun e w'=>e=.returned (.tuple #[])∧FSt E B T v S inv R w0 rest l nh pax pm p f h n m w':=by
 obtain⟨f0,hc⟩:=st.only hR g;exact hc.mono fun e w' ⟨e1,e2⟩=>⟨e1,by rw[e2];exact st.setFmt hR _⟩
end
theorem Qr {rs:List Rec}{t:List UInt8}(h:RecsT rs t):∀k u,Bf rs k=some u→u.length≤t.length:=by
 induction h with
 |nil=>intro k u h;cases h
 |@cons r rs t ts h hs ih=>
  intro k u hf;have hl:=Gn h;rw[List.length_append];simp only[Bf] at hf;cases e:Bf rs k with
  |some x=>rw[e] at hf;injection hf with hf;subst hf;have:=ih _ _ e;omega
  |none=>
   rw[e] at hf;simp only[Option.none_or] at hf;split at hf
   ·injection hf with hf;subst hf;omega
   ·cases hf
theorem Baf {rs:List Rec}(ho:∀r∈rs,OwnOk r):∀r∈rs,(61:UInt8)∉r.1∧r.1≠[]∧NoNul r.1∧(r.1=Bo∨r.1=Br∨r.1=Bj∨r.1=Bm→NoNul r.2)∧¬Ct <+: r.1∧r.2≠[]:=
 fun r hr=>⟨(ho r hr).key.noEq,(ho r hr).key.ne,(ho r hr).key.noNul,fun _=>(ho r hr).noNul,(ho r hr).key.noSparse,(ho r hr).some⟩
theorem X0 {rs:List Rec}(ho:∀r∈rs,OwnOk r)(h:Hd):Merged h h (Bf rs):=by
 have hn:∀k,k∈Cl→Bf rs k=none:=by
  intro k hk;cases e:Bf rs k with
  |none=>rfl
  |some v=>exact absurd hk (ho _ (Cc _ _ _ e)).key.not_field
 have hm:∀k v,Bf rs k=some v→OwnOk (k,v):=fun k v e=>ho _ (Cc _ _ _ e);refine⟨fun k v e=>(hm k v e).some,fun k v e=>(hm k v e).key.noSchily,fun k v e=>(hm k v e).key.noSparse,rfl,?_,?_,?_,?_,?_,?_,?_,rfl,rfl,rfl,?_,?_,?_⟩
 ·rw[hn Bo (by decide)];rfl
 ·rw[hn Br (by decide)];rfl
 ·rw[hn Bj (by decide)];rfl
 ·rw[hn Bm (by decide)];rfl
 ·rw[hn B1 (by decide)];rfl
 ·rw[hn Ck (by decide)];rfl
 ·rw[hn Cn (by decide)];rfl
 ·rw[hn kMtime (by decide)];exact⟨rfl,rfl⟩
 ·rw[hn kAtime (by decide)];exact⟨rfl,rfl,rfl⟩
 ·rw[hn kCtime (by decide)];exact⟨rfl,rfl,rfl⟩
theorem FSt.withPax {E:Nat→Addr}{B:Nat}{T:TypeId}{v:Value}{S:Nat→Prop}{inv:World→Nat→List UInt8→Prop}{R:Nat}{w0 wx:World}{rest l:List UInt8}{nh:Nat}{pax pax':Option (List Rec)}{pm pm' p:Value}{f:Int}{h:Hd}{n m:Nat}
  (st:FSt E B T v S inv R w0 rest l nh pax pm p f h n m wx) (hp:PaxV w0 pax' pm' wx):FSt E B T v S inv R w0 rest l nh pax' pm' p f h n m wx:=
 ⟨st.rh,st.row,hp,st.kp,st.fmt,st.low,st.old⟩
theorem Eg {h:Hd}(ht:h.typ=120∨h.typ=103∨h.typ=76∨h.typ=75):Cm h=h.size.toNat:=by
 unfold Cm;rcases ht with e|e|e|e<;>rw[e]<;>rfl
theorem Hh {w:World}{base:Nat}{all p:Value}{l:List UInt8}(h:OwnB w base all l)(hl:l.length≤281474976710656)(hne:l≠[]) :
  Calls Tryz.prog 133 #[p,all] w fun e w'=>e=.returned (.string ⟨(textOf l).toArray⟩)∧w'=w:=by
 rcases h.bytes with ⟨rfl,rfl⟩|⟨g,c,rfl,_,_,h3,_,hb⟩
 ·exact absurd rfl hne
 ·exact Ei w p g 0 c l hb hl h3
theorem Vk (w:World)(f g:Int):Calls Tryz.prog 111 #[.int .i64 f, .int .i64 g] w fun e w'=>(∃b:Bool,e=.returned (.bool b))∧w'=w:=
 (Jv w f g).mono fun e w' ⟨h1,h2⟩=>⟨⟨_,h1⟩,h2⟩
end
set_option maxHeartbeats 40000000 in
theorem Bca {E:Nat→Addr}{B:Nat}{T:TypeId}{v:Value}{S:Nat→Prop}{inv:World→Nat→List UInt8→Prop}(hs:IsSrc E B T v S inv)
  (w:World) (R nb pad:Nat) (src:List UInt8) (out:Out) (hi:Bad E B T v S inv R nb pad src w) (hh:HeadP nb pad none [] [] src out) :
  Calls Tryz.prog 78 #[.pointer (some ⟨R,0,none⟩)] w (Lf E B T v S inv R w out):=by
 have HS:=hid hs;have hSw:∀k,S k→k<w.heap.size:=by obtain⟨cur,blk,h,_⟩:=hi;exact(hs.rd.foot h.rd).2
 have hRw:R<w.heap.size:=by obtain⟨cur,blk,h,_⟩:=hi;exact Bv h.row
 have hstart:NxRel E B T v S inv R w out nb pad none [] [] src (.map none) (w.alloc (.cells #[.int .i64 14] 165)):=by
  have ka:Kp (fun _=>False) w (w.alloc (.cells #[.int .i64 14] 165)):=(Kp.refl _ _).alloc _;obtain⟨cur,blk,h1,h2,h3,h4⟩:=hi;exact⟨⟨cur,blk,h1.keep hs.rd ka,h2.keep ka,h3,h4⟩,rfl,hh,ka.mono (fun _ _ h=>h.elim),⟨14,Ba w _⟩,by simp,by intro _ h;cases h⟩
 have H0:=hid hstart;clear hstart hi hh hs;go_enter Tryz.func78,Tryz.ntmps78
 go_wp2_with fail
 go_loopg [4,5,6] src.length (fun k s4 s5 s6 wr=>∃nb pad pax ln ll src' pm,src'.length≤k∧pm=s4∧s5=B5 ln∧s6=B5 ll∧NxRel E B T v S inv R w out nb pad pax ln ll src' pm wr)
 case atStart=>exact⟨nb,pad,none,[],[],src,_,Nat.le_refl _,rfl,rfl,rfl,H0.out⟩
 case round=>
  clear H0;obtain⟨nb,pad,pax,ln,ll,src',pm,hk,rfl,rfl,rfl,rel⟩:=hrel;obtain⟨cur,blk,hin,hcur,hnb,hpad⟩:=rel.inp;obtain⟨cT,cv,pf,rv,rfl,hm,hna,hcf,hph⟩:=hcur.now;have c0:wr.cell? ⟨R,0,none⟩=some (.iface T v):=cell_of hin.row 0 rfl;have c2:wr.cell? ⟨R,2,none⟩=some (.iface cT cv):=cell_of hin.row 2 rfl;have HPH:=hid hph;have HIN:=hid hin;have REL:=hid rel;clear hph hin hcur rel;rcases REL.out.head.split with ⟨hlen,hout⟩|hrest
  ·have HO:=hid hout;clear hout;go_wp2_with fail
   go_region_held3 (fun w'=>w'.cell? ⟨R,0,none⟩=some (.iface T v)∧w'.cell? ⟨R,2,none⟩=some (.iface cT cv))
    (first|(exact⟨hk2.cell (hk1.cell c0 (fun h=>h)) HIN.out.out,hk2.cell (hk1.cell c2 (fun h=>h)) HIN.out.out⟩)|(exact⟨hk1.cell c0 (fun h=>h),hk1.cell c2 (fun h=>h)⟩)|go_keep)
    (first
     |(refine HPH.out.mono ?_;rintro e w1 ⟨rfl,hk1⟩;replace hk1:=((Kp.refl (fun _=>False) wr).drew).trans hk1)
     |(go_at_call 125;refine(HS.out.disc_cut _ nb src' (HIN.out.keep HS.out.rd hk1).glob (HIN.out.keep HS.out.rd hk1).rd hnb hlen).mono ?_;rintro e w2 ⟨rfl,hk2⟩))
   have hra:=hid ((HIN.out.rowAt.keep hk1 (fun h=>h)).keep hk2 HIN.out.out);have hkk:Kp (fun k=>S k∨k=R) w w2:=(REL.out.kp.then hk1 (fun _ _ h=>h.elim)).then hk2 (fun _ _ h=>.inl h);clear hk1 hk2;(go_wp2_with fail);(go_ret2);rw[HO.out];exact⟨hkk,rfl,hra.out⟩
  ·have hlen:nb≤src'.length:=by
    rcases hrest with ⟨d,p,h1,h2,_⟩|⟨d,p,rest,h1,h2,_⟩<;>(rw[h1,List.length_append];omega)
   have HREST:=hid hrest;clear hrest;go_wp2_with fail
   go_region_held3 (fun w'=>w'.cell? ⟨R,0,none⟩=some (.iface T v)∧w'.cell? ⟨R,2,none⟩=some (.iface cT cv))
    (first|(exact⟨hk2.cell (hk1.cell c0 (fun h=>h)) HIN.out.out,hk2.cell (hk1.cell c2 (fun h=>h)) HIN.out.out⟩)|(exact⟨hk1.cell c0 (fun h=>h),hk1.cell c2 (fun h=>h)⟩)|go_keep)
    (first
     |(refine HPH.out.mono ?_;rintro e w1 ⟨rfl,hk1⟩;replace hk1:=((Kp.refl (fun _=>False) wr).drew).trans hk1)
     |(go_at_call 125;refine(HS.out.disc_ok _ nb src' (HIN.out.keep HS.out.rd hk1).glob (HIN.out.keep HS.out.rd hk1).rd hnb hlen).mono ?_;rintro e w2 ⟨rfl,hk2,hin2⟩))
   have hk12:Kp S wr w2:=(hk1.mono (fun _ _ h=>h.elim)).trans hk2;have hi2:RhIn E B T v S inv R (pad:Int) (.iface cT cv) blk .nilIface (src'.drop nb) w2:=HIN.out.move HS.out.rd hk12 hin2;have d0:w2.cell? ⟨R,0,none⟩=some (.iface T v):=cell_of hi2.row 0 rfl;have d1:w2.cell? ⟨R,1,none⟩=some (.int .i64 (pad:Int)):=cell_of hi2.row 1 rfl;have HI2:=hid hi2;have HK12:=hid hk12;have hsl:=fun w a=>Ug w a pad hpad;clear hi2 hk12 hk1 hk2 hin2 c0 c2 hm hna hcf;rcases HREST.out with ⟨d,p,h1,h2,h3,h4⟩|⟨d,p,rest,h1,h2,h3,hb⟩
   ·(have hl2:decide (pad≤(src'.drop nb).length)=false:=by rw[h1,←h2,List.drop_left'];simpa using h3;rfl);have HLEN:=hid hl2;have HO:=hid h4;clear HREST hl2 h1 h2 h3 h4;(go_wp2_with fail);(refine Bh [12] (by kernel_rfl) ?_);simp only[Ce,sD,sE,sF,sG];(repeat still_step);refine wpStill_nil ?_;(go_wp2_with fail);refine(HI2.out.skip HS.out.rd hpad).mono ?_;rintro e w3 ⟨rfl,hk3,blk3,hin3⟩;rw[HLEN.out];have hkk:=(REL.out.kp.then HK12.out (fun _ _ h=>.inl h)).then hk3 (fun _ _ h=>h);have hra:=hid hin3.rowAt;clear hk3 hin3;rw[Bd4];(go_wp2_with fail);(repeat still_step);refine wpStill_nil ?_;(go_wp2_with fail);(go_ret2);rw[HO.out];exact⟨hkk,rfl,hra.out⟩
   ·(have hl2:decide (pad≤(src'.drop nb).length)=true:=by rw[h1,←h2,List.drop_left' rfl,List.length_append];simp;omega);(have hdr:(src'.drop nb).drop pad=rest:=by rw[h1,←h2,List.drop_left' rfl,←h3,List.drop_left' rfl]);(have hlen2:rest.length≤src'.length:=by rw[h1];simp;omega);have HLEN:=hid hl2;have HDR:=hid hdr;have HB:=hid hb;clear HREST hl2 h1 h2 h3 hb hdr;(go_wp2_with fail);(refine Bh [12] (by kernel_rfl) ?_);simp only[Ce,sD,sE,sF,sG];(repeat still_step);refine wpStill_nil ?_;(go_wp2_with fail);refine(HI2.out.skip HS.out.rd hpad).mono ?_;rintro e w3 ⟨rfl,hk3,blk3,hin3⟩;rw[HLEN.out];rw[HDR.out] at hin3;have hkk:=(REL.out.kp.then HK12.out (fun _ _ h=>.inl h)).then hk3 (fun _ _ h=>h);have hf3:∃f,w3.heap[w.heap.size]?=some (.cells #[.int .i64 f] 165 (0,0)):=by
     obtain⟨f,hf⟩:=REL.out.fmt;(have n1:¬S w.heap.size:=fun h=>by have:=hSw _ h;omega);exact⟨f,hk3.heap (HK12.out.heap hf n1) (by rintro(h|h);exact n1 h;omega)⟩
    (have hpx3:PaxV w pax pm w3:=(REL.out.paxv.keep HK12.out hSw).keep hk3 (by rintro k (h|rfl);exact hSw _ h;exact hRw));clear hk3;rw[Bd3];have e1:=cell_of hin3.row 1 rfl;have y1:=Bb hin3.row 1;have HI3:=hid (hin3.setPad HS.out.rd 0);have HKK:=hid (hkk.setCell (p:=⟨R,1,none⟩) (.inl (.inr rfl)) (.int .i64 0));clear hin3 hkk;(go_wp2_with fail);(repeat still_step);refine wpStill_nil ?_;(go_wp2_with fail);have hf4:∃f,(w3.setCell ⟨R,1,none⟩ (.int .i64 0)).heap[w.heap.size]?=some (.cells #[.int .i64 f] 165 (0,0)):=by
     obtain⟨f,hf⟩:=hf3;exact⟨f,Ci hf _ _ (by show w.heap.size≠R;omega)⟩
    (have hpx4:PaxV w pax pm (w3.setCell ⟨R,1,none⟩ (.int .i64 0)):=hpx3.keep (Kp.setCell (S:=(· =R)) (p:=⟨R,1,none⟩) (Kp.refl _ _) (.inl rfl) _) (by rintro k rfl;exact hRw));have HF4:=hid hf4;have HPX:=hid hpx4;have hlens:=hid REL.out.lens;have hplen:=hid REL.out.plen;generalize w3.setCell ⟨R,1,none⟩ (.int .i64 0)=w5 at HI3 HKK HF4 HPX ⊢;clear hf3 hpx3 hf4 hpx4 e1 y1 HLEN HDR HK12 HI2 HIN HPH hsl REL d0 d1;cases hb':HB.out with
    |err _ g hf=>
     refine(Lu HS.out.rd w5 R 0 _ blk3 _ rest HI3.out g hf).mono ?_;rintro e w6 ⟨rfl,hk6,hr6⟩;have hkk6:=HKK.out.then hk6 (fun _ _ h=>h);have hra:=hid hr6;clear hk6 hr6;(go_wp2_with fail);(go_ret2);exact⟨hkk6,rfl,hra.out⟩
    |hdr l rest' h0 fm hl hbr hc=>
     have hsz:0≤h0.size∧h0.size≤4611686018427387904∨B8 h0.typ=false:=by
      cases hc with
      |file _ _ _ _ ht hs _ _ _=>exact hs
      |_=>left;omega
     refine(O7 HS.out.rd w5 R 0 _ blk3 _ l rest' hl HI3.out h0 fm hbr).mono ?_;rintro e w6 ⟨nh,f,rfl,hk6,hi6,hnh,hrow6⟩;(have hw5:w.heap.size<w5.heap.size:=by obtain⟨f,hf⟩:=HF4.out;exact Bv hf);have HB':=hid hbr;have HC':=hid hc;have HSZ:=hid hsz;clear hbr hc hsz hb';(go_wp2_with fail);refine(I3 w6 R nh T v _ _ (ubs l) .nilIface _ h0.typ h0.size hi6.row hrow6 rfl rfl HSZ.out).mono ?_;rintro e w7 hre;obtain⟨rfl,Rf,g1,g2,g3,g4⟩:=hi6.handled HS.out.rd hre;have st:FSt E B T v S inv R w rest' l nh pax pm (.map none) f h0 (Cm h0) (Cm h0) w7:=by
      have k56:=hk6.then g2 (fun _ _ h=>.inr h);obtain⟨fq,hfq⟩:=HF4.out;(have hne:∀k,(S k∨k=R)→k<w.heap.size:=by rintro k (h|rfl);exact hSw _ h;exact hRw);have hs6:=hk6.size;exact⟨⟨Rf,g3,g4,by omega⟩,g2.heap hrow6 (by omega),HPX.out.keep k56 hne,HKK.out.then k56 (fun _ _ h=>h),⟨fq,k56.heap hfq (fun h=>by have:=hne _ h;omega)⟩,by omega,hSw,hRw,by have:=hi6.above;omega⟩
     clear hre g1 g2 g3 g4 hk6 hi6 hnh hrow6 hw5 HSZ HI3 HKK HF4 HPX;have cF:w7.cell? ⟨nh,19,none⟩=some (.int .i64 f):=cell_of st.row 19 rfl;have ST:=hid st;clear st;(go_wp2_with fail);refine(ST.out.only' HS.out.rd _).mono ?_;rintro e w8 ⟨rfl,st8⟩;clear ST cF;have cT:w8.cell? ⟨nh,0,none⟩=some (.int .u8 h0.typ.toNat):=cell_of st8.row 0 rfl;have ST8:=hid st8;clear st8;have hnt:∀n:UInt8,h0.typ≠n→((h0.typ.toNat:Int)==n.toNat)=false:=by
      intro n hn;rw[beq_eq_false_iff_ne];intro e;exact hn (UInt8.toNat_inj.mp (by omega))
     have hyt:∀n:UInt8,h0.typ=n→((h0.typ.toNat:Int)==n.toNat)=true:=by
      rintro n rfl;exact beq_self_eq_true _
     cases hc':HC'.out with
     |file _ _ h1 h2 ht hs hm hn hs2=>
      have t1:((h0.typ.toNat:Int)==120)=false:=hnt 120 ht.2.1;have t2:((h0.typ.toNat:Int)==103)=false:=hnt 103 ht.2.2.1;have t3:((h0.typ.toNat:Int)==76)=false:=hnt 76 ht.2.2.2.1;have t4:((h0.typ.toNat:Int)==75)=false:=hnt 75 ht.2.2.2.2.1;have HT:=hid ht;have HM:Hid (MgO pax h0 h1):=hid hm;have HN:=hid hn;have HS2:=hid hs2;clear hc' HC' hnt hyt ht hm hn hs2;(go_wp2_with fail);refine(ST8.out.merge HS.out.rd HM.out hplen.out).mono ?_;rintro e w9 ⟨rfl,st9⟩;clear ST8 cT;have ST9:=hid st9;clear st9;have e5:B5 ln=.string ⟨ln.toArray⟩:=rfl;have e6:B5 ll=.string ⟨ll.toArray⟩:=rfl;(go_upto_if 87 with fail);go_cut [] from 21 to 203 (fun wx=>Hid (FSt E B T v S inv R w rest' l nh pax pm pm f {h1 with name:=over ln h1.name} (Cm h0) (Cm h0) wx))
      case first=>
       have cc:w9.cell? ⟨nh,1,none⟩=some (B5 h1.name):=cell_of ST9.out.row 1 rfl;have zz:=Bb ST9.out.row 1;cases ln with
       |nil=>
        (go_wp2_with fail);go_meet
        case rel=>exact ST9.out
       |cons x xs=>
        (go_wp2_with fail);go_meet
        case rel=>exact ST9.out.set HS.out.rd 1 _ rfl
      (go_upto_if 93 with fail);go_cut [] from 21 to 203 (fun wx=>Hid (FSt E B T v S inv R w rest' l nh pax pm pm f {h1 with name:=over ln h1.name,link:=over ll h1.link} (Cm h0) (Cm h0) wx))
      case first=>
       have cc:wc.cell? ⟨nh,2,none⟩=some (B5 h1.link):=cell_of hcut.out.row 2 rfl;have zz:=Bb hcut.out.row 2;cases ll with
       |nil=>
        (go_wp2_with fail);go_meet
        case rel=>exact hcut.out
       |cons x xs=>
        (go_wp2_with fail);go_meet
        case rel=>exact hcut.out.set HS.out.rd 2 _ rfl
      have hty:h2.typ=h0.typ:=by
       rw[HN.out];have hm:=HM.out;cases pax with
       |none=>rw[show h1=h0 from hm]
       |some rs=>exact(show Merged h0 h1 (Bf rs) from hm).typ
      have hns:∀rs,pax=some rs→∀k u,Bf rs k=some u→¬Ct <+: k:=by
       rintro rs rfl;exact(show Merged h0 h1 (Bf rs) from HM.out).noSparse
      have t0:((h2.typ.toNat:Int)==0)=false:=by
       rw[hty,beq_eq_false_iff_ne];have:=HT.out.1;omega
      (have ht83:h2.typ≠83:=by rw[hty];exact HT.out.2.2.2.2.2);(have STC:Hid (FSt E B T v S inv R w rest' l nh pax pm pm f h2 (Cm h0) (Cm h0) wc):=by rw[HN.out];exact hcut.out);have HTY:=hid ht83;have HNS:=hid hns;clear hcut ht83 hns hty HT HM HN;have cT:wc.cell? ⟨nh,0,none⟩=some (.int .u8 h2.typ.toNat):=cell_of STC.out.row 0 rfl;(go_wp2_with fail);refine(STC.out.handle HS.out.rd HS2.out).mono ?_;rintro e w10 ⟨rfl,st10⟩;clear STC cT t0;have ST10:=hid st10;clear st10;(go_wp2_with fail);refine(ST10.out.sparse HS.out.rd HTY.out HNS.out _ _).mono ?_;rintro e w11 ⟨rfl,st11⟩;clear ST10;obtain⟨g11,hg11⟩:=st11.fmt;have ST11:=hid st11;have cg:w11.cell? ⟨w.heap.size,0,none⟩=some (.int .i64 g11):=cell_of hg11 0 rfl;clear st11 hg11;have zn:=Bb ST11.out.row 19;have cn:w11.cell? ⟨nh,19,none⟩=some (.int .i64 f):=cell_of ST11.out.row 19 rfl;have FIN:∀(g:Int) (wz:World),FSt E B T v S inv R w rest' l nh pax pm pm f h2 (Cm h2) (Cm h2) wz→Lf E B T v S inv R w (Out.file h2 pax rest') (.returned (.tuple #[.pointer (some ⟨nh,0,none⟩), .nilIface])) (wz.setCell ⟨nh,19,none⟩ (.int .i64 g)):=by
       intro g wz st;have sg:FSt E B T v S inv R w rest' l nh pax pm pm g h2 (Cm h2) (Cm h2) (wz.setCell ⟨nh,19,none⟩ (.int .i64 g)):=st.set HS.out.rd 19 _ rfl;obtain⟨Rf,r1,r2,r3⟩:=sg.rh;refine⟨sg.kp,nh,Rf,ubs l,g,pm,rfl,Nat.le_of_lt sg.low,r3,sg.row,sg.pmIs HS.out.rd,?_,r1,r2⟩;rintro b rfl;have hp:=sg.paxv;cases pax with
       |none=>cases (show Value.map (some b)=.map none from hp)
       |some rs=>
        obtain⟨b',q,e1,e2,_⟩:=hp;(injection e1 with e1);(injection e1 with e1);omega
      (go_wp2_with fail);refine(Vk w11 _ _).mono ?_;rintro e wq ⟨⟨b1,rfl⟩,rfl⟩;cases b1
      ·(go_wp2_with fail);(go_ret2);exact FIN _ _ ST11.out
      ·(go_wp2_with fail);refine(Vk _ _ _).mono ?_;rintro e wq ⟨⟨b2,rfl⟩,rfl⟩;cases b2
       ·(go_wp2_with fail);(go_ret2);exact FIN _ _ ST11.out
       ·(go_wp2_with fail);refine(ST11.out.only' HS.out.rd _).mono ?_;rintro e w12 ⟨rfl,st12⟩;obtain⟨g12,hg12⟩:=st12.fmt;have ST12:=hid st12;have cg12:w12.cell? ⟨w.heap.size,0,none⟩=some (.int .i64 g12):=cell_of hg12 0 rfl;have zn12:=Bb ST12.out.row 19;have cn12:w12.cell? ⟨nh,19,none⟩=some (.int .i64 f):=cell_of ST12.out.row 19 rfl;clear ST11 cg cn zn st12 hg12;(go_wp2_with fail);(go_ret2);exact FIN _ _ ST12.out
     |glob t rest2 _ rs ht hs hr hk htl=>
      (have t1:((h0.typ.toNat:Int)==120)=false:=hnt 120 (by rw[ht];decide));have t2:((h0.typ.toNat:Int)==103)=true:=hyt 103 ht;(have hdl:Cm h0=t.length:=by rw[Eg (.inr (.inl ht))];omega);have HT:=hid ht;have HR:=hid hr;have HK:=hid hk;have HL2:=hid htl;have HDL:=hid hdl;clear hc' HC' hnt hyt ht hs hr hk htl hdl;(go_wp2_with fail);refine(ST8.out.only' HS.out.rd _).mono ?_;rintro e w9 ⟨rfl,st9⟩;clear ST8 cT;rw[HDL.out] at st9;(obtain⟨S2,inv2,q1,q2,q3,q4,q6,q5⟩:=st9.spec HS.out.rd (by have:=HL2.out;omega));(rw[List.take_left' rfl,Ey (by rw[List.length_append];omega)] at q3);rw[List.drop_left' rfl] at q5;have Q1:=hid q1;have Q2:=hid q2;have Q3:=hid q3;have Q4:=hid q4;have Q5:=hid q5;have hs9:=hid st9.kp.size;clear q1 q2 q3 q4 q5 q6 st9;(go_wp2_with fail);refine(J4 Q1.out w9 rs t Q2.out Q3.out HL2.out HR.out (Baf HK.out)).mono ?_;rintro e w10 ⟨b,n',rfl,hb,hn',hmap,hk10,hi10⟩;(have st10:FSt E B T v S inv R w rest2 l nh (some rs) (.map (some b)) (.map none) f h0 t.length 0 w10:=(Q5.out w10 hk10 hi10).withPax ⟨b,n',rfl,by have:=hs9.out;omega,hmap⟩);(have hbw:w.heap.size≤b:=by have:=hs9.out;omega);have HBW:=hid hbw;clear Q1 Q2 Q3 Q4 Q5 hmap hk10 hi10 hn' hb hbw hs9;have cT:w10.cell? ⟨nh,0,none⟩=some (.int .u8 h0.typ.toNat):=cell_of st10.row 0 rfl;have ST10:=hid st10;clear st10;(go_wp2_with fail);refine(ST10.out.merge HS.out.rd (h1:=h0) (X0 HK.out h0) ?_).mono ?_
      ·rintro rs' e k u hu;(injection e with e);subst e;exact Nat.le_trans (Qr HR.out k u hu) HL2.out
      rintro e w11 ⟨rfl,st11⟩;clear ST10 cT t1 t2;have cT:w11.cell? ⟨nh,0,none⟩=some (.int .u8 103):=by
       have h:w11.cell? ⟨nh,0,none⟩=some (.int .u8 h0.typ.toNat):=cell_of st11.row 0 rfl;rw[h,HT.out];rfl
      have cN:w11.cell? ⟨nh,1,none⟩=some (.string ⟨h0.name.toArray⟩):=cell_of st11.row 1 rfl;have cX:w11.cell? ⟨nh,17,none⟩=some (.map none):=cell_of st11.row 17 rfl;have cP:w11.cell? ⟨nh,18,none⟩=some (.map (some b)):=cell_of st11.row 18 rfl;obtain⟨g11,hg11⟩:=st11.fmt;have cg:w11.cell? ⟨w.heap.size,0,none⟩=some (.int .i64 g11):=cell_of hg11 0 rfl;have ST11:=hid st11;clear st11 hg11;(go_wp2_with fail);go_region
      all_goals
       (go_wp2_with fail);(go_ret2);exact ST11.out.globOut HS.out.rd HBW.out h0.name g11 _ rfl
     |pax t rest2 _ rs ht hs hr htl hk hh=>
      have t1:((h0.typ.toNat:Int)==120)=true:=hyt 120 ht;(have t2:((h0.typ.toNat:Int)==103)=false:=hnt 103 (by rw[ht];decide));(have hdl:Cm h0=t.length:=by rw[Eg (.inl ht)];omega);have HR:=hid hr;have HK:=hid hk;have HH:=hid hh;have HL2:=hid htl;have HDL:=hid hdl;have hmeas:rest2.length<src'.length:=by
       simp only[List.length_append] at hlen2;omega
      have HME:=hid hmeas;clear hc' HC' hnt hyt ht hs hr hk htl hdl hh hmeas;(go_wp2_with fail);refine(ST8.out.only' HS.out.rd _).mono ?_;rintro e w9 ⟨rfl,st9⟩;clear ST8 cT;rw[HDL.out] at st9;(obtain⟨S2,inv2,q1,q2,q3,q4,q6,q5⟩:=st9.spec HS.out.rd (by have:=HL2.out;omega));(rw[List.take_left' rfl,Ey (by rw[List.length_append];omega)] at q3);rw[List.drop_left' rfl] at q5;have Q1:=hid q1;have Q2:=hid q2;have Q3:=hid q3;have Q4:=hid q4;have Q5:=hid q5;have hs9:=hid st9.kp.size;clear q1 q2 q3 q4 q5 q6 st9;(go_wp2_with fail);refine(J4 Q1.out w9 rs t Q2.out Q3.out HL2.out HR.out HK.out).mono ?_;rintro e w10 ⟨b,n',rfl,hb,hn',hmap,hk10,hi10⟩;(have st10:FSt E B T v S inv R w rest2 l nh (some rs) (.map (some b)) (.map none) f h0 t.length 0 w10:=(Q5.out w10 hk10 hi10).withPax ⟨b,n',rfl,by have:=hs9.out;omega,hmap⟩);clear Q1 Q2 Q3 Q4 Q5 hmap hk10 hi10 hn' hb hs9;have cT:w10.cell? ⟨nh,0,none⟩=some (.int .u8 h0.typ.toNat):=cell_of st10.row 0 rfl;have ST10:=hid st10;clear st10;(go_wp2_with fail);go_roundg rest2.length
      case measure=>have:=HME.out;omega
      case rel=>
       refine⟨0,Cv t.length,some rs,ln,ll,rest2,_,Nat.le_refl _,rfl,rfl,rfl,ST10.out.round HS.out.rd (Nat.zero_le _) ST10.out.paxv HH.out hlens.out ?_⟩;rintro rs' e k u hu;(injection e with e);subst e;exact Nat.le_trans (Qr HR.out k u hu) HL2.out
     |name s rest2 _ ht hs hz htl hh=>
      (have t1:((h0.typ.toNat:Int)==120)=false:=hnt 120 (by rw[ht];decide));(have t2:((h0.typ.toNat:Int)==103)=false:=hnt 103 (by rw[ht];decide));have t3:((h0.typ.toNat:Int)==76)=true:=hyt 76 ht;(have t4:((h0.typ.toNat:Int)==75)=false:=hnt 75 (by rw[ht];decide));(have hdl:Cm h0=s.length+1:=by rw[Eg (.inr (.inr (.inl ht)))];omega);(have hsp:s++0::rest2=(s++[0])++rest2:=by simp);(have hsl:(s++[0]).length=s.length+1:=by simp);have HZ:=hid hz;have HH:=hid hh;have HL2:=hid htl;have HDL:=hid hdl;have hmeas:rest2.length<src'.length:=by
       simp only[List.length_append,List.length_cons] at hlen2;omega
      have HME:=hid hmeas;clear hc' HC' hnt hyt ht hs hz htl hdl hh hmeas;have HSP:=hid hsp;have HSL:=hid hsl;clear hsp hsl;(go_wp2_with fail);refine(ST8.out.only' HS.out.rd _).mono ?_;rintro e w9 ⟨rfl,st9⟩;clear ST8 cT;rw[HDL.out] at st9;(obtain⟨S2,inv2,q1,q2,q3,q4,q6,q5⟩:=st9.spec HS.out.rd (by have:=HL2.out;omega));(rw[HSP.out,List.take_left' HSL.out,Ey (by rw[List.length_append,HSL.out];omega)] at q3);rw[HSP.out,List.drop_left' HSL.out] at q5;have Q1:=hid q1;have Q2:=hid q2;have Q3:=hid q3;have Q4:=hid q4;have Q5:=hid q5;clear q1 q2 q3 q4 q5 q6 st9;(go_wp2_with fail);(refine(Cw Q1.out w9 0 (s++[0]) Q2.out Q3.out (by rw[HSL.out];have:=HL2.out;omega)).mono ?_);rintro e w10 ⟨all,rfl,hown,hk10,hi10⟩;have st10:FSt E B T v S inv R w rest2 l nh pax pm (.map none) f h0 (s.length+1) 0 w10:=Q5.out w10 hk10 hi10;clear Q1 Q2 Q3 Q4 Q5 hk10 hi10;have cT:w10.cell? ⟨nh,0,none⟩=some (.int .u8 h0.typ.toNat):=cell_of st10.row 0 rfl;have cTa:∀o:Obj,(w10.alloc o).cell? ⟨nh,0,none⟩=some (.int .u8 h0.typ.toNat):=fun o=>((Kp.refl (fun _=>False) w10).alloc o).cell cT (fun h=>h);have ST10:=hid st10;have HO:=hid hown;clear st10 hown;rw[if_pos rfl];have HPS:∀(o:Obj) (p:Value),Calls Tryz.prog 133 #[p,all] (w10.alloc o) fun e w'=>e=.returned (.string ⟨s.toArray⟩)∧w'=w10.alloc o:=by
       intro o p;(have:=Hh (p:=p) (HO.out.keep ((Kp.refl (fun _=>False) w10).alloc o) (fun _ _ h=>h)) (by rw[HSL.out];have:=HL2.out;omega) (by simp));rwa[Jg s [] HZ.out] at this
      have HPSH:=fun o p=>hid (HPS o p);clear HPS;(go_wp2_with fail);refine(HPSH _ _).out.mono ?_;rintro e w12 ⟨rfl,rfl⟩;(go_wp2_with fail);go_roundg rest2.length
      case measure=>have:=HME.out;omega
      case rel=>
       have ST12:∀o:Obj,FSt E B T v S inv R w rest2 l nh pax pm (.map none) f h0 (s.length+1) 0 (w10.alloc o):=fun o=>ST10.out.kpf HS.out.rd ((Kp.refl (fun _=>False) w10).alloc o);exact⟨0,Cv (s.length+1),pax,s,ll,rest2,_,Nat.le_refl _,rfl,rfl,rfl,(ST12 _).round HS.out.rd (Nat.zero_le _) (ST12 _).paxv HH.out ⟨by have:=HL2.out;omega,hlens.out.2⟩ hplen.out⟩
     |link s rest2 _ ht hs hz htl hh=>
      (have t1:((h0.typ.toNat:Int)==120)=false:=hnt 120 (by rw[ht];decide));(have t2:((h0.typ.toNat:Int)==103)=false:=hnt 103 (by rw[ht];decide));(have t3:((h0.typ.toNat:Int)==76)=false:=hnt 76 (by rw[ht];decide));have t4:((h0.typ.toNat:Int)==75)=true:=hyt 75 ht;(have hdl:Cm h0=s.length+1:=by rw[Eg (.inr (.inr (.inr ht)))];omega);(have hsp:s++0::rest2=(s++[0])++rest2:=by simp);(have hsl:(s++[0]).length=s.length+1:=by simp);have HZ:=hid hz;have HH:=hid hh;have HL2:=hid htl;have HDL:=hid hdl;have hmeas:rest2.length<src'.length:=by
       simp only[List.length_append,List.length_cons] at hlen2;omega
      have HME:=hid hmeas;clear hc' HC' hnt hyt ht hs hz htl hdl hh hmeas;have HSP:=hid hsp;have HSL:=hid hsl;clear hsp hsl;(go_wp2_with fail);refine(ST8.out.only' HS.out.rd _).mono ?_;rintro e w9 ⟨rfl,st9⟩;clear ST8 cT;rw[HDL.out] at st9;(obtain⟨S2,inv2,q1,q2,q3,q4,q6,q5⟩:=st9.spec HS.out.rd (by have:=HL2.out;omega));(rw[HSP.out,List.take_left' HSL.out,Ey (by rw[List.length_append,HSL.out];omega)] at q3);rw[HSP.out,List.drop_left' HSL.out] at q5;have Q1:=hid q1;have Q2:=hid q2;have Q3:=hid q3;have Q4:=hid q4;have Q5:=hid q5;clear q1 q2 q3 q4 q5 q6 st9;(go_wp2_with fail);(refine(Cw Q1.out w9 0 (s++[0]) Q2.out Q3.out (by rw[HSL.out];have:=HL2.out;omega)).mono ?_);rintro e w10 ⟨all,rfl,hown,hk10,hi10⟩;have st10:FSt E B T v S inv R w rest2 l nh pax pm (.map none) f h0 (s.length+1) 0 w10:=Q5.out w10 hk10 hi10;clear Q1 Q2 Q3 Q4 Q5 hk10 hi10;have cT:w10.cell? ⟨nh,0,none⟩=some (.int .u8 h0.typ.toNat):=cell_of st10.row 0 rfl;have cTa:∀o:Obj,(w10.alloc o).cell? ⟨nh,0,none⟩=some (.int .u8 h0.typ.toNat):=fun o=>((Kp.refl (fun _=>False) w10).alloc o).cell cT (fun h=>h);have ST10:=hid st10;have HO:=hid hown;clear st10 hown;rw[if_pos rfl];have HPS:∀(o:Obj) (p:Value),Calls Tryz.prog 133 #[p,all] (w10.alloc o) fun e w'=>e=.returned (.string ⟨s.toArray⟩)∧w'=w10.alloc o:=by
       intro o p;(have:=Hh (p:=p) (HO.out.keep ((Kp.refl (fun _=>False) w10).alloc o) (fun _ _ h=>h)) (by rw[HSL.out];have:=HL2.out;omega) (by simp));rwa[Jg s [] HZ.out] at this
      have HPSH:=fun o p=>hid (HPS o p);clear HPS;(go_wp2_with fail);refine(HPSH _ _).out.mono ?_;rintro e w12 ⟨rfl,rfl⟩;(go_wp2_with fail);go_roundg rest2.length
      case measure=>have:=HME.out;omega
      case rel=>
       have ST12:∀o:Obj,FSt E B T v S inv R w rest2 l nh pax pm (.map none) f h0 (s.length+1) 0 (w10.alloc o):=fun o=>ST10.out.kpf HS.out.rd ((Kp.refl (fun _=>False) w10).alloc o);exact⟨0,Cv (s.length+1),pax,ln,s,rest2,_,Nat.le_refl _,rfl,rfl,rfl,(ST12 _).round HS.out.rd (Nat.zero_le _) (ST12 _).paxv HH.out ⟨hlens.out.1,by have:=HL2.out;omega⟩ hplen.out⟩
     |cut _ _ ht hs htl hsm=>
      have hdl:Cm h0=h0.size.toNat:=Eg ht;(have hlt:rest'.length<h0.size.toNat:=by omega);(have hbd:h0.size.toNat≤4611686018427387904:=by omega);have HDL:=hid hdl;have HLT:=hid hlt;have HBD:=hid hbd;have HL2:=hid htl;clear hc' HC' hs htl hsm hdl hlt hbd;rcases ht with ht|ht|ht|ht
      ·have t1:((h0.typ.toNat:Int)==120)=true:=hyt 120 ht;clear hnt hyt ht;(go_wp2_with fail);refine(ST8.out.only' HS.out.rd _).mono ?_;rintro e w9 ⟨rfl,st9⟩;clear ST8 cT;rw[HDL.out] at st9;obtain⟨S2,inv2,q1,q2,q3,q4,q6,q5⟩:=st9.spec HS.out.rd HBD.out;(rw[List.take_of_length_le (Nat.le_of_lt HLT.out),Ho (by have:=HLT.out;omega)] at q3);have Q1:=hid q1;have Q2:=hid q2;have Q3:=hid q3;have Q4:=hid q4;have Q6:=hid q6;clear q1 q2 q3 q4 q5 q6 st9;(go_wp2_with fail);refine(J5 Q1.out w9 rest' Q2.out Q3.out HL2.out).mono ?_;rintro e w10 ⟨rfl,hk10,hi10⟩;have hkk:=Q4.out w10 hk10;have hra:=hid (Q6.out w10 _ hi10);clear Q1 Q2 Q3 Q4 Q6 hk10 hi10;(go_wp2_with fail);(go_ret2);exact⟨hkk,rfl,hra.out⟩
      ·(have t1:((h0.typ.toNat:Int)==120)=false:=hnt 120 (by rw[ht];decide));have t2:((h0.typ.toNat:Int)==103)=true:=hyt 103 ht;clear hnt hyt ht;(go_wp2_with fail);refine(ST8.out.only' HS.out.rd _).mono ?_;rintro e w9 ⟨rfl,st9⟩;clear ST8 cT;rw[HDL.out] at st9;obtain⟨S2,inv2,q1,q2,q3,q4,q6,q5⟩:=st9.spec HS.out.rd HBD.out;(rw[List.take_of_length_le (Nat.le_of_lt HLT.out),Ho (by have:=HLT.out;omega)] at q3);have Q1:=hid q1;have Q2:=hid q2;have Q3:=hid q3;have Q4:=hid q4;have Q6:=hid q6;clear q1 q2 q3 q4 q5 q6 st9;(go_wp2_with fail);refine(J5 Q1.out w9 rest' Q2.out Q3.out HL2.out).mono ?_;rintro e w10 ⟨rfl,hk10,hi10⟩;have hkk:=Q4.out w10 hk10;have hra:=hid (Q6.out w10 _ hi10);clear Q1 Q2 Q3 Q4 Q6 hk10 hi10;(go_wp2_with fail);(go_ret2);exact⟨hkk,rfl,hra.out⟩
      ·(have t1:((h0.typ.toNat:Int)==120)=false:=hnt 120 (by rw[ht];decide));(have t2:((h0.typ.toNat:Int)==103)=false:=hnt 103 (by rw[ht];decide));have t3:((h0.typ.toNat:Int)==76)=true:=hyt 76 ht;clear hnt hyt ht;(go_wp2_with fail);refine(ST8.out.only' HS.out.rd _).mono ?_;rintro e w9 ⟨rfl,st9⟩;clear ST8 cT;rw[HDL.out] at st9;obtain⟨S2,inv2,q1,q2,q3,q4,q6,q5⟩:=st9.spec HS.out.rd HBD.out;(rw[List.take_of_length_le (Nat.le_of_lt HLT.out),Ho (by have:=HLT.out;omega)] at q3);have Q1:=hid q1;have Q2:=hid q2;have Q3:=hid q3;have Q4:=hid q4;have Q6:=hid q6;clear q1 q2 q3 q4 q5 q6 st9;(go_wp2_with fail);refine(Cw Q1.out w9 5 rest' Q2.out Q3.out HL2.out).mono ?_;rintro e w10 ⟨all,rfl,_,hk10,hi10⟩;(rw[if_neg (by decide)]);have hkk:=Q4.out w10 hk10;have hra:=hid (Q6.out w10 _ hi10);clear Q1 Q2 Q3 Q4 Q6 hk10 hi10;(go_wp2_with fail);(go_ret2);exact⟨hkk,rfl,hra.out⟩
      ·(have t1:((h0.typ.toNat:Int)==120)=false:=hnt 120 (by rw[ht];decide));(have t2:((h0.typ.toNat:Int)==103)=false:=hnt 103 (by rw[ht];decide));(have t3:((h0.typ.toNat:Int)==76)=false:=hnt 76 (by rw[ht];decide));have t4:((h0.typ.toNat:Int)==75)=true:=hyt 75 ht;clear hnt hyt ht;(go_wp2_with fail);refine(ST8.out.only' HS.out.rd _).mono ?_;rintro e w9 ⟨rfl,st9⟩;clear ST8 cT;rw[HDL.out] at st9;obtain⟨S2,inv2,q1,q2,q3,q4,q6,q5⟩:=st9.spec HS.out.rd HBD.out;(rw[List.take_of_length_le (Nat.le_of_lt HLT.out),Ho (by have:=HLT.out;omega)] at q3);have Q1:=hid q1;have Q2:=hid q2;have Q3:=hid q3;have Q4:=hid q4;have Q6:=hid q6;clear q1 q2 q3 q4 q5 q6 st9;(go_wp2_with fail);refine(Cw Q1.out w9 5 rest' Q2.out Q3.out HL2.out).mono ?_;rintro e w10 ⟨all,rfl,_,hk10,hi10⟩;(rw[if_neg (by decide)]);have hkk:=Q4.out w10 hk10;have hra:=hid (Q6.out w10 _ hi10);clear Q1 Q2 Q3 Q4 Q6 hk10 hi10;(go_wp2_with fail);(go_ret2);exact⟨hkk,rfl,hra.out⟩
theorem RhIn.setErr {E:Nat→Addr}{B:Nat}{T:TypeId}{v:Value}{S:Nat→Prop}{inv:World→Nat→List UInt8→Prop}(hR:IsRd E B T v S inv)
  {R:Nat} {pad:Int} {curr:Value} {blk:List Value} {err:Value} {rest:List UInt8} {w:World} (h:RhIn E B T v S inv R pad curr blk err rest w) (q:Value) :
  RhIn E B T v S inv R pad curr blk q rest (w.setCell ⟨R,515,none⟩ q):=by
 have k:Kp (· =R) w (w.setCell ⟨R,515,none⟩ q):=Kp.setCell (S:=(· =R)) (p:=⟨R,515,none⟩) (Kp.refl _ w) (.inl rfl) _;have h16:=h.low;have hab:=h.above;have hset:=heap_set h.row 515 q;rw[Gf h.blen] at hset;exact⟨h.glob.keep k (by rintro b rfl;exact h.above),Utf8Tabs.keep h.tabs k (fun h1=>by omega) (fun h1=>by omega),h.low,hR.frame h.rd (fun b hb=>k.block b ((hR.foot h.rd).2 b hb) (fun e=>h.out (e▸hb))),hset,h.blen,h.out,h.above⟩
theorem RowAt.setErr {w:World}{R:Nat}(h:RowAt w R)(q:Value):RowAt (w.setCell ⟨R,515,none⟩ q) R:=by
 obtain⟨x,pad,cur,blk,err,h1,h2⟩:=h;have:=heap_set h2 515 q;rw[Gf h1] at this;exact⟨x,pad,cur,blk,q,h1,this⟩
theorem RowAt.cell {w:World}{R:Nat}(h:RowAt w R):(∃q,w.cell? ⟨R,515,none⟩=some q)∧w.frozen? ⟨R,515,none⟩=false:=by
 obtain⟨x,pad,cur,blk,err,h1,h2⟩:=h;exact⟨⟨err,cell_of h2 515 (Iq h1)⟩,Bb h2 515⟩
theorem Bf0 {E:Nat→Addr}{B:Nat}{T:TypeId}{v:Value}{S:Nat→Prop}{inv:World→Nat→List UInt8→Prop}(hs:IsSrc E B T v S inv)
  (w:World) (R nb pad:Nat) (src:List UInt8) (out:Out) (hi:Bad E B T v S inv R nb pad src w) (hh:HeadP nb pad none [] [] src out) :
  Calls Tryz.prog 43 #[.pointer (some ⟨R,0,none⟩)] w (Lf E B T v S inv R w out):=by
 have c4:w.cell? ⟨R,515,none⟩=some .nilIface:=by
  obtain⟨cur,blk,h,_⟩:=hi;exact cell_of h.row 515 (by rw[List.getElem?_toArray];simp[Cz,h.blen])
 have HC:=hid (Bca hs w R nb pad src out hi hh);have hRw:R<w.heap.size:=by obtain⟨cur,blk,h,_⟩:=hi;exact Bv h.row
 clear hi hh;go_enter Tryz.func43,Tryz.ntmps43
 go_wp2_with fail
 refine HC.out.mono ?_;rintro e w1 h1;have kset:∀q,Kp (· =R) w1 (w1.setCell ⟨R,515,none⟩ q):=fun q=>Kp.setCell (S:=(· =R)) (p:=⟨R,515,none⟩) (Kp.refl _ w1) (.inl rfl) _;cases out with
 |fail g=>
  obtain⟨kp,rfl,hr⟩:=h1;obtain⟨⟨q,hq⟩,hz⟩:=hr.cell;have fin:Lf E B T v S inv R w (.fail g) (.returned (.tuple #[.pointer none,By (E g)])) (w1.setCell ⟨R,515,none⟩ (By (E g))):=⟨kp.then (kset _) (fun _ _ h=>.inr h),rfl,hr.setErr _⟩;obtain⟨et,ev,he⟩:∃t v,By (E g)=.iface t v:=⟨_,_,rfl⟩;rw[he] at fin ⊢;have FIN:=hid fin;clear fin hr HC c4 kset kp he;go_wp2_with fail
  go_ret2
  exact FIN.out
 |file h pax src'=>
  obtain⟨kp,nh,Rf,blk,f,pm,rfl,h1,h2,h3,h4,h5,h6,h7⟩:=h1;obtain⟨⟨q,hq⟩,hz⟩:=h6.rowAt.cell;have fin:Lf E B T v S inv R w (.file h pax src') (.returned (.tuple #[.pointer (some ⟨nh,0,none⟩), .nilIface])) (w1.setCell ⟨R,515,none⟩ .nilIface):=
   ⟨kp.then (kset _) (fun _ _ h=>.inr h),nh,Rf,blk,f,pm,rfl,h1,h2,(kset _).heap h3 (by omega),h4.keep (kset _) (fun b e=>by have:=h5 b e;omega),h5,h6.setErr hs.rd _,(kset _).heap h7 (by omega)⟩
  have FIN:=hid fin;clear fin HC c4 kset kp h3 h4 h6 h7;go_wp2_with fail
  go_ret2
  exact FIN.out
 |glob name rs pad' src'=>
  obtain⟨kp,nh,Rf,blk,f,b,rfl,h1,h2,h3,h4,h5,h6,h7⟩:=h1;obtain⟨⟨q,hq⟩,hz⟩:=h6.rowAt.cell;have fin:Lf E B T v S inv R w (.glob name rs pad' src') (.returned (.tuple #[.pointer (some ⟨nh,0,none⟩), .nilIface])) (w1.setCell ⟨R,515,none⟩ .nilIface):=
   ⟨kp.then (kset _) (fun _ _ h=>.inr h),nh,Rf,blk,f,b,rfl,h1,h2,h3,(kset _).heap h4 (by omega),h5.keep (kset _) (fun b' e=>by injection e with e;injection e with e;omega),h6.setErr hs.rd _,(kset _).heap h7 (by omega)⟩
  have FIN:=hid fin;clear fin HC c4 kset kp h4 h5 h6 h7;go_wp2_with fail
  go_ret2
  exact FIN.out
end Go.Proofs.YtgfcnjfmmjcodaaGreatDoor
