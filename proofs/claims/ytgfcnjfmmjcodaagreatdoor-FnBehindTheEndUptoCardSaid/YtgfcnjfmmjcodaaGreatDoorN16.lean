/- The states of next. -/
import Derived.Deep.RegionHeld3
import Derived.Deep.DrawnRows
import Derived.Test.YtgfcnjfmmjcodaaGreatDoorN15
set_option linter.all false
set_option maxRecDepth 100000
set_option maxHeartbeats 1000000
open Go.Lib (hid)
namespace Go.Proofs.YtgfcnjfmmjcodaaGreatDoor
open Go Go.RowKit
structure IsSrc (E:Nat→Addr)(B:Nat)(T:TypeId)(v:Value)(S:Nat→Prop)(inv:World→Nat→List UInt8→Prop):Prop where
 rd:IsRd E B T v S inv
 disc:∀(w:World) (n:Nat) (rest:List UInt8),Glob E B w→inv w 0 rest→n≤2305843009213693952→Calls Tryz.prog 125 #[.iface T v, .int .i64 n] w (DsEnd E S inv w rest n)
def CurOk (w:World)(cur:Value)(nb:Nat):Prop:=
 ∃Sc:Nat→Prop,(∀k,Sc k→k<w.heap.size)∧∃cT cv,cur=.iface cT cv∧∀w':World,(∀k,Sc k→w'.heap[k]?=w.heap[k]?) →
  ∃ f rv, (method 560 cT cv "tapearchives/pub/gotar.physicalRemaining").run Tryz.prog w' = .ok (f, rv) w' ∧
  (nilAhead 560 cT cv "tapearchives/pub/gotar.physicalRemaining").run Tryz.prog w' = .ok (some false) w' ∧ (∀ args w, (callFunc f args).run Tryz.prog w = .ok (.enter f args) w) ∧
  Calls Tryz.prog f #[rv] w' fun e w''=>e=.returned (.int .i64 nb)∧Kp (fun _=>False) w' w''
theorem info150' : ∀ w b, (nilAhead 560 150 (.pointer (some ⟨b, 0, none⟩)) "tapearchives/pub/gotar.physicalRemaining").run Tryz.prog w = .ok (some false) w := fun _ _ => by kernel_rfl
theorem curOk_reg {w:World}{b:Nat}{r:Value}{nb:Nat}(h:w.heap[b]?=some (.cells #[r, .int .i64 nb] 152 (0,0))):CurOk w (.iface 150 (.pointer (some ⟨b,0,none⟩))) nb:=
 ⟨(· =b),(by rintro k rfl;exact lt_of h),150,_,rfl,fun w' hw'=>⟨382,_,meth_phys w' b r nb ((hw' b rfl).trans h),info150' w' b,fun _ _=>by kernel_rfl,(phys_reg w' r nb).mono fun e w'' ⟨h1,h2⟩=>⟨h1,by rw[h2];exact(Kp.refl _ _).alloc _⟩⟩⟩
theorem CurOk.keep {w w':World}{cur:Value}{nb:Nat}(h:CurOk w cur nb)(k:Kp (fun _=>False) w w'):CurOk w' cur nb:=by
 obtain⟨Sc,h1,cT,cv,rfl,h2⟩:=h
 exact⟨Sc,fun k' hk=>Nat.lt_of_lt_of_le (h1 k' hk) k.size,cT,cv,rfl,fun x hx=>h2 x fun k' hk=>(hx k' hk).trans (k.block k' (h1 k' hk) (fun h=>h))⟩
theorem CurOk.now {w : World} {cur : Value} {nb : Nat} (h : CurOk w cur nb) : ∃ cT cv f rv, cur = .iface cT cv ∧ (method 560 cT cv "tapearchives/pub/gotar.physicalRemaining").run Tryz.prog w.drew = .ok (f, rv) w.drew ∧
  (nilAhead 560 cT cv "tapearchives/pub/gotar.physicalRemaining").run Tryz.prog w.drew = .ok (some false) w.drew ∧ (∀ args w, (callFunc f args).run Tryz.prog w = .ok (.enter f args) w) ∧
  Calls Tryz.prog f #[rv] w.drew fun e w''=>e=.returned (.int .i64 nb)∧Kp (fun _=>False) w.drew w'':=by
 obtain⟨Sc,h1,cT,cv,rfl,h2⟩:=h
 obtain⟨f,rv,h3⟩:=h2 w.drew fun _ _=>rfl
 exact⟨cT,cv,f,rv,rfl,h3⟩
def NxIn (E:Nat→Addr)(B:Nat)(T:TypeId)(v:Value)(S:Nat→Prop)(inv:World→Nat→List UInt8→Prop)(R nb pad:Nat)(src:List UInt8)(w:World):Prop:=
 ∃cur blk,RhIn E B T v S inv R (pad:Int) cur blk .nilIface src w∧CurOk w cur nb∧nb≤2305843009213693952∧pad≤512
def PaxV (w0:World)(pax:Option (List Rec))(s:Value)(w:World):Prop:=
 match pax with
 |none=>s=.map none
 |some rs=>∃b n,s=.map (some b)∧w0.heap.size≤b∧MapIs w b n (findL rs)
theorem PaxV.keep {w0 w w':World}{pax:Option (List Rec)}{s:Value}{S:Nat→Prop}(h:PaxV w0 pax s w)(k:Kp S w w')(hS:∀k,S k→k<w0.heap.size):PaxV w0 pax s w':=by
 cases pax with
 |none=>exact h
 |some rs=>
  obtain⟨b,n,h1,h2,h3⟩:=h
  exact⟨b,n,h1,h2,h3.keep k (fun e=>by have:=hS _ e;omega)⟩
def paxM (pax:Option (List Rec)):List UInt8→Option (List UInt8):=match pax with|none=>fun _=>none|some rs=>findL rs
def NxOut (E:Nat→Addr)(B:Nat)(T:TypeId)(v:Value)(S:Nat→Prop)(inv:World→Nat→List UInt8→Prop)(R:Nat)(w:World)(out:Out)(e:Ending)(w':World):Prop:=
 Kp (fun k=>S k∨k=R) w w' ∧
 match out with
 | .fail g=>e=.returned (.tuple #[.pointer none,errv (E g)])∧RowAt w' R
 | .file h pax src=>∃nh Rf blk f pm,e=.returned (.tuple #[.pointer (some ⟨nh,0,none⟩), .nilIface])∧w.heap.size≤nh∧w.heap.size≤Rf∧w'.heap[nh]?=some (.cells (hRow h (.map none) pm f).toArray 167 (0,0)) ∧
   PmIs w' pm (paxM pax)∧(∀b,pm=.map (some b)→w.heap.size≤b)∧RhIn E B T v S inv R (zpad (datLen h):Nat) (.iface 150 (.pointer (some ⟨Rf,0,none⟩))) blk .nilIface src w' ∧
   w'.heap[Rf]?=some (.cells #[.iface T v, .int .i64 (datLen h:Nat)] 152 (0,0))
 | .glob name rs pad src=>∃nh Rf blk f b,e=.returned (.tuple #[.pointer (some ⟨nh,0,none⟩), .nilIface])∧w.heap.size≤nh∧w.heap.size≤Rf∧w.heap.size≤b ∧
   w'.heap[nh]?=some (.cells (hRow {hd0 with typ:=103,name:=name,ms:= -62135596800} (.map none) (.map (some b)) f).toArray 167 (0,0))∧PmIs w' (.map (some b)) (findL rs) ∧
   RhIn E B T v S inv R (pad:Int) (.iface 150 (.pointer (some ⟨Rf,0,none⟩))) blk .nilIface src w'∧w'.heap[Rf]?=some (.cells #[.iface T v, .int .i64 0] 152 (0,0))
theorem IsSrc.disc_ok {E:Nat→Addr}{B:Nat}{T:TypeId}{v:Value}{S:Nat→Prop}{inv:World→Nat→List UInt8→Prop}(hs:IsSrc E B T v S inv)(w:World)(n:Nat)(rest:List UInt8)(hG:Glob E B w)(hi:inv w 0 rest)(hn:n≤2305843009213693952)(hl:n≤rest.length) :
  Calls Tryz.prog 125 #[.iface T v, .int .i64 n] w fun e w'=>e=.returned .nilIface∧Kp S w w'∧inv w' 0 (rest.drop n):=
 (hs.disc w n rest hG hi hn).mono fun e w' ⟨h1,h2⟩=>by
  rcases h2 with ⟨_,h3,h4⟩|⟨h3,_⟩
  ·exact⟨h3,h1,h4⟩
  ·omega
theorem IsSrc.disc_cut {E:Nat→Addr}{B:Nat}{T:TypeId}{v:Value}{S:Nat→Prop}{inv:World→Nat→List UInt8→Prop}(hs:IsSrc E B T v S inv)(w:World)(n:Nat)(rest:List UInt8)(hG:Glob E B w)(hi:inv w 0 rest)(hn:n≤2305843009213693952)(hl:rest.length<n) :
  Calls Tryz.prog 125 #[.iface T v, .int .i64 n] w fun e w'=>e=.returned (errv (E 5))∧Kp S w w':=
 (hs.disc w n rest hG hi hn).mono fun e w' ⟨h1,h2⟩=>by
  rcases h2 with ⟨h3,_,_⟩|⟨_,h4⟩
  ·omega
  ·exact⟨h4,h1⟩
theorem len156:Tryz.prog.arrayLen 156=512:=by kernel_rfl
theorem und156:Tryz.prog.underlying 156=some (.array (Tryz.prog.arrayLen 156) (Tryz.prog.elem 156)):=by kernel_rfl
theorem elem156:Tryz.prog.elem 156=5:=by kernel_rfl
theorem run_arr156_h (w:World)(a:Addr)(m:Nat)(h:m≤512) :
  (Instr.sliceAt 156 (.pointer (some a)) none (some (.int .i64 (m:Int))) none).run Tryz.prog w=.ok (.slice (some a) m 512) w:=by
 rw[run_sliceAt_array_h w 156 a und156 .i64 (m:Int) (by omega) (by rw[len156];omega),elem156,size5,len156]
 simp[slicedAt,Addr.add]
theorem RhIn.move {E:Nat→Addr}{B:Nat}{T:TypeId}{v:Value}{S:Nat→Prop}{inv:World→Nat→List UInt8→Prop}(hR:IsRd E B T v S inv)
  {R:Nat} {pad:Int} {curr:Value} {blk:List Value} {err:Value} {rest rest':List UInt8} {w w':World} (h:RhIn E B T v S inv R pad curr blk err rest w) (k:Kp S w w') (hi:inv w' 0 rest') :
  RhIn E B T v S inv R pad curr blk err rest' w':=by
 have h16:=h.low
 exact⟨h.glob.keep k hR.low,Utf8Tabs.keep h.tabs k (fun h1=>by have:=hR.low _ h1;omega) (fun h1=>by have:=hR.low _ h1;omega),h.low,hi,k.heap h.row h.out,h.blen,h.out,h.above⟩
theorem RhIn.skip {E:Nat→Addr}{B:Nat}{T:TypeId}{v:Value}{S:Nat→Prop}{inv:World→Nat→List UInt8→Prop}(hR:IsRd E B T v S inv)
  {R pad:Nat} {curr:Value} {blk:List Value} {err:Value} {rest:List UInt8} {w:World} (h:RhIn E B T v S inv R (pad:Int) curr blk err rest w) (hp:pad≤512) :
  Calls Tryz.prog 126 #[.iface T v, .slice (some ⟨R,3,none⟩) pad 512] w.drew fun e w'=>e=.returned (.tuple #[.int .i64 (min pad rest.length:Nat),nilOr E (decide (pad≤rest.length))]) ∧
   Kp (fun k=>S k∨k=R) w w'∧∃blk',RhIn E B T v S inv R (pad:Int) curr blk' err (rest.drop pad) w':=by
 refine(tryReadFull_any hR w.drew R 3 pad 512 158 _ rest (h.glob.keep ((Kp.refl (fun _=>False) _).drew) (fun _ h=>h.elim)) (hR.frame h.rd (fun _ _=>rfl)) (by omega) h.row (by rw[trRow_len h.blen];omega) (by omega) h.out h.above).mono ?_
 rintro e w' ⟨he,hk,hb,hi⟩
 have hk':Kp (fun k=>S k∨k=R) w w':=((Kp.refl _ w).drew).trans hk
 have hlow:∀b,(S b∨b=R)→B≤b:=by rintro b (h1|rfl);exact hR.low _ h1;exact h.above
 have h16:=h.low
 have hl:(ubs (rest.take pad)).length≤blk.length:=by rw[ubs_length,h.blen,List.length_take];omega
 refine⟨he,hk',splice blk 0 (ubs (rest.take pad)),⟨h.glob.keep hk' hlow,Utf8Tabs.keep h.tabs hk' (fun h1=>by have:=hlow _ h1;omega) (fun h1=>by have:=hlow _ h1;omega),h.low,hi,?_,?_,h.out,h.above⟩⟩
 ·rw[hb,trRow_splice _ hl]
 ·rw[splice_len _ _ _ (by rw[ubs_length] at hl;omega),h.blen]
theorem RhIn.setPad {E:Nat→Addr}{B:Nat}{T:TypeId}{v:Value}{S:Nat→Prop}{inv:World→Nat→List UInt8→Prop}(hR:IsRd E B T v S inv)
  {R:Nat} {pad:Int} {curr:Value} {blk:List Value} {err:Value} {rest:List UInt8} {w:World} (h:RhIn E B T v S inv R pad curr blk err rest w) (q:Int) :
  RhIn E B T v S inv R q curr blk err rest (w.setCell ⟨R,1,none⟩ (.int .i64 q)):=by
 have k:Kp (· =R) w (w.setCell ⟨R,1,none⟩ (.int .i64 q)):=Kp.setCell (S:=(· =R)) (p:=⟨R,1,none⟩) (Kp.refl _ w) (.inl rfl) _
 have h16:=h.low
 have hab:=h.above
 have hset:=heap_set h.row 1 (.int .i64 q)
 rw[trRow_set_pad] at hset
 exact⟨h.glob.keep k (by rintro b rfl;exact h.above),Utf8Tabs.keep h.tabs k (fun h1=>by omega) (fun h1=>by omega),h.low,hR.frame h.rd (fun b hb=>k.block b ((hR.foot h.rd).2 b hb) (fun e=>h.out (e▸hb))),hset,h.blen,h.out,h.above⟩
theorem RhIn.other {E:Nat→Addr}{B:Nat}{T:TypeId}{v:Value}{S:Nat→Prop}{inv:World→Nat→List UInt8→Prop}(hR:IsRd E B T v S inv)
  {R:Nat} {pad:Int} {curr:Value} {blk:List Value} {err:Value} {rest:List UInt8} {w w':World} {S':Nat→Prop} (h:RhIn E B T v S inv R pad curr blk err rest w) (k:Kp S' w w') (hS:∀k,S' k→¬S k∧k≠R∧B≤k) :
  RhIn E B T v S inv R pad curr blk err rest w':=by
 have h16:=h.low
 exact⟨h.glob.keep k (fun b hb=>(hS b hb).2.2),Utf8Tabs.keep h.tabs k (fun h1=>by have:=(hS _ h1).2.2;omega) (fun h1=>by have:=(hS _ h1).2.2;omega),h.low,
  hR.frame h.rd (fun b hb=>k.block b ((hR.foot h.rd).2 b hb) (fun e=>(hS b e).1 hb)),k.heap h.row (fun e=>(hS _ e).2.1 rfl),h.blen,h.out,h.above⟩
theorem RhIn.handled {E:Nat→Addr}{B:Nat}{T:TypeId}{v:Value}{S:Nat→Prop}{inv:World→Nat→List UInt8→Prop}(hR:IsRd E B T v S inv)
  {R:Nat} {pad:Int} {curr:Value} {blk:List Value} {rest:List UInt8} {w w':World} {n:Nat} {e:Ending} (h:RhIn E B T v S inv R pad curr blk .nilIface rest w) (hh:HrEnd w R (.iface T v) blk .nilIface n e w') :
  e=.returned .nilIface∧∃Rf,w.heap.size≤Rf∧Kp (· =R) w w'∧RhIn E B T v S inv R (zpad n:Nat) (.iface 150 (.pointer (some ⟨Rf,0,none⟩))) blk .nilIface rest w'∧w'.heap[Rf]?=some (.cells #[.iface T v, .int .i64 n] 152 (0,0)):=by
 obtain⟨he,Rf,h1,k,h2,h3⟩:=hh
 have h16:=h.low
 have hab:=h.above
 exact⟨he,Rf,h1,k,⟨h.glob.keep k (by rintro b rfl;exact h.above),Utf8Tabs.keep h.tabs k (fun h1=>by omega) (fun h1=>by omega),h.low,
  hR.frame h.rd (fun b hb=>k.block b ((hR.foot h.rd).2 b hb) (fun e=>h.out (e▸hb))),h2,h.blen,h.out,h.above⟩,h3⟩
theorem nilOr_t {E:Nat→Addr}:nilOr E true=.nilIface:=rfl
theorem nilOr_f {E:Nat→Addr}:nilOr E false=errv (E 0):=rfl
structure NxRel (E:Nat→Addr)(B:Nat)(T:TypeId)(v:Value)(S:Nat→Prop)(inv:World→Nat→List UInt8→Prop)(R:Nat)(w:World)(out:Out)(nb pad:Nat)(pax:Option (List Rec))(ln ll src:List UInt8)(s4:Value)(wr:World):Prop where
 inp:NxIn E B T v S inv R nb pad src wr
 paxv:PaxV w pax s4 wr
 head:HeadP nb pad pax ln ll src out
 kp:Kp (fun k=>S k∨k=R) w wr
 fmt:∃f,wr.heap[w.heap.size]?=some (.cells #[.int .i64 f] 165 (0,0))
 lens:ln.length≤1048576∧ll.length≤1048576
 plen:∀rs,pax=some rs→∀k u,findL rs k=some u→u.length≤1048576
theorem cells_ne {w:World}{a b:Nat}{c d:Array Value}{t u:TypeId}(h:w.heap[a]?=some (.cells c t (0,0)))(k:w.heap[b]?=some (.cells d u (0,0)))(hne:t≠u):a≠b:=by
 rintro rfl
 rw[h] at k
 injection k with k
 injection k with _ k
 exact hne k
def MgO (pax:Option (List Rec))(h h1:Hd):Prop:=match pax with|none=>h1=h|some rs=>Merged h h1 (findL rs)
structure FSt (E:Nat→Addr)(B:Nat)(T:TypeId)(v:Value)(S:Nat→Prop)(inv:World→Nat→List UInt8→Prop)(R:Nat)(w0:World)(rest l:List UInt8)(nh:Nat)(pax:Option (List Rec))(pm p:Value)(f:Int)(h:Hd)(n m:Nat)(wx:World):Prop where
 rh:∃Rf,RhIn E B T v S inv R (zpad n:Nat) (.iface 150 (.pointer (some ⟨Rf,0,none⟩))) (ubs l) .nilIface rest wx∧wx.heap[Rf]?=some (.cells #[.iface T v, .int .i64 m] 152 (0,0))∧w0.heap.size≤Rf
 row:wx.heap[nh]?=some (.cells (hRow h (.map none) p f).toArray 167 (0,0))
 paxv:PaxV w0 pax pm wx
 kp:Kp (fun k=>S k∨k=R) w0 wx
 fmt:∃g,wx.heap[w0.heap.size]?=some (.cells #[.int .i64 g] 165 (0,0))
 low:w0.heap.size<nh
 old:(∀k,S k→k<w0.heap.size)∧R<w0.heap.size∧B≤w0.heap.size
section
variable {E:Nat→Addr} {B:Nat} {T:TypeId} {v:Value} {S:Nat→Prop} {inv:World→Nat→List UInt8→Prop} (hR:IsRd E B T v S inv)
 {R:Nat} {w0 wx wy:World} {rest l:List UInt8} {nh:Nat} {pax:Option (List Rec)} {pm p p':Value} {f f':Int} {h h':Hd} {n m:Nat}
include hR
theorem FSt.step (st:FSt E B T v S inv R w0 rest l nh pax pm p f h n m wx){b:Nat}(k:Kp (· =b) wx wy)(hb:w0.heap.size≤b)(hbm:∀m,pm=.map (some m)→m≠b)
  (hRf:∀Rf t c,wx.heap[Rf]?=some (.cells c t (0,0))→t=152→Rf≠b) (hrow:wy.heap[nh]?=some (.cells (hRow h' (.map none) p' f').toArray 167 (0,0)))
  (hf:∃g,wy.heap[w0.heap.size]?=some (.cells #[.int .i64 g] 165 (0,0))):FSt E B T v S inv R w0 rest l nh pax pm p' f' h' n m wy:=by
 obtain⟨Rf,h1,h2,h3⟩:=st.rh
 refine⟨⟨Rf,h1.other hR k ?_,k.heap h2 (hRf Rf _ _ h2 rfl),h3⟩,hrow,?_,st.kp.then k (fun i hi e=>by omega),hf,st.low,st.old⟩
 ·rintro i rfl
  exact⟨fun hs=>by have:=st.old.1 _ hs;omega,by have:=st.old.2.1;omega,by have:=st.old.2.2;omega⟩
 ·have hp:=st.paxv
  cases pax with
  |none=>exact hp
  |some rs=>
   obtain⟨m,q,e1,e2,e3⟩:=hp
   exact⟨m,q,e1,e2,e3.keep k (hbm m e1)⟩
theorem FSt.map_ne (st:FSt E B T v S inv R w0 rest l nh pax pm p f h n m wx){b:Nat}{c:Array Value}{t:TypeId}(hb:wx.heap[b]?=some (.cells c t (0,0))):∀m,pm=.map (some m)→m≠b:=by
 rintro m e rfl
 have hp:=st.paxv
 cases pax with
 |none=>rw[show pm=.map none from hp] at e;cases e
 |some rs=>
  obtain⟨m',q,e1,e2,D,⟨es,cl,e3,_⟩,_⟩:=hp
  rw[e1] at e
  injection e with e
  injection e with e
  subst e
  rw[e3] at hb;cases hb
theorem FSt.set (st:FSt E B T v S inv R w0 rest l nh pax pm p f h n m wx)(i:Nat)(u:Value)(hset:hRow h' (.map none) p' f'=(hRow h (.map none) p f).set i u):FSt E B T v S inv R w0 rest l nh pax pm p' f' h' n m (wx.setCell ⟨nh,i,none⟩ u):=by
 have k:Kp (· =nh) wx (wx.setCell ⟨nh,i,none⟩ u):=Kp.setCell (S:=(· =nh)) (p:=⟨nh,i,none⟩) (Kp.refl _ _) (.inl rfl) _
 refine st.step hR k (Nat.le_of_lt st.low) (st.map_ne hR st.row) (fun Rf t c hx ht=>cells_ne hx st.row (by rw[ht];decide)) ?_ ?_
 ·rw[hset]
  have:=heap_set st.row i u
  rwa[sA] at this
 ·obtain⟨g,hg⟩:=st.fmt
  exact⟨g,k.heap hg (by have:=st.low;omega)⟩
theorem FSt.setFmt (st:FSt E B T v S inv R w0 rest l nh pax pm p f h n m wx)(g:Int):FSt E B T v S inv R w0 rest l nh pax pm p f h n m (wx.setCell ⟨w0.heap.size,0,none⟩ (.int .i64 g)):=by
 obtain⟨g0,hg⟩:=st.fmt
 have k:Kp (· =w0.heap.size) wx (wx.setCell ⟨w0.heap.size,0,none⟩ (.int .i64 g)):=Kp.setCell (S:=(· =w0.heap.size)) (p:=⟨w0.heap.size,0,none⟩) (Kp.refl _ _) (.inl rfl) _
 exact st.step hR k (Nat.le_refl _) (st.map_ne hR hg) (fun Rf t c hx ht=>cells_ne hx hg (by rw[ht];decide)) (k.heap st.row (by have:=st.low;omega)) ⟨g,heap_set hg 0 _⟩
theorem FSt.kpf (st:FSt E B T v S inv R w0 rest l nh pax pm p f h n m wx)(k:Kp (fun _=>False) wx wy):FSt E B T v S inv R w0 rest l nh pax pm p f h n m wy:=by
 obtain⟨Rf,h1,h2,h3⟩:=st.rh
 obtain⟨g,hg⟩:=st.fmt
 exact⟨⟨Rf,h1.keep hR k,k.heap h2 (fun h=>h),h3⟩,k.heap st.row (fun h=>h),st.paxv.keep k (fun _ h=>h.elim),st.kp.then k (fun _ _ h=>h.elim),⟨g,k.heap hg (fun h=>h)⟩,st.low,st.old⟩
theorem FSt.mono (st:FSt E B T v S inv R w0 rest l nh pax pm p f h n m wx)(k:Kp (· =nh) wx wy)(hrow:wy.heap[nh]?=some (.cells (hRow h' (.map none) p' f').toArray 167 (0,0))):FSt E B T v S inv R w0 rest l nh pax pm p' f' h' n m wy:=by
 refine st.step hR k (Nat.le_of_lt st.low) (st.map_ne hR st.row) (fun Rf t c hx ht=>cells_ne hx st.row (by rw[ht];decide)) hrow ?_
 obtain⟨g,hg⟩:=st.fmt
 exact⟨g,k.heap hg (by have:=st.low;omega)⟩
theorem FSt.handle (st:FSt E B T v S inv R w0 rest l nh pax pm p f h n m wx)(hs:0≤h.size∧h.size≤4611686018427387904∨hasData h.typ=false) :
  Calls Tryz.prog 128 #[.pointer (some ⟨R,0,none⟩), .pointer (some ⟨nh,0,none⟩)] wx fun e w'=>e=.returned .nilIface∧FSt E B T v S inv R w0 rest l nh pax pm p f h (datLen h) (datLen h) w':=by
 obtain⟨Rf,h1,h2,h3⟩:=st.rh
 refine(handleReg_any wx R nh T v _ _ (ubs l) .nilIface _ h.typ h.size h1.row st.row rfl rfl hs).mono ?_
 rintro e w' hre
 obtain⟨he,Rf',g1,g2,g3,g4⟩:=h1.handled hR hre
 obtain⟨g,hg⟩:=st.fmt
 have hsz:=st.kp.size
 have hl:=st.low
 exact⟨he,⟨Rf',g3,g4,by omega⟩,g2.heap st.row (by have:=st.old.2.1;omega),st.paxv.keep g2 (by rintro k rfl;exact st.old.2.1),st.kp.then g2 (fun i hi e=>.inr e),⟨g,g2.heap hg (by have:=st.old.2.1;omega)⟩,st.low,st.old⟩
theorem FSt.merge (st:FSt E B T v S inv R w0 rest l nh pax pm (.map none) f h n m wx){h1:Hd}(hm:MgO pax h h1)(hsz:∀rs,pax=some rs→∀k u,findL rs k=some u→u.length≤1048576) :
  Calls Tryz.prog 131 #[.pointer (some ⟨nh,0,none⟩),pm] wx fun e w'=>e=.returned .nilIface∧FSt E B T v S inv R w0 rest l nh pax pm pm f h1 n m w':=by
 have hp:=st.paxv
 cases pax with
 |none=>
  obtain rfl:pm=.map none:=hp
  obtain rfl:h1=h:=hm
  exact(mergePAX_nil wx nh h1 (.map none) (.map none) f st.row).mono fun e w' ⟨e1,e2,e3⟩=>⟨e1,st.mono hR e2 e3⟩
 |some rs=>
  obtain⟨b,q,rfl,e2,e3⟩:=hp
  exact(mergePAX_map wx nh b q (findL rs) h h1 (.map none) (.map none) f st.row e3 hm (hsz rs rfl)).mono fun e w' ⟨e1,e2,e3⟩=>⟨e1,st.mono hR e2 e3⟩
theorem FSt.pmIs (st:FSt E B T v S inv R w0 rest l nh pax pm p f h n m wx):PmIs wx pm (paxM pax):=by
 have hp:=st.paxv
 cases pax with
 |none=>exact .inl ⟨hp,rfl⟩
 |some rs=>obtain⟨b,q,e1,e2,e3⟩:=hp;exact .inr ⟨b,q,e1,e3⟩
theorem FSt.sparse (st:FSt E B T v S inv R w0 rest l nh pax pm pm f h n m wx)(ht:h.typ≠83)(hns:∀rs,pax=some rs→∀k u,findL rs k=some u→¬kSparse <+: k)(P Q:Value) :
  Calls Tryz.prog 134 #[P, .pointer (some ⟨nh,0,none⟩),Q] wx fun e w'=>e=.returned .nilIface∧FSt E B T v S inv R w0 rest l nh pax pm pm f h n m w':=by
 refine(handleSparse_none wx P Q nh _ pm (paxM pax) h.typ st.row rfl ht rfl (st.pmIs hR) ?_).mono ?_
 ·intro k hk
  cases pax with
  |none=>rfl
  |some rs=>
   cases e:findL rs k with
   |none=>exact e
   |some u=>exact absurd hk (hns rs rfl k u e)
 ·rintro e w' ⟨e1,m,rfl⟩
  exact⟨e1,st.kpf hR ((Kp.refl _ _).drewN m)⟩
theorem FSt.spec (st:FSt E B T v S inv R w0 rest l nh pax pm p f h n n wx)(hn:n≤4611686018427387904) :
  ∃(S2:Nat→Prop) (inv2:World→Nat→List UInt8→Prop),IsRd E B 92 (.pointer (some ⟨R,0,none⟩)) S2 inv2∧Glob E B wx∧inv2 wx (endOf n rest.length) (rest.take n) ∧
   (∀w',Kp S2 wx w'→Kp (fun k=>S k∨k=R) w0 w')∧(∀w' g,inv2 w' g []→RowAt w' R)∧(∀w',Kp S2 wx w'→inv2 w' 0 []→FSt E B T v S inv R w0 (rest.drop n) l nh pax pm p f h n 0 w'):=by
 obtain⟨Rf,h1,h2,h3⟩:=st.rh
 have ho:=st.old
 have hlow:=st.low
 have hRRf:¬(S R∨R=Rf):=by rintro(h|e);exact h1.out h;omega
 have hSRf:¬S Rf:=fun h=>by have:=ho.1 _ h;omega
 have hBRf:B≤Rf:=by omega
 have hkp:∀w',Kp (fun k=>(S k∨k=Rf)∨k=R) wx w'→Kp (fun k=>S k∨k=R) w0 w':=fun w' k=>st.kp.then k (by rintro i hi ((h|h)|h);exact .inl h;omega;exact .inr h)
 refine⟨_,_,isRd_tr (isRd_regT (rest.drop n) hR Rf hBRf) R h1.above (.iface T v) (zpad n:Nat) (ubs l) 158 h1.blen,h1.glob,?_,hkp,?_,?_⟩
 ·exact⟨⟨rest,n,h1.rd,h2,hSRf,rfl,rfl,hn,rfl⟩,hRRf, .nilIface,h1.row, .inl rfl⟩
 ·rintro w' g ⟨_,_,err,i6,_⟩
  exact⟨_,_,_,_,err,h1.blen,i6⟩
 ·rintro w' k ⟨⟨src,nb,i1,i2,_,i3,i4,_,i5⟩,_,err,i6,i7⟩
  have hnb:nb≤src.length:=by
   have:=i4
   unfold endOf at this
   split at this
   ·assumption
   ·omega
  have h0:nb=0:=by
   have:=congrArg List.length i3
   rw[List.length_take,List.length_nil] at this
   omega
  subst h0
  rw[sG] at i5
  subst i5
  obtain rfl:err=.nilIface:=by rcases i7 with h|⟨_,h,_⟩;exact h;omega
  have hnhRf:nh≠Rf:=fun e=>by subst e;have:=st.row;rw[h2] at this;injection this with this;injection this with _ this;cases this
  have hn2:¬((S nh∨nh=Rf)∨nh=R):=by rintro((h|h)|h);have:=ho.1 _ h;omega;exact hnhRf h;omega
  have hB:∀i,((S i∨i=Rf)∨i=R)→B≤i:=by rintro i ((h|h)|h);exact hR.low _ h;omega;rw[h];exact h1.above
  have h16:=h1.low
  refine⟨⟨Rf,⟨h1.glob.keep k hB,Utf8Tabs.keep h1.tabs k (fun h=>by have:=hB _ h;omega) (fun h=>by have:=hB _ h;omega),h1.low,i1,i6,h1.blen,h1.out,h1.above⟩,i2,h3⟩,k.heap st.row hn2,?_,hkp w' k,?_,st.low,st.old⟩
  ·have hp:=st.paxv
   cases pax with
   |none=>exact hp
   |some rs=>
    obtain⟨b,q,rfl,e2,e3⟩:=hp
    refine⟨b,q,rfl,e2,e3.keep k ?_⟩
    rintro((h|h)|h)
    ·have:=ho.1 _ h;omega
    ·exact st.map_ne hR h2 b rfl h
    ·omega
  ·obtain⟨g,hg⟩:=st.fmt
   refine⟨g,k.heap hg ?_⟩
   rintro((h|h)|h)
   ·have:=ho.1 _ h;omega
   ·rw[h] at hg;rw[h2] at hg;injection hg with hg;injection hg with _ hg;cases hg
   ·omega
theorem FSt.round {out:Out}{ln ll:List UInt8}{s4:Value}{pax':Option (List Rec)}(st:FSt E B T v S inv R w0 rest l nh pax pm p f h n m wx)(hm:m≤2305843009213693952)(hp:PaxV w0 pax' s4 wx)(hh:HeadP m (zpad n) pax' ln ll rest out)
  (hl:ln.length≤1048576∧ll.length≤1048576) (hpl:∀rs,pax'=some rs→∀k u,findL rs k=some u→u.length≤1048576):NxRel E B T v S inv R w0 out m (zpad n) pax' ln ll rest s4 wx:=by
 obtain⟨Rf,h1,h2,h3⟩:=st.rh
 exact⟨⟨_,_,h1,curOk_reg h2,hm,Nat.le_of_lt (zpad_lt n)⟩,hp,hh,st.kp,st.fmt,hl,hpl⟩
theorem FSt.globOut {rs:List Rec}{b:Nat}(st:FSt E B T v S inv R w0 rest l nh (some rs) (.map (some b)) p f h n 0 wx)(hb:w0.heap.size≤b)(name:List UInt8)(g:Int)(row:Array Value)
  (hrow:row=(hRow {hd0 with typ:=103,name:=name,ms:= -62135596800} (.map none) (.map (some b)) g).toArray) :
  NxOut E B T v S inv R w0 (.glob name rs (zpad n) rest) (.returned (.tuple #[.pointer (some ⟨wx.heap.size,0,none⟩), .nilIface])) ((wx.alloc (.cells row 167)).drew):=by
 subst hrow
 have k:Kp (fun _=>False) wx ((wx.alloc (.cells (hRow {hd0 with typ:=103,name:=name,ms:= -62135596800} (.map none) (.map (some b)) g).toArray 167)).drew):=((Kp.refl _ wx).alloc _).drew
 have st2:=st.kpf hR k
 obtain⟨Rf,r1,r2,r3⟩:=st2.rh
 exact⟨st2.kp,wx.heap.size,Rf,ubs l,g,b,rfl,st.kp.size,r3,hb,heap_new wx _,st2.pmIs hR,r1,r2⟩
theorem FSt.only (st:FSt E B T v S inv R w0 rest l nh pax pm p f h n m wx)(g:Int):∃f0,Calls Tryz.prog 129 #[.pointer (some ⟨w0.heap.size,0,none⟩), .int .i64 g] wx fun e w'=>e=.returned (.tuple #[])∧w'=wx.setCell ⟨w0.heap.size,0,none⟩ (.int .i64 (bits .and .i64 f0 g)):=by
 obtain⟨f0,hf⟩:=st.fmt
 exact⟨f0,mayOnlyBe_any wx w0.heap.size f0 g 165 hf⟩
theorem FSt.only' (st:FSt E B T v S inv R w0 rest l nh pax pm p f h n m wx)(g:Int):Calls Tryz.prog 129 #[.pointer (some ⟨w0.heap.size,0,none⟩), .int .i64 g] wx fun e w'=>e=.returned (.tuple #[])∧FSt E B T v S inv R w0 rest l nh pax pm p f h n m w':=by
 obtain⟨f0,hc⟩:=st.only hR g
 exact hc.mono fun e w' ⟨e1,e2⟩=>⟨e1,by rw[e2];exact st.setFmt hR _⟩
end
theorem recs_vlen {rs:List Rec}{t:List UInt8}(h:RecsT rs t):∀k u,findL rs k=some u→u.length≤t.length:=by
 induction h with
 |nil=>intro k u h;cases h
 |@cons r rs t ts h hs ih=>
  intro k u hf
  have hl:=recT_len h
  rw[List.length_append]
  simp only[findL] at hf
  cases e:findL rs k with
  |some x=>rw[e] at hf;injection hf with hf;subst hf;have:=ih _ _ e;omega
  |none=>
   rw[e] at hf
   simp only[Option.none_or] at hf
   split at hf
   ·injection hf with hf;subst hf;omega
   ·cases hf
theorem own_parse {rs:List Rec}(ho:∀r∈rs,OwnOk r):∀r∈rs,(61:UInt8)∉r.1∧r.1≠[]∧NoNul r.1∧(r.1=kPath∨r.1=kLink∨r.1=kUname∨r.1=kGname→NoNul r.2)∧¬kSparse <+: r.1∧r.2≠[]:=
 fun r hr=>⟨(ho r hr).key.noEq,(ho r hr).key.ne,(ho r hr).key.noNul,fun _=>(ho r hr).noNul,(ho r hr).key.noSparse,(ho r hr).some⟩
theorem own_merged {rs:List Rec}(ho:∀r∈rs,OwnOk r)(h:Hd):Merged h h (findL rs):=by
 have hn:∀k,k∈fieldKeys→findL rs k=none:=by
  intro k hk
  cases e:findL rs k with
  |none=>rfl
  |some v=>exact absurd hk (ho _ (findL_mem _ _ _ e)).key.not_field
 have hm:∀k v,findL rs k=some v→OwnOk (k,v):=fun k v e=>ho _ (findL_mem _ _ _ e)
 refine⟨fun k v e=>(hm k v e).some,fun k v e=>(hm k v e).key.noSchily,fun k v e=>(hm k v e).key.noSparse,rfl,?_,?_,?_,?_,?_,?_,?_,rfl,rfl,rfl,?_,?_,?_⟩
 ·rw[hn kPath (by decide)];rfl
 ·rw[hn kLink (by decide)];rfl
 ·rw[hn kUname (by decide)];rfl
 ·rw[hn kGname (by decide)];rfl
 ·rw[hn kSize (by decide)];rfl
 ·rw[hn kUid (by decide)];rfl
 ·rw[hn kGid (by decide)];rfl
 ·rw[hn kMtime (by decide)];exact⟨rfl,rfl⟩
 ·rw[hn kAtime (by decide)];exact⟨rfl,rfl,rfl⟩
 ·rw[hn kCtime (by decide)];exact⟨rfl,rfl,rfl⟩
theorem FSt.withPax {E:Nat→Addr}{B:Nat}{T:TypeId}{v:Value}{S:Nat→Prop}{inv:World→Nat→List UInt8→Prop}{R:Nat}{w0 wx:World}{rest l:List UInt8}{nh:Nat}{pax pax':Option (List Rec)}{pm pm' p:Value}{f:Int}{h:Hd}{n m:Nat}
  (st:FSt E B T v S inv R w0 rest l nh pax pm p f h n m wx) (hp:PaxV w0 pax' pm' wx):FSt E B T v S inv R w0 rest l nh pax' pm' p f h n m wx:=
 ⟨st.rh,st.row,hp,st.kp,st.fmt,st.low,st.old⟩
theorem datLen_meta {h:Hd}(ht:h.typ=120∨h.typ=103∨h.typ=76∨h.typ=75):datLen h=h.size.toNat:=by
 unfold datLen
 rcases ht with e|e|e|e<;>rw[e]<;>rfl
theorem parseString_own {w:World}{base:Nat}{all p:Value}{l:List UInt8}(h:OwnB w base all l)(hl:l.length≤281474976710656)(hne:l≠[]) :
  Calls Tryz.prog 133 #[p,all] w fun e w'=>e=.returned (.string ⟨(textOf l).toArray⟩)∧w'=w:=by
 rcases h.bytes with ⟨rfl,rfl⟩|⟨g,c,rfl,_,_,h3,_,hb⟩
 ·exact absurd rfl hne
 ·exact parseString_any w p g 0 c l hb hl h3
theorem has_some (w:World)(f g:Int):Calls Tryz.prog 111 #[.int .i64 f, .int .i64 g] w fun e w'=>(∃b:Bool,e=.returned (.bool b))∧w'=w:=
 (has_any w f g).mono fun e w' ⟨h1,h2⟩=>⟨⟨_,h1⟩,h2⟩
end Go.Proofs.YtgfcnjfmmjcodaaGreatDoor
