/- NewReader, bytes.NewReader, bytes.Clone, end. -/
import Derived.Laws.Tables
import Derived.Laws.BitsAllLaws
import Derived.Laws.CopyRow
import Derived.Deep.DeepAppendWide
import Derived.Lib.AppendZeros
import Derived.Test.YtgfcnjfmmjcodaaGreatDoorP15
set_option linter.all false
set_option maxRecDepth 100000
set_option maxHeartbeats 1000000
open Go.Lib (hid)
namespace Go.Proofs.YtgfcnjfmmjcodaaGreatDoor
open Go Go.RowKit
theorem Bd5:Tryz.zeroCells158=(Cz .nilIface 0 .nilIface (ubs zblk) .nilIface).toArray:=by kernel_rfl
theorem Bfd (a c:Value):((Tryz.zeroCells158.setIfInBounds 0 a).setIfInBounds 2 c)=(Cz a 0 c (ubs zblk) .nilIface).toArray:=by
 rw[Bd5,sA,sA];rfl
theorem Bdk {E:Nat→Addr}{B:Nat}{T:TypeId}{v:Value}{S:Nat→Prop}{inv:World→Nat→List UInt8→Prop}(hR:IsRd E B T v S inv)
  (w:World) (src:List UInt8) (hG:Glob E B w) (ht:Lib.Utf8Tabs 14 15 w) (h16:16≤B) (hi:inv w 0 src) :
  Calls Tryz.prog 40 #[.iface T v] w fun e w'=>∃R,e=.returned (.pointer (some ⟨R,0,none⟩))∧w.heap.size≤R∧Kp (fun _=>False) w w'∧Bad E B T v S inv R 0 0 src w':=by
 have hB:B≤w.heap.size:=hG.size;have k1:∀o1 o2,Kp (fun _=>False) w ((w.alloc o1).alloc o2):=fun o1 o2=>((Kp.refl _ _).alloc _).alloc _;have hS:∀k,S k→k<w.heap.size:=(hR.foot hi).2;have fin:∀a c,(a=.iface T v)→c=.iface 150 (.pointer (some ⟨w.heap.size,0,none⟩))→Bad E B T v S inv (w.heap.size+1) 0 0 src ((w.alloc (.cells #[.iface T v, .int .i64 0] 152)).alloc (.cells ((Tryz.zeroCells158.setIfInBounds 0 a).setIfInBounds 2 c) 158)):=by
  rintro a c rfl rfl;have k:=k1 (.cells #[.iface T v, .int .i64 0] 152) (.cells ((Tryz.zeroCells158.setIfInBounds 0 (.iface T v)).setIfInBounds 2 (.iface 150 (.pointer (some ⟨w.heap.size,0,none⟩)))) 158);have hn:=Ba (w.alloc (.cells #[.iface T v, .int .i64 0] 152)) (.cells ((Tryz.zeroCells158.setIfInBounds 0 (.iface T v)).setIfInBounds 2 (.iface 150 (.pointer (some ⟨w.heap.size,0,none⟩)))) 158);have hsz:(w.alloc (.cells #[.iface T v, .int .i64 0] 152)).heap.size=w.heap.size+1:=by show (w.heap.push _).size=_;simp
  rw[hsz] at hn;have hr:((w.alloc (.cells #[.iface T v, .int .i64 0] 152)).alloc (.cells ((Tryz.zeroCells158.setIfInBounds 0 (.iface T v)).setIfInBounds 2 (.iface 150 (.pointer (some ⟨w.heap.size,0,none⟩)))) 158)).heap[w.heap.size]?=some (.cells #[.iface T v, .int .i64 0] 152 (0,0)):=by
   have h1:=Ba w (.cells #[.iface T v, .int .i64 0] 152);exact((Kp.refl (fun _=>False) (w.alloc (.cells #[.iface T v, .int .i64 0] 152))).alloc _).heap h1 (fun h=>h)
  refine⟨_,ubs zblk,⟨hG.keep k (fun _ h=>h.elim),Utf8Tabs.keep ht k (fun h=>h) (fun h=>h),h16,hR.frame hi (fun b hb=>k.block b (hS b hb) (fun h=>h)),?_,by rw[Bi];rfl,fun h=>by have:=hS _ h;omega,by omega⟩,K6 (nb:=0) hr,by omega,by omega⟩
  rw[hn,Bfd];rfl
 go_enter Tryz.func40,Tryz.ntmps40
 go_wp2_with fail
 go_ret
 exact⟨w.heap.size+1,rfl,by omega,k1 _ _,fin _ _ rfl rfl⟩
theorem Bes {E:Nat→Addr}{B S D:Nat}(hS:B≤S)(hD:B≤D):IsSrc E B 94 (.pointer (some ⟨S,0,none⟩)) (fun k=>k=S∨k=D) (Qa S D):=
 ⟨Mg hS hD,fun w n rest hG hi hn=>Ot hS hD w n rest hG hi hn⟩
theorem Bcb (w:World)(A:Option Addr)(n c:Nat):Calls Tryz.prog 41 #[.slice A n c] w fun e w'=>e=.returned (.pointer (some ⟨w.heap.size,0,none⟩))∧w'=w.alloc (.cells #[.slice A n c, .int .i64 0, .int .i64 (-1)] 160):=by
 go_enter Tryz.func41,Tryz.ntmps41
 go_wp2_with fail
 go_ret
 exact⟨rfl,rfl⟩
theorem Bfl (w:World)(b off c:Nat)(l:List UInt8)(hl:BytesAt w b off l)(hlen:l.length≤140737488355328) :
  Calls Tryz.prog 42 #[.slice (some ⟨b,off,none⟩) l.length c] w fun e w'=>∃v,e=.returned v∧OwnB w' w.heap.size v l∧v.ownBlock≠none∧Kp (fun _=>False) w w':=by
 have hnil:∀w,(binOp .eql 27 (.slice (some ⟨b,off,none⟩) l.length c) (.slice none 0 0)).run Tryz.prog w=.ok (.bool false) w:=fun _=>by kernel_rfl
 have hown:OwnB (w.alloc (.cells #[] 5)) w.heap.size (.slice (some ⟨w.heap.size,0,none⟩) 0 0) []:=World.ownsRow_made w #[] 0 (Nat.le_refl _) (by decide) rfl
 have hka:Kp (fun _=>False) w (w.alloc (.cells #[] 5)):=(Kp.refl _ _).alloc _;have hcells:∀(j:Nat) (u:Value),(ubs l)[j]?=some u→(w.alloc (.cells #[] 5)).cell? ((⟨b,off,none⟩:Addr).add j)=some u:=fun j u hu=>by
  rw[add_plain'];exact hka.cell (hl j u hu) (fun h=>h)
 have hsz:(w.alloc (.cells #[] 5)).heap.size=w.heap.size+1:=by show (w.heap.push _).size=_;simp
 have HL:=hid hl;clear hl;go_enter Tryz.func42,Tryz.ntmps42
 go_wp2_with (at_builtin;refine Io rfl (.tmp 5) (.tmp 6) rfl w.heap.size _ [] rfl hown ⟨b,off,none⟩ l.length c l rfl rfl hcells (by simpa using hlen) (by rw[hsz];omega) ?_;intro v2 w2 hown2 hk2 hat2)
 go_ret
 have hv2:v2.ownBlock≠none:=by
  rcases hat2 with h|h
  ·rw[h];exact fun e=>by cases e
  ·rw[h];exact fun e=>by cases e
 refine⟨v2,rfl,by simpa using hown2,hv2,hka.then hk2 (fun i hi h=>?_)⟩
 have h':some i=some w.heap.size:=h;injection h' with h'
 omega
theorem Bd6 {w:World}{base:Nat}{v:Value}{l:List UInt8}(h:OwnB w base v l)(hv:v.ownBlock≠none)(hl:l.length≤281474976710656) :
  ∃D c,v=.slice (some ⟨D,0,none⟩) l.length c∧base≤D∧D<w.heap.size∧Qa w.heap.size D (w.alloc (.cells #[v, .int .i64 0, .int .i64 (-1)] 160)) 0 l:=by
 have hc:=fun g hg=>World.ownsRow.cells h (g:=g) hg;rcases h.2 with ⟨rfl,h0⟩|⟨g,cap,cur,rfl,hg,hh,h3,h4,h5⟩
 ·exact absurd rfl hv
 ·have hgs:=Bv hh;refine⟨g,cap,rfl,hg,hgs,rfl,by omega,l,some ⟨g,0,none⟩,0,cap, .int .i64 (-1),160,5,(0,0),cur,Ba w _,?_,fun _=>rfl,?_,h3,hl,Nat.zero_le _,rfl⟩
  ·exact((Kp.refl (fun _=>False) w).alloc _).heap hh (fun h=>h)
  ·intro j u hu;have:=hc g rfl j u hu;rw[add_plain',Nat.zero_add] at this;simp[World.cell?,hh] at this;exact this
theorem Bgc (w:World):Calls Tryz.prog 45 #[.nilIface] w fun e w'=>e=.returned (.int .i64 0)∧w'=w:=by
 go_enter Tryz.func45,Tryz.ntmps45
 go_wp2_with fail
 go_ret
 exact⟨rfl,rfl⟩
theorem Bgd {E:Nat→Addr}{B:Nat}(w:World)(hG:Glob E B w)(g:Nat)(hg:g=0∨g=1∨g=5):Calls Tryz.prog 45 #[By (E g)] w fun e w'=>e=.returned (.int .i64 ((g:Int)+1))∧w'=w:=by
 have c0:=(hG.var 0 (by decide)).2
 have c1:=(hG.var 1 (by decide)).2
 have c2:=(hG.var 2 (by decide)).2
 have c3:=(hG.var 3 (by decide)).2
 have c4:=(hG.var 4 (by decide)).2
 have c5:=(hG.var 5 (by decide)).2
 rcases hg with rfl|rfl|rfl
 ·go_enter Tryz.func45,Tryz.ntmps45
  go_wp2_with fail
  go_ret
  exact⟨rfl,rfl⟩
 ·have n0:=Dh hG (g:=1) (h:=0) (by decide) (by decide) (by decide)
  go_enter Tryz.func45,Tryz.ntmps45
  go_wp2_with fail
  go_ret
  exact⟨rfl,rfl⟩
 ·have n0:=Dh hG (g:=5) (h:=0) (by decide) (by decide) (by decide)
  have n1:=Dh hG (g:=5) (h:=1) (by decide) (by decide) (by decide)
  have n2:=Dh hG (g:=5) (h:=2) (by decide) (by decide) (by decide)
  have n3:=Dh hG (g:=5) (h:=3) (by decide) (by decide) (by decide)
  have n4:=Dh hG (g:=5) (h:=4) (by decide) (by decide) (by decide)
  go_enter Tryz.func45,Tryz.ntmps45
  go_wp2_with fail
  go_ret
  exact⟨rfl,rfl⟩
def Ha (typ:Nat)(name link:List UInt8)(size mode uid gid:Int)(un gn:List UInt8)(ms mn:Int)(hasA:Bool)(as_ an:Int)(hasC:Bool)(cs cn maj min:Int)(recs:Value)(fmt:Int):List Value:=
 [.int .u8 typ,B5 name,B5 link, .int .i64 size, .int .i64 mode, .int .i64 uid, .int .i64 gid,B5 un,B5 gn, .int .i64 ms, .int .i64 mn, .bool hasA, .int .i64 as_, .int .i64 an, .bool hasC, .int .i64 cs, .int .i64 cn, .int .i64 maj, .int .i64 min,recs, .int .i64 fmt]
def iZero:List Value:=Ha 0 [] [] 0 0 0 0 [] [] 0 0 false 0 0 false 0 0 0 0 (.slice none 0 0) 0
theorem Hi (w:World)(c d:Array Value)(t:TypeId):((w.alloc (.cells c t)).setRow w.heap.size d).heap[w.heap.size]?=some (.cells d t (0,0)):=by
 have:=Ba w (.cells c t);unfold World.setRow;simp only[Array.getElem?_modify,this,if_pos rfl];rfl
theorem I6 (w:World)(o:Obj)(d:Array Value):Kp (fun _=>False) w ((w.alloc o).setRow w.heap.size d):=by
 have k:=(Kp.refl (fun _=>False) w).alloc o;refine⟨k.os,k.tape,k.output,?_,fun i hi hs=>?_⟩
 ·have:=k.size;unfold World.setRow;show w.heap.size≤(Array.modify _ _ _).size;rw[Array.size_modify];exact this
 ·unfold World.setRow;simp only[Array.getElem?_modify];rw[if_neg (by omega)]
  exact k.block i hi hs
theorem Gd {w:World}{g:Nat}{c:Array Value}{t:TypeId}(h:w.heap[g]?=some (.cells c t (0,0)))(d:Array Value):(w.setRow g d).heap[g]?=some (.cells d t (0,0)):=by
 unfold World.setRow;simp only[Array.getElem?_modify,h,if_pos rfl];rfl
theorem Bf1 (x:Nat)(h:x<1073741824):bits .and .u64 (x:Int) 9223372036854775808=0:=by
 have:=u64_and_nat x 9223372036854775808 (by omega) (by omega)
 rw[show (9223372036854775808:Int)=((9223372036854775808:Nat):Int) from rfl,this]
 have e:x &&& 2 ^ 63=0:=by
  apply Nat.eq_of_testBit_eq;intro i;rw[Nat.testBit_and,Nat.zero_testBit,Nat.testBit_two_pow];by_cases hi:63=i
  ·subst hi;rw[Nat.testBit_lt_two_pow (show x<2 ^ 63 by omega)];rfl
  ·rw[decide_eq_false hi,Bool.and_false]
 rw[show (9223372036854775808:Nat)=2 ^ 63 from rfl,e];rfl
theorem Bf2 (x:Nat)(h:x<1073741824):bits .and .u64 (x:Int) 1073741823=(x:Int):=by
 have:=u64_and_nat x 1073741823 (by omega) (by omega)
 rw[show (1073741823:Int)=((1073741823:Nat):Int) from rfl,this,show (1073741823:Nat)=2 ^ 30-1 from rfl,Nat.and_two_pow_sub_one_eq_mod,Nat.mod_eq_of_lt (by omega)]
theorem Bd7 (w:World)(b:Nat)(n:Nat)(s:Int)(hn:n<1073741824)(h:w.heap[b]?=some (.cells #[.int .u64 n, .int .i64 s] 163 (0,0))) :
  Calls Tryz.prog 230 #[.pointer (some ⟨b,0,none⟩)] w fun e w'=>e=.returned (.int .i64 s)∧w'=w:=by
 have c0:w.cell? ⟨b,0,none⟩=some (.int .u64 n):=cell_of h 0 rfl;have c1:w.cell? ⟨b,1,none⟩=some (.int .i64 s):=cell_of h 1 rfl;have ha:=Bf1 n hn;go_enter Tryz.func230,Tryz.ntmps230
 go_wp2_with fail
 go_ret
 exact⟨rfl,rfl⟩
theorem Vl (w:World)(b:Nat)(n:Nat)(s:Int)(hn:n<1073741824)(hs: -100000000000000003≤s∧s≤100000000000000003)(h:w.heap[b]?=some (.cells #[.int .u64 n, .int .i64 (s+62135596800)] 163 (0,0))) :
  Calls Tryz.prog 227 #[.pointer (some ⟨b,0,none⟩)] w fun e w'=>e=.returned (.int .i64 s)∧w'=w:=by
 go_enter Tryz.func227,Tryz.ntmps227
 go_wp2_with fail
 refine(Bd7 w b n _ hn h).mono ?_;rintro e w1 ⟨rfl,rfl⟩;go_wp2_with fail
 go_ret
 exact⟨by show Ending.returned (.int .i64 (s+62135596800+ -62135596800))=_;rw[show s+62135596800+ -62135596800=s by omega],rfl⟩
theorem Bcc (w:World)(b:Nat)(n:Nat)(s:Int)(hn:n<1073741824)(h:w.heap[b]?=some (.cells #[.int .u64 n, .int .i64 s] 163 (0,0))) :
  Calls Tryz.prog 228 #[.pointer (some ⟨b,0,none⟩)] w fun e w'=>e=.returned (.int .i32 n)∧w'=w:=by
 have c0:w.cell? ⟨b,0,none⟩=some (.int .u64 n):=cell_of h 0 rfl;have ha:=Bf2 n hn;go_enter Tryz.func228,Tryz.ntmps228
 go_wp2_with fail
 go_ret
 exact⟨rfl,rfl⟩
theorem Bcd (w:World)(n:Nat)(s:Int)(hn:n<1073741824)(hs: -100000000000000003≤s∧s≤100000000000000003) :
  Calls Tryz.prog 135 #[.agg #[.int .u64 n, .int .i64 (s+62135596800)]] w fun e w'=>e=.returned (.int .i64 s)∧Kp (fun _=>False) w w':=by
 go_enter Tryz.func135,Tryz.ntmps135
 go_wp2_with fail
 refine(Vl _ w.heap.size n s hn hs (Ba _ _)).mono ?_;rintro e w1 ⟨rfl,rfl⟩;go_wp2_with fail
 go_ret
 exact⟨rfl,(Kp.refl _ _).alloc _⟩
theorem Bce (w:World)(n:Nat)(s:Int)(hn:n<1073741824) :
  Calls Tryz.prog 136 #[.agg #[.int .u64 n, .int .i64 s]] w fun e w'=>e=.returned (.int .i64 n)∧Kp (fun _=>False) w w':=by
 go_enter Tryz.func136,Tryz.ntmps136
 go_wp2_with fail
 refine(Bcc _ w.heap.size n s hn (Ba _ _)).mono ?_;rintro e w1 ⟨rfl,rfl⟩;go_wp2_with fail
 go_ret
 exact⟨rfl,(Kp.refl _ _).alloc _⟩
theorem Ji (w:World)(n:Nat)(s:Int)(hn:n<1000000000)(hs: -100000000000000003≤s∧s≤100000000000000003) :
  Calls Tryz.prog 79 #[.agg #[.int .u64 n, .int .i64 (s+62135596800)]] w fun e w'=>e=.returned (.agg #[.int .i64 s, .int .i64 n])∧Kp (fun _=>False) w w':=by
 go_enter Tryz.func79,Tryz.ntmps79
 go_wp2_with fail
 obtain⟨w0,hw0⟩:∃w0,(w.alloc (.cells #[.int .u64 n, .int .i64 (s+62135596800)] 163)).alloc (.cells #[.int .i64 0, .int .i64 0] 23)=w0:=⟨_,rfl⟩;have hk0:Kp (fun _=>False) w w0:=hw0▸((Kp.refl _ _).alloc _).alloc _;have hr0:w0.heap[w.heap.size]?=some (.cells #[.int .u64 n, .int .i64 (s+62135596800)] 163 (0,0)):=hw0▸heap_alloc (Ba w _) _;have hq0:w0.heap[w.heap.size+1]?=some (.cells #[.int .i64 0, .int .i64 0] 23 (0,0)):=by
  have:=Ba (w.alloc (.cells #[.int .u64 n, .int .i64 (s+62135596800)] 163)) (.cells #[.int .i64 0, .int .i64 0] 23);rw[show (w.alloc (.cells #[.int .u64 n, .int .i64 (s+62135596800)] 163)).heap.size=w.heap.size+1 by show (w.heap.push _).size=_;simp] at this
  exact hw0▸this
 rw[hw0];have c0:w0.cell? ⟨w.heap.size,0,none⟩=some (.int .u64 n):=cell_of hr0 0 rfl;have c1:w0.cell? ⟨w.heap.size,1,none⟩=some (.int .i64 (s+62135596800)):=cell_of hr0 1 rfl;clear hw0
 go_region_held3 (fun w'=>w'.cell? ⟨w.heap.size,0,none⟩=some (.int .u64 n)∧w'.cell? ⟨w.heap.size,1,none⟩=some (.int .i64 (s+62135596800)))
  (first|(exact⟨(hk1.trans hk2).cell c0 (fun h=>h),(hk1.trans hk2).cell c1 (fun h=>h)⟩)|(exact⟨hk1.cell c0 (fun h=>h),hk1.cell c1 (fun h=>h)⟩)|go_keep)
  (first
   |(go_at_call 135;refine(Bcd _ n s (by omega) hs).mono ?_;rintro e w1 ⟨rfl,hk1⟩)
   |(go_at_call 136;refine(Bce _ n _ (by omega)).mono ?_;rintro e w2 ⟨rfl,hk2⟩;have q0:w2.cell? ⟨w.heap.size+1,0,none⟩=some (.int .i64 0):=cell_of ((hk1.trans hk2).heap hq0 (fun h=>h)) 0 rfl;have q1:w2.cell? ⟨w.heap.size+1,1,none⟩=some (.int .i64 0):=cell_of ((hk1.trans hk2).heap hq0 (fun h=>h)) 1 rfl;have z0:=Bb ((hk1.trans hk2).heap hq0 (fun h=>h)) 0;have z1:=Bb ((hk1.trans hk2).heap hq0 (fun h=>h)) 1))
 have hk2':Kp (fun _=>False) w w2:=(hk0.drew.trans hk1).trans hk2;have hr2:=(hk1.trans hk2).heap hq0 (fun h=>h);have HR:=hid (heap_set (heap_set hr2 0 (.int .i64 s)) 1 (.int .i64 n));have hn:w.heap.size≤w.heap.size+1:=by omega
 rename_i hHeld;clear hHeld;go_wp2_with fail
 exact bodyPost_ret (results_cell_row rfl _ _ (w.heap.size+1) 23 #[.int .i64 s, .int .i64 n] (0,0) _ rfl HR.out Tryz.underlying23 rfl (by kernel_rfl)) rfl ⟨rfl,(hk2'.setCell (.inr hn) _).setCell (.inr hn) _⟩
theorem M1 (w:World)(n:Nat)(s:Int) :
  Calls Tryz.prog 80 #[.agg #[.int .u64 n, .int .i64 s]] w fun e w'=>e=.returned (.bool (decide (n=0)&&decide (s=0)))∧Kp (fun _=>False) w w':=by
 by_cases h:s=0
 ·subst h;by_cases h2:n=0
  ·subst h2;(go_enter Tryz.func80,Tryz.ntmps80);(go_wp2_with fail);(go_ret);exact⟨rfl,(Kp.refl _ _).alloc _⟩
  ·(have e:((n:Int)==0)=false:=by rw[beq_eq_false_iff_ne];omega);rw[decide_eq_false h2];(go_enter Tryz.func80,Tryz.ntmps80);(go_wp2_with fail);(go_ret);exact⟨rfl,(Kp.refl _ _).alloc _⟩
 ·have e:(s==0)=false:=by rw[beq_eq_false_iff_ne];exact h
  rw[decide_eq_false h,Bool.and_false];by_cases h2:n=0
  ·subst h2;(go_enter Tryz.func80,Tryz.ntmps80);(go_wp2_with fail);(go_ret);exact⟨rfl,(Kp.refl _ _).alloc _⟩
  ·(have e2:((n:Int)==0)=false:=by rw[beq_eq_false_iff_ne];omega);(go_enter Tryz.func80,Tryz.ntmps80);(go_wp2_with fail);(go_ret);exact⟨rfl,(Kp.refl _ _).alloc _⟩
def Ka (f:Int):Int:=if f=2 then 1 else if f=4 then 2 else if f=8 then 3 else 0
theorem Dw (w:World)(f:Int):Calls Tryz.prog 81 #[.int .i64 f] w fun e w'=>e=.returned (.int .i64 (Ka f))∧w'=w:=by
 unfold Ka;by_cases h2:f=2
 ·subst h2;go_enter Tryz.func81,Tryz.ntmps81
  go_wp2_with fail
  go_ret
  exact⟨rfl,rfl⟩
 ·have e2:(f==2)=false:=by rw[beq_eq_false_iff_ne];exact h2
  rw[if_neg h2];by_cases h4:f=4
  ·subst h4;(go_enter Tryz.func81,Tryz.ntmps81);(go_wp2_with fail);(go_ret);exact⟨rfl,rfl⟩
  ·(have e4:(f==4)=false:=by rw[beq_eq_false_iff_ne];exact h4);rw[if_neg h4];by_cases h8:f=8
   ·subst h8;(go_enter Tryz.func81,Tryz.ntmps81);(go_wp2_with fail);(go_ret);exact⟨rfl,rfl⟩
   ·(have e8:(f==8)=false:=by rw[beq_eq_false_iff_ne];exact h8);rw[if_neg h8];(go_enter Tryz.func81,Tryz.ntmps81);(go_wp2_with fail);(go_ret);exact⟨rfl,rfl⟩
section
structure InFile (E:Nat→Addr)(B:Nat)(T:TypeId)(v:Value)(S:Nat→Prop)(inv:World→Nat→List UInt8→Prop)(R Rf pad:Nat)(rest tl:List UInt8)(w:World):Prop where
 tr:∃blk,blk.length=512∧Bba E R (.iface T v) (pad:Int) 150 (.pointer (some ⟨Rf,0,none⟩)) blk 158 (fun k=>S k∨k=Rf) (Lz Rf T v S inv tl) w 0 rest
 glob:Glob E B w
 tabs:Lib.Utf8Tabs 14 15 w
 low:16≤B
 above:B≤R
 aboveF:B≤Rf
section
variable {E:Nat→Addr} {B:Nat} {T:TypeId} {v:Value} {S:Nat→Prop} {inv:World→Nat→List UInt8→Prop} {R Rf pad:Nat} {rest tl src:List UInt8} {w w':World}
theorem InFile.of {n:Nat}{blk:List Value}(h:RhIn E B T v S inv R (pad:Int) (.iface 150 (.pointer (some ⟨Rf,0,none⟩))) blk .nilIface src w)(hf:w.heap[Rf]?=some (.cells #[.iface T v, .int .i64 n] 152 (0,0)))
  (hS:¬S Rf) (hB:B≤Rf) (hn:n≤4611686018427387904) (hl:n≤src.length):InFile E B T v S inv R Rf pad (src.take n) (src.drop n) w:=by
 have hne:R≠Rf:=by
  intro e;have:=h.row;rw[e,hf] at this;injection this with this
  injection this with _ this
  cases this
 refine⟨⟨blk,h.blen,⟨src,n,h.rd,hf,hS,rfl,(Ey hl).symm,hn,rfl⟩,?_, .nilIface,h.row, .inl rfl⟩,h.glob,h.tabs,h.low,h.above,hB⟩;rintro(h1|h1)
 ·exact h.out h1
 ·exact hne h1
theorem InFile.nxin (h:InFile E B T v S inv R Rf pad rest tl w)(hp:pad≤512)(hl:rest.length≤2305843009213693952):Bad E B T v S inv R rest.length pad (rest++tl) w:=by
 obtain⟨blk,hb,⟨src,nb,h1,h2,h3,h4,h5,h6,h7⟩,h8,err,h9,h10⟩:=h.tr;have hnb:nb≤src.length:=by
  unfold I0 at h5;split at h5
  ·assumption
  ·omega
 have hrl:rest.length=nb:=by rw[h4,List.length_take];omega
 have hsrc:src=rest++tl:=by rw[h4,←h7,List.take_append_drop]
 obtain rfl:err=.nilIface:=by
  rcases h10 with h|⟨_,h,_⟩
  ·exact h
  ·omega
 rw[←hrl] at h2;rw[hsrc] at h1;exact⟨_,blk,⟨h.glob,h.tabs,h.low,h1,h9,hb,fun hS=>h8 (.inl hS),h.above⟩,K6 h2,hl,hp⟩
theorem InFile.keep {Q:Nat→Prop}(hR:IsRd E B T v S inv)(h:InFile E B T v S inv R Rf pad rest tl w)(k:Kp Q w w')(hQ:∀i,Q i→¬S i∧i≠Rf∧i≠R∧B≤i):InFile E B T v S inv R Rf pad rest tl w':=by
 obtain⟨blk,hb,htr⟩:=h.tr;have hI:=Ly (Ir tl hR Rf h.aboveF) R h.above (.iface T v) (pad:Int) blk 158 hb;have h16:=h.low;refine⟨⟨blk,hb,hI.frame htr fun b hs=>k.block b ((hI.foot htr).2 b hs) fun hq=>?_⟩,h.glob.keep k (fun b hb=>(hQ b hb).2.2.2),Utf8Tabs.keep h.tabs k (fun h1=>by have:=(hQ _ h1).2.2.2;omega) (fun h1=>by have:=(hQ _ h1).2.2.2;omega),h.low,h.above,h.aboveF⟩
 obtain⟨q1,q2,q3,_⟩:=hQ b hq;rcases hs with (hs|hs)|hs
 ·exact q1 hs
 ·exact q2 hs
 ·exact q3 hs
theorem InFile.lt (hR:IsRd E B T v S inv)(h:InFile E B T v S inv R Rf pad rest tl w):∀k,((S k∨k=Rf)∨k=R)→k<w.heap.size:=by
 obtain⟨blk,hb,htr⟩:=h.tr;exact((Ly (Ir tl hR Rf h.aboveF) R h.above (.iface T v) (pad:Int) blk 158 hb).foot htr).2
def Bf3 (E:Nat→Addr)(B:Nat)(T:TypeId)(v:Value)(S:Nat→Prop)(inv:World→Nat→List UInt8→Prop)(R Rf pad:Nat)(rest tl:List UInt8)(w:World)(b n:Nat)(cur:List Value)(t:TypeId)(e:Ending)(w':World):Prop:=
 ∃(m:Nat) (err:Value),e=.returned (.tuple #[.int .i64 m,err])∧m≤n∧m≤rest.length∧(err=.nilIface∧1≤m∨err=By (E 0)∧m=rest.length) ∧
  Kp (fun k=>((S k∨k=Rf)∨k=R)∨k=b) w w'∧w'.heap[b]?=some (.cells (splice cur 0 (ubs (rest.take m))).toArray t (0,0))∧InFile E B T v S inv R Rf pad (rest.drop m) tl w'
theorem InFile.read (hR:IsRd E B T v S inv)(h:InFile E B T v S inv R Rf pad rest tl w)(b n c:Nat)(t:TypeId)(cur:List Value)(hn:1≤n)(hnm:n≤281474976710656)
  (hb:w.heap[b]?=some (.cells cur.toArray t (0,0))) (hfit:n≤cur.length) (hnc:n≤c) (hbS:¬((S b∨b=Rf)∨b=R)) (hbB:B≤b) :
  Calls Tryz.prog 51 #[.pointer (some ⟨R,0,none⟩), .slice (some ⟨b,0,none⟩) n c] w (Bf3 E B T v S inv R Rf pad rest tl w b n cur t):=by
 obtain⟨blk,hbl,htr⟩:=h.tr;have hF:=Ir tl hR Rf h.aboveF;have hI:=Ly hF R h.above (.iface T v) (pad:Int) blk 158 hbl;obtain⟨hi,hRS,err,hr,he⟩:=htr;obtain rfl:err=.nilIface:=by
  rcases he with h|⟨_,h,_⟩
  ·exact h
  ·omega
 refine(Bbb hF w R b 0 n c 0 _ _ blk 158 t cur rest h.glob hi hr hbl hRS h.above hn hnm hb (by omega) hnc (fun hs=>hbS (.inl hs)) hbB (fun e=>hbS (.inr e.symm))).mono ?_
 rintro e w' ⟨m,err,e1,e2,e3,e4,e5,e6,e7⟩;have h16:=h.low;have hlo:∀k,(((S k∨k=Rf)∨k=R)∨k=b)→B≤k:=by
  rintro k (h1|rfl)
  ·exact hI.low k h1
  ·exact hbB
 exact⟨m,err,e1,e2,e3,e4,e5,e6,⟨⟨blk,hbl,e7⟩,h.glob.keep e5 hlo,Utf8Tabs.keep h.tabs e5 (fun h1=>by have:=hlo _ h1;omega) (fun h1=>by have:=hlo _ h1;omega),h.low,h.above,h.aboveF⟩⟩
end
end
def Be:List Rec→List Value
 |[]=>[]
 |r::l=>B5 r.1::B5 r.2::Be l
theorem B7:∀l,(Be l).length=l.length*2
 |[]=>rfl
 |r::l=>by rw[Be,List.length_cons,List.length_cons,B7 l,List.length_cons];omega
theorem C8:∀l m,Be (l++m)=Be l++Be m
 |[],m=>rfl
 |r::l,m=>by rw[List.cons_append,Be,Be,C8 l m];rfl
theorem Er:∀l,∀v∈Be l,v.oneCell'=true
 |[],v,h=>by cases h
 |r::l,v,h=>by
  rw[Be] at h
  rcases List.mem_cons.1 h with rfl|h
  ·rfl
  ·rcases List.mem_cons.1 h with rfl|h
   ·rfl
   ·exact Er l v h
theorem Kb:∀(l:List Rec) (i:Nat),(Be l)[i*2]?=l[i]?.map fun r=>B5 r.1
 |[],i=>by simp[Be]
 |r::l,0=>rfl
 |r::l,i+1=>by
  have:=Kb l i
  rw[show (i+1)*2=i*2+1+1 by omega,Be,List.getElem?_cons_succ,List.getElem?_cons_succ,List.getElem?_cons_succ]
  exact this
theorem Kc:∀(l:List Rec) (i:Nat),(Be l)[i*2+1]?=l[i]?.map fun r=>B5 r.2
 |[],i=>by simp[Be]
 |r::l,0=>rfl
 |r::l,i+1=>by
  have:=Kc l i
  rw[show (i+1)*2+1=(i*2+1)+1+1 by omega,Be,List.getElem?_cons_succ,List.getElem?_cons_succ,List.getElem?_cons_succ]
  exact this
theorem I7:∀(l:List Rec) (k:Nat),(Be l).take (k*2)=Be (l.take k)
 |[],k=>by simp[Be]
 |r::l,0=>by simp[Be]
 |r::l,k+1=>by
  rw[show (k+1)*2=k*2+1+1 by omega,Be,sD,sD,I7 l k,sD,Be]
theorem I8:∀(l:List Rec) (k:Nat),(Be l).drop (k*2)=Be (l.drop k)
 |[],k=>by simp[Be]
 |r::l,0=>by simp
 |r::l,k+1=>by
  rw[show (k+1)*2=k*2+1+1 by omega,Be,sF,sF,I8 l k,sF]
structure InfoR (T ST:TypeId):Prop where
 und:Tryz.prog.underlying ST=some (.slice T)
 info:∃i,Tryz.prog.info? T=some i∧i.zero=some (.agg #[.string ⟨#[]⟩, .string ⟨#[]⟩])∧i.size=2∧i.bytes=32
theorem Vm {T ST:TypeId}(hu:Tryz.prog.underlying ST=some (.slice T))(h:(Tryz.prog.info? T).map (fun i=>(i.zero,i.size,i.bytes))=some (some (.agg #[.string ⟨#[]⟩, .string ⟨#[]⟩]),2,32)):InfoR T ST:=by
 refine⟨hu,?_⟩;obtain⟨i,h1,h2⟩:=Option.map_eq_some_iff.1 h;simp only[Prod.mk.injEq] at h2;exact⟨i,h1,h2⟩
theorem infoS:InfoR 136 43:=Vm Tryz.underlying43 (by kernel_rfl)
theorem infoI:InfoR 171 24:=Vm Tryz.underlying24 (by kernel_rfl)
def OwnR (T:TypeId)(w:World)(base:Nat)(v:Value)(l:List Rec):Prop:=w.ownsRow base T 2 v l.length (Be l)
theorem OwnR.nil (T:TypeId)(w:World)(base:Nat):OwnR T w base (.slice none 0 0) []:=⟨by simp[Be], .inl ⟨rfl,rfl⟩⟩
theorem OwnR.keep {T:TypeId}{w w':World}{base:Nat}{v:Value}{l:List Rec}{S:Nat→Prop}(h:OwnR T w base v l)(k:Kp S w w')(hS:∀b,v.ownBlock=some b→¬S b):OwnR T w' base v l:=by
 refine⟨h.1,?_⟩;rcases h.2 with hn|⟨g,cap,cur,rfl,hb,hg,rest⟩
 ·exact .inl hn
 ·exact .inr ⟨g,cap,cur,rfl,hb,k.heap hg (hS g rfl),rest⟩
theorem OwnR.block {T:TypeId}{w:World}{base:Nat}{v:Value}{l:List Rec}(h:OwnR T w base v l){b:Nat}(hb:v.ownBlock=some b):base≤b∧b<w.heap.size:=World.ownsRow.lt h b hb
theorem OwnR.shape {T:TypeId}{w:World}{base:Nat}{v:Value}{l:List Rec}(h:OwnR T w base v l):v=.slice none 0 0∧l=[]∨∃g cap,v=.slice (some ⟨g,0,none⟩) l.length cap∧base≤g∧l.length≤cap∧cap≤maxLen:=by
 rcases h.2 with ⟨h1,h2⟩|⟨g,cap,cur,h1,h2,h3,h4,h5,_⟩
 ·exact .inl ⟨h1,List.eq_nil_of_length_eq_zero h2⟩
 ·exact .inr ⟨g,cap,h1,h2,h4,h5⟩
theorem OwnR.row {T:TypeId}{w:World}{base g n cap:Nat}{l:List Rec}(h:OwnR T w base (.slice (some ⟨g,0,none⟩) n cap) l) :
  n=l.length∧∃cur:List Value,w.heap[g]?=some (.cells (Be l++cur).toArray T (0,0))∧l.length≤cap∧cap≤maxLen∧(Be l++cur).length=cap*2:=by
 rcases h.2 with ⟨h1,h2⟩|⟨g',cap',cur,h1,h2,h3,h4,h5,h6,h7⟩
 ·cases h1
 ·injection h1 with h1 h8 h9
  injection h1 with h1
  injection h1 with h1
  subst h1 h8 h9;refine⟨rfl,cur.toList.drop (l.length*2),?_,h4,h5,?_⟩
  ·rw[←h7,List.take_append_drop];exact h3
  ·rw[←h7,List.take_append_drop];simpa using h6
theorem OwnR.of_row {T:TypeId}{w:World}{base g cap:Nat}{l:List Rec}(cur:List Value)(hb:base≤g)(h:w.heap[g]?=some (.cells (Be l++cur).toArray T (0,0)))(h1:l.length≤cap)(h2:cap≤maxLen)(h3:(Be l++cur).length=cap*2) :
  OwnR T w base (.slice (some ⟨g,0,none⟩) l.length cap) l:=by
 refine⟨B7 l, .inr ⟨g,cap,_,rfl,hb,h,h1,h2,by simpa using h3,?_⟩⟩
 rw[←B7 l];simp
theorem OwnR.cell0 {T:TypeId}{w:World}{base g n cap i:Nat}{l:List Rec}{r:Rec}(h:OwnR T w base (.slice (some ⟨g,0,none⟩) n cap) l)(hr:l[i]?=some r):w.cell? ⟨g,i*2,none⟩=some (B5 r.1):=by
 obtain⟨_,cur,h1,_⟩:=h.row;have hi:i<l.length:=(List.getElem?_eq_some_iff.1 hr).1;exact cell_of h1 _ (by rw[List.getElem?_toArray,List.getElem?_append_left (by rw[B7];omega),Kb,hr];rfl)
theorem OwnR.cell1 {T:TypeId}{w:World}{base g n cap i:Nat}{l:List Rec}{r:Rec}(h:OwnR T w base (.slice (some ⟨g,0,none⟩) n cap) l)(hr:l[i]?=some r):w.cell? ⟨g,i*2+1,none⟩=some (B5 r.2):=by
 obtain⟨_,cur,h1,_⟩:=h.row;have hi:i<l.length:=(List.getElem?_eq_some_iff.1 hr).1;exact cell_of h1 _ (by rw[List.getElem?_toArray,List.getElem?_append_left (by rw[B7];omega),Kc,hr];rfl)
theorem OwnR.free {T:TypeId}{w:World}{base g n cap:Nat}{l:List Rec}(h:OwnR T w base (.slice (some ⟨g,0,none⟩) n cap) l)(i:Nat):w.frozen? ⟨g,i,none⟩=false:=by
 obtain⟨_,cur,h1,_⟩:=h.row;exact Bb h1 i
theorem Kp.wide {w w':World}{base:Nat}{row:Option Nat}(h:w.grownBy w' row)(hr:∀k,row=some k→base≤k):Kp (fun k=>base≤k) w w':=
 (Kp.of_grownBy h).mono fun k _ hk=>hr k hk.symm
theorem OwnR.set {T:TypeId}{w:World}{base g n cap i:Nat}{l:List Rec}(h:OwnR T w base (.slice (some ⟨g,0,none⟩) n cap) l)(hi:i<l.length)(r:Rec) :
  OwnR T ((w.setCell ⟨g,i*2,none⟩ (B5 r.1)).setCell ⟨g,i*2+1,none⟩ (B5 r.2)) base (.slice (some ⟨g,0,none⟩) n cap) (l.set i r):=by
 have hbg:=(h.block rfl).1;obtain⟨rfl,cur,h1,h2,h3,h4⟩:=h.row;have h5:=heap_set (heap_set h1 (i*2) (B5 r.1)) (i*2+1) (B5 r.2);have hl:=B7 l;have e:(((Be l++cur).toArray.setIfInBounds (i*2) (B5 r.1)).setIfInBounds (i*2+1) (B5 r.2))=(Be (l.set i r)++cur).toArray:=by
  rw[sA,sA,List.set_append_left _ _ (by omega),List.set_append_left _ _ (by rw[List.length_set];omega)]
  congr 2
  clear h h1 h2 h3 h4 h5 hl hbg;induction l generalizing i with
  |nil=>simp at hi
  |cons x l ih=>
   cases i with
   |zero=>rfl
   |succ i=>
    (rw[show (i+1)*2=i*2+1+1 by omega,Be,sC,sC,sC,sC,sC,Be]);(congr 2);exact ih (by simpa using hi)
 rw[e] at h5;have:=OwnR.of_row (l:=l.set i r) (cap:=cap) cur hbg h5 (by rw[List.length_set];exact h2) h3 (by rw[List.length_append,B7,List.length_set,←h4,List.length_append,hl])
 rw[List.length_set] at this;exact this
theorem D8 (w:World){T ST ty:TypeId}(I:InfoR T ST)(base:Nat)(v:Value)(xs:List Rec)(r:Rec)(hown:OwnR T w base v xs)(hlen:xs.length≤4294967296)(hbase:base≤w.heap.size) :
  ∃v' w',(Builtin.append_ #[ST,ST] ty #[v, .slice (some ⟨w.heap.size,0,none⟩) 1 1]).run Tryz.prog (w.alloc (.cells #[.string ⟨r.1.toArray⟩, .string ⟨r.2.toArray⟩] T))=.ok v' w'∧OwnR T w' base v' (xs++[r])∧Kp (fun k=>some k=v.ownBlock) w w':=by
 obtain⟨i0,hi,hz,hsz,hby⟩:=I.info;have k1:Kp (fun _=>False) w (w.alloc (.cells #[.string ⟨r.1.toArray⟩, .string ⟨r.2.toArray⟩] T)):=(Kp.refl _ _).alloc _;have hown':OwnR T (w.alloc (.cells #[.string ⟨r.1.toArray⟩, .string ⟨r.2.toArray⟩] T)) base v xs:=hown.keep k1 (fun _ _ h=>h);have h0:(w.alloc (.cells #[.string ⟨r.1.toArray⟩, .string ⟨r.2.toArray⟩] T)).cell? ⟨w.heap.size,0,none⟩=some (B5 r.1):=cell_of (Ba w _) 0 rfl;have h1:(w.alloc (.cells #[.string ⟨r.1.toArray⟩, .string ⟨r.2.toArray⟩] T)).cell? ⟨w.heap.size,1,none⟩=some (B5 r.2):=cell_of (Ba w _) 1 rfl
 obtain⟨v',w',hr,h2,h3,h4⟩:=run_append_own_wide (P:=Tryz.prog) (w.alloc (.cells #[.string ⟨r.1.toArray⟩, .string ⟨r.2.toArray⟩] T)) base ST ty T i0 _ 2 32 I.und hi hz hsz hby rfl (by omega) v xs.length (Be xs) hown' ⟨w.heap.size,0,none⟩ 1 1 (Be [r]) rfl
  (fun j u hu=>by
   match j,hu with
   |0,hu=>injection hu with hu;rw[←hu];exact h0
   |1,hu=>injection hu with hu;rw[←hu];exact h1
   |j+2,hu=>cases hu)
  (Er _) (by simp only[maxLen];omega) (by omega) (by show base≤(w.heap.push _).size;simp;omega)
 refine⟨v',w',hr,?_,(k1.mono (fun _ _ h=>h.elim)).trans (Kp.of_grownBy h3)⟩;unfold OwnR;rw[C8,List.length_append];exact h2
theorem OwnR.wide {T:TypeId}{w w1 w2:World}{base:Nat}{v:Value}{l:List Rec}(h:OwnR T w base v l)(k:Kp (fun k=>some k=v.ownBlock) w1 w2):Kp (fun k=>base≤k) w1 w2:=
 k.mono fun i _ hi=>(h.block hi.symm).1
theorem OwnR.lower {T:TypeId}{w:World}{base base':Nat}{v:Value}{l:List Rec}(h:OwnR T w base v l)(hb:base'≤base):OwnR T w base' v l:=by
 refine⟨h.1,?_⟩;rcases h.2 with hn|⟨g,cap,cur,e,hg,rest⟩
 ·exact .inl hn
 ·exact .inr ⟨g,cap,cur,e,by omega,rest⟩
def RecsAt (w:World)(C:Nat)(rv:Value)(l:List Rec):Prop:=
 Nil0 rv∧l=[]∨∃b o c,rv=.slice (some ⟨b,o,none⟩) l.length c∧b<C∧∀i r,l[i]?=some r→w.cell? ⟨b,o+i*2,none⟩=some (.string ⟨r.1.toArray⟩)∧w.cell? ⟨b,o+i*2+1,none⟩=some (.string ⟨r.2.toArray⟩)
theorem RecsAt.keep {w w':World}{C:Nat}{rv:Value}{l:List Rec}{S:Nat→Prop}(h:RecsAt w C rv l)(k:Kp S w w')(hS:∀i,S i→C≤i):RecsAt w' C rv l:=by
 rcases h with h|⟨b,o,c,h1,h2,h3⟩
 ·exact .inl h
 ·exact .inr ⟨b,o,c,h1,h2,fun i r hr=>⟨k.cell (h3 i r hr).1 (fun hs=>by have h5:C≤b:=hS _ hs;omega),k.cell (h3 i r hr).2 (fun hs=>by have h5:C≤b:=hS _ hs;omega)⟩⟩
theorem RecsAt.shape {w:World}{C:Nat}{rv:Value}{l:List Rec}(h:RecsAt w C rv l):∃A c,rv=.slice A l.length c:=by
 rcases h with ⟨h,rfl⟩|⟨b,o,c,rfl,_⟩
 ·exact h.shape
 ·exact⟨_,c,rfl⟩
theorem RecsAt.get {w:World}{C:Nat}{rv:Value}{l:List Rec}(h:RecsAt w C rv l){i:Nat}{r:Rec}(hr:l[i]?=some r) :
  ∃b o c,rv=.slice (some ⟨b,o,none⟩) l.length c∧b<C∧w.cell? ⟨b,o+i*2,none⟩=some (.string ⟨r.1.toArray⟩)∧w.cell? ⟨b,o+i*2+1,none⟩=some (.string ⟨r.2.toArray⟩):=by
 rcases h with ⟨_,rfl⟩|⟨b,o,c,rfl,h2,h3⟩
 ·cases hr
 ·exact⟨b,o,c,rfl,h2,h3 i r hr⟩
theorem OwnR.at_ {T:TypeId}{w:World}{base:Nat}{v:Value}{l:List Rec}(h:OwnR T w base v l):RecsAt w w.heap.size v l:=by
 rcases h.shape with ⟨rfl,rfl⟩|⟨g,cap,rfl,hb,_⟩
 ·exact .inl ⟨.inl rfl,rfl⟩
 ·refine .inr ⟨g,0,cap,rfl,(h.block rfl).2,fun i r hr=>⟨?_,?_⟩⟩
  ·rw[Nat.zero_add];exact h.cell0 hr
  ·rw[Nat.zero_add];exact h.cell1 hr
theorem RecsAt.mono {w:World}{C C':Nat}{rv:Value}{l:List Rec}(h:RecsAt w C rv l)(hC:C≤C'):RecsAt w C' rv l:=by
 rcases h with h|⟨b,o,c,h1,h2,h3⟩
 ·exact .inl h
 ·exact .inr ⟨b,o,c,h1,by omega,h3⟩
def Bf4 (w:World)(base:Nat)(l:List Rec)(r:Rec)(i:Nat)(v:Value)(inn:Bool)(wr:World):Prop:=
 ∃o,OwnR 136 wr base v o∧WithS (l.take i) r o inn∧Kp (fun _=>False) w wr∧base≤wr.heap.size
def Vn (w:World)(l:List Rec)(r:Rec)(i:Nat)(v:Value)(inn:Bool)(wr:World):Prop:=
 Bf4 w (w.heap.size+1) l r i v inn wr∧wr.heap[w.heap.size]?=some (.cells #[.string ⟨r.1.toArray⟩, .string ⟨r.2.toArray⟩] 136 (0,0))
set_option maxHeartbeats 1600000 in
theorem Bcf (w:World)(C:Nat)(rv:Value)(l:List Rec)(r:Rec)(hl:RecsAt w C rv l)(hC:C≤w.heap.size)(hlen:l.length≤2147483648) :
  Calls Tryz.prog 105 #[rv, .agg #[.string ⟨r.1.toArray⟩, .string ⟨r.2.toArray⟩]] w fun e w'=>(∃v o,e=.returned v∧OwnR 136 w' w.heap.size v o∧WithE l r o)∧Kp (fun _=>False) w w':=by
 obtain⟨A,c,rfl⟩:=hl.shape;have hk0:∀o,Hid (Kp (fun _=>False) w (w.alloc o)):=fun o=>(Kp.refl _ _).alloc _;have HL:=hid hl;clear hl;go_enter Tryz.func105,Tryz.ntmps105
 go_wp2_with fail
 have LP:Hid (Vn w l r 0 (.slice none 0 0) false (w.alloc (.cells #[.string ⟨r.1.toArray⟩, .string ⟨r.2.toArray⟩] 136))):=
  ⟨⟨[],OwnR.nil _ _ _,by rw[sE];exact WithS.nil r,(hk0 _).out,by show w.heap.size+1≤(w.heap.push _).size;simp⟩,Ba w _⟩
 clear hk0;generalize w.alloc (.cells #[.string ⟨r.1.toArray⟩, .string ⟨r.2.toArray⟩] 136)=w1 at LP ⊢;go_loopg [5,6,11] l.length (fun g s5 s6 s11 wr=>∃(i:Nat) (inn:Bool),i+g=l.length∧s11=.int .i64 i∧s6=.bool inn∧Hid (Vn w l r i s5 inn wr))
 case atStart=>exact⟨0,false,by omega,rfl,rfl,LP⟩
 case round=>
  clear LP;obtain⟨i,inn,hi,rfl,rfl,hst⟩:=hrel;by_cases hlt:i<l.length
  ·obtain⟨x,hx⟩:∃x,l[i]?=some x:=⟨_,List.getElem?_eq_getElem hlt⟩;have hLr:RecsAt wr C (.slice A l.length c) l:=by
    obtain⟨⟨o,_,_,hk,_⟩,_⟩:=hst.out;exact HL.out.keep hk (fun _ h=>h.elim)
   obtain⟨b,o,c',hA,hbC,x1,x2⟩:=hLr.get hx;(injection hA with hA1 hA2 hA3);subst hA1 hA3;have r1:∀o,(wr.alloc o).cell? ⟨w.heap.size,0,none⟩=some (.string ⟨r.1.toArray⟩):=fun o=>cell_of (heap_alloc hst.out.2 o) 0 rfl;have r2:∀o,(wr.alloc o).cell? ⟨w.heap.size,1,none⟩=some (.string ⟨r.2.toArray⟩):=fun o=>cell_of (heap_alloc hst.out.2 o) 1 rfl;(have hxg:x=l[i]:=by rw[List.getElem?_eq_getElem hlt] at hx;injection hx with hx;exact hx.symm);(have htk:l.take (i+1)=l.take i++[x]:=by rw[List.take_succ_eq_append_getElem hlt,hxg]);(have hsz:∀o,(wr.alloc o).heap.size=wr.heap.size+1:=fun o=>by show (wr.heap.push _).size=_;simp);(have hbs:w.heap.size+1≤wr.heap.size:=by obtain⟨⟨o,_,_,_,h⟩,_⟩:=hst.out;exact h);have HTK:=hid htk;obtain⟨β,hβ⟩:∃β,(x.1==r.1)=β:=⟨_,rfl⟩;have hol:∀o,OwnR 136 wr (w.heap.size+1) u5 o→WithS (l.take i) r o inn→o.length≤4294967296:=fun o _ h=>by
    have h1:=h.len;(have h2:(l.take i).length≤l.length:=by rw[List.length_take];omega);split at h1<;>omega
   have HOL:=hid hol;clear hA2 hLr hx hxg htk hol;cases β with
   |true=>
    have NX:∀o,Hid (Vn w l r (i+1) u5 inn (wr.alloc o)):=fun o=>by
     obtain⟨⟨q,h1,h2,h3,h4⟩,h5⟩:=hst.out;have k1:Kp (fun _=>False) wr (wr.alloc o):=(Kp.refl _ _).alloc _;exact⟨⟨q,h1.keep k1 (fun _ _ h=>h),by rw[HTK.out];exact h2.skip (beq_iff_eq.1 hβ),h3.trans k1,Nat.le_trans h4 k1.size⟩,k1.heap h5 (fun h=>h)⟩
    clear hst HOL hsz;(go_wp2_with fail);go_roundg (gk-1)
    case measure=>omega
    case rel=>exact⟨i+1,inn,by omega,by simp,rfl,NX _⟩
   |false=>
    (have hne:x.1≠r.1:=by rw[beq_eq_false_iff_ne] at hβ;exact hβ);have APX:∀XO,XO=Obj.cells #[.string ⟨x.1.toArray⟩, .string ⟨x.2.toArray⟩] 136→∃v2 w2,(Builtin.append_ #[43,43] 43 #[u5, .slice (some ⟨wr.heap.size+1,0,none⟩) 1 1]).run Tryz.prog ((wr.alloc XO).alloc XO)=.ok v2 w2∧Hid (Vn w l r (i+1) v2 inn w2):=by
     rintro XO rfl;obtain⟨⟨q,h1,h2,h3,h4⟩,h5⟩:=hst.out;have k1:Kp (fun _=>False) wr (wr.alloc (.cells #[.string ⟨x.1.toArray⟩, .string ⟨x.2.toArray⟩] 136)):=(Kp.refl _ _).alloc _;have h1':=h1.keep k1 (fun _ _ h=>h);(obtain⟨v2,w2,e1,e2,e3⟩:=D8 (ty:=43) (wr.alloc (.cells #[.string ⟨x.1.toArray⟩, .string ⟨x.2.toArray⟩] 136)) infoS (w.heap.size+1) u5 q x h1' (HOL.out q h1 h2) (by rw[hsz];omega));rw[hsz] at e1;have kw:=h1'.wide e3;exact⟨v2,w2,e1,⟨q++[x],e2,by rw[HTK.out];exact h2.keep hne,(h3.trans k1).then kw (fun i hi e=>by omega),by have:=kw.size;rw[hsz] at this;omega⟩,kw.heap (k1.heap h5 (fun h=>h)) (by omega)⟩
    obtain⟨v2,w2,hr2,NX⟩:=APX _ rfl;have HR2:=hid hr2;clear APX hr2;cases inn with
    |true=>
     clear hst HOL hsz;(go_wp2_with (at_builtin;refine Lib.wpList_append_run _ rfl _ _ _ _ rfl _ _ rfl rfl _ _ HR2.out ?_));go_roundg (gk-1)
     case measure=>omega
     case rel=>exact⟨i+1,true,by omega,by simp,rfl,NX⟩
    |false=>
     obtain⟨γ,hγ⟩:∃γ,Op.bytesLess r.1 x.1=γ:=⟨_,rfl⟩;cases γ with
     |false=>
      clear hst HOL hsz;(go_wp2_with (at_builtin;refine Lib.wpList_append_run _ rfl _ _ _ _ rfl _ _ rfl rfl _ _ HR2.out ?_));go_roundg (gk-1)
      case measure=>omega
      case rel=>exact⟨i+1,false,by omega,by simp,rfl,NX⟩
     |true=>
      clear HR2 NX
      have APR:∀XO RO,XO=Obj.cells #[.string ⟨x.1.toArray⟩, .string ⟨x.2.toArray⟩] 136→RO=Obj.cells #[.string ⟨r.1.toArray⟩, .string ⟨r.2.toArray⟩] 136→∃v3 w3,(Builtin.append_ #[43,43] 43 #[u5, .slice (some ⟨wr.heap.size+1,0,none⟩) 1 1]).run Tryz.prog ((wr.alloc XO).alloc RO)=.ok v3 w3 ∧
        w3.cell? ⟨wr.heap.size,0,none⟩=some (.string ⟨x.1.toArray⟩)∧w3.cell? ⟨wr.heap.size,1,none⟩=some (.string ⟨x.2.toArray⟩) ∧
        ∃v4 w4,(Builtin.append_ #[43,43] 43 #[v3, .slice (some ⟨w3.heap.size,0,none⟩) 1 1]).run Tryz.prog (w3.alloc XO)=.ok v4 w4∧Hid (Vn w l r (i+1) v4 true w4):=by
       rintro XO RO rfl rfl;obtain⟨⟨q,h1,h2,h3,h4⟩,h5⟩:=hst.out;have k1:Kp (fun _=>False) wr (wr.alloc (.cells #[.string ⟨x.1.toArray⟩, .string ⟨x.2.toArray⟩] 136)):=(Kp.refl _ _).alloc _;have h1':=h1.keep k1 (fun _ _ h=>h);have hql:=HOL.out q h1 h2;(obtain⟨v3,w3,e1,e2,e3⟩:=D8 (ty:=43) (wr.alloc (.cells #[.string ⟨x.1.toArray⟩, .string ⟨x.2.toArray⟩] 136)) infoS (w.heap.size+1) u5 q r h1' hql (by rw[hsz];omega));rw[hsz] at e1;have hxc:=Ba wr (.cells #[.string ⟨x.1.toArray⟩, .string ⟨x.2.toArray⟩] 136);(have hxc3:=e3.heap hxc (fun e=>by have:=(h1.block e.symm).2;omega));have kw:=h1'.wide e3;have hs3:=kw.size;rw[hsz] at hs3;obtain⟨v4,w4,f1,f2,f3⟩:=D8 (ty:=43) w3 infoS (w.heap.size+1) v3 (q++[r]) x e2 (by
        have hh:=h2.put.len;(have h7:(l.take i).length≤l.length:=by rw[List.length_take];omega);simp only[if_true] at hh;omega) (by omega)
       have kw4:=e2.wide f3;exact⟨v3,w3,e1,cell_of hxc3 0 rfl,cell_of hxc3 1 rfl,v4,w4,f1,⟨(q++[r])++[x],f2,by rw[HTK.out];exact h2.put.keep hne,((h3.trans k1).then kw (fun i hi e=>by omega)).then kw4 (fun i hi e=>by omega),by have:=kw4.size;omega⟩,kw4.heap (kw.heap (k1.heap h5 (fun h=>h)) (by omega)) (by omega)⟩
      obtain⟨v3,w3,hr3,y1,y2,v4,w4,hr4,NX⟩:=APR _ _ rfl rfl;have HR3:=hid hr3;have HR4:=hid hr4;clear hst HOL hsz APR hr3 hr4;(go_wp2_with (at_builtin;first|(refine Lib.wpList_append_run _ rfl _ _ _ _ rfl _ _ rfl rfl _ _ HR3.out ?_)|(refine Lib.wpList_append_run _ rfl _ _ _ _ rfl _ _ rfl rfl _ _ HR4.out ?_)));go_roundg (gk-1)
      case measure=>omega
      case rel=>exact⟨i+1,true,by omega,by simp,rfl,NX⟩
  ·(obtain rfl:i=l.length:=by omega);(have hsz:w.heap.size+1≤wr.heap.size:=by obtain⟨⟨o,_,_,_,h⟩,_⟩:=hst.out;exact h);cases inn with
   |true=>
    have FIN:Hid ((∃v o,Ending.returned u5=.returned v∧OwnR 136 wr w.heap.size v o∧WithE l r o)∧Kp (fun _=>False) w wr):=by
     obtain⟨⟨q,h1,h2,h3,h4⟩,h5⟩:=hst.out;rw[List.take_length] at h2;exact⟨⟨u5,q,rfl,h1.lower (by omega),h2.done⟩,h3⟩
    clear hst;(go_wp2_with fail);(go_ret);exact FIN.out
   |false=>
    have APR:∀RO,RO=Obj.cells #[.string ⟨r.1.toArray⟩, .string ⟨r.2.toArray⟩] 136→∃v3 w3,(Builtin.append_ #[43,43] 43 #[u5, .slice (some ⟨wr.heap.size,0,none⟩) 1 1]).run Tryz.prog (wr.alloc RO)=.ok v3 w3 ∧
      Hid ((∃v o,Ending.returned v3=.returned v∧OwnR 136 w3 w.heap.size v o∧WithE l r o)∧Kp (fun _=>False) w w3):=by
     rintro RO rfl;obtain⟨⟨q,h1,h2,h3,h4⟩,h5⟩:=hst.out;rw[List.take_length] at h2;have hql:=h2.len;simp only[Bool.false_eq_true,if_false] at hql;(obtain⟨v3,w3,e1,e2,e3⟩:=D8 (ty:=43) wr infoS (w.heap.size+1) u5 q r h1 (by omega) hsz);exact⟨v3,w3,e1,⟨v3,q++[r],rfl,e2.lower (by omega),h2.put.done⟩,h3.then (h1.wide e3) (fun i hi e=>by omega)⟩
    have r1:wr.cell? ⟨w.heap.size,0,none⟩=some (.string ⟨r.1.toArray⟩):=cell_of hst.out.2 0 rfl;have r2:wr.cell? ⟨w.heap.size,1,none⟩=some (.string ⟨r.2.toArray⟩):=cell_of hst.out.2 1 rfl;obtain⟨v3,w3,hr3,FIN⟩:=APR _ rfl;have HR3:=hid hr3;clear hst APR hr3;(go_wp2_with (at_builtin;refine Lib.wpList_append_run _ rfl _ _ _ _ rfl _ _ rfl rfl _ _ HR3.out ?_));(go_ret);exact FIN.out
end Go.Proofs.YtgfcnjfmmjcodaaGreatDoor
