/- discardN, Seek and discard. -/
import Derived.Lib.ConvBytes
import Derived.Laws.Rows
import Derived.Laws.ResultCell
import Derived.Test.YtgfcnjfmmjcodaaGreatDoorN02
set_option linter.all false
set_option maxRecDepth 100000
set_option maxHeartbeats 1000000
open Go.Lib (hid)
namespace Go.Proofs.YtgfcnjfmmjcodaaGreatDoor
open Go.RowKit
def DnRel (S:Nat→Prop)(inv:World→Nat→List UInt8→Prop)(w:World)(rest:List UInt8)(n:Nat)(done:Value)(wr:World):Prop:=
 ∃(k:Nat) (cur:List Value) (t:TypeId),done=.int .i64 k∧k≤n∧k≤rest.length∧Kp S w wr∧cur.length=512∧wr.heap[w.heap.size]?=some (.cells cur.toArray t (0,0))∧inv wr 0 (rest.drop k)
def DnEnd (E:Nat→Addr)(S:Nat→Prop)(inv:World→Nat→List UInt8→Prop)(w:World)(rest:List UInt8)(n:Nat)(e:Ending)(w':World):Prop:=
 ∃(k:Nat) (err:Value),e=.returned (.tuple #[.int .i64 k,err])∧Kp S w w'∧inv w' 0 (rest.drop k)∧(n≤rest.length∧k=n∧err=.nilIface∨rest.length<n∧k=rest.length∧err=errv (E 0))
theorem discardN_any {E:Nat→Addr}{B:Nat}{T:TypeId}{v:Value}{S:Nat→Prop}{inv:World→Nat→List UInt8→Prop}(hR:IsRd E B T v S inv)
  (w:World) (n:Nat) (rest:List UInt8) (hG:Glob E B w) (hi:inv w 0 rest) (hnm:n≤4611686018427387904) :
  Calls Tryz.prog 201 #[.iface T v, .int .i64 n] w (DnEnd E S inv w rest n):=by
 obtain⟨f,recv,hm,hna,hcf,hrd⟩:=hR.reads
 have H:=hid hrd
 clear hrd
 have hz:Tryz.zeroCells155.size=512:=by kernel_rfl
 have hnew:(w.alloc (.cells Tryz.zeroCells155 155)).heap[w.heap.size]?=some (.cells Tryz.zeroCells155.toList.toArray 155 (0,0)):=by
  rw[Array.toArray_toList];exact heap_new w _
 have hSw:∀k,S k→k<w.heap.size:=(hR.foot hi).2
 have Hz:=hid hz
 clear hz
 go_enter Tryz.func201,Tryz.ntmps201
 go_wp2_with fail
 go_loopw [7] (fun done wr=>DnRel S inv w rest n done wr) (fun done _=>n-(intOf done).toNat)
 case atStart=>
  exact⟨0,Tryz.zeroCells155.toList,155,rfl,by omega,by omega,Kp.alloc (Kp.refl _ _) _,by rw[Array.length_toList];exact Hz.out,hnew,hR.frame hi fun k hk=>Below.heap_alloc _ _ _ (hSw k hk)⟩
 case round=>
  obtain⟨k,cur,t,rfl,hk,hkr,hkp,hcl,hrow,hir⟩:=hrel
  have hGr:=hG.keep hkp hR.low
  by_cases hlt:k<n
  ·obtain⟨n',hn',hn1,hn2,hn3⟩:∃n':Nat,Hid (min (n-k) 512=n')∧1≤n'∧n'≤512∧n'≤n-k:=⟨_,hid rfl,by omega,by omega,by omega⟩
   have hmin:(if (512:Int)<(n:Int)-(k:Int) then (512:Int) else (n:Int)-(k:Int))=(n':Int):=by have:=hn'.out;split<;>omega
   have hwr:IntKind.i64.wrap ((n:Int)-(k:Int))=(n:Int)-(k:Int):=IntWalk.i64_in _ (by omega)
   have hSb:¬S w.heap.size:=fun h=>by have:=hSw _ h;omega
   have HC:=H.out wr.drew 0 (rest.drop k) w.heap.size 0 n' 512 cur t (hGr.keep (Kp.drew (Kp.refl (fun _=>False) _)) (fun _ h=>h.elim)) (hR.frame hir fun _ _=>rfl) (by omega) (by omega) (heap_drew hrow) (by omega) (by omega) hSb hG.size
   go_wp2_with fail
   refine region_seg [9] (by kernel_rfl) ?_
   simp only[wpSeg,sD,sE,sF,sG]
   repeat still_step
   refine wpStill_nil ?_
   clear hmin hwr
   go_wp2_with fail
   refine HC.mono ?_
   rintro e w1 ⟨m,err,rfl,hmn,hml,hcase,hk1,hb1,hi1⟩
   rw[List.length_drop] at hml
   have hkp1:Kp S w w1:=hkp.then (Kp.then (Kp.drew (Kp.refl (fun k=>S k∨k=w.heap.size) _)) hk1 fun _ _ h=>h) (by rintro i hi (h|rfl);exact h;omega)
   have Hc:=hid hcase
   clear hcase HC
   have hlen1:(splice cur 0 (ubs ((rest.drop k).take m))).length=512:=(splice_len cur 0 _ (by rw[List.length_take];omega)).trans hcl
   have HL:=hid hlen1
   clear hlen1
   have hmn2:k+m≤n:=by omega
   rcases Hc.out with ⟨rfl,hm1⟩|⟨rfl,hml2⟩
   ·by_cases hd:k+m=n
    ·have hd1:((k:Int)+(m:Int)==(n:Int))=true:=by rw[beq_iff_eq];omega
     have HD:=hid hd
     clear hd
     go_wp2_with fail
     repeat still_step
     refine wpStill_nil ?_
     go_wp2_with fail
     go_ret2
     exact⟨k+m, .nilIface,rfl,hkp1,by rw[←List.drop_drop];exact hi1, .inl ⟨by have:=HD.out;omega,HD.out,rfl⟩⟩
    ·have hd1:((k:Int)+(m:Int)==(n:Int))=false:=by rw[beq_eq_false_iff_ne];omega
     have HD:=hid hd
     clear hd
     go_wp2_with fail
     repeat still_step
     refine wpStill_nil ?_
     go_wp2_with fail
     go_roundw
     case rel=>exact⟨k+m,_,t,by go_num,by omega,by omega,hkp1,HL.out,hb1,by rw[←List.drop_drop];exact hi1⟩
     case measure=>simp[intOf];omega
   ·rw[List.length_drop] at hml2
    have HM:=hid hml2
    clear hml2
    by_cases hd:k+m=n
    ·have hd1:((k:Int)+(m:Int)==(n:Int))=true:=by rw[beq_iff_eq];omega
     have HD:=hid hd
     clear hd
     go_wp2_with fail
     repeat still_step
     refine wpStill_nil ?_
     go_wp2_with fail
     go_ret2
     exact⟨k+m, .nilIface,rfl,hkp1,by rw[←List.drop_drop];exact hi1, .inl ⟨by have:=HD.out;omega,HD.out,rfl⟩⟩
    ·have hd1:((k:Int)+(m:Int)==(n:Int))=false:=by rw[beq_eq_false_iff_ne];omega
     have HD:=hid hd
     clear hd
     go_wp2_with fail
     repeat still_step
     refine wpStill_nil ?_
     go_wp2_with fail
     go_ret2
     exact⟨k+m,errv (E 0),rfl,hkp1,by rw[←List.drop_drop];exact hi1, .inr ⟨by have:=HD.out;have:=HM.out;omega,by have:=HM.out;omega,rfl⟩⟩
  ·have hz:k=n:=by omega
   have HZ:=hid hz
   clear hz
   go_wp2_with fail
   go_ret2
   exact⟨k, .nilIface,rfl,hkp,hir, .inl ⟨by have:=HZ.out;omega,HZ.out,rfl⟩⟩
theorem bytesSeek (w:World)(S L C i d:Nat)(A:Option Addr)(pr:Value)(TS:TypeId)
  (hS:w.heap[S]?=some (.cells #[.slice A L C, .int .i64 i,pr] TS (0,0))) (hi:i+d≤9223372036854775807) :
  Calls Tryz.prog 374 #[.pointer (some ⟨S,0,none⟩), .int .i64 d, .int .i64 1] w fun e w'=>
   e=.returned (.tuple #[.int .i64 (i+d:Nat), .nilIface])∧Kp (· =S) w w'∧w'.heap[S]?=some (.cells #[.slice A L C, .int .i64 (i+d:Nat), .int .i64 (-1)] TS (0,0)):=by
 have c0:=cell_of hS 0 rfl
 have c1:=cell_of hS 1 rfl
 have c2:=cell_of hS 2 rfl
 have f1:=free_of hS 1
 have f2:=free_of hS 2
 go_enter Tryz.func374,Tryz.ntmps374
 go_wp2_with fail
 go_ret2
 refine⟨by rw[show ((i+d:Nat):Int)=(i:Int)+(d:Int) by omega];rfl,Kp.setCell (S:=(· =S)) (Kp.setCell (S:=(· =S)) (Kp.refl _ _) (.inl rfl) _) (.inl rfl) _,?_⟩
 rw[show ((i+d:Nat):Int)=(i:Int)+(d:Int) by omega]
 exact heap_set (heap_set hS 2 _) 1 _
def DsEnd (E:Nat→Addr)(S:Nat→Prop)(inv:World→Nat→List UInt8→Prop)(w:World)(rest:List UInt8)(n:Nat)(e:Ending)(w':World):Prop:=
 Kp S w w'∧(n≤rest.length∧e=.returned .nilIface∧inv w' 0 (rest.drop n)∨rest.length<n∧e=.returned (errv (E 5)))
theorem discard_bytes {E:Nat→Addr}{B S D:Nat}(hBS:B≤S)(hBD:B≤D)(w:World)(n:Nat)(rest:List UInt8)(hG:Glob E B w)(hi:BrInv S D w 0 rest)(hnm:n≤2305843009213693952) :
  Calls Tryz.prog 125 #[.iface 94 (.pointer (some ⟨S,0,none⟩)), .int .i64 n] w (DsEnd E (fun k=>k=S∨k=D) (BrInv S D) w rest n):=by
 obtain⟨_,hSD,data,A,i,C,pr,TS,tD,fr,cD,h1,h2,hA,hc,hC,hdl,him,hrest⟩:=id hi
 have HR:=hid hrest
 clear hrest
 have hta:∀w,(Instr.typeAssert (.iface 94 (.pointer (some ⟨S,0,none⟩))) 149 295 true).run Tryz.prog w=.ok (.tuple #[.iface 94 (.pointer (some ⟨S,0,none⟩)), .bool true]) w:=fun _=>by kernel_rfl
 have hms : ∀ w, (method 560 94 (.pointer (some ⟨S, 0, none⟩)) "Seek").run Tryz.prog w = .ok (374, .pointer (some ⟨S, 0, none⟩)) w := fun _ => by kernel_rfl
 have hR:=isRd_bytes (E:=E) hBS hBD
 by_cases hn:1<n
 ·have hrl:rest.length=data.length-i:=by rw[HR.out,List.length_drop]
  have HRL:=hid hrl
  clear hrl
  go_enter Tryz.func125,Tryz.ntmps125
  go_wp2_with fail
  refine(bytesSeek w S data.length C i 0 A pr TS h1 (by omega)).mono ?_
  rintro e w1 ⟨rfl,hk1,hS1⟩
  rw[Nat.add_zero] at *
  have hi0:0≤(i:Int):=by omega
  go_wp2_with fail
  rw[show ((n:Int)-1)=((n-1:Nat):Int) by omega]
  refine(bytesSeek w1 S data.length C i (n-1) A _ TS hS1 (by omega)).mono ?_
  rintro e w2 ⟨rfl,hk2,hS2⟩
  have hk12:Kp (fun k=>k=S∨k=D) w w2:=(hk1.trans hk2).mono fun _ _ h=>.inl h
  have hG2:=hG.keep hk12 (by rintro b (rfl|rfl)<;>assumption)
  have hi1:0≤(i:Int)+((n-1:Nat):Int):=by omega
  by_cases hle:n≤rest.length
  ·have HB:BrInv S D w2 0 (rest.drop (n-1)):=⟨rfl,hSD,data,A,i+(n-1),C,_,TS,tD,fr,cD,hS2,(hk1.trans hk2).heap h2 (Ne.symm hSD),hA,hc,hC,hdl,by have:=HRL.out;omega,by rw[HR.out,List.drop_drop]⟩
   have HD:=discardN_any hR w2 1 (rest.drop (n-1)) hG2 HB (by omega)
   go_wp2_with fail
   rw[show ((n:Int)-((i:Int)+((n-1:Nat):Int)-(i:Int)))=((1:Nat):Int) by omega]
   refine HD.mono ?_
   rintro e w3 ⟨k,err,rfl,hk3,hi3,hcase⟩
   rcases hcase with ⟨_,rfl,rfl⟩|⟨h,_⟩
   ·clear HD
    have hE3:=(hG2.keep hk3 (by rintro b (rfl|rfl)<;>assumption)).eof
    go_wp2_with fail
    go_ret
    refine⟨hk12.then hk3 fun _ _ h=>h, .inl ⟨hle,rfl,?_⟩⟩
    rw[List.drop_drop,show n-1+1=n by omega] at hi3
    exact hi3
   ·rw[List.length_drop] at h;omega
  ·have HB:BrOver S w2 0 []:=⟨rfl,rfl,A,data.length,i+(n-1),C,_,TS,hS2,by have:=HRL.out;omega⟩
   have HD:=discardN_any (isRd_over (E:=E) hBS) w2 1 [] hG2 HB (by omega)
   go_wp2_with fail
   rw[show ((n:Int)-((i:Int)+((n-1:Nat):Int)-(i:Int)))=((1:Nat):Int) by omega]
   refine HD.mono ?_
   rintro e w3 ⟨k,err,rfl,hk3,hi3,hcase⟩
   rcases hcase with ⟨h,_⟩|⟨_,hk0,rfl⟩
   ·simp at h
   ·obtain rfl:k=0:=hk0
    clear HD hi3
    have hG3:=hG2.keep hk3 (by rintro b rfl;exact hBS)
    have hE3:=hG3.eof
    have hU3:=hG3.unexp
    have hlt:(i:Int)+((n-1:Nat):Int)-(i:Int)+((0:Nat):Int)<(n:Int):=by omega
    go_wp2_with fail
    go_ret
    exact⟨hk12.then hk3 fun _ _ h=>.inl h, .inr ⟨by omega,rfl⟩⟩
 ·have HD:=discardN_any hR w n rest hG hi (by omega)
  go_enter Tryz.func125,Tryz.ntmps125
  go_wp2_with fail
  refine HD.mono ?_
  rintro e w3 ⟨k,err,rfl,hk3,hi3,hcase⟩
  have hG3:=hG.keep hk3 (by rintro b (rfl|rfl)<;>assumption)
  have hE3:=hG3.eof
  have hU3:=hG3.unexp
  rcases hcase with ⟨h,rfl,rfl⟩|⟨h,hk0,rfl⟩
  ·clear HD
   go_wp2_with fail
   go_ret
   exact⟨hk3, .inl ⟨h,rfl,hi3⟩⟩
  ·have hlt:(k:Int)<(n:Int):=by omega
   have HK:=hid hk0
   clear HD hi3 hk0
   go_wp2_with fail
   go_ret
   exact⟨hk3, .inr ⟨h,rfl⟩⟩
def RegInvT (R:Nat)(T:TypeId)(v:Value)(S:Nat→Prop)(inv:World→Nat→List UInt8→Prop)(tl:List UInt8)(w:World)(g:Nat)(rest:List UInt8):Prop:=
 ∃(src:List UInt8) (nb:Nat),inv w 0 src∧w.heap[R]?=some (.cells #[.iface T v, .int .i64 nb] 152 (0,0))∧¬S R∧rest=src.take nb∧g=endOf nb src.length∧nb≤4611686018427387904∧src.drop nb=tl
theorem regReadT_some {tl:List UInt8}{E:Nat→Addr}{B:Nat}{T:TypeId}{v:Value}{S:Nat→Prop}{inv:World→Nat→List UInt8→Prop}(hR:IsRd E B T v S inv)
  (w:World) (R b off n c nb:Nat) (t:TypeId) (cur:List Value) (src:List UInt8) (hG:Glob E B w) (hi:inv w 0 src)
  (hr:w.heap[R]?=some (.cells #[.iface T v, .int .i64 nb] 152 (0,0))) (hnb:1≤nb) (hnbm:nb≤4611686018427387904) (htl:src.drop nb=tl) (hSR:¬S R) (hBR:B≤R)
  (hn:1≤n) (hnm:n≤281474976710656) (hb:w.heap[b]?=some (.cells cur.toArray t (0,0))) (hfit:off+n≤cur.length) (hnc:n≤c) (hbS:¬S b) (hbB:B≤b) (hbR:R≠b) :
  Calls Tryz.prog 380 #[.pointer (some ⟨R,0,none⟩), .slice (some ⟨b,off,none⟩) n c] w
   (ReadEnd E (fun k=>S k∨k=R) (RegInvT R T v S inv tl) w (endOf nb src.length) (src.take nb) b off n cur t):=by
 have HTL:=hid htl
 clear htl
 have c0:=cell_of hr 0 rfl
 have c1:=cell_of hr 1 rfl
 have f1:=free_of hr 1
 obtain⟨f,recv,hm,hna,hcf,hrd⟩:=hR.reads
 have H:=hid hrd
 clear hrd
 by_cases hlt:nb<n
 all_goals
  have hnb2:nb<n→nb≤c:=by omega
  go_enter Tryz.func380,Tryz.ntmps380
  go_wp2_with fail
  first
   |((with_reducible refine(H.out w 0 src b off nb c cur t hG hi hnb (by omega) hb (by omega) (by omega) hbS hbB).mono ?_))
   |((with_reducible refine(H.out w 0 src b off n c cur t hG hi hn hnm hb hfit hnc hbS hbB).mono ?_))
  rintro e w1 ⟨m,err,rfl,hmn,hml,hcase,hk,hb1,hi1⟩
  have hG1:=hG.keep hk (by rintro k (h|rfl);exact hR.low _ h;exact hbB)
  have hr1:=hk.heap hr (by rintro(h|h);exact hSR h;exact hbR h)
  have hE1:=hG1.eof
  have hU1:=hG1.unexp
  have d1:=cell_of hr1 1 rfl
  have e1:=free_of hr1 1
  clear c0 c1 f1
  have hmnb:m≤nb:=by omega
  have hkp:∀n1,Kp (fun k=>(S k∨k=R)∨k=b) w ((w1.setCell ⟨R,1,none⟩ (.int .i64 ((nb:Int)-m))).drewN n1):=fun n1=>
   (Kp.drewN (Kp.setCell (hk.mono (by rintro k _ (h|h);exact .inl (.inl h);exact .inr h)) (.inl (.inl (.inr rfl))) _) n1)
  have hbb:∀n1,((w1.setCell ⟨R,1,none⟩ (.int .i64 ((nb:Int)-m))).drewN n1).heap[b]?=some (.cells (splice cur off (ubs ((src.take nb).take m))).toArray t (0,0)):=fun n1=>by
   rw[List.take_take,Nat.min_eq_left hmnb];exact heap_drewN (heap_set_ne hb1 _ _ (Ne.symm hbR)) n1
  have hinv:∀n1,RegInvT R T v S inv tl ((w1.setCell ⟨R,1,none⟩ (.int .i64 ((nb:Int)-m))).drewN n1) (endOf nb src.length) ((src.take nb).drop m):=fun n1=>by
   refine⟨src.drop m,nb-m,hR.frame hi1 fun k hk=>?_,?_,hSR,?_,?_,by omega,by rw[List.drop_drop,show m+(nb-m)=nb by omega];exact HTL.out⟩
   ·show ((w1.setCell _ _).heap[k]?:Option Obj)=_
    rw[Below.heap_setCell _ _ _ _ (fun h=>hSR (by have:k=R:=h;exact this▸hk))]
   ·rw[show ((nb-m:Nat):Int)=(nb:Int)-(m:Int) by omega]
    exact heap_drewN (heap_set hr1 1 _) n1
   ·rw[List.drop_take]
   ·rw[List.length_drop];unfold endOf;congr 1;simp;omega
  rcases hcase with ⟨rfl,h1⟩|⟨rfl,h2⟩
  ·by_cases hz:m=nb
   ·have hz1:((nb:Int)-(m:Int)==0)=true:=by rw[beq_iff_eq];omega
    have Hz:=hid hz
    clear hz
    go_wp2_with fail
    go_quiet (fail)
    go_wp2_with fail
    go_ret2
    exact⟨m,errv (E 0),rfl,by omega,by rw[List.length_take];omega, .inr ⟨by rw[endOf_le (by have:=Hz.out;omega)],by rw[List.length_take];have:=Hz.out;omega⟩,hkp _,hbb _,hinv _⟩
   ·have hz1:((nb:Int)-(m:Int)==0)=false:=by rw[beq_eq_false_iff_ne];omega
    go_wp2_with fail
    go_ret2
    exact⟨m, .nilIface,rfl,by omega,by rw[List.length_take];omega, .inl ⟨rfl,h1⟩,hkp 0,hbb 0,hinv 0⟩
  ·have H2:=hid h2
   clear h2
   by_cases hz:m=nb
   ·have hz1:¬0<(nb:Int)-(m:Int):=by omega
    have Hz:=hid hz
    clear hz
    go_wp2_with fail
    go_ret2
    exact⟨m,errv (E 0),rfl,by omega,by rw[List.length_take];omega, .inr ⟨by rw[endOf_le (by have:=H2.out;have:=Hz.out;omega)],by rw[List.length_take];have:=Hz.out;have:=H2.out;omega⟩,hkp 0,hbb 0,hinv 0⟩
   ·have hz1:0<(nb:Int)-(m:Int):=by omega
    go_wp2_with fail
    go_quiet (fail)
    go_wp2_with fail
    go_ret2
    exact⟨m,errv (E 5),rfl,by omega,by rw[List.length_take];omega, .inr ⟨by rw[endOf_gt (by have:=H2.out;omega)],by rw[List.length_take];have:=H2.out;omega⟩,hkp _,hbb _,hinv _⟩
theorem isRd_regT (tl:List UInt8){E:Nat→Addr}{B:Nat}{T:TypeId}{v:Value}{S:Nat→Prop}{inv:World→Nat→List UInt8→Prop}(hR:IsRd E B T v S inv)(R:Nat)(hBR:B≤R) :
  IsRd E B 150 (.pointer (some ⟨R,0,none⟩)) (fun k=>S k∨k=R) (RegInvT R T v S inv tl) where
 low:=by rintro k (h|rfl);exact hR.low _ h;exact hBR
 foot:=by
  rintro w g rest ⟨src,nb,hi,hr,hS,rfl,rfl,hm,hx⟩
  refine⟨by unfold endOf;split<;>simp,?_⟩
  rintro k (h|rfl)
  ·exact(hR.foot hi).2 k h
  ·exact lt_of hr
 frame:=by
  rintro w w' g rest ⟨src,nb,hi,hr,h⟩ hk
  exact⟨src,nb,hR.frame hi fun k h=>hk k (.inl h),(hk R (.inr rfl)).trans hr,h⟩
 reads:=by
  refine⟨380, .pointer (some ⟨R,0,none⟩),fun _=>by kernel_rfl,fun _=>by kernel_rfl,fun _ _=>by kernel_rfl,?_⟩
  rintro w g rest b off n c cur t hG ⟨src,nb,hi,hr,hS,rfl,rfl,hm,hx⟩ hn hnm hb hfit hnc hbS hbB
  by_cases h0:nb=0
  ·subst h0
   refine(regRead_zero w R n c ⟨b,off,none⟩ _ 152 (E 0) hr hG.eof).mono ?_
   rintro e w' ⟨rfl,k,rfl⟩
   refine⟨0,errv (E 0),rfl,by omega,by omega, .inr ⟨rfl,rfl⟩,(Kp.refl _ _).drewN k,by simpa[splice,ubs] using heap_drewN hb k,src,0,hR.frame hi fun _ _=>rfl,heap_drewN hr k,hS,rfl,rfl,hm,hx⟩
  ·exact regReadT_some hR w R b off n c nb t cur src hG hi hr (by omega) hm hx hS hBR hn hnm hb hfit hnc (fun h=>hbS (.inl h)) hbB (fun h=>hbS (.inr h.symm))
theorem Kp.bytes (w:World)(s:ByteArray):Kp (fun _=>False) w (Lib.bytesWorld w 5 s):=
 ⟨rfl,rfl,rfl,by rw[Lib.bytesWorld_size];omega,fun k hk _=>Lib.bytesWorld_at_old w 5 s k hk⟩
def octVal (l:List UInt8):Nat:=l.foldl (fun n c=>n*8+(c.toNat-48)) 0
theorem octVal_snoc (l:List UInt8)(c:UInt8):octVal (l++[c])=octVal l*8+(c.toNat-48):=by simp[octVal]
theorem octFold_le (m:List UInt8):∀n:Nat,n≤m.foldl (fun n c=>n*8+(c.toNat-48)) n:=by
 induction m with
 |nil=>intro n;exact Nat.le_refl _
 |cons c m ih=>intro n;exact Nat.le_trans (show n≤n*8+(c.toNat-48) by omega) (ih _)
theorem octVal_le (l m:List UInt8):octVal l≤octVal (l++m):=by
 unfold octVal
 rw[List.foldl_append]
 exact octFold_le m _
set_option maxHeartbeats 800000 in
theorem parseUint8 (w:World)(s:ByteArray)(l:List UInt8)(hl:s.data.toList=l)(hs:1≤s.size)(hsz:s.size≤1000)(hd:∀c∈l,48≤c.toNat∧c.toNat≤55)(hv:octVal l<9223372036854775808) :
  Calls Tryz.prog 297 #[.string s, .int .i64 8, .int .i64 64] w fun e w'=>e=.returned (.tuple #[.int .u64 (octVal l), .nilIface])∧Kp (fun _=>False) w w':=by
 have hlen:l.length=s.size:=by rw[←hl];simp
 have hne:s.toList.isEmpty=false:=by
  rw[←decide_eq_emptyBytes]
  exact decide_eq_false (fun h=>by rw[h] at hs;simp at hs)
 have hcv:=Lib.run_convert_string_bytes (P:=Tryz.prog) w 9 27 5 s (u:=.string) Tryz.underlying9 Tryz.underlying27 Tryz.underlying5
 have hB:∀j,j<s.size→(Lib.bytesWorld w 5 s).cell? ⟨w.heap.size,j,none⟩=some (.int .u8 (l.getD j 0).toNat):=fun j hj=>by rw[←hl];exact Lib.bytesWorld_cell w 5 s j hj
 have hK:=Kp.bytes w s
 obtain⟨W1,hW1⟩:∃W1,W1=Lib.bytesWorld w 5 s:=⟨_,rfl⟩
 rw[←hW1] at hcv hB hK
 clear hW1
 have Hd:=hid hd
 have Hv:=hid hv
 have Hl:=hid hl
 have HL:=hid hlen
 clear hd hv hl hlen
 have hmv:IntKind.u64.wrap (IntKind.u64.wrap 18446744073709551616-1)=18446744073709551615:=by
  rw[IntKind.wrap_u64,IntKind.wrap_u64]
  decide
 go_enter Tryz.func297,Tryz.ntmps297
 go_wp2
 go_loop [12,13,101] (fun vu vn vi=>∃(k:Nat) (a:Int),vu=.bool false∧vn=.int .u64 a∧vi=.int .i64 k∧k≤s.size∧Hid (a=(octVal (l.take k):Nat))) (fun _ _ vi=>s.size-(intOf vi).toNat)
 case atStart=>exact⟨0,0,rfl,rfl,rfl,by omega,rfl⟩
 case round=>
  obtain⟨k,a,rfl,rfl,rfl,hk,ha⟩:=hrel
  have hle:octVal (l.take k)≤octVal l:=by
   have:=octVal_le (l.take k) (l.drop k)
   rwa[List.take_append_drop] at this
  have a0:0≤a:=by have:=ha.out;omega
  have a1:a<9223372036854775808:=by have:=ha.out;have:=Hv.out;omega
  by_cases hkn:k<s.size
  ·have hc:=hB k hkn
   have hkl:k<l.length:=by have:=HL.out;omega
   have hget:l.getD k 0=l[k]:=by simp[List.getD,List.getElem?_eq_getElem hkl]
   have htk:l.take (k+1)=l.take k++[l[k]]:=by rw[List.take_succ_eq_append_getElem hkl]
   have hdig:=Hd.out l[k] (List.getElem_mem hkl)
   have hnext:octVal (l.take (k+1))≤octVal l:=by
    have:=octVal_le (l.take (k+1)) (l.drop (k+1))
    rwa[List.take_append_drop] at this
   rw[htk,octVal_snoc] at hnext
   have HN:Hid (octVal (l.take (k+1))=octVal (l.take k)*8+(l[k].toNat-48)):=by rw[htk];exact octVal_snoc _ _
   rw[hget] at hc
   clear hB hget htk
   generalize l[k]=c at hc hdig hnext HN
   obtain⟨hd0,hd1⟩:=hdig
   have a2:a<2305843009213693952:=by have:=ha.out;have:=Hv.out;omega
   have a3:a*8+((c.toNat:Int)-48)<9223372036854775808:=by have:=ha.out;have:=Hv.out;omega
   have HX:Hid (a*8+((c.toNat:Int)-48)=(octVal (l.take (k+1)):Nat)):=by
    show a*8+((c.toNat:Int)-48)=_
    rw[HN.out,ha.out];omega
   clear hle hnext HN
   have hc0:0≤(c.toNat:Int)-48:=by omega
   have hc1:(c.toNat:Int)-48≤7:=by omega
   go_wp2
   go_round
   case rel=>exact⟨k+1,_,rfl,rfl,by go_num,by omega,HX⟩
   case measure=>simp[intOf];omega
  ·have hz:k=s.size:=by omega
   have HZ:Hid (a=(octVal l:Nat)):=by
    have h1:=ha.out
    rw[hz,←HL.out,List.take_length] at h1
    exact h1
   clear hz ha hle
   have e:Hid (Ending.returned (.tuple #[.int .u64 a, .nilIface])=Ending.returned (.tuple #[.int .u64 (octVal l:Nat), .nilIface]) ):= congrArg (fun x:Int=>Ending.returned (.tuple #[.int .u64 x, .nilIface])) HZ.out
   go_wp2_with fail
   go_ret2
   refine⟨Eq.trans (b:=Ending.returned (.tuple #[.int .u64 a, .nilIface])) ?_ e.out,hK⟩
   rfl
theorem contains_any (w:World)(b c:Nat)(v:Bool)(hc:w.cell? ⟨b,c,none⟩=some (.bool v))(h:c<256) :
  Calls Tryz.prog 348 #[.pointer (some ⟨b,0,none⟩), .int .u8 c] w fun e w'=>e=.returned (.bool v)∧w'=w:=by
 go_enter Tryz.func348,Tryz.ntmps348
 go_wp2_with fail
 go_ret
 exact⟨rfl,rfl⟩
noncomputable def setA:Array Value:=(Tryz.zeroCells413.setIfInBounds 32 (.bool true)).setIfInBounds 0 (.bool true)
noncomputable def setA1:Array Value:=Tryz.zeroCells413.setIfInBounds 32 (.bool true)
theorem zero413_size:Tryz.zeroCells413.size=256:=by kernel_rfl
theorem setA_size:setA.size=256:=by simp[setA]
def inSet (c:Nat):Bool:=c==32||c==0
theorem zero413_at (c:Nat)(h:c<256):Tryz.zeroCells413[c]?=some (.bool false):=by
 have h1:Tryz.zeroCells413=Array.replicate 256 (.bool false):=by kernel_rfl
 rw[h1,Array.getElem?_replicate,if_pos h]
theorem setA_at (c:Nat)(h:c<256):setA[c]?=some (.bool (inSet c)):=by
 unfold setA inSet
 rw[Array.getElem?_setIfInBounds,Array.getElem?_setIfInBounds]
 by_cases h0:0=c
 ·subst h0;simp
 ·by_cases h1:32=c
  ·subst h1;simp
  ·rw[if_neg h0,if_neg h1,zero413_at c h]
   have e1:(c==32)=false:=by simp;omega
   have e2:(c==0)=false:=by simp;omega
   rw[e1,e2];rfl
theorem setA_one:setA.all (·.oneCell')=true:=by
 rw[Array.all_eq_true]
 intro i hi
 have:=setA_at i (by rw[setA_size] at hi;exact hi)
 rw[Array.getElem?_eq_getElem hi] at this
 rw[Option.some.inj this];rfl
theorem makeSet (w:World):Calls Tryz.prog 327 #[.string ⟨#[32,0]⟩] w fun e w'=>e=.returned (.tuple #[.agg setA, .bool true])∧Kp (fun _=>False) w w':=by
 have h0:(w.alloc (.cells Tryz.zeroCells413 413)).heap[w.heap.size]?=some (.cells Tryz.zeroCells413 413 (0,0)):=heap_new w _
 have i0:∀w,(Instr.index 9 (.string ⟨#[32,0]⟩) (.int .i64 0)).run Tryz.prog w=.ok (.int .u8 32) w:=fun _=>by kernel_rfl
 have i1:∀w,(Instr.index 9 (.string ⟨#[32,0]⟩) (.int .i64 1)).run Tryz.prog w=.ok (.int .u8 0) w:=fun _=>by kernel_rfl
 go_enter Tryz.func327,Tryz.ntmps327
 go_wp2_with fail
 go_loopw [4] (fun i wr=>Kp (fun _=>False) w wr∧(i=.int .i64 0∧wr.heap[w.heap.size]?=some (.cells Tryz.zeroCells413 413 (0,0))∨i=.int .i64 1∧wr.heap[w.heap.size]?=some (.cells setA1 413 (0,0))∨i=.int .i64 2∧wr.heap[w.heap.size]?=some (.cells setA 413 (0,0)))) (fun i _=>2-(intOf i).toNat)
 case atStart=>exact⟨Kp.alloc (Kp.refl _ _) _, .inl ⟨rfl,h0⟩⟩
 case round=>
  obtain⟨hk,⟨rfl,hr⟩|⟨rfl,hr⟩|⟨rfl,hr⟩⟩:=hrel
  ·have c0:=cell_of hr 32 (zero413_at 32 (by omega))
   have f0:=free_of hr 32
   go_wp2_with fail
   go_roundw
   case rel=>exact⟨Kp.setCell hk (.inr (Nat.le_refl _)) _, .inr (.inl ⟨rfl,heap_set hr 32 _⟩)⟩
   case measure=>simp[intOf]
  ·have c0:=cell_of hr 0 (show setA1[0]?=some (.bool false) by unfold setA1;rw[Array.getElem?_setIfInBounds_ne (by omega)];exact zero413_at 0 (by omega))
   have f0:=free_of hr 0
   go_wp2_with fail
   go_roundw
   case rel=>exact⟨Kp.setCell hk (.inr (Nat.le_refl _)) _, .inr (.inr ⟨rfl,heap_set hr 0 _⟩)⟩
   case measure=>simp[intOf]
  ·go_wp2_with (first|(refine wpList_load_row rfl 413 _ rfl w.heap.size rfl 413 setA (0,0) _ hr Tryz.underlying413 rfl (by rw[setA_size];kernel_rfl) ?_)|(refine wpList_store_row rfl 413 _ _ rfl w.heap.size setA rfl rfl 413 setA hr (by rw[setA_size];kernel_rfl) rfl setA_one ?_))
   have hr2:(wr.setRow w.heap.size setA).heap[w.heap.size]?=some (.cells setA 413 (0,0)):=setRow_heap wr _ _ _ _ _ hr
   refine bodyPost_ret (v:=.tuple #[.agg setA, .bool true]) ?_ rfl ⟨rfl,Kp.setRow hk (.inr (Nat.le_refl _)) _⟩
   rw[results_cell_tmp rfl]
   show ((asAddr (.pointer (some ⟨w.heap.size,0,none⟩))).run Tryz.prog _).andThen _=_
   simp only[asAddr,Sem.run_pure,Result.andThen_ok,run_loadVar_row _ w.heap.size 413 413 setA (0,0) _ hr2 Tryz.underlying413 rfl (by rw[setA_size];kernel_rfl)]
   rfl
def BytesAt (w:World)(b off:Nat)(l:List UInt8):Prop:=∀(j:Nat) (v:Value),(ubs l)[j]?=some v→w.cell? ⟨b,off+j,none⟩=some v
theorem BytesAt.get {w:World}{b off:Nat}{l:List UInt8}(h:BytesAt w b off l)(j:Nat)(hj:j<l.length):w.cell? ⟨b,off+j,none⟩=some (.int .u8 (l[j].toNat:Int)):=
 h j _ (by rw[ubs_get,List.getElem?_eq_getElem hj];rfl)
theorem BytesAt.keep {w w':World}{b off:Nat}{l:List UInt8}{S:Nat→Prop}(h:BytesAt w b off l)(k:Kp S w w')(hs:¬S b):BytesAt w' b off l:=
 fun j v hv=>k.cell (h j v hv) hs
theorem BytesAt.left {w:World}{b off:Nat}{l m:List UInt8}(h:BytesAt w b off (l++m)):BytesAt w b off l:=fun j v hv=>h j v (by
 have hj:j<(ubs l).length:=(List.getElem?_eq_some_iff.1 hv).1
 rw[ubs_append,List.getElem?_append_left hj];exact hv)
theorem BytesAt.right {w:World}{b off:Nat}{l m:List UInt8}(h:BytesAt w b off (l++m)):BytesAt w b (off+l.length) m:=fun j v hv=>by
 have:=h (l.length+j) v (by rw[ubs_append,List.getElem?_append_right (by rw[ubs_length];omega),ubs_length,Nat.add_sub_cancel_left];exact hv)
 rwa[←Nat.add_assoc] at this
theorem trimRight_any (w:World)(b off c sb:Nat)(ds tl:List UInt8)(hb:BytesAt w b off (ds++tl))(hsb:w.heap[sb]?=some (.cells setA 413 (0,0)))
  (hc:ds.length+tl.length≤c) (hcm:c≤281474976710656) (htl:∀x∈tl,inSet x.toNat=true) (hds:∀h:ds≠[],inSet (ds.getLast h).toNat=false) :
  Calls Tryz.prog 329 #[.slice (some ⟨b,off,none⟩) (ds.length+tl.length) c, .pointer (some ⟨sb,0,none⟩)] w fun e w'=>e=.returned (.slice (some ⟨b,off,none⟩) ds.length c)∧w'=w:=by
 have HT:=hid htl
 have HD:=hid hds
 have HB:=hid hb
 clear htl hds hb
 have hdl:ds.length≤281474976710656:=by omega
 go_enter Tryz.func329,Tryz.ntmps329
 go_wp2_with fail
 go_loop [0] (fun s=>∃k:Nat,k≤tl.length∧s=.slice (some ⟨b,off,none⟩) (ds.length+k) c) (fun s=>match s with| .slice _ n _=>n|_=>0)
 case atStart=>exact⟨tl.length,Nat.le_refl _,rfl⟩
 case round=>
  obtain⟨k,hk,rfl⟩:=hrel
  by_cases hk0:0<k
  ·have hj:ds.length+(k-1)<(ds++tl).length:=by rw[List.length_append];omega
   have hg:=HB.out.get (ds.length+(k-1)) hj
   have hin:inSet ((ds++tl)[ds.length+(k-1)]).toNat=true:=by
    rw[List.getElem_append_right (by omega)]
    exact HT.out _ (List.getElem_mem _)
   generalize (ds++tl)[ds.length+(k-1)]=x at hg hin
   have hx:x.toNat<256:=x.toNat_lt
   have hs:=cell_of hsb x.toNat (setA_at _ hx)
   rw[hin] at hs
   have hoff:off+(ds.length+k-1)=off+(ds.length+(k-1)):=by omega
   rw[←hoff] at hg
   clear hin hoff
   go_wp2_with (go_at_call 348;refine(contains_any w sb x.toNat true hs hx).mono ?_;rintro e w' ⟨rfl,rfl⟩)
   go_round
   case rel=>exact⟨k-1,by omega,by rw[show ds.length+k-1=ds.length+(k-1) by omega]⟩
   case measure=>simp;omega
  ·obtain rfl:k=0:=by omega
   rw[Nat.add_zero]
   by_cases hd:ds=[]
   ·subst hd
    rw[List.length_nil]
    go_wp2_with fail
    go_ret
    exact⟨rfl,rfl⟩
   ·have hpos:0<ds.length:=List.length_pos_iff.2 hd
    have hg:=HB.out.left.get (ds.length-1) (by omega)
    have hin:=HD.out hd
    rw[List.getLast_eq_getElem] at hin
    generalize ds[ds.length-1]=x at hg hin
    have hx:x.toNat<256:=x.toNat_lt
    have hs:=cell_of hsb x.toNat (setA_at _ hx)
    rw[hin] at hs
    clear hin
    go_wp2_with (go_at_call 348;refine(contains_any w sb x.toNat false hs hx).mono ?_;rintro e w' ⟨rfl,rfl⟩)
    go_ret
    exact⟨rfl,rfl⟩
theorem trimLeft_any (w:World)(b off n c sb:Nat)(x:UInt8)(l:List UInt8)(hb:BytesAt w b off (x::l))(hsb:w.heap[sb]?=some (.cells setA 413 (0,0)))
  (hn:1≤n) (hnm:n≤281474976710656) (hx0:inSet x.toNat=false) :
  Calls Tryz.prog 328 #[.slice (some ⟨b,off,none⟩) n c, .pointer (some ⟨sb,0,none⟩)] w fun e w'=>e=.returned (.slice (some ⟨b,off,none⟩) n c)∧w'=w:=by
 have hg:w.cell? ⟨b,off,none⟩=some (.int .u8 (x.toNat:Int)):=hb.get 0 (by simp)
 have hx:x.toNat<256:=x.toNat_lt
 have hs:=cell_of hsb x.toNat (setA_at _ hx)
 rw[hx0] at hs
 clear hx0 hb
 have hn0:((n:Int)==0)=false:=by rw[beq_eq_false_iff_ne];omega
 go_enter Tryz.func328,Tryz.ntmps328
 go_wp2_with fail
 go_loop [0] (fun s=>s=.slice (some ⟨b,off,none⟩) n c) (fun s=>match s with| .slice _ n _=>n|_=>0)
 case atStart=>rfl
 case round=>
  subst hrel
  go_wp2_with (go_at_call 348;refine(contains_any w sb x.toNat false hs hx).mono ?_;rintro e w' ⟨rfl,rfl⟩)
  go_ret
  exact⟨rfl,rfl⟩
theorem trim_any (w:World)(b off c:Nat)(ds tl:List UInt8)(hb:BytesAt w b off (ds++tl))(hlt:b<w.heap.size)
  (hc:ds.length+tl.length≤c) (hcm:c≤281474976710656) (htl:∀x∈tl,inSet x.toNat=true) (hds:∀x∈ds,inSet x.toNat=false) (hne:1≤ds.length) :
  Calls Tryz.prog 293 #[.slice (some ⟨b,off,none⟩) (ds.length+tl.length) c, .string ⟨#[32,0]⟩] w fun e w'=>e=.returned (.slice (some ⟨b,off,none⟩) ds.length c)∧Kp (fun _=>False) w w':=by
 have hn0:(((ds.length:Int)+(tl.length:Int))==0)=false:=by rw[beq_eq_false_iff_ne];omega
 have HT:=hid htl
 have HD:=hid hds
 have HB:=hid hb
 clear htl hds hb
 go_enter Tryz.func293,Tryz.ntmps293
 go_wp2_with fail
 refine(makeSet w).mono ?_
 rintro e w1 ⟨rfl,hk1⟩
 have hB1:=HB.out.keep hk1 (fun h=>h)
 have hlt1:b<w1.heap.size:=Nat.lt_of_lt_of_le hlt hk1.size
 have hnw:(w1.alloc (.cells Tryz.zeroCells413 413)).heap[w1.heap.size]?=some (.cells Tryz.zeroCells413 413 (0,0)):=heap_new w1 _
 have hset:((w1.alloc (.cells Tryz.zeroCells413 413)).setRow w1.heap.size setA).heap[w1.heap.size]?=some (.cells setA 413 (0,0)):=setRow_heap _ _ _ _ _ _ hnw
 have hk2:Kp (fun _=>False) w1 ((w1.alloc (.cells Tryz.zeroCells413 413)).setRow w1.heap.size setA):=Kp.setRow (Kp.alloc (Kp.refl _ _) _) (.inr (Nat.le_refl _)) _
 have hB2:=hB1.keep hk2 (fun h=>h)
 have hkk:=hk1.trans hk2
 have HN:=hid hnw
 clear hnw
 go_wp2_with (refine wpList_store_row rfl 413 (.tmp 5) (.tmp 31) rfl w1.heap.size setA rfl rfl 413 Tryz.zeroCells413 HN.out (by rw[setA_size];kernel_rfl) (by rw[setA_size,zero413_size]) setA_one ?_)
 obtain⟨W2,hW2⟩:∃W2,W2=(w1.alloc (.cells Tryz.zeroCells413 413)).setRow w1.heap.size setA:=⟨_,rfl⟩
 rw[←hW2] at hset hB2 hkk ⊢
 clear hW2 hk2
 refine(trimRight_any W2 b off c w1.heap.size ds tl hB2 hset (by omega) hcm HT.out (fun h=>HD.out _ (List.getLast_mem h))).mono ?_
 rintro e w3 ⟨rfl,rfl⟩
 go_wp2_with fail
 obtain⟨x,l,hxl⟩:∃x l,ds=x::l:=by
  cases ds with
  |nil=>simp at hne
  |cons x l=>exact⟨x,l,rfl⟩
 have hx:inSet x.toNat=false:=HD.out x (by rw[hxl];simp)
 have hB3:BytesAt w3 b off (x::l):=by rw[←hxl];exact hB2.left
 refine(trimLeft_any w3 b off ds.length c w1.heap.size x l hB3 hset hne (by omega) hx).mono ?_
 rintro e w4 ⟨rfl,rfl⟩
 clear hxl
 go_wp2_with fail
 go_ret
 exact⟨rfl,hkk⟩
end Go.Proofs.YtgfcnjfmmjcodaaGreatDoor
