/- The readers of this seat. -/
import Derived.LaidLaws
import Derived.Test.YtgfcnjfmmjcodaaGreatDoorN01
set_option linter.all false
set_option maxRecDepth 100000
set_option maxHeartbeats 1000000
open Go.Lib (hid)
namespace Go.Proofs.YtgfcnjfmmjcodaaGreatDoor
section
open Go.RowKit
theorem bytesRead_some (w:World)(S D C i b off n c:Nat)(pr:Value)(TS t tD:TypeId)(data:List UInt8)(cur:List Value)(fr:Nat × Nat)(cD:Array Value)
  (hS:w.heap[S]?=some (.cells #[.slice (some ⟨D,0,none⟩) data.length C, .int .i64 i,pr] TS (0,0)))
  (hD:w.heap[D]?=some (.cells cD tD fr)) (hDc:∀(j:Nat) (v:Value),(ubs data)[j]?=some v→cD[j]?=some v)
  (hi:i<data.length) (hLm:data.length≤281474976710656) (hC:data.length≤C)
  (hb:w.heap[b]?=some (.cells cur.toArray t (0,0))) (hfit:off+n≤cur.length) (hn:1≤n) (hnm:n≤281474976710656) (hbS:b≠S) (hbD:b≠D) (hSD:S≠D) (m:Nat) (HM:Hid (Nat.min (data.length-i) n=m)) :
  Calls Tryz.prog 373 #[.pointer (some ⟨S,0,none⟩), .slice (some ⟨b,off,none⟩) n c] w fun e w'=>
   e=.returned (.tuple #[.int .i64 m, .nilIface])∧Kp (fun k=>k=S∨k=b) w w' ∧
   w'.heap[S]?=some (.cells #[.slice (some ⟨D,0,none⟩) data.length C, .int .i64 (i+m:Nat), .int .i64 (-1)] TS (0,0)) ∧
   w'.heap[b]?=some (.cells (splice cur off (ubs ((data.drop i).take n))).toArray t (0,0)):=by
 have c0:=cell_of hS 0 rfl
 have c1:=cell_of hS 1 rfl
 have c2:=cell_of hS 2 rfl
 have f1:=free_of hS 1
 have f2:=free_of hS 2
 have hi':i≤data.length:=by omega
 have hCi:¬C=i:=by omega
 go_enter Tryz.func373,Tryz.ntmps373
 go_wp2_with fail
 go_quiet (fail)
 go_wp2_with fail
 refine region_tail 10 (by kernel_rfl) ?_
 simp only[sD,sE,sF,sG]
 repeat still_step
 refine wpStill_nil ?_
 have hS0:=heap_drew (heap_set (heap_drewN hS nq) 2 (.int .i64 (-1)))
 have hb0:=heap_drew (heap_set_ne (heap_drewN hb nq) ⟨S,2,none⟩ (.int .i64 (-1)) hbS)
 have hD0:=heap_drew (heap_set_ne (heap_drewN hD nq) ⟨S,2,none⟩ (.int .i64 (-1)) (Ne.symm hSD))
 refine wp_copy rfl (.tmp 20) (.tmp 29) rfl b off n c (data.length-i) (C-i) ⟨D,i,none⟩ rfl rfl cur t hb0 ((data.drop i).take n) ?hl ?hsrc ?hfit ?_
 case hl=>simp[Nat.min_comm]
 case hsrc=>
  intro j v hv
  rw[add_plain']
  refine cell_of hD0 (i+j) (hDc _ _ ?_)
  rw[ubs_get] at hv ⊢
  rw[List.getElem?_take,List.getElem?_drop] at hv
  split at hv
  ·exact hv
  ·simp at hv
 case hfit=>simp;omega
 intro w1 hk hb1
 have hS1:=hk.heap hS0 (Ne.symm hbS)
 have d1:=cell_of hS1 1 rfl
 have e1:=free_of hS1 1
 have hlen:((data.drop i).take n).length=m:=by rw[←HM.out,List.length_take,List.length_drop,Nat.min_comm]
 rw[hlen]
 have hm:m≤data.length-i:=by rw[←HM.out];exact Nat.min_le_left _ _
 clear hlen
 go_wp2
 go_ret2
 refine⟨rfl,?_,?_,?_⟩
 ·refine Kp.setCell (Kp.then (Kp.drew (Kp.setCell ((Kp.refl _ _).drewN _) (.inl (.inl rfl)) _)) hk ?_) (.inl (.inl rfl)) _
  exact fun _ _ h=>.inr h
 ·rw[show ((i+m:Nat):Int)=(i:Int)+(m:Int) by omega]
  exact heap_set hS1 1 _
 ·exact heap_set_ne hb1 _ _ hbS
theorem bytesRead_end (w:World)(S L C i n c:Nat)(A:Option Addr)(p:Option Addr)(pr:Value)(TS:TypeId)(E0:Addr)
  (hS:w.heap[S]?=some (.cells #[.slice A L C, .int .i64 i,pr] TS (0,0))) (hi:L≤i) (hE:w.cell? ⟨0,0,none⟩=some (errv E0)) :
  Calls Tryz.prog 373 #[.pointer (some ⟨S,0,none⟩), .slice p n c] w fun e w'=>e=.returned (.tuple #[.int .i64 0,errv E0])∧∃k,w'=w.drewN k:=by
 have c0:=cell_of hS 0 rfl
 have c1:=cell_of hS 1 rfl
 go_enter Tryz.func373,Tryz.ntmps373
 iterate 2 (go_wp2_with fail;go_quiet (fail))
 go_wp2_with fail
 go_ret2
 exact⟨rfl,_,World.drewN_drewN ..⟩
def BrInv (S D:Nat)(w:World)(g:Nat)(rest:List UInt8):Prop:=
 g=0∧S≠D∧∃(data:List UInt8) (A:Option Addr) (i C:Nat) (pr:Value) (TS tD:TypeId) (fr:Nat × Nat) (cD:Array Value),
  w.heap[S]?=some (.cells #[.slice A data.length C, .int .i64 i,pr] TS (0,0))∧w.heap[D]?=some (.cells cD tD fr) ∧
  (0<data.length→A=some ⟨D,0,none⟩)∧(∀(j:Nat) (v:Value),(ubs data)[j]?=some v→cD[j]?=some v)∧data.length≤C∧data.length≤281474976710656∧i≤data.length∧rest=data.drop i
theorem isRd_bytes {E:Nat→Addr}{B S D:Nat}(hS:B≤S)(hD:B≤D):IsRd E B 94 (.pointer (some ⟨S,0,none⟩)) (fun k=>k=S∨k=D) (BrInv S D) where
 low:=by rintro k (rfl|rfl)<;>assumption
 foot:=by
  rintro w g rest ⟨rfl,_,_,_,_,_,_,_,_,_,_,h1,h2,_⟩
  exact⟨.inl rfl,by rintro k (rfl|rfl)<;>first|exact lt_of h1|exact lt_of h2⟩
 frame:=by
  rintro w w' g rest ⟨h0,h9,data,A,i,C,pr,TS,tD,fr,cD,h1,h2,h3⟩ h
  exact⟨h0,h9,data,A,i,C,pr,TS,tD,fr,cD,(h S (.inl rfl)).trans h1,(h D (.inr rfl)).trans h2,h3⟩
 reads:=by
  refine⟨373, .pointer (some ⟨S,0,none⟩),fun _=>by kernel_rfl,fun _=>by kernel_rfl,fun _ _=>by kernel_rfl,?_⟩
  rintro w g rest b off n c cur t hG ⟨rfl,hSD,data,A,i,C,pr,TS,tD,fr,cD,h1,h2,hA,hc,hC,hdl,hi,rfl⟩ hn hnm hb hfit hnc hbS hbB
  by_cases hlt:i<data.length
  ·obtain rfl:=hA (by omega)
   refine(bytesRead_some w S D C i b off n c pr TS t tD data cur fr cD h1 h2 hc hlt hdl hC hb hfit hn hnm (fun e=>hbS (.inl e)) (fun e=>hbS (.inr e)) hSD _ (hid rfl)).mono ?_
   rintro e w' ⟨rfl,hk,hS1,hb1⟩
   have e1:Nat.min (data.length-i) n≤data.length-i:=Nat.min_le_left _ _
   have e2:Nat.min (data.length-i) n≤n:=Nat.min_le_right _ _
   have e3:1≤Nat.min (data.length-i) n:=Nat.le_min.2 ⟨by omega,hn⟩
   refine⟨Nat.min (data.length-i) n, .nilIface,rfl,e2,by rw[List.length_drop];exact e1, .inl ⟨rfl,e3⟩,hk.mono ?_,?_,rfl,hSD,data,_,_,C,_,TS,tD,fr,cD,hS1,hk.heap h2 ?_,hA,hc,hC,hdl,?_,?_⟩
   ·rintro k _ (rfl|rfl)<;>first|exact .inl (.inl rfl)|exact .inr rfl
   ·rw[hb1]
    have:List.take n (List.drop i data)=List.take (Nat.min (data.length-i) n) (List.drop i data):=by
     rw[List.take_eq_take_iff,List.length_drop];show min n (data.length-i)=min (min (data.length-i) n) (data.length-i);omega
    rw[this]
   ·rintro(e|e)<;>first|exact hSD e.symm|exact hbS (.inr e.symm)
   ·omega
   ·rw[List.drop_drop]
  ·refine(bytesRead_end w S data.length C i n c A _ pr TS (E 0) h1 (by omega) hG.eof).mono ?_
   rintro e w' ⟨rfl,k,rfl⟩
   have hd:data.drop i=[]:=List.drop_eq_nil_of_le (by omega)
   refine⟨0,errv (E 0),rfl,by omega,by omega, .inr ⟨rfl,by rw[hd];rfl⟩,(Kp.refl _ _).drewN k,?_,rfl,hSD,data,A,i,C,pr,TS,tD,fr,cD,h1,h2,hA,hc,hC,hdl,hi,?_⟩
   ·simpa[splice,ubs] using hb
   ·rw[hd];rfl
theorem regRead_zero (w:World)(R n c:Nat)(p:Addr)(r:Value)(TR:TypeId)(E0:Addr)
  (hR:w.heap[R]?=some (.cells #[r, .int .i64 0] TR (0,0))) (hE:w.cell? ⟨0,0,none⟩=some (errv E0)) :
  Calls Tryz.prog 380 #[.pointer (some ⟨R,0,none⟩), .slice (some p) n c] w fun e w'=>e=.returned (.tuple #[.int .i64 0,errv E0])∧∃k,w'=w.drewN k:=by
 have c0:=cell_of hR 0 rfl
 have c1:=cell_of hR 1 rfl
 by_cases hn:0<n
 all_goals
  go_enter Tryz.func380,Tryz.ntmps380
  go_wp2_with fail
  go_quiet (fail)
  go_wp2_with fail
  go_ret2
  exact⟨rfl,_,rfl⟩
def BrOver (S:Nat)(w:World)(g:Nat)(rest:List UInt8):Prop:=
 g=0∧rest=[]∧∃(A:Option Addr) (L i C:Nat) (pr:Value) (TS:TypeId),w.heap[S]?=some (.cells #[.slice A L C, .int .i64 i,pr] TS (0,0))∧L≤i
theorem isRd_over {E:Nat→Addr}{B S:Nat}(hS:B≤S):IsRd E B 94 (.pointer (some ⟨S,0,none⟩)) (fun k=>k=S) (BrOver S) where
 low:=by rintro k rfl;exact hS
 foot:=by
  rintro w g rest ⟨rfl,rfl,A,L,i,C,pr,TS,h1,h2⟩
  exact⟨.inl rfl,by rintro k rfl;exact lt_of h1⟩
 frame:=by
  rintro w w' g rest ⟨h0,h9,A,L,i,C,pr,TS,h1,h2⟩ h
  exact⟨h0,h9,A,L,i,C,pr,TS,(h S rfl).trans h1,h2⟩
 reads:=by
  refine⟨373, .pointer (some ⟨S,0,none⟩),fun _=>by kernel_rfl,fun _=>by kernel_rfl,fun _ _=>by kernel_rfl,?_⟩
  rintro w g rest b off n c cur t hG ⟨rfl,rfl,A,L,i,C,pr,TS,h1,h2⟩ hn hnm hb hfit hnc hbS hbB
  refine(bytesRead_end w S L C i n c A _ pr TS (E 0) h1 h2 hG.eof).mono ?_
  rintro e w' ⟨rfl,k,rfl⟩
  exact⟨0,errv (E 0),rfl,by omega,by omega, .inr ⟨rfl,rfl⟩,(Kp.refl _ _).drewN k,by simpa[splice,ubs] using heap_drewN hb k,rfl,rfl,A,L,i,C,pr,TS,h1,h2⟩
def endOf (nb len:Nat):Nat:=if nb≤len then 0 else 5
theorem endOf_le {nb len:Nat}(h:nb≤len):endOf nb len=0:=if_pos h
theorem endOf_gt {nb len:Nat}(h:¬nb≤len):endOf nb len=5:=if_neg h
end
section
open Go.RowKit
theorem splice_next {α:Type}(cur:List α)(off:Nat)(xs ys:List α)(h:off+xs.length+ys.length≤cur.length) :
  splice (splice cur off xs) (off+xs.length) ys=splice cur off (xs++ys):=by
 have h1:(cur.take off).length=off:=by simp;omega
 unfold splice
 have e1:(List.take off cur++(xs++List.drop (off+xs.length) cur)).take (off+xs.length)=List.take off cur++xs:=by
  rw[←List.append_assoc,List.take_append_of_le_length (by simp;omega),List.take_of_length_le (by simp;omega)]
 have e2:(List.take off cur++(xs++List.drop (off+xs.length) cur)).drop (off+xs.length+ys.length)=List.drop (off+(xs++ys).length) cur:=by
  rw[←List.append_assoc,List.drop_append,List.drop_of_length_le (by simp;omega),List.nil_append,List.drop_drop]
  congr 1
  simp;omega
 rw[e1,e2]
 simp
theorem splice_ub_next (cur:List Value)(off k m:Nat)(rest:List UInt8)(hk:k≤rest.length)(h:off+k+m≤cur.length) :
  splice (splice cur off (ubs (rest.take k))) (off+k) (ubs ((rest.drop k).take m))=splice cur off (ubs (rest.take (k+m))):=by
 have hl:(ubs (rest.take k)).length=k:=by rw[ubs_length,List.length_take];omega
 have:=splice_next cur off (ubs (rest.take k)) (ubs ((rest.drop k).take m)) (by rw[hl,ubs_length,List.length_take];omega)
 rw[hl] at this
 rw[this,←ubs_append,List.take_add]
def TrfRel (E:Nat→Addr)(S:Nat→Prop)(inv:World→Nat→List UInt8→Prop)(w:World)(rest:List UInt8)(b off n0:Nat)(cur:List Value)(t:TypeId)(n err:Value)(wr:World):Prop:=
 ∃k:Nat,n=.int .i64 k∧k≤n0∧k≤rest.length∧Kp (fun k=>S k∨k=b) w wr∧wr.heap[b]?=some (.cells (splice cur off (ubs (rest.take k))).toArray t (0,0))∧inv wr 0 (rest.drop k) ∧
  (err=.nilIface∨err=errv (E 0)∧k=rest.length)
def isNil (v:Value):Nat:=match v with| .nilIface=>1|_=>0
theorem isNil_nil:isNil .nilIface=1:=rfl
theorem isNil_err (a:Addr):isNil (errv a)=0:=rfl
def nilOr (E:Nat→Addr)(ok:Bool):Value:=if ok then .nilIface else errv (E 0)
def TrfEnd (E:Nat→Addr)(S:Nat→Prop)(inv:World→Nat→List UInt8→Prop)(w:World)(rest:List UInt8)(b off n0:Nat)(cur:List Value)(t:TypeId)(e:Ending)(w':World):Prop:=
 e=.returned (.tuple #[.int .i64 (min n0 rest.length:Nat),nilOr E (decide (n0≤rest.length))])∧Kp (fun k=>S k∨k=b) w w' ∧
  w'.heap[b]?=some (.cells (splice cur off (ubs (rest.take n0))).toArray t (0,0))∧inv w' 0 (rest.drop n0)
theorem TrfEnd.mk {E:Nat→Addr}{S:Nat→Prop}{inv:World→Nat→List UInt8→Prop}{w:World}{rest:List UInt8}{b off n0:Nat}{cur:List Value}{t:TypeId}{err:Value}{w':World}{k:Nat}
  (hk:k=min n0 rest.length) (he:err=nilOr E (decide (n0≤rest.length))) (hkp:Kp (fun k=>S k∨k=b) w w')
  (hb:w'.heap[b]?=some (.cells (splice cur off (ubs (rest.take k))).toArray t (0,0))) (hi:inv w' 0 (rest.drop k)):TrfEnd E S inv w rest b off n0 cur t (.returned (.tuple #[.int .i64 k,err])) w':=by
 subst hk he
 refine⟨rfl,hkp,?_,?_⟩
 ·rwa[show rest.take (min n0 rest.length)=rest.take n0 by rw[List.take_eq_take_iff];omega] at hb
 ·have:rest.drop (min n0 rest.length)=rest.drop n0:=by
   by_cases h:n0≤rest.length
   ·rw[Nat.min_eq_left h]
   ·rw[Nat.min_eq_right (by omega),List.drop_of_length_le (Nat.le_refl _),List.drop_of_length_le (by omega)]
  rwa[this] at hi
theorem tryReadFull_any {E:Nat→Addr}{B:Nat}{T:TypeId}{v:Value}{S:Nat→Prop}{inv:World→Nat→List UInt8→Prop}(hR:IsRd E B T v S inv)
  (w:World) (b off n0 c:Nat) (t:TypeId) (cur:List Value) (rest:List UInt8) (hG:Glob E B w) (hi:inv w 0 rest)
  (hnm:n0≤281474976710656) (hb:w.heap[b]?=some (.cells cur.toArray t (0,0))) (hfit:off+n0≤cur.length) (hnc:n0≤c) (hbS:¬S b) (hbB:B≤b) :
  Calls Tryz.prog 126 #[.iface T v, .slice (some ⟨b,off,none⟩) n0 c] w (TrfEnd E S inv w rest b off n0 cur t):=by
 obtain⟨f,recv,hm,hna,hcf,hrd⟩:=hR.reads
 have H:=hid hrd
 clear hrd
 go_enter Tryz.func126,Tryz.ntmps126
 go_wp2_with fail
 go_loopw [4,5] (fun n err wr=>TrfRel E S inv w rest b off n0 cur t n err wr) (fun n err _=>n0-(intOf n).toNat+isNil err)
 case atStart=>exact⟨0,rfl,by omega,by omega,Kp.refl _ _,by simpa[splice,ubs] using hb,hi, .inl rfl⟩
 case round=>
  obtain⟨k,rfl,hk,hkr,hkp,hbr,hir,herr⟩:=hrel
  have hGr:=hG.keep hkp (by rintro k (h|rfl);exact hR.low _ h;exact hbB)
  have hE:=hGr.eof
  by_cases hlt:k<n0
  ·rcases herr with rfl|⟨rfl,hkl⟩
   ·have hck:¬c=k:=by omega
    have hkn:k≤n0:=hk
    go_wp2_with fail
    refine region_seg [7] (by kernel_rfl) ?_
    simp only[wpSeg,sD,sE,sF,sG]
    repeat still_step
    refine wpStill_nil ?_
    go_wp2_with fail
    refine(H.out wr.drew 0 (rest.drop k) b (off+k) (n0-k) (c-k) _ t (hGr.keep (Kp.drew (Kp.refl (fun _=>False) _)) (fun _ h=>h.elim)) (hR.frame hir fun _ _=>rfl) (by omega) (by omega) (heap_drew hbr) (by rw[splice_len _ _ _ (by rw[List.length_take];omega)];omega) (by omega) hbS hbB).mono ?_
    rintro e w1 ⟨m,err,rfl,hmn,hml,hcase,hk1,hb1,hi1⟩
    rw[List.length_drop] at hml
    have Hc:TrfRel E S inv w rest b off n0 cur t (.int .i64 ((k+m:Nat):Int)) err w1:=by
     refine⟨k+m,rfl,by omega,by omega,hkp.trans (Kp.then (Kp.drew (Kp.refl _ _)) hk1 fun _ _ h=>h),?_,?_,?_⟩
     ·rw[hb1,splice_ub_next _ _ _ _ _ hkr (by omega)]
     ·rw[←List.drop_drop];exact hi1
     ·rcases hcase with ⟨rfl,_⟩|⟨rfl,h2⟩
      ·exact .inl rfl
      ·rw[List.length_drop] at h2;exact .inr ⟨rfl,by omega⟩
    have Hm:err=.nilIface∧1≤m∨err=errv (E 0):=by rcases hcase with ⟨h,h'⟩|⟨h,_⟩;exact .inl ⟨h,h'⟩;exact .inr h
    clear hcase hb1 hi1
    go_wp2_with fail
    repeat still_step
    refine wpStill_nil ?_
    go_wp2_with fail
    go_roundw
    case rel=>rw[show (k:Int)+(m:Int)=((k+m:Nat):Int) by omega];exact Hc
    case measure=>
     rcases Hm with ⟨rfl,h1⟩|rfl
     ·simp[intOf,isNil_nil];omega
     ·simp[intOf,isNil_err,isNil_nil];omega
   ·have hz:((n0:Int)==(k:Int))=false:=by rw[beq_eq_false_iff_ne];omega
    have HK:=hid hkl
    clear hkl
    go_wp2_with fail
    go_ret2
    exact TrfEnd.mk (by have:=HK.out;omega) (by rw[show decide (n0≤rest.length)=false by have:=HK.out;simp;omega];rfl) hkp hbr hir
  ·have hz:((n0:Int)==(k:Int))=true:=by rw[beq_iff_eq];omega
   rcases herr with rfl|⟨rfl,hkl⟩
   ·go_wp2_with fail
    go_ret2
    exact TrfEnd.mk (by omega) (by rw[show decide (n0≤rest.length)=true by simp;omega];rfl) hkp hbr hir
   ·have HK:=hid hkl
    clear hkl
    go_wp2_with fail
    go_ret2
    exact TrfEnd.mk (by omega) (by rw[show decide (n0≤rest.length)=true by simp;omega];rfl) hkp hbr hir
end
section
open Go.RowKit
def rfErr (E:Nat→Addr)(n0 len:Nat):Value:=if n0≤len then .nilIface else if len=0 then errv (E 0) else errv (E 5)
theorem rfErr_ok {E:Nat→Addr}{n0 len:Nat}(h:n0≤len):rfErr E n0 len=.nilIface:=if_pos h
theorem rfErr_eof {E:Nat→Addr}{n0 len:Nat}(h:¬n0≤len)(h0:len=0):rfErr E n0 len=errv (E 0):=by rw[rfErr,if_neg h,if_pos h0]
theorem rfErr_unexp {E:Nat→Addr}{n0 len:Nat}(h:¬n0≤len)(h0:¬len=0):rfErr E n0 len=errv (E 5):=by rw[rfErr,if_neg h,if_neg h0]
def RflEnd (E:Nat→Addr)(S:Nat→Prop)(inv:World→Nat→List UInt8→Prop)(w:World)(rest:List UInt8)(b off n0:Nat)(cur:List Value)(t:TypeId)(e:Ending)(w':World):Prop:=
 e=.returned (.tuple #[.int .i64 (min n0 rest.length:Nat),rfErr E n0 rest.length])∧Kp (fun k=>S k∨k=b) w w' ∧
  w'.heap[b]?=some (.cells (splice cur off (ubs (rest.take n0))).toArray t (0,0))∧inv w' 0 (rest.drop n0)
theorem RflEnd.mk {E:Nat→Addr}{S:Nat→Prop}{inv:World→Nat→List UInt8→Prop}{w:World}{rest:List UInt8}{b off n0:Nat}{cur:List Value}{t:TypeId}{err:Value}{w':World}{k:Nat}
  (hk:k=min n0 rest.length) (he:err=rfErr E n0 rest.length) (hkp:Kp (fun k=>S k∨k=b) w w')
  (hb:w'.heap[b]?=some (.cells (splice cur off (ubs (rest.take k))).toArray t (0,0))) (hi:inv w' 0 (rest.drop k)):RflEnd E S inv w rest b off n0 cur t (.returned (.tuple #[.int .i64 k,err])) w':=by
 have:=TrfEnd.mk (E:=E) (err:=nilOr E (decide (n0≤rest.length))) hk rfl hkp hb hi
 obtain⟨_,h1,h2,h3⟩:=this
 subst hk he
 exact⟨rfl,h1,h2,h3⟩
theorem readAtLeast_any {E:Nat→Addr}{B:Nat}{T:TypeId}{v:Value}{S:Nat→Prop}{inv:World→Nat→List UInt8→Prop}(hR:IsRd E B T v S inv)
  (w:World) (b off n0 c:Nat) (t:TypeId) (cur:List Value) (rest:List UInt8) (hG:Glob E B w) (hi:inv w 0 rest)
  (hnm:n0≤281474976710656) (hb:w.heap[b]?=some (.cells cur.toArray t (0,0))) (hfit:off+n0≤cur.length) (hnc:n0≤c) (hbS:¬S b) (hbB:B≤b) :
  Calls Tryz.prog 256 #[.iface T v, .slice (some ⟨b,off,none⟩) n0 c, .int .i64 n0] w (RflEnd E S inv w rest b off n0 cur t):=by
 obtain⟨f,recv,hm,hna,hcf,hrd⟩:=hR.reads
 have H:=hid hrd
 clear hrd
 go_enter Tryz.func256,Tryz.ntmps256
 go_wp2_with fail
 go_loopw [6,7] (fun n err wr=>TrfRel E S inv w rest b off n0 cur t n err wr) (fun n err _=>n0-(intOf n).toNat+isNil err)
 case atStart=>exact⟨0,rfl,by omega,by omega,Kp.refl _ _,by simpa[splice,ubs] using hb,hi, .inl rfl⟩
 case round=>
  obtain⟨k,rfl,hk,hkr,hkp,hbr,hir,herr⟩:=hrel
  have hGr:=hG.keep hkp (by rintro k (h|rfl);exact hR.low _ h;exact hbB)
  have hE:=hGr.eof
  have hU:=hGr.unexp
  by_cases hlt:k<n0
  ·rcases herr with rfl|⟨rfl,hkl⟩
   ·have hck:¬c=k:=by omega
    have hkn:k≤n0:=hk
    go_wp2_with fail
    refine region_seg [7] (by kernel_rfl) ?_
    simp only[wpSeg,sD,sE,sF,sG]
    repeat still_step
    refine wpStill_nil ?_
    go_wp2_with fail
    refine(H.out wr.drew 0 (rest.drop k) b (off+k) (n0-k) (c-k) _ t (hGr.keep (Kp.drew (Kp.refl (fun _=>False) _)) (fun _ h=>h.elim)) (hR.frame hir fun _ _=>rfl) (by omega) (by omega) (heap_drew hbr) (by rw[splice_len _ _ _ (by rw[List.length_take];omega)];omega) (by omega) hbS hbB).mono ?_
    rintro e w1 ⟨m,err,rfl,hmn,hml,hcase,hk1,hb1,hi1⟩
    rw[List.length_drop] at hml
    have Hc:TrfRel E S inv w rest b off n0 cur t (.int .i64 ((k+m:Nat):Int)) err w1:=by
     refine⟨k+m,rfl,by omega,by omega,hkp.trans (Kp.then (Kp.drew (Kp.refl _ _)) hk1 fun _ _ h=>h),?_,?_,?_⟩
     ·rw[hb1,splice_ub_next _ _ _ _ _ hkr (by omega)]
     ·rw[←List.drop_drop];exact hi1
     ·rcases hcase with ⟨rfl,_⟩|⟨rfl,h2⟩
      ·exact .inl rfl
      ·rw[List.length_drop] at h2;exact .inr ⟨rfl,by omega⟩
    have Hm:err=.nilIface∧1≤m∨err=errv (E 0):=by rcases hcase with ⟨h,h'⟩|⟨h,_⟩;exact .inl ⟨h,h'⟩;exact .inr h
    clear hcase hb1 hi1
    go_wp2_with fail
    repeat still_step
    refine wpStill_nil ?_
    go_wp2_with fail
    go_roundw
    case rel=>rw[show (k:Int)+(m:Int)=((k+m:Nat):Int) by omega];exact Hc
    case measure=>
     rcases Hm with ⟨rfl,h1⟩|rfl
     ·simp[intOf,isNil_nil];omega
     ·simp[intOf,isNil_err,isNil_nil];omega
   ·have HK:=hid hkl
    clear hkl
    by_cases h0:0<k
    ·go_wp2_with fail
     go_ret2
     exact RflEnd.mk (by have:=HK.out;omega) (rfErr_unexp (by have:=HK.out;omega) (by have:=HK.out;omega)).symm hkp hbr hir
    ·go_wp2_with fail
     go_ret2
     exact RflEnd.mk (by have:=HK.out;omega) (rfErr_eof (by have:=HK.out;omega) (by have:=HK.out;omega)).symm hkp hbr hir
  ·have hz:n0≤k:=by omega
   rcases herr with rfl|⟨rfl,hkl⟩
   ·go_wp2_with fail
    go_ret2
    exact RflEnd.mk (by omega) (rfErr_ok (by omega)).symm hkp hbr hir
   ·have HK:=hid hkl
    clear hkl
    go_wp2_with fail
    go_ret2
    exact RflEnd.mk (by omega) (rfErr_ok (by omega)).symm hkp hbr hir
theorem readFull_any {E:Nat→Addr}{B:Nat}{T:TypeId}{v:Value}{S:Nat→Prop}{inv:World→Nat→List UInt8→Prop}(hR:IsRd E B T v S inv)
  (w:World) (b off n0 c:Nat) (t:TypeId) (cur:List Value) (rest:List UInt8) (hG:Glob E B w) (hi:inv w 0 rest)
  (hnm:n0≤281474976710656) (hb:w.heap[b]?=some (.cells cur.toArray t (0,0))) (hfit:off+n0≤cur.length) (hnc:n0≤c) (hbS:¬S b) (hbB:B≤b) :
  Calls Tryz.prog 202 #[.iface T v, .slice (some ⟨b,off,none⟩) n0 c] w (RflEnd E S inv w rest b off n0 cur t):=by
 go_enter Tryz.func202,Tryz.ntmps202
 go_wp2_with fail
 refine(readAtLeast_any hR w b off n0 c t cur rest hG hi hnm hb hfit hnc hbS hbB).mono ?_
 rintro e w1 ⟨rfl,h⟩
 have h1:=hid h
 clear h
 go_wp2_with fail
 go_ret2
 exact⟨rfl,h1.out⟩
end
section
open Go.RowKit
def LimInv (R:Nat)(T:TypeId)(v:Value)(S:Nat→Prop)(inv:World→Nat→List UInt8→Prop)(w:World)(g:Nat)(rest:List UInt8):Prop:=
 ∃(N:Nat) (TR:TypeId),inv w g rest∧w.heap[R]?=some (.cells #[.iface T v, .int .i64 N] TR (0,0))∧¬S R∧rest.length<N∧N≤4611686018427387904
theorem limRead {E:Nat→Addr}{B:Nat}{T:TypeId}{v:Value}{S:Nat→Prop}{inv:World→Nat→List UInt8→Prop}(hR:IsRd E B T v S inv)
  (w:World) (R b off n c N g:Nat) (TR t:TypeId) (cur:List Value) (rest:List UInt8) (hG:Glob E B w) (hi:inv w g rest)
  (hr:w.heap[R]?=some (.cells #[.iface T v, .int .i64 N] TR (0,0))) (hN:rest.length<N) (hNm:N≤4611686018427387904) (hSR:¬S R) (hBR:B≤R)
  (hn:1≤n) (hnm:n≤281474976710656) (hb:w.heap[b]?=some (.cells cur.toArray t (0,0))) (hfit:off+n≤cur.length) (hnc:n≤c) (hbS:¬S b) (hbB:B≤b) (hbR:R≠b) :
  Calls Tryz.prog 398 #[.pointer (some ⟨R,0,none⟩), .slice (some ⟨b,off,none⟩) n c] w
   (ReadEnd E (fun k=>S k∨k=R) (LimInv R T v S inv) w g rest b off n cur t):=by
 have c0:=cell_of hr 0 rfl
 have c1:=cell_of hr 1 rfl
 have f1:=free_of hr 1
 obtain⟨f,recv,hm,hna,hcf,hrd⟩:=hR.reads
 have H:=hid hrd
 clear hrd
 have hN0:0<N:=by omega
 by_cases hlt:N<n
 all_goals
  have hnb2:N<n→N≤c:=by omega
  go_enter Tryz.func398,Tryz.ntmps398
  go_wp2_with fail
  first
   |((with_reducible refine(H.out w g rest b off N c cur t hG hi (by omega) (by omega) hb (by omega) (by omega) hbS hbB).mono ?_))
   |((with_reducible refine(H.out w g rest b off n c cur t hG hi hn hnm hb hfit hnc hbS hbB).mono ?_))
  rintro e w1 ⟨m,err,rfl,hmn,hml,hcase,hk,hb1,hi1⟩
  have hr1:=hk.heap hr (by rintro(h|h);exact hSR h;exact hbR h)
  have d1:=cell_of hr1 1 rfl
  have e1:=free_of hr1 1
  clear c0 c1 f1
  have hkp:Kp (fun k=>(S k∨k=R)∨k=b) w (w1.setCell ⟨R,1,none⟩ (.int .i64 ((N:Int)-m))):=
   Kp.setCell (hk.mono (by rintro k _ (h|h);exact .inl (.inl h);exact .inr h)) (.inl (.inl (.inr rfl))) _
  have hbb:(w1.setCell ⟨R,1,none⟩ (.int .i64 ((N:Int)-m))).heap[b]?=some (.cells (splice cur off (ubs (rest.take m))).toArray t (0,0)):=heap_set_ne hb1 _ _ (Ne.symm hbR)
  have hinv:LimInv R T v S inv (w1.setCell ⟨R,1,none⟩ (.int .i64 ((N:Int)-m))) g (rest.drop m):=by
   refine⟨N-m,TR,hR.frame hi1 fun k hk=>?_,?_,hSR,by rw[List.length_drop];omega,by omega⟩
   ·rw[Below.heap_setCell _ _ _ _ (fun h=>hSR (by have:k=R:=h;exact this▸hk))]
   ·rw[show ((N-m:Nat):Int)=(N:Int)-(m:Int) by omega]
    exact heap_set hr1 1 _
  have hbo:(N:Int)-m≤4611686018427387904:=by omega
  have hbo2:0≤(N:Int)-m:=by omega
  have Hc:=hid hcase
  clear hcase
  go_wp2_with fail
  go_ret2
  exact⟨m,err,rfl,by omega,hml,Hc.out,hkp,hbb,hinv⟩
theorem isRd_lim {E:Nat→Addr}{B:Nat}{T:TypeId}{v:Value}{S:Nat→Prop}{inv:World→Nat→List UInt8→Prop}(hR:IsRd E B T v S inv)(R:Nat)(hBR:B≤R) :
  IsRd E B 350 (.pointer (some ⟨R,0,none⟩)) (fun k=>S k∨k=R) (LimInv R T v S inv) where
 low:=by rintro k (h|rfl);exact hR.low _ h;exact hBR
 foot:=by
  rintro w g rest ⟨N,TR,hi,hr,hS,_,_⟩
  refine⟨(hR.foot hi).1,?_⟩
  rintro k (h|rfl)
  ·exact(hR.foot hi).2 k h
  ·exact lt_of hr
 frame:=by
  rintro w w' g rest ⟨N,TR,hi,hr,h⟩ hk
  exact⟨N,TR,hR.frame hi fun k h=>hk k (.inl h),(hk R (.inr rfl)).trans hr,h⟩
 reads:=by
  refine⟨398, .pointer (some ⟨R,0,none⟩),fun _=>by kernel_rfl,fun _=>by kernel_rfl,fun _ _=>by kernel_rfl,?_⟩
  rintro w g rest b off n c cur t hG ⟨N,TR,hi,hr,hS,h1,h2⟩ hn hnm hb hfit hnc hbS hbB
  exact limRead hR w R b off n c N g TR t cur rest hG hi hr h1 h2 hS hBR hn hnm hb hfit hnc (fun h=>hbS (.inl h)) hbB (fun h=>hbS (.inr h.symm))
def lenOf (v:Value):Nat:=match v with| .slice _ n _=>n|_=>0
def RaRel (E:Nat→Addr)(S:Nat→Prop)(inv:World→Nat→List UInt8→Prop)(w:World)(g:Nat)(rest:List UInt8)(all:Value)(wr:World):Prop:=
 ∃(k:Nat) (cur:List Value) (t:TypeId),k≤rest.length∧OwnB wr (w.heap.size+1) all (rest.take k)∧Kp S w wr∧cur.length=512∧wr.heap[w.heap.size]?=some (.cells cur.toArray t (0,0))∧inv wr g (rest.drop k)
def RaEnd (E:Nat→Addr)(S:Nat→Prop)(inv:World→Nat→List UInt8→Prop)(w:World)(g:Nat)(rest:List UInt8)(e:Ending)(w':World):Prop:=
 ∃all,e=.returned (.tuple #[all,if g=0 then .nilIface else errv (E g)])∧OwnB w' w.heap.size all rest∧Kp S w w'∧inv w' g []
theorem readAll_any {E:Nat→Addr}{B:Nat}{T:TypeId}{v:Value}{S:Nat→Prop}{inv:World→Nat→List UInt8→Prop}(hR:IsRd E B T v S inv)
  (w:World) (g:Nat) (rest:List UInt8) (hG:Glob E B w) (hi:inv w g rest) (hlen:rest.length≤140737488355328) :
  Calls Tryz.prog 220 #[.iface T v] w (RaEnd E S inv w g rest):=by
 obtain⟨f,recv,hm,hna,hcf,hrd⟩:=hR.reads
 have H:=hid hrd
 clear hrd
 have hz:Tryz.zeroCells155.size=512:=by kernel_rfl
 have hnew:(w.alloc (.cells Tryz.zeroCells155 155)).heap[w.heap.size]?=some (.cells Tryz.zeroCells155.toList.toArray 155 (0,0)):=by
  rw[Array.toArray_toList];exact heap_new w _
 have hSw:∀k,S k→k<w.heap.size:=(hR.foot hi).2
 have hg:=(hR.foot hi).1
 have Hz:=hid hz
 have HL:=hid hlen
 clear hz hlen
 go_enter Tryz.func220,Tryz.ntmps220
 go_wp2_with fail
 go_loopw [4] (fun all wr=>RaRel E S inv w g rest all wr) (fun all _=>rest.length-lenOf all)
 case atStart=>
  exact⟨0,Tryz.zeroCells155.toList,155,by omega,OwnB.nil _ _,Kp.alloc (Kp.refl _ _) _,by rw[Array.length_toList];exact Hz.out,hnew,hR.frame hi fun k hk=>Below.heap_alloc _ _ _ (hSw k hk)⟩
 case round=>
  obtain⟨k,cur,t,hk,hown,hkp,hcl,hrow,hir⟩:=hrel
  have hGr:=hG.keep hkp hR.low
  go_wp2_with fail
  refine region_seg [5] (by kernel_rfl) ?_
  simp only[wpSeg,sD,sE,sF,sG]
  repeat still_step
  refine wpStill_nil ?_
  go_wp2_with fail
  have hSb:¬S w.heap.size:=fun h=>by have:=hSw _ h;omega
  refine(H.out wr.drew g (rest.drop k) w.heap.size 0 512 512 cur t (hGr.keep (Kp.drew (Kp.refl (fun _=>False) _)) (fun _ h=>h.elim)) (hR.frame hir fun _ _=>rfl) (by omega) (by omega) (heap_drew hrow) (by omega) (by omega) hSb hG.size).mono ?_
  rintro e w1 ⟨m,err,rfl,hmn,hml,hcase,hk1,hb1,hi1⟩
  rw[List.length_drop] at hml
  have hne:∀b,Value.ownBlock _=some b→¬(S b∨b=w.heap.size):=fun b hb=>by
   have:=hown.block hb
   rintro(h|h)
   ·have:=hSw _ h;omega
   ·omega
  have hown1:OwnB w1 (w.heap.size+1) _ (rest.take k):=hown.keep (Kp.then (Kp.drew (Kp.refl (fun k=>S k∨k=w.heap.size) _)) hk1 fun _ _ h=>h) hne
  have hkp1:Kp S w w1:=hkp.then (Kp.then (Kp.drew (Kp.refl (fun k=>S k∨k=w.heap.size) _)) hk1 fun _ _ h=>h) (by rintro i hi (h|rfl);exact h;omega)
  have hsz1:w.heap.size+1≤w1.heap.size:=by have:=lt_of hb1;omega
  have hm5:m≤512:=hmn
  have Hc:=hid hcase
  clear hcase
  go_wp2_with fail
  repeat still_step
  refine wpStill_nil ?_
  have hlm:((rest.drop k).take m).length=m:=by rw[List.length_take,List.length_drop];omega
  have hcells:∀(j:Nat) (u:Value),(ubs ((rest.drop k).take m))[j]?=some u→w1.cell? ((⟨w.heap.size,0,none⟩:Addr).add j)=some u:=fun j u hu=>by
   rw[add_plain',Nat.zero_add]
   refine cell_of hb1 j ?_
   have hj:j<(ubs ((rest.drop k).take m)).length:=(List.getElem?_eq_some_iff.1 hu).1
   rw[List.getElem?_toArray,splice,sE,List.nil_append,Nat.zero_add,List.getElem?_append_left hj]
   exact hu
  have hby:(rest.take k).length+m≤140737488355328:=by have:=HL.out;rw[List.length_take];omega
  have HM:=hid hlm
  clear hlm
  have hGl1:=hGr.keep (Kp.then (Kp.drew (Kp.refl (fun k=>S k∨k=w.heap.size) _)) hk1 fun _ _ h=>h) (by rintro k (h|rfl);exact hR.low _ h;exact hG.size)
  have fin:∀(v2:Value) (w2:World),OwnB w2 (w.heap.size+1) v2 (rest.take k++(rest.drop k).take m)→Kp (fun i=>some i=Value.ownBlock _) w1 w2 →
    Kp S w w2∧inv w2 g (rest.drop (k+m))∧OwnB w2 (w.heap.size+1) v2 (rest.take (k+m))∧(∃cur2:List Value,cur2.length=512∧w2.heap[w.heap.size]?=some (.cells cur2.toArray t (0,0)))∧Glob E B w2:=fun v2 w2 h1 h2=>by
   refine⟨hkp1.then h2 fun i hi h=>?_,?_,?_,⟨_,(splice_len cur 0 ((rest.drop k).take m) (by rw[HM.out];omega)).trans hcl,h2.heap hb1 fun h=>?_⟩,hGl1.keep h2 fun b h=>?_⟩
   ·have:=(hown1.block h.symm).1;omega
   ·rw[←List.drop_drop]
    refine hR.frame hi1 fun i hi=>h2.block i (by have:=hSw _ hi;omega) fun h=>?_
    have:=(hown1.block h.symm).1;have:=hSw _ hi;omega
   ·rw[List.take_add];exact h1
   ·have:=(hown1.block h.symm).1;omega
   ·have:=(hown1.block h.symm).1;have:=hG.size;omega
  rcases Hc.out with ⟨rfl,hm1⟩|⟨rfl,hml2⟩
  ·go_wp2_with (at_builtin;refine wp_append rfl (.tmp 17) (.tmp 19) rfl (w.heap.size+1) _ (rest.take k) rfl hown1 ⟨w.heap.size,0,none⟩ m 512 ((rest.drop k).take m) rfl HM.out hcells hby hsz1 ?_;intro v2 w2 hown2 hk2 hat2;obtain⟨q1,q2,q3,⟨cur2,q4,q5⟩,q6⟩:=fin v2 w2 hown2 hk2)
   go_roundw
   case rel=>exact⟨k+m,cur2,t,by omega,q3,q1,q4,q5,q2⟩
   case measure=>
    obtain⟨A1,c1,e1⟩:=q3.shape
    obtain⟨A0,c0,e0⟩:=hown.shape
    rw[e1,e0]
    simp only[lenOf,List.length_take]
    omega
  ·rw[List.length_drop] at hml2
   have HK:Hid (k+m=rest.length):=by show k+m=rest.length;omega
   clear hml2
   rcases hg with rfl|rfl
   ·go_wp2_with (at_builtin;refine wp_append rfl (.tmp 17) (.tmp 19) rfl (w.heap.size+1) _ (rest.take k) rfl hown1 ⟨w.heap.size,0,none⟩ m 512 ((rest.drop k).take m) rfl HM.out hcells hby hsz1 ?_;intro v2 w2 hown2 hk2 hat2;obtain⟨q1,q2,q3,q4,q6⟩:=fin v2 w2 hown2 hk2;have hE2:=q6.eof)
    go_ret2
    refine⟨v2,rfl,?_,q1,?_⟩
    ·rw[HK.out,List.take_length] at q3
     exact⟨q3.1,q3.2.imp id fun ⟨g,cap,cur,h1,h2,h3⟩=>⟨g,cap,cur,h1,by omega,h3⟩⟩
    ·rw[HK.out,List.drop_length] at q2;exact q2
   ·go_wp2_with (at_builtin;refine wp_append rfl (.tmp 17) (.tmp 19) rfl (w.heap.size+1) _ (rest.take k) rfl hown1 ⟨w.heap.size,0,none⟩ m 512 ((rest.drop k).take m) rfl HM.out hcells hby hsz1 ?_;intro v2 w2 hown2 hk2 hat2;obtain⟨q1,q2,q3,q4,q6⟩:=fin v2 w2 hown2 hk2;have hE2:=q6.eof;have hne2:=run_err_ne q6 (g:=5) (h:=0) (by decide) (by decide) (by decide))
    go_ret2
    refine⟨v2,rfl,?_,q1,?_⟩
    ·rw[HK.out,List.take_length] at q3
     exact⟨q3.1,q3.2.imp id fun ⟨g,cap,cur,h1,h2,h3⟩=>⟨g,cap,cur,h1,by omega,h3⟩⟩
    ·rw[HK.out,List.drop_length] at q2;exact q2
end
section
open Go.RowKit
@[go_sem] theorem run_store_errv (w:World)(a b:Addr)(m:Mode):(store a (errv b) m).run Tryz.prog w=stored Tryz.prog w a (errv b) m:=run_store Tryz.prog w a _ m rfl
@[go_sem] theorem run_storeCells_errv (w:World)(a b:Addr):(storeCells a [errv b]).run Tryz.prog w=stored Tryz.prog w a (errv b) .plain:=by
 simp[storeCells,run_store_errv,Addr.add]
def trRow (r:Value)(pad:Int)(curr:Value)(blk:List Value)(err:Value):List Value:=r:: .int .i64 pad::curr::(blk++[err])
theorem trRow_err {r:Value}{pad:Int}{curr:Value}{blk:List Value}{err:Value}(h:blk.length=512):(trRow r pad curr blk err).toArray[515]?=some err:=by
 rw[List.getElem?_toArray,trRow]
 show (blk++[err])[512]?=_
 rw[List.getElem?_append_right (by omega),h];rfl
theorem trRow_blk {r:Value}{pad:Int}{curr:Value}{blk:List Value}{err:Value}(i:Nat)(h:i<blk.length):(trRow r pad curr blk err).toArray[3+i]?=blk[i]?:=by
 rw[List.getElem?_toArray,trRow,Nat.add_comm]
 show (blk++[err])[i]?=_
 rw[List.getElem?_append_left h]
theorem trRow_set_err {r:Value}{pad:Int}{curr:Value}{blk:List Value}{err:Value}(h:blk.length=512)(v:Value) :
  (trRow r pad curr blk err).toArray.setIfInBounds 515 v=(trRow r pad curr blk v).toArray:=by
 rw[sA,trRow]
 show ((r:: .int .i64 pad::curr::(blk++[err]).set 512 v).toArray:Array Value)=_
 rw[List.set_append_right _ _ (by omega),h];rfl
theorem trRow_set_pad {r:Value}{pad:Int}{curr:Value}{blk:List Value}{err:Value}(p:Int) :
  (trRow r pad curr blk err).toArray.setIfInBounds 1 (.int .i64 p)=(trRow r p curr blk err).toArray:=by
 rw[sA];rfl
theorem trRow_set_curr {r:Value}{pad:Int}{curr:Value}{blk:List Value}{err:Value}(v:Value) :
  (trRow r pad curr blk err).toArray.setIfInBounds 2 v=(trRow r pad v blk err).toArray:=by
 rw[sA];rfl
theorem trRow_len {r:Value}{pad:Int}{curr:Value}{blk:List Value}{err:Value}(h:blk.length=512):(trRow r pad curr blk err).length=516:=by simp[trRow,h]
theorem trRow_splice {r:Value}{pad:Int}{curr:Value}{blk:List Value}{err:Value}(l:List Value)(h:l.length≤blk.length) :
  splice (trRow r pad curr blk err) 3 l=trRow r pad curr (splice blk 0 l) err:=by
 unfold splice trRow
 have e:List.drop (3+l.length) (r::Value.int .i64 pad::curr::(blk++[err]))=blk.drop l.length++[err]:=by
  rw[Nat.add_comm]
  show List.drop l.length (blk++[err])=_
  rw[List.drop_append_of_le_length h]
 rw[e]
 simp
def TrInv (E:Nat→Addr)(R:Nat)(r:Value)(pad:Int)(Tc:TypeId)(vc:Value)(blk:List Value)(TT:TypeId)(S:Nat→Prop)(inv:World→Nat→List UInt8→Prop)(w:World)(g:Nat)(rest:List UInt8):Prop:=
 inv w g rest∧¬S R∧∃err,w.heap[R]?=some (.cells (trRow r pad (.iface Tc vc) blk err).toArray TT (0,0))∧(err=.nilIface∨err=errv (E 5)∧g=5∧rest=[])
theorem trRead {E:Nat→Addr}{B:Nat}{Tc:TypeId}{vc:Value}{S:Nat→Prop}{inv:World→Nat→List UInt8→Prop}(hR:IsRd E B Tc vc S inv)
  (w:World) (R b off n c g:Nat) (r:Value) (pad:Int) (blk:List Value) (TT t:TypeId) (cur:List Value) (rest:List UInt8) (hG:Glob E B w) (hi:inv w g rest)
  (hr:w.heap[R]?=some (.cells (trRow r pad (.iface Tc vc) blk .nilIface).toArray TT (0,0))) (hbl:blk.length=512) (hSR:¬S R) (hBR:B≤R)
  (hn:1≤n) (hnm:n≤281474976710656) (hb:w.heap[b]?=some (.cells cur.toArray t (0,0))) (hfit:off+n≤cur.length) (hnc:n≤c) (hbS:¬S b) (hbB:B≤b) (hbR:R≠b) :
  Calls Tryz.prog 51 #[.pointer (some ⟨R,0,none⟩), .slice (some ⟨b,off,none⟩) n c] w
   (ReadEnd E (fun k=>S k∨k=R) (TrInv E R r pad Tc vc blk TT S inv) w g rest b off n cur t):=by
 have c2:w.cell? ⟨R,2,none⟩=some (.iface Tc vc):=cell_of hr 2 rfl
 have ce:=cell_of hr 515 (trRow_err hbl)
 obtain⟨f,recv,hm,hna,hcf,hrd⟩:=hR.reads
 have H:=hid hrd
 clear hrd
 have hg:=(hR.foot hi).1
 have HB:=hid hbl
 clear hbl
 rcases hg with rfl|rfl
 all_goals
  go_enter Tryz.func51,Tryz.ntmps51
  go_wp2_with fail
  refine(H.out w _ rest b off n c cur t hG hi hn hnm hb hfit hnc hbS hbB).mono ?_
  rintro e w1 ⟨m,err,rfl,hmn,hml,hcase,hk,hb1,hi1⟩
  have hr1:=hk.heap hr (by rintro(h|h);exact hSR h;exact hbR h)
  have hG1:=hG.keep hk (by rintro k (h|rfl);exact hR.low _ h;exact hbB)
  have hE1:=hG1.eof
  have e1:=cell_of hr1 515 (trRow_err HB.out)
  have f1:=free_of hr1 515
  clear c2 ce
  have hkp:Kp (fun k=>(S k∨k=R)∨k=b) w w1:=hk.mono (by rintro k _ (h|h);exact .inl (.inl h);exact .inr h)
  have hne:=run_err_neq_ne hG1 (g:=5) (h:=0) (by decide) (by decide) (by decide)
  rcases hcase with ⟨rfl,h1⟩|⟨rfl,h2⟩
  ·go_wp2_with fail
   go_ret2
   exact⟨m, .nilIface,rfl,hmn,hml, .inl ⟨rfl,h1⟩,hkp,hb1,hi1,hSR, .nilIface,hr1, .inl rfl⟩
  ·have H2:=hid h2
   clear h2
   go_wp2_with fail
   try(rw[run_storeCells_errv];go_simp;go_wp2_with fail)
   go_ret2
   first
    |exact⟨m,errv (E 0),rfl,hmn,hml, .inr ⟨rfl,H2.out⟩,hkp,hb1,hi1,hSR, .nilIface,hr1, .inl rfl⟩
    |(refine⟨m,errv (E 5),rfl,hmn,hml, .inr ⟨rfl,H2.out⟩,hkp.setCell (.inl (.inl (.inr rfl))) _,heap_set_ne hb1 _ _ (Ne.symm hbR),hR.frame hi1 fun k hk=>?_,hSR,errv (E 5),?_, .inr ⟨rfl,rfl,?_⟩⟩
      ·rw[Below.heap_setCell _ _ _ _ (fun h=>hSR (by have:k=R:=h;exact this▸hk))]
      ·have:=heap_set hr1 515 (errv (E 5));rwa[trRow_set_err HB.out] at this
      ·rw[H2.out,List.drop_length])
theorem trRead_err {E:Nat→Addr}{B:Nat}(w:World)(R n c:Nat)(p:Option Addr)(r:Value)(pad:Int)(cu:Value)(blk:List Value)(TT:TypeId)(a:Addr)
  (hr:w.heap[R]?=some (.cells (trRow r pad cu blk (errv a)).toArray TT (0,0))) (hbl:blk.length=512) :
  Calls Tryz.prog 51 #[.pointer (some ⟨R,0,none⟩), .slice p n c] w fun e w'=>e=.returned (.tuple #[.int .i64 0,errv a])∧∃k,w'=w.drewN k:=by
 have ce:=cell_of hr 515 (trRow_err hbl)
 clear hbl
 go_enter Tryz.func51,Tryz.ntmps51
 go_wp2_with fail
 go_quiet (fail)
 go_wp2_with fail
 go_ret2
 exact⟨rfl,_,rfl⟩
theorem isRd_tr {E:Nat→Addr}{B:Nat}{Tc:TypeId}{vc:Value}{S:Nat→Prop}{inv:World→Nat→List UInt8→Prop}(hR:IsRd E B Tc vc S inv)(R:Nat)(hBR:B≤R)(r:Value)(pad:Int)(blk:List Value)(TT:TypeId)(hbl:blk.length=512) :
  IsRd E B 92 (.pointer (some ⟨R,0,none⟩)) (fun k=>S k∨k=R) (TrInv E R r pad Tc vc blk TT S inv) where
 low:=by rintro k (h|rfl);exact hR.low _ h;exact hBR
 foot:=by
  rintro w g rest ⟨hi,hS,err,hr,_⟩
  refine⟨(hR.foot hi).1,?_⟩
  rintro k (h|rfl)
  ·exact(hR.foot hi).2 k h
  ·exact lt_of hr
 frame:=by
  rintro w w' g rest ⟨hi,hS,err,hr,h⟩ hk
  exact⟨hR.frame hi fun k h=>hk k (.inl h),hS,err,(hk R (.inr rfl)).trans hr,h⟩
 reads:=by
  refine⟨51, .pointer (some ⟨R,0,none⟩),fun _=>by kernel_rfl,fun _=>by kernel_rfl,fun _ _=>by kernel_rfl,?_⟩
  rintro w g rest b off n c cur t hG ⟨hi,hS,err,hr,he⟩ hn hnm hb hfit hnc hbS hbB
  rcases he with rfl|⟨rfl,rfl,rfl⟩
  ·exact trRead hR w R b off n c g r pad blk TT t cur rest hG hi hr hbl hS hBR hn hnm hb hfit hnc (fun h=>hbS (.inl h)) hbB (fun h=>hbS (.inr h.symm))
  ·refine(trRead_err (E:=E) (B:=B) w R n c _ r pad _ blk TT _ hr hbl).mono ?_
   rintro e w' ⟨rfl,k,rfl⟩
   exact⟨0,errv (E 5),rfl,by omega,by omega, .inr ⟨rfl,rfl⟩,(Kp.refl _ _).drewN k,by simpa[splice,ubs] using heap_drewN hb k,hR.frame hi fun _ _=>rfl,hS,errv (E 5),heap_drewN hr k, .inr ⟨rfl,rfl,rfl⟩⟩
theorem readSpecial_any {E:Nat→Addr}{B:Nat}{T:TypeId}{v:Value}{S:Nat→Prop}{inv:World→Nat→List UInt8→Prop}(hR:IsRd E B T v S inv)
  (w:World) (g:Nat) (rest:List UInt8) (hG:Glob E B w) (hi:inv w g rest) (hlen:rest.length≤1048576) :
  Calls Tryz.prog 132 #[.iface T v] w (RaEnd E S inv w g rest):=by
 have hS:∀k,S k→k<w.heap.size:=(hR.foot hi).2
 have hK:Kp (fun _=>False) w (w.alloc (.cells #[.iface T v, .int .i64 1048577] 352)):=Kp.alloc (Kp.refl _ _) _
 have HC:=readAll_any (isRd_lim hR w.heap.size hG.size) (w.alloc (.cells #[.iface T v, .int .i64 1048577] 352)) g rest (hG.keep hK (fun _ h=>h.elim))
  ⟨1048577,352,hR.frame hi fun k hk=>Below.heap_alloc _ _ _ (hS k hk),heap_new w _,fun h=>by have:=hS _ h;omega,by omega,by omega⟩ (by omega)
 have HL:=hid hlen
 clear hlen
 have hg:=(hR.foot hi).1
 have fin:∀(w1:World) (all:Value),OwnB w1 (w.alloc (.cells #[.iface T v, .int .i64 1048577] 352)).heap.size all rest→Kp (fun k=>S k∨k=w.heap.size) (w.alloc (.cells #[.iface T v, .int .i64 1048577] 352)) w1 →
   LimInv w.heap.size T v S inv w1 g []→OwnB w1 w.heap.size all rest∧Kp S w w1∧inv w1 g []:=fun w1 all h1 h2 h3=>by
  refine⟨⟨h1.1,h1.2.imp id fun ⟨g,cap,cur,e1,e2,e3⟩=>⟨g,cap,cur,e1,by simp at e2;omega,e3⟩⟩,(hK.mono fun _ _ h=>h.elim).then h2 ?_,h3.choose_spec.choose_spec.1⟩
  rintro i hi (h|rfl)
  ·exact h
  ·omega
 rcases hg with rfl|rfl
 all_goals
  go_enter Tryz.func132,Tryz.ntmps132
  go_wp2_with (first|(go_at_call 221;go_in)|(go_at_call 220;refine HC.mono ?_;rintro e w1 ⟨all,rfl,hown,hkp,hinv⟩;obtain⟨q1,q2,q3⟩:=fin w1 all hown hkp hinv;obtain⟨A,c,hall⟩:=q1.shape;subst hall;have hL:=HL.out))
  go_ret2
  exact⟨_,rfl,q1,q2,q3⟩
end
section
open Go Go.RowKit
theorem c90:Tryz.prog.cellsOf 329=1:=by kernel_rfl
theorem c9':Tryz.prog.cellsOf 9=1:=by kernel_rfl
theorem star_err : "*" ++ "errors.errorString" = "*errors.errorString" := by decide
theorem row327 (u : TypeId) (h : Tryz.prog.typeName? 3 u = some "*errors.errorString") : u = 327 :=
 typeName_ptr_named (nm := "errors.errorString") (by rw [star_err]; kernel_rfl) (by kernel_rfl) (by decide) u (by rw [star_err]; exact h)
end
end Go.Proofs.YtgfcnjfmmjcodaaGreatDoor
