/- The readers of this seat. -/
import Derived.Lib.ConvBytes
import Derived.Test.YtgfcnjfmmjcodaaGreatDoorP01
set_option linter.all false
set_option maxRecDepth 100000
set_option maxHeartbeats 1000000
open Go.Lib (hid)
namespace Go.Proofs.YtgfcnjfmmjcodaaGreatDoor
open Go.RowKit
theorem Mf (w:World)(S D C i b off n c:Nat)(pr:Value)(TS t tD:TypeId)(data:List UInt8)(cur:List Value)(fr:Nat × Nat)(cD:Array Value)
  (hS:w.heap[S]?=some (.cells #[.slice (some ⟨D,0,none⟩) data.length C, .int .i64 i,pr] TS (0,0)))
  (hD:w.heap[D]?=some (.cells cD tD fr)) (hDc:∀(j:Nat) (v:Value),(ubs data)[j]?=some v→cD[j]?=some v)
  (hi:i<data.length) (hLm:data.length≤281474976710656) (hC:data.length≤C)
  (hb:w.heap[b]?=some (.cells cur.toArray t (0,0))) (hfit:off+n≤cur.length) (hn:1≤n) (hnm:n≤281474976710656) (hbS:b≠S) (hbD:b≠D) (hSD:S≠D) (m:Nat) (HM:Hid (Nat.min (data.length-i) n=m)) :
  Calls Tryz.prog 373 #[.pointer (some ⟨S,0,none⟩), .slice (some ⟨b,off,none⟩) n c] w fun e w'=>
   e=.returned (.tuple #[.int .i64 m, .nilIface])∧Kp (fun k=>k=S∨k=b) w w' ∧
   w'.heap[S]?=some (.cells #[.slice (some ⟨D,0,none⟩) data.length C, .int .i64 (i+m:Nat), .int .i64 (-1)] TS (0,0)) ∧
   w'.heap[b]?=some (.cells (splice cur off (ubs ((data.drop i).take n))).toArray t (0,0)):=by
 have c0:=cell_of hS 0 rfl;have c1:=cell_of hS 1 rfl;have c2:=cell_of hS 2 rfl;have f1:=Bb hS 1;have f2:=Bb hS 2;have hi':i≤data.length:=by omega
 have hCi:¬C=i:=by omega
 go_enter Tryz.func373,Tryz.ntmps373
 go_wp2_with fail
 go_quiet (fail)
 go_wp2_with fail
 refine Uq 10 (by kernel_rfl) ?_
 simp only[sD,sE,sF,sG];repeat still_step
 refine wpStill_nil ?_;have hS0:=heap_drew (heap_set (heap_drewN hS nq) 2 (.int .i64 (-1)));have hb0:=heap_drew (Ci (heap_drewN hb nq) ⟨S,2,none⟩ (.int .i64 (-1)) hbS);have hD0:=heap_drew (Ci (heap_drewN hD nq) ⟨S,2,none⟩ (.int .i64 (-1)) (Ne.symm hSD));refine Im rfl (.tmp 20) (.tmp 29) rfl b off n c (data.length-i) (C-i) ⟨D,i,none⟩ rfl rfl cur t hb0 ((data.drop i).take n) ?hl ?hsrc ?hfit ?_
 case hl=>simp[Nat.min_comm]
 case hsrc=>
  intro j v hv;rw[add_plain'];refine cell_of hD0 (i+j) (hDc _ _ ?_);rw[Cy] at hv ⊢;rw[List.getElem?_take,List.getElem?_drop] at hv;split at hv
  ·exact hv
  ·simp at hv
 case hfit=>simp;omega
 intro w1 hk hb1;have hS1:=hk.heap hS0 (Ne.symm hbS);have d1:=cell_of hS1 1 rfl;have e1:=Bb hS1 1;have hlen:((data.drop i).take n).length=m:=by rw[←HM.out,List.length_take,List.length_drop,Nat.min_comm]
 rw[hlen];have hm:m≤data.length-i:=by rw[←HM.out];exact Nat.min_le_left _ _
 clear hlen;go_wp2
 go_ret2
 refine⟨rfl,?_,?_,?_⟩
 ·refine Kp.setCell (Kp.then (Kp.drew (Kp.setCell ((Kp.refl _ _).drewN _) (.inl (.inl rfl)) _)) hk ?_) (.inl (.inl rfl)) _;exact fun _ _ h=>.inr h
 ·rw[show ((i+m:Nat):Int)=(i:Int)+(m:Int) by omega]
  exact heap_set hS1 1 _
 ·exact Ci hb1 _ _ hbS
theorem Iz (w:World)(S L C i n c:Nat)(A:Option Addr)(p:Option Addr)(pr:Value)(TS:TypeId)(E0:Addr)
  (hS:w.heap[S]?=some (.cells #[.slice A L C, .int .i64 i,pr] TS (0,0))) (hi:L≤i) (hE:w.cell? ⟨0,0,none⟩=some (By E0)) :
  Calls Tryz.prog 373 #[.pointer (some ⟨S,0,none⟩), .slice p n c] w fun e w'=>e=.returned (.tuple #[.int .i64 0,By E0])∧∃k,w'=w.drewN k:=by
 have c0:=cell_of hS 0 rfl;have c1:=cell_of hS 1 rfl;go_enter Tryz.func373,Tryz.ntmps373
 iterate 2 (go_wp2_with fail;go_quiet (fail))
 go_wp2_with fail
 go_ret2
 exact⟨rfl,_,World.drewN_drewN ..⟩
def Qa (S D:Nat)(w:World)(g:Nat)(rest:List UInt8):Prop:=
 g=0∧S≠D∧∃(data:List UInt8) (A:Option Addr) (i C:Nat) (pr:Value) (TS tD:TypeId) (fr:Nat × Nat) (cD:Array Value),
  w.heap[S]?=some (.cells #[.slice A data.length C, .int .i64 i,pr] TS (0,0))∧w.heap[D]?=some (.cells cD tD fr) ∧
  (0<data.length→A=some ⟨D,0,none⟩)∧(∀(j:Nat) (v:Value),(ubs data)[j]?=some v→cD[j]?=some v)∧data.length≤C∧data.length≤281474976710656∧i≤data.length∧rest=data.drop i
theorem Mg {E:Nat→Addr}{B S D:Nat}(hS:B≤S)(hD:B≤D):IsRd E B 94 (.pointer (some ⟨S,0,none⟩)) (fun k=>k=S∨k=D) (Qa S D) where
 low:=by rintro k (rfl|rfl)<;>assumption
 foot:=by
  rintro w g rest ⟨rfl,_,_,_,_,_,_,_,_,_,_,h1,h2,_⟩;exact⟨.inl rfl,by rintro k (rfl|rfl)<;>first|exact Bv h1|exact Bv h2⟩
 frame:=by
  rintro w w' g rest ⟨h0,h9,data,A,i,C,pr,TS,tD,fr,cD,h1,h2,h3⟩ h;exact⟨h0,h9,data,A,i,C,pr,TS,tD,fr,cD,(h S (.inl rfl)).trans h1,(h D (.inr rfl)).trans h2,h3⟩
 reads:=by
  refine⟨373, .pointer (some ⟨S,0,none⟩),fun _=>by kernel_rfl,fun _=>by kernel_rfl,fun _ _=>by kernel_rfl,?_⟩
  rintro w g rest b off n c cur t hG ⟨rfl,hSD,data,A,i,C,pr,TS,tD,fr,cD,h1,h2,hA,hc,hC,hdl,hi,rfl⟩ hn hnm hb hfit hnc hbS hbB;by_cases hlt:i<data.length
  ·(obtain rfl:=hA (by omega));refine(Mf w S D C i b off n c pr TS t tD data cur fr cD h1 h2 hc hlt hdl hC hb hfit hn hnm (fun e=>hbS (.inl e)) (fun e=>hbS (.inr e)) hSD _ (hid rfl)).mono ?_;rintro e w' ⟨rfl,hk,hS1,hb1⟩;have e1:Nat.min (data.length-i) n≤data.length-i:=Nat.min_le_left _ _;have e2:Nat.min (data.length-i) n≤n:=Nat.min_le_right _ _;(have e3:1≤Nat.min (data.length-i) n:=Nat.le_min.2 ⟨by omega,hn⟩);refine⟨Nat.min (data.length-i) n, .nilIface,rfl,e2,by rw[List.length_drop];exact e1, .inl ⟨rfl,e3⟩,hk.mono ?_,?_,rfl,hSD,data,_,_,C,_,TS,tD,fr,cD,hS1,hk.heap h2 ?_,hA,hc,hC,hdl,?_,?_⟩
   ·rintro k _ (rfl|rfl)<;>first|exact .inl (.inl rfl)|exact .inr rfl
   ·rw[hb1];have:List.take n (List.drop i data)=List.take (Nat.min (data.length-i) n) (List.drop i data):=by
     rw[List.take_eq_take_iff,List.length_drop];show min n (data.length-i)=min (min (data.length-i) n) (data.length-i);omega
    rw[this]
   ·rintro(e|e)<;>first|exact hSD e.symm|exact hbS (.inr e.symm)
   ·omega
   ·rw[List.drop_drop]
  ·(refine(Iz w S data.length C i n c A _ pr TS (E 0) h1 (by omega) hG.eof).mono ?_);rintro e w' ⟨rfl,k,rfl⟩;(have hd:data.drop i=[]:=List.drop_eq_nil_of_le (by omega));refine⟨0,By (E 0),rfl,by omega,by omega, .inr ⟨rfl,by rw[hd];rfl⟩,(Kp.refl _ _).drewN k,?_,rfl,hSD,data,A,i,C,pr,TS,tD,fr,cD,h1,h2,hA,hc,hC,hdl,hi,?_⟩
   ·simpa[splice,ubs] using hb
   ·rw[hd];rfl
theorem Rc (w:World)(R n c:Nat)(p:Addr)(r:Value)(TR:TypeId)(E0:Addr)
  (hR:w.heap[R]?=some (.cells #[r, .int .i64 0] TR (0,0))) (hE:w.cell? ⟨0,0,none⟩=some (By E0)) :
  Calls Tryz.prog 380 #[.pointer (some ⟨R,0,none⟩), .slice (some p) n c] w fun e w'=>e=.returned (.tuple #[.int .i64 0,By E0])∧∃k,w'=w.drewN k:=by
 have c0:=cell_of hR 0 rfl;have c1:=cell_of hR 1 rfl;by_cases hn:0<n
 all_goals
  go_enter Tryz.func380,Tryz.ntmps380
  go_wp2_with fail
  go_quiet (fail)
  go_wp2_with fail
  go_ret2
  exact⟨rfl,_,rfl⟩
def Ba8 (S:Nat)(w:World)(g:Nat)(rest:List UInt8):Prop:=
 g=0∧rest=[]∧∃(A:Option Addr) (L i C:Nat) (pr:Value) (TS:TypeId),w.heap[S]?=some (.cells #[.slice A L C, .int .i64 i,pr] TS (0,0))∧L≤i
theorem Zo {E:Nat→Addr}{B S:Nat}(hS:B≤S):IsRd E B 94 (.pointer (some ⟨S,0,none⟩)) (fun k=>k=S) (Ba8 S) where
 low:=by rintro k rfl;exact hS
 foot:=by
  rintro w g rest ⟨rfl,rfl,A,L,i,C,pr,TS,h1,h2⟩;exact⟨.inl rfl,by rintro k rfl;exact Bv h1⟩
 frame:=by
  rintro w w' g rest ⟨h0,h9,A,L,i,C,pr,TS,h1,h2⟩ h;exact⟨h0,h9,A,L,i,C,pr,TS,(h S rfl).trans h1,h2⟩
 reads:=by
  refine⟨373, .pointer (some ⟨S,0,none⟩),fun _=>by kernel_rfl,fun _=>by kernel_rfl,fun _ _=>by kernel_rfl,?_⟩
  rintro w g rest b off n c cur t hG ⟨rfl,rfl,A,L,i,C,pr,TS,h1,h2⟩ hn hnm hb hfit hnc hbS hbB;refine(Iz w S L C i n c A _ pr TS (E 0) h1 h2 hG.eof).mono ?_;rintro e w' ⟨rfl,k,rfl⟩;exact⟨0,By (E 0),rfl,by omega,by omega, .inr ⟨rfl,rfl⟩,(Kp.refl _ _).drewN k,by simpa[splice,ubs] using heap_drewN hb k,rfl,rfl,A,L,i,C,pr,TS,h1,h2⟩
def I0 (nb len:Nat):Nat:=if nb≤len then 0 else 5
theorem Ey {nb len:Nat}(h:nb≤len):I0 nb len=0:=if_pos h
theorem Ho {nb len:Nat}(h:¬nb≤len):I0 nb len=5:=if_neg h
theorem Us {α:Type}(cur:List α)(off:Nat)(xs ys:List α)(h:off+xs.length+ys.length≤cur.length) :
  splice (splice cur off xs) (off+xs.length) ys=splice cur off (xs++ys):=by
 have h1:(cur.take off).length=off:=by simp;omega
 unfold splice;have e1:(List.take off cur++(xs++List.drop (off+xs.length) cur)).take (off+xs.length)=List.take off cur++xs:=by
  rw[←List.append_assoc,List.take_append_of_le_length (by simp;omega),List.take_of_length_le (by simp;omega)]
 have e2:(List.take off cur++(xs++List.drop (off+xs.length) cur)).drop (off+xs.length+ys.length)=List.drop (off+(xs++ys).length) cur:=by
  rw[←List.append_assoc,List.drop_append,List.drop_of_length_le (by simp;omega),List.nil_append,List.drop_drop]
  congr 1
  simp;omega
 rw[e1,e2];simp
theorem Hp (cur:List Value)(off k m:Nat)(rest:List UInt8)(hk:k≤rest.length)(h:off+k+m≤cur.length) :
  splice (splice cur off (ubs (rest.take k))) (off+k) (ubs ((rest.drop k).take m))=splice cur off (ubs (rest.take (k+m))):=by
 have hl:(ubs (rest.take k)).length=k:=by rw[Bi,List.length_take];omega
 have:=Us cur off (ubs (rest.take k)) (ubs ((rest.drop k).take m)) (by rw[hl,Bi,List.length_take];omega)
 rw[hl] at this;rw[this,←D2,List.take_add]
def Re (E:Nat→Addr)(S:Nat→Prop)(inv:World→Nat→List UInt8→Prop)(w:World)(rest:List UInt8)(b off n0:Nat)(cur:List Value)(t:TypeId)(n err:Value)(wr:World):Prop:=
 ∃k:Nat,n=.int .i64 k∧k≤n0∧k≤rest.length∧Kp (fun k=>S k∨k=b) w wr∧wr.heap[b]?=some (.cells (splice cur off (ubs (rest.take k))).toArray t (0,0))∧inv wr 0 (rest.drop k) ∧
  (err=.nilIface∨err=By (E 0)∧k=rest.length)
def isNil (v:Value):Nat:=match v with| .nilIface=>1|_=>0
theorem Ip:isNil .nilIface=1:=rfl
theorem Qb (a:Addr):isNil (By a)=0:=rfl
def Qc (E:Nat→Addr)(ok:Bool):Value:=if ok then .nilIface else By (E 0)
def TrfEnd (E:Nat→Addr)(S:Nat→Prop)(inv:World→Nat→List UInt8→Prop)(w:World)(rest:List UInt8)(b off n0:Nat)(cur:List Value)(t:TypeId)(e:Ending)(w':World):Prop:=
 e=.returned (.tuple #[.int .i64 (min n0 rest.length:Nat),Qc E (decide (n0≤rest.length))])∧Kp (fun k=>S k∨k=b) w w' ∧
  w'.heap[b]?=some (.cells (splice cur off (ubs (rest.take n0))).toArray t (0,0))∧inv w' 0 (rest.drop n0)
theorem TrfEnd.mk {E:Nat→Addr}{S:Nat→Prop}{inv:World→Nat→List UInt8→Prop}{w:World}{rest:List UInt8}{b off n0:Nat}{cur:List Value}{t:TypeId}{err:Value}{w':World}{k:Nat}
  (hk:k=min n0 rest.length) (he:err=Qc E (decide (n0≤rest.length))) (hkp:Kp (fun k=>S k∨k=b) w w')
  (hb:w'.heap[b]?=some (.cells (splice cur off (ubs (rest.take k))).toArray t (0,0))) (hi:inv w' 0 (rest.drop k)):TrfEnd E S inv w rest b off n0 cur t (.returned (.tuple #[.int .i64 k,err])) w':=by
 subst hk he;refine⟨rfl,hkp,?_,?_⟩
 ·rwa[show rest.take (min n0 rest.length)=rest.take n0 by rw[List.take_eq_take_iff];omega] at hb
 ·have:rest.drop (min n0 rest.length)=rest.drop n0:=by
   by_cases h:n0≤rest.length
   ·rw[Nat.min_eq_left h]
   ·rw[Nat.min_eq_right (by omega),List.drop_of_length_le (Nat.le_refl _),List.drop_of_length_le (by omega)]
  rwa[this] at hi
theorem Lo {E:Nat→Addr}{B:Nat}{T:TypeId}{v:Value}{S:Nat→Prop}{inv:World→Nat→List UInt8→Prop}(hR:IsRd E B T v S inv)
  (w:World) (b off n0 c:Nat) (t:TypeId) (cur:List Value) (rest:List UInt8) (hG:Glob E B w) (hi:inv w 0 rest)
  (hnm:n0≤281474976710656) (hb:w.heap[b]?=some (.cells cur.toArray t (0,0))) (hfit:off+n0≤cur.length) (hnc:n0≤c) (hbS:¬S b) (hbB:B≤b) :
  Calls Tryz.prog 126 #[.iface T v, .slice (some ⟨b,off,none⟩) n0 c] w (TrfEnd E S inv w rest b off n0 cur t):=by
 obtain⟨f,recv,hm,hna,hcf,hrd⟩:=hR.reads;have H:=hid hrd;clear hrd;go_enter Tryz.func126,Tryz.ntmps126
 go_wp2_with fail
 go_loopw [4,5] (fun n err wr=>Re E S inv w rest b off n0 cur t n err wr) (fun n err _=>n0-(intOf n).toNat+isNil err)
 case atStart=>exact⟨0,rfl,by omega,by omega,Kp.refl _ _,by simpa[splice,ubs] using hb,hi, .inl rfl⟩
 case round=>
  obtain⟨k,rfl,hk,hkr,hkp,hbr,hir,herr⟩:=hrel;have hGr:=hG.keep hkp (by rintro k (h|rfl);exact hR.low _ h;exact hbB)
  have hE:=hGr.eof;by_cases hlt:k<n0
  ·rcases herr with rfl|⟨rfl,hkl⟩
   ·(have hck:¬c=k:=by omega);have hkn:k≤n0:=hk;(go_wp2_with fail);(refine Bh [7] (by kernel_rfl) ?_);simp only[Ce,sD,sE,sF,sG];(repeat still_step);refine wpStill_nil ?_;(go_wp2_with fail);(refine(H.out wr.drew 0 (rest.drop k) b (off+k) (n0-k) (c-k) _ t (hGr.keep (Kp.drew (Kp.refl (fun _=>False) _)) (fun _ h=>h.elim)) (hR.frame hir fun _ _=>rfl) (by omega) (by omega) (heap_drew hbr) (by rw[D3 _ _ _ (by rw[List.length_take];omega)];omega) (by omega) hbS hbB).mono ?_);rintro e w1 ⟨m,err,rfl,hmn,hml,hcase,hk1,hb1,hi1⟩;rw[List.length_drop] at hml;have Hc:Re E S inv w rest b off n0 cur t (.int .i64 ((k+m:Nat):Int)) err w1:=by
     refine⟨k+m,rfl,by omega,by omega,hkp.trans (Kp.then (Kp.drew (Kp.refl _ _)) hk1 fun _ _ h=>h),?_,?_,?_⟩
     ·rw[hb1,Hp _ _ _ _ _ hkr (by omega)]
     ·rw[←List.drop_drop];exact hi1
     ·rcases hcase with ⟨rfl,_⟩|⟨rfl,h2⟩
      ·exact .inl rfl
      ·rw[List.length_drop] at h2;exact .inr ⟨rfl,by omega⟩
    (have Hm:err=.nilIface∧1≤m∨err=By (E 0):=by rcases hcase with ⟨h,h'⟩|⟨h,_⟩;exact .inl ⟨h,h'⟩;exact .inr h);clear hcase hb1 hi1;(go_wp2_with fail);(repeat still_step);refine wpStill_nil ?_;(go_wp2_with fail);go_roundw
    case rel=>rw[show (k:Int)+(m:Int)=((k+m:Nat):Int) by omega];exact Hc
    case measure=>
     rcases Hm with ⟨rfl,h1⟩|rfl
     ·simp[intOf,Ip];omega
     ·simp[intOf,Qb,Ip];omega
   ·(have hz:((n0:Int)==(k:Int))=false:=by rw[beq_eq_false_iff_ne];omega);have HK:=hid hkl;clear hkl;(go_wp2_with fail);(go_ret2);exact TrfEnd.mk (by have:=HK.out;omega) (by rw[show decide (n0≤rest.length)=false by have:=HK.out;simp;omega];rfl) hkp hbr hir
  ·(have hz:((n0:Int)==(k:Int))=true:=by rw[beq_iff_eq];omega);rcases herr with rfl|⟨rfl,hkl⟩
   ·(go_wp2_with fail);(go_ret2);exact TrfEnd.mk (by omega) (by rw[show decide (n0≤rest.length)=true by simp;omega];rfl) hkp hbr hir
   ·have HK:=hid hkl;clear hkl;(go_wp2_with fail);(go_ret2);exact TrfEnd.mk (by omega) (by rw[show decide (n0≤rest.length)=true by simp;omega];rfl) hkp hbr hir
def Da (E:Nat→Addr)(n0 len:Nat):Value:=if n0≤len then .nilIface else if len=0 then By (E 0) else By (E 5)
theorem Ut {E:Nat→Addr}{n0 len:Nat}(h:n0≤len):Da E n0 len=.nilIface:=if_pos h
theorem Zp {E:Nat→Addr}{n0 len:Nat}(h:¬n0≤len)(h0:len=0):Da E n0 len=By (E 0):=by rw[Da,if_neg h,if_pos h0]
theorem Uu {E:Nat→Addr}{n0 len:Nat}(h:¬n0≤len)(h0:¬len=0):Da E n0 len=By (E 5):=by rw[Da,if_neg h,if_neg h0]
def RflEnd (E:Nat→Addr)(S:Nat→Prop)(inv:World→Nat→List UInt8→Prop)(w:World)(rest:List UInt8)(b off n0:Nat)(cur:List Value)(t:TypeId)(e:Ending)(w':World):Prop:=
 e=.returned (.tuple #[.int .i64 (min n0 rest.length:Nat),Da E n0 rest.length])∧Kp (fun k=>S k∨k=b) w w' ∧
  w'.heap[b]?=some (.cells (splice cur off (ubs (rest.take n0))).toArray t (0,0))∧inv w' 0 (rest.drop n0)
theorem RflEnd.mk {E:Nat→Addr}{S:Nat→Prop}{inv:World→Nat→List UInt8→Prop}{w:World}{rest:List UInt8}{b off n0:Nat}{cur:List Value}{t:TypeId}{err:Value}{w':World}{k:Nat}
  (hk:k=min n0 rest.length) (he:err=Da E n0 rest.length) (hkp:Kp (fun k=>S k∨k=b) w w')
  (hb:w'.heap[b]?=some (.cells (splice cur off (ubs (rest.take k))).toArray t (0,0))) (hi:inv w' 0 (rest.drop k)):RflEnd E S inv w rest b off n0 cur t (.returned (.tuple #[.int .i64 k,err])) w':=by
 have:=TrfEnd.mk (E:=E) (err:=Qc E (decide (n0≤rest.length))) hk rfl hkp hb hi;obtain⟨_,h1,h2,h3⟩:=this;subst hk he;exact⟨rfl,h1,h2,h3⟩
theorem Lp {E:Nat→Addr}{B:Nat}{T:TypeId}{v:Value}{S:Nat→Prop}{inv:World→Nat→List UInt8→Prop}(hR:IsRd E B T v S inv)
  (w:World) (b off n0 c:Nat) (t:TypeId) (cur:List Value) (rest:List UInt8) (hG:Glob E B w) (hi:inv w 0 rest)
  (hnm:n0≤281474976710656) (hb:w.heap[b]?=some (.cells cur.toArray t (0,0))) (hfit:off+n0≤cur.length) (hnc:n0≤c) (hbS:¬S b) (hbB:B≤b) :
  Calls Tryz.prog 256 #[.iface T v, .slice (some ⟨b,off,none⟩) n0 c, .int .i64 n0] w (RflEnd E S inv w rest b off n0 cur t):=by
 obtain⟨f,recv,hm,hna,hcf,hrd⟩:=hR.reads;have H:=hid hrd;clear hrd;go_enter Tryz.func256,Tryz.ntmps256
 go_wp2_with fail
 go_loopw [6,7] (fun n err wr=>Re E S inv w rest b off n0 cur t n err wr) (fun n err _=>n0-(intOf n).toNat+isNil err)
 case atStart=>exact⟨0,rfl,by omega,by omega,Kp.refl _ _,by simpa[splice,ubs] using hb,hi, .inl rfl⟩
 case round=>
  obtain⟨k,rfl,hk,hkr,hkp,hbr,hir,herr⟩:=hrel;have hGr:=hG.keep hkp (by rintro k (h|rfl);exact hR.low _ h;exact hbB)
  have hE:=hGr.eof;have hU:=hGr.unexp;by_cases hlt:k<n0
  ·rcases herr with rfl|⟨rfl,hkl⟩
   ·(have hck:¬c=k:=by omega);have hkn:k≤n0:=hk;(go_wp2_with fail);(refine Bh [7] (by kernel_rfl) ?_);simp only[Ce,sD,sE,sF,sG];(repeat still_step);refine wpStill_nil ?_;(go_wp2_with fail);(refine(H.out wr.drew 0 (rest.drop k) b (off+k) (n0-k) (c-k) _ t (hGr.keep (Kp.drew (Kp.refl (fun _=>False) _)) (fun _ h=>h.elim)) (hR.frame hir fun _ _=>rfl) (by omega) (by omega) (heap_drew hbr) (by rw[D3 _ _ _ (by rw[List.length_take];omega)];omega) (by omega) hbS hbB).mono ?_);rintro e w1 ⟨m,err,rfl,hmn,hml,hcase,hk1,hb1,hi1⟩;rw[List.length_drop] at hml;have Hc:Re E S inv w rest b off n0 cur t (.int .i64 ((k+m:Nat):Int)) err w1:=by
     refine⟨k+m,rfl,by omega,by omega,hkp.trans (Kp.then (Kp.drew (Kp.refl _ _)) hk1 fun _ _ h=>h),?_,?_,?_⟩
     ·rw[hb1,Hp _ _ _ _ _ hkr (by omega)]
     ·rw[←List.drop_drop];exact hi1
     ·rcases hcase with ⟨rfl,_⟩|⟨rfl,h2⟩
      ·exact .inl rfl
      ·rw[List.length_drop] at h2;exact .inr ⟨rfl,by omega⟩
    (have Hm:err=.nilIface∧1≤m∨err=By (E 0):=by rcases hcase with ⟨h,h'⟩|⟨h,_⟩;exact .inl ⟨h,h'⟩;exact .inr h);clear hcase hb1 hi1;(go_wp2_with fail);(repeat still_step);refine wpStill_nil ?_;(go_wp2_with fail);go_roundw
    case rel=>rw[show (k:Int)+(m:Int)=((k+m:Nat):Int) by omega];exact Hc
    case measure=>
     rcases Hm with ⟨rfl,h1⟩|rfl
     ·simp[intOf,Ip];omega
     ·simp[intOf,Qb,Ip];omega
   ·have HK:=hid hkl;clear hkl;by_cases h0:0<k
    ·(go_wp2_with fail);(go_ret2);exact RflEnd.mk (by have:=HK.out;omega) (Uu (by have:=HK.out;omega) (by have:=HK.out;omega)).symm hkp hbr hir
    ·(go_wp2_with fail);(go_ret2);exact RflEnd.mk (by have:=HK.out;omega) (Zp (by have:=HK.out;omega) (by have:=HK.out;omega)).symm hkp hbr hir
  ·(have hz:n0≤k:=by omega);rcases herr with rfl|⟨rfl,hkl⟩
   ·(go_wp2_with fail);(go_ret2);exact RflEnd.mk (by omega) (Ut (by omega)).symm hkp hbr hir
   ·have HK:=hid hkl;clear hkl;(go_wp2_with fail);(go_ret2);exact RflEnd.mk (by omega) (Ut (by omega)).symm hkp hbr hir
theorem Rh {E:Nat→Addr}{B:Nat}{T:TypeId}{v:Value}{S:Nat→Prop}{inv:World→Nat→List UInt8→Prop}(hR:IsRd E B T v S inv)
  (w:World) (b off n0 c:Nat) (t:TypeId) (cur:List Value) (rest:List UInt8) (hG:Glob E B w) (hi:inv w 0 rest)
  (hnm:n0≤281474976710656) (hb:w.heap[b]?=some (.cells cur.toArray t (0,0))) (hfit:off+n0≤cur.length) (hnc:n0≤c) (hbS:¬S b) (hbB:B≤b) :
  Calls Tryz.prog 202 #[.iface T v, .slice (some ⟨b,off,none⟩) n0 c] w (RflEnd E S inv w rest b off n0 cur t):=by
 go_enter Tryz.func202,Tryz.ntmps202
 go_wp2_with fail
 refine(Lp hR w b off n0 c t cur rest hG hi hnm hb hfit hnc hbS hbB).mono ?_;rintro e w1 ⟨rfl,h⟩;have h1:=hid h;clear h;go_wp2_with fail
 go_ret2
 exact⟨rfl,h1.out⟩
def Ri (R:Nat)(T:TypeId)(v:Value)(S:Nat→Prop)(inv:World→Nat→List UInt8→Prop)(w:World)(g:Nat)(rest:List UInt8):Prop:=
 ∃(N:Nat) (TR:TypeId),inv w g rest∧w.heap[R]?=some (.cells #[.iface T v, .int .i64 N] TR (0,0))∧¬S R∧rest.length<N∧N≤4611686018427387904
theorem Bdm {E:Nat→Addr}{B:Nat}{T:TypeId}{v:Value}{S:Nat→Prop}{inv:World→Nat→List UInt8→Prop}(hR:IsRd E B T v S inv)
  (w:World) (R b off n c N g:Nat) (TR t:TypeId) (cur:List Value) (rest:List UInt8) (hG:Glob E B w) (hi:inv w g rest)
  (hr:w.heap[R]?=some (.cells #[.iface T v, .int .i64 N] TR (0,0))) (hN:rest.length<N) (hNm:N≤4611686018427387904) (hSR:¬S R) (hBR:B≤R)
  (hn:1≤n) (hnm:n≤281474976710656) (hb:w.heap[b]?=some (.cells cur.toArray t (0,0))) (hfit:off+n≤cur.length) (hnc:n≤c) (hbS:¬S b) (hbB:B≤b) (hbR:R≠b) :
  Calls Tryz.prog 398 #[.pointer (some ⟨R,0,none⟩), .slice (some ⟨b,off,none⟩) n c] w
   (Lx E (fun k=>S k∨k=R) (Ri R T v S inv) w g rest b off n cur t):=by
 have c0:=cell_of hr 0 rfl;have c1:=cell_of hr 1 rfl;have f1:=Bb hr 1;obtain⟨f,recv,hm,hna,hcf,hrd⟩:=hR.reads;have H:=hid hrd;clear hrd;have hN0:0<N:=by omega
 by_cases hlt:N<n
 all_goals
  have hnb2:N<n→N≤c:=by omega
  go_enter Tryz.func398,Tryz.ntmps398
  go_wp2_with fail
  first
   |((with_reducible refine(H.out w g rest b off N c cur t hG hi (by omega) (by omega) hb (by omega) (by omega) hbS hbB).mono ?_))
   |((with_reducible refine(H.out w g rest b off n c cur t hG hi hn hnm hb hfit hnc hbS hbB).mono ?_))
  rintro e w1 ⟨m,err,rfl,hmn,hml,hcase,hk,hb1,hi1⟩;have hr1:=hk.heap hr (by rintro(h|h);exact hSR h;exact hbR h)
  have d1:=cell_of hr1 1 rfl;have e1:=Bb hr1 1;clear c0 c1 f1;have hkp:Kp (fun k=>(S k∨k=R)∨k=b) w (w1.setCell ⟨R,1,none⟩ (.int .i64 ((N:Int)-m))):=
   Kp.setCell (hk.mono (by rintro k _ (h|h);exact .inl (.inl h);exact .inr h)) (.inl (.inl (.inr rfl))) _
  have hbb:(w1.setCell ⟨R,1,none⟩ (.int .i64 ((N:Int)-m))).heap[b]?=some (.cells (splice cur off (ubs (rest.take m))).toArray t (0,0)):=Ci hb1 _ _ (Ne.symm hbR);have hinv:Ri R T v S inv (w1.setCell ⟨R,1,none⟩ (.int .i64 ((N:Int)-m))) g (rest.drop m):=by
   refine⟨N-m,TR,hR.frame hi1 fun k hk=>?_,?_,hSR,by rw[List.length_drop];omega,by omega⟩
   ·rw[Below.heap_setCell _ _ _ _ (fun h=>hSR (by have:k=R:=h;exact this▸hk))]
   ·(rw[show ((N-m:Nat):Int)=(N:Int)-(m:Int) by omega]);exact heap_set hr1 1 _
  have hbo:(N:Int)-m≤4611686018427387904:=by omega
  have hbo2:0≤(N:Int)-m:=by omega
  have Hc:=hid hcase;clear hcase;go_wp2_with fail
  go_ret2
  exact⟨m,err,rfl,by omega,hml,Hc.out,hkp,hbb,hinv⟩
theorem Ba9 {E:Nat→Addr}{B:Nat}{T:TypeId}{v:Value}{S:Nat→Prop}{inv:World→Nat→List UInt8→Prop}(hR:IsRd E B T v S inv)(R:Nat)(hBR:B≤R) :
  IsRd E B 350 (.pointer (some ⟨R,0,none⟩)) (fun k=>S k∨k=R) (Ri R T v S inv) where
 low:=by rintro k (h|rfl);exact hR.low _ h;exact hBR
 foot:=by
  rintro w g rest ⟨N,TR,hi,hr,hS,_,_⟩;refine⟨(hR.foot hi).1,?_⟩;rintro k (h|rfl)
  ·exact(hR.foot hi).2 k h
  ·exact Bv hr
 frame:=by
  rintro w w' g rest ⟨N,TR,hi,hr,h⟩ hk;exact⟨N,TR,hR.frame hi fun k h=>hk k (.inl h),(hk R (.inr rfl)).trans hr,h⟩
 reads:=by
  refine⟨398, .pointer (some ⟨R,0,none⟩),fun _=>by kernel_rfl,fun _=>by kernel_rfl,fun _ _=>by kernel_rfl,?_⟩
  rintro w g rest b off n c cur t hG ⟨N,TR,hi,hr,hS,h1,h2⟩ hn hnm hb hfit hnc hbS hbB;exact Bdm hR w R b off n c N g TR t cur rest hG hi hr h1 h2 hS hBR hn hnm hb hfit hnc (fun h=>hbS (.inl h)) hbB (fun h=>hbS (.inr h.symm))
def lenOf (v:Value):Nat:=match v with| .slice _ n _=>n|_=>0
def Bfu (E:Nat→Addr)(S:Nat→Prop)(inv:World→Nat→List UInt8→Prop)(w:World)(g:Nat)(rest:List UInt8)(all:Value)(wr:World):Prop:=
 ∃(k:Nat) (cur:List Value) (t:TypeId),k≤rest.length∧OwnB wr (w.heap.size+1) all (rest.take k)∧Kp S w wr∧cur.length=512∧wr.heap[w.heap.size]?=some (.cells cur.toArray t (0,0))∧inv wr g (rest.drop k)
def Bem (E:Nat→Addr)(S:Nat→Prop)(inv:World→Nat→List UInt8→Prop)(w:World)(g:Nat)(rest:List UInt8)(e:Ending)(w':World):Prop:=
 ∃all,e=.returned (.tuple #[all,if g=0 then .nilIface else By (E g)])∧OwnB w' w.heap.size all rest∧Kp S w w'∧inv w' g []
theorem Uv {E:Nat→Addr}{B:Nat}{T:TypeId}{v:Value}{S:Nat→Prop}{inv:World→Nat→List UInt8→Prop}(hR:IsRd E B T v S inv)
  (w:World) (g:Nat) (rest:List UInt8) (hG:Glob E B w) (hi:inv w g rest) (hlen:rest.length≤140737488355328) :
  Calls Tryz.prog 220 #[.iface T v] w (Bem E S inv w g rest):=by
 obtain⟨f,recv,hm,hna,hcf,hrd⟩:=hR.reads;have H:=hid hrd;clear hrd;have hz:Tryz.zeroCells155.size=512:=by kernel_rfl
 have hnew:(w.alloc (.cells Tryz.zeroCells155 155)).heap[w.heap.size]?=some (.cells Tryz.zeroCells155.toList.toArray 155 (0,0)):=by
  rw[Array.toArray_toList];exact Ba w _
 have hSw:∀k,S k→k<w.heap.size:=(hR.foot hi).2;have hg:=(hR.foot hi).1;have Hz:=hid hz;have HL:=hid hlen;clear hz hlen;go_enter Tryz.func220,Tryz.ntmps220
 go_wp2_with fail
 go_loopw [4] (fun all wr=>Bfu E S inv w g rest all wr) (fun all _=>rest.length-lenOf all)
 case atStart=>
  exact⟨0,Tryz.zeroCells155.toList,155,by omega,OwnB.nil _ _,Kp.alloc (Kp.refl _ _) _,by rw[Array.length_toList];exact Hz.out,hnew,hR.frame hi fun k hk=>Below.heap_alloc _ _ _ (hSw k hk)⟩
 case round=>
  obtain⟨k,cur,t,hk,hown,hkp,hcl,hrow,hir⟩:=hrel;have hGr:=hG.keep hkp hR.low;go_wp2_with fail
  refine Bh [5] (by kernel_rfl) ?_
  simp only[Ce,sD,sE,sF,sG];repeat still_step
  refine wpStill_nil ?_;go_wp2_with fail
  have hSb:¬S w.heap.size:=fun h=>by have:=hSw _ h;omega
  refine(H.out wr.drew g (rest.drop k) w.heap.size 0 512 512 cur t (hGr.keep (Kp.drew (Kp.refl (fun _=>False) _)) (fun _ h=>h.elim)) (hR.frame hir fun _ _=>rfl) (by omega) (by omega) (heap_drew hrow) (by omega) (by omega) hSb hG.size).mono ?_
  rintro e w1 ⟨m,err,rfl,hmn,hml,hcase,hk1,hb1,hi1⟩;rw[List.length_drop] at hml;have hne:∀b,Value.ownBlock _=some b→¬(S b∨b=w.heap.size):=fun b hb=>by
   have:=hown.block hb;rintro(h|h)
   ·have:=hSw _ h;omega
   ·omega
  have hown1:OwnB w1 (w.heap.size+1) _ (rest.take k):=hown.keep (Kp.then (Kp.drew (Kp.refl (fun k=>S k∨k=w.heap.size) _)) hk1 fun _ _ h=>h) hne;have hkp1:Kp S w w1:=hkp.then (Kp.then (Kp.drew (Kp.refl (fun k=>S k∨k=w.heap.size) _)) hk1 fun _ _ h=>h) (by rintro i hi (h|rfl);exact h;omega)
  have hsz1:w.heap.size+1≤w1.heap.size:=by have:=Bv hb1;omega
  have hm5:m≤512:=hmn;have Hc:=hid hcase;clear hcase;go_wp2_with fail
  repeat still_step
  refine wpStill_nil ?_;have hlm:((rest.drop k).take m).length=m:=by rw[List.length_take,List.length_drop];omega
  have hcells:∀(j:Nat) (u:Value),(ubs ((rest.drop k).take m))[j]?=some u→w1.cell? ((⟨w.heap.size,0,none⟩:Addr).add j)=some u:=fun j u hu=>by
   rw[add_plain',Nat.zero_add];refine cell_of hb1 j ?_;have hj:j<(ubs ((rest.drop k).take m)).length:=(List.getElem?_eq_some_iff.1 hu).1;rw[List.getElem?_toArray,splice,sE,List.nil_append,Nat.zero_add,List.getElem?_append_left hj];exact hu
  have hby:(rest.take k).length+m≤140737488355328:=by have:=HL.out;rw[List.length_take];omega
  have HM:=hid hlm;clear hlm;have hGl1:=hGr.keep (Kp.then (Kp.drew (Kp.refl (fun k=>S k∨k=w.heap.size) _)) hk1 fun _ _ h=>h) (by rintro k (h|rfl);exact hR.low _ h;exact hG.size)
  have fin:∀(v2:Value) (w2:World),OwnB w2 (w.heap.size+1) v2 (rest.take k++(rest.drop k).take m)→Kp (fun i=>some i=Value.ownBlock _) w1 w2 →
    Kp S w w2∧inv w2 g (rest.drop (k+m))∧OwnB w2 (w.heap.size+1) v2 (rest.take (k+m))∧(∃cur2:List Value,cur2.length=512∧w2.heap[w.heap.size]?=some (.cells cur2.toArray t (0,0)))∧Glob E B w2:=fun v2 w2 h1 h2=>by
   refine⟨hkp1.then h2 fun i hi h=>?_,?_,?_,⟨_,(D3 cur 0 ((rest.drop k).take m) (by rw[HM.out];omega)).trans hcl,h2.heap hb1 fun h=>?_⟩,hGl1.keep h2 fun b h=>?_⟩
   ·have:=(hown1.block h.symm).1;omega
   ·rw[←List.drop_drop];(refine hR.frame hi1 fun i hi=>h2.block i (by have:=hSw _ hi;omega) fun h=>?_);have:=(hown1.block h.symm).1;have:=hSw _ hi;omega
   ·rw[List.take_add];exact h1
   ·have:=(hown1.block h.symm).1;omega
   ·have:=(hown1.block h.symm).1;have:=hG.size;omega
  rcases Hc.out with ⟨rfl,hm1⟩|⟨rfl,hml2⟩
  ·(go_wp2_with (at_builtin;refine Io rfl (.tmp 17) (.tmp 19) rfl (w.heap.size+1) _ (rest.take k) rfl hown1 ⟨w.heap.size,0,none⟩ m 512 ((rest.drop k).take m) rfl HM.out hcells hby hsz1 ?_;intro v2 w2 hown2 hk2 hat2;obtain⟨q1,q2,q3,⟨cur2,q4,q5⟩,q6⟩:=fin v2 w2 hown2 hk2));go_roundw
   case rel=>exact⟨k+m,cur2,t,by omega,q3,q1,q4,q5,q2⟩
   case measure=>
    obtain⟨A1,c1,e1⟩:=q3.shape;obtain⟨A0,c0,e0⟩:=hown.shape;rw[e1,e0];simp only[lenOf,List.length_take];omega
  ·rw[List.length_drop] at hml2;(have HK:Hid (k+m=rest.length):=by show k+m=rest.length;omega);clear hml2;rcases hg with rfl|rfl
   ·(go_wp2_with (at_builtin;refine Io rfl (.tmp 17) (.tmp 19) rfl (w.heap.size+1) _ (rest.take k) rfl hown1 ⟨w.heap.size,0,none⟩ m 512 ((rest.drop k).take m) rfl HM.out hcells hby hsz1 ?_;intro v2 w2 hown2 hk2 hat2;obtain⟨q1,q2,q3,q4,q6⟩:=fin v2 w2 hown2 hk2;have hE2:=q6.eof));(go_ret2);refine⟨v2,rfl,?_,q1,?_⟩
    ·rw[HK.out,List.take_length] at q3;exact⟨q3.1,q3.2.imp id fun ⟨g,cap,cur,h1,h2,h3⟩=>⟨g,cap,cur,h1,by omega,h3⟩⟩
    ·rw[HK.out,List.drop_length] at q2;exact q2
   ·(go_wp2_with (at_builtin;refine Io rfl (.tmp 17) (.tmp 19) rfl (w.heap.size+1) _ (rest.take k) rfl hown1 ⟨w.heap.size,0,none⟩ m 512 ((rest.drop k).take m) rfl HM.out hcells hby hsz1 ?_;intro v2 w2 hown2 hk2 hat2;obtain⟨q1,q2,q3,q4,q6⟩:=fin v2 w2 hown2 hk2;have hE2:=q6.eof;have hne2:=Dh q6 (g:=5) (h:=0) (by decide) (by decide) (by decide)));(go_ret2);refine⟨v2,rfl,?_,q1,?_⟩
    ·rw[HK.out,List.take_length] at q3;exact⟨q3.1,q3.2.imp id fun ⟨g,cap,cur,h1,h2,h3⟩=>⟨g,cap,cur,h1,by omega,h3⟩⟩
    ·rw[HK.out,List.drop_length] at q2;exact q2
@[go_sem] theorem Mh (w:World)(a b:Addr)(m:Mode):(store a (By b) m).run Tryz.prog w=stored Tryz.prog w a (By b) m:=run_store Tryz.prog w a _ m rfl
@[go_sem] theorem Iy (w:World)(a b:Addr):(storeCells a [By b]).run Tryz.prog w=stored Tryz.prog w a (By b) .plain:=by
 simp[storeCells,Mh,Addr.add]
def Cz (r:Value)(pad:Int)(curr:Value)(blk:List Value)(err:Value):List Value:=r:: .int .i64 pad::curr::(blk++[err])
theorem Iq {r:Value}{pad:Int}{curr:Value}{blk:List Value}{err:Value}(h:blk.length=512):(Cz r pad curr blk err).toArray[515]?=some err:=by
 rw[List.getElem?_toArray,Cz];show (blk++[err])[512]?=_;rw[List.getElem?_append_right (by omega),h];rfl
theorem Zq {r:Value}{pad:Int}{curr:Value}{blk:List Value}{err:Value}(i:Nat)(h:i<blk.length):(Cz r pad curr blk err).toArray[3+i]?=blk[i]?:=by
 rw[List.getElem?_toArray,Cz,Nat.add_comm];show (blk++[err])[i]?=_;rw[List.getElem?_append_left h]
theorem Gf {r:Value}{pad:Int}{curr:Value}{blk:List Value}{err:Value}(h:blk.length=512)(v:Value) :
  (Cz r pad curr blk err).toArray.setIfInBounds 515 v=(Cz r pad curr blk v).toArray:=by
 rw[sA,Cz];show ((r:: .int .i64 pad::curr::(blk++[err]).set 512 v).toArray:Array Value)=_;rw[List.set_append_right _ _ (by omega),h];rfl
theorem I1 {r:Value}{pad:Int}{curr:Value}{blk:List Value}{err:Value}(p:Int) :
  (Cz r pad curr blk err).toArray.setIfInBounds 1 (.int .i64 p)=(Cz r p curr blk err).toArray:=by
 rw[sA];rfl
theorem Mi {r:Value}{pad:Int}{curr:Value}{blk:List Value}{err:Value}(v:Value) :
  (Cz r pad curr blk err).toArray.setIfInBounds 2 v=(Cz r pad v blk err).toArray:=by
 rw[sA];rfl
theorem Qd {r:Value}{pad:Int}{curr:Value}{blk:List Value}{err:Value}(h:blk.length=512):(Cz r pad curr blk err).length=516:=by simp[Cz,h]
theorem Jp {r:Value}{pad:Int}{curr:Value}{blk:List Value}{err:Value}(l:List Value)(h:l.length≤blk.length) :
  splice (Cz r pad curr blk err) 3 l=Cz r pad curr (splice blk 0 l) err:=by
 unfold splice Cz;have e:List.drop (3+l.length) (r::Value.int .i64 pad::curr::(blk++[err]))=blk.drop l.length++[err]:=by
  rw[Nat.add_comm];show List.drop l.length (blk++[err])=_;rw[List.drop_append_of_le_length h]
 rw[e];simp
def Bba (E:Nat→Addr)(R:Nat)(r:Value)(pad:Int)(Tc:TypeId)(vc:Value)(blk:List Value)(TT:TypeId)(S:Nat→Prop)(inv:World→Nat→List UInt8→Prop)(w:World)(g:Nat)(rest:List UInt8):Prop:=
 inv w g rest∧¬S R∧∃err,w.heap[R]?=some (.cells (Cz r pad (.iface Tc vc) blk err).toArray TT (0,0))∧(err=.nilIface∨err=By (E 5)∧g=5∧rest=[])
theorem Bbb {E:Nat→Addr}{B:Nat}{Tc:TypeId}{vc:Value}{S:Nat→Prop}{inv:World→Nat→List UInt8→Prop}(hR:IsRd E B Tc vc S inv)
  (w:World) (R b off n c g:Nat) (r:Value) (pad:Int) (blk:List Value) (TT t:TypeId) (cur:List Value) (rest:List UInt8) (hG:Glob E B w) (hi:inv w g rest)
  (hr:w.heap[R]?=some (.cells (Cz r pad (.iface Tc vc) blk .nilIface).toArray TT (0,0))) (hbl:blk.length=512) (hSR:¬S R) (hBR:B≤R)
  (hn:1≤n) (hnm:n≤281474976710656) (hb:w.heap[b]?=some (.cells cur.toArray t (0,0))) (hfit:off+n≤cur.length) (hnc:n≤c) (hbS:¬S b) (hbB:B≤b) (hbR:R≠b) :
  Calls Tryz.prog 51 #[.pointer (some ⟨R,0,none⟩), .slice (some ⟨b,off,none⟩) n c] w
   (Lx E (fun k=>S k∨k=R) (Bba E R r pad Tc vc blk TT S inv) w g rest b off n cur t):=by
 have c2:w.cell? ⟨R,2,none⟩=some (.iface Tc vc):=cell_of hr 2 rfl;have ce:=cell_of hr 515 (Iq hbl);obtain⟨f,recv,hm,hna,hcf,hrd⟩:=hR.reads;have H:=hid hrd;clear hrd;have hg:=(hR.foot hi).1;have HB:=hid hbl;clear hbl;rcases hg with rfl|rfl
 all_goals
  go_enter Tryz.func51,Tryz.ntmps51
  go_wp2_with fail
  refine(H.out w _ rest b off n c cur t hG hi hn hnm hb hfit hnc hbS hbB).mono ?_;rintro e w1 ⟨m,err,rfl,hmn,hml,hcase,hk,hb1,hi1⟩;have hr1:=hk.heap hr (by rintro(h|h);exact hSR h;exact hbR h)
  have hG1:=hG.keep hk (by rintro k (h|rfl);exact hR.low _ h;exact hbB)
  have hE1:=hG1.eof;have e1:=cell_of hr1 515 (Iq HB.out);have f1:=Bb hr1 515;clear c2 ce;have hkp:Kp (fun k=>(S k∨k=R)∨k=b) w w1:=hk.mono (by rintro k _ (h|h);exact .inl (.inl h);exact .inr h)
  have hne:=Me hG1 (g:=5) (h:=0) (by decide) (by decide) (by decide)
  rcases hcase with ⟨rfl,h1⟩|⟨rfl,h2⟩
  ·(go_wp2_with fail);(go_ret2);exact⟨m, .nilIface,rfl,hmn,hml, .inl ⟨rfl,h1⟩,hkp,hb1,hi1,hSR, .nilIface,hr1, .inl rfl⟩
  ·have H2:=hid h2;clear h2;(go_wp2_with fail);(try(rw[Iy];go_simp;go_wp2_with fail));go_ret2
   first
    |exact⟨m,By (E 0),rfl,hmn,hml, .inr ⟨rfl,H2.out⟩,hkp,hb1,hi1,hSR, .nilIface,hr1, .inl rfl⟩
    |(refine⟨m,By (E 5),rfl,hmn,hml, .inr ⟨rfl,H2.out⟩,hkp.setCell (.inl (.inl (.inr rfl))) _,Ci hb1 _ _ (Ne.symm hbR),hR.frame hi1 fun k hk=>?_,hSR,By (E 5),?_, .inr ⟨rfl,rfl,?_⟩⟩
      ·rw[Below.heap_setCell _ _ _ _ (fun h=>hSR (by have:k=R:=h;exact this▸hk))]
      ·have:=heap_set hr1 515 (By (E 5));rwa[Gf HB.out] at this
      ·rw[H2.out,List.drop_length])
theorem Xl {E:Nat→Addr}{B:Nat}(w:World)(R n c:Nat)(p:Option Addr)(r:Value)(pad:Int)(cu:Value)(blk:List Value)(TT:TypeId)(a:Addr)
  (hr:w.heap[R]?=some (.cells (Cz r pad cu blk (By a)).toArray TT (0,0))) (hbl:blk.length=512) :
  Calls Tryz.prog 51 #[.pointer (some ⟨R,0,none⟩), .slice p n c] w fun e w'=>e=.returned (.tuple #[.int .i64 0,By a])∧∃k,w'=w.drewN k:=by
 have ce:=cell_of hr 515 (Iq hbl);clear hbl;go_enter Tryz.func51,Tryz.ntmps51
 go_wp2_with fail
 go_quiet (fail)
 go_wp2_with fail
 go_ret2
 exact⟨rfl,_,rfl⟩
theorem Ly {E:Nat→Addr}{B:Nat}{Tc:TypeId}{vc:Value}{S:Nat→Prop}{inv:World→Nat→List UInt8→Prop}(hR:IsRd E B Tc vc S inv)(R:Nat)(hBR:B≤R)(r:Value)(pad:Int)(blk:List Value)(TT:TypeId)(hbl:blk.length=512) :
  IsRd E B 92 (.pointer (some ⟨R,0,none⟩)) (fun k=>S k∨k=R) (Bba E R r pad Tc vc blk TT S inv) where
 low:=by rintro k (h|rfl);exact hR.low _ h;exact hBR
 foot:=by
  rintro w g rest ⟨hi,hS,err,hr,_⟩;refine⟨(hR.foot hi).1,?_⟩;rintro k (h|rfl)
  ·exact(hR.foot hi).2 k h
  ·exact Bv hr
 frame:=by
  rintro w w' g rest ⟨hi,hS,err,hr,h⟩ hk;exact⟨hR.frame hi fun k h=>hk k (.inl h),hS,err,(hk R (.inr rfl)).trans hr,h⟩
 reads:=by
  refine⟨51, .pointer (some ⟨R,0,none⟩),fun _=>by kernel_rfl,fun _=>by kernel_rfl,fun _ _=>by kernel_rfl,?_⟩
  rintro w g rest b off n c cur t hG ⟨hi,hS,err,hr,he⟩ hn hnm hb hfit hnc hbS hbB;rcases he with rfl|⟨rfl,rfl,rfl⟩
  ·exact Bbb hR w R b off n c g r pad blk TT t cur rest hG hi hr hbl hS hBR hn hnm hb hfit hnc (fun h=>hbS (.inl h)) hbB (fun h=>hbS (.inr h.symm))
  ·refine(Xl (E:=E) (B:=B) w R n c _ r pad _ blk TT _ hr hbl).mono ?_;rintro e w' ⟨rfl,k,rfl⟩;exact⟨0,By (E 5),rfl,by omega,by omega, .inr ⟨rfl,rfl⟩,(Kp.refl _ _).drewN k,by simpa[splice,ubs] using heap_drewN hb k,hR.frame hi fun _ _=>rfl,hS,By (E 5),heap_drewN hr k, .inr ⟨rfl,rfl,rfl⟩⟩
theorem Cw {E:Nat→Addr}{B:Nat}{T:TypeId}{v:Value}{S:Nat→Prop}{inv:World→Nat→List UInt8→Prop}(hR:IsRd E B T v S inv)
  (w:World) (g:Nat) (rest:List UInt8) (hG:Glob E B w) (hi:inv w g rest) (hlen:rest.length≤1048576) :
  Calls Tryz.prog 132 #[.iface T v] w (Bem E S inv w g rest):=by
 have hS:∀k,S k→k<w.heap.size:=(hR.foot hi).2;have hK:Kp (fun _=>False) w (w.alloc (.cells #[.iface T v, .int .i64 1048577] 352)):=Kp.alloc (Kp.refl _ _) _
 have HC:=Uv (Ba9 hR w.heap.size hG.size) (w.alloc (.cells #[.iface T v, .int .i64 1048577] 352)) g rest (hG.keep hK (fun _ h=>h.elim))
  ⟨1048577,352,hR.frame hi fun k hk=>Below.heap_alloc _ _ _ (hS k hk),Ba w _,fun h=>by have:=hS _ h;omega,by omega,by omega⟩ (by omega)
 have HL:=hid hlen;clear hlen;have hg:=(hR.foot hi).1
 have fin:∀(w1:World) (all:Value),OwnB w1 (w.alloc (.cells #[.iface T v, .int .i64 1048577] 352)).heap.size all rest→Kp (fun k=>S k∨k=w.heap.size) (w.alloc (.cells #[.iface T v, .int .i64 1048577] 352)) w1 →
   Ri w.heap.size T v S inv w1 g []→OwnB w1 w.heap.size all rest∧Kp S w w1∧inv w1 g []:=fun w1 all h1 h2 h3=>by
  refine⟨⟨h1.1,h1.2.imp id fun ⟨g,cap,cur,e1,e2,e3⟩=>⟨g,cap,cur,e1,by simp at e2;omega,e3⟩⟩,(hK.mono fun _ _ h=>h.elim).then h2 ?_,h3.choose_spec.choose_spec.1⟩
  rintro i hi (h|rfl)
  ·exact h
  ·omega
 rcases hg with rfl|rfl
 all_goals
  go_enter Tryz.func132,Tryz.ntmps132
  go_wp2_with (first|(go_at_call 221;go_in)|(go_at_call 220;refine HC.mono ?_;rintro e w1 ⟨all,rfl,hown,hkp,hinv⟩;obtain⟨q1,q2,q3⟩:=fin w1 all hown hkp hinv;obtain⟨A,c,hall⟩:=q1.shape;subst hall;have hL:=HL.out))
  go_ret2
  exact⟨_,rfl,q1,q2,q3⟩
def Bfv (S:Nat→Prop)(inv:World→Nat→List UInt8→Prop)(w:World)(rest:List UInt8)(n:Nat)(done:Value)(wr:World):Prop:=
 ∃(k:Nat) (cur:List Value) (t:TypeId),done=.int .i64 k∧k≤n∧k≤rest.length∧Kp S w wr∧cur.length=512∧wr.heap[w.heap.size]?=some (.cells cur.toArray t (0,0))∧inv wr 0 (rest.drop k)
def Bfw (E:Nat→Addr)(S:Nat→Prop)(inv:World→Nat→List UInt8→Prop)(w:World)(rest:List UInt8)(n:Nat)(e:Ending)(w':World):Prop:=
 ∃(k:Nat) (err:Value),e=.returned (.tuple #[.int .i64 k,err])∧Kp S w w'∧inv w' 0 (rest.drop k)∧(n≤rest.length∧k=n∧err=.nilIface∨rest.length<n∧k=rest.length∧err=By (E 0))
theorem Gy {E:Nat→Addr}{B:Nat}{T:TypeId}{v:Value}{S:Nat→Prop}{inv:World→Nat→List UInt8→Prop}(hR:IsRd E B T v S inv)
  (w:World) (n:Nat) (rest:List UInt8) (hG:Glob E B w) (hi:inv w 0 rest) (hnm:n≤4611686018427387904) :
  Calls Tryz.prog 201 #[.iface T v, .int .i64 n] w (Bfw E S inv w rest n):=by
 obtain⟨f,recv,hm,hna,hcf,hrd⟩:=hR.reads;have H:=hid hrd;clear hrd;have hz:Tryz.zeroCells155.size=512:=by kernel_rfl
 have hnew:(w.alloc (.cells Tryz.zeroCells155 155)).heap[w.heap.size]?=some (.cells Tryz.zeroCells155.toList.toArray 155 (0,0)):=by
  rw[Array.toArray_toList];exact Ba w _
 have hSw:∀k,S k→k<w.heap.size:=(hR.foot hi).2;have Hz:=hid hz;clear hz;go_enter Tryz.func201,Tryz.ntmps201
 go_wp2_with fail
 go_loopw [7] (fun done wr=>Bfv S inv w rest n done wr) (fun done _=>n-(intOf done).toNat)
 case atStart=>
  exact⟨0,Tryz.zeroCells155.toList,155,rfl,by omega,by omega,Kp.alloc (Kp.refl _ _) _,by rw[Array.length_toList];exact Hz.out,hnew,hR.frame hi fun k hk=>Below.heap_alloc _ _ _ (hSw k hk)⟩
 case round=>
  obtain⟨k,cur,t,rfl,hk,hkr,hkp,hcl,hrow,hir⟩:=hrel;have hGr:=hG.keep hkp hR.low;by_cases hlt:k<n
  ·(obtain⟨n',hn',hn1,hn2,hn3⟩:∃n':Nat,Hid (min (n-k) 512=n')∧1≤n'∧n'≤512∧n'≤n-k:=⟨_,hid rfl,by omega,by omega,by omega⟩);(have hmin:(if (512:Int)<(n:Int)-(k:Int) then (512:Int) else (n:Int)-(k:Int))=(n':Int):=by have:=hn'.out;split<;>omega);(have hwr:IntKind.i64.wrap ((n:Int)-(k:Int))=(n:Int)-(k:Int):=IntWalk.i64_in _ (by omega));(have hSb:¬S w.heap.size:=fun h=>by have:=hSw _ h;omega);(have HC:=H.out wr.drew 0 (rest.drop k) w.heap.size 0 n' 512 cur t (hGr.keep (Kp.drew (Kp.refl (fun _=>False) _)) (fun _ h=>h.elim)) (hR.frame hir fun _ _=>rfl) (by omega) (by omega) (heap_drew hrow) (by omega) (by omega) hSb hG.size);(go_wp2_with fail);(refine Bh [9] (by kernel_rfl) ?_);simp only[Ce,sD,sE,sF,sG];(repeat still_step);refine wpStill_nil ?_;clear hmin hwr;(go_wp2_with fail);refine HC.mono ?_;rintro e w1 ⟨m,err,rfl,hmn,hml,hcase,hk1,hb1,hi1⟩;rw[List.length_drop] at hml;(have hkp1:Kp S w w1:=hkp.then (Kp.then (Kp.drew (Kp.refl (fun k=>S k∨k=w.heap.size) _)) hk1 fun _ _ h=>h) (by rintro i hi (h|rfl);exact h;omega));have Hc:=hid hcase;clear hcase HC;(have hlen1:(splice cur 0 (ubs ((rest.drop k).take m))).length=512:=(D3 cur 0 _ (by rw[List.length_take];omega)).trans hcl);have HL:=hid hlen1;clear hlen1;(have hmn2:k+m≤n:=by omega);rcases Hc.out with ⟨rfl,hm1⟩|⟨rfl,hml2⟩
   ·by_cases hd:k+m=n
    ·(have hd1:((k:Int)+(m:Int)==(n:Int))=true:=by rw[beq_iff_eq];omega);have HD:=hid hd;clear hd;(go_wp2_with fail);(repeat still_step);refine wpStill_nil ?_;(go_wp2_with fail);(go_ret2);exact⟨k+m, .nilIface,rfl,hkp1,by rw[←List.drop_drop];exact hi1, .inl ⟨by have:=HD.out;omega,HD.out,rfl⟩⟩
    ·(have hd1:((k:Int)+(m:Int)==(n:Int))=false:=by rw[beq_eq_false_iff_ne];omega);have HD:=hid hd;clear hd;(go_wp2_with fail);(repeat still_step);refine wpStill_nil ?_;(go_wp2_with fail);go_roundw
     case rel=>exact⟨k+m,_,t,by go_num,by omega,by omega,hkp1,HL.out,hb1,by rw[←List.drop_drop];exact hi1⟩
     case measure=>simp[intOf];omega
   ·rw[List.length_drop] at hml2;have HM:=hid hml2;clear hml2;by_cases hd:k+m=n
    ·(have hd1:((k:Int)+(m:Int)==(n:Int))=true:=by rw[beq_iff_eq];omega);have HD:=hid hd;clear hd;(go_wp2_with fail);(repeat still_step);refine wpStill_nil ?_;(go_wp2_with fail);(go_ret2);exact⟨k+m, .nilIface,rfl,hkp1,by rw[←List.drop_drop];exact hi1, .inl ⟨by have:=HD.out;omega,HD.out,rfl⟩⟩
    ·(have hd1:((k:Int)+(m:Int)==(n:Int))=false:=by rw[beq_eq_false_iff_ne];omega);have HD:=hid hd;clear hd;(go_wp2_with fail);(repeat still_step);refine wpStill_nil ?_;(go_wp2_with fail);(go_ret2);exact⟨k+m,By (E 0),rfl,hkp1,by rw[←List.drop_drop];exact hi1, .inr ⟨by have:=HD.out;have:=HM.out;omega,by have:=HM.out;omega,rfl⟩⟩
  ·(have hz:k=n:=by omega);have HZ:=hid hz;clear hz;(go_wp2_with fail);(go_ret2);exact⟨k, .nilIface,rfl,hkp,hir, .inl ⟨by have:=HZ.out;omega,HZ.out,rfl⟩⟩
theorem Qe (w:World)(S L C i d:Nat)(A:Option Addr)(pr:Value)(TS:TypeId)
  (hS:w.heap[S]?=some (.cells #[.slice A L C, .int .i64 i,pr] TS (0,0))) (hi:i+d≤9223372036854775807) :
  Calls Tryz.prog 374 #[.pointer (some ⟨S,0,none⟩), .int .i64 d, .int .i64 1] w fun e w'=>
   e=.returned (.tuple #[.int .i64 (i+d:Nat), .nilIface])∧Kp (· =S) w w'∧w'.heap[S]?=some (.cells #[.slice A L C, .int .i64 (i+d:Nat), .int .i64 (-1)] TS (0,0)):=by
 have c0:=cell_of hS 0 rfl;have c1:=cell_of hS 1 rfl;have c2:=cell_of hS 2 rfl;have f1:=Bb hS 1;have f2:=Bb hS 2;go_enter Tryz.func374,Tryz.ntmps374
 go_wp2_with fail
 go_ret2
 refine⟨by rw[show ((i+d:Nat):Int)=(i:Int)+(d:Int) by omega];rfl,Kp.setCell (S:=(· =S)) (Kp.setCell (S:=(· =S)) (Kp.refl _ _) (.inl rfl) _) (.inl rfl) _,?_⟩
 rw[show ((i+d:Nat):Int)=(i:Int)+(d:Int) by omega]
 exact heap_set (heap_set hS 2 _) 1 _
def Ben (E:Nat→Addr)(S:Nat→Prop)(inv:World→Nat→List UInt8→Prop)(w:World)(rest:List UInt8)(n:Nat)(e:Ending)(w':World):Prop:=
 Kp S w w'∧(n≤rest.length∧e=.returned .nilIface∧inv w' 0 (rest.drop n)∨rest.length<n∧e=.returned (By (E 5)))
theorem Ot {E:Nat→Addr}{B S D:Nat}(hBS:B≤S)(hBD:B≤D)(w:World)(n:Nat)(rest:List UInt8)(hG:Glob E B w)(hi:Qa S D w 0 rest)(hnm:n≤2305843009213693952) :
  Calls Tryz.prog 125 #[.iface 94 (.pointer (some ⟨S,0,none⟩)), .int .i64 n] w (Ben E (fun k=>k=S∨k=D) (Qa S D) w rest n):=by
 obtain⟨_,hSD,data,A,i,C,pr,TS,tD,fr,cD,h1,h2,hA,hc,hC,hdl,him,hrest⟩:=id hi;have HR:=hid hrest;clear hrest;have hta:∀w,(Instr.typeAssert (.iface 94 (.pointer (some ⟨S,0,none⟩))) 149 295 true).run Tryz.prog w=.ok (.tuple #[.iface 94 (.pointer (some ⟨S,0,none⟩)), .bool true]) w:=fun _=>by kernel_rfl
 have hms : ∀ w, (method 560 94 (.pointer (some ⟨S, 0, none⟩)) "Seek").run Tryz.prog w = .ok (374, .pointer (some ⟨S, 0, none⟩)) w := fun _ => by kernel_rfl
 have hR:=Mg (E:=E) hBS hBD;by_cases hn:1<n
 ·have hrl:rest.length=data.length-i:=by rw[HR.out,List.length_drop]
  have HRL:=hid hrl;clear hrl;go_enter Tryz.func125,Tryz.ntmps125
  go_wp2_with fail
  refine(Qe w S data.length C i 0 A pr TS h1 (by omega)).mono ?_
  rintro e w1 ⟨rfl,hk1,hS1⟩;rw[Nat.add_zero] at *;have hi0:0≤(i:Int):=by omega
  go_wp2_with fail
  rw[show ((n:Int)-1)=((n-1:Nat):Int) by omega]
  refine(Qe w1 S data.length C i (n-1) A _ TS hS1 (by omega)).mono ?_
  rintro e w2 ⟨rfl,hk2,hS2⟩;have hk12:Kp (fun k=>k=S∨k=D) w w2:=(hk1.trans hk2).mono fun _ _ h=>.inl h;have hG2:=hG.keep hk12 (by rintro b (rfl|rfl)<;>assumption)
  have hi1:0≤(i:Int)+((n-1:Nat):Int):=by omega
  by_cases hle:n≤rest.length
  ·(have HB:Qa S D w2 0 (rest.drop (n-1)):=⟨rfl,hSD,data,A,i+(n-1),C,_,TS,tD,fr,cD,hS2,(hk1.trans hk2).heap h2 (Ne.symm hSD),hA,hc,hC,hdl,by have:=HRL.out;omega,by rw[HR.out,List.drop_drop]⟩);(have HD:=Gy hR w2 1 (rest.drop (n-1)) hG2 HB (by omega));(go_wp2_with fail);(rw[show ((n:Int)-((i:Int)+((n-1:Nat):Int)-(i:Int)))=((1:Nat):Int) by omega]);refine HD.mono ?_;rintro e w3 ⟨k,err,rfl,hk3,hi3,hcase⟩;rcases hcase with ⟨_,rfl,rfl⟩|⟨h,_⟩
   ·clear HD;(have hE3:=(hG2.keep hk3 (by rintro b (rfl|rfl)<;>assumption)).eof);(go_wp2_with fail);(go_ret);refine⟨hk12.then hk3 fun _ _ h=>h, .inl ⟨hle,rfl,?_⟩⟩;(rw[List.drop_drop,show n-1+1=n by omega] at hi3);exact hi3
   ·rw[List.length_drop] at h;omega
  ·(have HB:Ba8 S w2 0 []:=⟨rfl,rfl,A,data.length,i+(n-1),C,_,TS,hS2,by have:=HRL.out;omega⟩);(have HD:=Gy (Zo (E:=E) hBS) w2 1 [] hG2 HB (by omega));(go_wp2_with fail);(rw[show ((n:Int)-((i:Int)+((n-1:Nat):Int)-(i:Int)))=((1:Nat):Int) by omega]);refine HD.mono ?_;rintro e w3 ⟨k,err,rfl,hk3,hi3,hcase⟩;rcases hcase with ⟨h,_⟩|⟨_,hk0,rfl⟩
   ·simp at h
   ·obtain rfl:k=0:=hk0;clear HD hi3;(have hG3:=hG2.keep hk3 (by rintro b rfl;exact hBS));have hE3:=hG3.eof;have hU3:=hG3.unexp;(have hlt:(i:Int)+((n-1:Nat):Int)-(i:Int)+((0:Nat):Int)<(n:Int):=by omega);(go_wp2_with fail);(go_ret);exact⟨hk12.then hk3 fun _ _ h=>.inl h, .inr ⟨by omega,rfl⟩⟩
 ·have HD:=Gy hR w n rest hG hi (by omega)
  go_enter Tryz.func125,Tryz.ntmps125
  go_wp2_with fail
  refine HD.mono ?_;rintro e w3 ⟨k,err,rfl,hk3,hi3,hcase⟩;have hG3:=hG.keep hk3 (by rintro b (rfl|rfl)<;>assumption)
  have hE3:=hG3.eof;have hU3:=hG3.unexp;rcases hcase with ⟨h,rfl,rfl⟩|⟨h,hk0,rfl⟩
  ·clear HD;(go_wp2_with fail);(go_ret);exact⟨hk3, .inl ⟨h,rfl,hi3⟩⟩
  ·(have hlt:(k:Int)<(n:Int):=by omega);have HK:=hid hk0;clear HD hi3 hk0;(go_wp2_with fail);(go_ret);exact⟨hk3, .inr ⟨h,rfl⟩⟩
def Lz (R:Nat)(T:TypeId)(v:Value)(S:Nat→Prop)(inv:World→Nat→List UInt8→Prop)(tl:List UInt8)(w:World)(g:Nat)(rest:List UInt8):Prop:=
 ∃(src:List UInt8) (nb:Nat),inv w 0 src∧w.heap[R]?=some (.cells #[.iface T v, .int .i64 nb] 152 (0,0))∧¬S R∧rest=src.take nb∧g=I0 nb src.length∧nb≤4611686018427387904∧src.drop nb=tl
theorem Ou {tl:List UInt8}{E:Nat→Addr}{B:Nat}{T:TypeId}{v:Value}{S:Nat→Prop}{inv:World→Nat→List UInt8→Prop}(hR:IsRd E B T v S inv)
  (w:World) (R b off n c nb:Nat) (t:TypeId) (cur:List Value) (src:List UInt8) (hG:Glob E B w) (hi:inv w 0 src)
  (hr:w.heap[R]?=some (.cells #[.iface T v, .int .i64 nb] 152 (0,0))) (hnb:1≤nb) (hnbm:nb≤4611686018427387904) (htl:src.drop nb=tl) (hSR:¬S R) (hBR:B≤R)
  (hn:1≤n) (hnm:n≤281474976710656) (hb:w.heap[b]?=some (.cells cur.toArray t (0,0))) (hfit:off+n≤cur.length) (hnc:n≤c) (hbS:¬S b) (hbB:B≤b) (hbR:R≠b) :
  Calls Tryz.prog 380 #[.pointer (some ⟨R,0,none⟩), .slice (some ⟨b,off,none⟩) n c] w
   (Lx E (fun k=>S k∨k=R) (Lz R T v S inv tl) w (I0 nb src.length) (src.take nb) b off n cur t):=by
 have HTL:=hid htl;clear htl;have c0:=cell_of hr 0 rfl;have c1:=cell_of hr 1 rfl;have f1:=Bb hr 1;obtain⟨f,recv,hm,hna,hcf,hrd⟩:=hR.reads;have H:=hid hrd;clear hrd;by_cases hlt:nb<n
 all_goals
  have hnb2:nb<n→nb≤c:=by omega
  go_enter Tryz.func380,Tryz.ntmps380
  go_wp2_with fail
  first
   |((with_reducible refine(H.out w 0 src b off nb c cur t hG hi hnb (by omega) hb (by omega) (by omega) hbS hbB).mono ?_))
   |((with_reducible refine(H.out w 0 src b off n c cur t hG hi hn hnm hb hfit hnc hbS hbB).mono ?_))
  rintro e w1 ⟨m,err,rfl,hmn,hml,hcase,hk,hb1,hi1⟩;have hG1:=hG.keep hk (by rintro k (h|rfl);exact hR.low _ h;exact hbB)
  have hr1:=hk.heap hr (by rintro(h|h);exact hSR h;exact hbR h)
  have hE1:=hG1.eof;have hU1:=hG1.unexp;have d1:=cell_of hr1 1 rfl;have e1:=Bb hr1 1;clear c0 c1 f1;have hmnb:m≤nb:=by omega
  have hkp:∀n1,Kp (fun k=>(S k∨k=R)∨k=b) w ((w1.setCell ⟨R,1,none⟩ (.int .i64 ((nb:Int)-m))).drewN n1):=fun n1=>
   (Kp.drewN (Kp.setCell (hk.mono (by rintro k _ (h|h);exact .inl (.inl h);exact .inr h)) (.inl (.inl (.inr rfl))) _) n1)
  have hbb:∀n1,((w1.setCell ⟨R,1,none⟩ (.int .i64 ((nb:Int)-m))).drewN n1).heap[b]?=some (.cells (splice cur off (ubs ((src.take nb).take m))).toArray t (0,0)):=fun n1=>by
   rw[List.take_take,Nat.min_eq_left hmnb];exact heap_drewN (Ci hb1 _ _ (Ne.symm hbR)) n1
  have hinv:∀n1,Lz R T v S inv tl ((w1.setCell ⟨R,1,none⟩ (.int .i64 ((nb:Int)-m))).drewN n1) (I0 nb src.length) ((src.take nb).drop m):=fun n1=>by
   refine⟨src.drop m,nb-m,hR.frame hi1 fun k hk=>?_,?_,hSR,?_,?_,by omega,by rw[List.drop_drop,show m+(nb-m)=nb by omega];exact HTL.out⟩
   ·show ((w1.setCell _ _).heap[k]?:Option Obj)=_;rw[Below.heap_setCell _ _ _ _ (fun h=>hSR (by have:k=R:=h;exact this▸hk))]
   ·(rw[show ((nb-m:Nat):Int)=(nb:Int)-(m:Int) by omega]);exact heap_drewN (heap_set hr1 1 _) n1
   ·rw[List.drop_take]
   ·rw[List.length_drop];unfold I0;congr 1;simp;omega
  rcases hcase with ⟨rfl,h1⟩|⟨rfl,h2⟩
  ·by_cases hz:m=nb
   ·(have hz1:((nb:Int)-(m:Int)==0)=true:=by rw[beq_iff_eq];omega);have Hz:=hid hz;clear hz;(go_wp2_with fail);(go_quiet (fail));(go_wp2_with fail);(go_ret2);exact⟨m,By (E 0),rfl,by omega,by rw[List.length_take];omega, .inr ⟨by rw[Ey (by have:=Hz.out;omega)],by rw[List.length_take];have:=Hz.out;omega⟩,hkp _,hbb _,hinv _⟩
   ·(have hz1:((nb:Int)-(m:Int)==0)=false:=by rw[beq_eq_false_iff_ne];omega);(go_wp2_with fail);(go_ret2);exact⟨m, .nilIface,rfl,by omega,by rw[List.length_take];omega, .inl ⟨rfl,h1⟩,hkp 0,hbb 0,hinv 0⟩
  ·have H2:=hid h2;clear h2;by_cases hz:m=nb
   ·(have hz1:¬0<(nb:Int)-(m:Int):=by omega);have Hz:=hid hz;clear hz;(go_wp2_with fail);(go_ret2);exact⟨m,By (E 0),rfl,by omega,by rw[List.length_take];omega, .inr ⟨by rw[Ey (by have:=H2.out;have:=Hz.out;omega)],by rw[List.length_take];have:=Hz.out;have:=H2.out;omega⟩,hkp 0,hbb 0,hinv 0⟩
   ·(have hz1:0<(nb:Int)-(m:Int):=by omega);(go_wp2_with fail);(go_quiet (fail));(go_wp2_with fail);(go_ret2);exact⟨m,By (E 5),rfl,by omega,by rw[List.length_take];omega, .inr ⟨by rw[Ho (by have:=H2.out;omega)],by rw[List.length_take];have:=H2.out;omega⟩,hkp _,hbb _,hinv _⟩
theorem Ir (tl:List UInt8){E:Nat→Addr}{B:Nat}{T:TypeId}{v:Value}{S:Nat→Prop}{inv:World→Nat→List UInt8→Prop}(hR:IsRd E B T v S inv)(R:Nat)(hBR:B≤R) :
  IsRd E B 150 (.pointer (some ⟨R,0,none⟩)) (fun k=>S k∨k=R) (Lz R T v S inv tl) where
 low:=by rintro k (h|rfl);exact hR.low _ h;exact hBR
 foot:=by
  rintro w g rest ⟨src,nb,hi,hr,hS,rfl,rfl,hm,hx⟩;refine⟨by unfold I0;split<;>simp,?_⟩
  rintro k (h|rfl)
  ·exact(hR.foot hi).2 k h
  ·exact Bv hr
 frame:=by
  rintro w w' g rest ⟨src,nb,hi,hr,h⟩ hk;exact⟨src,nb,hR.frame hi fun k h=>hk k (.inl h),(hk R (.inr rfl)).trans hr,h⟩
 reads:=by
  refine⟨380, .pointer (some ⟨R,0,none⟩),fun _=>by kernel_rfl,fun _=>by kernel_rfl,fun _ _=>by kernel_rfl,?_⟩
  rintro w g rest b off n c cur t hG ⟨src,nb,hi,hr,hS,rfl,rfl,hm,hx⟩ hn hnm hb hfit hnc hbS hbB;by_cases h0:nb=0
  ·subst h0;refine(Rc w R n c ⟨b,off,none⟩ _ 152 (E 0) hr hG.eof).mono ?_;rintro e w' ⟨rfl,k,rfl⟩;refine⟨0,By (E 0),rfl,by omega,by omega, .inr ⟨rfl,rfl⟩,(Kp.refl _ _).drewN k,by simpa[splice,ubs] using heap_drewN hb k,src,0,hR.frame hi fun _ _=>rfl,heap_drewN hr k,hS,rfl,rfl,hm,hx⟩
  ·exact Ou hR w R b off n c nb t cur src hG hi hr (by omega) hm hx hS hBR hn hnm hb hfit hnc (fun h=>hbS (.inl h)) hbB (fun h=>hbS (.inr h.symm))
theorem Kp.bytes (w:World)(s:ByteArray):Kp (fun _=>False) w (Lib.bytesWorld w 5 s):=
 ⟨rfl,rfl,rfl,by rw[Lib.bytesWorld_size];omega,fun k hk _=>Lib.bytesWorld_at_old w 5 s k hk⟩
def Cj (l:List UInt8):Nat:=l.foldl (fun n c=>n*8+(c.toNat-48)) 0
theorem La (l:List UInt8)(c:UInt8):Cj (l++[c])=Cj l*8+(c.toNat-48):=by simp[Cj]
theorem Xm (m:List UInt8):∀n:Nat,n≤m.foldl (fun n c=>n*8+(c.toNat-48)) n:=by
 induction m with
 |nil=>intro n;exact Nat.le_refl _
 |cons c m ih=>intro n;exact Nat.le_trans (show n≤n*8+(c.toNat-48) by omega) (ih _)
theorem Qf (l m:List UInt8):Cj l≤Cj (l++m):=by
 unfold Cj;rw[List.foldl_append];exact Xm m _
set_option maxHeartbeats 800000 in
theorem Xn (w:World)(s:ByteArray)(l:List UInt8)(hl:s.data.toList=l)(hs:1≤s.size)(hsz:s.size≤1000)(hd:∀c∈l,48≤c.toNat∧c.toNat≤55)(hv:Cj l<9223372036854775808) :
  Calls Tryz.prog 297 #[.string s, .int .i64 8, .int .i64 64] w fun e w'=>e=.returned (.tuple #[.int .u64 (Cj l), .nilIface])∧Kp (fun _=>False) w w':=by
 have hlen:l.length=s.size:=by rw[←hl];simp
 have hne:s.toList.isEmpty=false:=by
  rw[←decide_eq_emptyBytes];exact decide_eq_false (fun h=>by rw[h] at hs;simp at hs)
 have hcv:=Lib.run_convert_string_bytes (P:=Tryz.prog) w 9 27 5 s (u:=.string) Tryz.underlying9 Tryz.underlying27 Tryz.underlying5;have hB:∀j,j<s.size→(Lib.bytesWorld w 5 s).cell? ⟨w.heap.size,j,none⟩=some (.int .u8 (l.getD j 0).toNat):=fun j hj=>by rw[←hl];exact Lib.bytesWorld_cell w 5 s j hj
 have hK:=Kp.bytes w s;obtain⟨W1,hW1⟩:∃W1,W1=Lib.bytesWorld w 5 s:=⟨_,rfl⟩;rw[←hW1] at hcv hB hK;clear hW1;have Hd:=hid hd;have Hv:=hid hv;have Hl:=hid hl;have HL:=hid hlen;clear hd hv hl hlen;have hmv:IntKind.u64.wrap (IntKind.u64.wrap 18446744073709551616-1)=18446744073709551615:=by
  rw[IntKind.wrap_u64,IntKind.wrap_u64];decide
 go_enter Tryz.func297,Tryz.ntmps297
 go_wp2
 go_loop [12,13,101] (fun vu vn vi=>∃(k:Nat) (a:Int),vu=.bool false∧vn=.int .u64 a∧vi=.int .i64 k∧k≤s.size∧Hid (a=(Cj (l.take k):Nat))) (fun _ _ vi=>s.size-(intOf vi).toNat)
 case atStart=>exact⟨0,0,rfl,rfl,rfl,by omega,rfl⟩
 case round=>
  obtain⟨k,a,rfl,rfl,rfl,hk,ha⟩:=hrel;have hle:Cj (l.take k)≤Cj l:=by
   have:=Qf (l.take k) (l.drop k);rwa[List.take_append_drop] at this
  have a0:0≤a:=by have:=ha.out;omega
  have a1:a<9223372036854775808:=by have:=ha.out;have:=Hv.out;omega
  by_cases hkn:k<s.size
  ·have hc:=hB k hkn;(have hkl:k<l.length:=by have:=HL.out;omega);(have hget:l.getD k 0=l[k]:=by simp[List.getD,List.getElem?_eq_getElem hkl]);(have htk:l.take (k+1)=l.take k++[l[k]]:=by rw[List.take_succ_eq_append_getElem hkl]);have hdig:=Hd.out l[k] (List.getElem_mem hkl);have hnext:Cj (l.take (k+1))≤Cj l:=by
    have:=Qf (l.take (k+1)) (l.drop (k+1));rwa[List.take_append_drop] at this
   rw[htk,La] at hnext;(have HN:Hid (Cj (l.take (k+1))=Cj (l.take k)*8+(l[k].toNat-48)):=by rw[htk];exact La _ _);rw[hget] at hc;clear hB hget htk;generalize l[k]=c at hc hdig hnext HN;obtain⟨hd0,hd1⟩:=hdig;(have a2:a<2305843009213693952:=by have:=ha.out;have:=Hv.out;omega);(have a3:a*8+((c.toNat:Int)-48)<9223372036854775808:=by have:=ha.out;have:=Hv.out;omega);have HX:Hid (a*8+((c.toNat:Int)-48)=(Cj (l.take (k+1)):Nat)):=by
    show a*8+((c.toNat:Int)-48)=_;rw[HN.out,ha.out];omega
   clear hle hnext HN;(have hc0:0≤(c.toNat:Int)-48:=by omega);(have hc1:(c.toNat:Int)-48≤7:=by omega);(go_wp2);go_round
   case rel=>exact⟨k+1,_,rfl,rfl,by go_num,by omega,HX⟩
   case measure=>simp[intOf];omega
  ·(have hz:k=s.size:=by omega);have HZ:Hid (a=(Cj l:Nat)):=by
    have h1:=ha.out;rw[hz,←HL.out,List.take_length] at h1;exact h1
   clear hz ha hle;have e:Hid (Ending.returned (.tuple #[.int .u64 a, .nilIface])=Ending.returned (.tuple #[.int .u64 (Cj l:Nat), .nilIface]) ):= congrArg (fun x:Int=>Ending.returned (.tuple #[.int .u64 x, .nilIface])) HZ.out;(go_wp2_with fail);(go_ret2);refine⟨Eq.trans (b:=Ending.returned (.tuple #[.int .u64 a, .nilIface])) ?_ e.out,hK⟩;rfl
end Go.Proofs.YtgfcnjfmmjcodaaGreatDoor
