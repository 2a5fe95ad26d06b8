/- Records of an extended header. -/
import Derived.Maps.Own
import Derived.Maps.Views
import Derived.Maps.StringElems
import Derived.StringKeys
import Derived.Test.YtgfcnjfmmjcodaaGreatDoorP09
import Derived.Test.YtgfcnjfmmjcodaaGreatDoorP10
set_option linter.all false
set_option maxRecDepth 100000
set_option maxHeartbeats 1000000
open Go.Lib (hid)
namespace Go.Proofs.YtgfcnjfmmjcodaaGreatDoor
section
open Go Go.RowKit
theorem Bbv (w:World)(k v:List UInt8)(h0:k≠[])(h1:(61:UInt8)∉k)(h2:NoNul k)(h3:k=Bo∨k=Br∨k=Bj∨k=Bm→NoNul v)(hk:k.length≤1048576)(hv:v.length≤1048576) :
  Calls Tryz.prog 178 #[.string ⟨k.toArray⟩, .string ⟨v.toArray⟩] w fun e w'=>e=.returned (.bool true)∧w'=w:=by
 have HC:=hid (I4 w ⟨k.toArray⟩ 61 k rfl h1 (by show k.length≤_;omega))
 have HK:=hid (Qq w ⟨k.toArray⟩ k rfl h2 (by show k.length≤_;omega))
 have HV:=fun h=>hid (Qq w ⟨v.toArray⟩ v rfl (h3 h) (by show v.length≤_;omega))
 have hE:k.isEmpty=false:=by cases k with
  |nil=>exact absurd rfl h0
  |cons a l=>rfl
 clear h0 h1 h2 h3;cases b1:(k==[112,97,116,104])
 ·cases b2:(k==[108,105,110,107,112,97,116,104])
  ·cases b3:(k==[117,110,97,109,101])
   ·cases b4:(k==[103,110,97,109,101])
    ·clear HV;(go_enter Tryz.func178,Tryz.ntmps178);(go_wp2_with fail);refine HC.out.mono ?_;rintro e w1 ⟨rfl,rfl⟩;(go_wp2_with fail);refine HK.out.mono ?_;rintro e w1 ⟨rfl,rfl⟩;(go_wp2_with fail);(go_ret);exact⟨rfl,rfl⟩
    ·have HV:=HV (.inr (.inr (.inr (eq_of_beq b4))));(go_enter Tryz.func178,Tryz.ntmps178);(go_wp2_with fail);refine HC.out.mono ?_;rintro e w1 ⟨rfl,rfl⟩;(go_wp2_with fail);refine HV.out.mono ?_;rintro e w1 ⟨rfl,rfl⟩;(go_wp2_with fail);(go_ret);exact⟨rfl,rfl⟩
   ·have HV:=HV (.inr (.inr (.inl (eq_of_beq b3))));(go_enter Tryz.func178,Tryz.ntmps178);(go_wp2_with fail);refine HC.out.mono ?_;rintro e w1 ⟨rfl,rfl⟩;(go_wp2_with fail);refine HV.out.mono ?_;rintro e w1 ⟨rfl,rfl⟩;(go_wp2_with fail);(go_ret);exact⟨rfl,rfl⟩
  ·have HV:=HV (.inr (.inl (eq_of_beq b2)));(go_enter Tryz.func178,Tryz.ntmps178);(go_wp2_with fail);refine HC.out.mono ?_;rintro e w1 ⟨rfl,rfl⟩;(go_wp2_with fail);refine HV.out.mono ?_;rintro e w1 ⟨rfl,rfl⟩;(go_wp2_with fail);(go_ret);exact⟨rfl,rfl⟩
 ·have HV:=HV (.inl (eq_of_beq b1));go_enter Tryz.func178,Tryz.ntmps178
  go_wp2_with fail
  refine HC.out.mono ?_;rintro e w1 ⟨rfl,rfl⟩;go_wp2_with fail
  refine HV.out.mono ?_;rintro e w1 ⟨rfl,rfl⟩;go_wp2_with fail
  go_ret
  exact⟨rfl,rfl⟩
theorem Ua {fn:Func}{t u v x:Tmp}(h:fn.results= #[.tmp t, .tmp u, .tmp v, .tmp x])(tmps:Array Value)(P:Program)(w:World) :
  (results fn tmps).run P w=.ok (.tuple #[tmps.getD t undef,tmps.getD u undef,tmps.getD v undef,tmps.getD x undef]) w:=by simp[results,h]
theorem Bfa (c:UInt8)(h:Dr c=false)(n:Nat):c∉Lib.decDigits n:=fun hc=>by rw[Em n c hc] at h;cases h
theorem Bbw (w:World)(k v t rest:List UInt8)(hr:Lt (k,v) t)(h0:k≠[])(h1:(61:UInt8)∉k)(h2:NoNul k)(h3:k=Bo∨k=Br∨k=Bj∨k=Bm→NoNul v)(hv:v≠[])(hl:t.length+rest.length≤1048576) :
  Calls Tryz.prog 215 #[.string ⟨(t++rest).toArray⟩] w fun e w'=>e=.returned (.tuple #[.string ⟨k.toArray⟩, .string ⟨v.toArray⟩, .string ⟨rest.toArray⟩, .nilIface])∧Kp (fun _=>False) w w':=by
 have hlen:=Gn hr;have hdp:=L3 t.length;simp only at hlen;obtain⟨n,hn⟩:∃n,t.length=n:=⟨_,rfl⟩;obtain⟨d,hd⟩:∃d,Lib.decDigits n=d:=⟨_,rfl⟩;have ht:t=d++32::(k++61::(v++[10])):=by rw[←hd,←hn];exact hr
 rw[hn,hd] at hlen;rw[hn,hd] at hdp;have hkp:1≤k.length:=by cases k with
  |nil=>exact absurd rfl h0
  |cons a l=>simp
 have hvp:1≤v.length:=by cases v with
  |nil=>exact absurd rfl hv
  |cons a l=>simp
 have hC:=Kz w ⟨(t++rest).toArray⟩ 32 d (k++61::(v++[10])++rest) (by show t++rest=_;rw[ht];simp) (by rw[←hd];exact Bfa 32 rfl n) (by show (t++rest).length≤_;rw[List.length_append];omega)
 have hP:=fun w=>Xw w ⟨d.toArray⟩ n (by show d.length≤_;omega) (by show Lib.parseIntB 64 d=_;rw[←hd];exact Gm n (by omega))
 have hK:=fun w=>Kz w ⟨(k++61::v).toArray⟩ 61 k v rfl h1 (by show (k++61::v).length≤_;simp;omega)
 have hV:=fun w=>Bbv w k v h0 h1 h2 h3 (by omega) (by omega)
 obtain⟨m,hm⟩:∃m,(k++61::(v++[10])++rest)=m:=⟨_,rfl⟩;rw[hm] at hC;have hml:m.length=k.length+v.length+2+rest.length:=by rw[←hm];simp;omega
 have hmn:n=d.length+1+(k.length+v.length+2):=by omega
 have HC:=hid hC;have HP:=fun w=>hid (hP w);have HK:=fun w=>hid (hK w);have HV:=fun w=>hid (hV w);have HM:=hid hm;have hnl:n≤(t++rest).length:=by rw[List.length_append];omega
 obtain⟨q,hq⟩:∃q,t++rest=q:=⟨_,rfl⟩;rw[hq] at HC hnl;rw[hq];have hql:q.length≤1048576:=by rw[←hq,List.length_append];exact hl
 have b0:(0:Int)≤(n:Int)-(d.length+1):=by omega
 have b1:(0:Int)≤(n:Int)-(d.length+1)-1:=by omega
 have b5:(0:Int)<(n:Int)-(d.length+1):=by omega
 have HN:=hid hmn;have HML:=hid hml;have b6:(n:Int)-(d.length+1)-1≤(n:Int)-(d.length+1):=by omega
 have b7:(n:Int)-(d.length+1)-1≤(m.length:Int):=by omega
 have b2:(n:Int)-(d.length+1)≤(m.length:Int):=by omega
 have b3:(5:Int)≤n:=by omega
 have b4:n≤1048576:=by omega
 have hM2:n-(d.length+1)=(k++61::(v++[10])).length:=by simp;omega
 have hM1:n-(d.length+1)-1=(k++61::v).length:=by simp;omega
 have hE0:(⟨m.toArray⟩:ByteArray).extract 0 (n-(d.length+1)-1)=⟨(k++61::v).toArray⟩:=by
  rw[hM1];exact Vg _ _ ([10]++rest) (by show m=_;rw[←hm];simp)
 have hE2:(⟨m.toArray⟩:ByteArray).extract (n-(d.length+1)) m.length=⟨rest.toArray⟩:=by
  rw[hM2];exact Vh ⟨m.toArray⟩ _ rest (by show m=_;rw[←hm])
 have hT:(((⟨m.toArray⟩:ByteArray).extract (n-(d.length+1)-1) (n-(d.length+1))).toList==[10])=true:=by
  rw[ByteArray.toList_eq,Lib.extract_data];show ((m.drop _).take _==[10])=true;rw[show n-(d.length+1)-(n-(d.length+1)-1)=1 by omega,hM1,←hm]
  simp
 have HE0:=hid hE0;have HE2:=hid hE2;clear hC hP hK hV hm hn hd ht hr hq hmn hlen hml hE0 hE2 hM1 hM2;go_enter Tryz.func215,Tryz.ntmps215
 go_wp2_with fail
 refine HC.out.mono ?_;rintro e w1 ⟨rfl,n1,rfl⟩;go_wp2_with fail
 refine(HP _).out.mono ?_;rintro e w2 ⟨rfl,hk2⟩;go_wp2_with fail
 go_quiet (fail)
 go_wp2_with fail
 rw[HE0.out];refine(HK _).out.mono ?_;rintro e w3 ⟨rfl,n3,rfl⟩;go_wp2_with fail
 refine(HV _).out.mono ?_;rintro e w3 ⟨rfl,rfl⟩;go_wp2_with fail
 refine bodyPost_ret (Ua rfl _ _ _) rfl ?_;rw[HE2.out];exact⟨rfl,(((Kp.refl _ _).drewN _).trans hk2).drewN _⟩
end
section
open Go Go.RowKit Go.Maps
theorem Bbx:Keyed Tryz.prog 9:=string_keyed Tryz.underlying9
theorem Bby (l:List UInt8)(h:l.length≤maxLen):keyOf Tryz.prog 9 (.string ⟨l.toArray⟩)=some (.string l):=Go.WideMaps.keyOf_string_mk Tryz.underlying9 h
theorem Bep (l:List UInt8)(h:l.length≤maxLen):plainElem (H:=Unit) Tryz.prog 9 (.string ⟨l.toArray⟩)=some (.lit (.string l),[]):=plainElem_string Tryz.underlying9 h
structure MapH (D:DataW Unit)(M:List UInt8→Option (List UInt8)):Prop where
 isMap:IsMap D
 has:∀k,Maps.has D (.string k)=(M k).isSome
 at_:∀k v,M k=some v→∀z,D.atKey (.string k) z=.lit (.string v)
def MapIs (w:World)(b n:Nat)(M:List UInt8→Option (List UInt8)):Prop:=∃D,w.ownsMap Tryz.prog 9 (plainElem Tryz.prog 9) b n D∧MapH D M
theorem MapH.empty:MapH (.map []) (fun _=>none):=⟨isMap_empty,fun _=>rfl,fun _ _ h=>by cases h⟩
theorem MapH.put {D:DataW Unit}{M:List UInt8→Option (List UInt8)}(h:MapH D M)(k v:List UInt8):MapH (D.put (.string k) (.lit (.string v))) (fun k'=>if k=k' then some v else M k'):=by
 refine⟨h.isMap.put _ _,fun k'=>?_,fun k' v' hv z=>?_⟩
 ·by_cases e:k=k'
  ·subst e;rw[if_pos rfl,has_put_same h.isMap (k:=.string k) trivial];rfl
  ·rw[if_neg e,has_put_other (by intro e';injection e' with e';exact e e'.symm),h.has]
 ·by_cases e:k=k'
  ·subst e;rw[if_pos rfl] at hv;(injection hv with hv);subst hv;exact atKey_put_same h.isMap (k:=.string k) trivial _ _
  ·rw[if_neg e] at hv;(rw[atKey_put_other (by intro e';injection e' with e';exact e e'.symm)]);exact h.at_ _ _ hv z
theorem MapIs.keep {w w':World}{b n:Nat}{M:List UInt8→Option (List UInt8)}{S:Nat→Prop}(h:MapIs w b n M)(k:Kp S w w')(hs:¬S b):MapIs w' b n M:=by
 obtain⟨D,⟨es,clock,hb,r⟩,hD⟩:=h;exact⟨D,⟨es,clock,k.heap hb hs,r⟩,hD⟩
theorem MapIs.made (w:World):MapIs (w.alloc (.map #[] 0)) w.heap.size 0 (fun _=>none):=⟨_,World.ownsMap_made _ _ _ _,MapH.empty⟩
theorem Bhq (l:List Rec)(r:Rec)(k:List UInt8):Bf (l++[r]) k=if r.1=k then some r.2 else Bf l k:=by
 induction l with
 |nil=>simp[Bf]
 |cons x l ih=>
  rw[List.cons_append,Bf,ih,Bf];by_cases e:r.1=k
  ·simp[e]
  ·simp[e]
theorem Z6 {w:World}{ops:Array Oper}{rest:List Oper}{o:Oper}{a:Act}{Q:Exit→Act→World→Prop}(hg:o.guard=none)(m x v:Operand)
  (hop:o.op=Op.mapUpdate 164 m x v) (b n:Nat) (M:List UInt8→Option (List UInt8)) (hm:a.eval m=.map (some b)) (h:MapIs w b n M) (hn:n≤281474976710656) (k u:List UInt8)
  (hx:a.eval x=.string ⟨k.toArray⟩) (hv:a.eval v=.string ⟨u.toArray⟩) (hk:k.length≤281474976710656) (hu:u.length≤281474976710656)
  (hK:∀w',MapIs w' b (n+1) (fun k'=>if k=k' then some u else M k')→Kp (· =b) w w'→wpList Tryz.prog ops Q rest (a.put o.dst undef) w'):wpList Tryz.prog ops Q (o::rest) a w:=by
 obtain⟨D,hown,hD⟩:=h;refine wpList_mapUpdate_own w hg m x v 164 hop 9 9 Bbx Tryz.underlying164 _ b n D hm hown (by unfold maxLen;omega) _ _ (.string k) hx hv (Bby k (by unfold maxLen;omega)) _ [] (Bep u (by unfold maxLen;omega)) ?_
 intro w' h1 h2;refine hK w' ⟨_,h1,hD.put k u⟩ ?_;exact(Kp.of_grownBy h2).mono (by intro i _ hi;injection hi)
end
section
open Go Go.RowKit
theorem OwnB.bytes {w:World}{base:Nat}{v:Value}{l:List UInt8}(h:OwnB w base v l):(v=.slice none 0 0∧l=[])∨∃g c,v=.slice (some ⟨g,0,none⟩) l.length c∧base≤g∧g<w.heap.size∧l.length≤c∧c≤maxLen∧BytesAt w g 0 l:=by
 have hc:=fun g hg=>World.ownsRow.cells h (g:=g) hg;rcases h.2 with ⟨rfl,h0⟩|⟨g,cap,cur,rfl,hg,hh,h3,h4,h5⟩
 ·exact .inl ⟨rfl,List.eq_nil_of_length_eq_zero h0⟩
 ·refine .inr ⟨g,cap,rfl,hg,Bv hh,h3,h4,fun j u hu=>?_⟩;have:=hc g rfl j u hu;rwa[add_plain'] at this
theorem Bbz {w:World}{base:Nat}{v:Value}{l:List UInt8}(h:OwnB w base v l):(convert 27 9 v).run Tryz.prog w=.ok (.string ⟨l.toArray⟩) w:=by
 rcases h.bytes with ⟨rfl,rfl⟩|⟨g,c,rfl,_,_,_,_,hb⟩
 ·kernel_rfl
 ·exact C4 hb c
def Bfb (v:Value):Nat:=match v with| .string s=>s.size|_=>0
def Beq (S:Nat→Prop)(inv:World→Nat→List UInt8→Prop)(w:World)(b:Nat)(rs:List Rec)(s:Value)(wr:World):Prop:=
 ∃(r1 r2:List Rec) (t:List UInt8),s=.string ⟨t.toArray⟩∧RecsT r2 t∧rs=r1++r2∧t.length≤1048576∧MapIs wr b r1.length (Bf r1)∧Kp S w wr∧inv wr 0 []∧r1.length+t.length≤1048576
def Bfz (S:Nat→Prop)(inv:World→Nat→List UInt8→Prop)(w:World)(rs:List Rec)(e:Ending)(w':World):Prop:=
 ∃b n,e=.returned (.tuple #[.map (some b), .nilIface])∧w.heap.size≤b∧n≤1048576∧MapIs w' b n (Bf rs)∧Kp S w w'∧inv w' 0 []
theorem Vi {k:List UInt8}(h:¬Ct <+: k):(k==[71,78,85,46,115,112,97,114,115,101,46,111,102,102,115,101,116])=false:=by
 rw[beq_eq_false_iff_ne];rintro rfl;exact h (by decide)
theorem Vj {k:List UInt8}(h:¬Ct <+: k):(k==[71,78,85,46,115,112,97,114,115,101,46,110,117,109,98,121,116,101,115])=false:=by
 rw[beq_eq_false_iff_ne];rintro rfl;exact h (by decide)
theorem J4 {E:Nat→Addr}{B:Nat}{T:TypeId}{v:Value}{S:Nat→Prop}{inv:World→Nat→List UInt8→Prop}(hR:IsRd E B T v S inv)
  (w:World) (rs:List Rec) (t:List UInt8) (hG:Glob E B w) (hi:inv w 0 t) (hlen:t.length≤1048576) (hrs:RecsT rs t)
  (hk:∀r∈rs,(61:UInt8)∉r.1∧r.1≠[]∧NoNul r.1∧(r.1=Bo∨r.1=Br∨r.1=Bj∨r.1=Bm→NoNul r.2)∧¬Ct <+: r.1∧r.2≠[]) :
  Calls Tryz.prog 130 #[.iface T v] w (Bfz S inv w rs):=by
 have HC:=hid (Cw hR w 0 t hG hi hlen);have hS:∀k,S k→k<w.heap.size:=(hR.foot hi).2;have HI:=hid hi;have HK:=hid hk;have HR:=hid hrs;clear hi hk hrs;go_enter Tryz.func130,Tryz.ntmps130
 go_wp2_with fail
 refine HC.out.mono ?_;rintro e w1 ⟨all,rfl,hown,hk1,hi1⟩;have hcv:=Bbz hown;rw[if_pos rfl];have hmm:=@run_makeMap Tryz.prog;have hsz1:w.heap.size≤w1.heap.size:=hk1.size;have hin1:inv (w1.alloc (.map #[] 0)) 0 []:=hR.frame hi1 fun k hk=>Below.heap_alloc _ _ _ (by have:=hS k hk;omega)
 have hmade:MapIs (w1.alloc (.map #[] 0)) w1.heap.size 0 (Bf []):=MapIs.made w1;have hkp:Kp S w (w1.alloc (.map #[] 0)):=hk1.alloc _;have HS0:Hid (Beq S inv w w1.heap.size rs (.string ⟨t.toArray⟩) (w1.alloc (.map #[] 0))):=⟨[],rs,t,rfl,HR.out,rfl,hlen,hmade,hkp,hin1,by simp;omega⟩
 have hb0:=hown.bytes;clear hin1 hmade hkp hown;rcases hb0 with ⟨rfl,rfl⟩|⟨g,c,rfl,hg1,hg2,hg3,hg4,hb⟩
 all_goals
  go_wp2_with fail
  go_loopw [6,7] (fun s m wr=>m=.slice none 0 0∧Beq S inv w w1.heap.size rs s wr) (fun s _ _=>Bfb s)
  case atStart=>exact⟨rfl,HS0.out⟩
  case round=>
   clear HS0;obtain⟨rfl,r1,r2,t',rfl,hrt,hrs,htl,hmap,hkp,hir,hcnt⟩:=hrel;cases hrt with
   |nil=>
    rw[List.append_nil] at hrs;have HRS:=hid hrs;clear hrs;(go_wp2_with fail);(go_ret2);rw[HRS.out];exact⟨_,_,rfl,hsz1,by simp at hcnt;exact hcnt,hmap,hkp,hir⟩
   |cons h hs=>
    rename_i r rs' t1 ts;(have hkr:=HK.out r (by rw[hrs];simp));have hlt:=Gn h;(have hl1:t1.length+ts.length≤1048576:=by rw[List.length_append] at htl;exact htl);have HP:=fun W=>hid (Bbw W r.1 r.2 t1 ts h hkr.2.1 hkr.1 hkr.2.2.1 hkr.2.2.2.1 hkr.2.2.2.2.2 hl1);have hs1:=Vi hkr.2.2.2.2.1;have hs2:=Vj hkr.2.2.2.2.1;(have hpos:0<(t1++ts).length:=by rw[List.length_append];omega);(have hrl:r.1.length≤1048576∧r.2.length≤1048576:=by omega);(have hdec:ts.length<(t1++ts).length:=by rw[List.length_append];omega);have HRS:=hid hrs;(have hcnt':r1.length+1+ts.length≤1048576:=by rw[List.length_append] at hcnt;omega);obtain⟨k,u⟩:=r;simp only at HP hs1 hs2 hrl;obtain⟨tt,htt⟩:∃x,t1++ts=x:=⟨_,rfl⟩;rw[htt] at HP hpos hdec ⊢;clear htt hlt hkr hcnt htl h hrs;(go_wp2_with fail);refine(HP _).out.mono ?_;rintro e w2 ⟨rfl,hk2⟩;have hmap2:=hmap.keep hk2 (fun h=>h);have hin2:inv w2 0 []:=hR.frame hir fun k hk=>hk2.block k ((hR.foot hir).2 k hk) (fun h=>h);have hkp2:=hkp.then hk2 (fun _ _ h=>h.elim);clear hmap hir hkp;(go_wp2_with (at_mapUpdate;refine Z6 rfl _ _ _ rfl _ _ _ rfl hmap2 (by omega) k u rfl rfl (by omega) (by omega) ?_;intro w3 hmap3 hk3;go_frame));go_roundw
    case rel=>
     refine⟨rfl,r1++[(k,u)],rs',ts,rfl,hs,by rw[HRS.out];simp,by omega,?_,hkp2.then hk3 (fun i hi h=>?_),hR.frame hin2 fun i hi=>hk3.block i ((hR.foot hin2).2 i hi) (fun h=>?_),by rw[List.length_append];exact hcnt'⟩
     ·(rw[List.length_append,show Bf (r1++[(k,u)])=fun k'=>if k=k' then some u else Bf r1 k' from funext fun k'=>Bhq r1 (k,u) k']);exact hmap3
     ·subst h;omega
     ·subst h;have:=hS _ hi;omega
    case measure=>exact hdec
theorem J5 {E:Nat→Addr}{B:Nat}{T:TypeId}{v:Value}{S:Nat→Prop}{inv:World→Nat→List UInt8→Prop}(hR:IsRd E B T v S inv)
  (w:World) (t:List UInt8) (hG:Glob E B w) (hi:inv w 5 t) (hlen:t.length≤1048576) :
  Calls Tryz.prog 130 #[.iface T v] w fun e w'=>e=.returned (.tuple #[.map none,By (E 5)])∧Kp S w w'∧inv w' 5 []:=by
 have HC:=hid (Cw hR w 5 t hG hi hlen);clear hi;go_enter Tryz.func130,Tryz.ntmps130
 go_wp2_with fail
 refine HC.out.mono ?_;rintro e w1 ⟨all,rfl,hown,hk1,hi1⟩;rw[if_neg (by decide)]
 clear hown;go_wp2_with fail
 go_ret2
 exact⟨rfl,hk1,hi1⟩
end
section
open Go Go.RowKit
theorem Mx (w:World)(s n:Int)(h0: -100000000000000003≤s)(h1:s≤100000000000000003)(h2:0≤n)(h3:n<1000000000) :
  Calls Tryz.prog 197 #[.int .i64 s, .int .i32 n] w fun e w'=>e=.returned (.agg #[.int .u64 n, .int .i64 (s+62135596800)])∧Kp (fun _=>False) w w':=by
 go_enter Tryz.func197,Tryz.ntmps197
 go_wp2_with fail
 exact bodyPost_ret (results_cell_row rfl _ _ w.heap.size 163 #[.int .u64 n, .int .i64 (s+62135596800)] (0,0) _ rfl (Ba _ _) Tryz.underlying163 rfl (by kernel_rfl)) rfl ⟨rfl,(Kp.refl _ _).alloc _⟩
theorem My (w:World)(s n:Int)(h0: -100000000000000001≤s)(h1:s≤100000000000000001)(h2:0≤n)(h3:n<1000000000) :
  Calls Tryz.prog 115 #[.int .i64 s, .int .i64 n] w fun e w'=>e=.returned (.agg #[.int .u64 n, .int .i64 (s+62135596800)])∧Kp (fun _=>False) w w':=by
 have hd:decide (n<0)=false:=by simp;omega
 have hd2:decide (1000000000≤n)=false:=by simp;omega
 go_enter Tryz.func115,Tryz.ntmps115
 go_wp2_with fail
 refine(Mx _ s n (by omega) (by omega) h2 h3).mono ?_
 rintro e w1 ⟨rfl,hk1⟩;have hr:w1.heap[w.heap.size]?=some (.cells #[.int .u64 0, .int .i64 0] 163 (0,0)):=hk1.heap (Ba _ _) (fun h=>h);have c0:=cell_of hr 0 rfl;have c1:=cell_of hr 1 rfl;have z0:=Bb hr 0;have z1:=Bb hr 1;have HR:=hid hr;clear hr;go_wp2_with fail
 have hn:w.heap.size≤w.heap.size:=Nat.le_refl _;have hk:Kp (fun _=>False) w w1:=((Kp.refl _ _).alloc _).trans hk1;exact bodyPost_ret (results_cell_row rfl _ _ w.heap.size 163 #[.int .u64 n, .int .i64 (s+62135596800)] (0,0) _ rfl (heap_set (heap_set HR.out 0 _) 1 _) Tryz.underlying163 rfl (by kernel_rfl)) rfl ⟨rfl,(hk.setCell (.inr hn) _).setCell (.inr hn) _⟩
theorem Bb0 (w:World)(s n:Int)(h0: -100000000000000001≤s)(h1:s≤100000000000000001)(h2:n<0)(h3: -1000000000<n) :
  Calls Tryz.prog 115 #[.int .i64 s, .int .i64 n] w fun e w'=>e=.returned (.agg #[.int .u64 (n+1000000000), .int .i64 (s-1+62135596800)])∧Kp (fun _=>False) w w':=by
 have hd:decide (n<0)=true:=by simp;omega
 have hq:n.tdiv 1000000000=0:=by rw[show n= -(-n) by omega,Int.neg_tdiv,Int.tdiv_eq_zero_of_lt (by omega) (by omega)];rfl
 have hnn:¬0≤n:=by omega
 go_enter Tryz.func115,Tryz.ntmps115
 go_wp2_with fail
 refine(Mx _ (s-1) (n+1000000000) (by omega) (by omega) (by omega) (by omega)).mono ?_
 rintro e w1 ⟨rfl,hk1⟩;have hr:w1.heap[w.heap.size]?=some (.cells #[.int .u64 0, .int .i64 0] 163 (0,0)):=hk1.heap (Ba _ _) (fun h=>h);have c0:=cell_of hr 0 rfl;have c1:=cell_of hr 1 rfl;have z0:=Bb hr 0;have z1:=Bb hr 1;have HR:=hid hr;clear hr;go_wp2_with fail
 have hn:w.heap.size≤w.heap.size:=Nat.le_refl _;have hk:Kp (fun _=>False) w w1:=((Kp.refl _ _).alloc _).trans hk1;exact bodyPost_ret (results_cell_row rfl _ _ w.heap.size 163 #[.int .u64 (n+1000000000), .int .i64 (s-1+62135596800)] (0,0) _ rfl (heap_set (heap_set HR.out 0 _) 1 _) Tryz.underlying163 rfl (by kernel_rfl)) rfl ⟨rfl,(hk.setCell (.inr hn) _).setCell (.inr hn) _⟩
def Ub (s n:Int):Value:=.agg #[.int .u64 n, .int .i64 (s+62135596800)]
def Y9 (w:World)(s n:Int)(e:Ending)(w':World):Prop:=e=.returned (.tuple #[Ub s n, .nilIface])∧Kp (fun _=>False) w w'
theorem Bb1 {c:UInt8}(h:Dr c=true):48≤c.toNat∧c.toNat≤57:=by simpa[Dr] using h
theorem J6 (l:List UInt8):(nano l).length=9:=by simp[nano]
theorem Uc (l:List UInt8)(c:UInt8)(h:l.length<9):nano (l++[c])=(nano l).set l.length c:=by
 unfold nano;apply List.ext_getElem?;intro j;rw[List.getElem?_set,List.getElem?_take,List.getElem?_take];by_cases hj:j<9
 ·rw[if_pos hj,if_pos hj];by_cases h1:l.length=j
  ·subst h1;(rw[if_pos rfl,if_pos (by simp;omega)]);simp
  ·rw[if_neg h1];by_cases h2:j<l.length
   ·rw[List.getElem?_append_left (by simp;omega),List.getElem?_append_left h2,List.getElem?_append_left h2]
   ·rw[List.getElem?_append_right (by simp;omega),List.getElem?_append_right (by omega),List.getElem?_replicate,List.getElem?_replicate,if_pos (by simp;omega),if_pos (by omega)]
 ·rw[if_neg hj,if_neg hj];split
  ·rename_i e;omega
  ·rfl
theorem Ud (l:List UInt8)(c:UInt8)(h:9≤l.length):nano (l++[c])=nano l:=by
 unfold nano;rw[List.append_assoc,List.take_append_of_le_length h,List.take_append_of_le_length h]
theorem Bb2 (l:List UInt8)(h:∀c∈l,Dr c=true):∀c∈nano l,Dr c=true:=by
 intro c hc;rcases List.mem_append.1 (List.mem_of_mem_take hc) with h1|h1
 ·exact h c h1
 ·rw[(List.mem_replicate.1 h1).2];rfl
end
section
open Go Go.RowKit
theorem B3 {fn:Func}{p u:Tmp}{ty:TypeId}(h:fn.results= #[.cell p ty, .tmp u])(tmps:Array Value)(w:World)(g:Nat)(v:Value)
  (hp:tmps.getD p undef=.pointer (some ⟨g,0,none⟩)) (hl:(loadVar ty ⟨g,0,none⟩).run Tryz.prog w=.ok v w) :
  (results fn tmps).run Tryz.prog w=.ok (.tuple #[v,tmps.getD u undef]) w:=by
 rw[results_cell_tmp h,hp];simp[asAddr,hl,Result.andThen]
theorem Mc {w:World}{g:Nat}{s n:Int}(h:w.heap[g]?=some (.cells #[.int .u64 n, .int .i64 (s+62135596800)] 163 (0,0))):(loadVar 163 ⟨g,0,none⟩).run Tryz.prog w=.ok (Ub s n) w:=
 run_loadVar_row w g 163 163 _ (0,0) _ h Tryz.underlying163 rfl (by kernel_rfl)
theorem Bb3 (w:World)(ss:List UInt8)(secs:Int)(hp:Lib.parseIntB 64 ss=.ok secs)(hno:(46:UInt8)∉ss)(hl:ss.length≤100)(h0: -100000000000000001≤secs)(h1:secs≤100000000000000001) :
  Calls Tryz.prog 219 #[.string ⟨ss.toArray⟩] w (Y9 w secs 0):=by
 have HC:=fun W=>hid (Xx W ⟨ss.toArray⟩ 46 ss rfl hno (by show ss.length≤_;omega))
 have HP:=fun W=>hid (Dm W ⟨ss.toArray⟩ secs (by show ss.length≤_;omega) hp)
 clear hp hno;go_enter Tryz.func219,Tryz.ntmps219
 go_wp2_with fail
 refine(HC _).out.mono ?_;rintro e w1 ⟨rfl,n1,rfl⟩;go_wp2_with fail
 refine(HP _).out.mono ?_;rintro e w2 ⟨rfl,hk2⟩;go_wp2_with fail
 refine(My _ secs 0 h0 h1 (by omega) (by omega)).mono ?_
 rintro e w3 ⟨rfl,hk3⟩;have hr:w3.heap[w.heap.size]?=some (.cells #[.int .u64 0, .int .i64 0] 163 (0,0)):=hk3.heap (hk2.heap (heap_drewN (Ba _ _) _) (fun h=>h)) (fun h=>h);have c0:=cell_of hr 0 rfl;have c1:=cell_of hr 1 rfl;have z0:=Bb hr 0;have z1:=Bb hr 1;have hk:Kp (fun _=>False) w w3:=((((Kp.refl _ _).alloc _).drewN _).trans hk2).trans hk3;have hr2:=heap_set (heap_set hr 0 (.int .u64 0)) 1 (.int .i64 (secs+62135596800));have HR:=hid hr2;clear hr hr2 hk2 hk3;go_wp2_with fail
 have hn:w.heap.size≤w.heap.size:=Nat.le_refl _;exact bodyPost_ret (B3 rfl _ _ w.heap.size (Ub secs 0) rfl (Mc HR.out)) rfl ⟨rfl,(hk.setCell (.inr hn) _).setCell (.inr hn) _⟩
def Ep (l:List UInt8):List Value:=ubs (nano l)
set_option maxHeartbeats 1600000 in
theorem Bdz (w:World)(ss part:List UInt8)(secs:Int)(hp:Lib.parseIntB 64 ss=.ok secs)(hno:(46:UInt8)∉ss)(hl:ss.length≤100)(hpl:part.length≤100)(h0: -100000000000000001≤secs)(h1:secs≤100000000000000001)
  (hne:part≠[]) (hd:∀c∈part,Dr c=true) (c0:UInt8) (hss:∃r,ss=c0::r) (ns:Nat) (hns:Ed (nano part)=ns) (hns1:ns<1000000000)
  (rs rn:Int) (hr:if c0=45∧0<ns then rs=secs-1∧rn=1000000000-ns else rs=secs∧rn=ns) :
  Calls Tryz.prog 219 #[.string ⟨(ss++46::part).toArray⟩] w (Y9 w rs rn):=by
 have HC:=fun W=>hid (Kz W ⟨(ss++46::part).toArray⟩ 46 ss part rfl hno (by show (ss++46::part).length≤_;simp;omega))
 have HP:=fun W=>hid (Dm W ⟨ss.toArray⟩ secs (by show ss.length≤_;omega) hp)
 obtain⟨q,hq⟩:∃q,ss++46::part=q:=⟨_,rfl⟩;rw[hq] at HC ⊢;have hpos:0<part.length:=by cases part with
  |nil=>exact absurd rfl hne
  |cons a l=>simp
 have HD:=hid hd;have HSS:=hid hss;have HNS:=hid hns;have HRR:=hid hr;have hz:((part.length:Int)==0)=false:=by rw[beq_eq_false_iff_ne];omega
 have hsp:0<ss.length:=by obtain⟨r,rfl⟩:=hss;simp
 clear hp hno hq hd hss hns hr hne;go_enter Tryz.func219,Tryz.ntmps219
 go_wp2_with fail
 refine(HC _).out.mono ?_;rintro e w1 ⟨rfl,n1,rfl⟩;go_wp2_with fail
 refine(HP _).out.mono ?_;rintro e w2 ⟨rfl,hk2⟩;have hr2:w2.heap[w.heap.size]?=some (.cells #[.int .u64 0, .int .i64 0] 163 (0,0)):=hk2.heap (heap_drewN (Ba _ _) _) (fun h=>h);have hkw:Kp (fun _=>False) w w2:=(((Kp.refl _ _).alloc _).drewN _).trans hk2;have hsz2:w.heap.size<w2.heap.size:=Bv hr2;have HR2:=hid hr2;clear hr2;go_wp2_with fail
 have hnew:(w2.alloc (.cells #[.int .u8 48, .int .u8 48, .int .u8 48, .int .u8 48, .int .u8 48, .int .u8 48, .int .u8 48, .int .u8 48, .int .u8 48] 349)).heap[w2.heap.size]?=some (.cells (Ep (part.take 0)).toArray 349 (0,0)):=Ba w2 _;have hkn:=hkw.alloc (.cells #[.int .u8 48, .int .u8 48, .int .u8 48, .int .u8 48, .int .u8 48, .int .u8 48, .int .u8 48, .int .u8 48, .int .u8 48] 349);have hrn:=heap_alloc HR2.out (.cells #[.int .u8 48, .int .u8 48, .int .u8 48, .int .u8 48, .int .u8 48, .int .u8 48, .int .u8 48, .int .u8 48, .int .u8 48] 349);have HS:=hid (And.intro hnew (And.intro hkn hrn));clear hnew hkn hrn;go_loopw [37] (fun i wr=>∃k:Nat,k≤part.length∧i=.int .i64 k∧wr.heap[w2.heap.size]?=some (.cells (Ep (part.take k)).toArray 349 (0,0))∧Kp (fun _=>False) w wr∧wr.heap[w.heap.size]?=some (.cells #[.int .u64 0, .int .i64 0] 163 (0,0))) (fun i _=>part.length-(intOf i).toNat)
 case atStart=>exact⟨0,by omega,rfl,HS.out.1,HS.out.2.1,HS.out.2.2⟩
 case round=>
  obtain⟨k,hk,rfl,hrow,hkp,hres⟩:=hrel;by_cases hlt:k<part.length
  ·have hdk:48≤((⟨part.toArray⟩:ByteArray)[k]'hlt).toNat∧((⟨part.toArray⟩:ByteArray)[k]'hlt).toNat≤57:=Bb1 (HD.out _ (List.getElem_mem hlt));obtain⟨hd1,hd2⟩:=hdk;(have hb1:¬((⟨part.toArray⟩:ByteArray)[k]'hlt).toNat<48:=by omega);(have hb2:¬57<((⟨part.toArray⟩:ByteArray)[k]'hlt).toNat:=by omega);(have hts:part.take (k+1)=part.take k++[part[k]]:=by rw[List.take_succ_eq_append_getElem hlt]);have hl9:=J6 (part.take k);(have htl:(part.take k).length=k:=by rw[List.length_take];omega);by_cases hk9:k<9
   ·(obtain⟨x,cc⟩:∃x,wr.cell? ⟨w2.heap.size,k,none⟩=some (ub x):=⟨(nano (part.take k))[k]'(by omega),cell_of hrow k (by rw[List.getElem?_toArray,Ep,Cy,List.getElem?_eq_getElem (by omega)];rfl)⟩);have zz:=Bb hrow k;have hset:=heap_set hrow k (ub (part[k]));(have hne:w.heap.size≠w2.heap.size:=by omega);have hres':=Ci hres ⟨w2.heap.size,k,none⟩ (ub (part[k])) hne;(have hkp':Kp (fun _=>False) w (wr.setCell ⟨w2.heap.size,k,none⟩ (ub (part[k]))):=hkp.setCell (.inr (by show w.heap.size≤w2.heap.size;omega)) _);have hrow':(wr.setCell ⟨w2.heap.size,k,none⟩ (ub (part[k]))).heap[w2.heap.size]?=some (.cells (Ep (part.take (k+1))).toArray 349 (0,0)):=by
     (rw[hset,hts,Ep,Ep,Uc _ _ (by omega),htl,sA]);simp[ubs,List.map_set]
    have HH:=hid (And.intro hrow' (And.intro hkp' hres'));clear hset hres' hkp' hrow' hts hl9 htl hrow hkp hres;unfold ub at cc;(go_wp2_with fail);go_roundw
    case rel=>exact⟨k+1,by omega,by go_num,HH.out⟩
    case measure=>simp[intOf];omega
   ·have hrow':wr.heap[w2.heap.size]?=some (.cells (Ep (part.take (k+1))).toArray 349 (0,0)):=by
     rw[hrow,hts,Ep,Ep,Ud _ _ (by omega)]
    have HH:=hid (And.intro hrow' (And.intro hkp hres));clear hrow' hts hl9 htl hrow hkp hres;(go_wp2_with fail);go_roundw
    case rel=>exact⟨k+1,by omega,by go_num,HH.out⟩
    case measure=>simp[intOf];omega
  ·(obtain rfl:k=part.length:=by omega);rw[List.take_length] at hrow;(have hB:BytesAt wr w2.heap.size 0 (nano part):=fun j u hu=>by rw[Nat.zero_add];exact cell_of hrow j (by rw[List.getElem?_toArray];exact hu));have hconv:=C4 hB 9;rw[J6] at hconv;have hN:Lib.parseIntB 64 (nano part)=.ok (ns:Int):=by
    rw[←HNS.out];refine Qh _ (by intro e;have:=J6 part;rw[e] at this;simp at this) (Bb2 _ HD.out) (by rw[HNS.out];omega)
   (have HPN:=fun W=>hid (Dm W ⟨(nano part).toArray⟩ ns (by show (nano part).length≤_;rw[J6];omega) hN));have HH:=hid (And.intro hkp hres);clear hB hN hrow hkp hres;(go_wp2_with fail);refine(HPN _).out.mono ?_;rintro e w3 ⟨rfl,hk3⟩;have h00:(⟨ss.toArray⟩:ByteArray)[0]'hsp=c0:=by
    obtain⟨r,hr⟩:=HSS.out;show ss[0]=c0;simp[hr]
   have hkp:=HH.out.1.then hk3 (fun _ _ h=>h.elim);have hres:=hk3.heap HH.out.2 (fun h=>h);have HK:=hid (And.intro hkp hres);clear HH hk3 hkp hres hconv HPN;by_cases hc:c0=45
   ·(have hcb:((((⟨ss.toArray⟩:ByteArray)[0]'hsp).toNat:Int)==45)=true:=by rw[h00,hc];rfl);clear h00;by_cases hn0:0<ns
    ·have hrr:=HRR.out;rw[if_pos ⟨hc,hn0⟩] at hrr;obtain⟨rfl,rfl⟩:=hrr;(have hnn: -(ns:Int)<0:=by omega);(have hnm: -1000000000< -(ns:Int):=by omega);(go_wp2_with fail);(refine(Bb0 _ secs (-(ns:Int)) h0 h1 (by omega) (by omega)).mono ?_);rintro e w4 ⟨rfl,hk4⟩;have hres:=hk4.heap HK.out.2 (fun h=>h);have hk:=HK.out.1.then hk4 (fun _ _ h=>h.elim);have e0:=cell_of hres 0 rfl;have e1:=cell_of hres 1 rfl;have z0:=Bb hres 0;have z1:=Bb hres 1;have HR:=hid (heap_set (heap_set hres 0 (.int .u64 (-(ns:Int)+1000000000))) 1 (.int .i64 ((secs-1)+62135596800)));have HKK:=hid hk;clear hres hk4 hk HK;(go_wp2_with fail);have hn:w.heap.size≤w.heap.size:=Nat.le_refl _;refine bodyPost_ret (B3 rfl _ _ w.heap.size (Ub ((secs-1)) ((-(ns:Int)+1000000000))) rfl (Mc HR.out)) rfl ⟨?_,(HKK.out.setCell (.inr hn) _).setCell (.inr hn) _⟩;(rw[show -(ns:Int)+1000000000=1000000000-ns by omega]);rfl
    ·have hrr:=HRR.out;rw[if_neg (fun h=>hn0 h.2)] at hrr;obtain⟨rfl,rfl⟩:=hrr;(obtain rfl:ns=0:=by omega);(go_wp2_with fail);(refine(My _ rs 0 h0 h1 (by omega) (by omega)).mono ?_);rintro e w4 ⟨rfl,hk4⟩;have hres:=hk4.heap HK.out.2 (fun h=>h);have hk:=HK.out.1.then hk4 (fun _ _ h=>h.elim);have e0:=cell_of hres 0 rfl;have e1:=cell_of hres 1 rfl;have z0:=Bb hres 0;have z1:=Bb hres 1;have HR:=hid (heap_set (heap_set hres 0 (.int .u64 0)) 1 (.int .i64 (rs+62135596800)));have HKK:=hid hk;clear hres hk4 hk HK;(go_wp2_with fail);have hn:w.heap.size≤w.heap.size:=Nat.le_refl _;refine bodyPost_ret (B3 rfl _ _ w.heap.size (Ub (rs) (0)) rfl (Mc HR.out)) rfl ⟨?_,(HKK.out.setCell (.inr hn) _).setCell (.inr hn) _⟩;rfl
   ·have hcb:((((⟨ss.toArray⟩:ByteArray)[0]'hsp).toNat:Int)==45)=false:=by
     rw[h00,beq_eq_false_iff_ne];intro e;exact hc (UInt8.toNat_inj.1 (by show c0.toNat=45;omega))
    clear h00;have hrr:=HRR.out;rw[if_neg (fun h=>hc h.1)] at hrr;obtain⟨rfl,rfl⟩:=hrr;(go_wp2_with fail);(refine(My _ rs ns h0 h1 (by omega) (by omega)).mono ?_);rintro e w4 ⟨rfl,hk4⟩;have hres:=hk4.heap HK.out.2 (fun h=>h);have hk:=HK.out.1.then hk4 (fun _ _ h=>h.elim);have e0:=cell_of hres 0 rfl;have e1:=cell_of hres 1 rfl;have z0:=Bb hres 0;have z1:=Bb hres 1;have HR:=hid (heap_set (heap_set hres 0 (.int .u64 ns)) 1 (.int .i64 (rs+62135596800)));have HKK:=hid hk;clear hres hk4 hk HK;(go_wp2_with fail);have hn:w.heap.size≤w.heap.size:=Nat.le_refl _;refine bodyPost_ret (B3 rfl _ _ w.heap.size (Ub (rs) (ns)) rfl (Mc HR.out)) rfl ⟨?_,(HKK.out.setCell (.inr hn) _).setCell (.inr hn) _⟩;rfl
def ttx (sg:List UInt8)(sec ns z:Nat):List UInt8:=
 sg++Lib.decDigits sec++(if C2 (Ee ns)++List.replicate z 48=[] then [] else 46::(C2 (Ee ns)++List.replicate z 48))
theorem J7 (s n:Int)(z:Nat)(hs:¬s<0):Bg s n z=ttx [] s.toNat n.toNat z:=by
 unfold Bg ttx;simp only[hs,if_false,false_and]
theorem J8 (s n:Int)(z:Nat)(hs:s<0)(hn:0<n):Bg s n z=ttx [45] (-s-1).toNat (1000000000-n).toNat z:=by
 unfold Bg ttx;simp only[hs,hn,if_true,and_self]
theorem I5 (s n:Int)(z:Nat)(hs:s<0)(hn:¬0<n):Bg s n z=ttx [45] (-s).toNat n.toNat z:=by
 unfold Bg ttx;simp only[hs,hn,if_true,if_false,and_false]
theorem Bgn (l:List UInt8)(h:∀c∈l,Dr c=true):(46:UInt8)∉l:=fun hc=>by have:=h _ hc;cases this
theorem K0 (w:World)(v:List UInt8)(s n:Int)(h:Xs v s n):Calls Tryz.prog 219 #[.string ⟨v.toArray⟩] w (Y9 w s n):=by
 obtain⟨⟨z,hz,rfl⟩,h0,h1,h2,h3⟩:=h
 have key:∀(sg:List UInt8) (sec ns:Nat) (secs:Int),(sg=[]∧secs=sec∨sg=[45]∧secs= -(sec:Int))→sec≤100000000000000000→ns<1000000000 →
   (if sg=[45]∧0<ns then s=secs-1∧n=1000000000-ns else s=secs∧n=ns) →
   Calls Tryz.prog 219 #[.string ⟨(ttx sg sec ns z).toArray⟩] w (Y9 w s n):=fun sg sec ns secs hsg hsec hns hr=>by
  unfold ttx;have hpi:Lib.parseIntB 64 (sg++Lib.decDigits sec)=.ok secs:=by
   rcases hsg with ⟨rfl,rfl⟩|⟨rfl,rfl⟩
   ·exact Gm sec (by omega)
   ·(have:=Zv _ (Ms sec) (Em sec) (by rw[E2];omega));rwa[E2] at this
  have hno:(46:UInt8)∉sg++Lib.decDigits sec:=by
   rintro h;rcases List.mem_append.1 h with h|h
   ·rcases hsg with ⟨rfl,_⟩|⟨rfl,_⟩
    ·cases h
    ·simp at h
   ·exact Bgn _ (Em sec) h
  have hsb: -100000000000000001≤secs∧secs≤100000000000000001:=by rcases hsg with ⟨_,rfl⟩|⟨_,rfl⟩<;>omega
  have hdl:(Lib.decDigits sec).length≤20:=by rw[Lib.decDigits_length];exact Jh _ _ (by omega) (by omega)
  have hsl:(sg++Lib.decDigits sec).length≤100:=by
   rw[List.length_append];rcases hsg with ⟨rfl,_⟩|⟨rfl,_⟩<;>simp<;>omega
  have h9:=Jy ns hns;have htl:=Qj (Ee ns);by_cases hp:C2 (Ee ns)++List.replicate z 48=[]
  ·rw[if_pos hp,List.append_nil];have hn0:ns=0:=by
    have ht:C2 (Ee ns)=[]:=(List.append_eq_nil_iff.1 hp).1;have:=Qk (Ee ns) h9 0;rw[ht] at this;rw[←Qi ns hns,←this];decide
   subst hn0;(rw[if_neg (by omega)] at hr);obtain⟨rfl,rfl⟩:=hr;exact Bb3 w _ s hpi hno hsl hsb.1 hsb.2
  ·rw[if_neg hp];obtain⟨c0,r0,hc0⟩:∃c r,sg++Lib.decDigits sec=c::r:=by
    cases e:sg++Lib.decDigits sec with
    |nil=>exact absurd (List.append_eq_nil_iff.1 e).2 (Ms sec)
    |cons c r=>exact⟨c,r,rfl⟩
   refine Bdz w _ _ secs hpi hno hsl (by rw[List.length_append,List.length_replicate];omega) hsb.1 hsb.2 hp ?_ c0 ⟨r0,hc0⟩ ns (by rw[Qk _ h9,Qi ns hns]) hns s n ?_
   ·intro c hc;rcases List.mem_append.1 hc with h|h
    ·exact U6 ns c (Zw _ c h)
    ·rw[(List.mem_replicate.1 h).2];rfl
   ·have:c0=45↔sg=[45]:=by
     rcases hsg with ⟨rfl,_⟩|⟨rfl,_⟩
     ·constructor
      ·intro e;(have hm:(45:UInt8)∈Lib.decDigits sec:=by rw[List.nil_append] at hc0;rw[hc0,e];simp);have:=Em sec _ hm;cases this
      ·intro e;cases e
     ·simp at hc0;simp[hc0.1]
    simp only[this];exact hr
 by_cases hs:s<0
 ·by_cases hn:0<n
  ·rw[J8 s n z hs hn];(refine key [45] (-s-1).toNat (1000000000-n).toNat (s+1) (.inr ⟨rfl,by omega⟩) (by omega) (by omega) ?_);(rw[if_pos ⟨rfl,by omega⟩]);omega
  ·rw[I5 s n z hs hn];(refine key [45] (-s).toNat n.toNat s (.inr ⟨rfl,by omega⟩) (by omega) (by omega) ?_);(rw[if_neg (by omega)]);omega
 ·rw[J7 s n z hs];refine key [] s.toNat n.toNat s (.inl ⟨rfl,by omega⟩) (by omega) (by omega) ?_
  rw[if_neg (by simp)]
  omega
end
end Go.Proofs.YtgfcnjfmmjcodaaGreatDoor
