/- told. -/
import Derived.Test.YtgfcnjfmmjcodaaGreatDoorP19
import Derived.Test.YtgfcnjfmmjcodaaGreatDoorP20
set_option linter.all false
set_option maxRecDepth 100000
set_option maxHeartbeats 1000000
open Go.Lib (hid)
namespace Go.Proofs.YtgfcnjfmmjcodaaGreatDoor
open Go Go.RowKit
theorem Oa (w:World){T ST ty:TypeId}(I:InfoR T ST)(base:Nat)(v:Value)(xs:List Rec)(r:Rec)(hown:OwnR T w base v xs)(hlen:xs.length≤4294967296)(hbase:base≤w.heap.size) :
  ∃v' w',(Builtin.append_ #[ST,ST] ty #[v, .slice (some ⟨w.heap.size,0,none⟩) 1 1]).run Tryz.prog (w.alloc (.cells #[.string ⟨r.1.toArray⟩, .string ⟨r.2.toArray⟩] T))=.ok v' w'∧OwnR T w' base v' (xs++[r])∧Kp (fun k=>some k=v.ownBlock) w w' ∧
   (v'.ownBlock=v.ownBlock∨v'.ownBlock=some (w.heap.size+1)):=by
 obtain⟨i0,hi,hz,hsz,hby⟩:=I.info;have k1:Kp (fun _=>False) w (w.alloc (.cells #[.string ⟨r.1.toArray⟩, .string ⟨r.2.toArray⟩] T)):=(Kp.refl _ _).alloc _;have hs1:(w.alloc (.cells #[.string ⟨r.1.toArray⟩, .string ⟨r.2.toArray⟩] T)).heap.size=w.heap.size+1:=by show (w.heap.push _).size=_;simp
 have hown':OwnR T (w.alloc (.cells #[.string ⟨r.1.toArray⟩, .string ⟨r.2.toArray⟩] T)) base v xs:=hown.keep k1 (fun _ _ h=>h);have h0:(w.alloc (.cells #[.string ⟨r.1.toArray⟩, .string ⟨r.2.toArray⟩] T)).cell? ⟨w.heap.size,0,none⟩=some (B5 r.1):=cell_of (Ba w _) 0 rfl;have h1:(w.alloc (.cells #[.string ⟨r.1.toArray⟩, .string ⟨r.2.toArray⟩] T)).cell? ⟨w.heap.size,1,none⟩=some (B5 r.2):=cell_of (Ba w _) 1 rfl
 obtain⟨v',w',hr,h2,h3,h4,h5⟩:=run_append_own_at (P:=Tryz.prog) (w.alloc (.cells #[.string ⟨r.1.toArray⟩, .string ⟨r.2.toArray⟩] T)) base ST ty T i0 _ 2 32 I.und hi hz hsz hby rfl (by omega) v xs.length (Be xs) hown' ⟨w.heap.size,0,none⟩ 1 1 (Be [r]) rfl
  (fun j u hu=>by
   match j,hu with
   |0,hu=>injection hu with hu;rw[←hu];exact h0
   |1,hu=>injection hu with hu;rw[←hu];exact h1
   |j+2,hu=>cases hu)
  (Er _) (by simp only[maxLen];omega) (by omega) (by rw[hs1];omega)
 rw[hs1] at h5;refine⟨v',w',hr,?_,(k1.mono (fun _ _ h=>h.elim)).trans (Kp.of_grownBy h3),h5⟩;unfold OwnR;rw[C8,List.length_append];exact h2
structure TldG (w0:World)(C m:Nat)(h:Hd)(rv:Value)(l:List Rec)(F:Nat→Prop)(w:World):Prop where
 st:TldSt w0 C m h rv l w
 ne:∀v,w.heap[w0.heap.size+2]?=some (.cells #[v] 43 (0,0))→∀b,F b→v.ownBlock≠some b
 lt:∀b,F b→b<w.heap.size
 low:∀b,F b→w0.heap.size+3≤b
theorem TldG.add {w0 w:World}{C m:Nat}{F:Nat→Prop}{h:Hd}{rv:Value}{l:List Rec}(s:TldG w0 C m h rv l F w)(hC:C<w0.heap.size)(r:Rec)(hl:l.length≤4294967295)(lv:Value)(hlv:w.cell? ⟨w0.heap.size+2,0,none⟩=some lv) :
  ∃A2 q2 w2,(Builtin.append_ #[43,43] 43 #[lv, .slice (some ⟨w.heap.size,0,none⟩) 1 1]).run Tryz.prog (w.alloc (.cells #[.string ⟨r.1.toArray⟩, .string ⟨r.2.toArray⟩] 136))=.ok (.slice A2 (l.length+1) q2) w2 ∧
   w2.cell? ⟨w0.heap.size+2,0,none⟩=some lv∧w2.frozen? ⟨w0.heap.size+2,0,none⟩=false∧TldG w0 C m h rv (l++[r]) F (w2.setCell ⟨w0.heap.size+2,0,none⟩ (.slice A2 (l.length+1) q2)) ∧
   Kp (fun i=>¬F i∧w0.heap.size+2≤i) w (w2.setCell ⟨w0.heap.size+2,0,none⟩ (.slice A2 (l.length+1) q2)):=by
 obtain⟨v,h1,h2⟩:=s.st.lv;have e:v=lv:=by
  have:=cell_of h1 0 (v:=v) rfl;rw[hlv] at this;injection this with this
  exact this.symm
 subst e;have hH:w0.heap.size+3≤w.heap.size:=by have:=Bv h1;omega
 obtain⟨v2,w2,hr,ho,hk,hb⟩:=Oa (ty:=43) w infoS (w0.heap.size+3) v l r h2 (by omega) hH
 obtain⟨A2,q2,rfl⟩:=ho.at_.shape;rw[List.length_append,List.length_singleton] at hr ho hb;have kw:=h2.wide hk;have g1:=kw.heap h1 (by omega)
 have ks:Kp (· =w0.heap.size+2) w2 (w2.setCell ⟨w0.heap.size+2,0,none⟩ (.slice A2 (l.length+1) q2)):=Kp.setCell (S:=(· =w0.heap.size+2)) (p:=⟨w0.heap.size+2,0,none⟩) (Kp.refl _ w2) (.inl rfl) _;have g2:=heap_set g1 0 (.slice A2 (l.length+1) q2);have hne:=s.ne v h1;refine⟨A2,q2,w2,hr,cell_of g1 0 rfl,Bb g1 0,⟨⟨(s.st.cho.keep kw (fun i hi=>by omega) (Nat.le_refl _)).keep ks (fun i hi=>by omega) (Nat.le_refl _),ks.heap (kw.heap s.st.cp (by omega)) (by omega),ks.heap (kw.heap s.st.hdr (by omega)) (by omega),⟨_,by simpa using g2,ho.keep ks (fun b hb e=>by have:=(ho.block hb).1;omega)⟩,(s.st.kp.then kw (fun i hi e=>by omega)).then ks (fun i hi e=>by omega)⟩,?_,?_,s.low⟩,?_⟩
 ·intro u hu bf hbf;have e2:u=.slice A2 (l.length+1) q2:=by
   have:=cell_of hu 0 (v:=u) rfl;have h3:=cell_of g2 0 (v:=.slice A2 (l.length+1) q2) rfl;rw[h3] at this;(injection this with this);exact this.symm
  subst e2;rcases hb with hb|hb
  ·rw[hb];exact hne bf hbf
  ·rw[hb];intro e3;injection e3 with e3;have:=s.lt bf hbf;omega
 ·intro bf hbf;have:=ks.size;have:=kw.size;have:=s.lt bf hbf;omega
 ·refine(hk.mono (S':=fun i=>¬F i∧w0.heap.size+2≤i) fun i _ hi=>⟨?_,?_⟩).then ks (fun i hi e=>⟨fun hf=>by have:=s.low i hf;omega,by omega⟩)
  ·intro hf;exact hne i hf hi.symm
  ·have:=(h2.block hi.symm).1;omega
theorem I9 (w:World){T ST ty:TypeId}(I:InfoR T ST)(base g cap k:Nat)(l:List Rec)(z:Rec)(hown:OwnR T w base (.slice (some ⟨g,0,none⟩) (l.length+1) cap) (l++[z]))(hk:k≤l.length)(c1 c2:Nat) :
  ∃w',(Builtin.copy_ #[ST,ST] ty #[.slice (some ⟨g,(k+1)*2,none⟩) (l.length-k) c1, .slice (some ⟨g,k*2,none⟩) (l.length+1-k) c2]).run Tryz.prog w=.ok (goInt (l.length-k:Nat)) w' ∧
   OwnR T w' base (.slice (some ⟨g,0,none⟩) (l.length+1) cap) ((l++[z]).take (k+1)++l.drop k)∧Kp (fun i=>i=g) w w':=by
 obtain⟨i0,hi,hz,hsz,hby⟩:=I.info;have hbg:=(hown.block rfl).1;obtain⟨hn,cur,h1,h2,h3,h4⟩:=hown.row;have hcs:(Be (l.drop k)).length=(l.length-k)*2:=by rw[B7,List.length_drop]
 have hmin:Nat.min (l.length+1-k) (l.length-k)=l.length-k:=Nat.min_eq_right (by omega)
 have hl:=run_loadCells_list (P:=Tryz.prog) w ⟨g,k*2,none⟩ (Be (l.drop k)) (fun j v hv=>by
  have hj:j<(l.length-k)*2:=by rw[←hcs];exact(List.getElem?_eq_some_iff.1 hv).1
  rw[add_plain'];refine cell_of h1 _ ?_;rw[List.getElem?_toArray,List.getElem?_append_left (by rw[B7,List.length_append,List.length_singleton];omega),C8,List.getElem?_append_left (by rw[B7];omega)]
  rw[←I8,List.getElem?_drop] at hv;exact hv)
 have hst:=run_storeCells_at Tryz.prog g ((k+1)*2) T (Be (l.drop k)) 0 _ w h1 (by rw[hcs];simp only[List.size_toArray];rw[h4];simp only[List.length_append,List.length_singleton] at h2;omega) (Er _)
 have hcell:List.take ((k+1)*2+0) (Be (l++[z])++cur).toArray.toList++Be (l.drop k)++List.drop ((k+1)*2+0+(Be (l.drop k)).length) (Be (l++[z])++cur).toArray.toList=Be ((l++[z]).take (k+1)++l.drop k)++cur:=by
  have hlz:(Be (l++[z])).length=(k+1)*2+(l.length-k)*2:=by rw[B7,List.length_append,List.length_singleton];omega
  rw[Nat.add_zero,hcs,←hlz,C8 ((l++[z]).take (k+1)),←I7 (l++[z]) (k+1)];show List.take ((k+1)*2) (Be (l++[z])++cur)++Be (l.drop k)++List.drop (Be (l++[z])).length (Be (l++[z])++cur)=_;rw[List.drop_left,List.take_append_of_le_length (by rw[hlz];omega)]
 rw[hcell] at hst;refine⟨w.setRow g (Be ((l++[z]).take (k+1)++l.drop k)++cur).toArray,?_,?_,Kp.setRow (S:=(· =g)) (Kp.refl _ _) (.inl rfl) _⟩
 ·have hst':(storeCells ⟨g,(k+1)*2,none⟩ (Be (l.drop k))).run Tryz.prog w=.ok () (w.setRow g (Be ((l++[z]).take (k+1)++l.drop k)++cur).toArray):=hst;simp[Builtin.copy_,run_underlying I.und,Builtin.lenOf,Builtin.firstCells,sizeOf,typeInfo,hi,hsz,hmin,←hcs,hl,hst']
 ·have hlen:((l++[z]).take (k+1)++l.drop k).length=l.length+1:=by rw[List.length_append,List.length_take,List.length_drop,List.length_append,List.length_singleton];omega
  have:=OwnR.of_row (T:=T) (l:=(l++[z]).take (k+1)++l.drop k) (cap:=cap) cur hbg (setRow_heap w g _ (Be ((l++[z]).take (k+1)++l.drop k)++cur).toArray T (0,0) h1) (by rw[hlen];rw[List.length_append,List.length_singleton] at h2;exact h2) h3 (by
   rw[←h4,List.length_append,List.length_append,B7,B7,hlen,List.length_append,List.length_singleton])
  rw[hlen] at this;exact this
theorem Kf (l:List Rec)(z r:Rec)(k:Nat)(hk:k≤l.length):(((l++[z]).take (k+1)++l.drop k).set k r).Perm (r::l):=by
 have hkz:k<(l++[z]).length:=by rw[List.length_append,List.length_singleton];omega
 have e:((l++[z]).take (k+1)++l.drop k).set k r=l.take k++r::l.drop k:=by
  have h2:(l++[z]).take k=l.take k:=List.take_append_of_le_length hk;have h3:(l.take k).length=k:=by rw[List.length_take];omega
  rw[List.take_succ_eq_append_getElem hkz,h2,List.append_assoc,List.set_append_right _ _ (by omega),h3,Nat.sub_self]
  rfl
 rw[e];have:=List.perm_middle (a:=r) (l₁:=l.take k) (l₂:=l.drop k);rw[List.take_append_drop] at this;exact this
def K8 (l:List UInt8)(e:Ending):Prop:=∃n:Nat,e=.returned (.int .i64 (n:Int))∧n≤l.length∧∀j,1≤j→j<n→l[j]?≠some 0
set_option maxHeartbeats 1600000 in
theorem Bal (w:World)(l:List UInt8)(hl:l.length≤281474976710656)(h0:0<l.length):Calls Tryz.prog 229 #[.string ⟨l.toArray⟩] w fun e w'=>Hid (K8 l e)∧w'=w:=by
 obtain⟨c,hc⟩:∃c:Nat,l[0].toNat=c:=⟨_,rfl⟩;have hc':((⟨l.toArray⟩:ByteArray)[0]'h0).toNat=c:=hc;have hb:c<256:=hc▸l[0].toNat_lt;have h00:(0:Int)<(l.length:Int):=by omega
 by_cases h1:c<128
 ·have t1:decide ((c:Int)<128)=true:=decide_eq_true (by omega)
  have FIN:Hid (K8 l (.returned (.int .i64 1))):=⟨1,rfl,h0,fun j a b=>by omega⟩
  go_enter Tryz.func229,Tryz.ntmps229
  go_wp2_with fail
  go_ret
  exact⟨FIN.out,rfl⟩
 ·have t1:decide ((c:Int)<128)=false:=decide_eq_false (by omega)
  have ZERO:Hid (K8 l (.returned (.int .i64 0))):=⟨0,rfl,by omega,fun j a b=>by omega⟩
  obtain⟨a1,x1⟩:∃b,decide ((194:Int)≤(c:Int))=b:=⟨_,rfl⟩;obtain⟨a2,x2⟩:∃b,decide ((c:Int)<224)=b:=⟨_,rfl⟩;obtain⟨a3,x3⟩:∃b,decide ((224:Int)≤(c:Int))=b:=⟨_,rfl⟩;obtain⟨a4,x4⟩:∃b,decide ((c:Int)<240)=b:=⟨_,rfl⟩;obtain⟨a5,x5⟩:∃b,decide ((240:Int)≤(c:Int))=b:=⟨_,rfl⟩;obtain⟨a6,x6⟩:∃b,decide ((c:Int)<245)=b:=⟨_,rfl⟩;by_cases k2:(a1&&a2)=true
  ·rw[Bool.and_eq_true] at k2;obtain⟨rfl,rfl⟩:=k2;by_cases hl2:2≤l.length
   ·(have y1:decide ((l.length:Int)<2)=false:=decide_eq_false (by omega));(go_enter Tryz.func229,Tryz.ntmps229);(go_wp2_with fail);go_loopg [5,7] 1 (fun g s5 s7 wr=>∃(i:Nat) (v:Int),i+g=2∧1≤i∧s7=.int .i64 i∧s5=.int .i64 v∧Hid (∀j,1≤j→j<i→l[j]?≠some 0)∧wr=w)
    case atStart=>exact⟨1,_,by omega,by omega,rfl,rfl,by show ∀j,_;intro j a b;omega,rfl⟩
    case round=>
     obtain⟨i,v,hi,hi1,rfl,rfl,ha,rfl⟩:=hrel;by_cases hlt:i<2
     ·(have hil:i<l.length:=by omega);have hil':i<(⟨l.toArray⟩:ByteArray).size:=hil;obtain⟨β,hβ⟩:∃β,(bits .and .u8 (((⟨l.toArray⟩:ByteArray)[i]'hil').toNat:Int) 192 != 128)=β:=⟨_,rfl⟩;cases β with
      |true=>
       (go_wp2_with fail);(go_ret);exact⟨ZERO.out,rfl⟩
      |false=>
       have NX:Hid (∀j,1≤j→j<i+1→l[j]?≠some 0):=by
        show ∀j,_;intro j a b;rcases Nat.lt_or_ge j i with h|h
        ·exact ha.out j a h
        ·(obtain rfl:j=i:=by omega);intro e;rw[List.getElem?_eq_getElem hil] at e;(injection e with e);have e2:((⟨l.toArray⟩:ByteArray)[j]'hil')=0:=e;rw[e2] at hβ;exact absurd hβ (by decide)
       (skip);(go_wp2_with fail);go_roundg (gk-1)
       case measure=>omega
       case rel=>exact⟨i+1,_,by omega,by omega,by simp,rfl,NX,rfl⟩
     ·(obtain rfl:i=2:=by omega);have FIN:Hid (K8 l (.returned (.int .i64 2))):=⟨2,rfl,hl2,ha.out⟩;obtain⟨b1,z1⟩:∃b,decide (v<128)=b:=⟨_,rfl⟩;obtain⟨b2,z2⟩:∃b,decide ((1114111:Int)<v)=b:=⟨_,rfl⟩;obtain⟨b3,z3⟩:∃b,decide ((55296:Int)≤v)=b:=⟨_,rfl⟩;obtain⟨b4,z4⟩:∃b,decide (v<57344)=b:=⟨_,rfl⟩;clear ha;cases b1<;>cases b2<;>cases b3<;>cases b4<;>(
       (go_wp2_with fail);(go_ret);first|exact⟨FIN.out,rfl⟩|exact⟨ZERO.out,rfl⟩)
   ·(have y1:decide ((l.length:Int)<2)=true:=decide_eq_true (by omega));(go_enter Tryz.func229,Tryz.ntmps229);(go_wp2_with fail);(go_ret);exact⟨ZERO.out,rfl⟩
  ·by_cases k3:(a3&&a4)=true
   ·rw[Bool.and_eq_true] at k3;obtain⟨rfl,rfl⟩:=k3;have hq:a1=true∧a2=false:=by
     rw[decide_eq_true_eq] at x3;refine⟨by rw[←x1,decide_eq_true_eq];omega,by rw[←x2,decide_eq_false_iff_not];omega⟩
    obtain⟨rfl,rfl⟩:=hq;clear k2;by_cases hl2:3≤l.length
    ·(have y1:decide ((l.length:Int)<3)=false:=decide_eq_false (by omega));(go_enter Tryz.func229,Tryz.ntmps229);(go_wp2_with fail);go_loopg [5,7] 2 (fun g s5 s7 wr=>∃(i:Nat) (v:Int),i+g=3∧1≤i∧s7=.int .i64 i∧s5=.int .i64 v∧Hid (∀j,1≤j→j<i→l[j]?≠some 0)∧wr=w)
     case atStart=>exact⟨1,_,by omega,by omega,rfl,rfl,by show ∀j,_;intro j a b;omega,rfl⟩
     case round=>
      obtain⟨i,v,hi,hi1,rfl,rfl,ha,rfl⟩:=hrel;by_cases hlt:i<3
      ·(have hil:i<l.length:=by omega);have hil':i<(⟨l.toArray⟩:ByteArray).size:=hil;obtain⟨β,hβ⟩:∃β,(bits .and .u8 (((⟨l.toArray⟩:ByteArray)[i]'hil').toNat:Int) 192 != 128)=β:=⟨_,rfl⟩;cases β with
       |true=>
        (go_wp2_with fail);(go_ret);exact⟨ZERO.out,rfl⟩
       |false=>
        have NX:Hid (∀j,1≤j→j<i+1→l[j]?≠some 0):=by
         show ∀j,_;intro j a b;rcases Nat.lt_or_ge j i with h|h
         ·exact ha.out j a h
         ·(obtain rfl:j=i:=by omega);intro e;rw[List.getElem?_eq_getElem hil] at e;(injection e with e);have e2:((⟨l.toArray⟩:ByteArray)[j]'hil')=0:=e;rw[e2] at hβ;exact absurd hβ (by decide)
        (skip);(go_wp2_with fail);go_roundg (gk-1)
        case measure=>omega
        case rel=>exact⟨i+1,_,by omega,by omega,by simp,rfl,NX,rfl⟩
      ·(obtain rfl:i=3:=by omega);have FIN:Hid (K8 l (.returned (.int .i64 3))):=⟨3,rfl,hl2,ha.out⟩;obtain⟨b1,z1⟩:∃b,decide (v<2048)=b:=⟨_,rfl⟩;obtain⟨b2,z2⟩:∃b,decide ((1114111:Int)<v)=b:=⟨_,rfl⟩;obtain⟨b3,z3⟩:∃b,decide ((55296:Int)≤v)=b:=⟨_,rfl⟩;obtain⟨b4,z4⟩:∃b,decide (v<57344)=b:=⟨_,rfl⟩;clear ha;cases b1<;>cases b2<;>cases b3<;>cases b4<;>(
        (go_wp2_with fail);(go_ret);first|exact⟨FIN.out,rfl⟩|exact⟨ZERO.out,rfl⟩)
    ·(have y1:decide ((l.length:Int)<3)=true:=decide_eq_true (by omega));(go_enter Tryz.func229,Tryz.ntmps229);(go_wp2_with fail);(go_ret);exact⟨ZERO.out,rfl⟩
   ·by_cases k4:(a5&&a6)=true
    ·rw[Bool.and_eq_true] at k4;obtain⟨rfl,rfl⟩:=k4;have hq:a1=true∧a2=false∧a3=true∧a4=false:=by
      rw[decide_eq_true_eq] at x5;refine⟨by rw[←x1,decide_eq_true_eq];omega,by rw[←x2,decide_eq_false_iff_not];omega,by rw[←x3,decide_eq_true_eq];omega,by rw[←x4,decide_eq_false_iff_not];omega⟩
     obtain⟨rfl,rfl,rfl,rfl⟩:=hq;clear k2 k3;by_cases hl2:4≤l.length
     ·(have y1:decide ((l.length:Int)<4)=false:=decide_eq_false (by omega));(go_enter Tryz.func229,Tryz.ntmps229);(go_wp2_with fail);go_loopg [5,7] 3 (fun g s5 s7 wr=>∃(i:Nat) (v:Int),i+g=4∧1≤i∧s7=.int .i64 i∧s5=.int .i64 v∧Hid (∀j,1≤j→j<i→l[j]?≠some 0)∧wr=w)
      case atStart=>exact⟨1,_,by omega,by omega,rfl,rfl,by show ∀j,_;intro j a b;omega,rfl⟩
      case round=>
       obtain⟨i,v,hi,hi1,rfl,rfl,ha,rfl⟩:=hrel;by_cases hlt:i<4
       ·(have hil:i<l.length:=by omega);have hil':i<(⟨l.toArray⟩:ByteArray).size:=hil;obtain⟨β,hβ⟩:∃β,(bits .and .u8 (((⟨l.toArray⟩:ByteArray)[i]'hil').toNat:Int) 192 != 128)=β:=⟨_,rfl⟩;cases β with
        |true=>
         (go_wp2_with fail);(go_ret);exact⟨ZERO.out,rfl⟩
        |false=>
         have NX:Hid (∀j,1≤j→j<i+1→l[j]?≠some 0):=by
          show ∀j,_;intro j a b;rcases Nat.lt_or_ge j i with h|h
          ·exact ha.out j a h
          ·(obtain rfl:j=i:=by omega);intro e;rw[List.getElem?_eq_getElem hil] at e;(injection e with e);have e2:((⟨l.toArray⟩:ByteArray)[j]'hil')=0:=e;rw[e2] at hβ;exact absurd hβ (by decide)
         (skip);(go_wp2_with fail);go_roundg (gk-1)
         case measure=>omega
         case rel=>exact⟨i+1,_,by omega,by omega,by simp,rfl,NX,rfl⟩
       ·(obtain rfl:i=4:=by omega);have FIN:Hid (K8 l (.returned (.int .i64 4))):=⟨4,rfl,hl2,ha.out⟩;obtain⟨b1,z1⟩:∃b,decide (v<65536)=b:=⟨_,rfl⟩;obtain⟨b2,z2⟩:∃b,decide ((1114111:Int)<v)=b:=⟨_,rfl⟩;obtain⟨b3,z3⟩:∃b,decide ((55296:Int)≤v)=b:=⟨_,rfl⟩;obtain⟨b4,z4⟩:∃b,decide (v<57344)=b:=⟨_,rfl⟩;clear ha;cases b1<;>cases b2<;>cases b3<;>cases b4<;>(
         (go_wp2_with fail);(go_ret);first|exact⟨FIN.out,rfl⟩|exact⟨ZERO.out,rfl⟩)
     ·(have y1:decide ((l.length:Int)<4)=true:=decide_eq_true (by omega));(go_enter Tryz.func229,Tryz.ntmps229);(go_wp2_with fail);(go_ret);exact⟨ZERO.out,rfl⟩
    ·cases a1<;>cases a2<;>cases a3<;>cases a4<;>cases a5<;>cases a6<;>first
      |exact absurd rfl k2
      |exact absurd rfl k3
      |exact absurd rfl k4
      |(exfalso;simp only[decide_eq_true_eq,decide_eq_false_iff_not] at x1 x2 x3 x4 x5 x6;omega)
      |(clear k2 k3 k4
        (go_enter Tryz.func229,Tryz.ntmps229);(go_wp2_with fail);(go_ret);exact⟨ZERO.out,rfl⟩
       )
def X7 (l:List UInt8)(e:Ending):Prop:=∃b,e=.returned (.bool b)∧(b=true→NoNul l)
set_option maxHeartbeats 1600000 in
theorem Bam (w:World)(l:List UInt8)(hl:l.length≤281474976710656):Calls Tryz.prog 137 #[.string ⟨l.toArray⟩] w fun e w'=>Hid (X7 l e)∧w'=w:=by
 have NO:Hid (X7 l (.returned (.bool false))):=⟨false,rfl,fun e=>by cases e⟩
 go_enter Tryz.func137,Tryz.ntmps137
 go_wp2_with fail
 go_loopg [3,4] l.length (fun g s3 s4 wr=>∃(i:Nat),i+g=l.length∧s3=.int .i64 i∧Hid (∀j,j<i→l[j]?≠some 0)∧wr=w)
 case atStart=>exact⟨0,by omega,rfl,by show ∀j,_;intro j a;omega,rfl⟩
 case round=>
  obtain⟨i,hi,rfl,ha,rfl⟩:=hrel;by_cases hlt:i<l.length
  ·have e1:(⟨l.toArray⟩:ByteArray).extract i l.length=⟨(l.drop i).toArray⟩:=by
    rw[ext_list,List.take_of_length_le (by rw[List.length_drop];exact Nat.le_refl _)]
   (have h3:(0:Int)≤(i:Int):=by omega);(have h4:(i:Int)≤(l.length:Int):=by omega);(have HW:=hid (Bal wr (l.drop i) (by rw[List.length_drop];omega) (by rw[List.length_drop];omega)));have hgt:l[i]?=some l[i]:=List.getElem?_eq_getElem hlt;have HGT:=hid hgt;clear hgt;(go_wp2_with fail);refine HW.out.mono ?_;rintro e w1 ⟨hx,rfl⟩;obtain⟨n,rfl,hnl,hnz⟩:=hx.out;rw[List.length_drop] at hnl;have HNZ:=hid hnz;clear hx hnz HW;by_cases hn:n=0
   ·subst hn;(go_wp2_with fail);(go_ret);exact⟨NO.out,rfl⟩
   ·(have t1:((n:Int)==0)=false:=by rw[beq_eq_false_iff_ne];omega);by_cases h2:l[i]=0
    ·(have h2':((((⟨l.toArray⟩:ByteArray)[i]'hlt).toNat:Int)==0)=true:=by show ((l[i].toNat:Int)==0)=true;rw[h2];rfl);clear h2;(go_wp2_with fail);(go_ret);exact⟨NO.out,rfl⟩
    ·have h2':((((⟨l.toArray⟩:ByteArray)[i]'hlt).toNat:Int)==0)=false:=by
      show ((l[i].toNat:Int)==0)=false;rw[beq_eq_false_iff_ne];intro e;exact h2 (UInt8.toNat_inj.mp (by simpa using e))
     have NX:Hid (∀j,j<i+n→l[j]?≠some 0):=by
      show ∀j,_;intro j a;rcases Nat.lt_or_ge j i with h|h
      ·exact ha.out j h
      ·rcases Nat.lt_or_ge i j with h5|h5
       ·(have:=HNZ.out (j-i) (by omega) (by omega));(rw[List.getElem?_drop,show i+(j-i)=j by omega] at this);exact this
       ·(obtain rfl:j=i:=by omega);rw[HGT.out];intro e;(injection e with e);exact h2 e
     (have hwr:IntKind.i64.wrap ((i:Int)+(n:Int))=(i:Int)+(n:Int):=by rw[IntKind.wrap_i64];omega);clear h2 ha HNZ HGT;(go_wp2_with fail);go_roundg (gk-n)
     case measure=>omega
     case rel=>exact⟨i+n,by omega,by simp,NX,rfl⟩
  ·(obtain rfl:i=l.length:=by omega);have YES:Hid (X7 l (.returned (.bool true))):=⟨true,rfl,fun _ c hc e=>by
    obtain⟨j,hj,e2⟩:=List.getElem_of_mem hc;subst e2;exact ha.out j hj (by rw[List.getElem?_eq_getElem hj,e])⟩
   clear ha;(go_wp2_with fail);(go_ret);exact⟨YES.out,rfl⟩
theorem Ob (w:World)(l:List UInt8)(hl:l.length≤281474976710656):Calls Tryz.prog 137 #[.string ⟨l.toArray⟩] w fun e w'=>(∃b,e=.returned (.bool b)∧(b=true→NoNul l))∧w'=w:=
 (Bam w l hl).mono fun e w' h=>⟨h.1.out,h.2⟩
def V3 (v:Int):Prop:=v=0∨v=1∨v=2
theorem Ch (b:Bool):V3 (if b then 1 else 2):=by cases b<;>simp[V3]
set_option maxHeartbeats 1600000 in
theorem Cu (w:World)(b:Nat)(vs:List Int)(hv:∀v∈vs,V3 v)(hb:w.heap[b]?=some (.cells (vs.map (Value.int .i64)).toArray 3 (0,0)))(hl:vs.length≤1000) :
  Calls Tryz.prog 87 #[.slice (some ⟨b,0,none⟩) vs.length vs.length] w fun e w'=>(∃x,e=.returned (.int .i64 x)∧V3 x∧(x=1→∀v∈vs,v=1))∧w'=w:=by
 have HB:=hid hb;have HV:=hid hv;clear hb hv;go_enter Tryz.func87,Tryz.ntmps87
 go_wp2_with fail
 go_loopg [3,5,8] vs.length (fun g s3 s5 s8 wr=>∃(i:Nat) (x:Int),i+g=vs.length∧s8=.int .i64 i∧s3=.int .i64 x∧Hid (V3 x∧(x=1→∀v∈vs.take i,v=1))∧wr=w)
 case atStart=>exact⟨0,1,by omega,rfl,rfl,⟨.inr (.inl rfl),fun _ v hv=>by rw[sE] at hv;cases hv⟩,rfl⟩
 case round=>
  obtain⟨i,x,hi,rfl,rfl,ha,rfl⟩:=hrel;by_cases hlt:i<vs.length
  ·obtain⟨v,hv⟩:∃v,vs[i]=v:=⟨_,rfl⟩;have hc:wr.cell? ⟨b,i,none⟩=some (.int .i64 v):=cell_of HB.out i (by
    rw[List.getElem?_toArray,List.getElem?_map,List.getElem?_eq_getElem hlt,hv];rfl)
   have hv3:=HV.out v (hv▸List.getElem_mem hlt);(have htk:vs.take (i+1)=vs.take i++[v]:=by rw[List.take_succ_eq_append_getElem hlt,hv]);have NX:∀y,V3 y→(y=1→x=1∧v=1)→Hid (V3 y∧(y=1→∀v∈vs.take (i+1),v=1)):=fun y h1 h2=>⟨h1,fun hy u hu=>by
    rw[htk,List.mem_append,List.mem_singleton] at hu;rcases hu with hu|rfl
    ·exact ha.out.2 (h2 hy).1 u hu
    ·exact(h2 hy).2⟩
   have NXH:=hid NX;have hx3:=ha.out.1;(have hi1:(0:Int)≤(i:Int):=by omega);(have hi2:(i:Int)<(vs.length:Int):=by omega);clear NX htk hv ha;rcases hv3 with rfl|rfl|rfl
   ·rcases hx3 with rfl|rfl|rfl
    ·(have N:=NXH.out 0 (.inl rfl) (fun h=>absurd h (by decide)));clear NXH;(go_wp2_with fail);go_roundg (gk-1)
     case measure=>omega
     case rel=>exact⟨i+1,0,by omega,by simp,rfl,N,rfl⟩
    ·(have N:=NXH.out 0 (.inl rfl) (fun h=>absurd h (by decide)));clear NXH;(go_wp2_with fail);go_roundg (gk-1)
     case measure=>omega
     case rel=>exact⟨i+1,0,by omega,by simp,rfl,N,rfl⟩
    ·(have N:=NXH.out 2 (.inr (.inr rfl)) (fun h=>absurd h (by decide)));clear NXH;(go_wp2_with fail);go_roundg (gk-1)
     case measure=>omega
     case rel=>exact⟨i+1,2,by omega,by simp,rfl,N,rfl⟩
   ·have N:=NXH.out x hx3 (fun h=>⟨h,rfl⟩);clear NXH hx3;(go_wp2_with fail);go_roundg (gk-1)
    case measure=>omega
    case rel=>exact⟨i+1,x,by omega,by simp,rfl,N,rfl⟩
   ·(have N:=NXH.out 2 (.inr (.inr rfl)) (fun h=>absurd h (by decide)));clear NXH hx3;(go_wp2_with fail);go_roundg (gk-1)
    case measure=>omega
    case rel=>exact⟨i+1,2,by omega,by simp,rfl,N,rfl⟩
  ·(obtain rfl:i=vs.length:=by omega);have FIN:Hid ((∃y,Ending.returned (.int .i64 x)=.returned (.int .i64 y)∧V3 y∧(y=1→∀v∈vs,v=1))∧wr=wr):=by
    have:=ha.out;rw[List.take_length] at this;exact⟨⟨x,rfl,this⟩,rfl⟩
   clear ha;(go_wp2_with fail);(go_ret);exact⟨FIN.out.1,rfl⟩
structure SmallP (n f:Int)(pax:Bool):Prop where
 ge:0≤n
 gnu:f=3→n<72057594037927936
 oct:f≠3→¬(f=2∧pax=true)→n<2097152
def Bw (n f:Int)(pax:Bool):Int:=
 if f=3 then (if n<0 then 0 else if n<72057594037927936 then 1 else if n<144115188075855872 then 0 else 2)
 else if f=2∧pax=true then (if n<0 then 0 else 1)
 else if 0≤n∧n<2097152 then 1 else 2
theorem Gt (n f:Int)(pax:Bool):V3 (Bw n f pax):=by
 unfold Bw V3;split
 ·split
  ·simp
  ·split
   ·simp
   ·split<;>simp
 ·split
  ·split<;>simp
  ·split<;>simp
theorem E8 {n f:Int}{pax:Bool}(h:Bw n f pax=1):SmallP n f pax:=by
 unfold Bw at h;split at h
 ·rename_i hf;split at h
  ·omega
  ·split at h
   ·exact⟨by omega,fun _=>by omega,fun h3=>absurd hf h3⟩
   ·split at h<;>omega
 ·rename_i hf;split at h
  ·rename_i hp;split at h
   ·omega
   ·exact⟨by omega,fun h3=>absurd h3 hf,fun _ h2=>absurd hp h2⟩
  ·rename_i hp;split at h
   ·rename_i hn;exact⟨hn.1,fun h3=>absurd h3 hf,fun _ _=>hn.2⟩
   ·omega
set_option maxHeartbeats 1600000 in
theorem Gu (w:World)(n f:Int)(pax:Bool)(hf:f=1∨f=2∨f=3):Calls Tryz.prog 89 #[.int .i64 n, .int .i64 f, .bool pax] w fun e w'=>e=.returned (.int .i64 (Bw n f pax))∧w'=w:=by
 have oct:∀(g:¬f=3) (g2:¬(f=2∧pax=true)) (b1 b2:Bool),decide (0≤n)=b1→decide (n<2097152)=b2→Hid (Bw n f pax=if b1&&b2 then 1 else 2):=fun g g2 b1 b2 h1 h2=>by
  show _=_;unfold Bw;rw[if_neg g,if_neg g2];subst h1 h2;by_cases h3:0≤n∧n<2097152
  ·rw[if_pos h3,decide_eq_true h3.1,decide_eq_true h3.2];rfl
  ·rw[if_neg h3,if_neg];rw[Bool.and_eq_true,decide_eq_true_eq,decide_eq_true_eq];exact h3
 rcases hf with rfl|rfl|rfl
 ·obtain⟨b1,e1⟩:∃b,decide (0≤n)=b:=⟨_,rfl⟩;obtain⟨b2,e2⟩:∃b,decide (n<2097152)=b:=⟨_,rfl⟩;have FIN:=oct (by decide) (fun h=>absurd h.1 (by decide)) b1 b2 e1 e2
  rw[FIN.out];clear oct FIN;cases b1<;>cases b2<;>(
   (go_enter Tryz.func89,Tryz.ntmps89);(go_wp2_with fail);refine(B0 w _).mono ?_;rintro e w1 ⟨rfl,rfl⟩;(go_wp2_with fail);(go_ret);exact⟨rfl,rfl⟩)
 ·cases pax with
  |true=>
   by_cases hn:n<0
   ·have t1:decide (n<0)=true:=decide_eq_true hn;(have FIN:Hid (Bw n 2 true=0):=by show _=_;unfold Bw;rw[if_neg (by decide),if_pos ⟨rfl,rfl⟩,if_pos hn]);rw[FIN.out];clear oct FIN;(go_enter Tryz.func89,Tryz.ntmps89);(go_wp2_with fail);(go_ret);exact⟨rfl,rfl⟩
   ·have t1:decide (n<0)=false:=decide_eq_false hn;(have FIN:Hid (Bw n 2 true=1):=by show _=_;unfold Bw;rw[if_neg (by decide),if_pos ⟨rfl,rfl⟩,if_neg hn]);rw[FIN.out];clear oct FIN;(go_enter Tryz.func89,Tryz.ntmps89);(go_wp2_with fail);(go_ret);exact⟨rfl,rfl⟩
  |false=>
   obtain⟨b1,e1⟩:∃b,decide (0≤n)=b:=⟨_,rfl⟩;obtain⟨b2,e2⟩:∃b,decide (n<2097152)=b:=⟨_,rfl⟩;(have FIN:=oct (by decide) (fun h=>absurd h.2 (by decide)) b1 b2 e1 e2);rw[FIN.out];clear oct FIN;cases b1<;>cases b2<;>(
    (go_enter Tryz.func89,Tryz.ntmps89);(go_wp2_with fail);refine(B0 w _).mono ?_;rintro e w1 ⟨rfl,rfl⟩;(go_wp2_with fail);(go_ret);exact⟨rfl,rfl⟩)
 ·by_cases hn:n<0
  ·have t1:decide (n<0)=true:=decide_eq_true hn;(have FIN:Hid (Bw n 3 pax=0):=by show _=_;unfold Bw;rw[if_pos rfl,if_pos hn]);rw[FIN.out];clear oct FIN;(go_enter Tryz.func89,Tryz.ntmps89);(go_wp2_with fail);(go_ret);exact⟨rfl,rfl⟩
  ·have t1:decide (n<0)=false:=decide_eq_false hn;by_cases h2:n<72057594037927936
   ·(have t2:decide ((72057594037927936:Int)≤n)=false:=decide_eq_false (by omega));have t3:decide (n<72057594037927936)=true:=decide_eq_true h2;(have FIN:Hid (Bw n 3 pax=1):=by show _=_;unfold Bw;rw[if_pos rfl,if_neg hn,if_pos h2]);rw[FIN.out];clear oct FIN;(go_enter Tryz.func89,Tryz.ntmps89);(go_wp2_with fail);refine(B0 w _).mono ?_;rintro e w1 ⟨rfl,rfl⟩;(go_wp2_with fail);(go_ret);exact⟨rfl,rfl⟩
   ·(have t2:decide ((72057594037927936:Int)≤n)=true:=decide_eq_true (by omega));have t3:decide (n<72057594037927936)=false:=decide_eq_false h2;by_cases h4:n<144115188075855872
    ·have t4:decide (n<144115188075855872)=true:=decide_eq_true h4;(have FIN:Hid (Bw n 3 pax=0):=by show _=_;unfold Bw;rw[if_pos rfl,if_neg hn,if_neg h2,if_pos h4]);rw[FIN.out];clear oct FIN;(go_enter Tryz.func89,Tryz.ntmps89);(go_wp2_with fail);(go_ret);exact⟨rfl,rfl⟩
    ·have t4:decide (n<144115188075855872)=false:=decide_eq_false h4;(have FIN:Hid (Bw n 3 pax=2):=by show _=_;unfold Bw;rw[if_pos rfl,if_neg hn,if_neg h2,if_neg h4]);rw[FIN.out];clear oct FIN;(go_enter Tryz.func89,Tryz.ntmps89);(go_wp2_with fail);refine(B0 w _).mono ?_;rintro e w1 ⟨rfl,rfl⟩;(go_wp2_with fail);(go_ret);exact⟨rfl,rfl⟩
structure MomP (s n f:Int):Prop where
 lo: -100000000000000000≤s
 hi:s≤100000000000000000
 ns:f≠2→n=0
def Bcq (s n f:Int)(e:Ending):Prop:=∃v,e=.returned (.int .i64 v)∧V3 v∧(v=1→MomP s n f)
set_option maxHeartbeats 1600000 in
theorem X8 (w:World)(s n f:Int):Calls Tryz.prog 90 #[.agg #[.int .i64 s, .int .i64 n], .int .i64 f] w fun e w'=>Hid (Bcq s n f e)∧Kp (fun _=>False) w w':=by
 have END0:Hid (Bcq s n f (.returned (.int .i64 0))):=⟨0,rfl, .inl rfl,fun h=>absurd h (by decide)⟩
 obtain⟨b1,e1⟩:∃b,decide ((100000000000000000:Int)<s)=b:=⟨_,rfl⟩;obtain⟨b2,e2⟩:∃b,decide (s< -100000000000000000)=b:=⟨_,rfl⟩;obtain⟨b3,e3⟩:∃b,(f != 2)=b:=⟨_,rfl⟩;obtain⟨b4,e4⟩:∃b,(n != 0)=b:=⟨_,rfl⟩;have FIN:Hid (b1=false→b2=false→(b3&&b4)=false→Hid (Bcq s n f (.returned (.int .i64 1)))):=by
  show _→_→_→_;intro h1 h2 h3;subst e1 e2 e3 e4;simp only[decide_eq_false_iff_not] at h1 h2;refine⟨1,rfl, .inr (.inl rfl),fun _=>⟨by omega,by omega,fun hf=>?_⟩⟩
  simp only[Bool.and_eq_false_iff,bne_eq_false_iff_eq] at h3;rcases h3 with h3|h3
  ·exact absurd h3 hf
  ·exact h3
 cases b1<;>cases b2<;>cases b3<;>cases b4<;>(
  go_enter Tryz.func90,Tryz.ntmps90
  go_wp2_with fail
  go_ret
  first
   |exact⟨END0,(Kp.refl _ _).alloc _⟩
   |exact⟨FIN.out (by first|rfl|trivial) (by first|rfl|trivial) (by first|rfl|trivial),(Kp.refl _ _).alloc _⟩)
theorem Vw {w:World}{b:Nat}{u v:Value}(h:w.heap[b]?=some (.cells #[u] 43 (0,0)))(k:w.heap[b]?=some (.cells #[v] 43 (0,0))):u=v:=by
 have h1:=cell_of h 0 (v:=u) rfl;have h2:=cell_of k 0 (v:=v) rfl;rw[h1] at h2;injection h2
theorem TldG.grow {w0 w w':World}{C m:Nat}{F:Nat→Prop}{h:Hd}{rv:Value}{l:List Rec}(s:TldG w0 C m h rv l F w)(k:Kp (fun _=>False) w w'):TldG w0 C m h rv l F w':=by
 obtain⟨v,h1,h2⟩:=s.st.lv;refine⟨s.st.grow k,fun u hu b hb=>?_,fun b hb=>Nat.lt_of_lt_of_le (s.lt b hb) k.size,s.low⟩;rw[Vw hu (k.heap h1 (fun h=>h))];exact s.ne v h1 b hb
theorem TldG.chose {w0 w w':World}{C m m':Nat}{F:Nat→Prop}{h:Hd}{rv:Value}{l:List Rec}(s:TldG w0 C m h rv l F w)(hC:C<w0.heap.size)(k:Kp (· =C) w w')(hc:Cho w' C m'):TldG w0 C m' h rv l F w':=by
 obtain⟨v,h1,h2⟩:=s.st.lv;refine⟨s.st.chose hC k hc,fun u hu b hb=>?_,fun b hb=>Nat.lt_of_lt_of_le (s.lt b hb) k.size,s.low⟩;rw[Vw hu (k.heap h1 (by omega))]
 exact s.ne v h1 b hb
theorem TldG.new {w0 w:World}{C m:Nat}{F:Nat→Prop}{h:Hd}{rv:Value}{l:List Rec}(s:TldG w0 C m h rv l F w)(o:Obj):TldG w0 C m h rv l (fun b=>F b∨b=w.heap.size) (w.alloc o):=by
 have g:=s.grow ((Kp.refl _ _).alloc o);have hsz:(w.alloc o).heap.size=w.heap.size+1:=by show (w.heap.push _).size=_;simp
 obtain⟨v,h1,h2⟩:=s.st.lv;have hH:=Bv h1;refine⟨g.st,fun u hu b hb=>?_,fun b hb=>?_,fun b hb=>?_⟩
 ·rcases hb with hb|rfl
  ·exact g.ne u hu b hb
  ·rw[Vw hu (heap_alloc h1 o)];intro e;have:=(h2.block e).2;omega
 ·rcases hb with hb|rfl
  ·exact g.lt b hb
  ·omega
 ·rcases hb with hb|rfl
  ·exact s.low b hb
  ·omega
theorem TldG.row {w0 w w':World}{C m g cap:Nat}{F:Nat→Prop}{h:Hd}{rv:Value}{l l':List Rec}(s:TldG w0 C m h rv l F w)(hC:C<w0.heap.size)(hv:w.heap[w0.heap.size+2]?=some (.cells #[.slice (some ⟨g,0,none⟩) l.length cap] 43 (0,0)))
  (k:Kp (· =g) w w') (o:OwnR 136 w' (w0.heap.size+3) (.slice (some ⟨g,0,none⟩) l.length cap) l') (hl:l'.length=l.length) (hg:w0.heap.size+3≤g):TldG w0 C m h rv l' F w':=by
 have hv':=k.heap hv (by omega)
 refine⟨⟨s.st.cho.keep k (fun i hi=>by omega) (Nat.le_refl _),k.heap s.st.cp (by omega),k.heap s.st.hdr (by omega),⟨_,hv',o⟩,s.st.kp.then k (fun i hi e=>by omega)⟩,fun u hu b hb=>?_,fun b hb=>Nat.lt_of_lt_of_le (s.lt b hb) k.size,s.low⟩
 rw[Vw hu hv'];exact s.ne _ hv b hb
theorem TldG.own {w0 w:World}{C m:Nat}{F:Nat→Prop}{h:Hd}{rv:Value}{l:List Rec}(s:TldG w0 C m h rv l F w)(hl:l≠[]) :
  ∃g cap,w.heap[w0.heap.size+2]?=some (.cells #[.slice (some ⟨g,0,none⟩) l.length cap] 43 (0,0))∧OwnR 136 w (w0.heap.size+3) (.slice (some ⟨g,0,none⟩) l.length cap) l∧w0.heap.size+3≤g∧¬F g∧l.length≤cap∧cap≤maxLen:=by
 obtain⟨g,cap,t⟩:=s.st.open hl;obtain⟨_,cur,_,h2,h3,_⟩:=t.own.row;exact⟨g,cap,t.lv,t.own,(t.own.block rfl).1,fun hf=>s.ne _ t.lv g hf rfl,h2,h3⟩
theorem Kg (w:World){T ST ty:TypeId}(I:InfoR T ST)(base g cap k:Nat)(l:List Rec)(z:Rec)(hown:OwnR T w base (.slice (some ⟨g,0,none⟩) (l.length+1) cap) (l++[z]))(hk:k=l.length)(A:Addr)(c1 c2:Nat) :
  ∃w',(Builtin.copy_ #[ST,ST] ty #[.slice (some A) (l.length-k) c1, .slice (some ⟨g,k*2,none⟩) (l.length+1-k) c2]).run Tryz.prog w=.ok (goInt (l.length-k:Nat)) w' ∧
   OwnR T w' base (.slice (some ⟨g,0,none⟩) (l.length+1) cap) ((l++[z]).take (k+1)++l.drop k)∧Kp (fun i=>i=g) w w':=by
 obtain⟨i0,hi,hz,hsz,hby⟩:=I.info;subst hk;have hmin:Nat.min (l.length+1-l.length) (l.length-l.length)=0:=by rw[Nat.sub_self];exact Nat.min_eq_right (by omega)
 have hl:=run_loadCells_list (P:=Tryz.prog) w ⟨g,l.length*2,none⟩ [] (fun j v hv=>by simp at hv)
 have hst:(storeCells A ([]:List Value)).run Tryz.prog w=.ok () w:=rfl;have e:((l++[z]).take (l.length+1)++l.drop l.length)=l++[z]:=by
  rw[List.drop_length,List.append_nil,List.take_of_length_le (by simp)]
 refine⟨w,?_,by rw[e];exact hown,Kp.refl _ _⟩
 simp only[List.length_nil] at hl;simp[Builtin.copy_,run_underlying I.und,Builtin.lenOf,Builtin.firstCells,sizeOf,typeInfo,hi,hsz,hmin,hl,hst]
theorem X9 (W:World)(g n cap:Nat)(l:Int)(k:Nat)(hlk:l=(k:Int))(hl:k≤n)(hc:cap≠k) :
  (Instr.slice 43 (.slice (some ⟨g,0,none⟩) n cap) (some (.int .i64 l)) none none).run Tryz.prog W=.ok (.slice (some ⟨g,k*2,none⟩) (n-k) (cap-k)) W:=by
 subst hlk;obtain⟨i0,hi,hz,hsz,hby⟩:=infoS.info;have hu:Tryz.prog.underlying 43=some (.slice (Tryz.prog.elem 43)):=by kernel_rfl
 have he:Tryz.prog.elem 43=136:=by kernel_rfl
 rw[run_slice_l W 43 _ _ _ hu .i64 (k:Int) (by omega) (by omega),he]
 have hs:(sizeOf 136).run Tryz.prog W=.ok 2 W:=by simp[sizeOf,typeInfo,hi,hsz]
 rw[hs];simp only[Result.andThen,sliced,Int.toNat_natCast,if_neg hc,Option.map];have e:Addr.add ⟨g,0,none⟩ (k*2)=⟨g,k*2,none⟩:=by simp[Addr.add];intro h;rw[h]
 rw[e]
structure TextP (s:List UInt8)(size f:Int):Prop where
 nul:NoNul s
 one:f=1→Ascii s∧(s.length:Int)≤size
def Oc (s:List UInt8)(size f:Int)(e:Ending):Prop:=∃v,e=.returned (.int .i64 v)∧V3 v∧(v=1→TextP s size f)
theorem Bcr {l:List UInt8}(h:l.all okA=true):Ascii l:=fun c hc=>by
 have:=List.all_eq_true.1 h c hc
 unfold okA at this
 simp only[Bool.and_eq_true,decide_eq_true_eq,bne_iff_ne] at this
 exact⟨this.2,this.1⟩
set_option maxHeartbeats 1600000 in
theorem Vx (w:World)(s:List UInt8)(size f:Int)(hf:f=1∨f=2∨f=3)(hl:s.length≤1099511627776):Calls Tryz.prog 84 #[.string ⟨s.toArray⟩, .int .i64 size, .int .i64 f] w fun e w'=>Hid (Oc s size f e)∧w'=w:=by
 have END0:Hid (Oc s size f (.returned (.int .i64 0))):=⟨0,rfl, .inl rfl,fun h=>absurd h (by decide)⟩
 have HN:=fun W=>hid (X5 W s (by omega))
 have HA:=fun W=>hid (Ew W s (by omega))
 have HU:=fun W=>hid (Ob W s (by omega))
 unfold B5 at HA;obtain⟨n,hn⟩:∃n,X4 s=n:=⟨_,rfl⟩;rw[hn] at HN;cases n with
 |true=>
  go_enter Tryz.func84,Tryz.ntmps84
  go_wp2_with fail
  refine(HN _).out.mono ?_;rintro e w1 ⟨rfl,rfl⟩;go_wp2_with fail
  go_ret
  exact⟨END0,rfl⟩
 |false=>
  have hz:=hid (Bd9 hn);clear hn;rcases hf with rfl|rfl|rfl
  ·obtain⟨a,ha⟩:∃a,s.all okA=a:=⟨_,rfl⟩;rw[ha] at HA;cases a with
   |false=>
    (have FIN:Hid (Oc s size 1 (.returned (.int .i64 2))):=⟨2,rfl, .inr (.inr rfl),fun h=>absurd h (by decide)⟩);clear HU ha;(go_enter Tryz.func84,Tryz.ntmps84);(go_wp2_with fail);refine(HN _).out.mono ?_;rintro e w1 ⟨rfl,rfl⟩;(go_wp2_with fail);refine(HA _).out.mono ?_;rintro e w1 ⟨rfl,rfl⟩;(go_wp2_with fail);refine(B0 _ _).mono ?_;rintro e w1 ⟨rfl,rfl⟩;(go_wp2_with fail);(go_ret);exact⟨FIN,rfl⟩
   |true=>
    obtain⟨b,hb⟩:∃b,decide ((s.length:Int)≤size)=b:=⟨_,rfl⟩;have FIN:Hid (Oc s size 1 (.returned (.int .i64 (if b then 1 else 2)))):=⟨_,rfl,Ch b,fun h=>by
     cases b with
     |false=>exact absurd h (by decide)
     |true=>exact⟨hz.out,fun _=>⟨Bcr ha,of_decide_eq_true hb⟩⟩⟩
    clear HU ha;cases b<;>(
     (go_enter Tryz.func84,Tryz.ntmps84);(go_wp2_with fail);refine(HN _).out.mono ?_;rintro e w1 ⟨rfl,rfl⟩;(go_wp2_with fail);refine(HA _).out.mono ?_;rintro e w1 ⟨rfl,rfl⟩;(go_wp2_with fail);refine(B0 _ _).mono ?_;rintro e w1 ⟨rfl,rfl⟩;(go_wp2_with fail);(go_ret);exact⟨FIN,rfl⟩)
  ·(have FIN:Hid (Oc s size 2 (.returned (.int .i64 1))):=⟨1,rfl, .inr (.inl rfl),fun _=>⟨hz.out,fun h=>absurd h (by decide)⟩⟩);clear HA;(go_enter Tryz.func84,Tryz.ntmps84);(go_wp2_with fail);refine(HN _).out.mono ?_;rintro e w1 ⟨rfl,rfl⟩;(go_wp2_with fail);refine(HU _).out.mono ?_;rintro e w1 ⟨⟨b,rfl,_⟩,rfl⟩;cases b
   ·(go_wp2_with fail);(go_ret);exact⟨END0,rfl⟩
   ·(go_wp2_with fail);(go_ret);exact⟨FIN,rfl⟩
  ·(have FIN:Hid (Oc s size 3 (.returned (.int .i64 1))):=⟨1,rfl, .inr (.inl rfl),fun _=>⟨hz.out,fun h=>absurd h (by decide)⟩⟩);clear HA HU;(go_enter Tryz.func84,Tryz.ntmps84);(go_wp2_with fail);refine(HN _).out.mono ?_;rintro e w1 ⟨rfl,rfl⟩;(go_wp2_with fail);(go_ret);exact⟨FIN,rfl⟩
structure OwnerP (s:List UInt8)(f:Int):Prop where
 nul:NoNul s
 one:f=1→Ascii s
 len:f≠2→s.length≤31
def Ze (s:List UInt8)(f:Int)(e:Ending):Prop:=∃v,e=.returned (.int .i64 v)∧V3 v∧(v=1→OwnerP s f)
set_option maxHeartbeats 1600000 in
theorem Ban (w:World)(s:List UInt8)(f:Int)(hf:f=1∨f=2∨f=3)(hl:s.length≤1099511627776):Calls Tryz.prog 88 #[.string ⟨s.toArray⟩, .int .i64 f] w fun e w'=>Hid (Ze s f e)∧Kp (fun _=>False) w w':=by
 have HT:=hid (Vx w s 32 f hf hl);have HALL:=fun v hv=>hid (Cu (w.alloc (.cells #[.int .i64 v, .int .i64 0] 3)) w.heap.size [v,0] hv (Ba w _) (by simp))
 have TWO:Hid (Ze s f (.returned (.int .i64 2))):=⟨2,rfl, .inr (.inr rfl),fun h=>absurd h (by decide)⟩
 have key:∀(e0:Ending),(f≠2→s.length≠32)→(f=3→s.length≤32)→Hid (Oc s 32 f e0)→Hid (Ze s f e0):=fun e0 h1 h2 hx=>by
  obtain⟨v,rfl,hv,hp⟩:=hx.out;refine⟨v,rfl,hv,fun h=>?_⟩;have:=hp h;refine⟨this.nul,fun h=>(this.one h).1,fun h=>?_⟩;have h3:=h1 h;rcases hf with rfl|rfl|rfl
  ·have:=(this.one rfl).2;omega
  ·exact absurd rfl h
  ·have:=h2 rfl;omega
 have KEY:=hid key;clear key;by_cases h32:s.length=32
 ·have t1:((s.length:Int)==32)=true:=by rw[h32];rfl
  have t2:decide ((32:Int)<(s.length:Int))=false:=decide_eq_false (by omega)
  by_cases f2:f=2
  ·subst f2;(have KEY:=fun e0=>KEY.out e0 (fun h=>absurd rfl h) (fun h=>absurd h (by decide)));clear h32 HALL;(go_enter Tryz.func88,Tryz.ntmps88);(go_wp2_with fail);refine HT.out.mono ?_;rintro e w1 ⟨hx,rfl⟩;have FIN:=KEY _ hx;obtain⟨v,rfl,hv,hp⟩:=hx.out;clear HT hp KEY;(go_wp2_with fail);(go_ret);exact⟨FIN,Kp.refl _ _⟩
  ·(have t3:(f != 2)=true:=by simpa using f2);(have t4:f=3∨f=1:=by omega);(have FINV:∀v x,V3 x→(x=1→∀u∈[v,(0:Int)],u=1)→Hid (Ze s f (.returned (.int .i64 x))):=fun v x hx hxx=>⟨x,rfl,hx,fun h=>absurd (hxx h 0 (by simp)) (by decide)⟩);clear h32 KEY f2 hf;rcases t4 with rfl|rfl<;>(
    (go_enter Tryz.func88,Tryz.ntmps88);(go_wp2_with fail);refine HT.out.mono ?_;rintro e w1 ⟨hx,rfl⟩;obtain⟨v,rfl,hv,hp⟩:=hx.out;clear HT hp hx;(have HALL:=HALL v (fun u hu=>by rcases List.mem_cons.1 hu with rfl|hu;exact hv;rw[List.mem_singleton] at hu;exact .inl hu));(go_wp2_with fail);refine HALL.out.mono ?_;rintro e w2 ⟨⟨x,rfl,hx,hxx⟩,rfl⟩;have FIN:=FINV v x hx hxx;clear HALL hxx hx;(go_wp2_with fail);(go_ret);exact⟨FIN,(Kp.refl _ _).alloc _⟩)
 ·have t1:((s.length:Int)==32)=false:=by rw[beq_eq_false_iff_ne];omega
  by_cases hgt:f=3∧32<s.length
  ·obtain⟨rfl,hgt⟩:=hgt;(have t2:decide ((32:Int)<(s.length:Int))=true:=decide_eq_true (by omega));clear h32 HALL KEY;(go_enter Tryz.func88,Tryz.ntmps88);(go_wp2_with fail);refine HT.out.mono ?_;rintro e w1 ⟨hx,rfl⟩;obtain⟨v,rfl,hv,hp⟩:=hx.out;clear HT hp hx;(go_wp2_with fail);(go_ret);exact⟨TWO,Kp.refl _ _⟩
  ·(have KEY2:=fun e0=>KEY.out e0 (fun _=>h32) (fun h=>by omega));clear h32 HALL;rcases hf with rfl|rfl|rfl
   ·(go_enter Tryz.func88,Tryz.ntmps88);(go_wp2_with fail);refine HT.out.mono ?_;rintro e w1 ⟨hx,rfl⟩;have FIN:=KEY2 _ hx;obtain⟨v,rfl,hv,hp⟩:=hx.out;clear HT hp KEY2;(go_wp2_with fail);(go_ret);exact⟨FIN,Kp.refl _ _⟩
   ·(go_enter Tryz.func88,Tryz.ntmps88);(go_wp2_with fail);refine HT.out.mono ?_;rintro e w1 ⟨hx,rfl⟩;have FIN:=KEY2 _ hx;obtain⟨v,rfl,hv,hp⟩:=hx.out;clear HT hp KEY2;(go_wp2_with fail);(go_ret);exact⟨FIN,Kp.refl _ _⟩
   ·(have t2:decide ((32:Int)<(s.length:Int))=false:=decide_eq_false (by omega));(go_enter Tryz.func88,Tryz.ntmps88);(go_wp2_with fail);refine HT.out.mono ?_;rintro e w1 ⟨hx,rfl⟩;have FIN:=KEY2 _ hx;obtain⟨v,rfl,hv,hp⟩:=hx.out;clear HT hp KEY2;(go_wp2_with fail);(go_ret);exact⟨FIN,Kp.refl _ _⟩
def RfV (r:Rec)(x:Int):Prop:=V3 x∧(x=1→OwnOk r)
theorem Ea {l:List UInt8}(h:l.isEmpty=false):l≠[]:=by rintro rfl;cases h
set_option maxHeartbeats 3200000 in
theorem Od (w:World)(r:Rec)(hl:r.1.length+r.2.length≤1099511627776) :
  Calls Tryz.prog 91 #[.agg #[.string ⟨r.1.toArray⟩, .string ⟨r.2.toArray⟩]] w fun e w'=>(∃x,e=.returned (.int .i64 x)∧Hid (RfV r x))∧Kp (fun _=>False) w w':=by
 obtain⟨k,v⟩:=r;simp only at hl ⊢;have Z0:Hid (RfV (k,v) 0):=⟨.inl rfl,fun h=>absurd h (by decide)⟩
 have Z2:Hid (RfV (k,v) 2):=⟨.inr (.inr rfl),fun h=>absurd h (by decide)⟩
 have hk:k.length≤1099511627776:=by omega
 have hvl:v.length≤1099511627776:=by omega
 have HSK:=fun W=>hid (O9 W k (by omega))
 have HUK:=fun W=>hid (Ob W k (by omega))
 have HUV:=fun W=>hid (Ob W v (by omega))
 have HCT:=fun W=>hid (Bco W k 46 (by omega))
 go_enter Tryz.func91,Tryz.ntmps91
 go_upto_region 1 with fail
 refine E7 ?_;intro wA gA kA sA;have c0:wA.cell? ⟨w.heap.size,0,none⟩=some (.string ⟨k.toArray⟩):=cell_of gA 0 rfl;have c1:wA.cell? ⟨w.heap.size,1,none⟩=some (.string ⟨v.toArray⟩):=cell_of gA 1 rfl;have KA:=hid kA;clear gA kA;go_wp2_with fail
 refine(HSK wA).out.mono ?_;rintro e w1 ⟨⟨b,rfl,hb⟩,rfl⟩;cases b with
 |true=>
  go_wp2_with fail
  go_ret
  exact⟨⟨0,rfl,Z0⟩,KA.out⟩
 |false=>
 have HNS:=hid (hb rfl);clear hb HSK;go_wp2_with fail
 have ZK:Hid (∀x∈k.take 0,x≠61):=by
  show ∀x∈k.take 0,x≠61;intro x hx;rw[sE] at hx;cases hx
 go_loopg [3,14] k.length (fun g s3 s14 wr=>∃(i:Nat),i+g=k.length∧s14=.int .i64 i∧Hid (∀x∈k.take i,x≠61)∧wr=w1)
 case atStart=>exact⟨0,by omega,rfl,ZK,rfl⟩
 case round=>
  obtain⟨i,hi,rfl,ha,rfl⟩:=hrel;by_cases hlt:i<k.length
  ·by_cases h2:k[i]=61
   ·(have h2':((((⟨k.toArray⟩:ByteArray)[i]'hlt).toNat:Int)==61)=true:=by show ((k[i].toNat:Int)==61)=true;rw[h2];rfl);clear h2 HUK HUV HCT;(go_wp2_with fail);(go_ret);exact⟨⟨2,rfl,Z2⟩,KA.out⟩
   ·have hok:Hid (∀x∈k.take (i+1),x≠61):=by
     show ∀x∈List.take _ _,_;intro x hx;rw[List.take_succ_eq_append_getElem hlt,List.mem_append,List.mem_singleton] at hx;rcases hx with hx|rfl
     ·exact ha.out x hx
     ·exact h2
    have h2':((((⟨k.toArray⟩:ByteArray)[i]'hlt).toNat:Int)==61)=false:=by
     show ((k[i].toNat:Int)==61)=false;rw[beq_eq_false_iff_ne];intro e;exact h2 (UInt8.toNat_inj.mp (by show k[i].toNat=61;omega))
    clear h2 HUK HUV HCT;(go_wp2_with fail);go_roundg (gk-1)
    case measure=>omega
    case rel=>exact⟨i+1,by omega,by simp,hok,rfl⟩
  ·(obtain rfl:i=k.length:=by omega);have HNE:Hid ((61:UInt8)∉k):=by
    show ¬_;intro h61;(have:=ha.out 61 (by rw[List.take_length];exact h61));exact this rfl
   clear ha;cases hE:k.isEmpty with
   |true=>
    clear HUK HUV HCT;(go_wp2_with fail);(go_ret);exact⟨⟨2,rfl,Z2⟩,KA.out⟩
   |false=>
   cases hV:v.isEmpty with
   |true=>
    clear HUK HUV HCT;(go_wp2_with fail);(go_ret);exact⟨⟨0,rfl,Z0⟩,KA.out⟩
   |false=>
   (go_wp2_with fail);refine(HUK wr).out.mono ?_;rintro e w2 ⟨⟨b1,rfl,hb1⟩,rfl⟩;cases b1 with
   |false=>
    clear HUK HUV HCT;(go_wp2_with fail);(go_ret);exact⟨⟨0,rfl,Z0⟩,KA.out⟩
   |true=>
   have HNK:=hid (hb1 rfl);clear hb1 HUK;(go_wp2_with fail);refine(HUV w2).out.mono ?_;rintro e w3 ⟨⟨b2,rfl,hb2⟩,rfl⟩;cases b2 with
   |false=>
    clear HUV HCT;(go_wp2_with fail);(go_ret);exact⟨⟨0,rfl,Z0⟩,KA.out⟩
   |true=>
   have HNV:=hid (hb2 rfl);clear hb2 HUV;have HVE:=hid hV;by_cases h7:7≤k.length
   ·(have hd1:(7:Int)≤(k.length:Int):=by omega);have hd2:decide ((7:Int)≤(k.length:Int))=true:=decide_eq_true hd1;(have he:(⟨k.toArray⟩:ByteArray).extract 0 7=⟨(k.take 7).toArray⟩:=by rw[ext_list];rfl);obtain⟨β,hβ⟩:∃β,(k.take 7==[83,67,72,73,76,89,46])=β:=⟨_,rfl⟩;have F:Hid (β=false→¬En <+: k):=by
     show _→_;rintro rfl ⟨t,rfl⟩;(rw[show (En++t).take 7=En from by rw[List.take_append_of_le_length (by decide)];rfl] at hβ);exact absurd hβ (by decide)
    obtain⟨q,hq⟩:∃q,k.take 7=q:=⟨_,rfl⟩;rw[hq] at he hβ;clear hq;cases β with
    |true=>
     clear HCT;(go_wp2_with fail);(go_ret);exact⟨⟨0,rfl,Z0⟩,KA.out⟩
    |false=>
     have HSC:=hid (F.out rfl);(go_wp2_with fail);refine(HCT w3).out.mono ?_;rintro e w4 ⟨hx,k4⟩;have K4:=hid (KA.out.trans k4);clear HCT k4 c0 c1;rcases hx with ⟨a,b,hab,rfl⟩|rfl
     ·have HAB:=hid hab;(have hal:a.length≤1099511627776:=by rw[hab,List.length_append] at hk;omega);clear hab;cases hA:a.isEmpty with
      |true=>
       (go_wp2_with fail);(go_ret);exact⟨⟨0,rfl,Z0⟩,K4.out⟩
      |false=>
      cases hB:b.isEmpty with
      |true=>
       (go_wp2_with fail);(go_ret);exact⟨⟨0,rfl,Z0⟩,K4.out⟩
      |false=>
      have HEA:=hid hA;have HEB:=hid hB;(go_wp2_with fail);clear hA hB;have ZA:Hid (∀x∈a.take 0,65≤x.toNat∧x.toNat≤90):=by
       show ∀x∈a.take 0,65≤x.toNat∧x.toNat≤90;intro x hx;rw[sE] at hx;cases hx
      go_loopg [7,72] a.length (fun g s7 s72 wr=>∃(i:Nat),i+g=a.length∧s72=.int .i64 i∧Hid (∀x∈a.take i,65≤x.toNat∧x.toNat≤90)∧wr=w4)
      case atStart=>exact⟨0,by omega,rfl,ZA,rfl⟩
      case round=>
       obtain⟨i,hi,rfl,ha,rfl⟩:=hrel;by_cases hlt:i<a.length
       ·by_cases h1:a[i].toNat<65
        ·(have t1:decide ((((⟨a.toArray⟩:ByteArray)[i]'hlt).toNat:Int)<65)=true:=decide_eq_true (by show ((a[i].toNat:Nat):Int)<65;omega));clear h1;(go_wp2_with fail);(go_ret);exact⟨⟨0,rfl,Z0⟩,K4.out⟩
        ·(have t1:decide ((((⟨a.toArray⟩:ByteArray)[i]'hlt).toNat:Int)<65)=false:=decide_eq_false (by show ¬((a[i].toNat:Nat):Int)<65;omega));by_cases h2:90<a[i].toNat
         ·(have t2:decide ((90:Int)<(((⟨a.toArray⟩:ByteArray)[i]'hlt).toNat:Int))=true:=decide_eq_true (by show (90:Int)<((a[i].toNat:Nat):Int);omega));clear h1 h2;(go_wp2_with fail);(go_ret);exact⟨⟨0,rfl,Z0⟩,K4.out⟩
         ·(have t2:decide ((90:Int)<(((⟨a.toArray⟩:ByteArray)[i]'hlt).toNat:Int))=false:=decide_eq_false (by show ¬(90:Int)<((a[i].toNat:Nat):Int);omega));have hok:Hid (∀x∈a.take (i+1),65≤x.toNat∧x.toNat≤90):=by
           show ∀x∈List.take _ _,_;intro x hx;rw[List.take_succ_eq_append_getElem hlt,List.mem_append,List.mem_singleton] at hx;rcases hx with hx|rfl
           ·exact ha.out x hx
           ·omega
          clear h1 h2;(go_wp2_with fail);go_roundg (gk-1)
          case measure=>omega
          case rel=>exact⟨i+1,by omega,by simp,hok,rfl⟩
       ·(obtain rfl:i=a.length:=by omega);have FIN:Hid (RfV (k,v) 1):=by
         refine⟨.inr (.inl rfl),fun _=>⟨⟨HNE.out,HNK.out,⟨a,b,HAB.out,Ea HEA.out,Ea HEB.out,?_⟩,HNS.out,HSC.out⟩,Ea HVE.out,HNV.out⟩⟩;have:=ha.out;rw[List.take_length] at this;exact this
        (go_wp2_with fail);(go_ret);exact⟨⟨1,rfl,FIN⟩,K4.out⟩
     ·(go_wp2_with fail);(go_ret);exact⟨⟨0,rfl,Z0⟩,K4.out⟩
   ·(have hd2:decide ((7:Int)≤(k.length:Int))=false:=decide_eq_false (by omega));have HSC:Hid (¬En <+: k):=by
     show ¬_;rintro⟨t,rfl⟩;apply h7;rw[List.length_append];show 7≤7+_;omega
    clear h7;(go_wp2_with fail);refine(HCT w3).out.mono ?_;rintro e w4 ⟨hx,k4⟩;have K4:=hid (KA.out.trans k4);clear HCT k4 c0 c1;rcases hx with ⟨a,b,hab,rfl⟩|rfl
    ·have HAB:=hid hab;(have hal:a.length≤1099511627776:=by rw[hab,List.length_append] at hk;omega);clear hab;cases hA:a.isEmpty with
     |true=>
      (go_wp2_with fail);(go_ret);exact⟨⟨0,rfl,Z0⟩,K4.out⟩
     |false=>
     cases hB:b.isEmpty with
     |true=>
      (go_wp2_with fail);(go_ret);exact⟨⟨0,rfl,Z0⟩,K4.out⟩
     |false=>
     have HEA:=hid hA;have HEB:=hid hB;(go_wp2_with fail);clear hA hB;have ZA:Hid (∀x∈a.take 0,65≤x.toNat∧x.toNat≤90):=by
      show ∀x∈a.take 0,65≤x.toNat∧x.toNat≤90;intro x hx;rw[sE] at hx;cases hx
     go_loopg [7,72] a.length (fun g s7 s72 wr=>∃(i:Nat),i+g=a.length∧s72=.int .i64 i∧Hid (∀x∈a.take i,65≤x.toNat∧x.toNat≤90)∧wr=w4)
     case atStart=>exact⟨0,by omega,rfl,ZA,rfl⟩
     case round=>
      obtain⟨i,hi,rfl,ha,rfl⟩:=hrel;by_cases hlt:i<a.length
      ·by_cases h1:a[i].toNat<65
       ·(have t1:decide ((((⟨a.toArray⟩:ByteArray)[i]'hlt).toNat:Int)<65)=true:=decide_eq_true (by show ((a[i].toNat:Nat):Int)<65;omega));clear h1;(go_wp2_with fail);(go_ret);exact⟨⟨0,rfl,Z0⟩,K4.out⟩
       ·(have t1:decide ((((⟨a.toArray⟩:ByteArray)[i]'hlt).toNat:Int)<65)=false:=decide_eq_false (by show ¬((a[i].toNat:Nat):Int)<65;omega));by_cases h2:90<a[i].toNat
        ·(have t2:decide ((90:Int)<(((⟨a.toArray⟩:ByteArray)[i]'hlt).toNat:Int))=true:=decide_eq_true (by show (90:Int)<((a[i].toNat:Nat):Int);omega));clear h1 h2;(go_wp2_with fail);(go_ret);exact⟨⟨0,rfl,Z0⟩,K4.out⟩
        ·(have t2:decide ((90:Int)<(((⟨a.toArray⟩:ByteArray)[i]'hlt).toNat:Int))=false:=decide_eq_false (by show ¬(90:Int)<((a[i].toNat:Nat):Int);omega));have hok:Hid (∀x∈a.take (i+1),65≤x.toNat∧x.toNat≤90):=by
          show ∀x∈List.take _ _,_;intro x hx;rw[List.take_succ_eq_append_getElem hlt,List.mem_append,List.mem_singleton] at hx;rcases hx with hx|rfl
          ·exact ha.out x hx
          ·omega
         clear h1 h2;(go_wp2_with fail);go_roundg (gk-1)
         case measure=>omega
         case rel=>exact⟨i+1,by omega,by simp,hok,rfl⟩
      ·(obtain rfl:i=a.length:=by omega);have FIN:Hid (RfV (k,v) 1):=by
        refine⟨.inr (.inl rfl),fun _=>⟨⟨HNE.out,HNK.out,⟨a,b,HAB.out,Ea HEA.out,Ea HEB.out,?_⟩,HNS.out,HSC.out⟩,Ea HVE.out,HNV.out⟩⟩;have:=ha.out;rw[List.take_length] at this;exact this
       (go_wp2_with fail);(go_ret);exact⟨⟨1,rfl,FIN⟩,K4.out⟩
    ·(go_wp2_with fail);(go_ret);exact⟨⟨0,rfl,Z0⟩,K4.out⟩
abbrev Add:=List UInt8 × List UInt8 × Bool
def Bl (k:Nat)(l:List UInt8):Bool:= !l.all okA||decide (k<l.length)
structure TldIn (h:Hd):Prop where
 i:Int64s h
 size:0≤h.size
 uid:0≤h.uid
 gid:0≤h.gid
 name:h.name.length≤1048576
 link:h.link.length≤1048576
 un:h.un.length≤1048576
 gn:h.gn.length≤1048576
 ms: -100000000000000000≤h.ms∧h.ms≤100000000000000000
 mn:0≤h.mn∧h.mn<1000000000
 acc:h.hasA=true→(-100000000000000000≤h.ats∧h.ats≤100000000000000000)∧0≤h.atn∧h.atn<1000000000
 chg:h.hasC=true→(-100000000000000000≤h.cts∧h.cts≤100000000000000000)∧0≤h.ctn∧h.ctn<1000000000
def Ca (l:List UInt8):Bool:= !l.all okA||(decide (100<l.length)&& !spB l)
inductive Adds:List Add→List Rec→Prop
 |nil:Adds [] []
 |snoc {ad l l'} (a:Add) (h:Adds ad l) (hk:Qs l a.1 a.2.1 a.2.2 l'):Adds (ad++[a]) l'
def AdSt (w0:World)(C m:Nat)(h:Hd)(rv:Value)(ad:List Add)(w:World):Prop:=∃l,Adds ad l∧TldSt w0 C m h rv l w
theorem Adds.len {ad:List Add}{l:List Rec}(h:Adds ad l):l.length≤ad.length:=by
 induction h with
 |nil=>simp
 |snoc a h hk ih=>
  rw[List.length_append,List.length_singleton];rcases hk with ⟨rfl,_⟩|⟨rfl,_⟩
  ·rw[List.length_append,List.length_singleton];omega
  ·omega
theorem AdSt.grow {w0 w w':World}{C m:Nat}{h:Hd}{rv:Value}{ad:List Add}(s:AdSt w0 C m h rv ad w)(k:Kp (fun _=>False) w w'):AdSt w0 C m h rv ad w':=by
 obtain⟨l,h1,h2⟩:=s;exact⟨l,h1,h2.grow k⟩
theorem AdSt.chose {w0 w w':World}{C m m':Nat}{h:Hd}{rv:Value}{ad:List Add}(s:AdSt w0 C m h rv ad w)(hC:C<w0.heap.size)(k:Kp (· =C) w w')(hc:Cho w' C m'):AdSt w0 C m' h rv ad w':=by
 obtain⟨l,h1,h2⟩:=s;exact⟨l,h1,h2.chose hC k hc⟩
theorem AdSt.cell {w0 w:World}{C m:Nat}{h:Hd}{rv:Value}{ad:List Add}(s:AdSt w0 C m h rv ad w)(i:Nat){v:Value}(hv:(Bd h rv)[i]?=some v):w.cell? ⟨w0.heap.size+1,i,none⟩=some v:=by
 obtain⟨l,h1,h2⟩:=s;exact cell_of h2.hdr i (by rw[List.getElem?_toArray];exact hv)
theorem AdSt.cptr {w0 w:World}{C m:Nat}{h:Hd}{rv:Value}{ad:List Add}(s:AdSt w0 C m h rv ad w):w.cell? ⟨w0.heap.size,0,none⟩=some (.pointer (some ⟨C,0,none⟩)):=by
 obtain⟨l,h1,h2⟩:=s;exact cell_of h2.cp 0 rfl
theorem Ja {w0 w:World}{C m:Nat}{h:Hd}{rv:Value}{ad:List Add}(s:AdSt w0 C m h rv ad w)(k v:List UInt8)(must:Bool)(hC:C<w0.heap.size)(hm:m+10≤1000000000000)(hl:ad.length≤100) :
  Calls Tryz.prog 118 #[.string ⟨k.toArray⟩, .string ⟨v.toArray⟩, .bool must, .pointer (some ⟨w0.heap.size,0,none⟩), .pointer (some ⟨w0.heap.size+2,0,none⟩)] w fun e w'=>
   e=.returned (.tuple #[])∧Hid (AdSt w0 C (m+1) h rv (ad++[(k,v,must)]) w'):=by
 obtain⟨l,h1,h2⟩:=s;refine(Bd8 w0 w C m h rv l k v must hC h2 hm (by have:=h1.len;omega)).mono ?_
 rintro e w' ⟨rfl,hx⟩;obtain⟨l',h3,h4⟩:=hx.out;exact⟨rfl,l', .snoc (k,v,must) h1 h3,h4⟩
def E9 (h:Hd)(z0 z1 z2:Nat):List Add:=
 ([(Bo,h.name,Ca h.name),(Br,h.link,Bl 100 h.link),(Bj,h.un,Bl 31 h.un),(Bm,h.gn,Bl 31 h.gn),(B1,Lib.decDigits h.size.toNat,!Bn 12 h.size),(Ck,Lib.decDigits h.uid.toNat,!Bn 8 h.uid),(Cn,Lib.decDigits h.gid.toNat,!Bn 8 h.gid)]++[(kMtime,Bg h.ms h.mn z0,!decide (h.mn=0)|| !Bn 12 h.ms)]++(if h.hasA then [(kAtime,Bg h.ats h.atn z1,true)] else []))++(if h.hasC then [(kCtime,Bg h.cts h.ctn z2,true)] else [])
def Bcs (h:Hd)(l:List Rec):Prop:=∃z0 z1 z2 l0 o,z0≤1∧z1≤1∧z2≤1∧Adds (E9 h z0 z1 z2) l0∧LastE h.recs o∧l.Perm (o++l0)
def Bct (w:World)(C m:Nat)(h:Hd)(e:Ending)(w':World):Prop:=
 ∃v l,e=.returned v∧Bcs h l∧OwnR 136 w' w.heap.size v l∧Cho w' C (m+100000)∧Kp (· =C) w w'
theorem Bc {P:Program}{ops:Array Oper}{w:World}{Q:Act→Prop}{rest:List Oper}{o:Oper}{a:Act}(h:Region.wanted o (yielded ops a.tmps)=false)(hn:wpStill P ops w Q rest (a.put o.dst undef)):wpStill P ops w Q (o::rest) a:=by
 unfold wpStill;rw[if_neg (by rw[h];simp)]
 exact hn
theorem Ya (w:World)(C m:Nat)(h:Hd)(rv:Value)(hC:Cho w C m) :
  Hid (AdSt w C m h rv [] (((w.alloc (.cells #[.pointer (some ⟨C,0,none⟩)] 83)).alloc (.cells (Bd h rv).toArray 45)).alloc (.cells #[.slice none 0 0] 43))):=by
 have s1:(w.alloc (.cells #[.pointer (some ⟨C,0,none⟩)] 83)).heap.size=w.heap.size+1:=by show (w.heap.push _).size=_;simp
 have s2:((w.alloc (.cells #[.pointer (some ⟨C,0,none⟩)] 83)).alloc (.cells (Bd h rv).toArray 45)).heap.size=w.heap.size+2:=by show ((w.alloc _).heap.push _).size=_;rw[Array.size_push,s1]
 have k:Kp (fun _=>False) w (((w.alloc (.cells #[.pointer (some ⟨C,0,none⟩)] 83)).alloc (.cells (Bd h rv).toArray 45)).alloc (.cells #[.slice none 0 0] 43)):=(((Kp.refl _ _).alloc _).alloc _).alloc _;have a1:=Ba w (.cells #[.pointer (some ⟨C,0,none⟩)] 83);have a2:=Ba (w.alloc (.cells #[.pointer (some ⟨C,0,none⟩)] 83)) (.cells (Bd h rv).toArray 45);have a3:=Ba ((w.alloc (.cells #[.pointer (some ⟨C,0,none⟩)] 83)).alloc (.cells (Bd h rv).toArray 45)) (.cells #[.slice none 0 0] 43);rw[s1] at a2;rw[s2] at a3;exact⟨[], .nil,hC.keep k (fun _ h=>h.elim) (Nat.le_refl _),heap_alloc (heap_alloc a1 _) _,heap_alloc a2 _,⟨_,a3,OwnR.nil _ _ _⟩,k.mono (fun _ _ h=>h.elim)⟩
end Go.Proofs.YtgfcnjfmmjcodaaGreatDoor
