/- A slice of numbers as an argument, opened. -/
import Derived.Test.YtgfcnjfmmjcodaaGreatDoorP33
set_option linter.all false
set_option maxRecDepth 100000
set_option maxHeartbeats 1000000
open Go.Lib (hid)
namespace Go.Proofs.YtgfcnjfmmjcodaaGreatDoor
open Go Go.ChangeShapes Go.WideShapes Go.RowKit Go.Deep
section
variable {H:Type} {enc:TypeId × Value→H} {W:World} {base:Nat} {sp:Nat→Bool} {hd:Bool}
theorem open_ints {v:Value}{d:DataW H}{b0:Nat}{p:List MemPlace}(hv:Value.okWide Tryz.prog W .any b0 30 v)(h:DataW.Trod enc Tryz.prog W base sp hd 30 v d p)(hb:Rows.uptoBulk d≤1048576) :
  ∃cs:List Int,IntsAt W W.heap.size v cs∧cs.length≤1048576∧∀x∈cs,-9223372036854775808≤x∧x≤9223372036854775807:=by
 obtain⟨A,ln,cn,rfl⟩:=okWide_slice Tryz.underlying30 hv;simp only[Value.okWide,Tryz.underlying30] at hv;obtain⟨fuel,hf⟩:=h;rcases open_slice Tryz.underlying30 hf with ⟨h1,h2⟩|⟨a,len,cap,m,n',D,Pl,hcs,_,hl,hcm,hm,hx,hi⟩
 ·exact⟨[], .inl ⟨.inl (by simpa[Value.cells] using h1),rfl⟩,Nat.zero_le _,fun x hx=>by cases hx⟩
 ·have hcs:[Value.slice A ln cn]=[Value.slice (some a) len cap]:=hcs;injection hcs with hcs
  injection hcs with e1 e2 e3
  subst e1 e2 e3;obtain⟨b,o,rfl,hbb⟩:=Ln Tryz.underlying30 hv;have hlm:ln≤m:=by rw[hm];split<;>omega
  have hd1:=congrArg Prod.fst hx;simp only at hd1;have r1:ln≤Rows.uptoBulkAll ((List.range ln).map D):=Hg D (fun j=>j) ln;rw[hd1] at hb;simp only[Rows.uptoBulk] at hb;have key:∀k,k≤ln→∃l:List Int,l.length=k∧(∀(i:Nat) (x:Int),l[i]?=some x→W.cell? ⟨b,o+i,none⟩=some (.int .i64 x))∧∀x∈l,-9223372036854775808≤x∧x≤9223372036854775807:=by
   intro k;induction k with
   |zero=>exact fun _=>⟨[],rfl,(fun i x hx=>by cases hx),fun x hx=>by cases hx⟩
   |succ k ih=>
    intro hk;(obtain⟨l,hl1,hl2,hl3⟩:=ih (by omega));(obtain⟨cs',g1,g2⟩:=hi k (by omega));rw[c3,Nat.mul_one] at g1;obtain⟨g3,g4⟩:=Kk g1
    match cs',g3 with
    |[u],_=>
     obtain⟨z,rfl,hz⟩:=C1 Tryz.underlying3 g2;have hz2:=Ik hz;refine⟨l++[z],by rw[List.length_append,hl1];rfl,fun i w hw=>?_,fun x hx=>?_⟩
     ·rcases Nat.lt_or_ge i l.length with h|h
      ·rw[List.getElem?_append_left h] at hw;exact hl2 i w hw
      ·rw[List.getElem?_append_right h] at hw;have e:i=k:=by
        have:=(List.getElem?_eq_some_iff.1 hw).1;simp at this;omega
       subst e;rw[hl1,Nat.sub_self] at hw;(injection hw with hw);subst hw;exact g4 0 (by omega)
     ·rcases List.mem_append.1 hx with h|h
      ·exact hl3 x h
      ·obtain rfl:=List.mem_singleton.1 h;exact hz2
  obtain⟨l,hl1,hl2,hl3⟩:=key ln (Nat.le_refl _);exact⟨l, .inr ⟨b,o,cn,by rw[hl1],by omega,hbb,hl2⟩,by omega,hl3⟩
end
end Go.Proofs.YtgfcnjfmmjcodaaGreatDoor
