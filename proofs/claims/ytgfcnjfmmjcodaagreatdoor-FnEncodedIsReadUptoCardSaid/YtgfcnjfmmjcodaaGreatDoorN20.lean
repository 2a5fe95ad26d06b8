/- chooser.number of the specification, in GNU blocks. -/
import Derived.Test.YtgfcnjfmmjcodaaGreatDoorN18
set_option linter.all false
set_option maxRecDepth 100000
set_option maxHeartbeats 1000000
open Go.Lib (hid)
namespace Go.Proofs.YtgfcnjfmmjcodaaGreatDoor
open Go Go.RowKit
theorem number_gnu (w:World)(C m b off k c:Nat)(n:Int)(cur:List Value)(t:TypeId)(hC:Cho w C m)(hm:m+10≤1000000000000)(hCb:C<b)(hk:3≤k∧k≤12)(hkc:k≤c)(hn: -9223372036854775808≤n∧n≤9223372036854775807)(hb:w.heap[b]?=some (.cells cur.toArray t (0,0)))(hfit:off+k≤cur.length) :
  Calls Tryz.prog 123 #[.pointer (some ⟨C,0,none⟩), .slice (some ⟨b,off,none⟩) k c, .int .i64 n, .bool true] w (NumEnd w C m b off k n true cur t):=by
 have HF:=fun W=>hid (fitsOctal_any W k n (by omega) hn)
 have HC:=hid hC
 clear hC
 go_enter Tryz.func123,Tryz.ntmps123
 go_wp2_with fail
 refine(HF w).out.mono ?_
 rintro e w1 ⟨rfl,rfl⟩
 obtain⟨β,hβ⟩:∃β,(decide (0≤n)&&decide (n<8 ^ (k-1)))=β:=⟨_,rfl⟩
 rw[hβ]
 have HBETA:=hid hβ
 clear hβ HF
 cases β
 ·go_wp2_with fail
  refine(putBytes_any w1 k n (by omega) hn).mono ?_
  rintro e w5 ⟨rfl,hk5,hrow⟩
  have hb5:=hid (hk5.heap hb (fun h=>h))
  have hc5:=hid (HC.out.keep hk5 (fun _ h=>h.elim) (Nat.le_refl _))
  have hk15:=hid ((Kp.refl (fun i=>i=C) w1).then hk5 (fun _ _ h=>h.elim))
  have hlen:=hid (show (binF (k-1) n).length=Nat.min k k by rw[show Nat.min k k=k from Nat.min_self k,binF,List.length_cons,binL_len];omega)
  have hsrc:Hid (∀(j:Nat) (v:Value),(ubs (binF (k-1) n))[j]?=some v→w5.cell? ((⟨w1.heap.size,0,none⟩:Addr).add j)=some v):=by
   intro j v hv
   rw[add_plain',Nat.zero_add]
   exact cell_of hrow j (by simpa using hv)
  have hft:=hid (show off+(binF (k-1) n).length≤cur.length by rw[hlen.out,show Nat.min k k=k from Nat.min_self k];exact hfit)
  dsimp only
  rename_i K h
  refine h _ _ ?_
  refine wp_copy rfl (.tmp 21) (.tmp 25) rfl b off k c k k ⟨w1.heap.size,0,none⟩ rfl rfl cur t hb5.out (binF (k-1) n) hlen.out hsrc.out hft.out ?_
  intro w6 hk6 hb6
  have HE:Hid (NumEnd w1 C m b off k n true cur t (.returned (.tuple #[])) w6):=⟨rfl,(hk15.out.mono (fun _ _ h=>.inr h)).trans (hk6.mono (fun _ _ h=>.inl h)),hc5.out.keep hk6 (fun i hi=>by omega) (by omega),_, .bin rfl (by omega),hb6⟩
  go_wp2_with fail
  go_end0
  exact HE.out
 ·go_wp2_with fail
  refine(of_any w1 C m 3 HC.out (by omega) (by omega)).mono ?_
  rintro e w2 ⟨⟨v,hv,rfl⟩,hk2,hc2⟩
  have HB2:=hid (hk2.heap hb (by omega))
  have HC2:=hid hc2
  have HK2:=hid hk2
  clear hk2 hc2 HC hb
  by_cases hv0:v=0
  ·subst hv0
   go_wp2_with fail
   refine(putBytes_any w2 k n (by omega) hn).mono ?_
   rintro e w5 ⟨rfl,hk5,hrow⟩
   have hb5:=hid (hk5.heap HB2.out (fun h=>h))
   have hc5:=hid (HC2.out.keep hk5 (fun _ h=>h.elim) (Nat.le_refl _))
   have hk15:=hid (HK2.out.then hk5 (fun _ _ h=>h.elim))
   have hlen:=hid (show (binF (k-1) n).length=Nat.min k k by rw[show Nat.min k k=k from Nat.min_self k,binF,List.length_cons,binL_len];omega)
   have hsrc:Hid (∀(j:Nat) (v:Value),(ubs (binF (k-1) n))[j]?=some v→w5.cell? ((⟨w2.heap.size,0,none⟩:Addr).add j)=some v):=by
    intro j v hv
    rw[add_plain',Nat.zero_add]
    exact cell_of hrow j (by simpa using hv)
   have hft:=hid (show off+(binF (k-1) n).length≤cur.length by rw[hlen.out,show Nat.min k k=k from Nat.min_self k];exact hfit)
   dsimp only
   rename_i K h
   refine h _ _ ?_
   refine wp_copy rfl (.tmp 21) (.tmp 25) rfl b off k c k k ⟨w2.heap.size,0,none⟩ rfl rfl cur t hb5.out (binF (k-1) n) hlen.out hsrc.out hft.out ?_
   intro w6 hk6 hb6
   have HE:Hid (NumEnd w1 C m b off k n true cur t (.returned (.tuple #[])) w6):=⟨rfl,(hk15.out.mono (fun _ _ h=>.inr h)).trans (hk6.mono (fun _ _ h=>.inl h)),hc5.out.keep hk6 (fun i hi=>by omega) (by omega),_, .bin rfl (by omega),hb6⟩
   go_wp2_with fail
   go_end0
   exact HE.out
  ·have hv1:((v:Int)==0)=false:=by rw[beq_eq_false_iff_ne];omega
   go_wp2_with fail
   have hb':=HBETA.out
   rw[Bool.and_eq_true] at hb'
   have h0:=of_decide_eq_true hb'.1
   have h1:=of_decide_eq_true hb'.2
   obtain⟨q,rfl⟩:∃q:Nat,n=(q:Int):=⟨n.toNat,by omega⟩
   have hq:q<8 ^ (k-1):=by
    have h3:((8 ^ (k-1):Nat):Int)=(8:Int) ^ (k-1):=by rw[Int.natCast_pow];rfl
    omega
   refine(octal_any w2 C (m+1) b off k c q cur t HC2.out (by omega) hCb hk hkc hq HB2.out hfit).mono ?_
   intro e w3 h
   have hend:=h.num true (m':=m) (by omega) (by omega) (HK2.out.mono (fun _ _ h=>.inr h))
   obtain⟨rfl,_⟩:=id h
   have HE:=hid hend
   clear h hend h0 h1 hb' hq
   go_wp2_with fail
   go_end0
   exact HE.out
end Go.Proofs.YtgfcnjfmmjcodaaGreatDoor
