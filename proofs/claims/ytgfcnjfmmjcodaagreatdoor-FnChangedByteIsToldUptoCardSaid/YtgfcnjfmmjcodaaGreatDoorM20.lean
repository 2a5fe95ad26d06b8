/- chooser.octal of the specification. -/
import Derived.Test.YtgfcnjfmmjcodaaGreatDoorM15
set_option linter.all false
set_option maxRecDepth 100000
set_option maxHeartbeats 1000000
namespace Go.Proofs.YtgfcnjfmmjcodaaGreatDoor
section
open Go Go.RowKit
def OctEnd (w : World) (C m b off k n : Nat) (cur : List Value) (t : TypeId) (e : Ending) (w' : World) : Prop :=
 e = .returned (.tuple #[]) ∧ Kp (fun i => i = b ∨ i = C) w w' ∧ Cho w' C (m + 3) ∧ ∃ tail k0 k1, 1 ≤ tail ∧ tail ≤ 2 ∧ n < 8 ^ (k - tail) ∧ w'.heap[b]? = some (.cells (splice cur off (ubs (octL (k - tail) n ++ tails k0 k1 tail))).toArray t (0, 0))
theorem octal_any (w : World) (C m b off k c : Nat) (n : Nat) (cur : List Value) (t : TypeId) (hC : Cho w C m) (hm : m ≤ 1000000000000) (hCb : C < b) (hk : 3 ≤ k ∧ k ≤ 12) (hkc : k ≤ c) (hn : n < 8 ^ (k - 1)) (hb : w.heap[b]? = some (.cells cur.toArray t (0, 0))) (hfit : off + k ≤ cur.length) :
  Calls Tryz.prog 199 #[.pointer (some ⟨C, 0, none⟩), .slice (some ⟨b, off, none⟩) k c, .int .i64 n] w (OctEnd w C m b off k n cur t) := by
 have hn2 : (n : Int) ≤ 9223372036854775807 := by
  have : 8 ^ (k - 1) ≤ 8 ^ 11 := Nat.pow_le_pow_right (by omega) (by omega)
  omega
 have HF := fun W => Lib.hid (fitsOctal_any W (k - 1) n (by omega) (by omega))
 have HC := Lib.hid hC
 clear hC
 have hkt : (k : Int) - 1 = ((k - 1 : Nat) : Int) := by omega
 go_enter Tryz.func199, Tryz.ntmps199
 go_wp2_with fail
 refine (HF w).out.mono ?_
 rintro e w1 ⟨rfl, rfl⟩
 obtain ⟨β, hβ⟩ : ∃ β, (decide (0 ≤ (n : Int)) && decide ((n : Int) < 8 ^ (k - 1 - 1))) = β := ⟨_, rfl⟩
 rw [hβ]
 have HBETA := Lib.hid hβ
 clear hβ
 cases β
 ·go_wp2_with fail
  refine (of_any w1 C m 2 HC.out (by omega) (by omega)).mono ?_
  rintro e w2 ⟨⟨v1, hv1, rfl⟩, hk2, hc2⟩
  have hb2 := hk2.heap hb (by omega)
  have HC2 := Lib.hid hc2
  go_wp2_with fail
  refine (of_any w2 C (m + 1) 2 HC2.out (by omega) (by omega)).mono ?_
  rintro e w3 ⟨⟨v2, hv2, rfl⟩, hk3, hc3⟩
  have hb3 := hk3.heap hb2 (by omega)
  have hk13 := (hk2.mono (fun _ _ h => h) : Kp (fun i => i = C) w1 w2).trans hk3
  have hk14 : ∀ o, Kp (fun i => i = C) w1 (w3.alloc o) := fun o => hk13.alloc o
  have hb4 : ∀ o, (w3.alloc o).heap[b]? = some (.cells cur.toArray t (0, 0)) := fun o => ((Kp.refl (fun _ => False) w3).alloc o).heap hb3 (fun h => h)
  have hc4 : ∀ o, Cho (w3.alloc o) C (m + 2) := fun o => hc3.keep ((Kp.refl (fun _ => False) w3).alloc o) (fun _ h => h.elim) (by omega)
  have hbo : ∀ x y : Bool, BoolsAt (w3.alloc (.cells #[.bool x, .bool y] 4)) w3.heap.size 0 2 := by
   intro x y i hi
   have := heap_new w3 (.cells #[.bool x, .bool y] 4)
   rcases i with _ | _ | i
   ·exact ⟨x, cell_of this 0 rfl⟩
   ·exact ⟨y, cell_of this 1 rfl⟩
   ·omega
  have hsz4 : ∀ o, (w3.alloc o).heap.size = w3.heap.size + 1 := fun o => by show (w3.heap.push _).size = _; simp
  have HK14 := Lib.hid hk14
  have HB4 := Lib.hid hb4
  have HC4 := Lib.hid hc4
  have HBO := Lib.hid hbo
  clear hk2 hc2 hb2 HC2 hk3 hc3 hb3 hk13 hk14 hb4 hc4 hbo HC hb HF
  go_wp2_with fail
  refine (putOctal_any _ k 1 n w3.heap.size 0 2 2 (by omega) (by omega) hn (by omega) (HBO.out _ _) (by rw [hsz4]; omega) (by omega) (by omega)).mono ?_
  rintro e w5 ⟨rfl, hk5, k0, k1, hrow⟩
  have hb5 := hk5.heap (HB4.out _) (fun h => h)
  have hc5 := (HC4.out _).keep hk5 (fun _ h => h.elim) (Nat.le_refl _)
  have hk15 := (HK14.out _).then hk5 (fun _ _ h => h.elim)
  have hlen : (octL (k - 1) n ++ tails k0 k1 1).length = Nat.min k k := by rw [List.length_append, octL_len, tails, List.length_take, show Nat.min k k = k from Nat.min_self k]; simp; omega
  have hsrc : ∀ (j : Nat) (v : Value), (ubs (octL (k - 1) n ++ tails k0 k1 1))[j]? = some v → w5.cell? ((⟨w3.heap.size + 1, 0, none⟩ : Addr).add j) = some v := by
   intro j v hv
   rw [add_plain', Nat.zero_add]
   rw [hsz4] at hrow
   exact cell_of hrow j (by simpa using hv)
  have hft : off + (octL (k - 1) n ++ tails k0 k1 1).length ≤ cur.length := by rw [hlen, show Nat.min k k = k from Nat.min_self k]; exact hfit
  rw [hsz4]
  have HLEN := Lib.hid hlen
  have HSRC := Lib.hid hsrc
  have HFT := Lib.hid hft
  have HB5 := Lib.hid hb5
  have HC5 := Lib.hid hc5
  have HK15 := Lib.hid hk15
  clear hlen hsrc hft hb5 hc5 hk15 hrow hk5 HK14 HB4 HC4 HBO hsz4
  dsimp only
  rename_i K h
  refine h _ _ ?_
  refine wp_copy rfl (.tmp 21) (.tmp 33) rfl b off k c k k ⟨w3.heap.size + 1, 0, none⟩ rfl rfl cur t HB5.out (octL (k - 1) n ++ tails k0 k1 1) HLEN.out HSRC.out HFT.out ?_
  intro w6 hk6 hb6
  go_wp2_with fail
  go_end0
  exact ⟨rfl, (HK15.out.mono (fun _ _ h => .inr h)).trans (hk6.mono (fun _ _ h => .inl h)), HC5.out.keep hk6 (fun i hi => by omega) (by omega), 1, k0, k1, by omega, by omega, hn, hb6⟩
 ·have hnt : n < 8 ^ (k - 2) := by
   have := HBETA.out
   rw [Bool.and_eq_true] at this
   have h2 := of_decide_eq_true this.2
   have e : k - 1 - 1 = k - 2 := by omega
   rw [e] at h2
   have h3 : ((8 ^ (k - 2) : Nat) : Int) = (8 : Int) ^ (k - 2) := by rw [Int.natCast_pow]; rfl
   omega
  go_wp2_with fail
  refine (of_any w1 C m 2 HC.out (by omega) (by omega)).mono ?_
  rintro e wq ⟨⟨v, hv, rfl⟩, hkq, hcq⟩
  have hbq := hkq.heap hb (by omega)
  have HCQ := Lib.hid hcq
  clear hcq
  rcases v with _ | _ | v
  ·go_wp2_with fail
   refine (of_any wq C (m + 1) 2 HCQ.out (by omega) (by omega)).mono ?_
   rintro e w2 ⟨⟨v1, hv1, rfl⟩, hk2, hc2⟩
   have hb2 := hk2.heap hbq (by omega)
   have HC2 := Lib.hid hc2
   go_wp2_with fail
   refine (of_any w2 C (m + 1 + 1) 2 HC2.out (by omega) (by omega)).mono ?_
   rintro e w3 ⟨⟨v2, hv2, rfl⟩, hk3, hc3⟩
   have hb3 := hk3.heap hb2 (by omega)
   have hk13 := (hk2.mono (fun _ _ h => h) : Kp (fun i => i = C) wq w2).trans hk3
   have hk14 : ∀ o, Kp (fun i => i = C) w1 (w3.alloc o) := fun o => (hkq.trans hk13).alloc o
   have hb4 : ∀ o, (w3.alloc o).heap[b]? = some (.cells cur.toArray t (0, 0)) := fun o => ((Kp.refl (fun _ => False) w3).alloc o).heap hb3 (fun h => h)
   have hc4 : ∀ o, Cho (w3.alloc o) C (m + 3) := fun o => hc3.keep ((Kp.refl (fun _ => False) w3).alloc o) (fun _ h => h.elim) (by omega)
   have hbo : ∀ x y : Bool, BoolsAt (w3.alloc (.cells #[.bool x, .bool y] 4)) w3.heap.size 0 2 := by
    intro x y i hi
    have := heap_new w3 (.cells #[.bool x, .bool y] 4)
    rcases i with _ | _ | i
    ·exact ⟨x, cell_of this 0 rfl⟩
    ·exact ⟨y, cell_of this 1 rfl⟩
    ·omega
   have hsz4 : ∀ o, (w3.alloc o).heap.size = w3.heap.size + 1 := fun o => by show (w3.heap.push _).size = _; simp
   have HK14 := Lib.hid hk14
   have HB4 := Lib.hid hb4
   have HC4 := Lib.hid hc4
   have HBO := Lib.hid hbo
   clear hk2 hc2 hb2 HC2 hk3 hc3 hb3 hk13 hk14 hb4 hc4 hbo HC hb HF HCQ hbq hkq
   go_wp2_with fail
   refine (putOctal_any _ k 1 n w3.heap.size 0 2 2 (by omega) (by omega) hn (by omega) (HBO.out _ _) (by rw [hsz4]; omega) (by omega) (by omega)).mono ?_
   rintro e w5 ⟨rfl, hk5, k0, k1, hrow⟩
   have hb5 := hk5.heap (HB4.out _) (fun h => h)
   have hc5 := (HC4.out _).keep hk5 (fun _ h => h.elim) (Nat.le_refl _)
   have hk15 := (HK14.out _).then hk5 (fun _ _ h => h.elim)
   have hlen : (octL (k - 1) n ++ tails k0 k1 1).length = Nat.min k k := by rw [List.length_append, octL_len, tails, List.length_take, show Nat.min k k = k from Nat.min_self k]; simp; omega
   have hsrc : ∀ (j : Nat) (v : Value), (ubs (octL (k - 1) n ++ tails k0 k1 1))[j]? = some v → w5.cell? ((⟨w3.heap.size + 1, 0, none⟩ : Addr).add j) = some v := by
    intro j v hv
    rw [add_plain', Nat.zero_add]
    rw [hsz4] at hrow
    exact cell_of hrow j (by simpa using hv)
   have hft : off + (octL (k - 1) n ++ tails k0 k1 1).length ≤ cur.length := by rw [hlen, show Nat.min k k = k from Nat.min_self k]; exact hfit
   rw [hsz4]
   have HLEN := Lib.hid hlen
   have HSRC := Lib.hid hsrc
   have HFT := Lib.hid hft
   have HB5 := Lib.hid hb5
   have HC5 := Lib.hid hc5
   have HK15 := Lib.hid hk15
   clear hlen hsrc hft hb5 hc5 hk15 hrow hk5 HK14 HB4 HC4 HBO hsz4
   dsimp only
   rename_i K h
   refine h _ _ ?_
   refine wp_copy rfl (.tmp 21) (.tmp 33) rfl b off k c k k ⟨w3.heap.size + 1, 0, none⟩ rfl rfl cur t HB5.out (octL (k - 1) n ++ tails k0 k1 1) HLEN.out HSRC.out HFT.out ?_
   intro w6 hk6 hb6
   go_wp2_with fail
   go_end0
   exact ⟨rfl, (HK15.out.mono (fun _ _ h => .inr h)).trans (hk6.mono (fun _ _ h => .inl h)), HC5.out.keep hk6 (fun i hi => by omega) (by omega), 1, k0, k1, by omega, by omega, hn, hb6⟩
  ·go_wp2_with fail
   refine (of_any wq C (m + 1) 2 HCQ.out (by omega) (by omega)).mono ?_
   rintro e w2 ⟨⟨v1, hv1, rfl⟩, hk2, hc2⟩
   have hb2 := hk2.heap hbq (by omega)
   have HC2 := Lib.hid hc2
   go_wp2_with fail
   refine (of_any w2 C (m + 1 + 1) 2 HC2.out (by omega) (by omega)).mono ?_
   rintro e w3 ⟨⟨v2, hv2, rfl⟩, hk3, hc3⟩
   have hb3 := hk3.heap hb2 (by omega)
   have hk13 := (hk2.mono (fun _ _ h => h) : Kp (fun i => i = C) wq w2).trans hk3
   have hk14 : ∀ o, Kp (fun i => i = C) w1 (w3.alloc o) := fun o => (hkq.trans hk13).alloc o
   have hb4 : ∀ o, (w3.alloc o).heap[b]? = some (.cells cur.toArray t (0, 0)) := fun o => ((Kp.refl (fun _ => False) w3).alloc o).heap hb3 (fun h => h)
   have hc4 : ∀ o, Cho (w3.alloc o) C (m + 3) := fun o => hc3.keep ((Kp.refl (fun _ => False) w3).alloc o) (fun _ h => h.elim) (by omega)
   have hbo : ∀ x y : Bool, BoolsAt (w3.alloc (.cells #[.bool x, .bool y] 4)) w3.heap.size 0 2 := by
    intro x y i hi
    have := heap_new w3 (.cells #[.bool x, .bool y] 4)
    rcases i with _ | _ | i
    ·exact ⟨x, cell_of this 0 rfl⟩
    ·exact ⟨y, cell_of this 1 rfl⟩
    ·omega
   have hsz4 : ∀ o, (w3.alloc o).heap.size = w3.heap.size + 1 := fun o => by show (w3.heap.push _).size = _; simp
   have HK14 := Lib.hid hk14
   have HB4 := Lib.hid hb4
   have HC4 := Lib.hid hc4
   have HBO := Lib.hid hbo
   clear hk2 hc2 hb2 HC2 hk3 hc3 hb3 hk13 hk14 hb4 hc4 hbo HC hb HF HCQ hbq hkq
   go_wp2_with fail
   refine (putOctal_any _ k 2 n w3.heap.size 0 2 2 (by omega) (by omega) hnt (by omega) (HBO.out _ _) (by rw [hsz4]; omega) (by omega) (by omega)).mono ?_
   rintro e w5 ⟨rfl, hk5, k0, k1, hrow⟩
   have hb5 := hk5.heap (HB4.out _) (fun h => h)
   have hc5 := (HC4.out _).keep hk5 (fun _ h => h.elim) (Nat.le_refl _)
   have hk15 := (HK14.out _).then hk5 (fun _ _ h => h.elim)
   have hlen : (octL (k - 2) n ++ tails k0 k1 2).length = Nat.min k k := by rw [List.length_append, octL_len, tails, List.length_take, show Nat.min k k = k from Nat.min_self k]; simp; omega
   have hsrc : ∀ (j : Nat) (v : Value), (ubs (octL (k - 2) n ++ tails k0 k1 2))[j]? = some v → w5.cell? ((⟨w3.heap.size + 1, 0, none⟩ : Addr).add j) = some v := by
    intro j v hv
    rw [add_plain', Nat.zero_add]
    rw [hsz4] at hrow
    exact cell_of hrow j (by simpa using hv)
   have hft : off + (octL (k - 2) n ++ tails k0 k1 2).length ≤ cur.length := by rw [hlen, show Nat.min k k = k from Nat.min_self k]; exact hfit
   rw [hsz4]
   have HLEN := Lib.hid hlen
   have HSRC := Lib.hid hsrc
   have HFT := Lib.hid hft
   have HB5 := Lib.hid hb5
   have HC5 := Lib.hid hc5
   have HK15 := Lib.hid hk15
   clear hlen hsrc hft hb5 hc5 hk15 hrow hk5 HK14 HB4 HC4 HBO hsz4
   dsimp only
   rename_i K h
   refine h _ _ ?_
   refine wp_copy rfl (.tmp 21) (.tmp 33) rfl b off k c k k ⟨w3.heap.size + 1, 0, none⟩ rfl rfl cur t HB5.out (octL (k - 2) n ++ tails k0 k1 2) HLEN.out HSRC.out HFT.out ?_
   intro w6 hk6 hb6
   go_wp2_with fail
   go_end0
   exact ⟨rfl, (HK15.out.mono (fun _ _ h => .inr h)).trans (hk6.mono (fun _ _ h => .inl h)), HC5.out.keep hk6 (fun i hi => by omega) (by omega), 2, k0, k1, by omega, by omega, hnt, hb6⟩
  ·omega
end
section
open Go Go.RowKit
def NumEnd (w : World) (C m b off k : Nat) (n : Int) (gnu : Bool) (cur : List Value) (t : TypeId) (e : Ending) (w' : World) : Prop :=
 e = .returned (.tuple #[]) ∧ Kp (fun i => i = b ∨ i = C) w w' ∧ Cho w' C (m + 4) ∧ ∃ f, NumE gnu k n f ∧ w'.heap[b]? = some (.cells (splice cur off (ubs f)).toArray t (0, 0))
theorem OctEnd.num {w w0 : World} {C m m' b off k n : Nat} {cur : List Value} {t : TypeId} {e : Ending} {w' : World} (gnu : Bool) (h : OctEnd w C m b off k n cur t e w') (hk : 3 ≤ k) (hm : m + 3 ≤ m' + 4) (h0 : Kp (fun i => i = b ∨ i = C) w0 w) : NumEnd w0 C m' b off k n gnu cur t e w' := by
 obtain ⟨h1, h2, h3, tail, k0, k1, h4, h5, h6, h7⟩ := h
 exact ⟨h1, h0.trans h2, h3.keep (Kp.refl (fun _ => False) _) (fun _ h => h.elim) hm, _, .oct n tail k0 k1 rfl h4 h5 (by omega) h6, h7⟩
theorem number_ustar (w : World) (C m b off k c : Nat) (n : Nat) (cur : List Value) (t : TypeId) (hC : Cho w C m) (hm : m ≤ 1000000000000) (hCb : C < b) (hk : 3 ≤ k ∧ k ≤ 12) (hkc : k ≤ c) (hn : n < 8 ^ (k - 1)) (hb : w.heap[b]? = some (.cells cur.toArray t (0, 0))) (hfit : off + k ≤ cur.length) :
  Calls Tryz.prog 123 #[.pointer (some ⟨C, 0, none⟩), .slice (some ⟨b, off, none⟩) k c, .int .i64 n, .bool false] w (NumEnd w C m b off k n false cur t) := by
 have HO := Lib.hid (octal_any w C m b off k c n cur t hC hm hCb hk hkc hn hb hfit)
 clear hC hb
 go_enter Tryz.func123, Tryz.ntmps123
 go_wp2_with fail
 refine HO.out.mono ?_
 intro e w1 h
 have hend := h.num false (m' := m) (by omega) (by omega) (Kp.refl _ _)
 obtain ⟨rfl, _⟩ := id h
 have HE := Lib.hid hend
 clear h hend HO
 go_wp2_with fail
 go_end0
 exact HE.out
end
section
open Go Go.RowKit
theorem number_gnu (w : World) (C m b off k c : Nat) (n : Int) (cur : List Value) (t : TypeId) (hC : Cho w C m) (hm : m + 10 ≤ 1000000000000) (hCb : C < b) (hk : 3 ≤ k ∧ k ≤ 12) (hkc : k ≤ c) (hn : -9223372036854775808 ≤ n ∧ n ≤ 9223372036854775807) (hb : w.heap[b]? = some (.cells cur.toArray t (0, 0))) (hfit : off + k ≤ cur.length) :
  Calls Tryz.prog 123 #[.pointer (some ⟨C, 0, none⟩), .slice (some ⟨b, off, none⟩) k c, .int .i64 n, .bool true] w (NumEnd w C m b off k n true cur t) := by
 have HF := fun W => Lib.hid (fitsOctal_any W k n (by omega) hn)
 have HC := Lib.hid hC
 clear hC
 go_enter Tryz.func123, Tryz.ntmps123
 go_wp2_with fail
 refine (HF w).out.mono ?_
 rintro e w1 ⟨rfl, rfl⟩
 obtain ⟨β, hβ⟩ : ∃ β, (decide (0 ≤ n) && decide (n < 8 ^ (k - 1))) = β := ⟨_, rfl⟩
 rw [hβ]
 have HBETA := Lib.hid hβ
 clear hβ HF
 cases β
 ·go_wp2_with fail
  refine (putBytes_any w1 k n (by omega) hn).mono ?_
  rintro e w5 ⟨rfl, hk5, hrow⟩
  have hb5 := Lib.hid (hk5.heap hb (fun h => h))
  have hc5 := Lib.hid (HC.out.keep hk5 (fun _ h => h.elim) (Nat.le_refl _))
  have hk15 := Lib.hid ((Kp.refl (fun i => i = C) w1).then hk5 (fun _ _ h => h.elim))
  have hlen := Lib.hid (show (binF (k - 1) n).length = Nat.min k k by rw [show Nat.min k k = k from Nat.min_self k, binF, List.length_cons, binL_len]; omega)
  have hsrc : Hid (∀ (j : Nat) (v : Value), (ubs (binF (k - 1) n))[j]? = some v → w5.cell? ((⟨w1.heap.size, 0, none⟩ : Addr).add j) = some v) := by
   intro j v hv
   rw [add_plain', Nat.zero_add]
   exact cell_of hrow j (by simpa using hv)
  have hft := Lib.hid (show off + (binF (k - 1) n).length ≤ cur.length by rw [hlen.out, show Nat.min k k = k from Nat.min_self k]; exact hfit)
  dsimp only
  rename_i K h
  refine h _ _ ?_
  refine wp_copy rfl (.tmp 21) (.tmp 25) rfl b off k c k k ⟨w1.heap.size, 0, none⟩ rfl rfl cur t hb5.out (binF (k - 1) n) hlen.out hsrc.out hft.out ?_
  intro w6 hk6 hb6
  have HE : Hid (NumEnd w1 C m b off k n true cur t (.returned (.tuple #[])) w6) := ⟨rfl, (hk15.out.mono (fun _ _ h => .inr h)).trans (hk6.mono (fun _ _ h => .inl h)), hc5.out.keep hk6 (fun i hi => by omega) (by omega), _, .bin rfl (by omega), hb6⟩
  go_wp2_with fail
  go_end0
  exact HE.out
 ·go_wp2_with fail
  refine (of_any w1 C m 3 HC.out (by omega) (by omega)).mono ?_
  rintro e w2 ⟨⟨v, hv, rfl⟩, hk2, hc2⟩
  have HB2 := Lib.hid (hk2.heap hb (by omega))
  have HC2 := Lib.hid hc2
  have HK2 := Lib.hid hk2
  clear hk2 hc2 HC hb
  by_cases hv0 : v = 0
  ·subst hv0
   go_wp2_with fail
   refine (putBytes_any w2 k n (by omega) hn).mono ?_
   rintro e w5 ⟨rfl, hk5, hrow⟩
   have hb5 := Lib.hid (hk5.heap HB2.out (fun h => h))
   have hc5 := Lib.hid (HC2.out.keep hk5 (fun _ h => h.elim) (Nat.le_refl _))
   have hk15 := Lib.hid (HK2.out.then hk5 (fun _ _ h => h.elim))
   have hlen := Lib.hid (show (binF (k - 1) n).length = Nat.min k k by rw [show Nat.min k k = k from Nat.min_self k, binF, List.length_cons, binL_len]; omega)
   have hsrc : Hid (∀ (j : Nat) (v : Value), (ubs (binF (k - 1) n))[j]? = some v → w5.cell? ((⟨w2.heap.size, 0, none⟩ : Addr).add j) = some v) := by
    intro j v hv
    rw [add_plain', Nat.zero_add]
    exact cell_of hrow j (by simpa using hv)
   have hft := Lib.hid (show off + (binF (k - 1) n).length ≤ cur.length by rw [hlen.out, show Nat.min k k = k from Nat.min_self k]; exact hfit)
   dsimp only
   rename_i K h
   refine h _ _ ?_
   refine wp_copy rfl (.tmp 21) (.tmp 25) rfl b off k c k k ⟨w2.heap.size, 0, none⟩ rfl rfl cur t hb5.out (binF (k - 1) n) hlen.out hsrc.out hft.out ?_
   intro w6 hk6 hb6
   have HE : Hid (NumEnd w1 C m b off k n true cur t (.returned (.tuple #[])) w6) := ⟨rfl, (hk15.out.mono (fun _ _ h => .inr h)).trans (hk6.mono (fun _ _ h => .inl h)), hc5.out.keep hk6 (fun i hi => by omega) (by omega), _, .bin rfl (by omega), hb6⟩
   go_wp2_with fail
   go_end0
   exact HE.out
  ·have hv1 : ((v : Int) == 0) = false := by rw [beq_eq_false_iff_ne]; omega
   go_wp2_with fail
   have hb' := HBETA.out
   rw [Bool.and_eq_true] at hb'
   have h0 := of_decide_eq_true hb'.1
   have h1 := of_decide_eq_true hb'.2
   obtain ⟨q, rfl⟩ : ∃ q : Nat, n = (q : Int) := ⟨n.toNat, by omega⟩
   have hq : q < 8 ^ (k - 1) := by
    have h3 : ((8 ^ (k - 1) : Nat) : Int) = (8 : Int) ^ (k - 1) := by rw [Int.natCast_pow]; rfl
    omega
   refine (octal_any w2 C (m + 1) b off k c q cur t HC2.out (by omega) hCb hk hkc hq HB2.out hfit).mono ?_
   intro e w3 h
   have hend := h.num true (m' := m) (by omega) (by omega) (HK2.out.mono (fun _ _ h => .inr h))
   obtain ⟨rfl, _⟩ := id h
   have HE := Lib.hid hend
   clear h hend h0 h1 hb' hq
   go_wp2_with fail
   go_end0
   exact HE.out
end
section
open Go.RowKit
theorem set_getD (l : List UInt8) (p k : Nat) (y : UInt8) (hp : p < l.length) : (l.set p y).getD k 0 = if p = k then y else l.getD k 0 := by
 rw [List.getD_eq_getElem?_getD, List.getD_eq_getElem?_getD, List.getElem?_set]
 by_cases h : p = k
 ·rw [if_pos h, if_pos h, if_pos hp]; rfl
 ·rw [if_neg h, if_neg h]
theorem usumTo_set (l : List UInt8) (p : Nat) (y : UInt8) (hp : p < l.length) (hs : ¬ (148 ≤ p ∧ p < 156)) : ∀ k, usumTo (l.set p y) k + (if p < k then (l.getD p 0).toNat else 0) = usumTo l k + (if p < k then y.toNat else 0) := by
 intro k
 induction k with
 | zero => rfl
 | succ k ih =>
  rw [usumTo, usumTo, set_getD l p k y hp]
  by_cases h : p = k
  ·subst h
   rw [if_pos rfl, if_pos (Nat.lt_succ_self _), if_pos (Nat.lt_succ_self _)]
   rw [if_neg (Nat.lt_irrefl _), if_neg (Nat.lt_irrefl _)] at ih
   unfold ck
   rw [if_neg hs, if_neg hs]
   omega
  ·rw [if_neg h]
   by_cases h2 : p < k
   ·rw [if_pos (by omega), if_pos (by omega)]
    rw [if_pos h2, if_pos h2] at ih
    omega
   ·rw [if_neg (by omega), if_neg (by omega)]
    rw [if_neg h2, if_neg h2] at ih
    omega
theorem ssum_usum (l : List UInt8) : ∀ k, ∃ q : Nat, ssumTo l k = (usumTo l k : Int) - 256 * q := by
 intro k
 induction k with
 | zero => exact ⟨0, rfl⟩
 | succ k ih =>
  obtain ⟨q, hq⟩ := ih
  rw [ssumTo, usumTo, hq]
  unfold sgI
  split
  ·exact ⟨q, by omega⟩
  ·exact ⟨q + 1, by omega⟩
theorem sums_changed (l : List UInt8) (p : Nat) (y : UInt8) (hl : l.length = 512) (hp : p < 512) (hs : ¬ (148 ≤ p ∧ p < 156)) (hy : y ≠ l.getD p 0) :
  ¬ ((usumTo l 512 : Int) = usumTo (l.set p y) 512 ∨ (usumTo l 512 : Int) = ssumTo (l.set p y) 512) := by
 have h1 := usumTo_set l p y (by omega) hs 512
 rw [if_pos hp, if_pos hp] at h1
 have hne : y.toNat ≠ (l.getD p 0).toNat := fun e => hy (UInt8.toNat_inj.1 e)
 have hy1 := y.toNat_lt
 have hy2 := (l.getD p 0).toNat_lt
 obtain ⟨q, hq⟩ := ssum_usum (l.set p y) 512
 rw [hq]
 rintro (h | h)
 ·omega
 ·omega
structure Sum512 (l : List UInt8) : Prop where
 len : l.length = 512
 sum : NumE false 8 (usumTo l 512) (fld l 148 8)
theorem BlkE.sum512 {h : Hd} {gnu : Bool} {l : List UInt8} (b : BlkE h gnu l) : Sum512 l := ⟨b.len, b.sum⟩
theorem file_first {h : Hd} {data b : List UInt8} (he : FileE h data b) : ∃ l rest, b = l ++ rest ∧ Sum512 l := by
 have hm : ∀ {kind name d g m}, MetaE kind name d g m → ∃ l rest, m = l ++ rest ∧ Sum512 l := fun h => by
  obtain ⟨l, hb⟩ := h
  exact ⟨l, _, rfl, hb.sum512⟩
 have hlong : ∀ {kind s m}, LongE kind s m → m = [] ∨ ∃ l rest, m = l ++ rest ∧ Sum512 l := fun h => by
  rcases h with ⟨h, _⟩ | ⟨_, h⟩
  ·exact .inl h
  ·exact .inr (hm h)
 cases he with
 | glob ht rs t m hrs hin hw hr hme => exact hm hme
 | ustar ht hf l hl => exact ⟨l, _, rfl, hl.sum512⟩
 | pax0 ht hf h0 l hl => exact ⟨l, _, rfl, hl.sum512⟩
 | pax ht hf rs hr t m hrt hme l hl =>
  obtain ⟨l0, r0, rfl, h0⟩ := hm hme
  exact ⟨l0, _, by rw [List.append_assoc], h0⟩
 | gnu ht hf first m k hme hk l hl =>
  have key : ∀ x y : List UInt8, (x = [] ∨ ∃ l rest, x = l ++ rest ∧ Sum512 l) → (y = [] ∨ ∃ l rest, y = l ++ rest ∧ Sum512 l) → ∃ l' rest, (x ++ y) ++ (l ++ bodyE h data) = l' ++ rest ∧ Sum512 l' := by
   rintro x y (rfl | ⟨l0, r0, rfl, h0⟩) hy
   ·rcases hy with rfl | ⟨l0, r0, rfl, h0⟩
    ·exact ⟨l, _, rfl, hl.sum512⟩
    ·exact ⟨l0, _, by rw [List.nil_append, List.append_assoc], h0⟩
   ·exact ⟨l0, _, by rw [List.append_assoc, List.append_assoc], h0⟩
  cases first
  ·exact key k m (hlong hk) (hlong hme)
  ·exact key m k (hlong hme) (hlong hk)
theorem fld_set_out (l : List UInt8) (o n p : Nat) (y : UInt8) (h : p < o ∨ o + n ≤ p) : fld (l.set p y) o n = fld l o n := by
 apply List.ext_getElem?
 intro j
 rw [fld_get, fld_get]
 by_cases hj : j < n
 ·rw [if_pos hj, if_pos hj, List.getElem?_set, if_neg (by omega)]
 ·rw [if_neg hj, if_neg hj]
theorem changed_bad {h : Hd} {data b : List UInt8} (he : FileE h data b) (tail : List UInt8) (p : Nat) (y : UInt8) (hp : p < 512) (hs : ¬ (148 ≤ p ∧ p < 156)) (hy : y ≠ (b ++ tail).getD p 0) :
  HeadP 0 0 none [] [] ((b ++ tail).set p y) (.fail 1) := by
 obtain ⟨l, rest, rfl, hl⟩ := file_first he
 have hlen := hl.len
 have e : ((l ++ rest) ++ tail).set p y = [] ++ [] ++ (l.set p y ++ (rest ++ tail)) := by
  rw [List.append_assoc, List.set_append_left _ _ (by omega)]; rfl
 have eg : ((l ++ rest) ++ tail).getD p 0 = l.getD p 0 := by
  rw [List.append_assoc, List.getD_eq_getElem?_getD, List.getD_eq_getElem?_getD, List.getElem?_append_left (by omega)]
 rw [eg] at hy
 rw [e]
 have ho : Nonempty (OctAt (fld (l.set p y) 148 8) (usumTo l 512)) := by
  rw [fld_set_out l 148 8 p y (by omega)]
  exact hl.sum.oct_of (by have := usumTo_le l 512; omega)
 refine .bad [] [] (l.set p y) (rest ++ tail) (usumTo l 512) rfl rfl (by rw [List.length_set]; exact hlen) ho (sums_changed l p y hlen hp hs hy) ?_
 intro hz
 rw [hz, show fld zblk 148 8 = List.replicate 8 0 by unfold zblk; exact fld_zero _ _ _ (by omega)] at ho
 obtain ⟨o⟩ := ho
 have hs := o.some
 cases hd : o.ds with
 | nil => rw [hd] at hs; simp at hs
 | cons x r =>
  have h1 := o.digit x (by rw [hd]; simp)
  have h2 := o.eq
  rw [hd] at h2
  injection h2 with h2
  rw [← h2] at h1
  simp at h1
end
end Go.Proofs.YtgfcnjfmmjcodaaGreatDoor
