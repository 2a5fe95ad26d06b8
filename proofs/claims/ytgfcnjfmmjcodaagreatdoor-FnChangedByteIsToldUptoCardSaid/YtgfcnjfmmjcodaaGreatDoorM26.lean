/- told. -/
import Derived.Test.YtgfcnjfmmjcodaaGreatDoorM23
import Derived.Test.YtgfcnjfmmjcodaaGreatDoorM25
set_option linter.all false
set_option maxRecDepth 100000
set_option maxHeartbeats 1000000
namespace Go.Proofs.YtgfcnjfmmjcodaaGreatDoor
open Go Go.RowKit
theorem copy_none_ex (w : World) {T ST ty : TypeId} (I : InfoR T ST) (base g cap k : Nat) (l : List Rec) (z : Rec) (hown : OwnR T w base (.slice (some ⟨g, 0, none⟩) (l.length + 1) cap) (l ++ [z])) (hk : k = l.length) (A : Addr) (c1 c2 : Nat) :
  ∃ w', (Builtin.copy_ #[ST, ST] ty #[.slice (some A) (l.length - k) c1, .slice (some ⟨g, k * 2, none⟩) (l.length + 1 - k) c2]).run Tryz.prog w = .ok (goInt (l.length - k : Nat)) w' ∧
   OwnR T w' base (.slice (some ⟨g, 0, none⟩) (l.length + 1) cap) ((l ++ [z]).take (k + 1) ++ l.drop k) ∧ Kp (fun i => i = g) w w' := by
 obtain ⟨i0, hi, hz, hsz, hby⟩ := I.info
 subst hk
 have hmin : Nat.min (l.length + 1 - l.length) (l.length - l.length) = 0 := by rw [Nat.sub_self]; exact Nat.min_eq_right (by omega)
 have hl := run_loadCells_list (P := Tryz.prog) w ⟨g, l.length * 2, none⟩ [] (fun j v hv => by simp at hv)
 have hst : (storeCells A ([] : List Value)).run Tryz.prog w = .ok () w := rfl
 have e : ((l ++ [z]).take (l.length + 1) ++ l.drop l.length) = l ++ [z] := by
  rw [List.drop_length, List.append_nil, List.take_of_length_le (by simp)]
 refine ⟨w, ?_, by rw [e]; exact hown, Kp.refl _ _⟩
 simp only [List.length_nil] at hl
 simp [Builtin.copy_, run_underlying I.und, Builtin.lenOf, Builtin.firstCells, sizeOf, typeInfo, hi, hsz, hmin, hl, hst]
theorem slice_from (W : World) (g n cap : Nat) (l : Int) (k : Nat) (hlk : l = (k : Int)) (hl : k ≤ n) (hc : cap ≠ k) :
  (Instr.slice 43 (.slice (some ⟨g, 0, none⟩) n cap) (some (.int .i64 l)) none none).run Tryz.prog W = .ok (.slice (some ⟨g, k * 2, none⟩) (n - k) (cap - k)) W := by
 subst hlk
 obtain ⟨i0, hi, hz, hsz, hby⟩ := infoS.info
 have hu : Tryz.prog.underlying 43 = some (.slice (Tryz.prog.elem 43)) := by kernel_rfl
 have he : Tryz.prog.elem 43 = 136 := by kernel_rfl
 rw [run_slice_l W 43 _ _ _ hu .i64 (k : Int) (by omega) (by omega), he]
 have hs : (sizeOf 136).run Tryz.prog W = .ok 2 W := by simp [sizeOf, typeInfo, hi, hsz]
 rw [hs]
 simp only [Result.andThen, sliced, Int.toNat_natCast, if_neg hc, Option.map]
 have e : Addr.add ⟨g, 0, none⟩ (k * 2) = ⟨g, k * 2, none⟩ := by simp [Addr.add]; intro h; rw [h]
 rw [e]
theorem when_any (w : World) (b : Bool) : Calls Tryz.prog 85 #[.bool b] w fun e w' => e = .returned (.int .i64 (if b then 1 else 2)) ∧ w' = w := by
 cases b
 ·go_enter Tryz.func85, Tryz.ntmps85
  go_wp2_with fail
  go_ret
  exact ⟨rfl, rfl⟩
 ·go_enter Tryz.func85, Tryz.ntmps85
  go_wp2_with fail
  go_ret
  exact ⟨rfl, rfl⟩
def slashB (l : List UInt8) : Bool := l.getLast? == some 47
theorem slashed_any (w : World) (l : List UInt8) (hl : l.length ≤ 1099511627776) : Calls Tryz.prog 83 #[.string ⟨l.toArray⟩] w fun e w' => e = .returned (.bool (slashB l)) ∧ w' = w := by
 rcases List.eq_nil_or_concat l with rfl | ⟨p, c, e0⟩
 ·go_enter Tryz.func83, Tryz.ntmps83
  go_wp2_with fail
  go_ret
  exact ⟨rfl, rfl⟩
 ·rw [List.concat_eq_append] at e0
  subst e0
  have hs : Hid (slashB (p ++ [c]) = (c == 47)) := by show _ = _; unfold slashB; rw [List.getLast?_concat]; rfl
  have hlt : p.length < (p ++ [c]).length := by simp
  have hg : (p ++ [c])[p.length] = c := by simp
  have e : ((p ++ [c]).length : Int) - 1 = (p.length : Int) := by simp
  have hE : (p ++ [c]).isEmpty = false := by cases p <;> rfl
  rw [hs.out]
  generalize p ++ [c] = l at *
  clear hs
  revert hg hlt e
  generalize p.length = k
  intro hlt hg e
  have h0 : (0 : Int) ≤ (k : Int) := by omega
  have h1 : (k : Int) < (l.length : Int) := by omega
  by_cases hc : c = 47
  ·have h2' : ((((⟨l.toArray⟩ : ByteArray)[k]'hlt).toNat : Int) == 47) = true := by show ((l[k].toNat : Int) == 47) = true; rw [hg, hc]; rfl
   subst hc
   clear hg
   go_enter Tryz.func83, Tryz.ntmps83
   go_wp2_with fail
   go_ret
   exact ⟨rfl, rfl⟩
  ·have h2' : ((((⟨l.toArray⟩ : ByteArray)[k]'hlt).toNat : Int) == 47) = false := by
    show ((l[k].toNat : Int) == 47) = false
    rw [hg, beq_eq_false_iff_ne]
    intro e
    exact hc (UInt8.toNat_inj.mp (by show c.toNat = 47; omega))
   have hcb : (c == 47) = false := by rw [beq_eq_false_iff_ne]; exact hc
   rw [hcb]
   clear hg hc hcb
   go_enter Tryz.func83, Tryz.ntmps83
   go_wp2_with fail
   go_ret
   exact ⟨rfl, rfl⟩
theorem odd_any (w : World) (s n : Int) : Calls Tryz.prog 106 #[.agg #[.int .i64 s, .int .i64 n]] w fun e w' => (∃ b, e = .returned (.bool b) ∧ (b = false → ¬ odd s n)) ∧ Kp (fun _ => False) w w' := by
 obtain ⟨b1, h1⟩ : ∃ b, (s == -62135596800) = b := ⟨_, rfl⟩
 obtain ⟨b2, h2⟩ : ∃ b, (n == 0) = b := ⟨_, rfl⟩
 obtain ⟨b3, h3⟩ : ∃ b, decide (n < 0) = b := ⟨_, rfl⟩
 obtain ⟨b4, h4⟩ : ∃ b, decide ((999999999 : Int) < n) = b := ⟨_, rfl⟩
 have F : Hid ((b1 && b2 || b3 || b4) = false → ¬ odd s n) := by
  show _ → _
  subst h1 h2 h3 h4
  intro hf ho
  simp only [Bool.or_eq_false_iff, Bool.and_eq_false_iff, beq_eq_false_iff_ne, decide_eq_false_iff_not] at hf
  unfold odd at ho
  omega
 cases b1 <;> cases b2 <;> cases b3 <;> cases b4 <;> (
  go_enter Tryz.func106, Tryz.ntmps106
  go_wp2_with fail
  go_ret
  exact ⟨⟨_, rfl, fun h => by first | exact F.out rfl | exact absurd h (by decide)⟩, (Kp.refl _ _).alloc _⟩)
def nulB (l : List UInt8) : Bool := l.any (· == 0)
theorem nulB_no {l : List UInt8} (h : nulB l = false) : NoNul l := fun c hc e => by
 subst e
 have := List.any_eq_false.1 h _ hc
 simp at this
theorem hasNul_any (w : World) (l : List UInt8) (hl : l.length ≤ 281474976710656) : Calls Tryz.prog 104 #[.string ⟨l.toArray⟩] w fun e w' => e = .returned (.bool (nulB l)) ∧ w' = w := by
 go_enter Tryz.func104, Tryz.ntmps104
 go_wp2_with fail
 go_loopg [3, 6] l.length (fun g s3 s6 wr => ∃ (i : Nat), i + g = l.length ∧ s6 = .int .i64 i ∧ Hid (nulB (l.take i) = false) ∧ wr = w)
 case atStart => exact ⟨0, by omega, rfl, rfl, rfl⟩
 case round =>
  obtain ⟨i, hi, rfl, ha, rfl⟩ := hrel
  by_cases hlt : i < l.length
  ·by_cases h2 : l[i] = 0
   ·have hbad : Hid (nulB l = true) := by
     show _ = _
     exact List.any_eq_true.2 ⟨_, List.getElem_mem hlt, by rw [h2]; rfl⟩
    have h2' : ((((⟨l.toArray⟩ : ByteArray)[i]'hlt).toNat : Int) == 0) = true := by show ((l[i].toNat : Int) == 0) = true; rw [h2]; rfl
    clear h2
    go_wp2_with fail
    go_ret
    rw [hbad.out]
    exact ⟨rfl, rfl⟩
   ·have hok : Hid (nulB (l.take (i + 1)) = false) := by
     show _ = _
     unfold nulB
     rw [List.take_succ_eq_append_getElem hlt, List.any_append, show (l.take i).any (· == 0) = false from ha.out]
     simp [h2]
    have h2' : ((((⟨l.toArray⟩ : ByteArray)[i]'hlt).toNat : Int) == 0) = false := by
     show ((l[i].toNat : Int) == 0) = false
     rw [beq_eq_false_iff_ne]
     intro e
     exact h2 (UInt8.toNat_inj.mp (by simpa using e))
    clear h2
    go_wp2_with fail
    go_roundg (gk - 1)
    case measure => omega
    case rel => exact ⟨i + 1, by omega, by simp, hok, rfl⟩
  ·obtain rfl : i = l.length := by omega
   go_wp2_with fail
   go_ret
   have := ha.out
   rw [List.take_length] at this
   rw [this]
   exact ⟨rfl, rfl⟩
theorem ext_list (l : List UInt8) (a b : Nat) : (⟨l.toArray⟩ : ByteArray).extract a b = ⟨((l.drop a).take (b - a)).toArray⟩ := by
 rw [Lib.extract_eq]
theorem sparseKey_any (w : World) (l : List UInt8) (hl : l.length ≤ 281474976710656) : Calls Tryz.prog 103 #[.string ⟨l.toArray⟩] w fun e w' => (∃ b, e = .returned (.bool b) ∧ (b = false → ¬ kSparse <+: l)) ∧ w' = w := by
 by_cases hd : 11 ≤ l.length
 ·have hd1 : (11 : Int) ≤ (l.length : Int) := by omega
  have hd2 : decide ((11 : Int) ≤ (l.length : Int)) = true := decide_eq_true hd1
  have he : (⟨l.toArray⟩ : ByteArray).extract 0 11 = ⟨(l.take 11).toArray⟩ := by rw [ext_list]; rfl
  obtain ⟨β, hβ⟩ : ∃ β, (l.take 11 == [71, 78, 85, 46, 115, 112, 97, 114, 115, 101, 46]) = β := ⟨_, rfl⟩
  have F : Hid (β = false → ¬ kSparse <+: l) := by
   show _ → _
   rintro rfl ⟨t, rfl⟩
   rw [show (kSparse ++ t).take 11 = kSparse from by rw [List.take_append_of_le_length (by decide)]; rfl] at hβ
   exact absurd hβ (by decide)
  obtain ⟨q, hq⟩ : ∃ q, l.take 11 = q := ⟨_, rfl⟩
  rw [hq] at he hβ
  clear hq
  go_enter Tryz.func103, Tryz.ntmps103
  go_wp2_with fail
  go_ret
  exact ⟨⟨_, rfl, F.out⟩, rfl⟩
 ·have hd2 : decide ((11 : Int) ≤ (l.length : Int)) = false := decide_eq_false (by omega)
  have F : Hid (¬ kSparse <+: l) := by
   show ¬ _
   rintro ⟨t, rfl⟩
   apply hd
   rw [List.length_append]
   show 11 ≤ 11 + _
   omega
  clear hd
  go_enter Tryz.func103, Tryz.ntmps103
  go_wp2_with fail
  go_ret
  exact ⟨⟨_, rfl, fun _ => F.out⟩, rfl⟩
theorem cutS_any (w : World) (l : List UInt8) (c : UInt8) (hl : l.length ≤ 281474976710656) : Calls Tryz.prog 138 #[.string ⟨l.toArray⟩, .int .u8 c.toNat] w fun e w' =>
  ((∃ a b, l = a ++ c :: b ∧ e = .returned (.tuple #[.string ⟨a.toArray⟩, .string ⟨b.toArray⟩, .bool true])) ∨ e = .returned (.tuple #[.string ⟨l.toArray⟩, .string ⟨#[]⟩, .bool false])) ∧ Kp (fun _ => False) w w' := by
 go_enter Tryz.func138, Tryz.ntmps138
 go_wp2_with fail
 go_loopg [7, 10] l.length (fun g s7 s10 wr => ∃ (i : Nat), i + g = l.length ∧ s10 = .int .i64 i ∧ wr = w)
 case atStart => exact ⟨0, by omega, rfl, rfl⟩
 case round =>
  obtain ⟨i, hi, rfl, rfl⟩ := hrel
  by_cases hlt : i < l.length
  ·by_cases h2 : l[i] = c
   ·have h2' : ((((⟨l.toArray⟩ : ByteArray)[i]'hlt).toNat : Int) == (c.toNat : Int)) = true := by show ((l[i].toNat : Int) == _) = true; rw [h2]; simp
    have e1 : (⟨l.toArray⟩ : ByteArray).extract 0 i = ⟨(l.take i).toArray⟩ := by rw [ext_list]; rfl
    have e2 : (⟨l.toArray⟩ : ByteArray).extract (i + 1) l.length = ⟨(l.drop (i + 1)).toArray⟩ := by
     rw [ext_list, List.take_of_length_le (by rw [List.length_drop]; omega)]
    have FIN : Hid (l = l.take i ++ c :: l.drop (i + 1)) := by
     show _ = _
     rw [← h2, ← List.drop_eq_getElem_cons hlt, List.take_append_drop]
    have h3 : (0 : Int) ≤ (i : Int) := by omega
    have h4 : (i : Int) ≤ (l.length : Int) := by omega
    have h5 : (0 : Int) ≤ (i : Int) + 1 := by omega
    have h6 : (i : Int) + 1 ≤ (l.length : Int) := by omega
    clear h2
    go_wp2_with fail
    go_quiet (fail)
    go_wp2_with fail
    go_ret3
    refine ⟨.inl ⟨_, _, FIN.out, ?_⟩, (Kp.refl _ _).drewN _⟩
    first
     | rfl
     | (rw [e1, e2])
   ·have h2' : ((((⟨l.toArray⟩ : ByteArray)[i]'hlt).toNat : Int) == (c.toNat : Int)) = false := by
     show ((l[i].toNat : Int) == _) = false
     rw [beq_eq_false_iff_ne]
     intro e
     exact h2 (UInt8.toNat_inj.mp (by omega))
    clear h2
    go_wp2_with fail
    go_roundg (gk - 1)
    case measure => omega
    case rel => exact ⟨i + 1, by omega, by simp, rfl⟩
  ·obtain rfl : i = l.length := by omega
   go_wp2_with fail
   go_ret3
   exact ⟨.inr rfl, Kp.refl _ _⟩
def WidEnd (l : List UInt8) (e : Ending) : Prop := ∃ n : Nat, e = .returned (.int .i64 (n : Int)) ∧ n ≤ l.length ∧ ∀ j, 1 ≤ j → j < n → l[j]? ≠ some 0
set_option maxHeartbeats 1600000 in
theorem width_any (w : World) (l : List UInt8) (hl : l.length ≤ 281474976710656) (h0 : 0 < l.length) : Calls Tryz.prog 229 #[.string ⟨l.toArray⟩] w fun e w' => Hid (WidEnd l e) ∧ w' = w := by
 obtain ⟨c, hc⟩ : ∃ c : Nat, l[0].toNat = c := ⟨_, rfl⟩
 have hc' : ((⟨l.toArray⟩ : ByteArray)[0]'h0).toNat = c := hc
 have hb : c < 256 := hc ▸ l[0].toNat_lt
 have h00 : (0 : Int) < (l.length : Int) := by omega
 by_cases h1 : c < 128
 ·have t1 : decide ((c : Int) < 128) = true := decide_eq_true (by omega)
  have FIN : Hid (WidEnd l (.returned (.int .i64 1))) := ⟨1, rfl, h0, fun j a b => by omega⟩
  go_enter Tryz.func229, Tryz.ntmps229
  go_wp2_with fail
  go_ret
  exact ⟨FIN.out, rfl⟩
 ·have t1 : decide ((c : Int) < 128) = false := decide_eq_false (by omega)
  have ZERO : Hid (WidEnd l (.returned (.int .i64 0))) := ⟨0, rfl, by omega, fun j a b => by omega⟩
  obtain ⟨a1, x1⟩ : ∃ b, decide ((194 : Int) ≤ (c : Int)) = b := ⟨_, rfl⟩
  obtain ⟨a2, x2⟩ : ∃ b, decide ((c : Int) < 224) = b := ⟨_, rfl⟩
  obtain ⟨a3, x3⟩ : ∃ b, decide ((224 : Int) ≤ (c : Int)) = b := ⟨_, rfl⟩
  obtain ⟨a4, x4⟩ : ∃ b, decide ((c : Int) < 240) = b := ⟨_, rfl⟩
  obtain ⟨a5, x5⟩ : ∃ b, decide ((240 : Int) ≤ (c : Int)) = b := ⟨_, rfl⟩
  obtain ⟨a6, x6⟩ : ∃ b, decide ((c : Int) < 245) = b := ⟨_, rfl⟩
  by_cases k2 : (a1 && a2) = true
  ·rw [Bool.and_eq_true] at k2
   obtain ⟨rfl, rfl⟩ := k2
   by_cases hl2 : 2 ≤ l.length
   ·have y1 : decide ((l.length : Int) < 2) = false := decide_eq_false (by omega)
    go_enter Tryz.func229, Tryz.ntmps229
    go_wp2_with fail
    go_loopg [5, 7] 1 (fun g s5 s7 wr => ∃ (i : Nat) (v : Int), i + g = 2 ∧ 1 ≤ i ∧ s7 = .int .i64 i ∧ s5 = .int .i64 v ∧ Hid (∀ j, 1 ≤ j → j < i → l[j]? ≠ some 0) ∧ wr = w)
    case atStart => exact ⟨1, _, by omega, by omega, rfl, rfl, by show ∀ j, _; intro j a b; omega, rfl⟩
    case round =>
     obtain ⟨i, v, hi, hi1, rfl, rfl, ha, rfl⟩ := hrel
     by_cases hlt : i < 2
     ·have hil : i < l.length := by omega
      have hil' : i < (⟨l.toArray⟩ : ByteArray).size := hil
      obtain ⟨β, hβ⟩ : ∃ β, (bits .and .u8 (((⟨l.toArray⟩ : ByteArray)[i]'hil').toNat : Int) 192 != 128) = β := ⟨_, rfl⟩
      cases β with
      | true =>
       go_wp2_with fail
       go_ret
       exact ⟨ZERO.out, rfl⟩
      | false =>
       have NX : Hid (∀ j, 1 ≤ j → j < i + 1 → l[j]? ≠ some 0) := by
        show ∀ j, _
        intro j a b
        rcases Nat.lt_or_ge j i with h | h
        ·exact ha.out j a h
        ·obtain rfl : j = i := by omega
         intro e
         rw [List.getElem?_eq_getElem hil] at e
         injection e with e
         have e2 : ((⟨l.toArray⟩ : ByteArray)[j]'hil') = 0 := e
         rw [e2] at hβ
         exact absurd hβ (by decide)
       skip
       go_wp2_with fail
       go_roundg (gk - 1)
       case measure => omega
       case rel => exact ⟨i + 1, _, by omega, by omega, by simp, rfl, NX, rfl⟩
     ·obtain rfl : i = 2 := by omega
      have FIN : Hid (WidEnd l (.returned (.int .i64 2))) := ⟨2, rfl, hl2, ha.out⟩
      obtain ⟨b1, z1⟩ : ∃ b, decide (v < 128) = b := ⟨_, rfl⟩
      obtain ⟨b2, z2⟩ : ∃ b, decide ((1114111 : Int) < v) = b := ⟨_, rfl⟩
      obtain ⟨b3, z3⟩ : ∃ b, decide ((55296 : Int) ≤ v) = b := ⟨_, rfl⟩
      obtain ⟨b4, z4⟩ : ∃ b, decide (v < 57344) = b := ⟨_, rfl⟩
      clear ha
      cases b1 <;> cases b2 <;> cases b3 <;> cases b4 <;> (
       go_wp2_with fail
       go_ret
       first | exact ⟨FIN.out, rfl⟩ | exact ⟨ZERO.out, rfl⟩)
   ·have y1 : decide ((l.length : Int) < 2) = true := decide_eq_true (by omega)
    go_enter Tryz.func229, Tryz.ntmps229
    go_wp2_with fail
    go_ret
    exact ⟨ZERO.out, rfl⟩
  ·by_cases k3 : (a3 && a4) = true
   ·rw [Bool.and_eq_true] at k3
    obtain ⟨rfl, rfl⟩ := k3
    have hq : a1 = true ∧ a2 = false := by
     rw [decide_eq_true_eq] at x3
     refine ⟨by rw [← x1, decide_eq_true_eq]; omega, by rw [← x2, decide_eq_false_iff_not]; omega⟩
    obtain ⟨rfl, rfl⟩ := hq
    clear k2
    by_cases hl2 : 3 ≤ l.length
    ·have y1 : decide ((l.length : Int) < 3) = false := decide_eq_false (by omega)
     go_enter Tryz.func229, Tryz.ntmps229
     go_wp2_with fail
     go_loopg [5, 7] 2 (fun g s5 s7 wr => ∃ (i : Nat) (v : Int), i + g = 3 ∧ 1 ≤ i ∧ s7 = .int .i64 i ∧ s5 = .int .i64 v ∧ Hid (∀ j, 1 ≤ j → j < i → l[j]? ≠ some 0) ∧ wr = w)
     case atStart => exact ⟨1, _, by omega, by omega, rfl, rfl, by show ∀ j, _; intro j a b; omega, rfl⟩
     case round =>
      obtain ⟨i, v, hi, hi1, rfl, rfl, ha, rfl⟩ := hrel
      by_cases hlt : i < 3
      ·have hil : i < l.length := by omega
       have hil' : i < (⟨l.toArray⟩ : ByteArray).size := hil
       obtain ⟨β, hβ⟩ : ∃ β, (bits .and .u8 (((⟨l.toArray⟩ : ByteArray)[i]'hil').toNat : Int) 192 != 128) = β := ⟨_, rfl⟩
       cases β with
       | true =>
        go_wp2_with fail
        go_ret
        exact ⟨ZERO.out, rfl⟩
       | false =>
        have NX : Hid (∀ j, 1 ≤ j → j < i + 1 → l[j]? ≠ some 0) := by
         show ∀ j, _
         intro j a b
         rcases Nat.lt_or_ge j i with h | h
         ·exact ha.out j a h
         ·obtain rfl : j = i := by omega
          intro e
          rw [List.getElem?_eq_getElem hil] at e
          injection e with e
          have e2 : ((⟨l.toArray⟩ : ByteArray)[j]'hil') = 0 := e
          rw [e2] at hβ
          exact absurd hβ (by decide)
        skip
        go_wp2_with fail
        go_roundg (gk - 1)
        case measure => omega
        case rel => exact ⟨i + 1, _, by omega, by omega, by simp, rfl, NX, rfl⟩
      ·obtain rfl : i = 3 := by omega
       have FIN : Hid (WidEnd l (.returned (.int .i64 3))) := ⟨3, rfl, hl2, ha.out⟩
       obtain ⟨b1, z1⟩ : ∃ b, decide (v < 2048) = b := ⟨_, rfl⟩
       obtain ⟨b2, z2⟩ : ∃ b, decide ((1114111 : Int) < v) = b := ⟨_, rfl⟩
       obtain ⟨b3, z3⟩ : ∃ b, decide ((55296 : Int) ≤ v) = b := ⟨_, rfl⟩
       obtain ⟨b4, z4⟩ : ∃ b, decide (v < 57344) = b := ⟨_, rfl⟩
       clear ha
       cases b1 <;> cases b2 <;> cases b3 <;> cases b4 <;> (
        go_wp2_with fail
        go_ret
        first | exact ⟨FIN.out, rfl⟩ | exact ⟨ZERO.out, rfl⟩)
    ·have y1 : decide ((l.length : Int) < 3) = true := decide_eq_true (by omega)
     go_enter Tryz.func229, Tryz.ntmps229
     go_wp2_with fail
     go_ret
     exact ⟨ZERO.out, rfl⟩
   ·by_cases k4 : (a5 && a6) = true
    ·rw [Bool.and_eq_true] at k4
     obtain ⟨rfl, rfl⟩ := k4
     have hq : a1 = true ∧ a2 = false ∧ a3 = true ∧ a4 = false := by
      rw [decide_eq_true_eq] at x5
      refine ⟨by rw [← x1, decide_eq_true_eq]; omega, by rw [← x2, decide_eq_false_iff_not]; omega, by rw [← x3, decide_eq_true_eq]; omega, by rw [← x4, decide_eq_false_iff_not]; omega⟩
     obtain ⟨rfl, rfl, rfl, rfl⟩ := hq
     clear k2 k3
     by_cases hl2 : 4 ≤ l.length
     ·have y1 : decide ((l.length : Int) < 4) = false := decide_eq_false (by omega)
      go_enter Tryz.func229, Tryz.ntmps229
      go_wp2_with fail
      go_loopg [5, 7] 3 (fun g s5 s7 wr => ∃ (i : Nat) (v : Int), i + g = 4 ∧ 1 ≤ i ∧ s7 = .int .i64 i ∧ s5 = .int .i64 v ∧ Hid (∀ j, 1 ≤ j → j < i → l[j]? ≠ some 0) ∧ wr = w)
      case atStart => exact ⟨1, _, by omega, by omega, rfl, rfl, by show ∀ j, _; intro j a b; omega, rfl⟩
      case round =>
       obtain ⟨i, v, hi, hi1, rfl, rfl, ha, rfl⟩ := hrel
       by_cases hlt : i < 4
       ·have hil : i < l.length := by omega
        have hil' : i < (⟨l.toArray⟩ : ByteArray).size := hil
        obtain ⟨β, hβ⟩ : ∃ β, (bits .and .u8 (((⟨l.toArray⟩ : ByteArray)[i]'hil').toNat : Int) 192 != 128) = β := ⟨_, rfl⟩
        cases β with
        | true =>
         go_wp2_with fail
         go_ret
         exact ⟨ZERO.out, rfl⟩
        | false =>
         have NX : Hid (∀ j, 1 ≤ j → j < i + 1 → l[j]? ≠ some 0) := by
          show ∀ j, _
          intro j a b
          rcases Nat.lt_or_ge j i with h | h
          ·exact ha.out j a h
          ·obtain rfl : j = i := by omega
           intro e
           rw [List.getElem?_eq_getElem hil] at e
           injection e with e
           have e2 : ((⟨l.toArray⟩ : ByteArray)[j]'hil') = 0 := e
           rw [e2] at hβ
           exact absurd hβ (by decide)
         skip
         go_wp2_with fail
         go_roundg (gk - 1)
         case measure => omega
         case rel => exact ⟨i + 1, _, by omega, by omega, by simp, rfl, NX, rfl⟩
       ·obtain rfl : i = 4 := by omega
        have FIN : Hid (WidEnd l (.returned (.int .i64 4))) := ⟨4, rfl, hl2, ha.out⟩
        obtain ⟨b1, z1⟩ : ∃ b, decide (v < 65536) = b := ⟨_, rfl⟩
        obtain ⟨b2, z2⟩ : ∃ b, decide ((1114111 : Int) < v) = b := ⟨_, rfl⟩
        obtain ⟨b3, z3⟩ : ∃ b, decide ((55296 : Int) ≤ v) = b := ⟨_, rfl⟩
        obtain ⟨b4, z4⟩ : ∃ b, decide (v < 57344) = b := ⟨_, rfl⟩
        clear ha
        cases b1 <;> cases b2 <;> cases b3 <;> cases b4 <;> (
         go_wp2_with fail
         go_ret
         first | exact ⟨FIN.out, rfl⟩ | exact ⟨ZERO.out, rfl⟩)
     ·have y1 : decide ((l.length : Int) < 4) = true := decide_eq_true (by omega)
      go_enter Tryz.func229, Tryz.ntmps229
      go_wp2_with fail
      go_ret
      exact ⟨ZERO.out, rfl⟩
    ·cases a1 <;> cases a2 <;> cases a3 <;> cases a4 <;> cases a5 <;> cases a6 <;> first
      | exact absurd rfl k2
      | exact absurd rfl k3
      | exact absurd rfl k4
      | (exfalso; simp only [decide_eq_true_eq, decide_eq_false_iff_not] at x1 x2 x3 x4 x5 x6; omega)
      | (clear k2 k3 k4
         go_enter Tryz.func229, Tryz.ntmps229
         go_wp2_with fail
         go_ret
         exact ⟨ZERO.out, rfl⟩
       )
def UtfEnd (l : List UInt8) (e : Ending) : Prop := ∃ b, e = .returned (.bool b) ∧ (b = true → NoNul l)
set_option maxHeartbeats 1600000 in
theorem utf8_any' (w : World) (l : List UInt8) (hl : l.length ≤ 281474976710656) : Calls Tryz.prog 137 #[.string ⟨l.toArray⟩] w fun e w' => Hid (UtfEnd l e) ∧ w' = w := by
 have NO : Hid (UtfEnd l (.returned (.bool false))) := ⟨false, rfl, fun e => by cases e⟩
 go_enter Tryz.func137, Tryz.ntmps137
 go_wp2_with fail
 go_loopg [3, 4] l.length (fun g s3 s4 wr => ∃ (i : Nat), i + g = l.length ∧ s3 = .int .i64 i ∧ Hid (∀ j, j < i → l[j]? ≠ some 0) ∧ wr = w)
 case atStart => exact ⟨0, by omega, rfl, by show ∀ j, _; intro j a; omega, rfl⟩
 case round =>
  obtain ⟨i, hi, rfl, ha, rfl⟩ := hrel
  by_cases hlt : i < l.length
  ·have e1 : (⟨l.toArray⟩ : ByteArray).extract i l.length = ⟨(l.drop i).toArray⟩ := by
    rw [ext_list, List.take_of_length_le (by rw [List.length_drop]; exact Nat.le_refl _)]
   have h3 : (0 : Int) ≤ (i : Int) := by omega
   have h4 : (i : Int) ≤ (l.length : Int) := by omega
   have HW := Lib.hid (width_any wr (l.drop i) (by rw [List.length_drop]; omega) (by rw [List.length_drop]; omega))
   have hgt : l[i]? = some l[i] := List.getElem?_eq_getElem hlt
   have HGT := Lib.hid hgt
   clear hgt
   go_wp2_with fail
   refine HW.out.mono ?_
   rintro e w1 ⟨hx, rfl⟩
   obtain ⟨n, rfl, hnl, hnz⟩ := hx.out
   rw [List.length_drop] at hnl
   have HNZ := Lib.hid hnz
   clear hx hnz HW
   by_cases hn : n = 0
   ·subst hn
    go_wp2_with fail
    go_ret
    exact ⟨NO.out, rfl⟩
   ·have t1 : ((n : Int) == 0) = false := by rw [beq_eq_false_iff_ne]; omega
    by_cases h2 : l[i] = 0
    ·have h2' : ((((⟨l.toArray⟩ : ByteArray)[i]'hlt).toNat : Int) == 0) = true := by show ((l[i].toNat : Int) == 0) = true; rw [h2]; rfl
     clear h2
     go_wp2_with fail
     go_ret
     exact ⟨NO.out, rfl⟩
    ·have h2' : ((((⟨l.toArray⟩ : ByteArray)[i]'hlt).toNat : Int) == 0) = false := by
      show ((l[i].toNat : Int) == 0) = false
      rw [beq_eq_false_iff_ne]
      intro e
      exact h2 (UInt8.toNat_inj.mp (by simpa using e))
     have NX : Hid (∀ j, j < i + n → l[j]? ≠ some 0) := by
      show ∀ j, _
      intro j a
      rcases Nat.lt_or_ge j i with h | h
      ·exact ha.out j h
      ·rcases Nat.lt_or_ge i j with h5 | h5
       ·have := HNZ.out (j - i) (by omega) (by omega)
        rw [List.getElem?_drop, show i + (j - i) = j by omega] at this
        exact this
       ·obtain rfl : j = i := by omega
        rw [HGT.out]
        intro e
        injection e with e
        exact h2 e
     have hwr : IntKind.i64.wrap ((i : Int) + (n : Int)) = (i : Int) + (n : Int) := by rw [IntKind.wrap_i64]; omega
     clear h2 ha HNZ HGT
     go_wp2_with fail
     go_roundg (gk - n)
     case measure => omega
     case rel => exact ⟨i + n, by omega, by simp, NX, rfl⟩
  ·obtain rfl : i = l.length := by omega
   have YES : Hid (UtfEnd l (.returned (.bool true))) := ⟨true, rfl, fun _ c hc e => by
    obtain ⟨j, hj, e2⟩ := List.getElem_of_mem hc
    subst e2
    exact ha.out j hj (by rw [List.getElem?_eq_getElem hj, e])⟩
   clear ha
   go_wp2_with fail
   go_ret
   exact ⟨YES.out, rfl⟩
theorem utf8_any (w : World) (l : List UInt8) (hl : l.length ≤ 281474976710656) : Calls Tryz.prog 137 #[.string ⟨l.toArray⟩] w fun e w' => (∃ b, e = .returned (.bool b) ∧ (b = true → NoNul l)) ∧ w' = w :=
 (utf8_any' w l hl).mono fun e w' h => ⟨h.1.out, h.2⟩
def V3 (v : Int) : Prop := v = 0 ∨ v = 1 ∨ v = 2
theorem v3_when (b : Bool) : V3 (if b then 1 else 2) := by cases b <;> simp [V3]
set_option maxHeartbeats 1600000 in
theorem all_any (w : World) (b : Nat) (vs : List Int) (hv : ∀ v ∈ vs, V3 v) (hb : w.heap[b]? = some (.cells (vs.map (Value.int .i64)).toArray 3 (0, 0))) (hl : vs.length ≤ 1000) :
  Calls Tryz.prog 87 #[.slice (some ⟨b, 0, none⟩) vs.length vs.length] w fun e w' => (∃ x, e = .returned (.int .i64 x) ∧ V3 x ∧ (x = 1 → ∀ v ∈ vs, v = 1)) ∧ w' = w := by
 have HB := Lib.hid hb
 have HV := Lib.hid hv
 clear hb hv
 go_enter Tryz.func87, Tryz.ntmps87
 go_wp2_with fail
 go_loopg [3, 5, 8] vs.length (fun g s3 s5 s8 wr => ∃ (i : Nat) (x : Int), i + g = vs.length ∧ s8 = .int .i64 i ∧ s3 = .int .i64 x ∧ Hid (V3 x ∧ (x = 1 → ∀ v ∈ vs.take i, v = 1)) ∧ wr = w)
 case atStart => exact ⟨0, 1, by omega, rfl, rfl, ⟨.inr (.inl rfl), fun _ v hv => by rw [sE] at hv; cases hv⟩, rfl⟩
 case round =>
  obtain ⟨i, x, hi, rfl, rfl, ha, rfl⟩ := hrel
  by_cases hlt : i < vs.length
  ·obtain ⟨v, hv⟩ : ∃ v, vs[i] = v := ⟨_, rfl⟩
   have hc : wr.cell? ⟨b, i, none⟩ = some (.int .i64 v) := cell_of HB.out i (by
    rw [List.getElem?_toArray, List.getElem?_map, List.getElem?_eq_getElem hlt, hv]; rfl)
   have hv3 := HV.out v (hv ▸ List.getElem_mem hlt)
   have htk : vs.take (i + 1) = vs.take i ++ [v] := by rw [List.take_succ_eq_append_getElem hlt, hv]
   have NX : ∀ y, V3 y → (y = 1 → x = 1 ∧ v = 1) → Hid (V3 y ∧ (y = 1 → ∀ v ∈ vs.take (i + 1), v = 1)) := fun y h1 h2 => ⟨h1, fun hy u hu => by
    rw [htk, List.mem_append, List.mem_singleton] at hu
    rcases hu with hu | rfl
    ·exact ha.out.2 (h2 hy).1 u hu
    ·exact (h2 hy).2⟩
   have NXH := Lib.hid NX
   have hx3 := ha.out.1
   have hi1 : (0 : Int) ≤ (i : Int) := by omega
   have hi2 : (i : Int) < (vs.length : Int) := by omega
   clear NX htk hv ha
   rcases hv3 with rfl | rfl | rfl
   ·rcases hx3 with rfl | rfl | rfl
    ·have N := NXH.out 0 (.inl rfl) (fun h => absurd h (by decide))
     clear NXH
     go_wp2_with fail
     go_roundg (gk - 1)
     case measure => omega
     case rel => exact ⟨i + 1, 0, by omega, by simp, rfl, N, rfl⟩
    ·have N := NXH.out 0 (.inl rfl) (fun h => absurd h (by decide))
     clear NXH
     go_wp2_with fail
     go_roundg (gk - 1)
     case measure => omega
     case rel => exact ⟨i + 1, 0, by omega, by simp, rfl, N, rfl⟩
    ·have N := NXH.out 2 (.inr (.inr rfl)) (fun h => absurd h (by decide))
     clear NXH
     go_wp2_with fail
     go_roundg (gk - 1)
     case measure => omega
     case rel => exact ⟨i + 1, 2, by omega, by simp, rfl, N, rfl⟩
   ·have N := NXH.out x hx3 (fun h => ⟨h, rfl⟩)
    clear NXH hx3
    go_wp2_with fail
    go_roundg (gk - 1)
    case measure => omega
    case rel => exact ⟨i + 1, x, by omega, by simp, rfl, N, rfl⟩
   ·have N := NXH.out 2 (.inr (.inr rfl)) (fun h => absurd h (by decide))
    clear NXH hx3
    go_wp2_with fail
    go_roundg (gk - 1)
    case measure => omega
    case rel => exact ⟨i + 1, 2, by omega, by simp, rfl, N, rfl⟩
  ·obtain rfl : i = vs.length := by omega
   have FIN : Hid ((∃ y, Ending.returned (.int .i64 x) = .returned (.int .i64 y) ∧ V3 y ∧ (y = 1 → ∀ v ∈ vs, v = 1)) ∧ wr = wr) := by
    have := ha.out
    rw [List.take_length] at this
    exact ⟨⟨x, rfl, this⟩, rfl⟩
   clear ha
   go_wp2_with fail
   go_ret
   exact ⟨FIN.out.1, rfl⟩
structure SmallP (n f : Int) (pax : Bool) : Prop where
 ge : 0 ≤ n
 gnu : f = 3 → n < 72057594037927936
 oct : f ≠ 3 → ¬ (f = 2 ∧ pax = true) → n < 2097152
def smallV (n f : Int) (pax : Bool) : Int :=
 if f = 3 then (if n < 0 then 0 else if n < 72057594037927936 then 1 else if n < 144115188075855872 then 0 else 2)
 else if f = 2 ∧ pax = true then (if n < 0 then 0 else 1)
 else if 0 ≤ n ∧ n < 2097152 then 1 else 2
theorem smallV_v3 (n f : Int) (pax : Bool) : V3 (smallV n f pax) := by
 unfold smallV V3
 split
 ·split
  ·simp
  ·split
   ·simp
   ·split <;> simp
 ·split
  ·split <;> simp
  ·split <;> simp
theorem smallV_one {n f : Int} {pax : Bool} (h : smallV n f pax = 1) : SmallP n f pax := by
 unfold smallV at h
 split at h
 ·rename_i hf
  split at h
  ·omega
  ·split at h
   ·exact ⟨by omega, fun _ => by omega, fun h3 => absurd hf h3⟩
   ·split at h <;> omega
 ·rename_i hf
  split at h
  ·rename_i hp
   split at h
   ·omega
   ·exact ⟨by omega, fun h3 => absurd h3 hf, fun _ h2 => absurd hp h2⟩
  ·rename_i hp
   split at h
   ·rename_i hn
    exact ⟨hn.1, fun h3 => absurd h3 hf, fun _ _ => hn.2⟩
   ·omega
set_option maxHeartbeats 1600000 in
theorem small_any (w : World) (n f : Int) (pax : Bool) (hf : f = 1 ∨ f = 2 ∨ f = 3) : Calls Tryz.prog 89 #[.int .i64 n, .int .i64 f, .bool pax] w fun e w' => e = .returned (.int .i64 (smallV n f pax)) ∧ w' = w := by
 have oct : ∀ (g : ¬ f = 3) (g2 : ¬ (f = 2 ∧ pax = true)) (b1 b2 : Bool), decide (0 ≤ n) = b1 → decide (n < 2097152) = b2 → Hid (smallV n f pax = if b1 && b2 then 1 else 2) := fun g g2 b1 b2 h1 h2 => by
  show _ = _
  unfold smallV
  rw [if_neg g, if_neg g2]
  subst h1 h2
  by_cases h3 : 0 ≤ n ∧ n < 2097152
  ·rw [if_pos h3, decide_eq_true h3.1, decide_eq_true h3.2]; rfl
  ·rw [if_neg h3, if_neg]
   rw [Bool.and_eq_true, decide_eq_true_eq, decide_eq_true_eq]
   exact h3
 rcases hf with rfl | rfl | rfl
 ·obtain ⟨b1, e1⟩ : ∃ b, decide (0 ≤ n) = b := ⟨_, rfl⟩
  obtain ⟨b2, e2⟩ : ∃ b, decide (n < 2097152) = b := ⟨_, rfl⟩
  have FIN := oct (by decide) (fun h => absurd h.1 (by decide)) b1 b2 e1 e2
  rw [FIN.out]
  clear oct FIN
  cases b1 <;> cases b2 <;> (
   go_enter Tryz.func89, Tryz.ntmps89
   go_wp2_with fail
   refine (when_any w _).mono ?_
   rintro e w1 ⟨rfl, rfl⟩
   go_wp2_with fail
   go_ret
   exact ⟨rfl, rfl⟩)
 ·cases pax with
  | true =>
   by_cases hn : n < 0
   ·have t1 : decide (n < 0) = true := decide_eq_true hn
    have FIN : Hid (smallV n 2 true = 0) := by show _ = _; unfold smallV; rw [if_neg (by decide), if_pos ⟨rfl, rfl⟩, if_pos hn]
    rw [FIN.out]
    clear oct FIN
    go_enter Tryz.func89, Tryz.ntmps89
    go_wp2_with fail
    go_ret
    exact ⟨rfl, rfl⟩
   ·have t1 : decide (n < 0) = false := decide_eq_false hn
    have FIN : Hid (smallV n 2 true = 1) := by show _ = _; unfold smallV; rw [if_neg (by decide), if_pos ⟨rfl, rfl⟩, if_neg hn]
    rw [FIN.out]
    clear oct FIN
    go_enter Tryz.func89, Tryz.ntmps89
    go_wp2_with fail
    go_ret
    exact ⟨rfl, rfl⟩
  | false =>
   obtain ⟨b1, e1⟩ : ∃ b, decide (0 ≤ n) = b := ⟨_, rfl⟩
   obtain ⟨b2, e2⟩ : ∃ b, decide (n < 2097152) = b := ⟨_, rfl⟩
   have FIN := oct (by decide) (fun h => absurd h.2 (by decide)) b1 b2 e1 e2
   rw [FIN.out]
   clear oct FIN
   cases b1 <;> cases b2 <;> (
    go_enter Tryz.func89, Tryz.ntmps89
    go_wp2_with fail
    refine (when_any w _).mono ?_
    rintro e w1 ⟨rfl, rfl⟩
    go_wp2_with fail
    go_ret
    exact ⟨rfl, rfl⟩)
 ·by_cases hn : n < 0
  ·have t1 : decide (n < 0) = true := decide_eq_true hn
   have FIN : Hid (smallV n 3 pax = 0) := by show _ = _; unfold smallV; rw [if_pos rfl, if_pos hn]
   rw [FIN.out]
   clear oct FIN
   go_enter Tryz.func89, Tryz.ntmps89
   go_wp2_with fail
   go_ret
   exact ⟨rfl, rfl⟩
  ·have t1 : decide (n < 0) = false := decide_eq_false hn
   by_cases h2 : n < 72057594037927936
   ·have t2 : decide ((72057594037927936 : Int) ≤ n) = false := decide_eq_false (by omega)
    have t3 : decide (n < 72057594037927936) = true := decide_eq_true h2
    have FIN : Hid (smallV n 3 pax = 1) := by show _ = _; unfold smallV; rw [if_pos rfl, if_neg hn, if_pos h2]
    rw [FIN.out]
    clear oct FIN
    go_enter Tryz.func89, Tryz.ntmps89
    go_wp2_with fail
    refine (when_any w _).mono ?_
    rintro e w1 ⟨rfl, rfl⟩
    go_wp2_with fail
    go_ret
    exact ⟨rfl, rfl⟩
   ·have t2 : decide ((72057594037927936 : Int) ≤ n) = true := decide_eq_true (by omega)
    have t3 : decide (n < 72057594037927936) = false := decide_eq_false h2
    by_cases h4 : n < 144115188075855872
    ·have t4 : decide (n < 144115188075855872) = true := decide_eq_true h4
     have FIN : Hid (smallV n 3 pax = 0) := by show _ = _; unfold smallV; rw [if_pos rfl, if_neg hn, if_neg h2, if_pos h4]
     rw [FIN.out]
     clear oct FIN
     go_enter Tryz.func89, Tryz.ntmps89
     go_wp2_with fail
     go_ret
     exact ⟨rfl, rfl⟩
    ·have t4 : decide (n < 144115188075855872) = false := decide_eq_false h4
     have FIN : Hid (smallV n 3 pax = 2) := by show _ = _; unfold smallV; rw [if_pos rfl, if_neg hn, if_neg h2, if_neg h4]
     rw [FIN.out]
     clear oct FIN
     go_enter Tryz.func89, Tryz.ntmps89
     go_wp2_with fail
     refine (when_any w _).mono ?_
     rintro e w1 ⟨rfl, rfl⟩
     go_wp2_with fail
     go_ret
     exact ⟨rfl, rfl⟩
structure MomP (s n f : Int) : Prop where
 lo : -100000000000000000 ≤ s
 hi : s ≤ 100000000000000000
 ns : f ≠ 2 → n = 0
def MoEnd (s n f : Int) (e : Ending) : Prop := ∃ v, e = .returned (.int .i64 v) ∧ V3 v ∧ (v = 1 → MomP s n f)
set_option maxHeartbeats 1600000 in
theorem moment_any (w : World) (s n f : Int) : Calls Tryz.prog 90 #[.agg #[.int .i64 s, .int .i64 n], .int .i64 f] w fun e w' => Hid (MoEnd s n f e) ∧ Kp (fun _ => False) w w' := by
 have END0 : Hid (MoEnd s n f (.returned (.int .i64 0))) := ⟨0, rfl, .inl rfl, fun h => absurd h (by decide)⟩
 obtain ⟨b1, e1⟩ : ∃ b, decide ((100000000000000000 : Int) < s) = b := ⟨_, rfl⟩
 obtain ⟨b2, e2⟩ : ∃ b, decide (s < -100000000000000000) = b := ⟨_, rfl⟩
 obtain ⟨b3, e3⟩ : ∃ b, (f != 2) = b := ⟨_, rfl⟩
 obtain ⟨b4, e4⟩ : ∃ b, (n != 0) = b := ⟨_, rfl⟩
 have FIN : Hid (b1 = false → b2 = false → (b3 && b4) = false → Hid (MoEnd s n f (.returned (.int .i64 1)))) := by
  show _ → _ → _ → _
  intro h1 h2 h3
  subst e1 e2 e3 e4
  simp only [decide_eq_false_iff_not] at h1 h2
  refine ⟨1, rfl, .inr (.inl rfl), fun _ => ⟨by omega, by omega, fun hf => ?_⟩⟩
  simp only [Bool.and_eq_false_iff, bne_eq_false_iff_eq] at h3
  rcases h3 with h3 | h3
  ·exact absurd h3 hf
  ·exact h3
 cases b1 <;> cases b2 <;> cases b3 <;> cases b4 <;> (
  go_enter Tryz.func90, Tryz.ntmps90
  go_wp2_with fail
  go_ret
  first
   | exact ⟨END0, (Kp.refl _ _).alloc _⟩
   | exact ⟨FIN.out (by first | rfl | trivial) (by first | rfl | trivial) (by first | rfl | trivial), (Kp.refl _ _).alloc _⟩)
end Go.Proofs.YtgfcnjfmmjcodaaGreatDoor
