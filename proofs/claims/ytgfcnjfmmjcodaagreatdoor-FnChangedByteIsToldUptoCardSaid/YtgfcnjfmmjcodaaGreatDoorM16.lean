/- handleSparseFile where no record tells of a sparse file. -/
import Derived.Maps.OwnSet
import Derived.Test.YtgfcnjfmmjcodaaGreatDoorM13
import Derived.Test.YtgfcnjfmmjcodaaGreatDoorM14
import Derived.Test.YtgfcnjfmmjcodaaGreatDoorM15
set_option linter.all false
set_option maxRecDepth 100000
set_option maxHeartbeats 1000000
namespace Go.Proofs.YtgfcnjfmmjcodaaGreatDoor
section
open Go Go.RowKit Go.Maps
theorem zero9 (w : World) : (zeroValue 9).run Tryz.prog w = .ok (.string ⟨#[]⟩) w := by kernel_rfl
def PmIs (w : World) (pm : Value) (M : List UInt8 → Option (List UInt8)) : Prop := (pm = .map none ∧ M = fun _ => none) ∨ ∃ b n, pm = .map (some b) ∧ MapIs w b n M
theorem PmIs.look {w : World} {pm : Value} {M : List UInt8 → Option (List UInt8)} (h : PmIs w pm M) (k : List UInt8) (hk : k.length ≤ 1000) (hM : M k = none) :
  (Instr.lookup 164 pm (.string ⟨k.toArray⟩) false).run Tryz.prog w = .ok (.string ⟨#[]⟩) w := by
 have hkey := keyOf9 k (by unfold maxLen; omega)
 rcases h with ⟨rfl, rfl⟩ | ⟨b, n, rfl, D, hown, hD⟩
 ·have := Maps.look_nil (w := w) (P := Tryz.prog) false key9 Tryz.underlying164 (zero9 w) hkey
  simpa using this
 ·obtain ⟨v, ps, hrun, hv⟩ := hown.lookup key9 Tryz.underlying164 (zero9 w) (elem9 [] (by simp [maxLen])) hkey
  have hh := hD.has k
  rw [hM] at hh
  rw [atKey_of_not_has hh] at hv
  obtain ⟨c, rfl, hc, _⟩ := plainElem_string_inv Tryz.underlying9 hv
  simp only [Prod.mk.injEq, DataW.lit.injEq, Lit.string.injEq] at hc
  have : c = ⟨#[]⟩ := by
   have e : c = ⟨c.data.toList.toArray⟩ := by simp
   rw [e, ← hc.1]
  rw [hrun, this]
theorem PmIs.keep {w w' : World} {pm : Value} {M : List UInt8 → Option (List UInt8)} {S : Nat → Prop} (h : PmIs w pm M) (k : Kp S w w') (hS : ∀ b, pm = .map (some b) → ¬ S b) : PmIs w' pm M := by
 rcases h with h | ⟨b, n, rfl, h⟩
 ·exact .inl h
 ·exact .inr ⟨b, n, rfl, h.keep k (hS b rfl)⟩
theorem PmIs.drewN {w : World} {pm : Value} {M : List UInt8 → Option (List UInt8)} (h : PmIs w pm M) (n : Nat) : PmIs (w.drewN n) pm M := h.keep ((Kp.refl (fun _ => False) w).drewN n) (fun _ _ h => h)
theorem sparseNone (w : World) (p : Value) (nh : Nat) (row : List Value) (pm : Value) (M : List UInt8 → Option (List UInt8)) (hrow : w.heap[nh]? = some (.cells row.toArray 167 (0, 0))) (h18 : row[18]? = some pm) (hm : PmIs w pm M)
  (h0 : ∀ k, kSparse <+: k → M k = none) :
  Calls Tryz.prog 224 #[p, .pointer (some ⟨nh, 0, none⟩)] w fun e w' => e = .returned (.tuple #[.slice none 0 0, .nilIface]) ∧ ∃ n, w' = w.drewN n := by
 have c18 : w.cell? ⟨nh, 18, none⟩ = some pm := cell_of hrow 18 (by simpa using h18)
 have l1 := fun n => (hm.drewN n).look [71, 78, 85, 46, 115, 112, 97, 114, 115, 101, 46, 109, 97, 106, 111, 114] (by decide) (h0 _ (by decide))
 have l2 := fun n => (hm.drewN n).look [71, 78, 85, 46, 115, 112, 97, 114, 115, 101, 46, 109, 105, 110, 111, 114] (by decide) (h0 _ (by decide))
 have l3 := fun n => (hm.drewN n).look [71, 78, 85, 46, 115, 112, 97, 114, 115, 101, 46, 109, 97, 112] (by decide) (h0 _ (by decide))
 clear hrow h18 hm h0
 go_enter Tryz.func224, Tryz.ntmps224
 go_wp2_with fail
 go_quiet (fail)
 go_wp2_with fail
 go_ret2
 exact ⟨rfl, _, rfl⟩
theorem handleSparse_none (w : World) (p q : Value) (nh : Nat) (row : List Value) (pm : Value) (M : List UInt8 → Option (List UInt8)) (tf : UInt8) (hrow : w.heap[nh]? = some (.cells row.toArray 167 (0, 0))) (hr0 : row[0]? = some (.int .u8 tf.toNat)) (htf : tf ≠ 83) (h18 : row[18]? = some pm) (hm : PmIs w pm M)
  (h0 : ∀ k, kSparse <+: k → M k = none) :
  Calls Tryz.prog 134 #[p, .pointer (some ⟨nh, 0, none⟩), q] w fun e w' => e = .returned .nilIface ∧ ∃ n, w' = w.drewN n := by
 have c0 : w.cell? ⟨nh, 0, none⟩ = some (.int .u8 tf.toNat) := cell_of hrow 0 (by simpa using hr0)
 have H := fun P => Lib.hid (sparseNone w P nh row pm M hrow h18 hm h0)
 have ht : ((tf.toNat : Int) == 83) = false := by
  rw [beq_eq_false_iff_ne]; intro e; exact htf (UInt8.toNat_inj.1 (by show tf.toNat = 83; omega))
 clear hrow h18 hm h0 htf
 go_enter Tryz.func134, Tryz.ntmps134
 go_wp2_with fail
 refine (H _).out.mono ?_
 rintro e w1 ⟨rfl, n, rfl⟩
 go_wp2_with fail
 go_ret
 exact ⟨rfl, _, rfl⟩
end
section
open Go Go.RowKit
section
variable {E : Nat → Addr} {B : Nat} {T : TypeId} {v : Value} {S : Nat → Prop} {inv : World → Nat → List UInt8 → Prop} (hR : IsRd E B T v S inv)
include hR
theorem readHeader_fail (w : World) (R : Nat) (pad : Int) (curr : Value) (blk : List Value) (err : Value) (rest : List UInt8) (hi : RhIn E B T v S inv R pad curr blk err rest w) (g : Nat) (h : RhFail rest g) :
  Calls Tryz.prog 127 #[.pointer (some ⟨R, 0, none⟩)] w (RhErr S R (errv (E g)) w) := by
 cases h with
 | none => exact readHeader_short hR w R pad curr blk err [] hi (by simp)
 | short l h0 h1 =>
  have := readHeader_short hR w R pad curr blk err _ hi h1
  rwa [if_neg (by omega)] at this
 | zshort k h0 h1 =>
  have := readHeader_zshort hR w R pad curr blk err _ hi (by simpa using h0) (by rw [List.take_replicate]; congr 1; omega) (by simpa using h1)
  rw [List.length_replicate] at this
  by_cases e : k = 512
  ·rw [if_pos e] at this; rw [if_pos e]; exact this
  ·rw [if_neg e] at this; rw [if_neg e]; exact this
 | zz r =>
  have hl : (List.replicate 1024 (0 : UInt8)).length = 1024 := List.length_replicate
  refine readHeader_zz hR w R pad curr blk err _ hi (by rw [List.length_append, hl]; omega) ?_ ?_
  ·rw [List.take_append_of_le_length (by rw [hl]; omega), List.take_replicate]; rfl
  ·rw [List.drop_append_of_le_length (by rw [hl]; omega), List.drop_replicate, List.take_append_of_le_length (by rw [List.length_replicate]; omega), List.take_replicate]; rfl
 | bad l r n hl ho hb hz =>
  obtain ⟨o⟩ := ho
  have e : (l ++ r).take 512 = l := by rw [← hl, List.take_left']; rfl
  refine readHeader_bad hR w R pad curr blk err _ hi (by rw [List.length_append]; omega) (by rw [e, beq_eq_false_iff_ne]; exact hz) n (by rw [e]; exact o) (by rw [e]; exact hb)
theorem readHeader_rd (w : World) (R : Nat) (pad : Int) (curr : Value) (blk : List Value) (err : Value) (l rest : List UInt8) (hl : l.length = 512) (hi : RhIn E B T v S inv R pad curr blk err (l ++ rest) w) (h : Hd) (fm : Int) (hb : BlkRd h fm l) :
  Calls Tryz.prog 127 #[.pointer (some ⟨R, 0, none⟩)] w (RhGood E B T v S inv R pad curr l err rest w (hRow h (.map none) (.map none))) := by
 obtain ⟨n, hh⟩ := hb.blk
 have e : (l ++ rest).take 512 = l := by rw [← hl, List.take_left']; rfl
 have e2 : (l ++ rest).drop 512 = rest := by rw [← hl, List.drop_left']; rfl
 have hs : 512 ≤ (l ++ rest).length := by rw [List.length_append]; omega
 have hz : ((l ++ rest).take 512 == zblk) = false := by rw [e]; exact hh.not_zero
 rcases hb.fm6 with rfl | rfl
 ·have := readHeader_good6 hR w R pad curr blk err _ hi hs hz n h.typ h.size h.mode h.uid h.gid h.ms h.maj h.min (by rw [e]; exact hh) (by rw [e]; exact hb.fmt)
  rw [e, e2, hb.name rfl, hb.link, hb.un, hb.gn] at this
  have hrow : ∀ f, hdRow h.typ.toNat h.name h.link h.size h.mode h.uid h.gid h.un h.gn h.ms 0 0 0 0 h.maj h.min f = hRow h (.map none) (.map none) f := fun f => by
   have hn := hb.no6 rfl
   simp only [hRow, hdRow, hb.mn, tc0, tc1, hn.1, hn.2]
   rfl
  rwa [show hdRow h.typ.toNat h.name h.link h.size h.mode h.uid h.gid h.un h.gn h.ms 0 0 0 0 h.maj h.min = hRow h (.map none) (.map none) from funext hrow] at this
 ·have ha := hb.acc rfl
  have hc := hb.chg rfl
  have := readHeader_good8 hR w R pad curr blk err _ hi hs hz n h.typ h.size h.mode h.uid h.gid h.ms h.maj h.min (by rw [e]; exact hh) (by rw [e]; exact hb.fmt) (if h.hasA then some h.ats else none) (if h.hasC then some h.cts else none)
   (by rw [e]; cases hA : h.hasA with
       | false => rw [hA] at ha; exact ha
       | true => rw [hA] at ha; exact ⟨ha.1, ha.2.1, ha.2.2.1, ha.2.2.2.1⟩)
   (by rw [e]; cases hA : h.hasC with
       | false => rw [hA] at hc; exact hc
       | true => rw [hA] at hc; exact ⟨hc.1, hc.2.1, hc.2.2.1, hc.2.2.2.1⟩)
  rw [e, e2, hb.name8 rfl, hb.link, hb.un, hb.gn] at this
  have hrow : ∀ f, hdRow h.typ.toNat h.name h.link h.size h.mode h.uid h.gid h.un h.gn h.ms 0 (gtv (if h.hasA then some h.ats else none)) 0 (gtv (if h.hasC then some h.cts else none)) h.maj h.min f = hRow h (.map none) (.map none) f := fun f => by
   simp only [hRow, hdRow, hb.mn, tc0, tc1]
   cases hA : h.hasA <;> cases hC : h.hasC <;> rw [hA] at ha <;> rw [hC] at hc
   ·rfl
   ·have := hc.2.2.2.2; simp [gtv, this, strv]
   ·have := ha.2.2.2.2; simp [gtv, this, strv]
   ·have h1 := ha.2.2.2.2; have h2 := hc.2.2.2.2; simp [gtv, h1, h2, strv]
  rwa [show hdRow h.typ.toNat h.name h.link h.size h.mode h.uid h.gid h.un h.gn h.ms 0 (gtv (if h.hasA then some h.ats else none)) 0 (gtv (if h.hasC then some h.cts else none)) h.maj h.min = hRow h (.map none) (.map none) from funext hrow] at this
end
end
end Go.Proofs.YtgfcnjfmmjcodaaGreatDoor
