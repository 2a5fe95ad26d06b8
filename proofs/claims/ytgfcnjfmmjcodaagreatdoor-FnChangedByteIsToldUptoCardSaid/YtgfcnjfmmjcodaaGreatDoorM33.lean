/- promoted and Strange of the specification. -/
import Derived.Test.YtgfcnjfmmjcodaaGreatDoorM27
set_option linter.all false
set_option maxRecDepth 100000
set_option maxHeartbeats 1000000
open Go.Lib (hid)
namespace Go.Proofs.YtgfcnjfmmjcodaaGreatDoor
open Go Go.RowKit
def setT (h : Hd) (t : UInt8) : Hd := { h with typ := t }
theorem sRow_setT (h : Hd) (rv : Value) (t : UInt8) : (sRow h rv).toArray.setIfInBounds 0 (.int .u8 (t.toNat : Int)) = (sRow (setT h t) rv).toArray := rfl
def promH (h : Hd) : Hd := if h.typ = 0 then setT h (if slashB h.name then 53 else 48) else h
theorem two_new (w : World) (x z : Array Value) (T U : TypeId) : ∃ wB, (w.alloc (.cells x T)).alloc (.cells z U) = wB ∧ wB.heap[w.heap.size]? = some (.cells x T (0, 0)) ∧ wB.heap[w.heap.size + 1]? = some (.cells z U (0, 0)) ∧ Kp (fun _ => False) w wB ∧ wB.heap.size = w.heap.size + 2 := by
 have s1 : (w.alloc (.cells x T)).heap.size = w.heap.size + 1 := by show (w.heap.push _).size = _; simp
 have h1 := heap_new (w.alloc (.cells x T)) (.cells z U)
 rw [s1] at h1
 refine ⟨_, rfl, heap_alloc (heap_new w _) _, h1, ((Kp.refl _ _).alloc _).alloc _, ?_⟩
 show ((w.alloc _).heap.push _).size = _
 rw [Array.size_push, s1]
theorem code_two {P : Program} {c : Code} {Q : Exit → Act → World → Prop} {a : Act} {w : World} {x z : Array Value} {T U : TypeId}
  (H : ∀ wB, wB.heap[w.heap.size]? = some (.cells x T (0, 0)) → wB.heap[w.heap.size + 1]? = some (.cells z U (0, 0)) → Kp (fun _ => False) w wB → wB.heap.size = w.heap.size + 2 → Code.wp P c Q a wB) : Code.wp P c Q a ((w.alloc (.cells x T)).alloc (.cells z U)) := by
 obtain ⟨wB, e, h1, h2, h3, h4⟩ := two_new w x z T U
 rw [e]
 exact H wB h1 h2 h3 h4
theorem code_one {P : Program} {c : Code} {Q : Exit → Act → World → Prop} {a : Act} {w : World} {x : Array Value} {T : TypeId}
  (H : ∀ wB, wB.heap[w.heap.size]? = some (.cells x T (0, 0)) → Kp (fun _ => False) w wB → wB.heap.size = w.heap.size + 1 → Code.wp P c Q a wB) : Code.wp P c Q a (w.alloc (.cells x T)) :=
 H _ (heap_new w _) ((Kp.refl _ _).alloc _) (by show (w.heap.push _).size = _; simp)
theorem one_sRow {h : Hd} {rv : Value} (hr : rv.oneCell' = true) : ((sRow h rv).toArray.all fun x => x.oneCell') = true := by
 simp [sRow, strv, Value.oneCell']
 exact hr
theorem one_recs {w : World} {C : Nat} {rv : Value} {l : List Rec} (h : RecsAt w C rv l) : rv.oneCell' = true := by
 obtain ⟨A, c, rfl⟩ := h.shape
 rfl
set_option maxHeartbeats 1600000 in
theorem promoted_any (w : World) (q : Hd) (rv : Value) (hr : rv.oneCell' = true) (hnl : q.name.length ≤ 1099511627776) :
  Calls Tryz.prog 60 #[.agg (sRow q rv).toArray] w fun e w' => e = .returned (.agg (sRow (promH q) rv).toArray) ∧ Kp (fun _ => False) w w' := by
 have HSL := fun W => hid (slashed_any W q.name hnl)
 have fin : ∀ (h' : Hd) (wC : World) (z : Array Value), wC.heap[w.heap.size]? = some (.cells (sRow h' rv).toArray 45 (0, 0)) → wC.heap[w.heap.size + 1]? = some (.cells z 45 (0, 0)) → Kp (fun _ => False) w wC →
   (wC.setRow (w.heap.size + 1) (sRow h' rv).toArray).heap[w.heap.size + 1]? = some (.cells (sRow h' rv).toArray 45 (0, 0)) ∧ Kp (fun _ => False) w (wC.setRow (w.heap.size + 1) (sRow h' rv).toArray) := fun h' wC z h1 h2 k => by
  refine ⟨?_, k.setRow (.inr (by omega)) _⟩
  unfold World.setRow
  simp only [Array.getElem?_modify, h2, if_pos rfl]
  rfl
 have FN := hid fin
 clear fin
 obtain ⟨hv, hhv⟩ : ∃ hv : Array Value, (sRow q rv).toArray = hv := ⟨_, rfl⟩
 rw [hhv]
 by_cases ht : q.typ = 0
 ·obtain ⟨β, hβ⟩ : ∃ β, slashB q.name = β := ⟨_, rfl⟩
  rw [hβ] at HSL
  have hp : promH q = setT q (if β then 53 else 48) := by unfold promH; rw [if_pos ht, hβ]
  rw [hp]
  go_enter Tryz.func60, Tryz.ntmps60
  go_upto_region 1 with fail
  refine code_two ?_
  rintro wB g1 g2 kB sB
  rw [← hhv] at g1
  have c0 : wB.cell? ⟨w.heap.size, 0, none⟩ = some (.int .u8 0) := by
   have := cell_of g1 0 (v := .int .u8 (q.typ.toNat : Int)) rfl
   rw [ht] at this
   exact this
  have z0 := free_of g1 0
  have g3 := heap_set g1 0 (.int .u8 ((48 : UInt8).toNat : Int))
  rw [sRow_setT] at g3
  have g4 := heap_set_ne g2 ⟨w.heap.size, 0, none⟩ (.int .u8 ((48 : UInt8).toNat : Int)) (by show ¬ w.heap.size + 1 = w.heap.size; omega)
  have k4 : Kp (fun _ => False) w (wB.setCell ⟨w.heap.size, 0, none⟩ (.int .u8 ((48 : UInt8).toNat : Int))) := kB.setCell (.inr (Nat.le_refl _)) _
  have G3 := hid g3
  have G4 := hid g4
  have K4 := hid k4
  clear hhv ht g1 g3 g2 g4 k4 kB hβ
  go_upto_region 3 with fail
  refine (show Code.wp _ _ _ _ (wB.setCell ⟨w.heap.size, 0, none⟩ (.int .u8 ((48 : UInt8).toNat : Int))) from ?_)
  generalize wB.setCell ⟨w.heap.size, 0, none⟩ (.int .u8 ((48 : UInt8).toNat : Int)) = wC at G3 G4 K4 ⊢
  have n1 : wC.cell? ⟨w.heap.size, 1, none⟩ = some (.string ⟨q.name.toArray⟩) := cell_of G3.out 1 rfl
  have z1 := free_of G3.out 0
  clear c0 z0
  go_wp2_with fail
  refine (HSL wC).out.mono ?_
  rintro e w1 ⟨rfl, rfl⟩
  cases β with
  | false =>
   go_upto_region 5 with fail
   first
    | refine wpList_load_row rfl 45 (.tmp 1) rfl w.heap.size rfl 45 (sRow (setT q 48) rv).toArray (0, 0) _ G3.out Tryz.underlying45 rfl (by kernel_rfl) ?_
    | (go_step; refine wpList_load_row rfl 45 (.tmp 1) rfl w.heap.size rfl 45 (sRow (setT q 48) rv).toArray (0, 0) _ G3.out Tryz.underlying45 rfl (by kernel_rfl) ?_)
    | (go_step; go_step; refine wpList_load_row rfl 45 (.tmp 1) rfl w.heap.size rfl 45 (sRow (setT q 48) rv).toArray (0, 0) _ G3.out Tryz.underlying45 rfl (by kernel_rfl) ?_)
    | (go_step; go_step; go_step; refine wpList_load_row rfl 45 (.tmp 1) rfl w.heap.size rfl 45 (sRow (setT q 48) rv).toArray (0, 0) _ G3.out Tryz.underlying45 rfl (by kernel_rfl) ?_)
   have FIN := hid (FN.out (setT q 48) w1 _ G3.out G4.out K4.out)
   refine wpList_store_row rfl 45 (.tmp 2) (.tmp 11) rfl (w.heap.size + 1) (sRow (setT q 48) rv).toArray rfl rfl 45 _ G4.out (by kernel_rfl) (by rfl) (one_sRow hr) ?_
   clear G3 G4 K4 FN
   go_wp2_with fail
   exact bodyPost_ret (results_cell_row rfl _ _ (w.heap.size + 1) 45 (sRow (setT q 48) rv).toArray (0, 0) _ rfl FIN.out.1 Tryz.underlying45 rfl (by kernel_rfl)) rfl ⟨rfl, FIN.out.2⟩
  | true =>
   have g3 := heap_set G3.out 0 (.int .u8 ((53 : UInt8).toNat : Int))
   rw [sRow_setT] at g3
   have g4 := heap_set_ne G4.out ⟨w.heap.size, 0, none⟩ (.int .u8 ((53 : UInt8).toNat : Int)) (by show ¬ w.heap.size + 1 = w.heap.size; omega)
   have k4 : Kp (fun _ => False) w (w1.setCell ⟨w.heap.size, 0, none⟩ (.int .u8 ((53 : UInt8).toNat : Int))) := K4.out.setCell (.inr (Nat.le_refl _)) _
   have c0 : w1.cell? ⟨w.heap.size, 0, none⟩ = some (.int .u8 48) := cell_of G3.out 0 rfl
   clear G3 G4 K4 n1
   have G3 : Hid ((w1.setCell ⟨w.heap.size, 0, none⟩ (.int .u8 ((53 : UInt8).toNat : Int))).heap[w.heap.size]? = some (.cells (sRow (setT q 53) rv).toArray 45 (0, 0))) := g3
   have G4 := hid g4
   have K4 := hid k4
   clear g3 g4 k4
   go_upto_region 5 with fail
   refine (show Code.wp _ _ _ _ (w1.setCell ⟨w.heap.size, 0, none⟩ (.int .u8 ((53 : UInt8).toNat : Int))) from ?_)
   generalize w1.setCell ⟨w.heap.size, 0, none⟩ (.int .u8 ((53 : UInt8).toNat : Int)) = wD at G3 G4 K4 ⊢
   clear c0 z1
   first
    | refine wpList_load_row rfl 45 (.tmp 1) rfl w.heap.size rfl 45 (sRow (setT q 53) rv).toArray (0, 0) _ G3.out Tryz.underlying45 rfl (by kernel_rfl) ?_
    | (go_step; refine wpList_load_row rfl 45 (.tmp 1) rfl w.heap.size rfl 45 (sRow (setT q 53) rv).toArray (0, 0) _ G3.out Tryz.underlying45 rfl (by kernel_rfl) ?_)
    | (go_step; go_step; refine wpList_load_row rfl 45 (.tmp 1) rfl w.heap.size rfl 45 (sRow (setT q 53) rv).toArray (0, 0) _ G3.out Tryz.underlying45 rfl (by kernel_rfl) ?_)
    | (go_step; go_step; go_step; refine wpList_load_row rfl 45 (.tmp 1) rfl w.heap.size rfl 45 (sRow (setT q 53) rv).toArray (0, 0) _ G3.out Tryz.underlying45 rfl (by kernel_rfl) ?_)
   have FIN := hid (FN.out (setT q 53) wD _ G3.out G4.out K4.out)
   refine wpList_store_row rfl 45 (.tmp 2) (.tmp 11) rfl (w.heap.size + 1) (sRow (setT q 53) rv).toArray rfl rfl 45 _ G4.out (by kernel_rfl) (by rfl) (one_sRow hr) ?_
   clear G3 G4 K4 FN
   go_wp2_with fail
   exact bodyPost_ret (results_cell_row rfl _ _ (w.heap.size + 1) 45 (sRow (setT q 53) rv).toArray (0, 0) _ rfl FIN.out.1 Tryz.underlying45 rfl (by kernel_rfl)) rfl ⟨rfl, FIN.out.2⟩
 ·have hp : promH q = q := if_neg ht
  rw [hp]
  have hne : ((q.typ.toNat : Int) == 0) = false := by
   rw [beq_eq_false_iff_ne]
   intro e
   exact ht (UInt8.toNat_inj.1 (by show q.typ.toNat = 0; omega))
  go_enter Tryz.func60, Tryz.ntmps60
  go_upto_region 1 with fail
  refine code_two ?_
  rintro wB g1 g2 kB sB
  rw [← hhv] at g1
  have c0 : wB.cell? ⟨w.heap.size, 0, none⟩ = some (.int .u8 (q.typ.toNat : Int)) := cell_of g1 0 rfl
  have G3 := hid g1
  have G4 := hid g2
  have K4 := hid kB
  clear hp hhv ht g1 g2 kB HSL
  go_upto_region 5 with fail
  first
   | refine wpList_load_row rfl 45 (.tmp 1) rfl w.heap.size rfl 45 (sRow q rv).toArray (0, 0) _ G3.out Tryz.underlying45 rfl (by kernel_rfl) ?_
   | (go_step; refine wpList_load_row rfl 45 (.tmp 1) rfl w.heap.size rfl 45 (sRow q rv).toArray (0, 0) _ G3.out Tryz.underlying45 rfl (by kernel_rfl) ?_)
   | (go_step; go_step; refine wpList_load_row rfl 45 (.tmp 1) rfl w.heap.size rfl 45 (sRow q rv).toArray (0, 0) _ G3.out Tryz.underlying45 rfl (by kernel_rfl) ?_)
   | (go_step; go_step; go_step; refine wpList_load_row rfl 45 (.tmp 1) rfl w.heap.size rfl 45 (sRow q rv).toArray (0, 0) _ G3.out Tryz.underlying45 rfl (by kernel_rfl) ?_)
  have FIN := hid (FN.out (q) wB _ G3.out G4.out K4.out)
  refine wpList_store_row rfl 45 (.tmp 2) (.tmp 11) rfl (w.heap.size + 1) (sRow q rv).toArray rfl rfl 45 _ G4.out (by kernel_rfl) (by rfl) (one_sRow hr) ?_
  clear G3 G4 K4 FN
  go_wp2_with fail
  exact bodyPost_ret (results_cell_row rfl _ _ (w.heap.size + 1) 45 (sRow q rv).toArray (0, 0) _ rfl FIN.out.1 Tryz.underlying45 rfl (by kernel_rfl)) rfl ⟨rfl, FIN.out.2⟩
structure SaneP (h : Hd) : Prop where
 wt : weight h ≤ 524288
 lo : 0 ≤ h.fmt
 hi : h.fmt ≤ 3
 mod : ¬ odd h.ms h.mn
 acc : h.hasA = true → ¬ odd h.ats h.atn
 chg : h.hasC = true → ¬ odd h.cts h.ctn
def wsum (l : List Rec) : Nat := (l.map fun r => r.1.length + r.2.length + 24).sum
theorem wsum_snoc (l : List Rec) (r : Rec) : wsum (l ++ [r]) = wsum l + (r.1.length + r.2.length + 24) := by unfold wsum; simp
theorem wsum_take (l : List Rec) (i : Nat) : wsum (l.take i) ≤ wsum l := by
 have : wsum l = wsum (l.take i) + wsum (l.drop i) := by
  unfold wsum
  rw [← List.sum_append, ← List.map_append, List.take_append_drop]
 omega
def FalseEnd (P : Prop) (e : Ending) : Prop := ∃ b, e = .returned (.bool b) ∧ (b = false → P)
set_option maxHeartbeats 1600000 in
theorem strange_any (w : World) (h : Hd) (B : Nat) (rv : Value) (hra : RecsAt w B rv h.recs) (hB : B ≤ w.heap.size) (hw : weight h ≤ 1099511627776) :
  Calls Tryz.prog 59 #[.agg (sRow h rv).toArray] w fun e w' => Hid (FalseEnd (SaneP h) e) ∧ Kp (fun _ => False) w w' := by
 obtain ⟨A, c, rfl⟩ := hra.shape
 have HRA := hid hra
 obtain ⟨n0, hn0⟩ : ∃ n0, h.name.length + h.link.length + h.un.length + h.gn.length = n0 := ⟨_, rfl⟩
 have hwt : weight h = n0 + wsum h.recs := by unfold weight wsum; rw [← hn0]
 have HWT := hid hwt
 have l1 : h.name.length ≤ 1099511627776 := by omega
 have l2 : h.link.length ≤ 1099511627776 := by omega
 have l3 : h.un.length ≤ 1099511627776 := by omega
 have l4 : h.gn.length ≤ 1099511627776 := by omega
 have hsum : (h.name.length : Int) + (h.link.length : Int) + (h.un.length : Int) + (h.gn.length : Int) = (n0 : Int) := by omega
 have hnb : n0 ≤ 1099511627776 := by omega
 have HN0 := hid hn0
 have hrl : h.recs.length ≤ 1099511627776 := by
  have h1 : ∀ l : List Rec, l.length ≤ wsum l := fun l => by
   induction l with
   | nil => exact Nat.zero_le _
   | cons r l ih => unfold wsum at ih ⊢; simp only [List.length_cons, List.map_cons, List.sum_cons]; omega
  have := h1 h.recs
  omega
 have HW := hid hw
 obtain ⟨hv, hhv⟩ : ∃ hv : Array Value, (sRow h (.slice A h.recs.length c)).toArray = hv := ⟨_, rfl⟩
 rw [hhv]
 clear hra hwt hn0 hw
 go_enter Tryz.func59, Tryz.ntmps59
 go_upto_region 1 with fail
 refine code_one ?_
 intro wA gA kA sA
 rw [← hhv] at gA
 have c1 : wA.cell? ⟨w.heap.size, 1, none⟩ = some (.string ⟨h.name.toArray⟩) := cell_of gA 1 rfl
 have c2 : wA.cell? ⟨w.heap.size, 2, none⟩ = some (.string ⟨h.link.toArray⟩) := cell_of gA 2 rfl
 have c7 : wA.cell? ⟨w.heap.size, 7, none⟩ = some (.string ⟨h.un.toArray⟩) := cell_of gA 7 rfl
 have c8 : wA.cell? ⟨w.heap.size, 8, none⟩ = some (.string ⟨h.gn.toArray⟩) := cell_of gA 8 rfl
 have c19 : wA.cell? ⟨w.heap.size, 19, none⟩ = some (.slice A h.recs.length c) := cell_of gA 19 rfl
 have LP : Hid (wA.heap[w.heap.size]? = some (.cells (sRow h (.slice A h.recs.length c)).toArray 45 (0, 0)) ∧ Kp (fun _ => False) w wA) := ⟨gA, kA⟩
 clear hhv gA kA
 go_wp2_with fail
 clear c1 c2 c7 c8 c19 l1 l2 l3 l4
 go_loopg [3, 5, 24] h.recs.length (fun g s3 s5 s24 wr => ∃ (i n : Nat), i + g = h.recs.length ∧ s24 = .int .i64 i ∧ s3 = .int .i64 n ∧ n ≤ 2199023255552 ∧ Hid (n = n0 + wsum (h.recs.take i)) ∧ Hid (wr.heap[w.heap.size]? = some (.cells (sRow h (.slice A h.recs.length c)).toArray 45 (0, 0)) ∧ Kp (fun _ => False) w wr))
 case atStart => exact ⟨0, n0, by omega, rfl, by first | rfl | (rw [hsum]), by omega, by rw [sE]; rfl, LP⟩
 case round =>
  clear LP hsum
  obtain ⟨i, n, hi, rfl, rfl, hnn, hne, hst⟩ := hrel
  by_cases hlt : i < h.recs.length
  ·obtain ⟨x, hx⟩ : ∃ x, h.recs[i]? = some x := ⟨_, List.getElem?_eq_getElem hlt⟩
   have hLr : RecsAt wr B (.slice A h.recs.length c) h.recs := HRA.out.keep hst.out.2 (fun _ h => h.elim)
   obtain ⟨b, o, c', hA, hbC, x1, x2⟩ := hLr.get hx
   injection hA with hA1 hA2 hA3
   subst hA1 hA3
   have hxg : x = h.recs[i] := by rw [List.getElem?_eq_getElem hlt] at hx; injection hx with hx; exact hx.symm
   have htk : h.recs.take (i + 1) = h.recs.take i ++ [x] := by rw [List.take_succ_eq_append_getElem hlt, hxg]
   have hsn : wsum (h.recs.take (i + 1)) = wsum (h.recs.take i) + (x.1.length + x.2.length + 24) := by rw [htk, wsum_snoc]
   have hle := wsum_take h.recs (i + 1)
   have hb2 : x.1.length + x.2.length ≤ 1099511627776 := by have := HWT.out; have := HW.out; omega
   obtain ⟨p, hp⟩ : ∃ p, x.1.length = p := ⟨_, rfl⟩
   obtain ⟨q, hq⟩ : ∃ q, x.2.length = q := ⟨_, rfl⟩
   have NX : Hid (∃ m : Nat, (n : Int) + ((p : Int) + (q : Int) + 24) = (m : Int) ∧ m ≤ 2199023255552 ∧ Hid (m = n0 + wsum (h.recs.take (i + 1)))) := ⟨n + (p + q + 24), by omega, by have := HWT.out; have := HW.out; have := hne.out; omega, by show _ = _; have := hne.out; omega⟩
   have NW : ∀ O, Hid ((wr.alloc O).heap[w.heap.size]? = some (.cells (sRow h (.slice (some ⟨b, o, none⟩) h.recs.length c)).toArray 45 (0, 0)) ∧ Kp (fun _ => False) w (wr.alloc O)) := fun O => ⟨heap_alloc hst.out.1 O, hst.out.2.alloc O⟩
   rw [hp, hq] at hb2
   clear hA2 hLr hx hxg htk hst hsn hle hne
   go_wp2_with fail
   go_roundg (gk - 1)
   case measure => omega
   case rel =>
    obtain ⟨m, h1, h2, h3⟩ := NX.out
    exact ⟨i + 1, m, by omega, by simp, by first | exact congrArg (Value.int .i64) h1 | (simp only [hp, hq]; exact congrArg (Value.int .i64) h1), h2, h3, NW _⟩
  ·obtain rfl : i = h.recs.length := by omega
   have hnw : n = weight h := by
    have h1 := hne.out
    rw [List.take_length] at h1
    have := HWT.out
    omega
   have K := hid hst.out.2
   have c20 : wr.cell? ⟨w.heap.size, 20, none⟩ = some (.int .i64 h.fmt) := cell_of hst.out.1 20 rfl
   have c9 : wr.cell? ⟨w.heap.size, 9, none⟩ = some (.int .i64 h.ms) := cell_of hst.out.1 9 rfl
   have c10 : wr.cell? ⟨w.heap.size, 10, none⟩ = some (.int .i64 h.mn) := cell_of hst.out.1 10 rfl
   obtain ⟨ba, ea⟩ : ∃ b, h.hasA = b := ⟨_, rfl⟩
   obtain ⟨bc, ec⟩ : ∃ b, h.hasC = b := ⟨_, rfl⟩
   have c11 : wr.cell? ⟨w.heap.size, 11, none⟩ = some (.bool ba) := ea ▸ cell_of hst.out.1 11 rfl
   have c12 : wr.cell? ⟨w.heap.size, 12, none⟩ = some (.bool bc) := ec ▸ cell_of hst.out.1 12 rfl
   have ROW := hid hst.out.1
   obtain ⟨b1, e1⟩ : ∃ b, decide ((524288 : Int) < (n : Int)) = b := ⟨_, rfl⟩
   obtain ⟨b2, e2⟩ : ∃ b, decide (h.fmt < 0) = b := ⟨_, rfl⟩
   obtain ⟨b3, e3⟩ : ∃ b, decide ((3 : Int) < h.fmt) = b := ⟨_, rfl⟩
   have F : Hid (b1 = false → b2 = false → b3 = false → ¬ odd h.ms h.mn → (ba = true → ¬ odd h.ats h.atn) → (bc = true → ¬ odd h.cts h.ctn) → SaneP h) := by
    show _ → _ → _ → _ → _ → _ → _
    intro f1 f2 f3 f4 f5 f6
    subst f1 f2 f3
    simp only [decide_eq_false_iff_not] at e1 e2 e3
    exact ⟨by omega, by omega, by omega, f4, fun e => f5 (ea.symm.trans e), fun e => f6 (ec.symm.trans e)⟩
   clear hst ea ec hne hnw
   cases b1 with
   | true =>
    go_wp2_with fail
    go_ret
    exact ⟨⟨_, rfl, fun e => by cases e⟩, K.out⟩
   | false =>
   cases b2 with
   | true =>
    go_wp2_with fail
    go_ret
    exact ⟨⟨_, rfl, fun e => by cases e⟩, K.out⟩
   | false =>
   cases b3 with
   | true =>
    go_wp2_with fail
    go_ret
    exact ⟨⟨_, rfl, fun e => by cases e⟩, K.out⟩
   | false =>
   go_wp2_with fail
   refine (odd_any wr h.ms h.mn).mono ?_
   rintro e w1 ⟨⟨o1, rfl, ho1⟩, k1⟩
   have K1 := hid (K.out.trans k1)
   cases o1 with
   | true =>
    go_wp2_with fail
    go_ret
    exact ⟨⟨_, rfl, fun e => by cases e⟩, K1.out⟩
   | false =>
   have F := fun a b => F.out (by first | rfl | trivial) (by first | rfl | trivial) (by first | rfl | trivial) (ho1 rfl) a b
   have R1 := hid (k1.heap ROW.out (fun h => h))
   have d11 : w1.cell? ⟨w.heap.size, 11, none⟩ = some (.bool ba) := k1.cell c11 (fun h => h)
   have d12 : w1.cell? ⟨w.heap.size, 12, none⟩ = some (.bool bc) := k1.cell c12 (fun h => h)
   have d13 : w1.cell? ⟨w.heap.size, 13, none⟩ = some (.int .i64 h.ats) := cell_of R1.out 13 rfl
   have d14 : w1.cell? ⟨w.heap.size, 14, none⟩ = some (.int .i64 h.atn) := cell_of R1.out 14 rfl
   have d15 : w1.cell? ⟨w.heap.size, 15, none⟩ = some (.int .i64 h.cts) := cell_of R1.out 15 rfl
   have d16 : w1.cell? ⟨w.heap.size, 16, none⟩ = some (.int .i64 h.ctn) := cell_of R1.out 16 rfl
   have FH := hid F
   clear F ho1 k1 c20 c9 c10 c11 c12 e1 e2 e3 ROW
   cases ba with
   | false =>
    cases bc with
    | false =>
     have F2 := hid (FH.out (fun e => by cases e) (fun e => by cases e))
     go_wp2_with fail
     go_ret
     exact ⟨⟨_, rfl, fun _ => F2.out⟩, K1.out⟩
    | true =>
     go_wp2_with fail
     refine (odd_any w1 h.cts h.ctn).mono ?_
     rintro e w3 ⟨⟨o3, rfl, ho3⟩, k3⟩
     have K3 := hid (K1.out.trans k3)
     have F2 := hid (fun e => FH.out (fun e => by cases e) (fun _ => ho3 e))
     clear ho3 k3
     go_wp2_with fail
     go_ret
     exact ⟨⟨_, rfl, F2.out⟩, K3.out⟩
   | true =>
    go_wp2_with fail
    refine (odd_any w1 h.ats h.atn).mono ?_
    rintro e w2 ⟨⟨o2, rfl, ho2⟩, k2⟩
    have K2 := hid (K1.out.trans k2)
    cases o2 with
    | true =>
     go_wp2_with fail
     go_ret
     exact ⟨⟨_, rfl, fun e => by cases e⟩, K2.out⟩
    | false =>
    have hA := ho2 rfl
    have f12 : w2.cell? ⟨w.heap.size, 12, none⟩ = some (.bool bc) := k2.cell d12 (fun h => h)
    have f15 : w2.cell? ⟨w.heap.size, 15, none⟩ = some (.int .i64 h.cts) := k2.cell d15 (fun h => h)
    have f16 : w2.cell? ⟨w.heap.size, 16, none⟩ = some (.int .i64 h.ctn) := k2.cell d16 (fun h => h)
    have HA := hid hA
    clear hA ho2 k2
    cases bc with
    | false =>
     have F2 := hid (FH.out (fun _ => HA.out) (fun e => by cases e))
     go_wp2_with fail
     go_ret
     exact ⟨⟨_, rfl, fun _ => F2.out⟩, K2.out⟩
    | true =>
     go_wp2_with fail
     refine (odd_any w2 h.cts h.ctn).mono ?_
     rintro e w3 ⟨⟨o3, rfl, ho3⟩, k3⟩
     have K3 := hid (K2.out.trans k3)
     have F2 := hid (fun e => FH.out (fun _ => HA.out) (fun _ => ho3 e))
     clear ho3 k3
     go_wp2_with fail
     go_ret
     exact ⟨⟨_, rfl, F2.out⟩, K3.out⟩
def setMany (cs : Array Value) : Nat → List Value → Array Value
 | _, [] => cs
 | o, v :: r => setMany (cs.setIfInBounds o v) (o + 1) r
theorem setMany_get : ∀ (vs : List Value) (cs : Array Value) (o i : Nat), (setMany cs o vs)[i]? = if o ≤ i ∧ i < o + vs.length ∧ i < cs.size then vs[i - o]? else cs[i]?
 | [], cs, o, i => by rw [setMany, if_neg (by simp; omega)]
 | v :: r, cs, o, i => by
  rw [setMany, setMany_get r, Array.size_setIfInBounds, Array.getElem?_setIfInBounds]
  simp only [List.length_cons]
  by_cases h1 : o + 1 ≤ i ∧ i < o + 1 + r.length ∧ i < cs.size
  ·rw [if_pos h1, if_pos (by omega), show i - o = (i - (o + 1)) + 1 by omega, List.getElem?_cons_succ]
  ·rw [if_neg h1]
   by_cases h2 : o = i
   ·subst h2
    by_cases h3 : o < cs.size
    ·rw [if_pos rfl, if_pos h3, if_pos (by omega), Nat.sub_self]; rfl
    ·rw [if_pos rfl, if_neg h3, if_neg (by omega), Array.getElem?_eq_none (by omega)]
   ·rw [if_neg h2, if_neg (by omega)]
theorem heap_setCells (b : Nat) : ∀ (vs : List Value) (o : Nat) (w : World) (cs : Array Value) (T : TypeId) (fr : Nat × Nat), w.heap[b]? = some (.cells cs T fr) → (w.setCells b o vs).heap[b]? = some (.cells (setMany cs o vs) T fr)
 | [], o, w, cs, T, fr, h => h
 | v :: r, o, w, cs, T, fr, h => by
  rw [World.setCells, setMany]
  exact heap_setCells b r (o + 1) _ _ T fr (heap_set h o v)
theorem kp_setCells {S : Nat → Prop} {a : World} (b : Nat) (hb : S b ∨ a.heap.size ≤ b) : ∀ (vs : List Value) (o : Nat) (w : World), Kp S a w → Kp S a (w.setCells b o vs)
 | [], o, w, h => h
 | v :: r, o, w, h => by
  rw [World.setCells]
  exact kp_setCells b hb r (o + 1) _ (h.setCell hb v)
theorem heap_setCells_all {b : Nat} {vs : List Value} {w : World} {cs : Array Value} {T : TypeId} {fr : Nat × Nat} (h : w.heap[b]? = some (.cells cs T fr)) (hl : cs.size = vs.length) : (w.setCells b 0 vs).heap[b]? = some (.cells vs.toArray T fr) := by
 rw [heap_setCells b vs 0 w cs T fr h]
 congr 2
 apply Array.ext_getElem?
 intro i
 rw [setMany_get]
 by_cases hi : i < vs.length
 ·rw [if_pos (by omega), Nat.sub_zero]
  simp
 ·rw [if_neg (by omega), Array.getElem?_eq_none (by omega), Array.getElem?_eq_none (by simpa using hi)]
theorem there_of {w : World} {b : Nat} {cs : Array Value} {T : TypeId} {n : Nat} (h : w.heap[b]? = some (.cells cs T (0, 0))) (hn : n ≤ cs.size) : w.there b 0 n := fun j hj => by
 have hj' : j < cs.size := by omega
 rw [Nat.zero_add, cell_of h j (Array.getElem?_eq_getElem hj')]
 exact ⟨rfl, free_of h j⟩
theorem below504 (w : World) (x : Int) : Calls Tryz.prog 16 #[.int .i64 x, .int .i64 504] w fun e w' => (∃ k : Nat, k < 504 ∧ e = .returned (.int .i64 k)) ∧ w' = w := by
 have hyb : -(504 : Int) < Int.tmod x 504 ∧ Int.tmod x 504 < 504 := by
  have h1 := Int.tmod_lt_of_pos x (show (0 : Int) < 504 by omega)
  have h2 := Int.neg_tmod (a := x) (b := 504)
  have h3 := Int.tmod_lt_of_pos (-x) (show (0 : Int) < 504 by omega)
  omega
 obtain ⟨y, hy⟩ : ∃ y, Int.tmod x 504 = y := ⟨_, rfl⟩
 rw [hy] at hyb
 by_cases hneg : y < 0
 ·go_enter Tryz.func16, Tryz.ntmps16
  go_wp2_with fail
  go_ret
  exact ⟨⟨(y + 504).toNat, by omega, by show Ending.returned (.int .i64 (y + 504)) = _; rw [Int.toNat_of_nonneg (by omega)]⟩, rfl⟩
 ·have hneg' : decide (y < 0) = false := decide_eq_false hneg
  go_enter Tryz.func16, Tryz.ntmps16
  go_wp2_with fail
  go_ret
  exact ⟨⟨y.toNat, by omega, by show Ending.returned (.int .i64 y) = _; rw [Int.toNat_of_nonneg (by omega)]⟩, rfl⟩
def AnyB (w : World) (e : Ending) (w' : World) : Prop := (∃ b, e = .returned (.bool b)) ∧ Kp (fun _ => False) w w'
theorem zz5_any (w : World) (k v : List UInt8) : Calls Tryz.prog 82 #[.agg #[.string ⟨k.toArray⟩, .string ⟨v.toArray⟩]] w (AnyB w) := by
 obtain ⟨b1, e1⟩ : ∃ b, decide ((2147483647 : Int) < (k.length : Int)) = b := ⟨_, rfl⟩
 obtain ⟨b2, e2⟩ : ∃ b, decide ((2147483647 : Int) < (v.length : Int)) = b := ⟨_, rfl⟩
 cases b1 <;> cases b2 <;> (
  go_enter Tryz.func82, Tryz.ntmps82
  go_wp2_with fail
  go_ret
  exact ⟨⟨_, rfl⟩, (Kp.refl _ _).alloc _⟩)
set_option maxHeartbeats 800000 in
theorem zz4_any (w : World) (B : Nat) (rv : Value) (l : List Rec) (hra : RecsAt w B rv l) (hl : l.length ≤ 1099511627776) : Calls Tryz.prog 46 #[rv] w (AnyB w) := by
 obtain ⟨A, c, rfl⟩ := hra.shape
 have HRA := hid hra
 clear hra
 obtain ⟨b1, e1⟩ : ∃ b, decide ((2147483647 : Int) < (l.length : Int)) = b := ⟨_, rfl⟩
 cases b1 with
 | true =>
  go_enter Tryz.func46, Tryz.ntmps46
  go_wp2_with fail
  go_ret
  exact ⟨⟨_, rfl⟩, Kp.refl _ _⟩
 | false =>
 go_enter Tryz.func46, Tryz.ntmps46
 go_wp2_with fail
 go_loopg [4, 10] l.length (fun g s4 s10 wr => ∃ (i : Nat), i + g = l.length ∧ s10 = .int .i64 i ∧ Hid (Kp (fun _ => False) w wr))
 case atStart => exact ⟨0, by omega, rfl, Kp.refl _ _⟩
 case round =>
  obtain ⟨i, hi, rfl, hst⟩ := hrel
  by_cases hlt : i < l.length
  ·obtain ⟨x, hx⟩ : ∃ x, l[i]? = some x := ⟨_, List.getElem?_eq_getElem hlt⟩
   have hLr : RecsAt wr B (.slice A l.length c) l := HRA.out.keep hst.out (fun _ h => h.elim)
   obtain ⟨b, o, c', hA, hbC, x1, x2⟩ := hLr.get hx
   injection hA with hA1 hA2 hA3
   subst hA1 hA3
   have NW : ∀ O, Hid (Kp (fun _ => False) w (wr.alloc O)) := fun O => hst.out.alloc O
   clear hA2 hLr hx hst
   go_wp2_with fail
   refine (zz5_any _ x.1 x.2).mono ?_
   rintro e w1 ⟨⟨b1, rfl⟩, k1⟩
   have K1 := hid ((NW _).out.trans k1)
   clear NW k1
   cases b1 with
   | false =>
    go_wp2_with fail
    go_ret
    exact ⟨⟨_, rfl⟩, K1.out⟩
   | true =>
    go_wp2_with fail
    go_roundg (gk - 1)
    case measure => omega
    case rel => exact ⟨i + 1, by omega, by simp, K1⟩
  ·obtain rfl : i = l.length := by omega
   go_wp2_with fail
   go_ret
   exact ⟨⟨_, rfl⟩, hst.out⟩
def iRowH (h : Hd) (rv : Value) : List Value :=
 iRow h.typ.toNat h.name h.link h.size h.mode h.uid h.gid h.un h.gn h.ms h.mn h.hasA h.ats h.atn h.hasC h.cts h.ctn h.maj h.min rv h.fmt
set_option maxHeartbeats 800000 in
theorem zz3_any (w : World) (B : Nat) (h : Hd) (rv : Value) (hra : RecsAt w B rv h.recs) (hl : h.recs.length ≤ 1099511627776) : Calls Tryz.prog 19 #[.agg (iRowH h rv).toArray] w (AnyB w) := by
 have HZ := fun W (k : Kp (fun _ => False) w W) => hid (zz4_any W B rv h.recs (hra.keep k (fun _ h => h.elim)) hl)
 obtain ⟨A, c, rfl⟩ := hra.shape
 obtain ⟨hv, hhv⟩ : ∃ hv : Array Value, (iRowH h (.slice A h.recs.length c)).toArray = hv := ⟨_, rfl⟩
 rw [hhv]
 clear hra
 go_enter Tryz.func19, Tryz.ntmps19
 go_upto_region 1 with fail
 refine code_one ?_
 intro wA gA kA sA
 rw [← hhv] at gA
 have c1 : wA.cell? ⟨w.heap.size, 1, none⟩ = some (.string ⟨h.name.toArray⟩) := cell_of gA 1 rfl
 have c2 : wA.cell? ⟨w.heap.size, 2, none⟩ = some (.string ⟨h.link.toArray⟩) := cell_of gA 2 rfl
 have c7 : wA.cell? ⟨w.heap.size, 7, none⟩ = some (.string ⟨h.un.toArray⟩) := cell_of gA 7 rfl
 have c8 : wA.cell? ⟨w.heap.size, 8, none⟩ = some (.string ⟨h.gn.toArray⟩) := cell_of gA 8 rfl
 have c19 : wA.cell? ⟨w.heap.size, 19, none⟩ = some (.slice A h.recs.length c) := cell_of gA 19 rfl
 have KA := hid kA
 clear hhv gA kA
 obtain ⟨b1, e1⟩ : ∃ b, decide ((2147483647 : Int) < (h.name.length : Int)) = b := ⟨_, rfl⟩
 obtain ⟨b2, e2⟩ : ∃ b, decide ((2147483647 : Int) < (h.link.length : Int)) = b := ⟨_, rfl⟩
 obtain ⟨b3, e3⟩ : ∃ b, decide ((2147483647 : Int) < (h.un.length : Int)) = b := ⟨_, rfl⟩
 obtain ⟨b4, e4⟩ : ∃ b, decide ((2147483647 : Int) < (h.gn.length : Int)) = b := ⟨_, rfl⟩
 cases b1 with
 | true =>
  go_wp2_with fail
  go_ret
  exact ⟨⟨_, rfl⟩, KA.out⟩
 | false =>
 cases b2 with
 | true =>
  go_wp2_with fail
  go_ret
  exact ⟨⟨_, rfl⟩, KA.out⟩
 | false =>
 cases b3 with
 | true =>
  go_wp2_with fail
  go_ret
  exact ⟨⟨_, rfl⟩, KA.out⟩
 | false =>
 cases b4 with
 | true =>
  go_wp2_with fail
  go_ret
  exact ⟨⟨_, rfl⟩, KA.out⟩
 | false =>
 go_wp2_with fail
 refine (HZ wA KA.out).out.mono ?_
 rintro e w1 ⟨⟨b, rfl⟩, k1⟩
 have K1 := hid (KA.out.trans k1)
 cases b <;> (
  go_wp2_with fail
  go_ret
  exact ⟨⟨_, rfl⟩, K1.out⟩)
def iFRow (h : Hd) (rv dv : Value) (en : Int) : List Value := iRowH h rv ++ [dv, .int .i64 en]
set_option maxHeartbeats 800000 in
theorem zz2_any (w : World) (B : Nat) (h : Hd) (rv : Value) (A : Option Addr) (n c : Nat) (en : Int) (hra : RecsAt w B rv h.recs) (hl : h.recs.length ≤ 1099511627776) : Calls Tryz.prog 14 #[.agg (iFRow h rv (.slice A n c) en).toArray] w (AnyB w) := by
 have HZ := fun W (k : Kp (fun _ => False) w W) => hid (zz3_any W B h rv (hra.keep k (fun _ h => h.elim)) hl)
 obtain ⟨hv, hhv⟩ : ∃ hv : Array Value, (iFRow h rv (.slice A n c) en).toArray = hv := ⟨_, rfl⟩
 rw [hhv]
 clear hra
 go_enter Tryz.func14, Tryz.ntmps14
 go_upto_region 1 with fail
 refine code_one ?_
 intro wA gA kA sA
 rw [← hhv] at gA
 have hrg : wA.rangeAt w.heap.size 0 (iRowH h rv) := fun j v hv' => by
  rw [Nat.zero_add]
  refine cell_of gA j ?_
  rw [List.getElem?_toArray, iFRow, List.getElem?_append_left (by exact (List.getElem?_eq_some_iff.1 hv').1)]
  exact hv'
 have c22 : wA.cell? ⟨w.heap.size, 21, none⟩ = some (.slice A n c) := cell_of gA 21 rfl
 have HRG := hid hrg
 have KA := hid kA
 obtain ⟨b1, e1⟩ : ∃ b, decide ((2147483647 : Int) < (n : Int)) = b := ⟨_, rfl⟩
 clear hhv gA kA hrg
 go_step
 go_step
 first
  | refine wpList_load_mid rfl 26 (.tmp 3) rfl w.heap.size 0 rfl (iRowH h rv) _ HRG.out Tryz.underlying26 rfl (by kernel_rfl) ?_
  | (go_step; refine wpList_load_mid rfl 26 (.tmp 3) rfl w.heap.size 0 rfl (iRowH h rv) _ HRG.out Tryz.underlying26 rfl (by kernel_rfl) ?_)
  | (go_step; go_step; refine wpList_load_mid rfl 26 (.tmp 3) rfl w.heap.size 0 rfl (iRowH h rv) _ HRG.out Tryz.underlying26 rfl (by kernel_rfl) ?_)
 go_wp2_with fail
 refine (HZ wA KA.out).out.mono ?_
 rintro e w1 ⟨⟨b, rfl⟩, k1⟩
 have K1 := hid (KA.out.trans k1)
 have d22 : w1.cell? ⟨w.heap.size, 21, none⟩ = some (.slice A n c) := k1.cell c22 (fun h => h)
 clear k1 HRG
 cases b with
 | false =>
  go_wp2_with fail
  go_ret
  exact ⟨⟨_, rfl⟩, K1.out⟩
 | true =>
  cases b1 <;> (
   go_wp2_with fail
   go_ret
   exact ⟨⟨_, rfl⟩, K1.out⟩)
theorem slice_from24 (W : World) (g n cap : Nat) (l : Int) (k : Nat) (hlk : l = (k : Int)) (hl : k ≤ n) (hc : cap ≠ k) :
  (Instr.slice 24 (.slice (some ⟨g, 0, none⟩) n cap) (some (.int .i64 l)) none none).run Tryz.prog W = .ok (.slice (some ⟨g, k * 2, none⟩) (n - k) (cap - k)) W := by
 subst hlk
 obtain ⟨i0, hi, hz, hsz, hby⟩ := infoI.info
 have hu : Tryz.prog.underlying 24 = some (.slice (Tryz.prog.elem 24)) := by kernel_rfl
 have he : Tryz.prog.elem 24 = 171 := by kernel_rfl
 rw [run_slice_l W 24 _ _ _ hu .i64 (k : Int) (by omega) (by omega), he]
 have hs : (sizeOf 171).run Tryz.prog W = .ok 2 W := by simp [sizeOf, typeInfo, hi, hsz]
 rw [hs]
 simp only [Result.andThen, sliced, Int.toNat_natCast, if_neg hc, Option.map]
 have e : Addr.add ⟨g, 0, none⟩ (k * 2) = ⟨g, k * 2, none⟩ := by simp [Addr.add]; intro h; rw [h]
 rw [e]
theorem slice_end24 (W : World) (g n : Nat) (l : Int) (hlk : l = (n : Int)) :
  (Instr.slice 24 (.slice (some ⟨g, 0, none⟩) n n) (some (.int .i64 l)) none none).run Tryz.prog W = .ok (.slice (some ⟨g, 0, none⟩) 0 0) W := by
 subst hlk
 obtain ⟨i0, hi, hz, hsz, hby⟩ := infoI.info
 have hu : Tryz.prog.underlying 24 = some (.slice (Tryz.prog.elem 24)) := by kernel_rfl
 have he : Tryz.prog.elem 24 = 171 := by kernel_rfl
 rw [run_slice_l W 24 _ _ _ hu .i64 (n : Int) (by omega) (by omega), he]
 have hs : (sizeOf 171).run Tryz.prog W = .ok 2 W := by simp [sizeOf, typeInfo, hi, hsz]
 rw [hs]
 simp [Result.andThen, sliced]
def gotH (h : Hd) (f : Int) (a c : Bool) : Hd :=
 { h with ats := if a && h.hasA then h.ats else 0, atn := if a && h.hasA then h.atn else 0, cts := if c && h.hasC then h.cts else 0, ctn := if c && h.hasC then h.ctn else 0, fmt := fmtN f }
theorem gotH_a {h : Hd} {f : Int} {c : Bool} (e : h.hasA = false) : gotH h f true c = gotH h f false c := by unfold gotH; rw [e]; rfl
theorem gotH_c {h : Hd} {f : Int} {a : Bool} (e : h.hasC = false) : gotH h f a true = gotH h f a false := by unfold gotH; rw [e]; rfl
structure TimesOk (h : Hd) : Prop where
 mod : (0 ≤ h.mn ∧ h.mn < 1000000000) ∧ -100000000000000003 ≤ h.ms ∧ h.ms ≤ 100000000000000003
 acc : h.hasA = true → (0 ≤ h.atn ∧ h.atn < 1000000000) ∧ (-100000000000000003 ≤ h.ats ∧ h.ats ≤ 100000000000000003) ∧ ¬ (h.ats = -62135596800 ∧ h.atn = 0)
 chg : h.hasC = true → (0 ≤ h.ctn ∧ h.ctn < 1000000000) ∧ (-100000000000000003 ≤ h.cts ∧ h.cts ≤ 100000000000000003) ∧ ¬ (h.cts = -62135596800 ∧ h.ctn = 0)
structure HfSt (w : World) (P : Nat) (hh : Hd) (l : List Rec) (wx : World) : Prop where
 row : ∃ v, wx.heap[P]? = some (.cells (iRowH hh v).toArray 26 (0, 0)) ∧ OwnR 171 wx (w.heap.size + 1) v l ∧ v.ownBlock ≠ some P
 res : wx.heap[w.heap.size]? = some (.cells iZero.toArray 26 (0, 0))
 kp : Kp (fun _ => False) w wx
 lt : w.heap.size + 1 ≤ P
theorem HfSt.grow {w wx wy : World} {P : Nat} {hh : Hd} {l : List Rec} (s : HfSt w P hh l wx) (k : Kp (fun _ => False) wx wy) : HfSt w P hh l wy := by
 obtain ⟨v, h1, h2, h3⟩ := s.row
 exact ⟨⟨v, k.heap h1 (fun h => h), h2.keep k (fun _ _ h => h), h3⟩, k.heap s.res (fun h => h), s.kp.trans k, s.lt⟩
theorem HfSt.iter {w wx wy : World} {P r : Nat} {hh : Hd} {l : List Rec} (s : HfSt w P hh l wx) (k : Kp (· = r) wx wy) (hr : w.heap.size < r) (hP : P ≠ r) (hv : ∀ v, wx.heap[P]? = some (.cells (iRowH hh v).toArray 26 (0, 0)) → v.ownBlock ≠ some r) : HfSt w P hh l wy := by
 obtain ⟨v, h1, h2, h3⟩ := s.row
 exact ⟨⟨v, k.heap h1 hP, h2.keep k (fun b hb e => by have e : b = r := e; subst e; exact hv v h1 hb), h3⟩, k.heap s.res (by omega), s.kp.then k (fun i hi e => by omega), s.lt⟩
theorem iRowH_set19 (h : Hd) (v u : Value) : (iRowH h v).toArray.setIfInBounds 19 u = (iRowH h u).toArray := rfl
theorem HfSt.app {w wx : World} {P : Nat} {hh : Hd} {l : List Rec} (s : HfSt w P hh l wx) (hl : l.length ≤ 4294967295) (lv : Value) (hlv : wx.cell? ⟨P, 19, none⟩ = some lv) :
  ∃ g cap w2, (Builtin.append_ #[24, 24] 24 #[lv, .slice (some ⟨wx.heap.size, 0, none⟩) 1 1]).run Tryz.prog (wx.alloc (.cells #[.string ⟨#[]⟩, .string ⟨#[]⟩] 171)) = .ok (.slice (some ⟨g, 0, none⟩) (l.length + 1) cap) w2 ∧
   w2.cell? ⟨P, 19, none⟩ = some lv ∧ w2.frozen? ⟨P, 19, none⟩ = false ∧
   (w2.setCell ⟨P, 19, none⟩ (.slice (some ⟨g, 0, none⟩) (l.length + 1) cap)).heap[P]? = some (.cells (iRowH hh (.slice (some ⟨g, 0, none⟩) (l.length + 1) cap)).toArray 26 (0, 0)) ∧
   OwnR 171 (w2.setCell ⟨P, 19, none⟩ (.slice (some ⟨g, 0, none⟩) (l.length + 1) cap)) (w.heap.size + 1) (.slice (some ⟨g, 0, none⟩) (l.length + 1) cap) (l ++ [([], [])]) ∧ g ≠ P ∧ w.heap.size + 1 ≤ g ∧
   Kp (fun i => i = P ∨ lv.ownBlock = some i) wx (w2.setCell ⟨P, 19, none⟩ (.slice (some ⟨g, 0, none⟩) (l.length + 1) cap)) ∧ (g < wx.heap.size → lv.ownBlock = some g) ∧ l.length + 1 ≤ cap ∧ cap ≤ maxLen := by
 obtain ⟨v, h1, h2, h3⟩ := s.row
 have e : v = lv := by
  have := cell_of h1 19 (v := v) rfl
  rw [hlv] at this
  injection this with this
  exact this.symm
 subst e
 have hP := lt_of h1
 have hlt := s.lt
 obtain ⟨v2, w2, hr, ho, hk, hb⟩ := app_rec_at (ty := 24) wx infoI (w.heap.size + 1) v l ([], []) h2 (by omega) (by omega)
 rcases ho.shape with ⟨_, e⟩ | ⟨g, cap, rfl, hg, hc1, hc2⟩
 ·simp at e
 rw [List.length_append, List.length_singleton] at hr ho hc1
 have gP : g ≠ P := by
  rcases hb with hb | hb
  ·intro e; exact h3 (by rw [← hb, e]; rfl)
  ·have hb : some g = some (wx.heap.size + 1) := hb
   injection hb with hb
   omega
 have g1 := hk.heap h1 (fun e => h3 e.symm)
 have ks : Kp (· = P) w2 (w2.setCell ⟨P, 19, none⟩ (.slice (some ⟨g, 0, none⟩) (l.length + 1) cap)) := Kp.setCell (S := (· = P)) (p := ⟨P, 19, none⟩) (Kp.refl _ w2) (.inl rfl) _
 have g2 := heap_set g1 19 (.slice (some ⟨g, 0, none⟩) (l.length + 1) cap)
 rw [iRowH_set19] at g2
 refine ⟨g, cap, w2, hr, cell_of g1 19 rfl, free_of g1 19, g2, ho.keep ks (fun b hb e => by have hb : some g = some b := hb; injection hb with hb; exact gP (hb.trans e)), gP, hg, ?_, ?_, hc1, hc2⟩
 ·exact (hk.mono (S' := fun i => i = P ∨ v.ownBlock = some i) (fun i _ e => .inr e.symm)).then ks (fun i _ e => .inl e)
 ·intro hi
  rcases hb with hb | hb
  ·exact hb.symm
  ·have hb2 := Option.some.inj (show some g = some (wx.heap.size + 1) from hb)
   omega
theorem HfSt.of_row {w wx : World} {P g n cap : Nat} {hh : Hd} {l : List Rec} (h : wx.heap[P]? = some (.cells (iRowH hh (.slice (some ⟨g, 0, none⟩) n cap)).toArray 26 (0, 0))) (o : OwnR 171 wx (w.heap.size + 1) (.slice (some ⟨g, 0, none⟩) n cap) l) (hg : g ≠ P)
  (hr : wx.heap[w.heap.size]? = some (.cells iZero.toArray 26 (0, 0))) (k : Kp (fun _ => False) w wx) (hl : w.heap.size + 1 ≤ P) : HfSt w P hh l wx :=
 ⟨⟨_, h, o, fun e => hg (by have e : some g = some P := e; injection e)⟩, hr, k, hl⟩
structure RecsIs (M : List UInt8 → Option (List UInt8)) (left : List UInt8 → Bool) (l : List Rec) : Prop where
 mem : ∀ k v, (k, v) ∈ l ↔ M k = some v ∧ left k = false
 nodup : (l.map Prod.fst).Nodup
theorem RecsIs.start (M : List UInt8 → Option (List UInt8)) : RecsIs M (fun k => (M k).isSome) [] :=
 ⟨fun k v => ⟨fun h => (by cases h), fun h => (by have h2 := h.2; rw [h.1] at h2; cases h2)⟩, List.nodup_nil⟩
theorem RecsIs.step {M : List UInt8 → Option (List UInt8)} {left : List UInt8 → Bool} {l l' : List Rec} {k v : List UInt8} (s : RecsIs M left l) (hM : M k = some v) (hl : left k = true) (hp : l'.Perm ((k, v) :: l)) : RecsIs M (fun z => left z && !(z == k)) l' := by
 refine ⟨fun z u => ?_, ?_⟩
 ·rw [hp.mem_iff, List.mem_cons, s.mem]
  by_cases e : z = k
  ·subst e
   have e1 : (left z && !(z == z)) = false := by simp
   rw [e1, hl]
   constructor
   ·rintro (h | ⟨h, h2⟩)
    ·injection h with _ h; subst h; exact ⟨hM, rfl⟩
    ·cases h2
   ·rintro ⟨h, _⟩
    rw [hM] at h
    injection h with h
    subst h
    exact .inl rfl
  ·have e1 : (z == k) = false := by rw [beq_eq_false_iff_ne]; exact e
   rw [e1]
   simp only [Bool.not_false, Bool.and_true]
   constructor
   ·rintro (h | h)
    ·injection h with h _; exact absurd h e
    ·exact h
   ·exact .inr
 ·rw [(hp.map Prod.fst).nodup_iff, List.map_cons, List.nodup_cons]
  refine ⟨fun h => ?_, s.nodup⟩
  obtain ⟨r, hr, e⟩ := List.mem_map.1 h
  have := (s.mem r.1 r.2).1 hr
  rw [e, hl] at this
  cases this.2
theorem nodup_len : ∀ (a b : List (List UInt8)), a.Nodup → (∀ x ∈ a, x ∈ b) → a.length ≤ b.length
 | [], b, _, _ => Nat.zero_le _
 | x :: a, b, hn, hs => by
  have hx := hs x (List.mem_cons_self ..)
  rw [List.nodup_cons] at hn
  have h1 := nodup_len a (b.erase x) hn.2 (fun y hy => by
   have hne : y ≠ x := fun e => hn.1 (e ▸ hy)
   exact (List.mem_erase_of_ne hne).2 (hs y (List.mem_cons_of_mem _ hy)))
  rw [List.length_erase_of_mem hx] at h1
  have := List.length_pos_of_mem hx
  rw [List.length_cons]
  omega
theorem RecsIs.len {M : List UInt8 → Option (List UInt8)} {left : List UInt8 → Bool} {l : List Rec} {ks : List (List UInt8)} (s : RecsIs M left l) (h : ∀ k, (M k).isSome = true → k ∈ ks) : l.length ≤ ks.length := by
 have := nodup_len (l.map Prod.fst) ks s.nodup (fun x hx => by
  obtain ⟨r, hr, e⟩ := List.mem_map.1 hx
  subst e
  have := (s.mem r.1 r.2).1 hr
  exact h _ (by rw [this.1]; rfl))
 rwa [List.length_map] at this
theorem Rg.not_cells {w : World} {b r k : Nat} {M : List UInt8 → Option (List UInt8)} {left : List UInt8 → Bool} {cs : Array Value} {T : TypeId} {fr : Nat × Nat} (h : Rg w b r M left) (hc : w.heap[k]? = some (.cells cs T fr)) : b ≠ k ∧ r ≠ k := by
 obtain ⟨D, n, L, cnt, ⟨es, clock, since, seen, c0, h1, F, hs, hD, h2, rest⟩, h3⟩ := h
 constructor
 ·rintro rfl
  rw [h1] at hc
  cases hc
 ·rintro rfl
  rw [h2] at hc
  cases hc
end Go.Proofs.YtgfcnjfmmjcodaaGreatDoor
