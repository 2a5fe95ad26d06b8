/- Sources of bytes. -/
import Derived.Laws.Tables
import Derived.Laws.BitsAllLaws
import Derived.Laws.CopyRow
import Derived.Deep.DeepAppendWide
import Derived.Lib.AppendZeros
import Derived.Test.YtgfcnjfmmjcodaaGreatDoorM18
set_option linter.all false
set_option maxRecDepth 100000
set_option maxHeartbeats 1000000
namespace Go.Proofs.YtgfcnjfmmjcodaaGreatDoor
open Go Go.RowKit
theorem isSrc_bytes {E : Nat → Addr} {B S D : Nat} (hS : B ≤ S) (hD : B ≤ D) : IsSrc E B 94 (.pointer (some ⟨S, 0, none⟩)) (fun k => k = S ∨ k = D) (BrInv S D) :=
 ⟨isRd_bytes hS hD, fun w n rest hG hi hn => discard_bytes hS hD w n rest hG hi hn⟩
theorem bytesNewReader (w : World) (A : Option Addr) (n c : Nat) : Calls Tryz.prog 41 #[.slice A n c] w fun e w' => e = .returned (.pointer (some ⟨w.heap.size, 0, none⟩)) ∧ w' = w.alloc (.cells #[.slice A n c, .int .i64 0, .int .i64 (-1)] 160) := by
 go_enter Tryz.func41, Tryz.ntmps41
 go_wp2_with fail
 go_ret
 exact ⟨rfl, rfl⟩
theorem clone_any (w : World) (b off c : Nat) (l : List UInt8) (hl : BytesAt w b off l) (hlen : l.length ≤ 140737488355328) :
  Calls Tryz.prog 42 #[.slice (some ⟨b, off, none⟩) l.length c] w fun e w' => ∃ v, e = .returned v ∧ OwnB w' w.heap.size v l ∧ v.ownBlock ≠ none ∧ Kp (fun _ => False) w w' := by
 have hnil : ∀ w, (binOp .eql 27 (.slice (some ⟨b, off, none⟩) l.length c) (.slice none 0 0)).run Tryz.prog w = .ok (.bool false) w := fun _ => by kernel_rfl
 have hown : OwnB (w.alloc (.cells #[] 5)) w.heap.size (.slice (some ⟨w.heap.size, 0, none⟩) 0 0) [] := World.ownsRow_made w #[] 0 (Nat.le_refl _) (by decide) rfl
 have hka : Kp (fun _ => False) w (w.alloc (.cells #[] 5)) := (Kp.refl _ _).alloc _
 have hcells : ∀ (j : Nat) (u : Value), (ubs l)[j]? = some u → (w.alloc (.cells #[] 5)).cell? ((⟨b, off, none⟩ : Addr).add j) = some u := fun j u hu => by
  rw [add_plain']
  exact hka.cell (hl j u hu) (fun h => h)
 have hsz : (w.alloc (.cells #[] 5)).heap.size = w.heap.size + 1 := by show (w.heap.push _).size = _; simp
 have HL := Lib.hid hl
 clear hl
 go_enter Tryz.func42, Tryz.ntmps42
 go_wp2_with (at_builtin; refine wp_append rfl (.tmp 5) (.tmp 6) rfl w.heap.size _ [] rfl hown ⟨b, off, none⟩ l.length c l rfl rfl hcells (by simpa using hlen) (by rw [hsz]; omega) ?_; intro v2 w2 hown2 hk2 hat2)
 go_ret
 have hv2 : v2.ownBlock ≠ none := by
  rcases hat2 with h | h
  ·rw [h]; exact fun e => by cases e
  ·rw [h]; exact fun e => by cases e
 refine ⟨v2, rfl, by simpa using hown2, hv2, hka.then hk2 (fun i hi h => ?_)⟩
 have h' : some i = some w.heap.size := h
 injection h' with h'
 omega
theorem source_bytes {w : World} {base : Nat} {v : Value} {l : List UInt8} (h : OwnB w base v l) (hv : v.ownBlock ≠ none) (hl : l.length ≤ 281474976710656) :
  ∃ D c, v = .slice (some ⟨D, 0, none⟩) l.length c ∧ base ≤ D ∧ D < w.heap.size ∧ BrInv w.heap.size D (w.alloc (.cells #[v, .int .i64 0, .int .i64 (-1)] 160)) 0 l := by
 have hc := fun g hg => World.ownsRow.cells h (g := g) hg
 rcases h.2 with ⟨rfl, h0⟩ | ⟨g, cap, cur, rfl, hg, hh, h3, h4, h5⟩
 ·exact absurd rfl hv
 ·have hgs := lt_of hh
  refine ⟨g, cap, rfl, hg, hgs, rfl, by omega, l, some ⟨g, 0, none⟩, 0, cap, .int .i64 (-1), 160, 5, (0, 0), cur, heap_new w _, ?_, fun _ => rfl, ?_, h3, hl, Nat.zero_le _, rfl⟩
  ·exact ((Kp.refl (fun _ => False) w).alloc _).heap hh (fun h => h)
  ·intro j u hu
   have := hc g rfl j u hu
   rw [add_plain', Nat.zero_add] at this
   simp [World.cell?, hh] at this
   exact this
theorem end_nil (w : World) : Calls Tryz.prog 45 #[.nilIface] w fun e w' => e = .returned (.int .i64 0) ∧ w' = w := by
 go_enter Tryz.func45, Tryz.ntmps45
 go_wp2_with fail
 go_ret
 exact ⟨rfl, rfl⟩
theorem end_err {E : Nat → Addr} {B : Nat} (w : World) (hG : Glob E B w) (g : Nat) (hg : g = 0 ∨ g = 1 ∨ g = 5) : Calls Tryz.prog 45 #[errv (E g)] w fun e w' => e = .returned (.int .i64 ((g : Int) + 1)) ∧ w' = w := by
 have c0 := (hG.var 0 (by decide)).2
 have c1 := (hG.var 1 (by decide)).2
 have c2 := (hG.var 2 (by decide)).2
 have c3 := (hG.var 3 (by decide)).2
 have c4 := (hG.var 4 (by decide)).2
 have c5 := (hG.var 5 (by decide)).2
 rcases hg with rfl | rfl | rfl
 ·go_enter Tryz.func45, Tryz.ntmps45
  go_wp2_with fail
  go_ret
  exact ⟨rfl, rfl⟩
 ·have n0 := run_err_ne hG (g := 1) (h := 0) (by decide) (by decide) (by decide)
  go_enter Tryz.func45, Tryz.ntmps45
  go_wp2_with fail
  go_ret
  exact ⟨rfl, rfl⟩
 ·have n0 := run_err_ne hG (g := 5) (h := 0) (by decide) (by decide) (by decide)
  have n1 := run_err_ne hG (g := 5) (h := 1) (by decide) (by decide) (by decide)
  have n2 := run_err_ne hG (g := 5) (h := 2) (by decide) (by decide) (by decide)
  have n3 := run_err_ne hG (g := 5) (h := 3) (by decide) (by decide) (by decide)
  have n4 := run_err_ne hG (g := 5) (h := 4) (by decide) (by decide) (by decide)
  go_enter Tryz.func45, Tryz.ntmps45
  go_wp2_with fail
  go_ret
  exact ⟨rfl, rfl⟩
def iRow (typ : Nat) (name link : List UInt8) (size mode uid gid : Int) (un gn : List UInt8) (ms mn : Int) (hasA : Bool) (as_ an : Int) (hasC : Bool) (cs cn maj min : Int) (recs : Value) (fmt : Int) : List Value :=
 [.int .u8 typ, strv name, strv link, .int .i64 size, .int .i64 mode, .int .i64 uid, .int .i64 gid, strv un, strv gn, .int .i64 ms, .int .i64 mn, .bool hasA, .int .i64 as_, .int .i64 an, .bool hasC, .int .i64 cs, .int .i64 cn, .int .i64 maj, .int .i64 min, recs, .int .i64 fmt]
def iZero : List Value := iRow 0 [] [] 0 0 0 0 [] [] 0 0 false 0 0 false 0 0 0 0 (.slice none 0 0) 0
theorem heap_setRow_new (w : World) (c d : Array Value) (t : TypeId) : ((w.alloc (.cells c t)).setRow w.heap.size d).heap[w.heap.size]? = some (.cells d t (0, 0)) := by
 have := heap_new w (.cells c t)
 unfold World.setRow
 simp only [Array.getElem?_modify, this, if_pos rfl]
 rfl
theorem kp_setRow_new (w : World) (o : Obj) (d : Array Value) : Kp (fun _ => False) w ((w.alloc o).setRow w.heap.size d) := by
 have k := (Kp.refl (fun _ => False) w).alloc o
 refine ⟨k.os, k.tape, k.output, ?_, fun i hi hs => ?_⟩
 ·have := k.size
  unfold World.setRow
  show w.heap.size ≤ (Array.modify _ _ _).size
  rw [Array.size_modify]; exact this
 ·unfold World.setRow
  simp only [Array.getElem?_modify]
  rw [if_neg (by omega)]
  exact k.block i hi hs
theorem headerOf_nil (w : World) : Calls Tryz.prog 44 #[.pointer none] w fun e w' => e = .returned (.agg iZero.toArray) ∧ Kp (fun _ => False) w w' := by
 go_enter Tryz.func44, Tryz.ntmps44
 go_upto_region 2 with fail
 iterate 4 go_step
 refine wpList_store_row rfl 26 (.tmp 2) (.tmp 9) rfl w.heap.size iZero.toArray rfl rfl 26 iZero.toArray (heap_new _ _) (by kernel_rfl) rfl (by kernel_rfl) ?_
 go_wp2_with fail
 exact bodyPost_ret (results_cell_row rfl _ _ w.heap.size 26 iZero.toArray (0, 0) _ rfl (heap_setRow_new _ _ _ _) Tryz.underlying26 rfl (by kernel_rfl)) rfl ⟨rfl, kp_setRow_new _ _ _⟩
theorem heap_setRow {w : World} {g : Nat} {c : Array Value} {t : TypeId} (h : w.heap[g]? = some (.cells c t (0, 0))) (d : Array Value) : (w.setRow g d).heap[g]? = some (.cells d t (0, 0)) := by
 unfold World.setRow
 simp only [Array.getElem?_modify, h, if_pos rfl]
 rfl
theorem first_fail {E : Nat → Addr} {B : Nat} (w : World) (hG : Glob E B w) (ht : Lib.Utf8Tabs 14 15 w) (h16 : 16 ≤ B) (b off c : Nat) (l : List UInt8) (hl : BytesAt w b off l) (hlen : l.length ≤ 140737488355328)
  (g : Nat) (hg : g = 0 ∨ g = 1 ∨ g = 5) (hh : HeadP 0 0 none [] [] l (.fail g)) :
  Calls Tryz.prog 18 #[.slice (some ⟨b, off, none⟩) l.length c] w fun e w' => e = .returned (.tuple #[.agg iZero.toArray, .int .i64 ((g : Int) + 1)]) ∧ Kp (fun _ => False) w w' := by
 go_enter Tryz.func18, Tryz.ntmps18
 have hk0 : ∀ o, Kp (fun _ => False) w (w.alloc o) := fun o => (Kp.refl _ _).alloc o
 have HL := Lib.hid hl
 have HH := Lib.hid hh
 have HT := Lib.hid ht
 clear hl hh ht
 obtain ⟨w0, hw0⟩ : ∃ w0, w.alloc (.cells iZero.toArray 26) = w0 := ⟨_, rfl⟩
 have hka : Kp (fun _ => False) w w0 := hw0 ▸ hk0 _
 have hrow0 : w0.heap[w.heap.size]? = some (.cells iZero.toArray 26 (0, 0)) := hw0 ▸ heap_new w _
 have hsz0 : w0.heap.size = w.heap.size + 1 := by rw [← hw0]; show (w.heap.push _).size = _; simp
 go_wp2_with fail
 refine (show Calls _ _ _ (w.alloc (.cells iZero.toArray 26)) _ from ?_)
 rw [hw0]
 refine (clone_any w0 b off c l (fun j v hv => hka.cell (HL.out j v hv) (fun h => h)) hlen).mono ?_
 rintro e w1 ⟨v1, rfl, hown, hv1, hk1⟩
 obtain ⟨D, c1, rfl, hD1, hD2, hbr⟩ := source_bytes hown hv1 (by omega)
 have hk02 : ∀ o, Kp (fun _ => False) w (w1.alloc o) := fun o => (hka.trans hk1).alloc o
 have hrow1 : ∀ o, (w1.alloc o).heap[w.heap.size]? = some (.cells iZero.toArray 26 (0, 0)) := fun o => (hk1.alloc o).heap hrow0 (fun h => h)
 have hsz1 := hk1.size
 have hB0 := hG.size
 have hBs : B ≤ w1.heap.size := by omega
 have hBD : B ≤ D := by omega
 have HB := Lib.hid hbr
 have HK02 := Lib.hid hk02
 have HR1 := Lib.hid hrow1
 clear hbr hk02 hrow1 hown hk1 hv1 hka hrow0 hw0 HL hk0
 go_wp2_with fail
 refine (bytesNewReader _ _ _ _).mono ?_
 rintro e w2 ⟨rfl, rfl⟩
 obtain ⟨w2, hw2⟩ : ∃ w2, w1.alloc (.cells #[.slice (some ⟨D, 0, none⟩) l.length c1, .int .i64 0, .int .i64 (-1)] 160) = w2 := ⟨_, rfl⟩
 have hbr2 : BrInv w1.heap.size D w2 0 l := hw2 ▸ HB.out
 have hk2 : Kp (fun _ => False) w w2 := hw2 ▸ HK02.out _
 have hr2 : w2.heap[w.heap.size]? = some (.cells iZero.toArray 26 (0, 0)) := hw2 ▸ HR1.out _
 have hsz2 : w2.heap.size = w1.heap.size + 1 := by rw [← hw2]; show (w1.heap.push _).size = _; simp
 rw [hw2]
 clear HB HK02 HR1 hw2
 have HBR := Lib.hid hbr2
 have HK2 := Lib.hid hk2
 have HR2 := Lib.hid hr2
 clear hbr2 hk2 hr2
 go_wp2_with fail
 refine (newReader_any (isRd_bytes hBs hBD) w2 l (hG.keep HK2.out (fun _ h => h.elim)) (Utf8Tabs.keep HT.out HK2.out (fun h => h) (fun h => h)) h16 HBR.out).mono ?_
 rintro e w3 ⟨R, rfl, hR3, hk3, hi3⟩
 have hk03 := HK2.out.trans hk3
 have hr3 := hk3.heap HR2.out (fun h => h)
 have HK3 := Lib.hid hk03
 have HR3 := Lib.hid hr3
 have HI3 := Lib.hid hi3
 clear hk03 hr3 hi3 hk3 HK2 HR2 HBR
 go_wp2_with fail
 refine (Next_any (isSrc_bytes hBs hBD) w3 R 0 0 l (.fail g) HI3.out HH.out).mono ?_
 rintro e w4 ⟨hk4, rfl, _⟩
 have hk04 : Kp (fun _ => False) w w4 := HK3.out.then hk4 (by rintro i hi ((h | h) | h) <;> omega)
 have hr4 := hk4.heap HR3.out (by rintro ((h | h) | h) <;> omega)
 have HK4 := Lib.hid hk04
 have HR4 := Lib.hid hr4
 clear hk04 hr4 hk4 HK3 HR3 HI3
 go_wp2_with fail
 refine (headerOf_nil w4).mono ?_
 rintro e w5 ⟨rfl, hk5⟩
 have hk05 := HK4.out.trans hk5
 have hr5 := hk5.heap HR4.out (fun h => h)
 have HK5 := Lib.hid hk05
 have HR5 := Lib.hid hr5
 clear hk05 hr5 hk5 HK4 HR4
 go_wp2_with fail
 refine (end_err w5 (hG.keep HK5.out (fun _ h => h.elim)) g hg).mono ?_
 rintro e w6 ⟨rfl, rfl⟩
 dsimp only
 rename_i K1 h1 K2 h2
 refine h2 _ _ ?_
 refine wpList_store_row rfl 26 (.tmp 2) (.tmp 16) rfl w.heap.size iZero.toArray rfl rfl 26 iZero.toArray HR5.out (by kernel_rfl) rfl (by kernel_rfl) ?_
 go_wp2_with fail
 exact bodyPost_ret (results_cell_row2 rfl _ _ w.heap.size (.agg iZero.toArray) rfl (run_loadVar_row _ w.heap.size 26 26 _ (0, 0) _ (heap_setRow HR5.out _) Tryz.underlying26 rfl (by kernel_rfl))) rfl ⟨rfl, HK5.out.setRow (.inr (Nat.le_refl _)) _⟩
theorem andHi (x : Nat) (h : x < 1073741824) : bits .and .u64 (x : Int) 9223372036854775808 = 0 := by
 have := u64_and_nat x 9223372036854775808 (by omega) (by omega)
 rw [show (9223372036854775808 : Int) = ((9223372036854775808 : Nat) : Int) from rfl, this]
 have e : x &&& 2 ^ 63 = 0 := by
  apply Nat.eq_of_testBit_eq
  intro i
  rw [Nat.testBit_and, Nat.zero_testBit, Nat.testBit_two_pow]
  by_cases hi : 63 = i
  ·subst hi; rw [Nat.testBit_lt_two_pow (show x < 2 ^ 63 by omega)]; rfl
  ·rw [decide_eq_false hi, Bool.and_false]
 rw [show (9223372036854775808 : Nat) = 2 ^ 63 from rfl, e]; rfl
theorem andLo (x : Nat) (h : x < 1073741824) : bits .and .u64 (x : Int) 1073741823 = (x : Int) := by
 have := u64_and_nat x 1073741823 (by omega) (by omega)
 rw [show (1073741823 : Int) = ((1073741823 : Nat) : Int) from rfl, this, show (1073741823 : Nat) = 2 ^ 30 - 1 from rfl, Nat.and_two_pow_sub_one_eq_mod, Nat.mod_eq_of_lt (by omega)]
theorem sec_any (w : World) (b : Nat) (n : Nat) (s : Int) (hn : n < 1073741824) (h : w.heap[b]? = some (.cells #[.int .u64 n, .int .i64 s] 163 (0, 0))) :
  Calls Tryz.prog 230 #[.pointer (some ⟨b, 0, none⟩)] w fun e w' => e = .returned (.int .i64 s) ∧ w' = w := by
 have c0 : w.cell? ⟨b, 0, none⟩ = some (.int .u64 n) := cell_of h 0 rfl
 have c1 : w.cell? ⟨b, 1, none⟩ = some (.int .i64 s) := cell_of h 1 rfl
 have ha := andHi n hn
 go_enter Tryz.func230, Tryz.ntmps230
 go_wp2_with fail
 go_ret
 exact ⟨rfl, rfl⟩
theorem unixSec_any (w : World) (b : Nat) (n : Nat) (s : Int) (hn : n < 1073741824) (hs : -100000000000000003 ≤ s ∧ s ≤ 100000000000000003) (h : w.heap[b]? = some (.cells #[.int .u64 n, .int .i64 (s + 62135596800)] 163 (0, 0))) :
  Calls Tryz.prog 227 #[.pointer (some ⟨b, 0, none⟩)] w fun e w' => e = .returned (.int .i64 s) ∧ w' = w := by
 go_enter Tryz.func227, Tryz.ntmps227
 go_wp2_with fail
 refine (sec_any w b n _ hn h).mono ?_
 rintro e w1 ⟨rfl, rfl⟩
 go_wp2_with fail
 go_ret
 exact ⟨by show Ending.returned (.int .i64 (s + 62135596800 + -62135596800)) = _; rw [show s + 62135596800 + -62135596800 = s by omega], rfl⟩
theorem nsec_any (w : World) (b : Nat) (n : Nat) (s : Int) (hn : n < 1073741824) (h : w.heap[b]? = some (.cells #[.int .u64 n, .int .i64 s] 163 (0, 0))) :
  Calls Tryz.prog 228 #[.pointer (some ⟨b, 0, none⟩)] w fun e w' => e = .returned (.int .i32 n) ∧ w' = w := by
 have c0 : w.cell? ⟨b, 0, none⟩ = some (.int .u64 n) := cell_of h 0 rfl
 have ha := andLo n hn
 go_enter Tryz.func228, Tryz.ntmps228
 go_wp2_with fail
 go_ret
 exact ⟨rfl, rfl⟩
theorem Unix_any (w : World) (n : Nat) (s : Int) (hn : n < 1073741824) (hs : -100000000000000003 ≤ s ∧ s ≤ 100000000000000003) :
  Calls Tryz.prog 135 #[.agg #[.int .u64 n, .int .i64 (s + 62135596800)]] w fun e w' => e = .returned (.int .i64 s) ∧ Kp (fun _ => False) w w' := by
 go_enter Tryz.func135, Tryz.ntmps135
 go_wp2_with fail
 refine (unixSec_any _ w.heap.size n s hn hs (heap_new _ _)).mono ?_
 rintro e w1 ⟨rfl, rfl⟩
 go_wp2_with fail
 go_ret
 exact ⟨rfl, (Kp.refl _ _).alloc _⟩
theorem Nano_any (w : World) (n : Nat) (s : Int) (hn : n < 1073741824) :
  Calls Tryz.prog 136 #[.agg #[.int .u64 n, .int .i64 s]] w fun e w' => e = .returned (.int .i64 n) ∧ Kp (fun _ => False) w w' := by
 go_enter Tryz.func136, Tryz.ntmps136
 go_wp2_with fail
 refine (nsec_any _ w.heap.size n s hn (heap_new _ _)).mono ?_
 rintro e w1 ⟨rfl, rfl⟩
 go_wp2_with fail
 go_ret
 exact ⟨rfl, (Kp.refl _ _).alloc _⟩
theorem timeOf_any (w : World) (n : Nat) (s : Int) (hn : n < 1000000000) (hs : -100000000000000003 ≤ s ∧ s ≤ 100000000000000003) :
  Calls Tryz.prog 79 #[.agg #[.int .u64 n, .int .i64 (s + 62135596800)]] w fun e w' => e = .returned (.agg #[.int .i64 s, .int .i64 n]) ∧ Kp (fun _ => False) w w' := by
 go_enter Tryz.func79, Tryz.ntmps79
 go_wp2_with fail
 obtain ⟨w0, hw0⟩ : ∃ w0, (w.alloc (.cells #[.int .u64 n, .int .i64 (s + 62135596800)] 163)).alloc (.cells #[.int .i64 0, .int .i64 0] 23) = w0 := ⟨_, rfl⟩
 have hk0 : Kp (fun _ => False) w w0 := hw0 ▸ ((Kp.refl _ _).alloc _).alloc _
 have hr0 : w0.heap[w.heap.size]? = some (.cells #[.int .u64 n, .int .i64 (s + 62135596800)] 163 (0, 0)) := hw0 ▸ heap_alloc (heap_new w _) _
 have hq0 : w0.heap[w.heap.size + 1]? = some (.cells #[.int .i64 0, .int .i64 0] 23 (0, 0)) := by
  have := heap_new (w.alloc (.cells #[.int .u64 n, .int .i64 (s + 62135596800)] 163)) (.cells #[.int .i64 0, .int .i64 0] 23)
  rw [show (w.alloc (.cells #[.int .u64 n, .int .i64 (s + 62135596800)] 163)).heap.size = w.heap.size + 1 by show (w.heap.push _).size = _; simp] at this
  exact hw0 ▸ this
 rw [hw0]
 have c0 : w0.cell? ⟨w.heap.size, 0, none⟩ = some (.int .u64 n) := cell_of hr0 0 rfl
 have c1 : w0.cell? ⟨w.heap.size, 1, none⟩ = some (.int .i64 (s + 62135596800)) := cell_of hr0 1 rfl
 clear hw0
 go_region_held3 (fun w' => w'.cell? ⟨w.heap.size, 0, none⟩ = some (.int .u64 n) ∧ w'.cell? ⟨w.heap.size, 1, none⟩ = some (.int .i64 (s + 62135596800)))
  (first | (exact ⟨(hk1.trans hk2).cell c0 (fun h => h), (hk1.trans hk2).cell c1 (fun h => h)⟩) | (exact ⟨hk1.cell c0 (fun h => h), hk1.cell c1 (fun h => h)⟩) | go_keep)
  (first
   | (go_at_call 135; refine (Unix_any _ n s (by omega) hs).mono ?_; rintro e w1 ⟨rfl, hk1⟩)
   | (go_at_call 136; refine (Nano_any _ n _ (by omega)).mono ?_; rintro e w2 ⟨rfl, hk2⟩; have q0 : w2.cell? ⟨w.heap.size + 1, 0, none⟩ = some (.int .i64 0) := cell_of ((hk1.trans hk2).heap hq0 (fun h => h)) 0 rfl; have q1 : w2.cell? ⟨w.heap.size + 1, 1, none⟩ = some (.int .i64 0) := cell_of ((hk1.trans hk2).heap hq0 (fun h => h)) 1 rfl; have z0 := free_of ((hk1.trans hk2).heap hq0 (fun h => h)) 0; have z1 := free_of ((hk1.trans hk2).heap hq0 (fun h => h)) 1))
 have hk2' : Kp (fun _ => False) w w2 := (hk0.drew.trans hk1).trans hk2
 have hr2 := (hk1.trans hk2).heap hq0 (fun h => h)
 have HR := Lib.hid (heap_set (heap_set hr2 0 (.int .i64 s)) 1 (.int .i64 n))
 have hn : w.heap.size ≤ w.heap.size + 1 := by omega
 rename_i hHeld
 clear hHeld
 go_wp2_with fail
 exact bodyPost_ret (results_cell_row rfl _ _ (w.heap.size + 1) 23 #[.int .i64 s, .int .i64 n] (0, 0) _ rfl HR.out Tryz.underlying23 rfl (by kernel_rfl)) rfl ⟨rfl, (hk2'.setCell (.inr hn) _).setCell (.inr hn) _⟩
theorem isZero_any (w : World) (n : Nat) (s : Int) :
  Calls Tryz.prog 80 #[.agg #[.int .u64 n, .int .i64 s]] w fun e w' => e = .returned (.bool (decide (n = 0) && decide (s = 0))) ∧ Kp (fun _ => False) w w' := by
 by_cases h : s = 0
 ·subst h
  by_cases h2 : n = 0
  ·subst h2
   go_enter Tryz.func80, Tryz.ntmps80
   go_wp2_with fail
   go_ret
   exact ⟨rfl, (Kp.refl _ _).alloc _⟩
  ·have e : ((n : Int) == 0) = false := by rw [beq_eq_false_iff_ne]; omega
   rw [decide_eq_false h2]
   go_enter Tryz.func80, Tryz.ntmps80
   go_wp2_with fail
   go_ret
   exact ⟨rfl, (Kp.refl _ _).alloc _⟩
 ·have e : (s == 0) = false := by rw [beq_eq_false_iff_ne]; exact h
  rw [decide_eq_false h, Bool.and_false]
  by_cases h2 : n = 0
  ·subst h2
   go_enter Tryz.func80, Tryz.ntmps80
   go_wp2_with fail
   go_ret
   exact ⟨rfl, (Kp.refl _ _).alloc _⟩
  ·have e2 : ((n : Int) == 0) = false := by rw [beq_eq_false_iff_ne]; omega
   go_enter Tryz.func80, Tryz.ntmps80
   go_wp2_with fail
   go_ret
   exact ⟨rfl, (Kp.refl _ _).alloc _⟩
def fmtN (f : Int) : Int := if f = 2 then 1 else if f = 4 then 2 else if f = 8 then 3 else 0
theorem formatOf_any (w : World) (f : Int) : Calls Tryz.prog 81 #[.int .i64 f] w fun e w' => e = .returned (.int .i64 (fmtN f)) ∧ w' = w := by
 unfold fmtN
 by_cases h2 : f = 2
 ·subst h2
  go_enter Tryz.func81, Tryz.ntmps81
  go_wp2_with fail
  go_ret
  exact ⟨rfl, rfl⟩
 ·have e2 : (f == 2) = false := by rw [beq_eq_false_iff_ne]; exact h2
  rw [if_neg h2]
  by_cases h4 : f = 4
  ·subst h4
   go_enter Tryz.func81, Tryz.ntmps81
   go_wp2_with fail
   go_ret
   exact ⟨rfl, rfl⟩
  ·have e4 : (f == 4) = false := by rw [beq_eq_false_iff_ne]; exact h4
   rw [if_neg h4]
   by_cases h8 : f = 8
   ·subst h8
    go_enter Tryz.func81, Tryz.ntmps81
    go_wp2_with fail
    go_ret
    exact ⟨rfl, rfl⟩
   ·have e8 : (f == 8) = false := by rw [beq_eq_false_iff_ne]; exact h8
    rw [if_neg h8]
    go_enter Tryz.func81, Tryz.ntmps81
    go_wp2_with fail
    go_ret
    exact ⟨rfl, rfl⟩
def recCells : List Rec → List Value
 | [] => []
 | r :: l => strv r.1 :: strv r.2 :: recCells l
theorem recCells_len : ∀ l, (recCells l).length = l.length * 2
 | [] => rfl
 | r :: l => by rw [recCells, List.length_cons, List.length_cons, recCells_len l, List.length_cons]; omega
theorem recCells_append : ∀ l m, recCells (l ++ m) = recCells l ++ recCells m
 | [], m => rfl
 | r :: l, m => by rw [List.cons_append, recCells, recCells, recCells_append l m]; rfl
theorem recCells_one : ∀ l, ∀ v ∈ recCells l, v.oneCell' = true
 | [], v, h => by cases h
 | r :: l, v, h => by
  rw [recCells] at h
  rcases List.mem_cons.1 h with rfl | h
  ·rfl
  ·rcases List.mem_cons.1 h with rfl | h
   ·rfl
   ·exact recCells_one l v h
theorem recCells_fst : ∀ (l : List Rec) (i : Nat), (recCells l)[i * 2]? = l[i]?.map fun r => strv r.1
 | [], i => by simp [recCells]
 | r :: l, 0 => rfl
 | r :: l, i + 1 => by
  have := recCells_fst l i
  rw [show (i + 1) * 2 = i * 2 + 1 + 1 by omega, recCells, List.getElem?_cons_succ, List.getElem?_cons_succ, List.getElem?_cons_succ]
  exact this
theorem recCells_snd : ∀ (l : List Rec) (i : Nat), (recCells l)[i * 2 + 1]? = l[i]?.map fun r => strv r.2
 | [], i => by simp [recCells]
 | r :: l, 0 => rfl
 | r :: l, i + 1 => by
  have := recCells_snd l i
  rw [show (i + 1) * 2 + 1 = (i * 2 + 1) + 1 + 1 by omega, recCells, List.getElem?_cons_succ, List.getElem?_cons_succ, List.getElem?_cons_succ]
  exact this
theorem recCells_take : ∀ (l : List Rec) (k : Nat), (recCells l).take (k * 2) = recCells (l.take k)
 | [], k => by simp [recCells]
 | r :: l, 0 => by simp [recCells]
 | r :: l, k + 1 => by
  rw [show (k + 1) * 2 = k * 2 + 1 + 1 by omega, recCells, sD, sD, recCells_take l k, sD, recCells]
theorem recCells_drop : ∀ (l : List Rec) (k : Nat), (recCells l).drop (k * 2) = recCells (l.drop k)
 | [], k => by simp [recCells]
 | r :: l, 0 => by simp
 | r :: l, k + 1 => by
  rw [show (k + 1) * 2 = k * 2 + 1 + 1 by omega, recCells, sF, sF, recCells_drop l k, sF]
structure InfoR (T ST : TypeId) : Prop where
 und : Tryz.prog.underlying ST = some (.slice T)
 info : ∃ i, Tryz.prog.info? T = some i ∧ i.zero = some (.agg #[.string ⟨#[]⟩, .string ⟨#[]⟩]) ∧ i.size = 2 ∧ i.bytes = 32
theorem infoR_of {T ST : TypeId} (hu : Tryz.prog.underlying ST = some (.slice T)) (h : (Tryz.prog.info? T).map (fun i => (i.zero, i.size, i.bytes)) = some (some (.agg #[.string ⟨#[]⟩, .string ⟨#[]⟩]), 2, 32)) : InfoR T ST := by
 refine ⟨hu, ?_⟩
 obtain ⟨i, h1, h2⟩ := Option.map_eq_some_iff.1 h
 simp only [Prod.mk.injEq] at h2
 exact ⟨i, h1, h2⟩
theorem infoS : InfoR 136 43 := infoR_of Tryz.underlying43 (by kernel_rfl)
theorem infoI : InfoR 171 24 := infoR_of Tryz.underlying24 (by kernel_rfl)
def OwnR (T : TypeId) (w : World) (base : Nat) (v : Value) (l : List Rec) : Prop := w.ownsRow base T 2 v l.length (recCells l)
theorem OwnR.nil (T : TypeId) (w : World) (base : Nat) : OwnR T w base (.slice none 0 0) [] := ⟨by simp [recCells], .inl ⟨rfl, rfl⟩⟩
theorem OwnR.keep {T : TypeId} {w w' : World} {base : Nat} {v : Value} {l : List Rec} {S : Nat → Prop} (h : OwnR T w base v l) (k : Kp S w w') (hS : ∀ b, v.ownBlock = some b → ¬ S b) : OwnR T w' base v l := by
 refine ⟨h.1, ?_⟩
 rcases h.2 with hn | ⟨g, cap, cur, rfl, hb, hg, rest⟩
 ·exact .inl hn
 ·exact .inr ⟨g, cap, cur, rfl, hb, k.heap hg (hS g rfl), rest⟩
theorem OwnR.block {T : TypeId} {w : World} {base : Nat} {v : Value} {l : List Rec} (h : OwnR T w base v l) {b : Nat} (hb : v.ownBlock = some b) : base ≤ b ∧ b < w.heap.size := World.ownsRow.lt h b hb
theorem OwnR.shape {T : TypeId} {w : World} {base : Nat} {v : Value} {l : List Rec} (h : OwnR T w base v l) : v = .slice none 0 0 ∧ l = [] ∨ ∃ g cap, v = .slice (some ⟨g, 0, none⟩) l.length cap ∧ base ≤ g ∧ l.length ≤ cap ∧ cap ≤ maxLen := by
 rcases h.2 with ⟨h1, h2⟩ | ⟨g, cap, cur, h1, h2, h3, h4, h5, _⟩
 ·exact .inl ⟨h1, List.eq_nil_of_length_eq_zero h2⟩
 ·exact .inr ⟨g, cap, h1, h2, h4, h5⟩
theorem OwnR.row {T : TypeId} {w : World} {base g n cap : Nat} {l : List Rec} (h : OwnR T w base (.slice (some ⟨g, 0, none⟩) n cap) l) :
  n = l.length ∧ ∃ cur : List Value, w.heap[g]? = some (.cells (recCells l ++ cur).toArray T (0, 0)) ∧ l.length ≤ cap ∧ cap ≤ maxLen ∧ (recCells l ++ cur).length = cap * 2 := by
 rcases h.2 with ⟨h1, h2⟩ | ⟨g', cap', cur, h1, h2, h3, h4, h5, h6, h7⟩
 ·cases h1
 ·injection h1 with h1 h8 h9
  injection h1 with h1
  injection h1 with h1
  subst h1 h8 h9
  refine ⟨rfl, cur.toList.drop (l.length * 2), ?_, h4, h5, ?_⟩
  ·rw [← h7, List.take_append_drop]; exact h3
  ·rw [← h7, List.take_append_drop]; simpa using h6
theorem OwnR.of_row {T : TypeId} {w : World} {base g cap : Nat} {l : List Rec} (cur : List Value) (hb : base ≤ g) (h : w.heap[g]? = some (.cells (recCells l ++ cur).toArray T (0, 0))) (h1 : l.length ≤ cap) (h2 : cap ≤ maxLen) (h3 : (recCells l ++ cur).length = cap * 2) :
  OwnR T w base (.slice (some ⟨g, 0, none⟩) l.length cap) l := by
 refine ⟨recCells_len l, .inr ⟨g, cap, _, rfl, hb, h, h1, h2, by simpa using h3, ?_⟩⟩
 rw [← recCells_len l]
 simp
theorem OwnR.cell0 {T : TypeId} {w : World} {base g n cap i : Nat} {l : List Rec} {r : Rec} (h : OwnR T w base (.slice (some ⟨g, 0, none⟩) n cap) l) (hr : l[i]? = some r) : w.cell? ⟨g, i * 2, none⟩ = some (strv r.1) := by
 obtain ⟨_, cur, h1, _⟩ := h.row
 have hi : i < l.length := (List.getElem?_eq_some_iff.1 hr).1
 exact cell_of h1 _ (by rw [List.getElem?_toArray, List.getElem?_append_left (by rw [recCells_len]; omega), recCells_fst, hr]; rfl)
theorem OwnR.cell1 {T : TypeId} {w : World} {base g n cap i : Nat} {l : List Rec} {r : Rec} (h : OwnR T w base (.slice (some ⟨g, 0, none⟩) n cap) l) (hr : l[i]? = some r) : w.cell? ⟨g, i * 2 + 1, none⟩ = some (strv r.2) := by
 obtain ⟨_, cur, h1, _⟩ := h.row
 have hi : i < l.length := (List.getElem?_eq_some_iff.1 hr).1
 exact cell_of h1 _ (by rw [List.getElem?_toArray, List.getElem?_append_left (by rw [recCells_len]; omega), recCells_snd, hr]; rfl)
theorem OwnR.free {T : TypeId} {w : World} {base g n cap : Nat} {l : List Rec} (h : OwnR T w base (.slice (some ⟨g, 0, none⟩) n cap) l) (i : Nat) : w.frozen? ⟨g, i, none⟩ = false := by
 obtain ⟨_, cur, h1, _⟩ := h.row
 exact free_of h1 i
theorem Kp.wide {w w' : World} {base : Nat} {row : Option Nat} (h : w.grownBy w' row) (hr : ∀ k, row = some k → base ≤ k) : Kp (fun k => base ≤ k) w w' :=
 (Kp.of_grownBy h).mono fun k _ hk => hr k hk.symm
theorem OwnR.set {T : TypeId} {w : World} {base g n cap i : Nat} {l : List Rec} (h : OwnR T w base (.slice (some ⟨g, 0, none⟩) n cap) l) (hi : i < l.length) (r : Rec) :
  OwnR T ((w.setCell ⟨g, i * 2, none⟩ (strv r.1)).setCell ⟨g, i * 2 + 1, none⟩ (strv r.2)) base (.slice (some ⟨g, 0, none⟩) n cap) (l.set i r) := by
 have hbg := (h.block rfl).1
 obtain ⟨rfl, cur, h1, h2, h3, h4⟩ := h.row
 have h5 := heap_set (heap_set h1 (i * 2) (strv r.1)) (i * 2 + 1) (strv r.2)
 have hl := recCells_len l
 have e : (((recCells l ++ cur).toArray.setIfInBounds (i * 2) (strv r.1)).setIfInBounds (i * 2 + 1) (strv r.2)) = (recCells (l.set i r) ++ cur).toArray := by
  rw [sA, sA, List.set_append_left _ _ (by omega), List.set_append_left _ _ (by rw [List.length_set]; omega)]
  congr 2
  clear h h1 h2 h3 h4 h5 hl hbg
  induction l generalizing i with
  | nil => simp at hi
  | cons x l ih =>
   cases i with
   | zero => rfl
   | succ i =>
    rw [show (i + 1) * 2 = i * 2 + 1 + 1 by omega, recCells, sC, sC, sC, sC, sC, recCells]
    congr 2
    exact ih (by simpa using hi)
 rw [e] at h5
 have := OwnR.of_row (l := l.set i r) (cap := cap) cur hbg h5 (by rw [List.length_set]; exact h2) h3 (by rw [List.length_append, recCells_len, List.length_set, ← h4, List.length_append, hl])
 rw [List.length_set] at this
 exact this
theorem app_rec_ex (w : World) {T ST ty : TypeId} (I : InfoR T ST) (base : Nat) (v : Value) (xs : List Rec) (r : Rec) (hown : OwnR T w base v xs) (hlen : xs.length ≤ 4294967296) (hbase : base ≤ w.heap.size) :
  ∃ v' w', (Builtin.append_ #[ST, ST] ty #[v, .slice (some ⟨w.heap.size, 0, none⟩) 1 1]).run Tryz.prog (w.alloc (.cells #[.string ⟨r.1.toArray⟩, .string ⟨r.2.toArray⟩] T)) = .ok v' w' ∧ OwnR T w' base v' (xs ++ [r]) ∧ Kp (fun k => some k = v.ownBlock) w w' := by
 obtain ⟨i0, hi, hz, hsz, hby⟩ := I.info
 have k1 : Kp (fun _ => False) w (w.alloc (.cells #[.string ⟨r.1.toArray⟩, .string ⟨r.2.toArray⟩] T)) := (Kp.refl _ _).alloc _
 have hown' : OwnR T (w.alloc (.cells #[.string ⟨r.1.toArray⟩, .string ⟨r.2.toArray⟩] T)) base v xs := hown.keep k1 (fun _ _ h => h)
 have h0 : (w.alloc (.cells #[.string ⟨r.1.toArray⟩, .string ⟨r.2.toArray⟩] T)).cell? ⟨w.heap.size, 0, none⟩ = some (strv r.1) := cell_of (heap_new w _) 0 rfl
 have h1 : (w.alloc (.cells #[.string ⟨r.1.toArray⟩, .string ⟨r.2.toArray⟩] T)).cell? ⟨w.heap.size, 1, none⟩ = some (strv r.2) := cell_of (heap_new w _) 1 rfl
 obtain ⟨v', w', hr, h2, h3, h4⟩ := run_append_own_wide (P := Tryz.prog) (w.alloc (.cells #[.string ⟨r.1.toArray⟩, .string ⟨r.2.toArray⟩] T)) base ST ty T i0 _ 2 32 I.und hi hz hsz hby rfl (by omega) v xs.length (recCells xs) hown' ⟨w.heap.size, 0, none⟩ 1 1 (recCells [r]) rfl
  (fun j u hu => by
   match j, hu with
   | 0, hu => injection hu with hu; rw [← hu]; exact h0
   | 1, hu => injection hu with hu; rw [← hu]; exact h1
   | j + 2, hu => cases hu)
  (recCells_one _) (by simp only [maxLen]; omega) (by omega) (by show base ≤ (w.heap.push _).size; simp; omega)
 refine ⟨v', w', hr, ?_, (k1.mono (fun _ _ h => h.elim)).trans (Kp.of_grownBy h3)⟩
 unfold OwnR
 rw [recCells_append, List.length_append]
 exact h2
theorem OwnR.wide {T : TypeId} {w w1 w2 : World} {base : Nat} {v : Value} {l : List Rec} (h : OwnR T w base v l) (k : Kp (fun k => some k = v.ownBlock) w1 w2) : Kp (fun k => base ≤ k) w1 w2 :=
 k.mono fun i _ hi => (h.block hi.symm).1
theorem OwnR.lower {T : TypeId} {w : World} {base base' : Nat} {v : Value} {l : List Rec} (h : OwnR T w base v l) (hb : base' ≤ base) : OwnR T w base' v l := by
 refine ⟨h.1, ?_⟩
 rcases h.2 with hn | ⟨g, cap, cur, e, hg, rest⟩
 ·exact .inl hn
 ·exact .inr ⟨g, cap, cur, e, by omega, rest⟩
def RecsAt (w : World) (C : Nat) (rv : Value) (l : List Rec) : Prop :=
 Nil0 rv ∧ l = [] ∨ ∃ b o c, rv = .slice (some ⟨b, o, none⟩) l.length c ∧ b < C ∧ ∀ i r, l[i]? = some r → w.cell? ⟨b, o + i * 2, none⟩ = some (.string ⟨r.1.toArray⟩) ∧ w.cell? ⟨b, o + i * 2 + 1, none⟩ = some (.string ⟨r.2.toArray⟩)
theorem RecsAt.keep {w w' : World} {C : Nat} {rv : Value} {l : List Rec} {S : Nat → Prop} (h : RecsAt w C rv l) (k : Kp S w w') (hS : ∀ i, S i → C ≤ i) : RecsAt w' C rv l := by
 rcases h with h | ⟨b, o, c, h1, h2, h3⟩
 ·exact .inl h
 ·exact .inr ⟨b, o, c, h1, h2, fun i r hr => ⟨k.cell (h3 i r hr).1 (fun hs => by have h5 : C ≤ b := hS _ hs; omega), k.cell (h3 i r hr).2 (fun hs => by have h5 : C ≤ b := hS _ hs; omega)⟩⟩
theorem RecsAt.shape {w : World} {C : Nat} {rv : Value} {l : List Rec} (h : RecsAt w C rv l) : ∃ A c, rv = .slice A l.length c := by
 rcases h with ⟨h, rfl⟩ | ⟨b, o, c, rfl, _⟩
 ·exact h.shape
 ·exact ⟨_, c, rfl⟩
theorem RecsAt.get {w : World} {C : Nat} {rv : Value} {l : List Rec} (h : RecsAt w C rv l) {i : Nat} {r : Rec} (hr : l[i]? = some r) :
  ∃ b o c, rv = .slice (some ⟨b, o, none⟩) l.length c ∧ b < C ∧ w.cell? ⟨b, o + i * 2, none⟩ = some (.string ⟨r.1.toArray⟩) ∧ w.cell? ⟨b, o + i * 2 + 1, none⟩ = some (.string ⟨r.2.toArray⟩) := by
 rcases h with ⟨_, rfl⟩ | ⟨b, o, c, rfl, h2, h3⟩
 ·cases hr
 ·exact ⟨b, o, c, rfl, h2, h3 i r hr⟩
theorem OwnR.at_ {T : TypeId} {w : World} {base : Nat} {v : Value} {l : List Rec} (h : OwnR T w base v l) : RecsAt w w.heap.size v l := by
 rcases h.shape with ⟨rfl, rfl⟩ | ⟨g, cap, rfl, hb, _⟩
 ·exact .inl ⟨.inl rfl, rfl⟩
 ·refine .inr ⟨g, 0, cap, rfl, (h.block rfl).2, fun i r hr => ⟨?_, ?_⟩⟩
  ·rw [Nat.zero_add]; exact h.cell0 hr
  ·rw [Nat.zero_add]; exact h.cell1 hr
theorem RecsAt.mono {w : World} {C C' : Nat} {rv : Value} {l : List Rec} (h : RecsAt w C rv l) (hC : C ≤ C') : RecsAt w C' rv l := by
 rcases h with h | ⟨b, o, c, h1, h2, h3⟩
 ·exact .inl h
 ·exact .inr ⟨b, o, c, h1, by omega, h3⟩
end Go.Proofs.YtgfcnjfmmjcodaaGreatDoor
