/- Lists of numbers that a call makes. -/
import Derived.Laws.IdiomStrings
import Derived.Test.YtgfcnjfmmjcodaaGreatDoorM22
set_option linter.all false
set_option maxRecDepth 100000
set_option maxHeartbeats 1000000
namespace Go.Proofs.YtgfcnjfmmjcodaaGreatDoor
open Go Go.RowKit
def intv (n : Nat) : Value := .int .i64 (n : Int)
def OwnI (w : World) (base : Nat) (v : Value) (l : List Nat) : Prop := w.ownsRow base 3 1 v l.length (l.map intv)
theorem OwnI.nil (w : World) (base : Nat) : OwnI w base (.slice none 0 0) [] := ⟨by simp, .inl ⟨rfl, rfl⟩⟩
theorem info3 : ∃ i, Tryz.prog.info? 3 = some i ∧ i.zero = some (.int .i64 0) ∧ i.size = 1 ∧ i.bytes = 8 := by
 have h : (Tryz.prog.info? 3).map (fun i => (i.zero, i.size, i.bytes)) = some (some (.int .i64 0), 1, 8) := by kernel_rfl
 obtain ⟨i, h1, h2⟩ := Option.map_eq_some_iff.1 h
 simp only [Prod.mk.injEq] at h2
 exact ⟨i, h1, h2⟩
theorem OwnI.shape {w : World} {base : Nat} {v : Value} {l : List Nat} (h : OwnI w base v l) : ∃ A c, v = .slice A l.length c := by
 rcases h.2 with ⟨h1, h2⟩ | ⟨g, cap, cur, h1, _⟩
 ·exact ⟨none, 0, by rw [h1, h2]⟩
 ·exact ⟨_, cap, h1⟩
theorem OwnI.get {w : World} {base : Nat} {v : Value} {l : List Nat} (h : OwnI w base v l) {i x : Nat} (hx : l[i]? = some x) : ∃ g c, v = .slice (some ⟨g, 0, none⟩) l.length c ∧ base ≤ g ∧ w.cell? ⟨g, i, none⟩ = some (.int .i64 x) := by
 rcases h.2 with ⟨h1, h2⟩ | ⟨g, cap, cur, rfl, hb, hg, h3, h4, h5, h6⟩
 ·have : l = [] := List.eq_nil_of_length_eq_zero h2
  rw [this] at hx
  cases hx
 ·refine ⟨g, cap, rfl, hb, ?_⟩
  have hi : i < l.length := (List.getElem?_eq_some_iff.1 hx).1
  refine cell_of hg i ?_
  have : (cur.toList.take (l.length * 1))[i]? = some (intv x) := by rw [h6, List.getElem?_map, hx]; rfl
  rw [List.getElem?_take, if_pos (by omega)] at this
  simpa [intv] using this
theorem OwnI.keep {w w' : World} {base : Nat} {v : Value} {l : List Nat} {S : Nat → Prop} (h : OwnI w base v l) (k : Kp S w w') (hS : ∀ b, base ≤ b → ¬ S b) : OwnI w' base v l := by
 refine ⟨h.1, ?_⟩
 rcases h.2 with hn | ⟨g, cap, cur, rfl, hb, hg, rest⟩
 ·exact .inl hn
 ·exact .inr ⟨g, cap, cur, rfl, hb, k.heap hg (hS g hb), rest⟩
theorem app_int_ex (w : World) (ty : TypeId) (base : Nat) (v : Value) (l : List Nat) (x : Nat) (hown : OwnI w base v l) (hlen : l.length ≤ 281474976710656 / 16) (hbase : base ≤ w.heap.size) :
  ∃ v' w', (Builtin.append_ #[30, 30] ty #[v, .slice (some ⟨w.heap.size, 0, none⟩) 1 1]).run Tryz.prog (w.alloc (.cells #[.int .i64 x] 3)) = .ok v' w' ∧ OwnI w' base v' (l ++ [x]) ∧ Kp (fun k => base ≤ k) w w' := by
 obtain ⟨i0, hi, hz, hsz, hby⟩ := info3
 have hown' : OwnI (w.alloc (.cells #[.int .i64 x] 3)) base v l := hown.keep ((Kp.refl (fun _ => False) w).alloc _) (fun _ _ h => h)
 have hc : (w.alloc (.cells #[.int .i64 (x : Int)] 3)).cell? ⟨w.heap.size, 0, none⟩ = some (.int .i64 x) := cell_of (heap_new w _) 0 rfl
 obtain ⟨v', w', hr, h2, h3, h4⟩ := run_append_own_wide (P := Tryz.prog) (w.alloc (.cells #[.int .i64 x] 3)) base 30 ty 3 i0 _ 1 8 Tryz.underlying30 hi hz hsz hby rfl (by omega) v l.length (l.map intv) hown' ⟨w.heap.size, 0, none⟩ 1 1 [intv x] rfl
  (fun j u hu => by
   match j, hu with
   | 0, hu => injection hu with hu; rw [← hu]; exact hc
   | j + 1, hu => cases hu)
  (fun u hu => by rw [List.mem_singleton.1 hu]; rfl) (by simp only [maxLen]; omega) (by omega) (by show base ≤ (w.heap.push _).size; simp; omega)
 refine ⟨v', w', hr, ?_, ?_⟩
 ·unfold OwnI
  rw [List.map_append, List.length_append]
  exact h2
 ·have k1 : Kp (fun _ => False) w (w.alloc (.cells #[.int .i64 (x : Int)] 3)) := (Kp.refl _ _).alloc _
  exact (k1.mono (fun _ _ h => h.elim)).trans (Kp.wide h3 fun k hk => (World.ownsRow.lt hown' k hk).1)
theorem splitB_parts {l : List UInt8} {i : Nat} (h : splitB l i = true) : Parts l (l.take i) (l.drop (i + 1)) ∧ 1 ≤ i ∧ i ≤ 155 ∧ i < l.length := by
 unfold splitB at h
 simp only [Bool.and_eq_true, decide_eq_true_eq] at h
 obtain ⟨⟨⟨⟨⟨h1, h2⟩, h3⟩, h4⟩, h5⟩, h6⟩ := h
 have h4' : l[i] = 47 := by rw [List.getElem?_eq_getElem h3] at h4; injection h4
 refine ⟨⟨?_, by rw [List.length_take]; omega, by rw [List.length_take]; omega, by rw [List.length_drop]; omega, by rw [List.length_drop]; omega⟩, h1, h2, h3⟩
 have := List.take_append_drop i l
 rw [List.drop_eq_getElem_cons h3, h4'] at this
 exact this.symm
theorem parts_splitB {l pre nm : List UInt8} (h : Parts l pre nm) : splitB l pre.length = true := by
 have e := h.eq
 have h1 := h.pre1
 have h2 := h.pre2
 have h3 := h.nm1
 have h4 := h.nm2
 have hl : l.length = pre.length + (nm.length + 1) := by rw [e, List.length_append, List.length_cons]
 have hg : l[pre.length]? = some 47 := by rw [e, List.getElem?_append_right (Nat.le_refl _)]; simp
 unfold splitB
 simp only [Bool.and_eq_true, decide_eq_true_eq]
 exact ⟨⟨⟨⟨⟨h1, h2⟩, by omega⟩, hg⟩, by omega⟩, by omega⟩
theorem ascii_iff (l : List UInt8) : l.all okA = true ↔ Ascii l := by
 rw [List.all_eq_true]
 constructor
 ·intro h c hc
  have := h c hc
  simp only [okA, Bool.and_eq_true, decide_eq_true_eq, bne_iff_ne] at this
  exact ⟨this.2, this.1⟩
 ·intro h c hc
  have := h c hc
  simp only [okA, Bool.and_eq_true, decide_eq_true_eq, bne_iff_ne]
  exact ⟨this.2, this.1⟩
structure Places (l : List UInt8) (i : Nat) (ps : List Nat) : Prop where
 mem : ∀ p, p ∈ ps ↔ p < i ∧ l.all okA = true ∧ splitB l p = true
 len : ps.length ≤ i
theorem Places.zero (l : List UInt8) : Places l 0 [] := ⟨by simp, by simp⟩
theorem Places.skip {l : List UInt8} {i : Nat} {ps : List Nat} (h : Places l i ps) (hn : ¬ (l.all okA = true ∧ splitB l i = true)) : Places l (i + 1) ps := by
 refine ⟨fun p => ?_, by have := h.len; omega⟩
 rw [h.mem]
 constructor
 ·rintro ⟨h1, h2⟩; exact ⟨by omega, h2⟩
 ·rintro ⟨h1, h2⟩
  refine ⟨?_, h2⟩
  rcases Nat.lt_or_ge p i with h3 | h3
  ·exact h3
  ·obtain rfl : p = i := by omega
   exact absurd h2 hn
theorem Places.add {l : List UInt8} {i : Nat} {ps : List Nat} (h : Places l i ps) (h1 : l.all okA = true) (h2 : splitB l i = true) : Places l (i + 1) (ps ++ [i]) := by
 refine ⟨fun p => ?_, by rw [List.length_append]; have := h.len; simp; omega⟩
 rw [List.mem_append, h.mem, List.mem_singleton]
 constructor
 ·rintro (⟨h3, h4⟩ | rfl)
  ·exact ⟨by omega, h4⟩
  ·exact ⟨by omega, h1, h2⟩
 ·rintro ⟨h3, h4⟩
  rcases Nat.lt_or_ge p i with h5 | h5
  ·exact .inl ⟨h5, h4⟩
  ·exact .inr (by omega)
def NmOk (h : Hd) (nm L1 : List UInt8) : Prop :=
 nm = h.name ∧ L1 = List.replicate 512 0 ∧ (Ascii h.name → 100 < h.name.length → ¬ Splits h.name) ∨
 Ascii h.name ∧ ∃ pre, Parts h.name pre nm ∧ L1 = splice (List.replicate 512 0) 345 (pre.take 155)
theorem nameF_ustar {h : Hd} {nm L1 : List UInt8} (hn : NmOk h nm L1) : NameF h false (splice L1 0 (nm.take 100)) := by
 have hz : (List.replicate 512 (0 : UInt8)).length = 512 := List.length_replicate
 rcases hn with ⟨rfl, rfl, hs⟩ | ⟨ha, pre, hp, rfl⟩
 ·have s : Same (List.replicate 512 0) (splice (List.replicate 512 0) 0 (h.name.take 100)) 0 100 := same_take _ h.name 0 100 (by omega)
  refine ⟨by rw [s.1]; exact hz, ?_, ?_, fun g => (by cases g), .inl ⟨?_, fun _ => ?_, fun _ => hs⟩⟩
  ·rw [s.at_ _ _ (by omega)]; exact fld_zero _ _ _ (by omega)
  ·rw [s.at_ _ _ (by omega)]; exact fld_zero _ _ _ (by omega)
  ·exact fld_spl_pad _ h.name 0 100 (by omega) (fld_zero _ _ _ (by omega))
  ·rw [s.at_ _ _ (by omega)]; exact fld_zero _ _ _ (by omega)
 ·have s1 : Same (List.replicate 512 0) (splice (List.replicate 512 0) 345 (pre.take 155)) 345 155 := same_take _ pre 345 155 (by omega)
  have l1 : (splice (List.replicate 512 0) 345 (pre.take 155)).length = 512 := by rw [s1.1]; exact hz
  have s : Same (splice (List.replicate 512 0) 345 (pre.take 155)) (splice (splice (List.replicate 512 0) 345 (pre.take 155)) 0 (nm.take 100)) 0 100 := same_take _ nm 0 100 (by omega)
  refine ⟨by rw [s.1]; exact l1, ?_, ?_, fun g => (by cases g), .inr ⟨rfl, ha, pre, nm, hp, ?_, ?_⟩⟩
  ·rw [s.at_ _ _ (by omega), s1.at_ _ _ (by omega)]; exact fld_zero _ _ _ (by omega)
  ·rw [s.at_ _ _ (by omega), s1.at_ _ _ (by omega)]; exact fld_zero _ _ _ (by omega)
  ·exact fld_spl_pad _ nm 0 100 (by omega) (by rw [s1.at_ _ _ (by omega)]; exact fld_zero _ _ _ (by omega))
  ·rw [s.at_ _ _ (by omega)]
   exact fld_spl_pad _ pre 345 155 (by omega) (fld_zero _ _ _ (by omega))
theorem BlkSt.other {w0 w w' : World} {C m base : Nat} {h : Hd} {rv : Value} {L : List UInt8} (s : BlkSt w0 C m h rv L w) (hC : C < w0.heap.size) (hb : w0.heap.size + 1 < base) (k : Kp (fun i => base ≤ i) w w') : BlkSt w0 C m h rv L w' :=
 ⟨s.cho.keep k (fun i hi => by omega) (Nat.le_refl _), k.heap s.row (by omega), k.heap s.hdr (by omega), s.kp.then k (fun i hi e => by omega), s.len⟩
def CutN (w0 : World) (C m : Nat) (h : Hd) (rv : Value) (nm : List UInt8) (w : World) : Prop := ∃ L1, NmOk h nm L1 ∧ BlkSt w0 C (m + 1) h rv L1 w
def PlcSt (w0 : World) (C m : Nat) (h : Hd) (rv : Value) (base : Nat) (v : Value) (i : Nat) (w : World) : Prop :=
 ∃ ps, Places h.name i ps ∧ OwnI w base v ps ∧ BlkSt w0 C m h rv (List.replicate 512 0) w ∧ base ≤ w.heap.size
set_option maxHeartbeats 1600000 in
theorem block_ustar (w : World) (C m : Nat) (h : Hd) (rv : Value) (fm : Int) (hf : fm = 1 ∨ fm = 2) (hC : Cho w C m) (hm : m + 200 ≤ 1000000000000) (hi : NumIn h) (hnl : h.name.length ≤ 1099511627776) :
  Calls Tryz.prog 76 #[.pointer (some ⟨C, 0, none⟩), .agg (sRow h rv).toArray, .int .i64 fm] w (BlkEnd w C m h false) := by
 have hCw : C < w.heap.size := by obtain ⟨nv, a, h1, _⟩ := hC; exact lt_of h1
 have hk1 : ∀ o, Kp (fun _ => False) w (w.alloc o) := fun o => (Kp.refl _ _).alloc o
 have st0 : ∀ o, o = Obj.cells (sRow h rv).toArray 45 → BlkSt w C m h rv (List.replicate 512 0) ((w.alloc o).alloc (.cells (ubs (List.replicate 512 0)).toArray 5)) := by
  rintro o rfl
  have k2 := (hk1 (Obj.cells (sRow h rv).toArray 45)).alloc (.cells (ubs (List.replicate 512 0)).toArray 5)
  have r2 := heap_new (w.alloc (.cells (sRow h rv).toArray 45)) (.cells (ubs (List.replicate 512 0)).toArray 5)
  have hsz : (w.alloc (.cells (sRow h rv).toArray 45)).heap.size = w.heap.size + 1 := by show (w.heap.push _).size = _; simp
  rw [hsz] at r2
  exact ⟨hC.keep k2 (fun _ h => h.elim) (Nat.le_refl _), r2, heap_alloc (heap_new w _) _, k2.mono (fun _ _ h => h.elim), List.length_replicate⟩
 have hmk : ∀ w : World, (Instr.makeSlice 27 (.int .i64 512) (.int .i64 512)).run Tryz.prog w = .ok (.slice (some ⟨w.heap.size, 0, none⟩) 512 512) (w.alloc (.cells (ubs (List.replicate 512 0)).toArray 5)) := fun w => mk27 w 512 (by omega)
 have hs1 : ∀ o, (w.alloc o).heap.size = w.heap.size + 1 := fun o => by show (w.heap.push _).size = _; simp
 have hf3 : (fm == 3) = false := by rw [beq_eq_false_iff_ne]; omega
 have hf3' : (fm != 3) = true := by rw [bne_iff_ne]; omega
 have ST0 := fun o => Lib.hid (st0 o)
 clear st0 hC hk1 hf
 unfold sRow at ST0 ⊢
 unfold strv at ST0 ⊢
 go_enter Tryz.func76, Tryz.ntmps76
 go_upto_region 2 with fail
 refine (show Code.wp _ _ _ _ ((w.alloc (.cells (sRow h rv).toArray 45)).alloc (.cells (ubs (List.replicate 512 0)).toArray 5)) from ?_)
 have S := (ST0 (.cells (sRow h rv).toArray 45)).out rfl
 generalize (w.alloc (.cells (sRow h rv).toArray 45)).alloc (.cells (ubs (List.replicate 512 0)).toArray 5) = w1 at S ⊢
 obtain ⟨hv, hhv⟩ : ∃ hv : Value, Value.agg #[.int .u8 (h.typ.toNat : Int), .string ⟨h.name.toArray⟩, .string ⟨h.link.toArray⟩, .int .i64 h.size, .int .i64 h.mode, .int .i64 h.uid, .int .i64 h.gid, .string ⟨h.un.toArray⟩, .string ⟨h.gn.toArray⟩, .int .i64 h.ms, .int .i64 h.mn, .bool h.hasA, .bool h.hasC, .int .i64 h.ats, .int .i64 h.atn, .int .i64 h.cts, .int .i64 h.ctn, .int .i64 h.maj, .int .i64 h.min, rv, .int .i64 h.fmt] = hv := ⟨_, rfl⟩
 rw [hhv]
 clear hhv
 have c1 : w1.cell? ⟨w.heap.size, 1, none⟩ = some (.string ⟨h.name.toArray⟩) := cell_of S.hdr 1 rfl
 clear ST0 hmk hs1
 have hb1 : w.heap.size + 1 < w1.heap.size := lt_of S.row
 have SS := Lib.hid S
 clear S
 go_upto_if 23 with fail
 go_cut [9] from 9 to 73 (fun s9 wx => ∃ nm : List UInt8, s9 = .string ⟨nm.toArray⟩ ∧ Hid (CutN w C m h rv nm wx))
 case first =>
  have HASC := fun W => Lib.hid (ascii_any W h.name (by omega))
  have HSPL := fun W i (hi : i ≤ 281474976710656) => Lib.hid (split_any W h.name i (by omega) hi)
  unfold strv at HASC HSPL
  have LP : Hid (PlcSt w C m h rv w1.heap.size (.slice none 0 0) 0 w1) := ⟨[], Places.zero _, OwnI.nil _ _, SS.out, Nat.le_refl _⟩
  clear SS c1
  go_upto_region 7 with fail
  go_loopg [10, 11, 26] h.name.length (fun g s10 s11 s26 wr => ∃ i : Nat, i + g = h.name.length ∧ s26 = .int .i64 i ∧ Hid (PlcSt w C m h rv w1.heap.size s10 i wr))
  case atStart => exact ⟨0, by omega, rfl, LP⟩
  case round =>
   clear LP
   obtain ⟨i, hig, rfl, hst⟩ := hrel
   by_cases hlt : i < h.name.length
   ·obtain ⟨β, hβ⟩ : ∃ β, h.name.all okA = β := ⟨_, rfl⟩
    obtain ⟨γ, hγ⟩ : ∃ γ, splitB h.name i = γ := ⟨_, rfl⟩
    rw [hβ] at HASC
    have HS := fun W => HSPL W i (by omega)
    rw [hγ] at HS
    clear HSPL
    have HBT := Lib.hid (And.intro hβ hγ)
    clear hβ hγ
    cases β with
    | false =>
     have NX : Hid (PlcSt w C m h rv w1.heap.size u10 (i + 1) wr) := by
      obtain ⟨ps, h1, h2, h3, h4⟩ := hst.out
      exact ⟨ps, h1.skip (fun e => by rw [HBT.out.1] at e; cases e.1), h2, h3, h4⟩
     clear hst
     go_wp2_with (go_at_call 119; refine (HASC _).out.mono ?_; rintro e wx ⟨rfl, rfl⟩)
     go_roundg (gk - 1)
     case measure => omega
     case rel => exact ⟨i + 1, by omega, by simp, NX⟩
    | true =>
     cases γ with
     | false =>
      have NX : Hid (PlcSt w C m h rv w1.heap.size u10 (i + 1) wr) := by
       obtain ⟨ps, h1, h2, h3, h4⟩ := hst.out
       exact ⟨ps, h1.skip (fun e => by rw [HBT.out.2] at e; cases e.2), h2, h3, h4⟩
      clear hst
      go_wp2_with (first | (go_at_call 119; refine (HASC _).out.mono ?_; rintro e wx ⟨rfl, rfl⟩) | (go_at_call 122; refine (HS _).out.mono ?_; rintro e wx ⟨rfl, rfl⟩))
      go_roundg (gk - 1)
      case measure => omega
      case rel => exact ⟨i + 1, by omega, by simp, NX⟩
     | true =>
      obtain ⟨v2, w2, hr2, NX⟩ : ∃ v2 w2, (Builtin.append_ #[30, 30] 30 #[u10, .slice (some ⟨wr.heap.size, 0, none⟩) 1 1]).run Tryz.prog (wr.alloc (.cells #[.int .i64 i] 3)) = .ok v2 w2 ∧ Hid (PlcSt w C m h rv w1.heap.size v2 (i + 1) w2) := by
       obtain ⟨ps, h1, h2, h3, h4⟩ := hst.out
       obtain ⟨v2, w2, hr, hown, hk⟩ := app_int_ex wr 30 w1.heap.size u10 ps i h2 (by have := h1.len; omega) h4
       exact ⟨v2, w2, hr, ps ++ [i], h1.add HBT.out.1 HBT.out.2, hown, h3.other hCw hb1 hk, Nat.le_trans h4 hk.size⟩
      clear hst
      have HR2 := Lib.hid hr2
      clear hr2
      go_wp2_with (first | (go_at_call 119; refine (HASC _).out.mono ?_; rintro e wx ⟨rfl, rfl⟩) | (go_at_call 122; refine (HS _).out.mono ?_; rintro e wx ⟨rfl, rfl⟩) | (at_builtin; refine Lib.wpList_append_run _ rfl _ _ _ _ rfl _ _ rfl rfl _ _ HR2.out ?_))
      go_roundg (gk - 1)
      case measure => omega
      case rel => exact ⟨i + 1, by omega, by simp, NX⟩
   ·obtain rfl : i = h.name.length := by omega
    obtain ⟨ps, hpl, hown, hst2, hbs⟩ := hst.out
    clear hst HASC HSPL
    obtain ⟨A, cc, rfl⟩ := hown.shape
    have HPL := Lib.hid hpl
    have HOWN := Lib.hid hown
    have HST := Lib.hid hst2
    have hpn := hpl.len
    clear hpl hown hst2
    go_wp2_with fail
    refine (of_any wr C m (ps.length + 1) HST.out.cho (by omega) (by omega)).mono ?_
    rintro e w2 ⟨⟨k, hkk, rfl⟩, hk2, hc2⟩
    have st2 : BlkSt w C (m + 1) h rv (List.replicate 512 0) w2 := ⟨hc2, hk2.heap HST.out.row (by omega), hk2.heap HST.out.hdr (by omega), HST.out.kp.trans hk2, HST.out.len⟩
    have ST2 := Lib.hid st2
    have HOW2 := Lib.hid (HOWN.out.keep hk2 (fun b hb e => by omega))
    clear st2 hk2 hc2 HST HOWN
    have skip : Hid (ps = [] ∨ h.name.length ≤ 100 → CutN w C m h rv h.name w2) := fun hor => by
     refine ⟨_, .inl ⟨rfl, rfl, fun ha hl hsp => ?_⟩, ST2.out⟩
     rcases hor with rfl | h1
     ·obtain ⟨pre, nm, hp⟩ := hsp
      have hsb := parts_splitB hp
      have := (HPL.out.mem pre.length).2 ⟨(splitB_parts hsb).2.2.2, (ascii_iff _).2 ha, hsb⟩
      cases this
     ·omega
    by_cases hps : ps = []
    ·have SK : Hid (CutN w C m h rv h.name w2) := skip.out (.inl hps)
     have hl0 : (ps.length : Int) = 0 := by rw [hps]; rfl
     clear skip HPL HOW2 ST2 hps
     go_wp2_with fail
     go_meet
     case rel => exact ⟨h.name, rfl, SK⟩
    ·have hl0 : (0 : Int) < (ps.length : Int) := by
      have := List.length_pos_iff.2 hps
      omega
     by_cases hgo : h.name.length ≤ 100 ∧ k = 0
     ·obtain ⟨hg1, rfl⟩ := hgo
      have SK : Hid (CutN w C m h rv h.name w2) := skip.out (.inr hg1)
      clear skip HPL HOW2 ST2 hps
      have hd1 : decide ((100 : Int) < (h.name.length : Int)) = false := decide_eq_false (by omega)
      have hd0 : decide ((0 : Int) < (ps.length : Int)) = true := decide_eq_true hl0
      go_wp2_with fail
      go_meet
      case rel => exact ⟨h.name, rfl, SK⟩
     ·have hq : k - 1 < ps.length := by omega
      obtain ⟨p, hp⟩ : ∃ p, ps[k - 1]? = some p := ⟨_, List.getElem?_eq_getElem hq⟩
      obtain ⟨g, c3, hA3, hbg, cp⟩ := HOW2.out.get hp
      injection hA3 with hA1 hA2 hA3
      subst hA1 hA3
      clear hA2
      have hpm := (HPL.out.mem p).1 (List.mem_of_getElem? hp)
      have hpl : p < h.name.length := hpm.1
      have hpp := splitB_parts hpm.2.2
      have hasc := (ascii_iff _).1 hpm.2.1
      have hmax : max ((k : Int) - 1) 0 = ((k - 1 : Nat) : Int) := by omega
      have hp0 : (0 : Int) ≤ (p : Int) := by omega
      have hp1 : (p : Int) ≤ (h.name.length : Int) := by omega
      have hp2 : (p : Int) + 1 ≤ (h.name.length : Int) := by omega
      have hd0 : decide ((0 : Int) < (ps.length : Int)) = true := decide_eq_true hl0
      obtain ⟨q, hqq⟩ : ∃ q, k - 1 = q := ⟨_, rfl⟩
      rw [hqq] at hmax hq cp
      have st2d := ST2.out.grow ((Kp.refl (fun _ => False) w2).drew)
      obtain ⟨w3, hr3, hk3, hb3⟩ := copy_str_ex w2.drew 3 (w.heap.size + 1) 345 155 167 (h.name.take p) _ st2d.row (by rw [st2d.len]; omega)
      have e3 : (⟨h.name.toArray⟩ : ByteArray).extract 0 p = ⟨(h.name.take p).toArray⟩ := by
       apply ByteArray.ext
       simp [ByteArray.data_extract, List.extract_toArray, List.extract]
      have e4 : (⟨h.name.toArray⟩ : ByteArray).extract (p + 1) h.name.length = ⟨(h.name.drop (p + 1)).toArray⟩ := by
       apply ByteArray.ext
       simp [ByteArray.data_extract, List.extract_toArray, List.extract]
       rw [List.take_of_length_le (by rw [List.length_drop]; omega)]
      have S3 := st2d.copyTo hCw hk3 hb3 (by rw [List.length_take]; omega)
      have CN : Hid (CutN w C m h rv (h.name.drop (p + 1)) w3) := ⟨_, .inr ⟨hasc, _, hpp.1, rfl⟩, S3⟩
      clear skip HPL HOW2 hps hpm hpp hasc st2d hk3 hb3 S3 hp ST2
      by_cases hlen : 100 < h.name.length
      ·have hd1 : decide ((100 : Int) < (h.name.length : Int)) = true := decide_eq_true (by omega)
       go_wp2_with fail
       go_region_held3 (fun _ => True) (trivial) (first | (fail "none"))
       rename_i hHeld
       clear hHeld hr3
       go_wp2_with fail
       go_meet
       case rel => exact ⟨_, rfl, CN⟩
      ·have hk0 : ¬ k = 0 := fun e => hgo ⟨by omega, e⟩
       have hd1 : decide ((100 : Int) < (h.name.length : Int)) = false := decide_eq_false (by omega)
       have hd2 : decide ((0 : Int) < (k : Int)) = true := decide_eq_true (by omega)
       go_wp2_with fail
       go_region_held3 (fun _ => True) (trivial) (first | (fail "none"))
       rename_i hHeld
       clear hHeld hr3
       go_wp2_with fail
       go_meet
       case rel => exact ⟨_, rfl, CN⟩
 case rest =>
  obtain ⟨nm, rfl, hcn⟩ := hcut
  obtain ⟨L1, hnm, S1⟩ := hcn.out
  clear hcn SS c1
  obtain ⟨w2, hr2, hk2, hb2⟩ := copy_str_ex wc 3 (w.heap.size + 1) 0 100 512 nm _ S1.row (by rw [S1.len]; omega)
  have S2 := S1.copyTo hCw hk2 hb2 (by rw [List.length_take]; omega)
  obtain ⟨LN, hLN⟩ : ∃ LN, splice L1 0 (nm.take 100) = LN := ⟨_, rfl⟩
  rw [hLN] at S2
  have NF : Hid (NameF h false LN) := hLN ▸ nameF_ustar hnm
  clear hLN hnm hk2 hb2 S1
  go_upto_region 18 with fail
  have d3 : w2.cell? ⟨w.heap.size, 3, none⟩ = some (.int .i64 h.size) := cell_of S2.hdr 3 rfl
  have d4 : w2.cell? ⟨w.heap.size, 4, none⟩ = some (.int .i64 h.mode) := cell_of S2.hdr 4 rfl
  have d5 : w2.cell? ⟨w.heap.size, 5, none⟩ = some (.int .i64 h.uid) := cell_of S2.hdr 5 rfl
  have d6 : w2.cell? ⟨w.heap.size, 6, none⟩ = some (.int .i64 h.gid) := cell_of S2.hdr 6 rfl
  have d9 : w2.cell? ⟨w.heap.size, 9, none⟩ = some (.int .i64 h.ms) := cell_of S2.hdr 9 rfl
  have d17 : w2.cell? ⟨w.heap.size, 17, none⟩ = some (.int .i64 h.maj) := cell_of S2.hdr 17 rfl
  have d18 : w2.cell? ⟨w.heap.size, 18, none⟩ = some (.int .i64 h.min) := cell_of S2.hdr 18 rfl
  have SS := Lib.hid S2
  clear S2 hr2
  go_wp2_with fail
  refine (show Code.wp _ _ _ _ (w2.alloc (.cells (tblRow h).toArray 222)) from ?_)
  have LP : Hid (NumLoop w C (m + 1) h rv false LN w2.heap.size 0 (w2.alloc (.cells (tblRow h).toArray 222))) :=
   ⟨⟨_, SS.out.grow ((Kp.refl _ _).alloc _), NumsTo.zero _ _ _ SS.out.len⟩, heap_new w2 _⟩
  have hA : w.heap.size + 1 < w2.heap.size := lt_of SS.out.row
  clear d3 d4 d5 d6 d9 d17 d18 SS
  generalize w2.alloc (.cells (tblRow h).toArray 222) = w3 at LP ⊢
  go_loopg [15, 16, 102] 7 (fun g s15 s16 s102 wr => ∃ j : Nat, j + g = 7 ∧ s102 = .int .i64 j ∧ Hid (NumLoop w C (m + 1) h rv false LN w2.heap.size j wr))
  case atStart => exact ⟨0, by omega, rfl, LP⟩
  case round =>
   clear LP
   obtain ⟨j, hj, rfl, hl⟩ := hrel
   by_cases hlt : j < 7
   ·have hb := fo_fit j hlt
    have ht := tbl_at h j hlt
    have e0 : wr.cell? ⟨w2.heap.size, j * 3, none⟩ = some (.int .i64 (fo j : Nat)) := cell_of hl.out.tbl _ (by rw [List.getElem?_toArray]; exact ht.1)
    have e1 : wr.cell? ⟨w2.heap.size, j * 3 + 1, none⟩ = some (.int .i64 (fo j + fw j : Nat)) := cell_of hl.out.tbl _ (by rw [List.getElem?_toArray]; exact ht.2.1)
    have e2 : wr.cell? ⟨w2.heap.size, j * 3 + 2, none⟩ = some (.int .i64 (fv h j)) := cell_of hl.out.tbl _ (by rw [List.getElem?_toArray]; exact ht.2.2)
    clear ht
    have hg : ∀ o, Hid (NumLoop w C (m + 1) h rv false LN w2.heap.size j (wr.alloc o)) := fun o => hl.out.grow ((Kp.refl _ _).alloc _)
    have hfv := hi.fvs j hlt
    have HF := fun W => Lib.hid (fitsOctal_any W (fw j) (fv h j) (by omega) hfv)
    obtain ⟨β, hβ⟩ : ∃ β, (decide (0 ≤ fv h j) && decide (fv h j < 8 ^ (fw j - 1))) = β := ⟨_, rfl⟩
    rw [hβ] at HF
    have hsto : Hid (stored false (fw j) (fv h j) = if β then fv h j else 0) := by show _ = _; rw [← hβ]; rfl
    have hfit : Hid (β = true → 0 ≤ fv h j ∧ fv h j < 8 ^ (fw j - 1)) := fun e => by rw [e, Bool.and_eq_true] at hβ; exact ⟨of_decide_eq_true hβ.1, of_decide_eq_true hβ.2⟩
    have hsub : ((fo j : Int) + (fw j : Int)) - (fo j : Int) = (fw j : Int) := by omega
    clear hl hβ
    cases β with
    | true =>
     go_wp2_with (go_at_call 120; refine (HF _).out.mono ?_; rintro e wx ⟨rfl, rfl⟩)
     obtain ⟨L, hst, hnum⟩ := (hg _).out.st
     refine (number_row _ C (m + 1 + 4 * j) (w.heap.size + 1) (fo j) (fw j) (512 - fo j) (fv h j) false L hst.cho (by omega) (by omega) ⟨hb.2.1, hb.2.2.1⟩ (by omega) hfv (.inr (hfit.out (by trivial))) hst.row (by rw [hst.len]; omega)).mono ?_
     rintro e w5 ⟨rfl, hk5, hc5, f, hf, hrow⟩
     have NX : Hid (NumLoop w C (m + 1) h rv false LN w2.heap.size (j + 1) w5) := (hg _).out.next hCw hA hlt hst hnum (by rw [hsto.out]; exact hf) hk5 hc5 hrow
     clear hg hk5 hc5 hrow hst hnum hf e0 e1 e2 HF
     go_wp2_with fail
     go_roundg (gk - 1)
     case measure => omega
     case rel => exact ⟨j + 1, by omega, by simp, NX⟩
    | false =>
     go_wp2_with (go_at_call 120; refine (HF _).out.mono ?_; rintro e wx ⟨rfl, rfl⟩)
     obtain ⟨L, hst, hnum⟩ := (hg _).out.st
     refine (number_row _ C (m + 1 + 4 * j) (w.heap.size + 1) (fo j) (fw j) (512 - fo j) 0 false L hst.cho (by omega) (by omega) ⟨hb.2.1, hb.2.2.1⟩ (by omega) (by omega) (.inr ⟨by omega, by have : (0 : Int) < (8 : Int) ^ (fw j - 1) := Int.pow_pos (by omega); exact this⟩) hst.row (by rw [hst.len]; omega)).mono ?_
     rintro e w5 ⟨rfl, hk5, hc5, f, hf, hrow⟩
     have NX : Hid (NumLoop w C (m + 1) h rv false LN w2.heap.size (j + 1) w5) := (hg _).out.next hCw hA hlt hst hnum (by rw [hsto.out]; exact hf) hk5 hc5 hrow
     clear hg hk5 hc5 hrow hst hnum hf e0 e1 e2 HF
     go_wp2_with fail
     go_roundg (gk - 1)
     case measure => omega
     case rel => exact ⟨j + 1, by omega, by simp, NX⟩
   ·obtain rfl : j = 7 := by omega
    obtain ⟨L, hst, hnum⟩ := hl.out.st
    clear hl
    have hl7 := Lib.hid hnum
    clear hnum
    have c0 : wr.cell? ⟨w.heap.size, 0, none⟩ = some (.int .u8 h.typ.toNat) := cell_of hst.hdr 0 rfl
    obtain ⟨x156, b156⟩ := hst.row.at_ 156 (by rw [hst.len]; omega)
    have z156 := free_of hst.row 156
    have r4 := hst.row.put 156 h.typ (.int .u8 h.typ.toNat) rfl
    have S4 : Hid (BlkSt w C (m + 1 + 28) h rv (L.set 156 h.typ) (wr.setCell ⟨w.heap.size + 1, 156, none⟩ (.int .u8 h.typ.toNat))) := hst.put hCw 156 h.typ
    clear hst
    go_upto_region 27 with fail
    generalize wr.setCell ⟨w.heap.size + 1, 156, none⟩ (.int .u8 h.typ.toNat) = w4 at S4 ⊢
    clear c0 b156 z156 r4
    obtain ⟨L4, hL4⟩ : ∃ L4, L.set 156 h.typ = L4 := ⟨_, rfl⟩
    rw [hL4] at S4
    have H4 := Lib.hid hL4
    clear hL4
    have c2 : w4.cell? ⟨w.heap.size, 2, none⟩ = some (.string ⟨h.link.toArray⟩) := cell_of S4.out.hdr 2 rfl
    have S4d := S4.out.grow ((Kp.refl (fun _ => False) _).drew)
    obtain ⟨w5, hr5, hk5, hb5⟩ := copy_str_ex w4.drew 3 (w.heap.size + 1) 157 100 355 h.link _ S4d.row (by rw [S4d.len]; omega)
    have c2b : w5.cell? ⟨w.heap.size, 2, none⟩ = some (.string ⟨h.link.toArray⟩) := hk5.cell (show w4.drew.cell? _ = _ from c2) (by show ¬ (w.heap.size = w.heap.size + 1); omega)
    have S5 := S4d.copyTo hCw hk5 hb5 (by rw [List.length_take]; omega)
    obtain ⟨L5, hL5⟩ : ∃ L5, splice L4 157 (h.link.take 100) = L5 := ⟨_, rfl⟩
    rw [hL5] at S5
    have H5 := Lib.hid hL5
    clear hL5 S4 S4d hk5 hb5
    go_region_held3 (fun w' => w'.cell? ⟨w.heap.size, 2, none⟩ = some (.string ⟨h.link.toArray⟩)) (first | (exact c2) | (exact c2b)) (first | (fail "none"))
    rename_i hHeld
    clear hHeld hr5 c2 c2b
    obtain ⟨w6, hr6, hk6, hb6⟩ := copy_str_ex w5 3 (w.heap.size + 1) 257 8 255 magicU _ S5.row (by rw [S5.len]; omega)
    have S6 := S5.copyTo hCw hk6 hb6 (by decide)
    obtain ⟨L6, hL6⟩ : ∃ L6, splice L5 257 (magicU.take 8) = L6 := ⟨_, rfl⟩
    rw [hL6] at S6
    have H6 := Lib.hid hL6
    clear hL6 S5 hk6 hb6
    unfold magicU at hr6
    have c7 : w6.cell? ⟨w.heap.size, 7, none⟩ = some (.string ⟨h.un.toArray⟩) := cell_of S6.hdr 7 rfl
    have S9d := S6.grow ((Kp.refl (fun _ => False) _).drew)
    obtain ⟨wa, hra, hka, hba⟩ := copy_str_ex w6.drew 3 (w.heap.size + 1) 265 32 247 h.un _ S9d.row (by rw [S9d.len]; omega)
    have c7b : wa.cell? ⟨w.heap.size, 7, none⟩ = some (.string ⟨h.un.toArray⟩) := hka.cell (show w6.drew.cell? _ = _ from c7) (by show ¬ (w.heap.size = w.heap.size + 1); omega)
    have SA := S9d.copyTo hCw hka hba (by rw [List.length_take]; omega)
    obtain ⟨L10, h10⟩ : ∃ L10, splice L6 265 (h.un.take 32) = L10 := ⟨_, rfl⟩
    rw [h10] at SA
    have H10 := Lib.hid h10
    clear h10 S6 S9d hka hba
    go_wp2_with fail
    clear hr6
    go_region_held3 (fun w' => w'.cell? ⟨w.heap.size, 7, none⟩ = some (.string ⟨h.un.toArray⟩)) (first | (exact c7) | (exact c7b)) (first | (fail "none"))
    rename_i hHeld
    clear hHeld hra c7 c7b
    have c8 : wa.cell? ⟨w.heap.size, 8, none⟩ = some (.string ⟨h.gn.toArray⟩) := cell_of SA.hdr 8 rfl
    have SAd := SA.grow ((Kp.refl (fun _ => False) _).drew)
    obtain ⟨wb, hrb, hkb, hbb⟩ := copy_str_ex wa.drew 3 (w.heap.size + 1) 297 32 215 h.gn _ SAd.row (by rw [SAd.len]; omega)
    have c8b : wb.cell? ⟨w.heap.size, 8, none⟩ = some (.string ⟨h.gn.toArray⟩) := hkb.cell (show wa.drew.cell? _ = _ from c8) (by show ¬ (w.heap.size = w.heap.size + 1); omega)
    have SB := SAd.copyTo hCw hkb hbb (by rw [List.length_take]; omega)
    obtain ⟨L11, h11⟩ : ∃ L11, splice L10 297 (h.gn.take 32) = L11 := ⟨_, rfl⟩
    rw [h11] at SB
    have H11 := Lib.hid h11
    clear h11 SA SAd hkb hbb
    go_wp2_with fail
    go_region_held3 (fun w' => w'.cell? ⟨w.heap.size, 8, none⟩ = some (.string ⟨h.gn.toArray⟩)) (first | (exact c8) | (exact c8b)) (first | (fail "none"))
    rename_i hHeld
    clear hHeld hrb c8 c8b
    go_wp2_with fail
    refine (summed_any wb C (m + 1 + 28) (w.heap.size + 1) L11 SB.cho (by omega) (by omega) SB.row SB.len).mono ?_
    rintro e wz ⟨rfl, hkz, hcz, fs, hfs, hrz⟩
    have FIN : Hid (BlkEnd w C m h false (.returned (.slice (some ⟨w.heap.size + 1, 0, none⟩) 512 512)) wz) := by
     have e6 : L6 = splice L5 257 magicU := H6.out.symm
     exact ⟨_, rfl, hrz, blkE_of (L7 := L6) (L8 := L6) (L9 := L6) (fa := []) (fc := []) NF.out hl7.out H4.out.symm H5.out.symm e6 rfl rfl (fun g => by cases g) rfl (fun g => by cases g) H10.out.symm H11.out.symm hfs, SB.kp.then hkz (fun i hi e => by omega), hcz.keep (Kp.refl (fun _ => False) _) (fun _ h => h.elim) (by omega)⟩
    clear hkz hcz hfs hrz SB
    go_wp2_with fail
    go_ret
    exact FIN.out
theorem RowB.own {w : World} {b base : Nat} {l : List UInt8} (h : RowB w b l) (hb : base ≤ b) (hl : l.length ≤ maxLen) : OwnB w base (.slice (some ⟨b, 0, none⟩) l.length l.length) l := by
 refine ⟨by rw [ubs_length, Nat.mul_one], .inr ⟨b, l.length, _, rfl, hb, h, Nat.le_refl _, hl, ?_, ?_⟩⟩
 ·simp [ubs]
 ·rw [Nat.mul_one, show l.length = (ubs l).length from (ubs_length l).symm, List.take_length]
theorem conv_str_ex (w : World) (l : List UInt8) : ∃ c w', (convert 9 27 (.string ⟨l.toArray⟩)).run Tryz.prog w = .ok (.slice (some ⟨w.heap.size, 0, none⟩) l.length c) w' ∧ BytesAt w' w.heap.size 0 l ∧ Kp (fun _ => False) w w' := by
 have hr := run_bytes_of_string (P := Tryz.prog) w 9 27 5 ⟨l.toArray⟩ Tryz.underlying9 Tryz.underlying27 Tryz.underlying5
 refine ⟨_, _, hr, fun j v hv => ?_, (Kp.refl _ _).drew.alloc _⟩
 have hn := heap_new w.drew (.cells (bytesRow ⟨l.toArray⟩ (grownCap w (⟨l.toArray⟩ : ByteArray).size 0 5)) 5 ((bytesRow ⟨l.toArray⟩ (grownCap w (⟨l.toArray⟩ : ByteArray).size 0 5)).size, (bytesRow ⟨l.toArray⟩ (grownCap w (⟨l.toArray⟩ : ByteArray).size 0 5)).size + 1))
 rw [Nat.zero_add]
 refine cell_of (w := World.alloc _ _) hn j ?_
 have hj : j < l.length := by
  rcases Nat.lt_or_ge j l.length with h | h
  ·exact h
  ·rw [List.getElem?_eq_none (by rw [ubs_length]; exact h)] at hv; cases hv
 rw [ubs_get] at hv
 unfold bytesRow
 rw [Array.getElem?_append_left (by simpa using hj)]
 simpa [ub] using hv
theorem DataAt.of {w : World} {b c : Nat} {l : List UInt8} (h : BytesAt w b 0 l) : DataAt w (.slice (some ⟨b, 0, none⟩) l.length c) l := .inr ⟨b, 0, c, rfl, h⟩
def MetaEnd (w : World) (C m : Nat) (kind : UInt8) (name data : List UInt8) (gnu : Bool) (e : Ending) (w' : World) : Prop :=
 ∃ v t, e = .returned v ∧ OwnB w' w.heap.size v t ∧ MetaE kind name data gnu t ∧ Kp (· = C) w w' ∧ Cho w' C (m + 100)
theorem numIn_meta (kind : UInt8) (name : List UInt8) (n : Nat) (hn : n ≤ 1099511627776) : NumIn (metaH kind name n) := by
 refine ⟨fun j hj => ?_, by simp [metaH, hd0], by simp [metaH, hd0]⟩
 match j, hj with
 | 0, _ => simp [fv, metaH, hd0]
 | 1, _ => simp [fv, metaH, hd0]
 | 2, _ => simp [fv, metaH, hd0]
 | 3, _ => simp [fv, metaH, hd0]; omega
 | 4, _ => simp [fv, metaH, hd0]
 | 5, _ => simp [fv, metaH, hd0]
 | 6, _ => simp [fv, metaH, hd0]
theorem block_any (w : World) (C m : Nat) (h : Hd) (rv : Value) (fm : Int) (gnu : Bool) (hf : if gnu then fm = 3 else fm = 1 ∨ fm = 2) (hC : Cho w C m) (hm : m + 200 ≤ 1000000000000) (hi : NumIn h) (hnl : h.name.length ≤ 1099511627776) :
  Calls Tryz.prog 76 #[.pointer (some ⟨C, 0, none⟩), .agg (sRow h rv).toArray, .int .i64 fm] w (BlkEnd w C m h gnu) := by
 cases gnu with
 | true => rw [if_pos rfl] at hf; subst hf; exact block_gnu w C m h rv hC hm hi
 | false => rw [if_neg (by simp)] at hf; exact block_ustar w C m h rv fm hf hC hm hi hnl
theorem meta_any (w : World) (C m : Nat) (kind : UInt8) (name data : List UInt8) (fm : Int) (gnu : Bool) (hf : if gnu then fm = 3 else fm = 1 ∨ fm = 2) (hC : Cho w C m) (hm : m + 200 ≤ 1000000000000) (hd : data.length ≤ 1099511627776) (hnl : name.length ≤ 1099511627776) :
  Calls Tryz.prog 71 #[.pointer (some ⟨C, 0, none⟩), .int .u8 kind.toNat, .string ⟨name.toArray⟩, .string ⟨data.toArray⟩, .int .i64 fm] w (MetaEnd w C m kind name data gnu) := by
 have HB := Lib.hid (block_any w C m (metaH kind name data.length) (.slice none 0 0) fm gnu hf hC hm (numIn_meta kind name _ hd) hnl)
 have hCw : C < w.heap.size := by obtain ⟨nv, a, h1, _⟩ := hC; exact lt_of h1
 clear hC hf
 go_enter Tryz.func71, Tryz.ntmps71
 go_wp2_with fail
 refine HB.out.mono ?_
 rintro e w1 ⟨l, rfl, hrow, hblk, hk1, hc1⟩
 have hl := hblk.len
 obtain ⟨c2, w2, hr2, hb2, hk2⟩ := conv_str_ex w1 data
 have hrow2 := hk2.heap hrow (fun h => h)
 have HF := Lib.hid (filled_any w2 (.slice (some ⟨w1.heap.size, 0, none⟩) data.length c2) data (DataAt.of hb2) hd)
 have HROW := Lib.hid hrow2
 have HBLK := Lib.hid hblk
 have HK := Lib.hid (hk1.then hk2 (fun _ _ h => h.elim))
 have HC := Lib.hid (hc1.keep hk2 (fun _ h => h.elim) (Nat.le_refl _))
 clear hrow hblk hk1 hc1 hb2 hrow2 hk2 HB
 go_wp2_with fail
 refine HF.out.mono ?_
 rintro e w3 ⟨v3, rfl, hown3, hk3⟩
 have hown1 : OwnB w3 w.heap.size (.slice (some ⟨w.heap.size + 1, 0, none⟩) 512 512) l := by
  have := RowB.own (base := w.heap.size) (hk3.heap HROW.out (fun h => h)) (by omega) (by rw [hl]; decide)
  rwa [hl] at this
 obtain ⟨A3, c3, rfl⟩ := hown3.shape
 have hda : DataAt w3 (.slice A3 (filledL data).length c3) (filledL data) := by
  rcases hown3.2 with ⟨h1, h2⟩ | ⟨g, cap, cur, h1, h2, h3, h4, h5, h6, h7⟩
  ·exact .inl ⟨.inl h1, List.eq_nil_of_length_eq_zero h2⟩
  ·refine .inr ⟨g, 0, cap, h1, fun j u hu => ?_⟩
   rw [Nat.zero_add]
   refine cell_of h3 j ?_
   rw [← h7, Nat.mul_one, List.getElem?_take] at hu
   split at hu
   ·simpa using hu
   ·cases hu
 have hfl : (filledL data).length ≤ 1099511628800 := by rw [filledL_len]; have := padN_lt data.length; omega
 have hsz3 : w.heap.size ≤ w3.heap.size := Nat.le_trans HK.out.size hk3.size
 obtain ⟨v4, w4, hr4, hown4, hk4, hx4⟩ := app_data_ex w3 27 w.heap.size _ _ l (filledL data) hown1 hda (by rw [hl]; omega) hsz3
 have FIN : Hid (MetaEnd w C m kind name data gnu (.returned v4) w4) := by
  have hc3 := HC.out.keep hk3 (fun _ h => h.elim) (Nat.le_refl _)
  exact ⟨v4, _, rfl, hown4, .mk l HBLK.out, (HK.out.then hk3 (fun _ _ h => h.elim)).then hk4 (fun i hi e => by have e : some i = some (w.heap.size + 1) := e; injection e with e; omega), hc3.keep hk4 (fun i e => by have e : some i = some (w.heap.size + 1) := e; injection e with e; omega) (Nat.le_refl _)⟩
 have HR4 := Lib.hid hr4
 clear hr4 hown4 hk4 hx4 hda hown1 hown3 hk3
 dsimp only
 rename_i K h
 refine h _ _ ?_
 clear h
 go_wp2_with (at_builtin; refine Lib.wpList_append_run _ rfl _ _ _ _ rfl _ _ rfl rfl _ _ HR4.out ?_)
 go_ret
 exact FIN.out
def spB (l : List UInt8) : Bool := (List.range l.length).any (splitB l)
theorem spB_iff (l : List UInt8) : spB l = true ↔ Splits l := by
 unfold spB
 rw [List.any_eq_true]
 constructor
 ·rintro ⟨i, _, h⟩; exact ⟨_, _, (splitB_parts h).1⟩
 ·rintro ⟨pre, nm, h⟩
  have := parts_splitB h
  exact ⟨pre.length, List.mem_range.2 (splitB_parts this).2.2.2, this⟩
theorem splits_any (w : World) (l : List UInt8) (hl : l.length ≤ 1099511627776) : Calls Tryz.prog 86 #[.string ⟨l.toArray⟩] w fun e w' => e = .returned (.bool (spB l)) ∧ w' = w := by
 have HS := fun W i (h : i ≤ 281474976710656) => Lib.hid (split_any W l i (by omega) h)
 unfold strv at HS
 go_enter Tryz.func86, Tryz.ntmps86
 go_wp2_with fail
 go_loopg [3, 6] l.length (fun g s3 s6 wr => ∃ i : Nat, i + g = l.length ∧ s6 = .int .i64 i ∧ Hid (∀ j, j < i → splitB l j = false) ∧ wr = w)
 case atStart => exact ⟨0, by omega, rfl, fun j hj => by omega, rfl⟩
 case round =>
  obtain ⟨i, hi, rfl, hno, rfl⟩ := hrel
  by_cases hlt : i < l.length
  ·have HSI := fun W => HS W i (by omega)
   obtain ⟨β, hβ⟩ : ∃ β, splitB l i = β := ⟨_, rfl⟩
   rw [hβ] at HSI
   clear HS
   cases β with
   | true =>
    have FIN : Hid (spB l = true) := by show _ = _; exact List.any_eq_true.2 ⟨i, List.mem_range.2 hlt, hβ⟩
    clear hno hβ
    go_wp2_with fail
    refine (HSI _).out.mono ?_
    rintro e w2 ⟨rfl, rfl⟩
    go_wp2_with fail
    go_ret
    rw [FIN.out]
    exact ⟨rfl, rfl⟩
   | false =>
    have NX : Hid (∀ j, j < i + 1 → splitB l j = false) := fun j hj => by
     rcases Nat.lt_or_ge j i with h | h
     ·exact hno.out j h
     ·obtain rfl : j = i := by omega
      exact hβ
    clear hno hβ
    go_wp2_with fail
    refine (HSI _).out.mono ?_
    rintro e w2 ⟨rfl, rfl⟩
    go_wp2_with fail
    go_roundg (gk - 1)
    case measure => omega
    case rel => exact ⟨i + 1, by omega, by simp, NX, rfl⟩
  ·obtain rfl : i = l.length := by omega
   have FIN : Hid (spB l = false) := by
    show _ = _
    rw [spB, List.any_eq_false]
    intro j hj
    rw [hno.out j (List.mem_range.1 hj)]
    simp
   clear hno HS
   go_wp2_with fail
   go_ret
   rw [FIN.out]
   exact ⟨rfl, rfl⟩
end Go.Proofs.YtgfcnjfmmjcodaaGreatDoor
