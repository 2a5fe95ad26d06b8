/- with and Last of the specification. -/
import Derived.Test.YtgfcnjfmmjcodaaGreatDoorM22
set_option linter.all false
set_option maxRecDepth 100000
set_option maxHeartbeats 1000000
namespace Go.Proofs.YtgfcnjfmmjcodaaGreatDoor
open Go Go.RowKit
def WthSt (w : World) (base : Nat) (l : List Rec) (r : Rec) (i : Nat) (v : Value) (inn : Bool) (wr : World) : Prop :=
 ∃ o, OwnR 136 wr base v o ∧ WithS (l.take i) r o inn ∧ Kp (fun _ => False) w wr ∧ base ≤ wr.heap.size
def RndSt (w : World) (l : List Rec) (r : Rec) (i : Nat) (v : Value) (inn : Bool) (wr : World) : Prop :=
 WthSt w (w.heap.size + 1) l r i v inn wr ∧ wr.heap[w.heap.size]? = some (.cells #[.string ⟨r.1.toArray⟩, .string ⟨r.2.toArray⟩] 136 (0, 0))
set_option maxHeartbeats 1600000 in
theorem with_any (w : World) (C : Nat) (rv : Value) (l : List Rec) (r : Rec) (hl : RecsAt w C rv l) (hC : C ≤ w.heap.size) (hlen : l.length ≤ 2147483648) :
  Calls Tryz.prog 105 #[rv, .agg #[.string ⟨r.1.toArray⟩, .string ⟨r.2.toArray⟩]] w fun e w' => (∃ v o, e = .returned v ∧ OwnR 136 w' w.heap.size v o ∧ WithE l r o) ∧ Kp (fun _ => False) w w' := by
 obtain ⟨A, c, rfl⟩ := hl.shape
 have hk0 : ∀ o, Hid (Kp (fun _ => False) w (w.alloc o)) := fun o => (Kp.refl _ _).alloc _
 have HL := Lib.hid hl
 clear hl
 go_enter Tryz.func105, Tryz.ntmps105
 go_wp2_with fail
 have LP : Hid (RndSt w l r 0 (.slice none 0 0) false (w.alloc (.cells #[.string ⟨r.1.toArray⟩, .string ⟨r.2.toArray⟩] 136))) :=
  ⟨⟨[], OwnR.nil _ _ _, by rw [sE]; exact WithS.nil r, (hk0 _).out, by show w.heap.size + 1 ≤ (w.heap.push _).size; simp⟩, heap_new w _⟩
 clear hk0
 generalize w.alloc (.cells #[.string ⟨r.1.toArray⟩, .string ⟨r.2.toArray⟩] 136) = w1 at LP ⊢
 go_loopg [5, 6, 11] l.length (fun g s5 s6 s11 wr => ∃ (i : Nat) (inn : Bool), i + g = l.length ∧ s11 = .int .i64 i ∧ s6 = .bool inn ∧ Hid (RndSt w l r i s5 inn wr))
 case atStart => exact ⟨0, false, by omega, rfl, rfl, LP⟩
 case round =>
  clear LP
  obtain ⟨i, inn, hi, rfl, rfl, hst⟩ := hrel
  by_cases hlt : i < l.length
  ·obtain ⟨x, hx⟩ : ∃ x, l[i]? = some x := ⟨_, List.getElem?_eq_getElem hlt⟩
   have hLr : RecsAt wr C (.slice A l.length c) l := by
    obtain ⟨⟨o, _, _, hk, _⟩, _⟩ := hst.out
    exact HL.out.keep hk (fun _ h => h.elim)
   obtain ⟨b, o, c', hA, hbC, x1, x2⟩ := hLr.get hx
   injection hA with hA1 hA2 hA3
   subst hA1 hA3
   have r1 : ∀ o, (wr.alloc o).cell? ⟨w.heap.size, 0, none⟩ = some (.string ⟨r.1.toArray⟩) := fun o => cell_of (heap_alloc hst.out.2 o) 0 rfl
   have r2 : ∀ o, (wr.alloc o).cell? ⟨w.heap.size, 1, none⟩ = some (.string ⟨r.2.toArray⟩) := fun o => cell_of (heap_alloc hst.out.2 o) 1 rfl
   have hxg : x = l[i] := by rw [List.getElem?_eq_getElem hlt] at hx; injection hx with hx; exact hx.symm
   have htk : l.take (i + 1) = l.take i ++ [x] := by rw [List.take_succ_eq_append_getElem hlt, hxg]
   have hsz : ∀ o, (wr.alloc o).heap.size = wr.heap.size + 1 := fun o => by show (wr.heap.push _).size = _; simp
   have hbs : w.heap.size + 1 ≤ wr.heap.size := by obtain ⟨⟨o, _, _, _, h⟩, _⟩ := hst.out; exact h
   have HTK := Lib.hid htk
   obtain ⟨β, hβ⟩ : ∃ β, (x.1 == r.1) = β := ⟨_, rfl⟩
   have hol : ∀ o, OwnR 136 wr (w.heap.size + 1) u5 o → WithS (l.take i) r o inn → o.length ≤ 4294967296 := fun o _ h => by
    have h1 := h.len
    have h2 : (l.take i).length ≤ l.length := by rw [List.length_take]; omega
    split at h1 <;> omega
   have HOL := Lib.hid hol
   clear hA2 hLr hx hxg htk hol
   cases β with
   | true =>
    have NX : ∀ o, Hid (RndSt w l r (i + 1) u5 inn (wr.alloc o)) := fun o => by
     obtain ⟨⟨q, h1, h2, h3, h4⟩, h5⟩ := hst.out
     have k1 : Kp (fun _ => False) wr (wr.alloc o) := (Kp.refl _ _).alloc _
     exact ⟨⟨q, h1.keep k1 (fun _ _ h => h), by rw [HTK.out]; exact h2.skip (beq_iff_eq.1 hβ), h3.trans k1, Nat.le_trans h4 k1.size⟩, k1.heap h5 (fun h => h)⟩
    clear hst HOL hsz
    go_wp2_with fail
    go_roundg (gk - 1)
    case measure => omega
    case rel => exact ⟨i + 1, inn, by omega, by simp, rfl, NX _⟩
   | false =>
    have hne : x.1 ≠ r.1 := by rw [beq_eq_false_iff_ne] at hβ; exact hβ
    have APX : ∀ XO, XO = Obj.cells #[.string ⟨x.1.toArray⟩, .string ⟨x.2.toArray⟩] 136 → ∃ v2 w2, (Builtin.append_ #[43, 43] 43 #[u5, .slice (some ⟨wr.heap.size + 1, 0, none⟩) 1 1]).run Tryz.prog ((wr.alloc XO).alloc XO) = .ok v2 w2 ∧ Hid (RndSt w l r (i + 1) v2 inn w2) := by
     rintro XO rfl
     obtain ⟨⟨q, h1, h2, h3, h4⟩, h5⟩ := hst.out
     have k1 : Kp (fun _ => False) wr (wr.alloc (.cells #[.string ⟨x.1.toArray⟩, .string ⟨x.2.toArray⟩] 136)) := (Kp.refl _ _).alloc _
     have h1' := h1.keep k1 (fun _ _ h => h)
     obtain ⟨v2, w2, e1, e2, e3⟩ := app_rec_ex (ty := 43) (wr.alloc (.cells #[.string ⟨x.1.toArray⟩, .string ⟨x.2.toArray⟩] 136)) infoS (w.heap.size + 1) u5 q x h1' (HOL.out q h1 h2) (by rw [hsz]; omega)
     rw [hsz] at e1
     have kw := h1'.wide e3
     exact ⟨v2, w2, e1, ⟨q ++ [x], e2, by rw [HTK.out]; exact h2.keep hne, (h3.trans k1).then kw (fun i hi e => by omega), by have := kw.size; rw [hsz] at this; omega⟩, kw.heap (k1.heap h5 (fun h => h)) (by omega)⟩
    obtain ⟨v2, w2, hr2, NX⟩ := APX _ rfl
    have HR2 := Lib.hid hr2
    clear APX hr2
    cases inn with
    | true =>
     clear hst HOL hsz
     go_wp2_with (at_builtin; refine Lib.wpList_append_run _ rfl _ _ _ _ rfl _ _ rfl rfl _ _ HR2.out ?_)
     go_roundg (gk - 1)
     case measure => omega
     case rel => exact ⟨i + 1, true, by omega, by simp, rfl, NX⟩
    | false =>
     obtain ⟨γ, hγ⟩ : ∃ γ, Op.bytesLess r.1 x.1 = γ := ⟨_, rfl⟩
     cases γ with
     | false =>
      clear hst HOL hsz
      go_wp2_with (at_builtin; refine Lib.wpList_append_run _ rfl _ _ _ _ rfl _ _ rfl rfl _ _ HR2.out ?_)
      go_roundg (gk - 1)
      case measure => omega
      case rel => exact ⟨i + 1, false, by omega, by simp, rfl, NX⟩
     | true =>
      clear HR2 NX
      have APR : ∀ XO RO, XO = Obj.cells #[.string ⟨x.1.toArray⟩, .string ⟨x.2.toArray⟩] 136 → RO = Obj.cells #[.string ⟨r.1.toArray⟩, .string ⟨r.2.toArray⟩] 136 → ∃ v3 w3, (Builtin.append_ #[43, 43] 43 #[u5, .slice (some ⟨wr.heap.size + 1, 0, none⟩) 1 1]).run Tryz.prog ((wr.alloc XO).alloc RO) = .ok v3 w3 ∧
        w3.cell? ⟨wr.heap.size, 0, none⟩ = some (.string ⟨x.1.toArray⟩) ∧ w3.cell? ⟨wr.heap.size, 1, none⟩ = some (.string ⟨x.2.toArray⟩) ∧
        ∃ v4 w4, (Builtin.append_ #[43, 43] 43 #[v3, .slice (some ⟨w3.heap.size, 0, none⟩) 1 1]).run Tryz.prog (w3.alloc XO) = .ok v4 w4 ∧ Hid (RndSt w l r (i + 1) v4 true w4) := by
       rintro XO RO rfl rfl
       obtain ⟨⟨q, h1, h2, h3, h4⟩, h5⟩ := hst.out
       have k1 : Kp (fun _ => False) wr (wr.alloc (.cells #[.string ⟨x.1.toArray⟩, .string ⟨x.2.toArray⟩] 136)) := (Kp.refl _ _).alloc _
       have h1' := h1.keep k1 (fun _ _ h => h)
       have hql := HOL.out q h1 h2
       obtain ⟨v3, w3, e1, e2, e3⟩ := app_rec_ex (ty := 43) (wr.alloc (.cells #[.string ⟨x.1.toArray⟩, .string ⟨x.2.toArray⟩] 136)) infoS (w.heap.size + 1) u5 q r h1' hql (by rw [hsz]; omega)
       rw [hsz] at e1
       have hxc := heap_new wr (.cells #[.string ⟨x.1.toArray⟩, .string ⟨x.2.toArray⟩] 136)
       have hxc3 := e3.heap hxc (fun e => by have := (h1.block e.symm).2; omega)
       have kw := h1'.wide e3
       have hs3 := kw.size
       rw [hsz] at hs3
       obtain ⟨v4, w4, f1, f2, f3⟩ := app_rec_ex (ty := 43) w3 infoS (w.heap.size + 1) v3 (q ++ [r]) x e2 (by
        have hh := h2.put.len
        have h7 : (l.take i).length ≤ l.length := by rw [List.length_take]; omega
        simp only [if_true] at hh
        omega) (by omega)
       have kw4 := e2.wide f3
       exact ⟨v3, w3, e1, cell_of hxc3 0 rfl, cell_of hxc3 1 rfl, v4, w4, f1, ⟨(q ++ [r]) ++ [x], f2, by rw [HTK.out]; exact h2.put.keep hne, ((h3.trans k1).then kw (fun i hi e => by omega)).then kw4 (fun i hi e => by omega), by have := kw4.size; omega⟩, kw4.heap (kw.heap (k1.heap h5 (fun h => h)) (by omega)) (by omega)⟩
      obtain ⟨v3, w3, hr3, y1, y2, v4, w4, hr4, NX⟩ := APR _ _ rfl rfl
      have HR3 := Lib.hid hr3
      have HR4 := Lib.hid hr4
      clear hst HOL hsz APR hr3 hr4
      go_wp2_with (at_builtin; first | (refine Lib.wpList_append_run _ rfl _ _ _ _ rfl _ _ rfl rfl _ _ HR3.out ?_) | (refine Lib.wpList_append_run _ rfl _ _ _ _ rfl _ _ rfl rfl _ _ HR4.out ?_))
      go_roundg (gk - 1)
      case measure => omega
      case rel => exact ⟨i + 1, true, by omega, by simp, rfl, NX⟩
  ·obtain rfl : i = l.length := by omega
   have hsz : w.heap.size + 1 ≤ wr.heap.size := by obtain ⟨⟨o, _, _, _, h⟩, _⟩ := hst.out; exact h
   cases inn with
   | true =>
    have FIN : Hid ((∃ v o, Ending.returned u5 = .returned v ∧ OwnR 136 wr w.heap.size v o ∧ WithE l r o) ∧ Kp (fun _ => False) w wr) := by
     obtain ⟨⟨q, h1, h2, h3, h4⟩, h5⟩ := hst.out
     rw [List.take_length] at h2
     exact ⟨⟨u5, q, rfl, h1.lower (by omega), h2.done⟩, h3⟩
    clear hst
    go_wp2_with fail
    go_ret
    exact FIN.out
   | false =>
    have APR : ∀ RO, RO = Obj.cells #[.string ⟨r.1.toArray⟩, .string ⟨r.2.toArray⟩] 136 → ∃ v3 w3, (Builtin.append_ #[43, 43] 43 #[u5, .slice (some ⟨wr.heap.size, 0, none⟩) 1 1]).run Tryz.prog (wr.alloc RO) = .ok v3 w3 ∧
      Hid ((∃ v o, Ending.returned v3 = .returned v ∧ OwnR 136 w3 w.heap.size v o ∧ WithE l r o) ∧ Kp (fun _ => False) w w3) := by
     rintro RO rfl
     obtain ⟨⟨q, h1, h2, h3, h4⟩, h5⟩ := hst.out
     rw [List.take_length] at h2
     have hql := h2.len
     simp only [Bool.false_eq_true, if_false] at hql
     obtain ⟨v3, w3, e1, e2, e3⟩ := app_rec_ex (ty := 43) wr infoS (w.heap.size + 1) u5 q r h1 (by omega) hsz
     exact ⟨v3, w3, e1, ⟨v3, q ++ [r], rfl, e2.lower (by omega), h2.put.done⟩, h3.then (h1.wide e3) (fun i hi e => by omega)⟩
    have r1 : wr.cell? ⟨w.heap.size, 0, none⟩ = some (.string ⟨r.1.toArray⟩) := cell_of hst.out.2 0 rfl
    have r2 : wr.cell? ⟨w.heap.size, 1, none⟩ = some (.string ⟨r.2.toArray⟩) := cell_of hst.out.2 1 rfl
    obtain ⟨v3, w3, hr3, FIN⟩ := APR _ rfl
    have HR3 := Lib.hid hr3
    clear hst APR hr3
    go_wp2_with (at_builtin; refine Lib.wpList_append_run _ rfl _ _ _ _ rfl _ _ rfl rfl _ _ HR3.out ?_)
    go_ret
    exact FIN.out
def LstSt (w : World) (l : List Rec) (i : Nat) (v : Value) (wr : World) : Prop :=
 ∃ o, OwnR 136 wr w.heap.size v o ∧ LastE (l.take i) o ∧ Kp (fun _ => False) w wr
set_option maxHeartbeats 1600000 in
theorem last_any (w : World) (C : Nat) (rv : Value) (l : List Rec) (hl : RecsAt w C rv l) (hC : C ≤ w.heap.size) (hlen : l.length ≤ 2147483648) :
  Calls Tryz.prog 73 #[rv] w fun e w' => (∃ v o, e = .returned v ∧ OwnR 136 w' w.heap.size v o ∧ LastE l o) ∧ Kp (fun _ => False) w w' := by
 obtain ⟨A, c, rfl⟩ := hl.shape
 have HL := Lib.hid hl
 clear hl
 go_enter Tryz.func73, Tryz.ntmps73
 go_wp2_with fail
 have LP : Hid (LstSt w l 0 (.slice none 0 0) w) := ⟨[], OwnR.nil _ _ _, by rw [sE]; exact LastE.nil, Kp.refl _ _⟩
 go_loopg [3, 8] l.length (fun g s3 s8 wr => ∃ (i : Nat), i + g = l.length ∧ s8 = .int .i64 i ∧ Hid (LstSt w l i s3 wr))
 case atStart => exact ⟨0, by omega, rfl, LP⟩
 case round =>
  clear LP
  obtain ⟨i, hi, rfl, hst⟩ := hrel
  by_cases hlt : i < l.length
  ·obtain ⟨x, hx⟩ : ∃ x, l[i]? = some x := ⟨_, List.getElem?_eq_getElem hlt⟩
   have hLr : RecsAt wr C (.slice A l.length c) l := by
    obtain ⟨o, _, _, hk⟩ := hst.out
    exact HL.out.keep hk (fun _ h => h.elim)
   obtain ⟨b, o, c', hA, hbC, x1, x2⟩ := hLr.get hx
   injection hA with hA1 hA2 hA3
   subst hA1 hA3
   have hxg : x = l[i] := by rw [List.getElem?_eq_getElem hlt] at hx; injection hx with hx; exact hx.symm
   have htk : l.take (i + 1) = l.take i ++ [x] := by rw [List.take_succ_eq_append_getElem hlt, hxg]
   have WI : ∀ O, Hid (Calls Tryz.prog 105 #[u3, .agg #[.string ⟨x.1.toArray⟩, .string ⟨x.2.toArray⟩]] (wr.alloc O) fun e w' => ∃ v, e = .returned v ∧ Hid (LstSt w l (i + 1) v w')) := fun O => by
    obtain ⟨q, h1, h2, h3⟩ := hst.out
    have k1 : Kp (fun _ => False) wr (wr.alloc O) := (Kp.refl _ _).alloc _
    refine (with_any (wr.alloc O) wr.heap.size u3 q x (h1.at_.keep k1 (fun _ h => h.elim)) k1.size (by have := h2.len; rw [List.length_take] at this; omega)).mono ?_
    rintro e w' ⟨⟨v, o', rfl, ho, hw⟩, hk⟩
    refine ⟨v, rfl, o', ho.lower (Nat.le_trans h3.size k1.size), by rw [htk]; exact h2.step hw, (h3.trans k1).trans hk⟩
   clear hst hA2 hLr hx hxg htk
   go_wp2_with fail
   refine (WI _).out.mono ?_
   rintro e w2 ⟨v, rfl, NX⟩
   clear WI
   go_wp2_with fail
   go_roundg (gk - 1)
   case measure => omega
   case rel => exact ⟨i + 1, by omega, by simp, NX⟩
  ·obtain rfl : i = l.length := by omega
   have FIN : Hid ((∃ v o, Ending.returned u3 = .returned v ∧ OwnR 136 wr w.heap.size v o ∧ LastE l o) ∧ Kp (fun _ => False) w wr) := by
    obtain ⟨q, h1, h2, h3⟩ := hst.out
    rw [List.take_length] at h2
    exact ⟨⟨u3, q, rfl, h1, h2⟩, h3⟩
   clear hst
   go_wp2_with fail
   go_ret
   exact FIN.out
theorem RecsT.snoc {rs : List Rec} {ts : List UInt8} {r : Rec} {t : List UInt8} (h : RecsT rs ts) (hr : RecT r t) : RecsT (rs ++ [r]) (ts ++ t) := by
 induction h with
 | nil => have := RecsT.cons hr .nil; simpa using this
 | cons h1 h2 ih => rw [List.cons_append, List.append_assoc]; exact .cons h1 ih
def RcsSt (w : World) (C m : Nat) (l : List Rec) (i : Nat) (t : List UInt8) (wr : World) : Prop :=
 RecsT (l.take i) t ∧ Kp (· = C) w wr ∧ Cho wr C (m + i)
set_option maxHeartbeats 1600000 in
theorem records_any (w : World) (C m D : Nat) (rv : Value) (l : List Rec) (hC : Cho w C m) (hm : m + l.length + 10 ≤ 1000000000000) (hl : RecsAt w D rv l) (hD : D ≤ C ∨ ∀ b o n c, rv = .slice (some ⟨b, o, none⟩) n c → b ≠ C) (hw : recsW l ≤ 600000) :
  Calls Tryz.prog 72 #[.pointer (some ⟨C, 0, none⟩), rv] w fun e w' => (∃ t, e = .returned (.string ⟨t.toArray⟩) ∧ RecsT l t) ∧ Kp (· = C) w w' ∧ Cho w' C (m + l.length) := by
 obtain ⟨A, c, rfl⟩ := hl.shape
 have LP : Hid (RcsSt w C m l 0 [] w) := ⟨by rw [sE]; exact .nil, Kp.refl _ _, hC⟩
 have HL := Lib.hid hl
 have HD := Lib.hid hD
 clear hl hC hD
 go_enter Tryz.func72, Tryz.ntmps72
 go_wp2_with fail
 go_loopg [5, 10] l.length (fun g s5 s10 wr => ∃ (i : Nat) (t : List UInt8), i + g = l.length ∧ s10 = .int .i64 i ∧ s5 = .string ⟨t.toArray⟩ ∧ t.length ≤ 700000 ∧ Hid (RcsSt w C m l i t wr))
 case atStart => exact ⟨0, [], by omega, rfl, rfl, by simp, LP⟩
 case round =>
  clear LP
  obtain ⟨i, t, hi, rfl, rfl, htl, hst⟩ := hrel
  by_cases hlt : i < l.length
  ·obtain ⟨x, hx⟩ : ∃ x, l[i]? = some x := ⟨_, List.getElem?_eq_getElem hlt⟩
   obtain ⟨b, o, c', hA, hbC, x1, x2⟩ := HL.out.get hx
   injection hA with hA1 hA2 hA3
   subst hA1 hA3
   have hbC' : ¬ b = C := by
    rcases HD.out with h | h
    ·omega
    ·exact h _ _ _ _ rfl
   have y1 : wr.cell? ⟨b, o + i * 2, none⟩ = some (.string ⟨x.1.toArray⟩) := hst.out.2.1.cell x1 hbC'
   have y2 : wr.cell? ⟨b, o + i * 2 + 1, none⟩ = some (.string ⟨x.2.toArray⟩) := hst.out.2.1.cell x2 hbC'
   have hxg : x = l[i] := by rw [List.getElem?_eq_getElem hlt] at hx; injection hx with hx; exact hx.symm
   have htk : l.take (i + 1) = l.take i ++ [x] := by rw [List.take_succ_eq_append_getElem hlt, hxg]
   clear hA2 x1 x2
   go_wp2_with fail
   have hsub : recsW (l.take (i + 1)) ≤ 600000 := by
    have e : recsW l = recsW (l.take (i + 1)) + recsW (l.drop (i + 1)) := by rw [← recsW_append, List.take_append_drop]
    omega
   have hone : recsW [x] ≤ 600000 := by
    rw [htk, recsW_append] at hsub
    omega
   have hxs : x.1.length + x.2.length ≤ 281474976710656 := by rw [recsW_cons] at hone; omega
   subst hxg
   have hz0 : (wr.alloc (.cells #[.string ⟨l[i].1.toArray⟩, .string ⟨l[i].2.toArray⟩] 136)).heap[wr.heap.size]? = some (.cells #[.string ⟨l[i].1.toArray⟩, .string ⟨l[i].2.toArray⟩] 136 (0, 0)) := heap_new wr _
   have ST : Hid (RcsSt w C m l i t (wr.alloc (.cells #[.string ⟨l[i].1.toArray⟩, .string ⟨l[i].2.toArray⟩] 136))) := by
    have k1 : Kp (fun _ => False) wr (wr.alloc (.cells #[.string ⟨l[i].1.toArray⟩, .string ⟨l[i].2.toArray⟩] 136)) := (Kp.refl _ _).alloc _
    exact ⟨hst.out.1, hst.out.2.1.then k1 (fun _ _ h => h.elim), hst.out.2.2.keep k1 (fun _ h => h.elim) (Nat.le_refl _)⟩
   have hCr : C < wr.heap.size := by obtain ⟨nv, a, h1, _⟩ := hst.out.2.2; exact lt_of h1
   have HTK := Lib.hid htk
   have HSUB := Lib.hid hsub
   have HONE := Lib.hid hone
   clear hst y1 y2 htk hsub hone
   generalize wr.alloc (.cells #[.string ⟨l[i].1.toArray⟩, .string ⟨l[i].2.toArray⟩] 136) = wq at hz0 ST ⊢
   have z0 : wq.cell? ⟨wr.heap.size, 0, none⟩ = some (.string ⟨l[i].1.toArray⟩) := cell_of hz0 0 rfl
   have z1 : wq.cell? ⟨wr.heap.size, 1, none⟩ = some (.string ⟨l[i].2.toArray⟩) := cell_of hz0 1 rfl
   have ecat : ∀ t2 : List UInt8, (⟨t.toArray⟩ : ByteArray) ++ ⟨t2.toArray⟩ = ⟨(t ++ t2).toArray⟩ := fun t2 => ba_app _ _
   clear hz0
   go_region_held3 (fun w' => w'.cell? ⟨wr.heap.size, 0, none⟩ = some (.string ⟨l[i].1.toArray⟩) ∧ w'.cell? ⟨wr.heap.size, 1, none⟩ = some (.string ⟨l[i].2.toArray⟩))
    (first | (exact ⟨z0, z1⟩) | (exact ⟨hk2.cell z0 (by show ¬ wr.heap.size = C; omega), hk2.cell z1 (by show ¬ wr.heap.size = C; omega)⟩) | (exact ⟨hk3.cell (hk2.cell z0 (by show ¬ wr.heap.size = C; omega)) (fun h => h), hk3.cell (hk2.cell z1 (by show ¬ wr.heap.size = C; omega)) (fun h => h)⟩))
    (first
     | (go_at_call 39; refine (of_any _ C (m + i) 2 (ST.out.2.2.keep ((Kp.refl (fun _ => False) _).drew) (fun _ h => h.elim) (Nat.le_refl _)) (by omega) (by omega)).mono ?_; rintro e w2 ⟨⟨v2, hv2, rfl⟩, hk2, hc2⟩)
     | (go_at_call 117; refine (putRecord_any _ l[i] _ hxs).mono ?_; rintro e w3 ⟨⟨t2, rfl, hrt⟩, hk3⟩; have ht2 : t2.length ≤ 600000 := recsT_small (rs := [l[i]]) (by have := RecsT.cons hrt .nil; simpa using this) HONE.out; have hcat1 : ¬ 9223372036854775807 < t.length + t2.length := (by omega)))
   have NX : Hid (RcsSt w C m l (i + 1) (t ++ t2) w3) := ⟨by rw [HTK.out]; exact ST.out.1.snoc hrt, ((ST.out.2.1.drew).trans hk2).then hk3 (fun _ _ h => h.elim), hc2.keep hk3 (fun _ h => h.elim) (by omega)⟩
   have htl2 : (t ++ t2).length ≤ 700000 := by
    have := recsT_small NX.out.1 HSUB.out
    omega
   rename_i hHeld
   clear hHeld hk2 hc2 hrt hk3 ST z0 z1
   go_wp2_with fail
   go_roundg (gk - 1)
   case measure => omega
   case rel => exact ⟨i + 1, t ++ t2, by omega, by simp, rfl, htl2, NX⟩
  ·obtain rfl : i = l.length := by omega
   have FIN : Hid ((∃ t', Ending.returned (.string ⟨t.toArray⟩) = .returned (.string ⟨t'.toArray⟩) ∧ RecsT l t') ∧ Kp (· = C) w wr ∧ Cho wr C (m + l.length)) := by
    obtain ⟨h1, h2, h3⟩ := hst.out
    rw [List.take_length] at h1
    exact ⟨⟨t, rfl, h1⟩, h2, h3⟩
   clear hst
   go_wp2_with fail
   go_ret
   exact FIN.out
structure TldSt (w0 : World) (C m : Nat) (h : Hd) (rv : Value) (l : List Rec) (w : World) : Prop where
 cho : Cho w C m
 cp : w.heap[w0.heap.size]? = some (.cells #[.pointer (some ⟨C, 0, none⟩)] 83 (0, 0))
 hdr : w.heap[w0.heap.size + 1]? = some (.cells (sRow h rv).toArray 45 (0, 0))
 lv : ∃ v, w.heap[w0.heap.size + 2]? = some (.cells #[v] 43 (0, 0)) ∧ OwnR 136 w (w0.heap.size + 3) v l
 kp : Kp (· = C) w0 w
theorem TldSt.grow {w0 w w' : World} {C m : Nat} {h : Hd} {rv : Value} {l : List Rec} (s : TldSt w0 C m h rv l w) (k : Kp (fun _ => False) w w') : TldSt w0 C m h rv l w' := by
 obtain ⟨v, h1, h2⟩ := s.lv
 exact ⟨s.cho.keep k (fun _ h => h.elim) (Nat.le_refl _), k.heap s.cp (fun h => h), k.heap s.hdr (fun h => h), ⟨v, k.heap h1 (fun h => h), h2.keep k (fun _ _ h => h)⟩, s.kp.then k (fun _ _ h => h.elim)⟩
theorem TldSt.chose {w0 w w' : World} {C m m' : Nat} {h : Hd} {rv : Value} {l : List Rec} (s : TldSt w0 C m h rv l w) (hC : C < w0.heap.size) (k : Kp (· = C) w w') (hc : Cho w' C m') : TldSt w0 C m' h rv l w' := by
 obtain ⟨v, h1, h2⟩ := s.lv
 exact ⟨hc, k.heap s.cp (by omega), k.heap s.hdr (by omega), ⟨v, k.heap h1 (by omega), h2.keep k (fun b hb e => by have := (h2.block hb).1; omega)⟩, s.kp.trans k⟩
theorem TldSt.more {w0 w : World} {C m m' : Nat} {h : Hd} {rv : Value} {l : List Rec} (s : TldSt w0 C m h rv l w) (hm : m ≤ m') : TldSt w0 C m' h rv l w :=
 ⟨s.cho.keep (Kp.refl (fun _ => False) _) (fun _ h => h.elim) hm, s.cp, s.hdr, s.lv, s.kp⟩
def AddOk (l : List Rec) (k v : List UInt8) (must : Bool) (l' : List Rec) : Prop := l' = l ++ [(k, v)] ∧ v ≠ [] ∨ l' = l ∧ (v = [] ∨ must = false)
theorem TldSt.add {w0 w : World} {C m : Nat} {h : Hd} {rv : Value} {l : List Rec} (s : TldSt w0 C m h rv l w) (hC : C < w0.heap.size) (r : Rec) (hl : l.length ≤ 4294967295) (lv : Value) (hlv : w.cell? ⟨w0.heap.size + 2, 0, none⟩ = some lv) :
  ∃ A2 n2 q2 w2, (Builtin.append_ #[43, 43] 43 #[lv, .slice (some ⟨w.heap.size, 0, none⟩) 1 1]).run Tryz.prog (w.alloc (.cells #[.string ⟨r.1.toArray⟩, .string ⟨r.2.toArray⟩] 136)) = .ok (.slice A2 n2 q2) w2 ∧
   w2.cell? ⟨w0.heap.size + 2, 0, none⟩ = some lv ∧ w2.frozen? ⟨w0.heap.size + 2, 0, none⟩ = false ∧ TldSt w0 C m h rv (l ++ [r]) (w2.setCell ⟨w0.heap.size + 2, 0, none⟩ (.slice A2 n2 q2)) := by
 obtain ⟨v, h1, h2⟩ := s.lv
 have e : v = lv := by
  have := cell_of h1 0 (v := v) rfl
  rw [hlv] at this
  injection this with this
  exact this.symm
 subst e
 have hH : w0.heap.size + 3 ≤ w.heap.size := by have := lt_of h1; omega
 obtain ⟨v2, w2, hr, ho, hk⟩ := app_rec_ex (ty := 43) w infoS (w0.heap.size + 3) v l r h2 (by omega) hH
 obtain ⟨A2, q2, rfl⟩ := ho.at_.shape
 have kw := h2.wide hk
 have g1 := kw.heap h1 (by omega)
 have ks : Kp (· = w0.heap.size + 2) w2 (w2.setCell ⟨w0.heap.size + 2, 0, none⟩ (.slice A2 (l ++ [r]).length q2)) := Kp.setCell (S := (· = w0.heap.size + 2)) (p := ⟨w0.heap.size + 2, 0, none⟩) (Kp.refl _ w2) (.inl rfl) _
 refine ⟨A2, _, q2, w2, hr, cell_of g1 0 rfl, free_of g1 0, (s.cho.keep kw (fun i hi => by omega) (Nat.le_refl _)).keep ks (fun i hi => by omega) (Nat.le_refl _), ks.heap (kw.heap s.cp (by omega)) (by omega), ks.heap (kw.heap s.hdr (by omega)) (by omega), ⟨_, ?_, ho.keep ks (fun b hb e => by have := (ho.block hb).1; omega)⟩, (s.kp.then kw (fun i hi e => by omega)).then ks (fun i hi e => by omega)⟩
 have := heap_set g1 0 (.slice A2 (l ++ [r]).length q2)
 simpa using this
set_option maxHeartbeats 1600000 in
theorem add_any (w0 w : World) (C m : Nat) (h : Hd) (rv : Value) (l : List Rec) (k v : List UInt8) (must : Bool) (hC : C < w0.heap.size) (hs : TldSt w0 C m h rv l w) (hm : m + 10 ≤ 1000000000000) (hl : l.length ≤ 4294967295) :
  Calls Tryz.prog 118 #[.string ⟨k.toArray⟩, .string ⟨v.toArray⟩, .bool must, .pointer (some ⟨w0.heap.size, 0, none⟩), .pointer (some ⟨w0.heap.size + 2, 0, none⟩)] w fun e w' =>
   e = .returned (.tuple #[]) ∧ Hid (∃ l', AddOk l k v must l' ∧ TldSt w0 C (m + 1) h rv l' w') := by
 have HS := Lib.hid hs
 have c0 : w.cell? ⟨w0.heap.size, 0, none⟩ = some (.pointer (some ⟨C, 0, none⟩)) := cell_of hs.cp 0 rfl
 obtain ⟨lv, hlv, hown⟩ := hs.lv
 have c1 : w.cell? ⟨w0.heap.size + 2, 0, none⟩ = some lv := cell_of hlv 0 rfl
 have HOWN := Lib.hid hown
 have HLV := Lib.hid hlv
 clear hs hlv hown
 cases v with
 | nil =>
  have FIN : Hid (∃ l', AddOk l k [] must l' ∧ TldSt w0 C (m + 1) h rv l' w) := ⟨l, .inr ⟨rfl, .inl rfl⟩, HS.out.more (by omega)⟩
  clear HS
  go_enter Tryz.func118, Tryz.ntmps118
  go_wp2_with fail
  go_end0
  exact ⟨rfl, FIN.out⟩
 | cons x xs =>
  cases must with
  | true =>
   obtain ⟨A2, n2, q2, w2, hr2, y1, y2, hst⟩ := HS.out.add hC (k, x :: xs) hl lv c1
   have HR2 := Lib.hid hr2
   have FIN : Hid (∃ l', AddOk l k (x :: xs) true l' ∧ TldSt w0 C (m + 1) h rv l' (w2.setCell ⟨w0.heap.size + 2, 0, none⟩ (.slice A2 n2 q2))) := ⟨_, .inl ⟨rfl, by simp⟩, hst.more (by omega)⟩
   clear HS HOWN HLV hr2 hst
   go_enter Tryz.func118, Tryz.ntmps118
   go_wp2_with (at_builtin; refine Lib.wpList_append_run _ rfl _ _ _ _ rfl _ _ rfl rfl _ _ HR2.out ?_)
   go_end0
   exact ⟨rfl, FIN.out⟩
  | false =>
   go_enter Tryz.func118, Tryz.ntmps118
   go_wp2_with fail
   refine (of_any w C m 3 HS.out.cho (by omega) (by omega)).mono ?_
   rintro e w1 ⟨⟨n, hn, rfl⟩, hk1, hc1⟩
   have S1 := HS.out.chose hC hk1 hc1
   have c1' : w1.cell? ⟨w0.heap.size + 2, 0, none⟩ = some lv := hk1.cell c1 (by show ¬ w0.heap.size + 2 = C; omega)
   by_cases hn0 : n = 0
   ·subst hn0
    obtain ⟨A2, n2, q2, w2, hr2, y1, y2, hst⟩ := S1.add hC (k, x :: xs) hl lv c1'
    have HR2 := Lib.hid hr2
    have FIN : Hid (∃ l', AddOk l k (x :: xs) false l' ∧ TldSt w0 C (m + 1) h rv l' (w2.setCell ⟨w0.heap.size + 2, 0, none⟩ (.slice A2 n2 q2))) := ⟨_, .inl ⟨rfl, by simp⟩, hst⟩
    clear HS HOWN HLV hr2 hst S1 hk1 hc1
    dsimp only
    rename_i K hK
    refine hK _ _ ?_
    clear hK
    go_wp2_with (at_builtin; refine Lib.wpList_append_run _ rfl _ _ _ _ rfl _ _ rfl rfl _ _ HR2.out ?_)
    go_end0
    exact ⟨rfl, FIN.out⟩
   ·have hd : ((n : Int) == 0) = false := by rw [beq_eq_false_iff_ne]; omega
    have FIN : Hid (∃ l', AddOk l k (x :: xs) false l' ∧ TldSt w0 C (m + 1) h rv l' w1) := ⟨l, .inr ⟨rfl, .inr rfl⟩, S1⟩
    clear HS HOWN HLV S1 hk1 hc1
    go_wp2_with fail
    go_end0
    exact ⟨rfl, FIN.out⟩
structure TldL (w0 : World) (C m : Nat) (h : Hd) (rv : Value) (l : List Rec) (g cap : Nat) (w : World) : Prop where
 st : TldSt w0 C m h rv l w
 lv : w.heap[w0.heap.size + 2]? = some (.cells #[.slice (some ⟨g, 0, none⟩) l.length cap] 43 (0, 0))
 own : OwnR 136 w (w0.heap.size + 3) (.slice (some ⟨g, 0, none⟩) l.length cap) l
theorem TldSt.open {w0 w : World} {C m : Nat} {h : Hd} {rv : Value} {l : List Rec} (s : TldSt w0 C m h rv l w) (hl : l ≠ []) : ∃ g cap, TldL w0 C m h rv l g cap w := by
 obtain ⟨v, h1, h2⟩ := s.lv
 rcases h2.shape with ⟨_, e⟩ | ⟨g, cap, rfl, _⟩
 ·exact absurd e hl
 ·exact ⟨g, cap, s, h1, h2⟩
theorem TldL.set {w0 w : World} {C m g cap i : Nat} {h : Hd} {rv : Value} {l : List Rec} (s : TldL w0 C m h rv l g cap w) (hC : C < w0.heap.size) (hi : i < l.length) (r : Rec) :
  TldL w0 C m h rv (l.set i r) g cap ((w.setCell ⟨g, i * 2, none⟩ (.string ⟨r.1.toArray⟩)).setCell ⟨g, i * 2 + 1, none⟩ (.string ⟨r.2.toArray⟩)) := by
 have hb := s.own.block (b := g) rfl
 have k : Kp (· = g) w ((w.setCell ⟨g, i * 2, none⟩ (.string ⟨r.1.toArray⟩)).setCell ⟨g, i * 2 + 1, none⟩ (.string ⟨r.2.toArray⟩)) :=
  Kp.setCell (S := (· = g)) (p := ⟨g, i * 2 + 1, none⟩) (Kp.setCell (S := (· = g)) (p := ⟨g, i * 2, none⟩) (Kp.refl _ w) (.inl rfl) _) (.inl rfl) _
 have o := s.own.set hi r
 have hl : (l.set i r).length = l.length := List.length_set
 have lv' := k.heap s.lv (by omega)
 rw [← hl] at o lv'
 exact ⟨⟨s.st.cho.keep k (fun j hj => by omega) (Nat.le_refl _), k.heap s.st.cp (by omega), k.heap s.st.hdr (by omega), ⟨_, lv', o⟩, s.st.kp.then k (fun j hj e => by omega)⟩, lv', o⟩
theorem TldL.c0 {w0 w : World} {C m g cap i : Nat} {h : Hd} {rv : Value} {l : List Rec} {r : Rec} (s : TldL w0 C m h rv l g cap w) (hr : l[i]? = some r) : w.cell? ⟨g, i * 2, none⟩ = some (.string ⟨r.1.toArray⟩) := s.own.cell0 hr
theorem TldL.c1 {w0 w : World} {C m g cap i : Nat} {h : Hd} {rv : Value} {l : List Rec} {r : Rec} (s : TldL w0 C m h rv l g cap w) (hr : l[i]? = some r) : w.cell? ⟨g, i * 2 + 1, none⟩ = some (.string ⟨r.2.toArray⟩) := s.own.cell1 hr
theorem swap_perm (l : List Rec) (i k : Nat) (hi : i < l.length) (hk : k < l.length) : ((l.set i l[k]).set k l[i]).Perm l := List.set_set_perm hi hk
theorem app_rec_at (w : World) {T ST ty : TypeId} (I : InfoR T ST) (base : Nat) (v : Value) (xs : List Rec) (r : Rec) (hown : OwnR T w base v xs) (hlen : xs.length ≤ 4294967296) (hbase : base ≤ w.heap.size) :
  ∃ v' w', (Builtin.append_ #[ST, ST] ty #[v, .slice (some ⟨w.heap.size, 0, none⟩) 1 1]).run Tryz.prog (w.alloc (.cells #[.string ⟨r.1.toArray⟩, .string ⟨r.2.toArray⟩] T)) = .ok v' w' ∧ OwnR T w' base v' (xs ++ [r]) ∧ Kp (fun k => some k = v.ownBlock) w w' ∧
   (v'.ownBlock = v.ownBlock ∨ v'.ownBlock = some (w.heap.size + 1)) := by
 obtain ⟨i0, hi, hz, hsz, hby⟩ := I.info
 have k1 : Kp (fun _ => False) w (w.alloc (.cells #[.string ⟨r.1.toArray⟩, .string ⟨r.2.toArray⟩] T)) := (Kp.refl _ _).alloc _
 have hs1 : (w.alloc (.cells #[.string ⟨r.1.toArray⟩, .string ⟨r.2.toArray⟩] T)).heap.size = w.heap.size + 1 := by show (w.heap.push _).size = _; simp
 have hown' : OwnR T (w.alloc (.cells #[.string ⟨r.1.toArray⟩, .string ⟨r.2.toArray⟩] T)) base v xs := hown.keep k1 (fun _ _ h => h)
 have h0 : (w.alloc (.cells #[.string ⟨r.1.toArray⟩, .string ⟨r.2.toArray⟩] T)).cell? ⟨w.heap.size, 0, none⟩ = some (strv r.1) := cell_of (heap_new w _) 0 rfl
 have h1 : (w.alloc (.cells #[.string ⟨r.1.toArray⟩, .string ⟨r.2.toArray⟩] T)).cell? ⟨w.heap.size, 1, none⟩ = some (strv r.2) := cell_of (heap_new w _) 1 rfl
 obtain ⟨v', w', hr, h2, h3, h4, h5⟩ := run_append_own_at (P := Tryz.prog) (w.alloc (.cells #[.string ⟨r.1.toArray⟩, .string ⟨r.2.toArray⟩] T)) base ST ty T i0 _ 2 32 I.und hi hz hsz hby rfl (by omega) v xs.length (recCells xs) hown' ⟨w.heap.size, 0, none⟩ 1 1 (recCells [r]) rfl
  (fun j u hu => by
   match j, hu with
   | 0, hu => injection hu with hu; rw [← hu]; exact h0
   | 1, hu => injection hu with hu; rw [← hu]; exact h1
   | j + 2, hu => cases hu)
  (recCells_one _) (by simp only [maxLen]; omega) (by omega) (by rw [hs1]; omega)
 rw [hs1] at h5
 refine ⟨v', w', hr, ?_, (k1.mono (fun _ _ h => h.elim)).trans (Kp.of_grownBy h3), h5⟩
 unfold OwnR
 rw [recCells_append, List.length_append]
 exact h2
structure TldG (w0 : World) (C m : Nat) (h : Hd) (rv : Value) (l : List Rec) (F : Nat → Prop) (w : World) : Prop where
 st : TldSt w0 C m h rv l w
 ne : ∀ v, w.heap[w0.heap.size + 2]? = some (.cells #[v] 43 (0, 0)) → ∀ b, F b → v.ownBlock ≠ some b
 lt : ∀ b, F b → b < w.heap.size
 low : ∀ b, F b → w0.heap.size + 3 ≤ b
theorem TldG.add {w0 w : World} {C m : Nat} {F : Nat → Prop} {h : Hd} {rv : Value} {l : List Rec} (s : TldG w0 C m h rv l F w) (hC : C < w0.heap.size) (r : Rec) (hl : l.length ≤ 4294967295) (lv : Value) (hlv : w.cell? ⟨w0.heap.size + 2, 0, none⟩ = some lv) :
  ∃ A2 q2 w2, (Builtin.append_ #[43, 43] 43 #[lv, .slice (some ⟨w.heap.size, 0, none⟩) 1 1]).run Tryz.prog (w.alloc (.cells #[.string ⟨r.1.toArray⟩, .string ⟨r.2.toArray⟩] 136)) = .ok (.slice A2 (l.length + 1) q2) w2 ∧
   w2.cell? ⟨w0.heap.size + 2, 0, none⟩ = some lv ∧ w2.frozen? ⟨w0.heap.size + 2, 0, none⟩ = false ∧ TldG w0 C m h rv (l ++ [r]) F (w2.setCell ⟨w0.heap.size + 2, 0, none⟩ (.slice A2 (l.length + 1) q2)) ∧
   Kp (fun i => ¬ F i ∧ w0.heap.size + 2 ≤ i) w (w2.setCell ⟨w0.heap.size + 2, 0, none⟩ (.slice A2 (l.length + 1) q2)) := by
 obtain ⟨v, h1, h2⟩ := s.st.lv
 have e : v = lv := by
  have := cell_of h1 0 (v := v) rfl
  rw [hlv] at this
  injection this with this
  exact this.symm
 subst e
 have hH : w0.heap.size + 3 ≤ w.heap.size := by have := lt_of h1; omega
 obtain ⟨v2, w2, hr, ho, hk, hb⟩ := app_rec_at (ty := 43) w infoS (w0.heap.size + 3) v l r h2 (by omega) hH
 obtain ⟨A2, q2, rfl⟩ := ho.at_.shape
 rw [List.length_append, List.length_singleton] at hr ho hb
 have kw := h2.wide hk
 have g1 := kw.heap h1 (by omega)
 have ks : Kp (· = w0.heap.size + 2) w2 (w2.setCell ⟨w0.heap.size + 2, 0, none⟩ (.slice A2 (l.length + 1) q2)) := Kp.setCell (S := (· = w0.heap.size + 2)) (p := ⟨w0.heap.size + 2, 0, none⟩) (Kp.refl _ w2) (.inl rfl) _
 have g2 := heap_set g1 0 (.slice A2 (l.length + 1) q2)
 have hne := s.ne v h1
 refine ⟨A2, q2, w2, hr, cell_of g1 0 rfl, free_of g1 0, ⟨⟨(s.st.cho.keep kw (fun i hi => by omega) (Nat.le_refl _)).keep ks (fun i hi => by omega) (Nat.le_refl _), ks.heap (kw.heap s.st.cp (by omega)) (by omega), ks.heap (kw.heap s.st.hdr (by omega)) (by omega), ⟨_, by simpa using g2, ho.keep ks (fun b hb e => by have := (ho.block hb).1; omega)⟩, (s.st.kp.then kw (fun i hi e => by omega)).then ks (fun i hi e => by omega)⟩, ?_, ?_, s.low⟩, ?_⟩
 ·intro u hu bf hbf
  have e2 : u = .slice A2 (l.length + 1) q2 := by
   have := cell_of hu 0 (v := u) rfl
   have h3 := cell_of g2 0 (v := .slice A2 (l.length + 1) q2) rfl
   rw [h3] at this
   injection this with this
   exact this.symm
  subst e2
  rcases hb with hb | hb
  ·rw [hb]; exact hne bf hbf
  ·rw [hb]; intro e3; injection e3 with e3; have := s.lt bf hbf; omega
 ·intro bf hbf; have := ks.size; have := kw.size; have := s.lt bf hbf; omega
 ·refine (hk.mono (S' := fun i => ¬ F i ∧ w0.heap.size + 2 ≤ i) fun i _ hi => ⟨?_, ?_⟩).then ks (fun i hi e => ⟨fun hf => by have := s.low i hf; omega, by omega⟩)
  ·intro hf; exact hne i hf hi.symm
  ·have := (h2.block hi.symm).1; omega
theorem copy_shift_ex (w : World) {T ST ty : TypeId} (I : InfoR T ST) (base g cap k : Nat) (l : List Rec) (z : Rec) (hown : OwnR T w base (.slice (some ⟨g, 0, none⟩) (l.length + 1) cap) (l ++ [z])) (hk : k ≤ l.length) (c1 c2 : Nat) :
  ∃ w', (Builtin.copy_ #[ST, ST] ty #[.slice (some ⟨g, (k + 1) * 2, none⟩) (l.length - k) c1, .slice (some ⟨g, k * 2, none⟩) (l.length + 1 - k) c2]).run Tryz.prog w = .ok (goInt (l.length - k : Nat)) w' ∧
   OwnR T w' base (.slice (some ⟨g, 0, none⟩) (l.length + 1) cap) ((l ++ [z]).take (k + 1) ++ l.drop k) ∧ Kp (fun i => i = g) w w' := by
 obtain ⟨i0, hi, hz, hsz, hby⟩ := I.info
 have hbg := (hown.block rfl).1
 obtain ⟨hn, cur, h1, h2, h3, h4⟩ := hown.row
 have hcs : (recCells (l.drop k)).length = (l.length - k) * 2 := by rw [recCells_len, List.length_drop]
 have hmin : Nat.min (l.length + 1 - k) (l.length - k) = l.length - k := Nat.min_eq_right (by omega)
 have hl := run_loadCells_list (P := Tryz.prog) w ⟨g, k * 2, none⟩ (recCells (l.drop k)) (fun j v hv => by
  have hj : j < (l.length - k) * 2 := by rw [← hcs]; exact (List.getElem?_eq_some_iff.1 hv).1
  rw [add_plain']
  refine cell_of h1 _ ?_
  rw [List.getElem?_toArray, List.getElem?_append_left (by rw [recCells_len, List.length_append, List.length_singleton]; omega), recCells_append, List.getElem?_append_left (by rw [recCells_len]; omega)]
  rw [← recCells_drop, List.getElem?_drop] at hv
  exact hv)
 have hst := run_storeCells_at Tryz.prog g ((k + 1) * 2) T (recCells (l.drop k)) 0 _ w h1 (by rw [hcs]; simp only [List.size_toArray]; rw [h4]; simp only [List.length_append, List.length_singleton] at h2; omega) (recCells_one _)
 have hcell : List.take ((k + 1) * 2 + 0) (recCells (l ++ [z]) ++ cur).toArray.toList ++ recCells (l.drop k) ++ List.drop ((k + 1) * 2 + 0 + (recCells (l.drop k)).length) (recCells (l ++ [z]) ++ cur).toArray.toList = recCells ((l ++ [z]).take (k + 1) ++ l.drop k) ++ cur := by
  have hlz : (recCells (l ++ [z])).length = (k + 1) * 2 + (l.length - k) * 2 := by rw [recCells_len, List.length_append, List.length_singleton]; omega
  rw [Nat.add_zero, hcs, ← hlz, recCells_append ((l ++ [z]).take (k + 1)), ← recCells_take (l ++ [z]) (k + 1)]
  show List.take ((k + 1) * 2) (recCells (l ++ [z]) ++ cur) ++ recCells (l.drop k) ++ List.drop (recCells (l ++ [z])).length (recCells (l ++ [z]) ++ cur) = _
  rw [List.drop_left, List.take_append_of_le_length (by rw [hlz]; omega)]
 rw [hcell] at hst
 refine ⟨w.setRow g (recCells ((l ++ [z]).take (k + 1) ++ l.drop k) ++ cur).toArray, ?_, ?_, Kp.setRow (S := (· = g)) (Kp.refl _ _) (.inl rfl) _⟩
 ·have hst' : (storeCells ⟨g, (k + 1) * 2, none⟩ (recCells (l.drop k))).run Tryz.prog w = .ok () (w.setRow g (recCells ((l ++ [z]).take (k + 1) ++ l.drop k) ++ cur).toArray) := hst
  simp [Builtin.copy_, run_underlying I.und, Builtin.lenOf, Builtin.firstCells, sizeOf, typeInfo, hi, hsz, hmin, ← hcs, hl, hst']
 ·have hlen : ((l ++ [z]).take (k + 1) ++ l.drop k).length = l.length + 1 := by rw [List.length_append, List.length_take, List.length_drop, List.length_append, List.length_singleton]; omega
  have := OwnR.of_row (T := T) (l := (l ++ [z]).take (k + 1) ++ l.drop k) (cap := cap) cur hbg (setRow_heap w g _ (recCells ((l ++ [z]).take (k + 1) ++ l.drop k) ++ cur).toArray T (0, 0) h1) (by rw [hlen]; rw [List.length_append, List.length_singleton] at h2; exact h2) h3 (by
   rw [← h4, List.length_append, List.length_append, recCells_len, recCells_len, hlen, List.length_append, List.length_singleton])
  rw [hlen] at this
  exact this
theorem ins_perm (l : List Rec) (z r : Rec) (k : Nat) (hk : k ≤ l.length) : (((l ++ [z]).take (k + 1) ++ l.drop k).set k r).Perm (r :: l) := by
 have hkz : k < (l ++ [z]).length := by rw [List.length_append, List.length_singleton]; omega
 have e : ((l ++ [z]).take (k + 1) ++ l.drop k).set k r = l.take k ++ r :: l.drop k := by
  have h2 : (l ++ [z]).take k = l.take k := List.take_append_of_le_length hk
  have h3 : (l.take k).length = k := by rw [List.length_take]; omega
  rw [List.take_succ_eq_append_getElem hkz, h2, List.append_assoc, List.set_append_right _ _ (by omega), h3, Nat.sub_self]
  rfl
 rw [e]
 have := List.perm_middle (a := r) (l₁ := l.take k) (l₂ := l.drop k)
 rw [List.take_append_drop] at this
 exact this
theorem slotv {w : World} {b : Nat} {u v : Value} (h : w.heap[b]? = some (.cells #[u] 43 (0, 0))) (k : w.heap[b]? = some (.cells #[v] 43 (0, 0))) : u = v := by
 have h1 := cell_of h 0 (v := u) rfl
 have h2 := cell_of k 0 (v := v) rfl
 rw [h1] at h2
 injection h2
theorem TldG.grow {w0 w w' : World} {C m : Nat} {F : Nat → Prop} {h : Hd} {rv : Value} {l : List Rec} (s : TldG w0 C m h rv l F w) (k : Kp (fun _ => False) w w') : TldG w0 C m h rv l F w' := by
 obtain ⟨v, h1, h2⟩ := s.st.lv
 refine ⟨s.st.grow k, fun u hu b hb => ?_, fun b hb => Nat.lt_of_lt_of_le (s.lt b hb) k.size, s.low⟩
 rw [slotv hu (k.heap h1 (fun h => h))]
 exact s.ne v h1 b hb
theorem TldG.chose {w0 w w' : World} {C m m' : Nat} {F : Nat → Prop} {h : Hd} {rv : Value} {l : List Rec} (s : TldG w0 C m h rv l F w) (hC : C < w0.heap.size) (k : Kp (· = C) w w') (hc : Cho w' C m') : TldG w0 C m' h rv l F w' := by
 obtain ⟨v, h1, h2⟩ := s.st.lv
 refine ⟨s.st.chose hC k hc, fun u hu b hb => ?_, fun b hb => Nat.lt_of_lt_of_le (s.lt b hb) k.size, s.low⟩
 rw [slotv hu (k.heap h1 (by omega))]
 exact s.ne v h1 b hb
theorem TldG.new {w0 w : World} {C m : Nat} {F : Nat → Prop} {h : Hd} {rv : Value} {l : List Rec} (s : TldG w0 C m h rv l F w) (o : Obj) : TldG w0 C m h rv l (fun b => F b ∨ b = w.heap.size) (w.alloc o) := by
 have g := s.grow ((Kp.refl _ _).alloc o)
 have hsz : (w.alloc o).heap.size = w.heap.size + 1 := by show (w.heap.push _).size = _; simp
 obtain ⟨v, h1, h2⟩ := s.st.lv
 have hH := lt_of h1
 refine ⟨g.st, fun u hu b hb => ?_, fun b hb => ?_, fun b hb => ?_⟩
 ·rcases hb with hb | rfl
  ·exact g.ne u hu b hb
  ·rw [slotv hu (heap_alloc h1 o)]
   intro e
   have := (h2.block e).2
   omega
 ·rcases hb with hb | rfl
  ·exact g.lt b hb
  ·omega
 ·rcases hb with hb | rfl
  ·exact s.low b hb
  ·omega
theorem TldG.row {w0 w w' : World} {C m g cap : Nat} {F : Nat → Prop} {h : Hd} {rv : Value} {l l' : List Rec} (s : TldG w0 C m h rv l F w) (hC : C < w0.heap.size) (hv : w.heap[w0.heap.size + 2]? = some (.cells #[.slice (some ⟨g, 0, none⟩) l.length cap] 43 (0, 0)))
  (k : Kp (· = g) w w') (o : OwnR 136 w' (w0.heap.size + 3) (.slice (some ⟨g, 0, none⟩) l.length cap) l') (hl : l'.length = l.length) (hg : w0.heap.size + 3 ≤ g) : TldG w0 C m h rv l' F w' := by
 have hv' := k.heap hv (by omega)
 refine ⟨⟨s.st.cho.keep k (fun i hi => by omega) (Nat.le_refl _), k.heap s.st.cp (by omega), k.heap s.st.hdr (by omega), ⟨_, hv', o⟩, s.st.kp.then k (fun i hi e => by omega)⟩, fun u hu b hb => ?_, fun b hb => Nat.lt_of_lt_of_le (s.lt b hb) k.size, s.low⟩
 rw [slotv hu hv']
 exact s.ne _ hv b hb
theorem TldG.own {w0 w : World} {C m : Nat} {F : Nat → Prop} {h : Hd} {rv : Value} {l : List Rec} (s : TldG w0 C m h rv l F w) (hl : l ≠ []) :
  ∃ g cap, w.heap[w0.heap.size + 2]? = some (.cells #[.slice (some ⟨g, 0, none⟩) l.length cap] 43 (0, 0)) ∧ OwnR 136 w (w0.heap.size + 3) (.slice (some ⟨g, 0, none⟩) l.length cap) l ∧ w0.heap.size + 3 ≤ g ∧ ¬ F g ∧ l.length ≤ cap ∧ cap ≤ maxLen := by
 obtain ⟨g, cap, t⟩ := s.st.open hl
 obtain ⟨_, cur, _, h2, h3, _⟩ := t.own.row
 exact ⟨g, cap, t.lv, t.own, (t.own.block rfl).1, fun hf => s.ne _ t.lv g hf rfl, h2, h3⟩
end Go.Proofs.YtgfcnjfmmjcodaaGreatDoor
