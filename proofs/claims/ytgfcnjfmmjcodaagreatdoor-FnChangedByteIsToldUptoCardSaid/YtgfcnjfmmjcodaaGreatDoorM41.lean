/- The walk of the law. -/
import Derived.Test.YtgfcnjfmmjcodaaGreatDoorM39
import Derived.Test.YtgfcnjfmmjcodaaGreatDoorM40
set_option linter.all false
set_option maxRecDepth 100000
set_option maxHeartbeats 1000000
open Go.Lib (hid)
namespace Go.Proofs.YtgfcnjfmmjcodaaGreatDoor
open Go Go.RowKit
theorem recsT_count {rs : List Rec} {t : List UInt8} (h : RecsT rs t) : rs.length ≤ t.length := by
 induction h with
 | nil => exact Nat.zero_le _
 | @cons r rs t ts h hs ih =>
  have := recT_len h
  rw [List.length_cons, List.length_append]
  omega
def OutRecs : Out → Prop
 | .file _ pax _ => ∀ rs, pax = some rs → rs.length ≤ 1048576
 | .glob _ rs _ _ => rs.length ≤ 1048576
 | .fail _ => True
theorem HeadP.recs {nb pad : Nat} {pax : Option (List Rec)} {ln ll src : List UInt8} {out : Out} (h : HeadP nb pad pax ln ll src out) : (∀ rs, pax = some rs → rs.length ≤ 1048576) → OutRecs out := by
 induction h with
 | file => exact fun hp => hp
 | glob d p l t rest h0 fm rs hd hp hl hb ht hs hr hk htl => exact fun _ => Nat.le_trans (recsT_count hr) htl
 | pax d p l t rest h0 fm rs hd hp hl hb ht hs hr htl hk h ih => exact fun _ => ih (fun rs e => by injection e with e; subst e; exact Nat.le_trans (recsT_count hr) htl)
 | name d p l s rest h0 fm hd hp hl hb ht hs hz htl h ih => exact ih
 | link d p l s rest h0 fm hd hp hl hb ht hs hz htl h ih => exact ih
 | end_ => exact fun _ => trivial
 | bad => exact fun _ => trivial
 | cutData => exact fun _ => trivial
 | cutPad => exact fun _ => trivial
 | cutNone => exact fun _ => trivial
 | cutBlk => exact fun _ => trivial
 | cutEnd => exact fun _ => trivial
 | cutMeta => exact fun _ => trivial
def OutTimes : Out → Prop
 | .file h _ _ => TimesOk h
 | _ => True
theorem odd_not {s n : Int} (h : ¬ odd s n) : (0 ≤ n ∧ n < 1000000000) ∧ ¬ (s = -62135596800 ∧ n = 0) := by
 unfold odd at h
 omega
theorem timesOk_of {h2 h : Hd} {f : Int} (s : SameH h2 h) (c : CanP h f) : TimesOk h2 := by
 have m := odd_not c.sane.mod
 have hm := c.mod
 refine ⟨⟨by rw [s.mod.2]; exact m.1, by rw [s.mod.1]; omega⟩, fun e => ?_, fun e => ?_⟩
 ·rw [s.acc.1] at e
  have a := odd_not (c.sane.acc e)
  have b := c.acc e
  obtain ⟨e1, e2⟩ := s.acc.2 e
  rw [e1, e2]
  exact ⟨a.1, by omega, a.2⟩
 ·rw [s.chg.1] at e
  have a := odd_not (c.sane.chg e)
  have b := c.chg e
  obtain ⟨e1, e2⟩ := s.chg.2 e
  rw [e1, e2]
  exact ⟨a.1, by omega, a.2⟩
theorem outTimes_of {h : Hd} {data tail : List UInt8} {out : Out} (ho : OutOk h data tail out) (hp : FileP (h, data)) : OutTimes out := by
 rcases ho with ⟨h2, pax, rfl, ht, hs, _⟩ | ⟨rs, n, ht, rfl, _⟩
 ·rcases hp with ⟨hg, _⟩ | ⟨_, _, hc, _⟩
  ·exact absurd hg.typ ht
  ·exact timesOk_of hs hc
 ·exact trivial
theorem paxM_keys {pax : Option (List Rec)} (k : List UInt8) (h : (paxM pax k).isSome = true) : k ∈ (match pax with | none => [] | some rs => rs.map Prod.fst) := by
 cases pax with
 | none => cases h
 | some rs =>
  obtain ⟨v, hv⟩ := Option.isSome_iff_exists.1 h
  exact List.mem_map.2 ⟨_, findL_mem _ _ _ hv, rfl⟩
def OutNot : Out → Prop
 | .fail _ => False
 | _ => True
theorem OutOk.not_fail {h : Hd} {data tail : List UInt8} {out : Out} (ho : OutOk h data tail out) : OutNot out := by
 rcases ho with ⟨h2, pax, rfl, _⟩ | ⟨rs, n, _, rfl, _⟩
 ·trivial
 ·trivial
theorem timesOk_glob (name : List UInt8) : TimesOk { hd0 with typ := 103, name := name, ms := -62135596800 } := by
 refine ⟨⟨?_, ?_⟩, (fun e => by cases e), (fun e => by cases e)⟩
 ·show (0 : Int) ≤ 0 ∧ (0 : Int) < 1000000000; omega
 ·show -100000000000000003 ≤ (-62135596800 : Int) ∧ (-62135596800 : Int) ≤ 100000000000000003; omega
theorem NxOut.header {E : Nat → Addr} {B : Nat} {T : TypeId} {v : Value} {S : Nat → Prop} {inv : World → Nat → List UInt8 → Prop} {R : Nat} {w w' : World} {out : Out} {e : Ending} (h : NxOut E B T v S inv R w out e w') (hn : OutNot out) (hr : OutRecs out) (ht : OutTimes out) :
  ∃ (nh : Nat) (hh : Hd) (x pm : Value) (f : Int) (M : List UInt8 → Option (List UInt8)) (ks : List (List UInt8)), e = .returned (.tuple #[.pointer (some ⟨nh, 0, none⟩), .nilIface]) ∧ w'.heap[nh]? = some (.cells (hRow hh x pm f).toArray 167 (0, 0)) ∧ PmIs w' pm M ∧ TimesOk hh ∧ (∀ k, (M k).isSome = true → k ∈ ks) ∧ ks.length ≤ 1048576 := by
 obtain ⟨k, h⟩ := h
 cases out with
 | fail g => exact hn.elim
 | file hh pax src =>
  obtain ⟨nh, Rf, blk, f, pm, h1, h2, h3, h4, h5, h6⟩ := h
  refine ⟨nh, hh, _, pm, f, paxM pax, _, h1, h4, h5, ht, paxM_keys, ?_⟩
  cases pax with
  | none => exact Nat.zero_le _
  | some rs => rw [List.length_map]; exact hr rs rfl
 | glob name rs pad src =>
  obtain ⟨nh, Rf, blk, f, b, h1, h2, h3, h4, h5, h6, h7⟩ := h
  refine ⟨nh, _, _, _, f, findL rs, rs.map Prod.fst, h1, h5, h6, timesOk_glob name, fun k hk => ?_, by rw [List.length_map]; exact hr⟩
  obtain ⟨v, hv⟩ := Option.isSome_iff_exists.1 hk
  exact List.mem_map.2 ⟨_, findL_mem _ _ _ hv, rfl⟩
set_option maxHeartbeats 1600000 in
theorem first_ok {E : Nat → Addr} {B : Nat} (w : World) (hG : Glob E B w) (ht : Lib.Utf8Tabs 14 15 w) (h16 : 16 ≤ B) (b off c : Nat) (l : List UInt8) (hl : BytesAt w b off l) (hlen : l.length ≤ 140737488355328)
  (out : Out) (hh : HeadP 0 0 none [] [] l out) (hon : OutNot out) (hot : OutTimes out) :
  Calls Tryz.prog 18 #[.slice (some ⟨b, off, none⟩) l.length c] w fun e w' => (∃ vs : List Value, vs.length = 21 ∧ (vs.toArray.all fun x => x.oneCell') = true ∧ e = .returned (.tuple #[.agg vs.toArray, .int .i64 0])) ∧ Kp (fun _ => False) w w' := by
 go_enter Tryz.func18, Tryz.ntmps18
 have hk0 : ∀ o, Kp (fun _ => False) w (w.alloc o) := fun o => (Kp.refl _ _).alloc o
 have HOR := hid (hh.recs (fun rs e => by cases e))
 have HON := hid hon
 have HOT := hid hot
 have HL := hid hl
 have HH := hid hh
 have HT := hid ht
 clear hl hh ht hon hot
 obtain ⟨w0, hw0⟩ : ∃ w0, w.alloc (.cells iZero.toArray 26) = w0 := ⟨_, rfl⟩
 have hka : Kp (fun _ => False) w w0 := hw0 ▸ hk0 _
 have hrow0 : w0.heap[w.heap.size]? = some (.cells iZero.toArray 26 (0, 0)) := hw0 ▸ heap_new w _
 have hsz0 : w0.heap.size = w.heap.size + 1 := by rw [← hw0]; show (w.heap.push _).size = _; simp
 go_wp2_with fail
 refine (show Calls _ _ _ (w.alloc (.cells iZero.toArray 26)) _ from ?_)
 rw [hw0]
 refine (clone_any w0 b off c l (fun j v hv => hka.cell (HL.out j v hv) (fun h => h)) hlen).mono ?_
 rintro e w1 ⟨v1, rfl, hown, hv1, hk1⟩
 obtain ⟨D, c1, rfl, hD1, hD2, hbr⟩ := source_bytes hown hv1 (by omega)
 have hk02 : ∀ o, Kp (fun _ => False) w (w1.alloc o) := fun o => (hka.trans hk1).alloc o
 have hrow1 : ∀ o, (w1.alloc o).heap[w.heap.size]? = some (.cells iZero.toArray 26 (0, 0)) := fun o => (hk1.alloc o).heap hrow0 (fun h => h)
 have hsz1 := hk1.size
 have hB0 := hG.size
 have hBs : B ≤ w1.heap.size := by omega
 have hBD : B ≤ D := by omega
 have HB := hid hbr
 have HK02 := hid hk02
 have HR1 := hid hrow1
 clear hbr hk02 hrow1 hown hk1 hv1 hka hrow0 hw0 HL hk0
 go_wp2_with fail
 refine (bytesNewReader _ _ _ _).mono ?_
 rintro e w2 ⟨rfl, rfl⟩
 obtain ⟨w2, hw2⟩ : ∃ w2, w1.alloc (.cells #[.slice (some ⟨D, 0, none⟩) l.length c1, .int .i64 0, .int .i64 (-1)] 160) = w2 := ⟨_, rfl⟩
 have hbr2 : BrInv w1.heap.size D w2 0 l := hw2 ▸ HB.out
 have hk2 : Kp (fun _ => False) w w2 := hw2 ▸ HK02.out _
 have hr2 : w2.heap[w.heap.size]? = some (.cells iZero.toArray 26 (0, 0)) := hw2 ▸ HR1.out _
 have hsz2 : w2.heap.size = w1.heap.size + 1 := by rw [← hw2]; show (w1.heap.push _).size = _; simp
 rw [hw2]
 clear HB HK02 HR1 hw2
 have HBR := hid hbr2
 have HK2 := hid hk2
 have HR2 := hid hr2
 clear hbr2 hk2 hr2
 go_wp2_with fail
 refine (newReader_any (isRd_bytes hBs hBD) w2 l (hG.keep HK2.out (fun _ h => h.elim)) (Utf8Tabs.keep HT.out HK2.out (fun h => h) (fun h => h)) h16 HBR.out).mono ?_
 rintro e w3 ⟨R, rfl, hR3, hk3, hi3⟩
 have hk03 := HK2.out.trans hk3
 have hr3 := hk3.heap HR2.out (fun h => h)
 have HK3 := hid hk03
 have HR3 := hid hr3
 have HI3 := hid hi3
 clear hk03 hr3 hi3 hk3 HK2 HR2 HBR
 go_wp2_with fail
 refine (Next_any (isSrc_bytes hBs hBD) w3 R 0 0 l out HI3.out HH.out).mono ?_
 rintro e w4 hnx
 obtain ⟨nh, hd4, x4, pm4, f4, M, ks, rfl, hrow4, hpm4, ht4, hks4, hkl4⟩ := hnx.header HON.out HOR.out HOT.out
 have hk4 := hnx.1
 have hk04 : Kp (fun _ => False) w w4 := HK3.out.then hk4 (by rintro i hi ((h | h) | h) <;> omega)
 have hr4 := hk4.heap HR3.out (by rintro ((h | h) | h) <;> omega)
 have HK4 := hid hk04
 have HR4 := hid hr4
 have HOF := hid (headerOf_any w4 nh hd4 x4 pm4 f4 M ks hrow4 hpm4 ht4 hks4 hkl4)
 clear hk04 hr4 hk4 HK3 HR3 HI3 hnx hrow4 hpm4 ht4 hks4
 go_wp2_with fail
 refine HOF.out.mono ?_
 rintro e w5 h5
 obtain ⟨rv5, l5, rfl, ho5, _, hk5⟩ := h5.out
 have hone5 : ((iRowH (gotH hd4 f4 true true) rv5).toArray.all fun x => x.oneCell') = true := by
  obtain ⟨A5, c5, hr5⟩ := ho5.at_.shape
  subst hr5
  exact one_iRow
 have hk05 := HK4.out.trans hk5
 have hr5 := hk5.heap HR4.out (fun h => h)
 have HK5 := hid hk05
 have HR5 := hid hr5
 obtain ⟨vs, hvs⟩ : ∃ vs, iRowH (gotH hd4 f4 true true) rv5 = vs := ⟨_, rfl⟩
 have hvl : vs.length = 21 := by rw [← hvs]; rfl
 have hs1 : iZero.toArray.size = vs.toArray.size := by rw [List.size_toArray, List.size_toArray, hvl]; rfl
 have hs2 : (Tryz.prog.info? 26).map (·.size) = some vs.toArray.size := by rw [List.size_toArray, hvl]; kernel_rfl
 have HS1 := hid hs1
 have HS2 := hid hs2
 clear hs1 hs2
 rw [hvs] at hone5 ⊢
 clear hk05 hr5 hk5 HK4 HR4 h5 ho5 hvs HOF
 go_wp2_with fail
 refine (end_nil w5).mono ?_
 rintro e w6 ⟨rfl, rfl⟩
 dsimp only
 rename_i K1 h1 K2 h2
 refine h2 _ _ ?_
 refine wpList_store_row rfl 26 (.tmp 2) (.tmp 16) rfl w.heap.size vs.toArray rfl rfl 26 iZero.toArray HR5.out HS2.out HS1.out hone5 ?_
 go_wp2_with fail
 exact bodyPost_ret (results_cell_row2 rfl _ _ w.heap.size (.agg vs.toArray) rfl (run_loadVar_row _ w.heap.size 26 26 _ (0, 0) _ (heap_setRow HR5.out _) Tryz.underlying26 rfl HS2.out)) rfl ⟨⟨vs, hvl, hone5, rfl⟩, HK5.out.setRow (.inr (Nat.le_refl _)) _⟩
theorem xor_u8 (a b : UInt8) : bits .xor .u8 (a.toNat : Int) (b.toNat : Int) = ((a ^^^ b).toNat : Int) := by
 show IntKind.u8.wrap (((BitVec.ofInt 8 (a.toNat : Int) ^^^ BitVec.ofInt 8 (b.toNat : Int)).toNat : Nat) : Int) = _
 have ha := a.toNat_lt
 have hb := b.toNat_lt
 rw [BitVec.ofInt_natCast, BitVec.ofInt_natCast, BitVec.toNat_xor, BitVec.toNat_ofNat, BitVec.toNat_ofNat, Nat.mod_eq_of_lt (by omega), Nat.mod_eq_of_lt (by omega), UInt8.toNat_xor]
 have h : a.toNat ^^^ b.toNat < 2 ^ 8 := Nat.xor_lt_two_pow ha hb
 simp only [IntKind.wrap, IntKind.bits, IntKind.signed]
 simp
 omega
theorem xor_ne {a b : UInt8} (hb : b ≠ 0) : a ^^^ b ≠ a := by
 intro h
 apply hb
 have h2 : a ^^^ (a ^^^ b) = a ^^^ a := by rw [h]
 rw [← UInt8.xor_assoc, UInt8.xor_self, UInt8.zero_xor] at h2
 exact h2
theorem one_file {g : File} {b : List UInt8} (h : EncE [g] b) : ∃ b1 tail, b = b1 ++ tail ∧ FileE g.1 g.2 b1 := by
 obtain ⟨bs, k, h1, h2, h3, rfl⟩ := h
 cases h1 with
 | cons ha hb =>
  cases hb
  exact ⟨_, List.replicate (512 * k) 0, by rw [List.append_nil], ha⟩
theorem file_long {h : Hd} {data b : List UInt8} (he : FileE h data b) : 512 ≤ b.length := by
 obtain ⟨l, rest, rfl, hl⟩ := file_first he
 rw [List.length_append, hl.len]
 omega
theorem first_head {f : IFile} {g : File} {b1 tail : List UInt8} (ht : ToldOk f g) (r : Rng f.1) (hd : f.2.1.length ≤ 1073741824) (he : FileE g.1 g.2 b1) :
  ∃ out, HeadP 0 0 none [] [] (b1 ++ tail) out ∧ OutNot out ∧ OutTimes out := by
 have hp := ht.fileP
 have hi := ht.fileIn r hd
 have h64 : Int64s g.1 := hi.ti.1
 obtain ⟨out, h1, h2⟩ := head_of_file (tail := tail) (d := []) (p := []) (nb := 0) (pad := 0) he hp h64 (by have := hi.dl; omega) rfl rfl
 exact ⟨out, h1, h2.not_fail, outTimes_of h2 hp⟩
theorem infoIF : InfoX 29 35 23 248 := infoX_of Tryz.underlying35 (by kernel_rfl)
theorem run_bs29 (W : World) (h : Hd) (rv dv : Value) (en : Int) : (Instr.buildSlice 35 1 #[(0, .agg (iFRow h rv dv en).toArray)]).run Tryz.prog W = .ok (.slice (some ⟨W.heap.size, 0, none⟩) 1 1) (W.alloc (.cells (iFRow h rv dv en).toArray 29)) :=
 run_bs W 23 infoIF _ (by decide) (by decide) (fun z => by kernel_rfl)
theorem bytes_set {w : World} {g : Nat} {l : List UInt8} {p : Nat} {y : UInt8} (hb : BytesAt w g 0 l) (hp : p < l.length) (hc : ∃ cs T, w.heap[g]? = some (.cells cs T (0, 0))) :
  BytesAt (w.setCell ⟨g, p, none⟩ (.int .u8 (y.toNat : Int))) g 0 (l.set p y) := by
 intro j v hv
 rw [Nat.zero_add]
 obtain ⟨cs, T, hcs⟩ := hc
 have hset := heap_set hcs p (.int .u8 (y.toNat : Int))
 rw [ubs_get, List.getElem?_set] at hv
 have hjl : ∀ q u, l[q]? = some u → cs[q]? = some (ub u) := fun q u hq => by
  have := hb q (ub u) (by rw [ubs_get, hq]; rfl)
  rw [Nat.zero_add] at this
  simp [World.cell?, hcs] at this
  exact this
 refine cell_of hset j ?_
 rw [Array.getElem?_setIfInBounds]
 by_cases hj : p = j
 ·subst hj
  rw [if_pos rfl, if_pos hp] at hv
  have hlt : p < cs.size := by
   obtain ⟨u, hu⟩ : ∃ u, l[p]? = some u := ⟨_, List.getElem?_eq_getElem hp⟩
   exact (Array.getElem?_eq_some_iff.1 (hjl p u hu)).1
  rw [if_pos rfl, if_pos hlt]
  exact hv
 ·rw [if_neg hj] at hv
  rw [if_neg hj]
  cases hl : l[j]? with
  | none => rw [hl] at hv; cases hv
  | some u =>
   rw [hl] at hv
   rw [hjl j u hl]
   exact hv
theorem NumsAt.mono {w : World} {C C' : Nat} {nv : Value} (h : NumsAt w C nv) (hC : C ≤ C') : NumsAt w C' nv := by
 rcases h with h | ⟨nb, no, nl, nc, h1, h2, h3, h4, h5⟩
 ·exact .inl h
 ·exact .inr ⟨nb, no, nl, nc, h1, h2, h3, Nat.lt_of_lt_of_le h4 hC, h5⟩
set_option maxHeartbeats 12800000 in
theorem changed_walk {E : Nat → Addr} {B : Nat} (w : World) (hG : Glob E B w) (hut : Lib.Utf8Tabs 14 15 w) (h16 : 16 ≤ B) (f : IFile) (rv nv : Value) (A : Option Addr) (c : Nat) (place : Int) (ch : UInt8)
  (hra : RecsAt w w.heap.size rv f.1.recs) (hda : DataQ w (fun b => b < w.heap.size) (.slice A f.2.1.length c) f.2.1) (hnv : NumsAt w w.heap.size nv) (hok : IFileOk f) (hrg : Rng f.1) :
  Calls Tryz.prog 3 #[.agg (iFRow f.1 rv (.slice A f.2.1.length c) f.2.2).toArray, nv, .int .i64 place, .int .u8 (ch.toNat : Int)] w fun e w' => e = .returned (.bool true) ∧ Kp (fun _ => False) w w' := by
 obtain ⟨dv, hdv⟩ : ∃ dv, Value.slice A f.2.1.length c = dv := ⟨_, rfl⟩
 have HZ : ∀ W, Kp (fun _ => False) w W → Hid (Calls Tryz.prog 14 #[.agg (iFRow f.1 rv dv f.2.2).toArray] W (AnyB W)) := fun W k => by
  rw [← hdv]
  exact zz2_any W w.heap.size f.1 rv A f.2.1.length c f.2.2 (hra.keep k (fun _ h => h.elim)) (by have h1 := hok.wt; have h2 := wsum_len f.1.recs; rw [weight_eq] at h1; omega)
 rw [hdv] at hda ⊢
 have hone : ((iFRow f.1 rv dv f.2.2).toArray.all fun x => x.oneCell') = true := iFRow_one hra hda
 obtain ⟨An, ln, cn, rfl⟩ : ∃ A n c, nv = .slice A n c := by
  rcases hnv with h | ⟨nb, no, nl, nc, h, _⟩
  ·exact ⟨_, _, _, h⟩
  ·exact ⟨_, _, _, h⟩
 have HFL : Hid (∀ W P, Kp (fun _ => False) w W → P < W.heap.size → W.heap[P]? = some (.cells (iFRow f.1 rv dv f.2.2).toArray 29 (0, 0)) → IFilesAt W W.heap.size (.slice (some ⟨P, 0, none⟩) 1 1) [f]) := by
  show ∀ W, _
  intro W P k hP hrow
  refine .inr ⟨P, 0, 1, rfl, hP, fun i f' hf => ?_⟩
  match i, hf with
  | 0, hf =>
   injection hf with hf
   subst hf
   refine ⟨rv, dv, fun j v hv => ?_, (hra.keep k (fun _ h => h.elim)).mono k.size, hda.keep k (fun _ _ h => h) (fun b hb => Nat.lt_of_lt_of_le hb k.size)⟩
   show W.cell? ⟨P, 0 + 0 * 23 + j, none⟩ = some v
   rw [Nat.zero_mul, Nat.add_zero, Nat.zero_add]
   exact cell_of hrow j (by rw [List.getElem?_toArray]; exact hv)
 obtain ⟨hv, hhv⟩ : ∃ hv : Array Value, (iFRow f.1 rv dv f.2.2).toArray = hv := ⟨_, rfl⟩
 have HBS := fun W => run_bs29 W f.1 rv dv f.2.2
 have hsz : (Tryz.prog.info? 29).map (·.size) = some hv.size := by rw [← hhv]; kernel_rfl
 rw [hhv] at hone HZ HFL HBS ⊢
 have HSZ := hid hsz
 have HNV := hid hnv
 have HOK := hid hok
 have HRG := hid hrg
 have HUT := hid hut
 have HG := hid hG
 clear hra hda hnv hok hrg hut hG hsz hhv hdv
 go_enter Tryz.func3, Tryz.ntmps3
 go_upto_region 1 with fail
 refine code_one ?_
 intro wA gA kA sA
 have GA := hid gA
 have KA := hid kA
 clear gA kA sA
 go_step; refine wpList_load_row rfl 29 (.tmp 4) rfl w.heap.size rfl 29 hv (0, 0) _ GA.out Tryz.underlying29 rfl HSZ.out ?_
 go_wp2_with fail
 refine (HZ wA KA.out).out.mono ?_
 rintro e w1 ⟨⟨b1, rfl⟩, k1⟩
 have G1 := hid (k1.heap GA.out (fun h => h))
 have K1 := hid (KA.out.trans k1)
 clear k1 GA KA HZ
 cases b1 with
 | false =>
  go_wp2_with fail
  go_ret
  exact ⟨rfl, K1.out⟩
 | true =>
 obtain ⟨bl, ebl⟩ : ∃ b, decide ((2147483647 : Int) < (ln : Int)) = b := ⟨_, rfl⟩
 cases bl with
 | true =>
  go_wp2_with fail
  go_ret
  exact ⟨rfl, K1.out⟩
 | false =>
 go_upto_region 3 with fail
 go_step; refine wpList_load_row rfl 29 (.tmp 4) rfl w.heap.size rfl 29 hv (0, 0) _ G1.out Tryz.underlying29 rfl HSZ.out ?_
 refine wpList_bslice_as rfl 35 1 #[(0, .tmp 25)] rfl #[(0, .agg hv)] ?_ (.slice (some ⟨w1.heap.size, 0, none⟩) 1 1) (HBS _) ?_
 ·kernel_rfl
 have k2 : Kp (fun _ => False) w (w1.alloc (.cells hv 29)) := K1.out.alloc _
 have s2 : w1.heap.size < (w1.alloc (.cells hv 29)).heap.size := by show _ < (w1.heap.push _).size; simp
 have IF2 := HFL.out _ w1.heap.size k2 s2 (heap_new w1 (.cells hv 29))
 have K2 := hid k2
 clear k2 s2 HBS HFL G1 K1 ebl
 obtain ⟨w2, hw2⟩ : ∃ w2, w1.alloc (.cells hv 29) = w2 := ⟨_, rfl⟩
 obtain ⟨P2, hP2⟩ : ∃ P2, w1.heap.size = P2 := ⟨_, rfl⟩
 rw [hw2] at IF2 K2 ⊢
 rw [hP2] at IF2 ⊢
 clear hw2 hP2
 have HTO := hid (told_law w2 _ [f] IF2 (fun f' hf' => by rw [List.mem_singleton] at hf'; rw [hf']; exact HOK.out) (by simp))
 clear IF2
 go_wp2_with fail
 refine HTO.out.mono ?_
 rintro e w3 hx
 obtain ⟨v3, b3, rfl, hto, k3⟩ := hx.out
 have K3 := hid (K2.out.trans k3)
 have HT3 := hid hto
 clear hx hto k3 K2 HTO
 go_wp2_with fail
 refine (below504 w3 place).mono ?_
 rintro e w4 ⟨⟨kk, hkk, rfl⟩, rfl⟩
 obtain ⟨bp, ebp⟩ : ∃ b, decide ((148 : Int) ≤ (kk : Int)) = b := ⟨_, rfl⟩
 go_upto_if 33 with fail
 try simp only [Act.put]
 go_cut [2] from 34 to 35 (fun s2 wx => ∃ p : Nat, s2 = .int .i64 (p : Int) ∧ p < 512 ∧ ¬ (148 ≤ p ∧ p < 156) ∧ wx = w4)
 case first =>
  cases bp with
  | true =>
   have h9 := of_decide_eq_true ebp
   go_wp2_with fail
   go_meet
   case rel => exact ⟨kk + 8, by simp, by omega, by omega, rfl⟩
  | false =>
   have h9 := of_decide_eq_false ebp
   go_wp2_with fail
   go_meet
   case rel => exact ⟨kk, rfl, by omega, by omega, rfl⟩
 case rest =>
 obtain ⟨p, rfl, hp, hps, rfl⟩ := hcut
 obtain ⟨bc, ebc⟩ : ∃ b, ((ch.toNat : Int) == 0) = b := ⟨_, rfl⟩
 cases b3 with
 | false =>
  go_wp2_with fail
  go_ret
  exact ⟨rfl, K3.out⟩
 | true =>
 cases bc with
 | true =>
  go_wp2_with fail
  go_ret
  exact ⟨rfl, K3.out⟩
 | false =>
 have hch : ch ≠ 0 := fun e => by rw [e] at ebc; exact absurd ebc (by decide)
 obtain ⟨out, hfa, hta, hds⟩ := HT3.out rfl
 obtain ⟨g, hout, htg⟩ : ∃ g, out = [g] ∧ ToldOk f g := by
  cases hta with
  | cons h1 h2 => cases h2; exact ⟨_, rfl, h1⟩
 subst hout
 have HEN := hid (encode_any wc v3 (.slice An ln cn) [g] hfa ((HNV.out.keep K3.out (fun _ h => h.elim)).mono K3.out.size) (fun f' hf' => by rw [List.mem_singleton] at hf'; rw [hf']; exact htg.fileIn HRG.out HOK.out.dl) (by simp) (by omega))
 have HTG := hid htg
 have HCH := hid hch
 have HPS := hid hps
 clear hfa hta hds htg hch HT3 HNV ebp hkk hps
 go_wp2_with fail
 refine HEN.out.mono ?_
 rintro e w4 hx
 obtain ⟨v4, bb, rfl, ho4, hn4, he4, hl4, k4⟩ := hx.out
 obtain ⟨b1, tl, hbb, hfe⟩ := one_file he4
 have hlong := file_long hfe
 obtain ⟨gb, cb, hv4, hgb, hgb2, hcb⟩ : ∃ gb cb, v4 = .slice (some ⟨gb, 0, none⟩) bb.length cb ∧ wc.heap.size ≤ gb ∧ (∃ cs T, w4.heap[gb]? = some (.cells cs T (0, 0))) ∧ BytesAt w4 gb 0 bb := by
  rcases ho4.2 with ⟨e, _⟩ | ⟨g', cap', cur', e, hg', hh', _⟩
  ·rw [e] at hn4; exact absurd rfl hn4
  ·rcases ho4.bytes with ⟨e2, _⟩ | ⟨g2, c2, e2, hg2, _, _, _, hb2⟩
   ·rw [e2] at hn4; exact absurd rfl hn4
   ·rw [e] at e2
    injection e2 with q1 q2 q3
    injection q1 with q1
    injection q1 with q1
    subst q1
    exact ⟨g', cap', by rw [e, q2], hg', ⟨_, _, hh'⟩, fun j u hu => hb2 j u hu⟩
 subst hv4
 have HLEN : bb.length = b1.length + tl.length := by rw [hbb, List.length_append]
 have hpl : p < bb.length := by omega
 obtain ⟨oh, hh1, hh2, hh3⟩ := first_head (tail := tl) HTG.out HRG.out HOK.out.dl hfe
 rw [← hbb] at hh1
 obtain ⟨y, hy⟩ : ∃ y, bb[p] ^^^ ch = y := ⟨_, rfl⟩
 have hyn : y ≠ (b1 ++ tl).getD p 0 := by
  rw [← hbb, ← hy, List.getD_eq_getElem?_getD, List.getElem?_eq_getElem hpl]
  exact xor_ne HCH.out
 have HBAD := hid (changed_bad hfe tl p y hp HPS.out hyn)
 rw [← hbb] at HBAD
 have hxor := xor_u8 bb[p] ch
 rw [hy] at hxor
 have K4 := hid (K3.out.trans k4)
 have HFO := hid (first_ok w4 (HG.out.keep K4.out (fun _ h => h.elim)) (Utf8Tabs.keep HUT.out K4.out (fun h => h) (fun h => h)) h16 gb 0 cb bb hcb (by omega) oh hh1 hh2 hh3)
 have HCB := hid hcb
 have HGB := hid hgb2
 clear hx ho4 hn4 he4 k4 hbb hfe hlong HLEN hh1 hh2 hh3 hy hyn hcb hgb2 HEN HTG HCH HPS HRG HOK
 go_wp2_with fail
 refine HFO.out.mono ?_
 rintro e w5 ⟨⟨vs, hvl, hvo, rfl⟩, k5⟩
 have hs1 : iZero.toArray.size = vs.toArray.size := by rw [List.size_toArray, List.size_toArray, hvl]; rfl
 have hs2 : (Tryz.prog.info? 26).map (·.size) = some vs.toArray.size := by rw [List.size_toArray, hvl]; kernel_rfl
 have HS1 := hid hs1
 have HS2 := hid hs2
 have HVO := hid hvo
 have K5 := hid (K4.out.trans k5)
 have CB5 : Hid (BytesAt w5 gb 0 bb) := fun j u hu => k5.cell (HCB.out j u hu) (fun h => h)
 have GB5 : Hid (∃ cs T, w5.heap[gb]? = some (.cells cs T (0, 0))) := (let ⟨cs, T, h⟩ := HGB.out; ⟨cs, T, k5.heap h (fun h => h)⟩)
 clear hs1 hs2 hvo k5 HFO HCB HGB K4
 obtain ⟨va, hva⟩ : ∃ va, vs.toArray = va := ⟨_, rfl⟩
 rw [hva] at HS1 HS2 HVO ⊢
 clear hva hvl
 dsimp only
 rename_i K hK
 refine hK _ _ ?_
 clear hK
 (iterate 12 go_step); refine wpList_store_row rfl 26 (.tmp 12) (.tmp 48) rfl w5.heap.size va rfl rfl 26 _ (heap_new w5 _) HS2.out HS1.out HVO.out ?_
 go_upto_region 11 with fail
 refine code_row ?_
 intro w6 g6 k6 s6
 have K6 := hid (K5.out.trans k6)
 have CB6 : Hid (BytesAt w6 gb 0 bb) := fun j u hu => k6.cell (CB5.out j u hu) (fun h => h)
 have GB6 : Hid (∃ cs T, w6.heap[gb]? = some (.cells cs T (0, 0))) := (let ⟨cs, T, h⟩ := GB5.out; ⟨cs, T, k6.heap h (fun h => h)⟩)
 have c6 : w6.cell? ⟨gb, p, none⟩ = some (.int .u8 (bb[p].toNat : Int)) := by
  have := CB6.out p (ub bb[p]) (by rw [ubs_get, List.getElem?_eq_getElem hpl]; rfl)
  rw [Nat.zero_add] at this
  exact this
 have z6 : w6.frozen? ⟨gb, p, none⟩ = false := by
  obtain ⟨cs, T, h⟩ := GB6.out
  exact free_of h p
 have HB7 := hid (bytes_set (y := y) CB6.out hpl GB6.out)
 have K7 : Hid (Kp (fun _ => False) w (w6.setCell ⟨gb, p, none⟩ (.int .u8 (y.toNat : Int)))) := K6.out.setCell (.inr (by have := K3.out.size; show w.heap.size ≤ gb; omega)) _
 clear g6 k6 s6 K5 CB5 GB5 K6 CB6 GB6 HVO HS1 HS2
 have hp1 : (0 : Int) ≤ (p : Int) := by omega
 have hp2 : (p : Int) < (bb.length : Int) := by omega
 go_upto_region 12 with fail
 refine (show Code.wp _ _ _ _ (w6.setCell ⟨gb, p, none⟩ (.int .u8 (y.toNat : Int))) from ?_)
 generalize w6.setCell ⟨gb, p, none⟩ (.int .u8 (y.toNat : Int)) = w7 at HB7 K7 ⊢
 clear c6 z6 hxor
 have HLS : (bb.set p y).length = bb.length := List.length_set ..
 have HFF := hid (first_fail w7 (HG.out.keep K7.out (fun _ h => h.elim)) (Utf8Tabs.keep HUT.out K7.out (fun h => h) (fun h => h)) h16 gb 0 cb (bb.set p y) HB7.out (by rw [HLS]; omega) 1 (.inr (.inl rfl)) HBAD.out)
 rw [HLS] at HFF
 clear HB7 HBAD HLS
 go_wp2_with fail
 refine HFF.out.mono ?_
 rintro e w8 ⟨rfl, k8⟩
 have K8 := hid (K7.out.trans k8)
 clear k8 K7 HFF
 dsimp only
 rename_i K hK
 refine hK _ _ ?_
 clear hK
 (iterate 12 go_step); refine wpList_store_row rfl 26 (.tmp 14) (.tmp 60) rfl w8.heap.size iZero.toArray rfl rfl 26 _ (heap_new w8 _) (by kernel_rfl) (by rfl) (by kernel_rfl) ?_
 go_upto_region 13 with fail
 refine code_row ?_
 intro w9 g9 k9 s9
 have K9 := hid (K8.out.trans k9)
 clear g9 k9 s9 K8
 go_wp2_with fail
 go_ret
 exact ⟨rfl, K9.out⟩
end Go.Proofs.YtgfcnjfmmjcodaaGreatDoor
