/- headerOf of package impl, of a header. -/
import Derived.Test.YtgfcnjfmmjcodaaGreatDoorP25
set_option linter.all false
set_option maxRecDepth 100000
set_option maxHeartbeats 1000000
open Go.Lib (hid)
namespace Go.Proofs.YtgfcnjfmmjcodaaGreatDoor
open Go Go.RowKit
def Bdc (w : World) (h : Hd) (f : Int) (M : List UInt8 → Option (List UInt8)) (e : Ending) (w' : World) : Prop :=
  ∃ rv l, e = .returned (.agg (Bu (Dk h f true true) rv).toArray) ∧ OwnR 171 w' w.heap.size rv l ∧ RecsIs M (fun _ => false) l ∧ Kp (fun _ => False) w w'
theorem Bez (b : Bool) (n s : Int) (h : b = true → (0 ≤ n ∧ n < 1000000000) ∧ ¬ (s = -62135596800 ∧ n = 0)) :
    ∃ (m : Nat) (u : Int), tc0 b n = .int .u64 (m : Int) ∧ tc1 b s = .int .i64 u ∧ (decide (m = 0) && decide (u = 0)) = !b ∧ (b = true → n = (m : Int) ∧ m < 1000000000 ∧ u = s + 62135596800) := by
  cases b with
  | false => exact ⟨0, 0, rfl, rfl, rfl, fun e => by cases e⟩
  | true =>
    obtain ⟨h1, h2⟩ := h rfl
    refine ⟨n.toNat, s + 62135596800, ?_, rfl, ?_, fun _ => ⟨by omega, by omega, rfl⟩⟩
    · show Value.int .u64 n = .int .u64 (n.toNat : Int)
      rw [Int.toNat_of_nonneg h1.1]
    · rw [show (!true) = false from rfl, Bool.and_eq_false_iff, decide_eq_false_iff_not, decide_eq_false_iff_not]
      omega
theorem Xb {h : Hd} {A : Option Addr} {n c : Nat} : ((Bu h (.slice A n c)).toArray.all fun x => x.oneCell') = true := by simp [Bu, Ha, B5, Value.oneCell']
theorem Ii (h : Hd) (n : Nat) (ba bc : Bool) (f : Int) : ((Ha h.typ.toNat h.name h.link h.size h.mode h.uid h.gid h.un h.gn h.ms (n : Int) (!ba) 0 0 (!bc) 0 0 h.maj h.min (.slice none 0 0) (Ka f)).toArray.all fun x => x.oneCell') = true := by simp [Ha, B5, Value.oneCell']
def Dl : Oper := { dst := some 76, op := Go.Op.build 26 #[(0, Go.Operand.tmp 13), (1, Go.Operand.tmp 17), (2, Go.Operand.tmp 21), (3, Go.Operand.tmp 25), (4, Go.Operand.tmp 29), (5, Go.Operand.tmp 33), (6, Go.Operand.tmp 37), (7, Go.Operand.tmp 41), (8, Go.Operand.tmp 45), (9, Go.Operand.tmp 50), (10, Go.Operand.tmp 56), (12, Go.Operand.tmp 62), (14, Go.Operand.tmp 66), (15, Go.Operand.tmp 70), (17, Go.Operand.tmp 75)], type := 26, pos := "impl.go:157", after := #[{ on := 3, ground := Go.Ground.data }, { on := 7, ground := Go.Ground.data }, { on := 11, ground := Go.Ground.data }, { on := 15, ground := Go.Ground.data }, { on := 19, ground := Go.Ground.data }, { on := 23, ground := Go.Ground.data }, { on := 27, ground := Go.Ground.data }, { on := 31, ground := Go.Ground.data }, { on := 35, ground := Go.Ground.data }, { on := 40, ground := Go.Ground.data }, { on := 46, ground := Go.Ground.data }, { on := 52, ground := Go.Ground.data }, { on := 56, ground := Go.Ground.data }, { on := 60, ground := Go.Ground.data }, { on := 65, ground := Go.Ground.data }], guard := none }
structure HfR (w : World) (nh : Nat) (h : Hd) (x pm : Value) (f : Int) (W : World) : Prop where
  row : W.heap[nh]? = some (.cells (B2 h x pm f).toArray 167 (0, 0))
  res : W.heap[w.heap.size]? = some (.cells iZero.toArray 26 (0, 0))
  kp : Kp (fun _ => False) w W
theorem HfR.grow {w : World} {nh : Nat} {h : Hd} {x pm : Value} {f : Int} {W W' : World} (s : HfR w nh h x pm f W) (k : Kp (fun _ => False) W W') : HfR w nh h x pm f W' :=
  ⟨k.heap s.row (fun h => h), k.heap s.res (fun h => h), s.kp.trans k⟩
structure HfL (w : World) (P r b : Nat) (hh : Hd) (M : List UInt8 → Option (List UInt8)) (left : List UInt8 → Bool) (l : List Rec) (wr : World) : Prop where
  st : HfSt w P hh l wr
  rg : Rg wr b r M left
  rc : RecsIs M left l
set_option maxHeartbeats 25600000 in
theorem Beh (w : World) (nh : Nat) (h : Hd) (x pm : Value) (f : Int) (M : List UInt8 → Option (List UInt8)) (ks : List (List UInt8)) (hrow : w.heap[nh]? = some (.cells (B2 h x pm f).toArray 167 (0, 0)))
    (hpm : PmIs w pm M) (ht : TimesOk h) (hks : ∀ k, (M k).isSome = true → k ∈ ks) (hkl : ks.length ≤ 1048576) :
    Calls Tryz.prog 44 #[.pointer (some ⟨nh, 0, none⟩)] w fun e w' => Hid (Bdc w h f M e w') := by
  obtain ⟨n, hn⟩ : ∃ n : Nat, h.mn = (n : Int) := ⟨h.mn.toNat, by have := ht.mod; omega⟩
  have hn2 : n < 1000000000 := by have := ht.mod; omega
  obtain ⟨na, sa, ea0, ea1, ea2, ea3⟩ := Bez h.hasA h.atn h.ats (fun e => ⟨(ht.acc e).1, (ht.acc e).2.2⟩)
  obtain ⟨nc, sc, ec0, ec1, ec2, ec3⟩ := Bez h.hasC h.ctn h.cts (fun e => ⟨(ht.chg e).1, (ht.chg e).2.2⟩)
  obtain ⟨ba, eba⟩ : ∃ b, (!h.hasA) = b := ⟨_, rfl⟩
  obtain ⟨bc, ebc⟩ : ∃ b, (!h.hasC) = b := ⟨_, rfl⟩
  have HT := Lib.hid ht
  have HPM := Lib.hid hpm
  have HKS := Lib.hid hks
  have hkl0 := hkl
  have HZA : ∀ W, Hid (Calls Tryz.prog 80 #[.agg #[.int .u64 (na : Int), .int .i64 sa]] W fun e w' => e = .returned (.bool ba) ∧ Kp (fun _ => False) W w') := fun W => by
    have := M1 W na sa
    rw [ea2, eba] at this
    exact this
  have HZC : ∀ W, Hid (Calls Tryz.prog 80 #[.agg #[.int .u64 (nc : Int), .int .i64 sc]] W fun e w' => e = .returned (.bool bc) ∧ Kp (fun _ => False) W w') := fun W => by
    have := M1 W nc sc
    rw [ec2, ebc] at this
    exact this
  have HTM := fun W => Lib.hid (Ji W n h.ms hn2 ht.mod.2)
  have hnlt := Bv hrow
  clear ht hpm hks ea2 ec2
  go_enter Tryz.func44, Tryz.ntmps44
  go_upto_region 1 with fail
  refine E7 ?_
  intro wA gA kA sA
  have RA := Lib.hid (kA.heap hrow (fun h => h))
  have GA : Hid (wA.heap[w.heap.size]? = some (.cells iZero.toArray 26 (0, 0))) := gA
  have KA := Lib.hid kA
  have HSA : w.heap.size + 1 ≤ wA.heap.size := by omega
  clear gA kA sA
  have HN := Lib.hid hn
  have EA0 := Lib.hid ea0
  have EA1 := Lib.hid ea1
  have EC0 := Lib.hid ec0
  have EC1 := Lib.hid ec1
  have hA : (!ba) = h.hasA := by rw [← eba, Bool.not_not]
  have hC : (!bc) = h.hasC := by rw [← ebc, Bool.not_not]
  have FB : Hid (∀ (W : World) (P : Nat) (cs : Array Value), HfR w nh h x pm f W → W.heap[P]? = some (.cells cs 26 (0, 0)) → cs.size = 21 → w.heap.size + 1 ≤ P → Hid (HfSt w P (Dk h f false false) [] (W.setCells P 0 (Ha h.typ.toNat h.name h.link h.size h.mode h.uid h.gid h.un h.gn h.ms (n : Int) (!ba) 0 0 (!bc) 0 0 h.maj h.min (.slice none 0 0) (Ka f))) ∧ (W.setCells P 0 (Ha h.typ.toNat h.name h.link h.size h.mode h.uid h.gid h.un h.gn h.ms (n : Int) (!ba) 0 0 (!bc) 0 0 h.maj h.min (.slice none 0 0) (Ka f))).heap[nh]? = some (.cells (B2 h x pm f).toArray 167 (0, 0)))) := by
    show ∀ W, _
    intro W P cs s hP hcs hlt
    have g := Dz (vs := (Ha h.typ.toNat h.name h.link h.size h.mode h.uid h.gid h.un h.gn h.ms (n : Int) (!ba) 0 0 (!bc) 0 0 h.maj h.min (.slice none 0 0) (Ka f))) hP (by rw [hcs]; rfl)
    have e : (Ha h.typ.toNat h.name h.link h.size h.mode h.uid h.gid h.un h.gn h.ms (n : Int) (!ba) 0 0 (!bc) 0 0 h.maj h.min (.slice none 0 0) (Ka f)) = Bu (Dk h f false false) (.slice none 0 0) := by
      rw [hA, hC, ← HN.out]
      rfl
    have ks : Kp (· = P) W (W.setCells P 0 (Ha h.typ.toNat h.name h.link h.size h.mode h.uid h.gid h.un h.gn h.ms (n : Int) (!ba) 0 0 (!bc) 0 0 h.maj h.min (.slice none 0 0) (Ka f))) := Dn (S := (· = P)) _ (.inl rfl) _ _ _ (Kp.refl _ _)
    refine ⟨⟨⟨_, by rw [e] at g; rw [e]; exact g, OwnR.nil _ _ _, by intro e; cases e⟩, ks.heap s.res (by omega), s.kp.then ks (fun i hi e => by omega), hlt⟩, ks.heap s.row (by omega)⟩
  clear hn ea0 ea1 ec0 ec1 eba ebc hA hC
  have S00 : HfR w nh h x pm f wA.drew := ⟨RA.out, GA.out, KA.out.drew⟩
  clear RA GA KA
  go_upto_region 3 with fail
  go_cut [3] from 10 to 76 (fun s3 wx => ∃ P : Nat, s3 = .pointer (some ⟨P, 0, none⟩) ∧ w.heap.size + 1 ≤ P ∧ Hid (HfSt w P (Dk h f false false) [] wx ∧ wx.heap[nh]? = some (.cells (B2 h x pm f).toArray 167 (0, 0))))
  case first =>
    refine wp_region_held_drew (S := HfR w nh h x pm f) (by kernel_rfl) ?_ (fun hHeld => ?_)
    · exact S00
    clear S00
    refine wpAnyH_take (i := 0) (v := ?_) rfl (by kernel_rfl) (by kernel_rfl) (by kernel_rfl) (fun _ _ _ h => h) (Or.inl ⟨by rfl, ?_⟩) (by assumption) ?_
    rotate_left 1
    · intro W hSw; go_simp; (try with_reducible rfl)
    try simp only [Act.put, List.setIfInBounds_toArray, List.set_cons_zero, List.set_cons_succ]
    refine wpAnyH_take (i := 1) (v := ?_) rfl (by kernel_rfl) (by kernel_rfl) (by kernel_rfl) (fun _ _ _ h => h) (Or.inl ⟨by rfl, ?_⟩) (by assumption) ?_
    rotate_left 1
    · intro W hSw; go_simp; (try with_reducible rfl)
    try simp only [Act.put, List.setIfInBounds_toArray, List.set_cons_zero, List.set_cons_succ]
    refine wpAnyH_take (i := 2) (v := ?_) rfl (by kernel_rfl) (by kernel_rfl) (by kernel_rfl) (fun _ _ _ h => h) (Or.inl ⟨by rfl, ?_⟩) (by assumption) ?_
    rotate_left 1
    · intro W hSw; go_simp; (try with_reducible rfl)
    try simp only [Act.put, List.setIfInBounds_toArray, List.set_cons_zero, List.set_cons_succ]
    refine wpAnyH_take (i := 3) (v := ?_) rfl (by kernel_rfl) (by kernel_rfl) (by kernel_rfl) (fun _ _ _ h => h) (Or.inl ⟨by rfl, ?_⟩) (by assumption) ?_
    rotate_left 1
    · intro W hSw; have c0 : W.cell? ⟨nh, 0, none⟩ = some (.int .u8 (h.typ.toNat : Int)) := cell_of hSw.row 0 rfl; clear hSw; go_simp; (try with_reducible rfl)
    try simp only [Act.put, List.setIfInBounds_toArray, List.set_cons_zero, List.set_cons_succ]
    refine wpAnyH_take (i := 4) (v := ?_) rfl (by kernel_rfl) (by kernel_rfl) (by kernel_rfl) (fun _ _ _ h => h) (Or.inl ⟨by rfl, ?_⟩) (by assumption) ?_
    rotate_left 1
    · intro W hSw; go_simp; (try with_reducible rfl)
    try simp only [Act.put, List.setIfInBounds_toArray, List.set_cons_zero, List.set_cons_succ]
    refine wpAnyH_take (i := 5) (v := ?_) rfl (by kernel_rfl) (by kernel_rfl) (by kernel_rfl) (fun _ _ _ h => h) (Or.inl ⟨by rfl, ?_⟩) (by assumption) ?_
    rotate_left 1
    · intro W hSw; go_simp; (try with_reducible rfl)
    try simp only [Act.put, List.setIfInBounds_toArray, List.set_cons_zero, List.set_cons_succ]
    refine wpAnyH_take (i := 6) (v := ?_) rfl (by kernel_rfl) (by kernel_rfl) (by kernel_rfl) (fun _ _ _ h => h) (Or.inl ⟨by rfl, ?_⟩) (by assumption) ?_
    rotate_left 1
    · intro W hSw; go_simp; (try with_reducible rfl)
    try simp only [Act.put, List.setIfInBounds_toArray, List.set_cons_zero, List.set_cons_succ]
    refine wpAnyH_take (i := 7) (v := ?_) rfl (by kernel_rfl) (by kernel_rfl) (by kernel_rfl) (fun _ _ _ h => h) (Or.inl ⟨by rfl, ?_⟩) (by assumption) ?_
    rotate_left 1
    · intro W hSw; have c1 : W.cell? ⟨nh, 1, none⟩ = some (.string ⟨h.name.toArray⟩) := cell_of hSw.row 1 rfl; clear hSw; go_simp; (try with_reducible rfl)
    try simp only [Act.put, List.setIfInBounds_toArray, List.set_cons_zero, List.set_cons_succ]
    refine wpAnyH_take (i := 8) (v := ?_) rfl (by kernel_rfl) (by kernel_rfl) (by kernel_rfl) (fun _ _ _ h => h) (Or.inl ⟨by rfl, ?_⟩) (by assumption) ?_
    rotate_left 1
    · intro W hSw; go_simp; (try with_reducible rfl)
    try simp only [Act.put, List.setIfInBounds_toArray, List.set_cons_zero, List.set_cons_succ]
    refine wpAnyH_take (i := 9) (v := ?_) rfl (by kernel_rfl) (by kernel_rfl) (by kernel_rfl) (fun _ _ _ h => h) (Or.inl ⟨by rfl, ?_⟩) (by assumption) ?_
    rotate_left 1
    · intro W hSw; go_simp; (try with_reducible rfl)
    try simp only [Act.put, List.setIfInBounds_toArray, List.set_cons_zero, List.set_cons_succ]
    refine wpAnyH_take (i := 10) (v := ?_) rfl (by kernel_rfl) (by kernel_rfl) (by kernel_rfl) (fun _ _ _ h => h) (Or.inl ⟨by rfl, ?_⟩) (by assumption) ?_
    rotate_left 1
    · intro W hSw; go_simp; (try with_reducible rfl)
    try simp only [Act.put, List.setIfInBounds_toArray, List.set_cons_zero, List.set_cons_succ]
    refine wpAnyH_take (i := 11) (v := ?_) rfl (by kernel_rfl) (by kernel_rfl) (by kernel_rfl) (fun _ _ _ h => h) (Or.inl ⟨by rfl, ?_⟩) (by assumption) ?_
    rotate_left 1
    · intro W hSw; have c2 : W.cell? ⟨nh, 2, none⟩ = some (.string ⟨h.link.toArray⟩) := cell_of hSw.row 2 rfl; clear hSw; go_simp; (try with_reducible rfl)
    try simp only [Act.put, List.setIfInBounds_toArray, List.set_cons_zero, List.set_cons_succ]
    refine wpAnyH_take (i := 12) (v := ?_) rfl (by kernel_rfl) (by kernel_rfl) (by kernel_rfl) (fun _ _ _ h => h) (Or.inl ⟨by rfl, ?_⟩) (by assumption) ?_
    rotate_left 1
    · intro W hSw; go_simp; (try with_reducible rfl)
    try simp only [Act.put, List.setIfInBounds_toArray, List.set_cons_zero, List.set_cons_succ]
    refine wpAnyH_take (i := 13) (v := ?_) rfl (by kernel_rfl) (by kernel_rfl) (by kernel_rfl) (fun _ _ _ h => h) (Or.inl ⟨by rfl, ?_⟩) (by assumption) ?_
    rotate_left 1
    · intro W hSw; go_simp; (try with_reducible rfl)
    try simp only [Act.put, List.setIfInBounds_toArray, List.set_cons_zero, List.set_cons_succ]
    refine wpAnyH_take (i := 14) (v := ?_) rfl (by kernel_rfl) (by kernel_rfl) (by kernel_rfl) (fun _ _ _ h => h) (Or.inl ⟨by rfl, ?_⟩) (by assumption) ?_
    rotate_left 1
    · intro W hSw; go_simp; (try with_reducible rfl)
    try simp only [Act.put, List.setIfInBounds_toArray, List.set_cons_zero, List.set_cons_succ]
    refine wpAnyH_take (i := 15) (v := ?_) rfl (by kernel_rfl) (by kernel_rfl) (by kernel_rfl) (fun _ _ _ h => h) (Or.inl ⟨by rfl, ?_⟩) (by assumption) ?_
    rotate_left 1
    · intro W hSw; have c3 : W.cell? ⟨nh, 3, none⟩ = some (.int .i64 h.size) := cell_of hSw.row 3 rfl; clear hSw; go_simp; (try with_reducible rfl)
    try simp only [Act.put, List.setIfInBounds_toArray, List.set_cons_zero, List.set_cons_succ]
    refine wpAnyH_take (i := 16) (v := ?_) rfl (by kernel_rfl) (by kernel_rfl) (by kernel_rfl) (fun _ _ _ h => h) (Or.inl ⟨by rfl, ?_⟩) (by assumption) ?_
    rotate_left 1
    · intro W hSw; go_simp; (try with_reducible rfl)
    try simp only [Act.put, List.setIfInBounds_toArray, List.set_cons_zero, List.set_cons_succ]
    refine wpAnyH_take (i := 17) (v := ?_) rfl (by kernel_rfl) (by kernel_rfl) (by kernel_rfl) (fun _ _ _ h => h) (Or.inl ⟨by rfl, ?_⟩) (by assumption) ?_
    rotate_left 1
    · intro W hSw; go_simp; (try with_reducible rfl)
    try simp only [Act.put, List.setIfInBounds_toArray, List.set_cons_zero, List.set_cons_succ]
    refine wpAnyH_take (i := 18) (v := ?_) rfl (by kernel_rfl) (by kernel_rfl) (by kernel_rfl) (fun _ _ _ h => h) (Or.inl ⟨by rfl, ?_⟩) (by assumption) ?_
    rotate_left 1
    · intro W hSw; go_simp; (try with_reducible rfl)
    try simp only [Act.put, List.setIfInBounds_toArray, List.set_cons_zero, List.set_cons_succ]
    refine wpAnyH_take (i := 19) (v := ?_) rfl (by kernel_rfl) (by kernel_rfl) (by kernel_rfl) (fun _ _ _ h => h) (Or.inl ⟨by rfl, ?_⟩) (by assumption) ?_
    rotate_left 1
    · intro W hSw; have c4 : W.cell? ⟨nh, 4, none⟩ = some (.int .i64 h.mode) := cell_of hSw.row 4 rfl; clear hSw; go_simp; (try with_reducible rfl)
    try simp only [Act.put, List.setIfInBounds_toArray, List.set_cons_zero, List.set_cons_succ]
    refine wpAnyH_take (i := 20) (v := ?_) rfl (by kernel_rfl) (by kernel_rfl) (by kernel_rfl) (fun _ _ _ h => h) (Or.inl ⟨by rfl, ?_⟩) (by assumption) ?_
    rotate_left 1
    · intro W hSw; go_simp; (try with_reducible rfl)
    try simp only [Act.put, List.setIfInBounds_toArray, List.set_cons_zero, List.set_cons_succ]
    refine wpAnyH_take (i := 21) (v := ?_) rfl (by kernel_rfl) (by kernel_rfl) (by kernel_rfl) (fun _ _ _ h => h) (Or.inl ⟨by rfl, ?_⟩) (by assumption) ?_
    rotate_left 1
    · intro W hSw; go_simp; (try with_reducible rfl)
    try simp only [Act.put, List.setIfInBounds_toArray, List.set_cons_zero, List.set_cons_succ]
    refine wpAnyH_take (i := 22) (v := ?_) rfl (by kernel_rfl) (by kernel_rfl) (by kernel_rfl) (fun _ _ _ h => h) (Or.inl ⟨by rfl, ?_⟩) (by assumption) ?_
    rotate_left 1
    · intro W hSw; go_simp; (try with_reducible rfl)
    try simp only [Act.put, List.setIfInBounds_toArray, List.set_cons_zero, List.set_cons_succ]
    refine wpAnyH_take (i := 23) (v := ?_) rfl (by kernel_rfl) (by kernel_rfl) (by kernel_rfl) (fun _ _ _ h => h) (Or.inl ⟨by rfl, ?_⟩) (by assumption) ?_
    rotate_left 1
    · intro W hSw; have c5 : W.cell? ⟨nh, 5, none⟩ = some (.int .i64 h.uid) := cell_of hSw.row 5 rfl; clear hSw; go_simp; (try with_reducible rfl)
    try simp only [Act.put, List.setIfInBounds_toArray, List.set_cons_zero, List.set_cons_succ]
    refine wpAnyH_take (i := 24) (v := ?_) rfl (by kernel_rfl) (by kernel_rfl) (by kernel_rfl) (fun _ _ _ h => h) (Or.inl ⟨by rfl, ?_⟩) (by assumption) ?_
    rotate_left 1
    · intro W hSw; go_simp; (try with_reducible rfl)
    try simp only [Act.put, List.setIfInBounds_toArray, List.set_cons_zero, List.set_cons_succ]
    refine wpAnyH_take (i := 25) (v := ?_) rfl (by kernel_rfl) (by kernel_rfl) (by kernel_rfl) (fun _ _ _ h => h) (Or.inl ⟨by rfl, ?_⟩) (by assumption) ?_
    rotate_left 1
    · intro W hSw; go_simp; (try with_reducible rfl)
    try simp only [Act.put, List.setIfInBounds_toArray, List.set_cons_zero, List.set_cons_succ]
    refine wpAnyH_take (i := 26) (v := ?_) rfl (by kernel_rfl) (by kernel_rfl) (by kernel_rfl) (fun _ _ _ h => h) (Or.inl ⟨by rfl, ?_⟩) (by assumption) ?_
    rotate_left 1
    · intro W hSw; go_simp; (try with_reducible rfl)
    try simp only [Act.put, List.setIfInBounds_toArray, List.set_cons_zero, List.set_cons_succ]
    refine wpAnyH_take (i := 27) (v := ?_) rfl (by kernel_rfl) (by kernel_rfl) (by kernel_rfl) (fun _ _ _ h => h) (Or.inl ⟨by rfl, ?_⟩) (by assumption) ?_
    rotate_left 1
    · intro W hSw; have c6 : W.cell? ⟨nh, 6, none⟩ = some (.int .i64 h.gid) := cell_of hSw.row 6 rfl; clear hSw; go_simp; (try with_reducible rfl)
    try simp only [Act.put, List.setIfInBounds_toArray, List.set_cons_zero, List.set_cons_succ]
    refine wpAnyH_take (i := 28) (v := ?_) rfl (by kernel_rfl) (by kernel_rfl) (by kernel_rfl) (fun _ _ _ h => h) (Or.inl ⟨by rfl, ?_⟩) (by assumption) ?_
    rotate_left 1
    · intro W hSw; go_simp; (try with_reducible rfl)
    try simp only [Act.put, List.setIfInBounds_toArray, List.set_cons_zero, List.set_cons_succ]
    refine wpAnyH_take (i := 29) (v := ?_) rfl (by kernel_rfl) (by kernel_rfl) (by kernel_rfl) (fun _ _ _ h => h) (Or.inl ⟨by rfl, ?_⟩) (by assumption) ?_
    rotate_left 1
    · intro W hSw; go_simp; (try with_reducible rfl)
    try simp only [Act.put, List.setIfInBounds_toArray, List.set_cons_zero, List.set_cons_succ]
    refine wpAnyH_take (i := 30) (v := ?_) rfl (by kernel_rfl) (by kernel_rfl) (by kernel_rfl) (fun _ _ _ h => h) (Or.inl ⟨by rfl, ?_⟩) (by assumption) ?_
    rotate_left 1
    · intro W hSw; go_simp; (try with_reducible rfl)
    try simp only [Act.put, List.setIfInBounds_toArray, List.set_cons_zero, List.set_cons_succ]
    refine wpAnyH_take (i := 31) (v := ?_) rfl (by kernel_rfl) (by kernel_rfl) (by kernel_rfl) (fun _ _ _ h => h) (Or.inl ⟨by rfl, ?_⟩) (by assumption) ?_
    rotate_left 1
    · intro W hSw; have c7 : W.cell? ⟨nh, 7, none⟩ = some (.string ⟨h.un.toArray⟩) := cell_of hSw.row 7 rfl; clear hSw; go_simp; (try with_reducible rfl)
    try simp only [Act.put, List.setIfInBounds_toArray, List.set_cons_zero, List.set_cons_succ]
    refine wpAnyH_take (i := 32) (v := ?_) rfl (by kernel_rfl) (by kernel_rfl) (by kernel_rfl) (fun _ _ _ h => h) (Or.inl ⟨by rfl, ?_⟩) (by assumption) ?_
    rotate_left 1
    · intro W hSw; go_simp; (try with_reducible rfl)
    try simp only [Act.put, List.setIfInBounds_toArray, List.set_cons_zero, List.set_cons_succ]
    refine wpAnyH_take (i := 33) (v := ?_) rfl (by kernel_rfl) (by kernel_rfl) (by kernel_rfl) (fun _ _ _ h => h) (Or.inl ⟨by rfl, ?_⟩) (by assumption) ?_
    rotate_left 1
    · intro W hSw; go_simp; (try with_reducible rfl)
    try simp only [Act.put, List.setIfInBounds_toArray, List.set_cons_zero, List.set_cons_succ]
    refine wpAnyH_take (i := 34) (v := ?_) rfl (by kernel_rfl) (by kernel_rfl) (by kernel_rfl) (fun _ _ _ h => h) (Or.inl ⟨by rfl, ?_⟩) (by assumption) ?_
    rotate_left 1
    · intro W hSw; go_simp; (try with_reducible rfl)
    try simp only [Act.put, List.setIfInBounds_toArray, List.set_cons_zero, List.set_cons_succ]
    refine wpAnyH_take (i := 35) (v := ?_) rfl (by kernel_rfl) (by kernel_rfl) (by kernel_rfl) (fun _ _ _ h => h) (Or.inl ⟨by rfl, ?_⟩) (by assumption) ?_
    rotate_left 1
    · intro W hSw; have c8 : W.cell? ⟨nh, 8, none⟩ = some (.string ⟨h.gn.toArray⟩) := cell_of hSw.row 8 rfl; clear hSw; go_simp; (try with_reducible rfl)
    try simp only [Act.put, List.setIfInBounds_toArray, List.set_cons_zero, List.set_cons_succ]
    refine wpAnyH_take (i := 36) (v := ?_) rfl (by kernel_rfl) (by kernel_rfl) (by kernel_rfl) (fun _ _ _ h => h) (Or.inl ⟨by rfl, ?_⟩) (by assumption) ?_
    rotate_left 1
    · intro W hSw; go_simp; (try with_reducible rfl)
    try simp only [Act.put, List.setIfInBounds_toArray, List.set_cons_zero, List.set_cons_succ]
    refine wpAnyH_take (i := 37) (v := ?_) rfl (by kernel_rfl) (by kernel_rfl) (by kernel_rfl) (fun _ _ _ h => h) (Or.inl ⟨by rfl, ?_⟩) (by assumption) ?_
    rotate_left 1
    · intro W hSw; go_simp; (try with_reducible rfl)
    try simp only [Act.put, List.setIfInBounds_toArray, List.set_cons_zero, List.set_cons_succ]
    refine wpAnyH_take (i := 38) (v := ?_) rfl (by kernel_rfl) (by kernel_rfl) (by kernel_rfl) (fun _ _ _ h => h) (Or.inl ⟨by rfl, ?_⟩) (by assumption) ?_
    rotate_left 1
    · intro W hSw; go_simp; (try with_reducible rfl)
    try simp only [Act.put, List.setIfInBounds_toArray, List.set_cons_zero, List.set_cons_succ]
    refine wpAnyH_take (i := 39) (v := ?_) rfl (by kernel_rfl) (by kernel_rfl) (by kernel_rfl) (fun _ _ _ h => h) (Or.inl ⟨by rfl, ?_⟩) (by assumption) ?_
    rotate_left 1
    · intro W hSw; have c9 : W.cell? ⟨nh, 9, none⟩ = some (.int .u64 (n : Int)) := HN.out ▸ cell_of hSw.row 9 rfl; have c10 : W.cell? ⟨nh, 10, none⟩ = some (.int .i64 (h.ms + 62135596800)) := cell_of hSw.row 10 rfl; clear hSw; go_simp; (try with_reducible rfl)
    try simp only [Act.put, List.setIfInBounds_toArray, List.set_cons_zero, List.set_cons_succ]
    refine wpAnyH_take (i := 41) (v := ?_) rfl (by kernel_rfl) (by kernel_rfl) (by kernel_rfl) (fun _ _ _ h => h) (Or.inl ⟨by rfl, ?_⟩) (by assumption) ?_
    rotate_left 1
    · intro W hSw; go_simp; (try with_reducible rfl)
    try simp only [Act.put, List.setIfInBounds_toArray, List.set_cons_zero, List.set_cons_succ]
    refine wpAnyH_take (i := 42) (v := ?_) rfl (by kernel_rfl) (by kernel_rfl) (by kernel_rfl) (fun _ _ _ h => h) (Or.inl ⟨by rfl, ?_⟩) (by assumption) ?_
    rotate_left 1
    · intro W hSw; go_simp; (try with_reducible rfl)
    try simp only [Act.put, List.setIfInBounds_toArray, List.set_cons_zero, List.set_cons_succ]
    refine wpAnyH_take (i := 43) (v := ?_) rfl (by kernel_rfl) (by kernel_rfl) (by kernel_rfl) (fun _ _ _ h => h) (Or.inl ⟨by rfl, ?_⟩) (by assumption) ?_
    rotate_left 1
    · intro W hSw; go_simp; (try with_reducible rfl)
    try simp only [Act.put, List.setIfInBounds_toArray, List.set_cons_zero, List.set_cons_succ]
    refine wpAnyH_take (i := 44) (v := ?_) rfl (by kernel_rfl) (by kernel_rfl) (by kernel_rfl) (fun _ _ _ h => h) (Or.inl ⟨by rfl, ?_⟩) (by assumption) ?_
    rotate_left 1
    · intro W hSw; have d11 : W.cell? ⟨nh, 11, none⟩ = some (.int .u64 (na : Int)) := EA0.out ▸ cell_of hSw.row 11 rfl; have d12 : W.cell? ⟨nh, 12, none⟩ = some (.int .i64 sa) := EA1.out ▸ cell_of hSw.row 12 rfl; clear hSw; go_simp; (try with_reducible rfl)
    try simp only [Act.put, List.setIfInBounds_toArray, List.set_cons_zero, List.set_cons_succ]
    refine wpAnyH_take (i := 47) (v := ?_) rfl (by kernel_rfl) (by kernel_rfl) (by kernel_rfl) (fun _ _ _ h => h) (Or.inl ⟨by rfl, ?_⟩) (by assumption) ?_
    rotate_left 1
    · intro W hSw; go_simp; (try with_reducible rfl)
    try simp only [Act.put, List.setIfInBounds_toArray, List.set_cons_zero, List.set_cons_succ]
    refine wpAnyH_take (i := 48) (v := ?_) rfl (by kernel_rfl) (by kernel_rfl) (by kernel_rfl) (fun _ _ _ h => h) (Or.inl ⟨by rfl, ?_⟩) (by assumption) ?_
    rotate_left 1
    · intro W hSw; go_simp; (try with_reducible rfl)
    try simp only [Act.put, List.setIfInBounds_toArray, List.set_cons_zero, List.set_cons_succ]
    refine wpAnyH_take (i := 49) (v := ?_) rfl (by kernel_rfl) (by kernel_rfl) (by kernel_rfl) (fun _ _ _ h => h) (Or.inl ⟨by rfl, ?_⟩) (by assumption) ?_
    rotate_left 1
    · intro W hSw; go_simp; (try with_reducible rfl)
    try simp only [Act.put, List.setIfInBounds_toArray, List.set_cons_zero, List.set_cons_succ]
    refine wpAnyH_take (i := 50) (v := ?_) rfl (by kernel_rfl) (by kernel_rfl) (by kernel_rfl) (fun _ _ _ h => h) (Or.inl ⟨by rfl, ?_⟩) (by assumption) ?_
    rotate_left 1
    · intro W hSw; have d13 : W.cell? ⟨nh, 13, none⟩ = some (.int .u64 (nc : Int)) := EC0.out ▸ cell_of hSw.row 13 rfl; have d14 : W.cell? ⟨nh, 14, none⟩ = some (.int .i64 sc) := EC1.out ▸ cell_of hSw.row 14 rfl; clear hSw; go_simp; (try with_reducible rfl)
    try simp only [Act.put, List.setIfInBounds_toArray, List.set_cons_zero, List.set_cons_succ]
    refine wpAnyH_take (i := 53) (v := ?_) rfl (by kernel_rfl) (by kernel_rfl) (by kernel_rfl) (fun _ _ _ h => h) (Or.inl ⟨by rfl, ?_⟩) (by assumption) ?_
    rotate_left 1
    · intro W hSw; go_simp; (try with_reducible rfl)
    try simp only [Act.put, List.setIfInBounds_toArray, List.set_cons_zero, List.set_cons_succ]
    refine wpAnyH_take (i := 54) (v := ?_) rfl (by kernel_rfl) (by kernel_rfl) (by kernel_rfl) (fun _ _ _ h => h) (Or.inl ⟨by rfl, ?_⟩) (by assumption) ?_
    rotate_left 1
    · intro W hSw; go_simp; (try with_reducible rfl)
    try simp only [Act.put, List.setIfInBounds_toArray, List.set_cons_zero, List.set_cons_succ]
    refine wpAnyH_take (i := 55) (v := ?_) rfl (by kernel_rfl) (by kernel_rfl) (by kernel_rfl) (fun _ _ _ h => h) (Or.inl ⟨by rfl, ?_⟩) (by assumption) ?_
    rotate_left 1
    · intro W hSw; go_simp; (try with_reducible rfl)
    try simp only [Act.put, List.setIfInBounds_toArray, List.set_cons_zero, List.set_cons_succ]
    refine wpAnyH_take (i := 56) (v := ?_) rfl (by kernel_rfl) (by kernel_rfl) (by kernel_rfl) (fun _ _ _ h => h) (Or.inl ⟨by rfl, ?_⟩) (by assumption) ?_
    rotate_left 1
    · intro W hSw; have c15 : W.cell? ⟨nh, 15, none⟩ = some (.int .i64 h.maj) := cell_of hSw.row 15 rfl; clear hSw; go_simp; (try with_reducible rfl)
    try simp only [Act.put, List.setIfInBounds_toArray, List.set_cons_zero, List.set_cons_succ]
    refine wpAnyH_take (i := 57) (v := ?_) rfl (by kernel_rfl) (by kernel_rfl) (by kernel_rfl) (fun _ _ _ h => h) (Or.inl ⟨by rfl, ?_⟩) (by assumption) ?_
    rotate_left 1
    · intro W hSw; go_simp; (try with_reducible rfl)
    try simp only [Act.put, List.setIfInBounds_toArray, List.set_cons_zero, List.set_cons_succ]
    refine wpAnyH_take (i := 58) (v := ?_) rfl (by kernel_rfl) (by kernel_rfl) (by kernel_rfl) (fun _ _ _ h => h) (Or.inl ⟨by rfl, ?_⟩) (by assumption) ?_
    rotate_left 1
    · intro W hSw; go_simp; (try with_reducible rfl)
    try simp only [Act.put, List.setIfInBounds_toArray, List.set_cons_zero, List.set_cons_succ]
    refine wpAnyH_take (i := 59) (v := ?_) rfl (by kernel_rfl) (by kernel_rfl) (by kernel_rfl) (fun _ _ _ h => h) (Or.inl ⟨by rfl, ?_⟩) (by assumption) ?_
    rotate_left 1
    · intro W hSw; go_simp; (try with_reducible rfl)
    try simp only [Act.put, List.setIfInBounds_toArray, List.set_cons_zero, List.set_cons_succ]
    refine wpAnyH_take (i := 60) (v := ?_) rfl (by kernel_rfl) (by kernel_rfl) (by kernel_rfl) (fun _ _ _ h => h) (Or.inl ⟨by rfl, ?_⟩) (by assumption) ?_
    rotate_left 1
    · intro W hSw; have c16 : W.cell? ⟨nh, 16, none⟩ = some (.int .i64 h.min) := cell_of hSw.row 16 rfl; clear hSw; go_simp; (try with_reducible rfl)
    try simp only [Act.put, List.setIfInBounds_toArray, List.set_cons_zero, List.set_cons_succ]
    refine wpAnyH_take (i := 61) (v := ?_) rfl (by kernel_rfl) (by kernel_rfl) (by kernel_rfl) (fun _ _ _ h => h) (Or.inl ⟨by rfl, ?_⟩) (by assumption) ?_
    rotate_left 1
    · intro W hSw; go_simp; (try with_reducible rfl)
    try simp only [Act.put, List.setIfInBounds_toArray, List.set_cons_zero, List.set_cons_succ]
    refine wpAnyH_take (i := 62) (v := ?_) rfl (by kernel_rfl) (by kernel_rfl) (by kernel_rfl) (fun _ _ _ h => h) (Or.inl ⟨by rfl, ?_⟩) (by assumption) ?_
    rotate_left 1
    · intro W hSw; go_simp; (try with_reducible rfl)
    try simp only [Act.put, List.setIfInBounds_toArray, List.set_cons_zero, List.set_cons_succ]
    refine wpAnyH_take (i := 63) (v := ?_) rfl (by kernel_rfl) (by kernel_rfl) (by kernel_rfl) (fun _ _ _ h => h) (Or.inl ⟨by rfl, ?_⟩) (by assumption) ?_
    rotate_left 1
    · intro W hSw; go_simp; (try with_reducible rfl)
    try simp only [Act.put, List.setIfInBounds_toArray, List.set_cons_zero, List.set_cons_succ]
    refine wpAnyH_take (i := 64) (v := ?_) rfl (by kernel_rfl) (by kernel_rfl) (by kernel_rfl) (fun _ _ _ h => h) (Or.inl ⟨by rfl, ?_⟩) (by assumption) ?_
    rotate_left 1
    · intro W hSw; have c19 : W.cell? ⟨nh, 19, none⟩ = some (.int .i64 f) := cell_of hSw.row 19 rfl; clear hSw; go_simp; (try with_reducible rfl)
    try simp only [Act.put, List.setIfInBounds_toArray, List.set_cons_zero, List.set_cons_succ]
    refine wpAnyH_ready (rs := [40, 67]) (by decide +kernel) (by simp) ?_
    refine AllReadyH.cons (o := _) rfl (fun K hK => ?_) (AllReadyH.cons (o := _) rfl (fun K hK => ?_) AllReadyH.nil)
    · go_simp
      go_at_call 79
      refine ((HTM _).out).mono ?_
      rintro e w1 ⟨rfl, k1⟩
      have S1 := Lib.hid (hHeld.grow k1)
      clear k1
      clear hHeld
      go_wp2_with fail
      refine hK.out _ _ ?_ (fun hHeld => ?_)
      · exact S1.out
      clear hK K S1
      try simp only [Act.put, List.setIfInBounds_toArray, List.set_cons_zero, List.set_cons_succ]
      refine wpAnyH_ready (rs := [45, 67]) (by decide +kernel) (by simp) ?_
      refine AllReadyH.cons (o := _) rfl (fun K hK => ?_) (AllReadyH.cons (o := _) rfl (fun K hK => ?_) AllReadyH.nil)
      · go_simp
        go_at_call 80
        refine ((HZA _).out).mono ?_
        rintro e w1 ⟨rfl, k1⟩
        have S1 := Lib.hid (hHeld.grow k1)
        clear k1
        clear hHeld
        go_wp2_with fail
        refine hK.out _ _ ?_ (fun hHeld => ?_)
        · exact S1.out
        clear hK K S1
        try simp only [Act.put, List.setIfInBounds_toArray, List.set_cons_zero, List.set_cons_succ]
        refine wpAnyH_take (i := 46) (v := ?_) rfl (by kernel_rfl) (by kernel_rfl) (by kernel_rfl) (fun _ _ _ h => h) (Or.inl ⟨by rfl, ?_⟩) (by assumption) ?_
        rotate_left 1
        · intro W hSw; clear hSw; go_simp; (try with_reducible rfl)
        try simp only [Act.put, List.setIfInBounds_toArray, List.set_cons_zero, List.set_cons_succ]
        refine wpAnyH_ready (rs := [51, 67]) (by decide +kernel) (by simp) ?_
        refine AllReadyH.cons (o := _) rfl (fun K hK => ?_) (AllReadyH.cons (o := _) rfl (fun K hK => ?_) AllReadyH.nil)
        · go_simp
          go_at_call 80
          refine ((HZC _).out).mono ?_
          rintro e w1 ⟨rfl, k1⟩
          have S1 := Lib.hid (hHeld.grow k1)
          clear k1
          clear hHeld
          go_wp2_with fail
          refine hK.out _ _ ?_ (fun hHeld => ?_)
          · exact S1.out
          clear hK K S1
          try simp only [Act.put, List.setIfInBounds_toArray, List.set_cons_zero, List.set_cons_succ]
          refine wpAnyH_take (i := 52) (v := ?_) rfl (by kernel_rfl) (by kernel_rfl) (by kernel_rfl) (fun _ _ _ h => h) (Or.inl ⟨by rfl, ?_⟩) (by assumption) ?_
          rotate_left 1
          · intro W hSw; clear hSw; go_simp; (try with_reducible rfl)
          try simp only [Act.put, List.setIfInBounds_toArray, List.set_cons_zero, List.set_cons_succ]
          refine wpAnyH_ready (rs := [65, 67]) (by decide +kernel) (by simp) ?_
          refine AllReadyH.cons (o := _) rfl (fun K hK => ?_) (AllReadyH.cons (o := _) rfl (fun K hK => ?_) AllReadyH.nil)
          · go_simp
            go_at_call 81
            refine (Dw _ f).mono ?_
            rintro e w1 ⟨rfl, hw1⟩
            subst hw1
            have S1 := Lib.hid (hHeld)
            clear hHeld
            go_wp2_with fail
            refine hK.out _ _ ?_ (fun hHeld => ?_)
            · exact S1.out
            clear hK K S1
            try simp only [Act.put, List.setIfInBounds_toArray, List.set_cons_zero, List.set_cons_succ]
            refine wpAnyH_take (i := 66) (v := ?_) (oi := Dl) rfl (by kernel_rfl) (by kernel_rfl) (by kernel_rfl) (fun _ _ _ h => h) (Or.inl ⟨by rfl, ?_⟩) (by assumption) ?_
            rotate_left 1
            · intro W hSw; clear hSw; unfold Dl; go_simp; (try with_reducible rfl)
            try simp only [Act.put, Dl, List.setIfInBounds_toArray, List.set_cons_zero, List.set_cons_succ]
            refine wpAnyH_ready (rs := [67]) (by decide +kernel) (by simp) ?_
            refine AllReadyH.cons (o := _) rfl (fun K hK => ?_) AllReadyH.nil
            go_simp
            have HP : Hid ((w1.alloc (.cells iZero.toArray 26)).heap[w1.heap.size]? = some (.cells iZero.toArray 26 (0, 0))) := Ba w1 (.cells iZero.toArray 26)
            have S1 := Lib.hid (hHeld.grow ((Kp.refl (fun _ => False) w1).alloc (.cells iZero.toArray 26)))
            have HPL : w.heap.size + 1 ≤ w1.heap.size := Bv hHeld.res
            clear hHeld
            refine hK.out _ _ ?_ (fun hHeld => ?_)
            · exact S1.out
            clear hK K S1
            try simp only [Act.put, List.setIfInBounds_toArray, List.set_cons_zero, List.set_cons_succ]
            generalize w1.heap.size = P at HP HPL ⊢
            have F9 := Lib.hid (FB.out (w1.alloc (.cells iZero.toArray 26)) P _ hHeld HP.out rfl HPL)
            have T := Ga HP.out (n := 21) (by decide)
            have ONE := Lib.hid (Ii h n ba bc f)
            clear hHeld
            refine wpAnyH_ready (rs := [68]) (by decide +kernel) (by simp) ?_
            refine AllReadyH.cons (o := _) rfl (fun K hK => ?_) AllReadyH.nil
            rw [if_pos (by rfl)]
            refine wp_store_mid 26 (.tmp 3) (.tmp 76) rfl P 0 (Ha h.typ.toNat h.name h.link h.size h.mode h.uid h.gid h.un h.gn h.ms (n : Int) (!ba) 0 0 (!bc) 0 0 h.maj h.min (.slice none 0 0) (Ka f)).toArray rfl rfl T (by kernel_rfl) ONE.out ?_
            refine hK.out _ _ ?_ (fun hHeld => ?_)
            · exact ⟨F9.out.out.2, F9.out.out.1.res, F9.out.out.1.kp⟩
            clear hK K
            try simp only [Act.put, List.setIfInBounds_toArray, List.set_cons_zero, List.set_cons_succ]
            refine wpAnyH_done (by decide +kernel) ?_ _
            clear hHeld HP T
            go_wp2_with fail
            go_meet
            case rel => exact ⟨P, rfl, HPL, F9.out⟩
          · go_simp
            have HP : Hid ((w1.alloc (.cells iZero.toArray 26)).heap[w1.heap.size]? = some (.cells iZero.toArray 26 (0, 0))) := Ba w1 (.cells iZero.toArray 26)
            have S1 := Lib.hid (hHeld.grow ((Kp.refl (fun _ => False) w1).alloc (.cells iZero.toArray 26)))
            have HPL : w.heap.size + 1 ≤ w1.heap.size := Bv hHeld.res
            clear hHeld
            refine hK.out _ _ ?_ (fun hHeld => ?_)
            · exact S1.out
            clear hK K S1
            try simp only [Act.put, List.setIfInBounds_toArray, List.set_cons_zero, List.set_cons_succ]
            generalize w1.heap.size = P at HP HPL ⊢
            refine wpAnyH_ready (rs := [65]) (by decide +kernel) (by simp) ?_
            refine AllReadyH.cons (o := _) rfl (fun K hK => ?_) AllReadyH.nil
            go_simp
            go_at_call 81
            refine (Dw _ f).mono ?_
            rintro e w1 ⟨rfl, hw1⟩
            subst hw1
            have S1 := Lib.hid (hHeld)
            clear hHeld
            go_wp2_with fail
            refine hK.out _ _ ?_ (fun hHeld => ?_)
            · exact S1.out
            clear hK K S1
            try simp only [Act.put, List.setIfInBounds_toArray, List.set_cons_zero, List.set_cons_succ]
            refine wpAnyH_take (i := 66) (v := ?_) (oi := Dl) rfl (by kernel_rfl) (by kernel_rfl) (by kernel_rfl) (fun _ _ _ h => h) (Or.inl ⟨by rfl, ?_⟩) (by assumption) ?_
            rotate_left 1
            · intro W hSw; clear hSw; unfold Dl; go_simp; (try with_reducible rfl)
            try simp only [Act.put, Dl, List.setIfInBounds_toArray, List.set_cons_zero, List.set_cons_succ]
            have F9 := Lib.hid (FB.out (w1.alloc (.cells iZero.toArray 26)) P _ hHeld HP.out rfl HPL)
            have T := Ga HP.out (n := 21) (by decide)
            have ONE := Lib.hid (Ii h n ba bc f)
            clear hHeld
            refine wpAnyH_ready (rs := [68]) (by decide +kernel) (by simp) ?_
            refine AllReadyH.cons (o := _) rfl (fun K hK => ?_) AllReadyH.nil
            rw [if_pos (by rfl)]
            refine wp_store_mid 26 (.tmp 3) (.tmp 76) rfl P 0 (Ha h.typ.toNat h.name h.link h.size h.mode h.uid h.gid h.un h.gn h.ms (n : Int) (!ba) 0 0 (!bc) 0 0 h.maj h.min (.slice none 0 0) (Ka f)).toArray rfl rfl T (by kernel_rfl) ONE.out ?_
            refine hK.out _ _ ?_ (fun hHeld => ?_)
            · exact ⟨F9.out.out.2, F9.out.out.1.res, F9.out.out.1.kp⟩
            clear hK K
            try simp only [Act.put, List.setIfInBounds_toArray, List.set_cons_zero, List.set_cons_succ]
            refine wpAnyH_done (by decide +kernel) ?_ _
            clear hHeld HP T
            go_wp2_with fail
            go_meet
            case rel => exact ⟨P, rfl, HPL, F9.out⟩
        · go_simp
          have HP : Hid ((w1.alloc (.cells iZero.toArray 26)).heap[w1.heap.size]? = some (.cells iZero.toArray 26 (0, 0))) := Ba w1 (.cells iZero.toArray 26)
          have S1 := Lib.hid (hHeld.grow ((Kp.refl (fun _ => False) w1).alloc (.cells iZero.toArray 26)))
          have HPL : w.heap.size + 1 ≤ w1.heap.size := Bv hHeld.res
          clear hHeld
          refine hK.out _ _ ?_ (fun hHeld => ?_)
          · exact S1.out
          clear hK K S1
          try simp only [Act.put, List.setIfInBounds_toArray, List.set_cons_zero, List.set_cons_succ]
          generalize w1.heap.size = P at HP HPL ⊢
          refine wpAnyH_ready (rs := [51]) (by decide +kernel) (by simp) ?_
          refine AllReadyH.cons (o := _) rfl (fun K hK => ?_) AllReadyH.nil
          go_simp
          go_at_call 80
          refine ((HZC _).out).mono ?_
          rintro e w1 ⟨rfl, k1⟩
          have S1 := Lib.hid (hHeld.grow k1)
          have HP1 := Lib.hid (k1.heap HP.out (fun h => h))
          clear HP
          have HP := HP1
          clear HP1
          clear k1
          clear hHeld
          go_wp2_with fail
          refine hK.out _ _ ?_ (fun hHeld => ?_)
          · exact S1.out
          clear hK K S1
          try simp only [Act.put, List.setIfInBounds_toArray, List.set_cons_zero, List.set_cons_succ]
          refine wpAnyH_take (i := 52) (v := ?_) rfl (by kernel_rfl) (by kernel_rfl) (by kernel_rfl) (fun _ _ _ h => h) (Or.inl ⟨by rfl, ?_⟩) (by assumption) ?_
          rotate_left 1
          · intro W hSw; clear hSw; go_simp; (try with_reducible rfl)
          try simp only [Act.put, List.setIfInBounds_toArray, List.set_cons_zero, List.set_cons_succ]
          refine wpAnyH_ready (rs := [65]) (by decide +kernel) (by simp) ?_
          refine AllReadyH.cons (o := _) rfl (fun K hK => ?_) AllReadyH.nil
          go_simp
          go_at_call 81
          refine (Dw _ f).mono ?_
          rintro e w1 ⟨rfl, hw1⟩
          subst hw1
          have S1 := Lib.hid (hHeld)
          clear hHeld
          go_wp2_with fail
          refine hK.out _ _ ?_ (fun hHeld => ?_)
          · exact S1.out
          clear hK K S1
          try simp only [Act.put, List.setIfInBounds_toArray, List.set_cons_zero, List.set_cons_succ]
          refine wpAnyH_take (i := 66) (v := ?_) (oi := Dl) rfl (by kernel_rfl) (by kernel_rfl) (by kernel_rfl) (fun _ _ _ h => h) (Or.inl ⟨by rfl, ?_⟩) (by assumption) ?_
          rotate_left 1
          · intro W hSw; clear hSw; unfold Dl; go_simp; (try with_reducible rfl)
          try simp only [Act.put, Dl, List.setIfInBounds_toArray, List.set_cons_zero, List.set_cons_succ]
          have F9 := Lib.hid (FB.out w1 P _ hHeld HP.out rfl HPL)
          have T := Ga HP.out (n := 21) (by decide)
          have ONE := Lib.hid (Ii h n ba bc f)
          clear hHeld
          refine wpAnyH_ready (rs := [68]) (by decide +kernel) (by simp) ?_
          refine AllReadyH.cons (o := _) rfl (fun K hK => ?_) AllReadyH.nil
          rw [if_pos (by rfl)]
          refine wp_store_mid 26 (.tmp 3) (.tmp 76) rfl P 0 (Ha h.typ.toNat h.name h.link h.size h.mode h.uid h.gid h.un h.gn h.ms (n : Int) (!ba) 0 0 (!bc) 0 0 h.maj h.min (.slice none 0 0) (Ka f)).toArray rfl rfl T (by kernel_rfl) ONE.out ?_
          refine hK.out _ _ ?_ (fun hHeld => ?_)
          · exact ⟨F9.out.out.2, F9.out.out.1.res, F9.out.out.1.kp⟩
          clear hK K
          try simp only [Act.put, List.setIfInBounds_toArray, List.set_cons_zero, List.set_cons_succ]
          refine wpAnyH_done (by decide +kernel) ?_ _
          clear hHeld HP T
          go_wp2_with fail
          go_meet
          case rel => exact ⟨P, rfl, HPL, F9.out⟩
      · go_simp
        have HP : Hid ((w1.alloc (.cells iZero.toArray 26)).heap[w1.heap.size]? = some (.cells iZero.toArray 26 (0, 0))) := Ba w1 (.cells iZero.toArray 26)
        have S1 := Lib.hid (hHeld.grow ((Kp.refl (fun _ => False) w1).alloc (.cells iZero.toArray 26)))
        have HPL : w.heap.size + 1 ≤ w1.heap.size := Bv hHeld.res
        clear hHeld
        refine hK.out _ _ ?_ (fun hHeld => ?_)
        · exact S1.out
        clear hK K S1
        try simp only [Act.put, List.setIfInBounds_toArray, List.set_cons_zero, List.set_cons_succ]
        generalize w1.heap.size = P at HP HPL ⊢
        refine wpAnyH_ready (rs := [45]) (by decide +kernel) (by simp) ?_
        refine AllReadyH.cons (o := _) rfl (fun K hK => ?_) AllReadyH.nil
        go_simp
        go_at_call 80
        refine ((HZA _).out).mono ?_
        rintro e w1 ⟨rfl, k1⟩
        have S1 := Lib.hid (hHeld.grow k1)
        have HP1 := Lib.hid (k1.heap HP.out (fun h => h))
        clear HP
        have HP := HP1
        clear HP1
        clear k1
        clear hHeld
        go_wp2_with fail
        refine hK.out _ _ ?_ (fun hHeld => ?_)
        · exact S1.out
        clear hK K S1
        try simp only [Act.put, List.setIfInBounds_toArray, List.set_cons_zero, List.set_cons_succ]
        refine wpAnyH_take (i := 46) (v := ?_) rfl (by kernel_rfl) (by kernel_rfl) (by kernel_rfl) (fun _ _ _ h => h) (Or.inl ⟨by rfl, ?_⟩) (by assumption) ?_
        rotate_left 1
        · intro W hSw; clear hSw; go_simp; (try with_reducible rfl)
        try simp only [Act.put, List.setIfInBounds_toArray, List.set_cons_zero, List.set_cons_succ]
        refine wpAnyH_ready (rs := [51]) (by decide +kernel) (by simp) ?_
        refine AllReadyH.cons (o := _) rfl (fun K hK => ?_) AllReadyH.nil
        go_simp
        go_at_call 80
        refine ((HZC _).out).mono ?_
        rintro e w1 ⟨rfl, k1⟩
        have S1 := Lib.hid (hHeld.grow k1)
        have HP1 := Lib.hid (k1.heap HP.out (fun h => h))
        clear HP
        have HP := HP1
        clear HP1
        clear k1
        clear hHeld
        go_wp2_with fail
        refine hK.out _ _ ?_ (fun hHeld => ?_)
        · exact S1.out
        clear hK K S1
        try simp only [Act.put, List.setIfInBounds_toArray, List.set_cons_zero, List.set_cons_succ]
        refine wpAnyH_take (i := 52) (v := ?_) rfl (by kernel_rfl) (by kernel_rfl) (by kernel_rfl) (fun _ _ _ h => h) (Or.inl ⟨by rfl, ?_⟩) (by assumption) ?_
        rotate_left 1
        · intro W hSw; clear hSw; go_simp; (try with_reducible rfl)
        try simp only [Act.put, List.setIfInBounds_toArray, List.set_cons_zero, List.set_cons_succ]
        refine wpAnyH_ready (rs := [65]) (by decide +kernel) (by simp) ?_
        refine AllReadyH.cons (o := _) rfl (fun K hK => ?_) AllReadyH.nil
        go_simp
        go_at_call 81
        refine (Dw _ f).mono ?_
        rintro e w1 ⟨rfl, hw1⟩
        subst hw1
        have S1 := Lib.hid (hHeld)
        clear hHeld
        go_wp2_with fail
        refine hK.out _ _ ?_ (fun hHeld => ?_)
        · exact S1.out
        clear hK K S1
        try simp only [Act.put, List.setIfInBounds_toArray, List.set_cons_zero, List.set_cons_succ]
        refine wpAnyH_take (i := 66) (v := ?_) (oi := Dl) rfl (by kernel_rfl) (by kernel_rfl) (by kernel_rfl) (fun _ _ _ h => h) (Or.inl ⟨by rfl, ?_⟩) (by assumption) ?_
        rotate_left 1
        · intro W hSw; clear hSw; unfold Dl; go_simp; (try with_reducible rfl)
        try simp only [Act.put, Dl, List.setIfInBounds_toArray, List.set_cons_zero, List.set_cons_succ]
        have F9 := Lib.hid (FB.out w1 P _ hHeld HP.out rfl HPL)
        have T := Ga HP.out (n := 21) (by decide)
        have ONE := Lib.hid (Ii h n ba bc f)
        clear hHeld
        refine wpAnyH_ready (rs := [68]) (by decide +kernel) (by simp) ?_
        refine AllReadyH.cons (o := _) rfl (fun K hK => ?_) AllReadyH.nil
        rw [if_pos (by rfl)]
        refine wp_store_mid 26 (.tmp 3) (.tmp 76) rfl P 0 (Ha h.typ.toNat h.name h.link h.size h.mode h.uid h.gid h.un h.gn h.ms (n : Int) (!ba) 0 0 (!bc) 0 0 h.maj h.min (.slice none 0 0) (Ka f)).toArray rfl rfl T (by kernel_rfl) ONE.out ?_
        refine hK.out _ _ ?_ (fun hHeld => ?_)
        · exact ⟨F9.out.out.2, F9.out.out.1.res, F9.out.out.1.kp⟩
        clear hK K
        try simp only [Act.put, List.setIfInBounds_toArray, List.set_cons_zero, List.set_cons_succ]
        refine wpAnyH_done (by decide +kernel) ?_ _
        clear hHeld HP T
        go_wp2_with fail
        go_meet
        case rel => exact ⟨P, rfl, HPL, F9.out⟩
    · go_simp
      have HP : Hid ((wA.drew.alloc (.cells iZero.toArray 26)).heap[wA.heap.size]? = some (.cells iZero.toArray 26 (0, 0))) := Ba wA.drew (.cells iZero.toArray 26)
      have S1 := Lib.hid (hHeld.grow ((Kp.refl (fun _ => False) wA.drew).alloc (.cells iZero.toArray 26)))
      have HPL : w.heap.size + 1 ≤ wA.heap.size := Bv hHeld.res
      clear hHeld
      refine hK.out _ _ ?_ (fun hHeld => ?_)
      · exact S1.out
      clear hK K S1
      try simp only [Act.put, List.setIfInBounds_toArray, List.set_cons_zero, List.set_cons_succ]
      generalize wA.heap.size = P at HP HPL ⊢
      refine wpAnyH_ready (rs := [40]) (by decide +kernel) (by simp) ?_
      refine AllReadyH.cons (o := _) rfl (fun K hK => ?_) AllReadyH.nil
      go_simp
      go_at_call 79
      refine ((HTM _).out).mono ?_
      rintro e w1 ⟨rfl, k1⟩
      have S1 := Lib.hid (hHeld.grow k1)
      have HP1 := Lib.hid (k1.heap HP.out (fun h => h))
      clear HP
      have HP := HP1
      clear HP1
      clear k1
      clear hHeld
      go_wp2_with fail
      refine hK.out _ _ ?_ (fun hHeld => ?_)
      · exact S1.out
      clear hK K S1
      try simp only [Act.put, List.setIfInBounds_toArray, List.set_cons_zero, List.set_cons_succ]
      refine wpAnyH_ready (rs := [45]) (by decide +kernel) (by simp) ?_
      refine AllReadyH.cons (o := _) rfl (fun K hK => ?_) AllReadyH.nil
      go_simp
      go_at_call 80
      refine ((HZA _).out).mono ?_
      rintro e w1 ⟨rfl, k1⟩
      have S1 := Lib.hid (hHeld.grow k1)
      have HP1 := Lib.hid (k1.heap HP.out (fun h => h))
      clear HP
      have HP := HP1
      clear HP1
      clear k1
      clear hHeld
      go_wp2_with fail
      refine hK.out _ _ ?_ (fun hHeld => ?_)
      · exact S1.out
      clear hK K S1
      try simp only [Act.put, List.setIfInBounds_toArray, List.set_cons_zero, List.set_cons_succ]
      refine wpAnyH_take (i := 46) (v := ?_) rfl (by kernel_rfl) (by kernel_rfl) (by kernel_rfl) (fun _ _ _ h => h) (Or.inl ⟨by rfl, ?_⟩) (by assumption) ?_
      rotate_left 1
      · intro W hSw; clear hSw; go_simp; (try with_reducible rfl)
      try simp only [Act.put, List.setIfInBounds_toArray, List.set_cons_zero, List.set_cons_succ]
      refine wpAnyH_ready (rs := [51]) (by decide +kernel) (by simp) ?_
      refine AllReadyH.cons (o := _) rfl (fun K hK => ?_) AllReadyH.nil
      go_simp
      go_at_call 80
      refine ((HZC _).out).mono ?_
      rintro e w1 ⟨rfl, k1⟩
      have S1 := Lib.hid (hHeld.grow k1)
      have HP1 := Lib.hid (k1.heap HP.out (fun h => h))
      clear HP
      have HP := HP1
      clear HP1
      clear k1
      clear hHeld
      go_wp2_with fail
      refine hK.out _ _ ?_ (fun hHeld => ?_)
      · exact S1.out
      clear hK K S1
      try simp only [Act.put, List.setIfInBounds_toArray, List.set_cons_zero, List.set_cons_succ]
      refine wpAnyH_take (i := 52) (v := ?_) rfl (by kernel_rfl) (by kernel_rfl) (by kernel_rfl) (fun _ _ _ h => h) (Or.inl ⟨by rfl, ?_⟩) (by assumption) ?_
      rotate_left 1
      · intro W hSw; clear hSw; go_simp; (try with_reducible rfl)
      try simp only [Act.put, List.setIfInBounds_toArray, List.set_cons_zero, List.set_cons_succ]
      refine wpAnyH_ready (rs := [65]) (by decide +kernel) (by simp) ?_
      refine AllReadyH.cons (o := _) rfl (fun K hK => ?_) AllReadyH.nil
      go_simp
      go_at_call 81
      refine (Dw _ f).mono ?_
      rintro e w1 ⟨rfl, hw1⟩
      subst hw1
      have S1 := Lib.hid (hHeld)
      clear hHeld
      go_wp2_with fail
      refine hK.out _ _ ?_ (fun hHeld => ?_)
      · exact S1.out
      clear hK K S1
      try simp only [Act.put, List.setIfInBounds_toArray, List.set_cons_zero, List.set_cons_succ]
      refine wpAnyH_take (i := 66) (v := ?_) (oi := Dl) rfl (by kernel_rfl) (by kernel_rfl) (by kernel_rfl) (fun _ _ _ h => h) (Or.inl ⟨by rfl, ?_⟩) (by assumption) ?_
      rotate_left 1
      · intro W hSw; clear hSw; unfold Dl; go_simp; (try with_reducible rfl)
      try simp only [Act.put, Dl, List.setIfInBounds_toArray, List.set_cons_zero, List.set_cons_succ]
      have F9 := Lib.hid (FB.out w1 P _ hHeld HP.out rfl HPL)
      have T := Ga HP.out (n := 21) (by decide)
      have ONE := Lib.hid (Ii h n ba bc f)
      clear hHeld
      refine wpAnyH_ready (rs := [68]) (by decide +kernel) (by simp) ?_
      refine AllReadyH.cons (o := _) rfl (fun K hK => ?_) AllReadyH.nil
      rw [if_pos (by rfl)]
      refine wp_store_mid 26 (.tmp 3) (.tmp 76) rfl P 0 (Ha h.typ.toNat h.name h.link h.size h.mode h.uid h.gid h.un h.gn h.ms (n : Int) (!ba) 0 0 (!bc) 0 0 h.maj h.min (.slice none 0 0) (Ka f)).toArray rfl rfl T (by kernel_rfl) ONE.out ?_
      refine hK.out _ _ ?_ (fun hHeld => ?_)
      · exact ⟨F9.out.out.2, F9.out.out.1.res, F9.out.out.1.kp⟩
      clear hK K
      try simp only [Act.put, List.setIfInBounds_toArray, List.set_cons_zero, List.set_cons_succ]
      refine wpAnyH_done (by decide +kernel) ?_ _
      clear hHeld HP T
      go_wp2_with fail
      go_meet
      case rel => exact ⟨P, rfl, HPL, F9.out⟩
  case rest =>
  obtain ⟨P, rfl, hPlt, hc3⟩ := hcut
  have S0 := Lib.hid hc3.out.1
  have RB := Lib.hid hc3.out.2
  clear hc3
  obtain ⟨b, eb⟩ : ∃ b, h.hasA = b := ⟨_, rfl⟩
  obtain ⟨v0, row0, own0⟩ : ∃ v, wc.heap[P]? = some (.cells (Bu (Dk h f false false) v).toArray 26 (0, 0)) ∧ True := by
    obtain ⟨v, h1, _⟩ := S0.out.row
    exact ⟨v, h1, trivial⟩
  have ch : wc.cell? ⟨P, 11, none⟩ = some (.bool b) := eb ▸ cell_of row0 11 rfl
  go_upto_if 78 with fail
  try simp only [Act.put]
  go_cut [] from 79 to 84 (fun wx => Hid (HfSt w P (Dk h f true false) [] wx ∧ wx.heap[nh]? = some (.cells (B2 h x pm f).toArray 167 (0, 0))))
  case first =>
    cases b with
    | false =>
      have NX : Hid (HfSt w P (Dk h f true false) [] wc ∧ wc.heap[nh]? = some (.cells (B2 h x pm f).toArray 167 (0, 0))) := by rw [Bfg eb]; exact ⟨S0.out, RB.out⟩
      clear row0 own0
      go_wp2_with fail
      go_meet
      case rel => exact NX
    | true =>
      obtain ⟨q1, q2, q3⟩ := ea3 eb
      have e0 : wc.cell? ⟨nh, 11, none⟩ = some (.int .u64 (na : Int)) := EA0.out ▸ cell_of RB.out 11 rfl
      have e1 : wc.cell? ⟨nh, 12, none⟩ = some (.int .i64 (h.ats + 62135596800)) := q3 ▸ (EA1.out ▸ cell_of RB.out 12 rfl)
      have HTM := Lib.hid (Ji wc na h.ats q2 (HT.out.acc eb).2.1)
      have HQ1 := Lib.hid q1
      clear row0 own0 q1 q3
      go_wp2_with fail
      refine HTM.out.mono ?_
      rintro e w1 ⟨rfl, k1⟩
      have S7 := S0.out.grow k1
      have R7 := Lib.hid (k1.heap RB.out (fun h => h))
      obtain ⟨v1, row1, own1, ne1⟩ := S7.row
      have z0 : w1.cell? ⟨P, 12, none⟩ = some (.int .i64 0) := cell_of row1 12 rfl
      have z1 : w1.cell? ⟨P, 13, none⟩ = some (.int .i64 0) := cell_of row1 13 rfl
      have y0 := Bb row1 12
      have y1 := Bb row1 13
      have hnP : nh ≠ P := by omega
      have NX : Hid (HfSt w P (Dk h f true false) [] ((w1.setCell ⟨P, 12, none⟩ (.int .i64 h.ats)).setCell ⟨P, 13, none⟩ (.int .i64 (na : Int))) ∧ ((w1.setCell ⟨P, 12, none⟩ (.int .i64 h.ats)).setCell ⟨P, 13, none⟩ (.int .i64 (na : Int))).heap[nh]? = some (.cells (B2 h x pm f).toArray 167 (0, 0))) := by
        have ks : Kp (· = P) w1 ((w1.setCell ⟨P, 12, none⟩ (.int .i64 h.ats)).setCell ⟨P, 13, none⟩ (.int .i64 (na : Int))) := Kp.setCell (S := (· = P)) (p := ⟨P, 13, none⟩) (Kp.setCell (S := (· = P)) (p := ⟨P, 12, none⟩) (Kp.refl _ w1) (.inl rfl) _) (.inl rfl) _
        have hs := heap_set (heap_set row1 12 (.int .i64 h.ats)) 13 (.int .i64 (na : Int))
        have er : ((Bu (Dk h f false false) v1).toArray.setIfInBounds 12 (.int .i64 h.ats)).setIfInBounds 13 (.int .i64 (na : Int)) = (Bu (Dk h f true false) v1).toArray := by
          rw [← HQ1.out]
          unfold Dk
          rw [eb]
          rfl
        rw [er] at hs
        exact ⟨⟨⟨v1, hs, own1.keep ks (fun b hb e => by subst e; exact ne1 hb), ne1⟩, ks.heap S7.res (by omega), S7.kp.then ks (fun i hi e => by omega), S7.lt⟩, ks.heap R7.out hnP⟩
      clear S7 R7 row1 own1 ne1 k1 HTM S0 RB
      go_wp2_with fail
      go_meet
      case rel => exact NX
  case rest =>
  have S1 := Lib.hid hcut.out.1
  have R1 := Lib.hid hcut.out.2
  clear v0 row0 own0 ch
  obtain ⟨b, eb⟩ : ∃ b, h.hasC = b := ⟨_, rfl⟩
  obtain ⟨v0, row0, own0⟩ : ∃ v, wc.heap[P]? = some (.cells (Bu (Dk h f true false) v).toArray 26 (0, 0)) ∧ True := by
    obtain ⟨v, h1, _⟩ := S1.out.row
    exact ⟨v, h1, trivial⟩
  have ch : wc.cell? ⟨P, 14, none⟩ = some (.bool b) := eb ▸ cell_of row0 14 rfl
  go_upto_if 86 with fail
  try simp only [Act.put]
  go_cut [] from 87 to 92 (fun wx => Hid (HfSt w P (Dk h f true true) [] wx ∧ wx.heap[nh]? = some (.cells (B2 h x pm f).toArray 167 (0, 0))))
  case first =>
    cases b with
    | false =>
      have NX : Hid (HfSt w P (Dk h f true true) [] wc ∧ wc.heap[nh]? = some (.cells (B2 h x pm f).toArray 167 (0, 0))) := by rw [Bfh eb]; exact ⟨S1.out, R1.out⟩
      clear row0 own0
      go_wp2_with fail
      go_meet
      case rel => exact NX
    | true =>
      obtain ⟨q1, q2, q3⟩ := ec3 eb
      have e0 : wc.cell? ⟨nh, 13, none⟩ = some (.int .u64 (nc : Int)) := EC0.out ▸ cell_of R1.out 13 rfl
      have e1 : wc.cell? ⟨nh, 14, none⟩ = some (.int .i64 (h.cts + 62135596800)) := q3 ▸ (EC1.out ▸ cell_of R1.out 14 rfl)
      have HTM := Lib.hid (Ji wc nc h.cts q2 (HT.out.chg eb).2.1)
      have HQ1 := Lib.hid q1
      clear row0 own0 q1 q3
      go_wp2_with fail
      refine HTM.out.mono ?_
      rintro e w1 ⟨rfl, k1⟩
      have S7 := S1.out.grow k1
      have R7 := Lib.hid (k1.heap R1.out (fun h => h))
      obtain ⟨v1, row1, own1, ne1⟩ := S7.row
      have z0 : w1.cell? ⟨P, 15, none⟩ = some (.int .i64 0) := cell_of row1 15 rfl
      have z1 : w1.cell? ⟨P, 16, none⟩ = some (.int .i64 0) := cell_of row1 16 rfl
      have y0 := Bb row1 15
      have y1 := Bb row1 16
      have hnP : nh ≠ P := by omega
      have NX : Hid (HfSt w P (Dk h f true true) [] ((w1.setCell ⟨P, 15, none⟩ (.int .i64 h.cts)).setCell ⟨P, 16, none⟩ (.int .i64 (nc : Int))) ∧ ((w1.setCell ⟨P, 15, none⟩ (.int .i64 h.cts)).setCell ⟨P, 16, none⟩ (.int .i64 (nc : Int))).heap[nh]? = some (.cells (B2 h x pm f).toArray 167 (0, 0))) := by
        have ks : Kp (· = P) w1 ((w1.setCell ⟨P, 15, none⟩ (.int .i64 h.cts)).setCell ⟨P, 16, none⟩ (.int .i64 (nc : Int))) := Kp.setCell (S := (· = P)) (p := ⟨P, 16, none⟩) (Kp.setCell (S := (· = P)) (p := ⟨P, 15, none⟩) (Kp.refl _ w1) (.inl rfl) _) (.inl rfl) _
        have hs := heap_set (heap_set row1 15 (.int .i64 h.cts)) 16 (.int .i64 (nc : Int))
        have er : ((Bu (Dk h f true false) v1).toArray.setIfInBounds 15 (.int .i64 h.cts)).setIfInBounds 16 (.int .i64 (nc : Int)) = (Bu (Dk h f true true) v1).toArray := by
          rw [← HQ1.out]
          unfold Dk
          rw [eb]
          rfl
        rw [er] at hs
        exact ⟨⟨⟨v1, hs, own1.keep ks (fun b hb e => by subst e; exact ne1 hb), ne1⟩, ks.heap S7.res (by omega), S7.kp.then ks (fun i hi e => by omega), S7.lt⟩, ks.heap R7.out hnP⟩
      clear S7 R7 row1 own1 ne1 k1 HTM S1 R1
      go_wp2_with fail
      go_meet
      case rel => exact NX
  case rest =>
  have S2 := Lib.hid hcut.out.1
  have R2 := Lib.hid hcut.out.2
  obtain ⟨hh, hhh⟩ : ∃ hh, Dk h f true true = hh := ⟨_, rfl⟩
  rw [hhh] at S2
  have HHH := Lib.hid hhh
  clear hcut
  clear S0
  clear RB
  clear ea3 ec3
  clear hhh
  try clear ch
  try clear own0
  try clear row0
  try clear S1 R1
  have pc : wc.cell? ⟨nh, 18, none⟩ = some pm := cell_of R2.out 18 rfl
  have FIN : Hid (∀ (l : List Rec) (wx : World), HfSt w P hh l wx → RecsIs M (fun _ => false) l → ∀ v, wx.heap[P]? = some (.cells (Bu hh v).toArray 26 (0, 0)) → Hid (Bdc w h f M (.returned (.agg (Bu hh v).toArray)) (wx.setRow w.heap.size (Bu hh v).toArray))) := by
    show ∀ l wx, _
    intro l wx s hr v hv
    obtain ⟨v2, h1, h2, h3⟩ := s.row
    have e : v = v2 := by
      have a1 := cell_of hv 19 (v := v) rfl
      have a2 := cell_of h1 19 (v := v2) rfl
      rw [a1] at a2
      injection a2
    subst e
    have ks : Kp (· = w.heap.size) wx (wx.setRow w.heap.size (Bu hh v).toArray) := Kp.setRow (S := (· = w.heap.size)) (Kp.refl _ _) (.inl rfl) _
    exact ⟨v, l, by rw [HHH.out], (h2.keep ks (fun b hb e => by have := (h2.block hb).1; omega)).lower (by omega), hr, s.kp.setRow (.inr (Nat.le_refl _)) _⟩
  rcases HPM.out with ⟨hpn, hMn⟩ | ⟨b, nm, hpb, hmi⟩
  · subst hpn
    have hr1 := fun w => run_range_nilMap (P := Tryz.prog) w 164 9 9 Tryz.underlying164
    have hr2 := @run_next_nilMap Tryz.prog
    have hR0 : RecsIs M (fun _ => false) [] := by
      subst hMn
      exact ⟨fun k v => ⟨(fun h => by cases h), (fun h => by cases h.1)⟩, List.nodup_nil⟩
    have S3 := Lib.hid (S2.out.grow ((Kp.refl (fun _ => False) wc).alloc (.mapIter none 0 #[] 0)))
    have HR0 := Lib.hid hR0
    clear hR0 S2 R2
    go_wp2_with fail
    refine wp_loop_rounds 1 ?_
    rw [rounds_succ]
    obtain ⟨v9, row9, own9, ne9⟩ := S3.out.row
    have res9 := S3.out.res
    have one9 : Hid (((Bu hh v9).toArray.all fun x => x.oneCell') = true) := by
      obtain ⟨A9, c9, e9⟩ := own9.at_.shape
      subst e9
      exact Xb
    have FIN9 := Lib.hid (FIN.out _ _ S3.out HR0.out v9 row9)
    clear own9 ne9
    go_upto_region 17 with fail
    first
      | (refine wpList_load_row rfl 26 (.tmp 3) rfl P rfl 26 (Bu hh v9).toArray (0, 0) _ row9 Tryz.underlying26 rfl (by kernel_rfl) ?_)
      | (go_step; refine wpList_load_row rfl 26 (.tmp 3) rfl P rfl 26 (Bu hh v9).toArray (0, 0) _ row9 Tryz.underlying26 rfl (by kernel_rfl) ?_)
      | (go_step; go_step; refine wpList_load_row rfl 26 (.tmp 3) rfl P rfl 26 (Bu hh v9).toArray (0, 0) _ row9 Tryz.underlying26 rfl (by kernel_rfl) ?_)
      | (go_step; go_step; go_step; refine wpList_load_row rfl 26 (.tmp 3) rfl P rfl 26 (Bu hh v9).toArray (0, 0) _ row9 Tryz.underlying26 rfl (by kernel_rfl) ?_)
    first
      | (refine wpList_store_row rfl 26 (.tmp 2) (.tmp 144) rfl w.heap.size (Bu hh v9).toArray rfl rfl 26 _ res9 (by kernel_rfl) (by rfl) one9.out ?_)
      | (go_step; refine wpList_store_row rfl 26 (.tmp 2) (.tmp 144) rfl w.heap.size (Bu hh v9).toArray rfl rfl 26 _ res9 (by kernel_rfl) (by rfl) one9.out ?_)
      | (go_step; go_step; refine wpList_store_row rfl 26 (.tmp 2) (.tmp 144) rfl w.heap.size (Bu hh v9).toArray rfl rfl 26 _ res9 (by kernel_rfl) (by rfl) one9.out ?_)
      | (go_step; go_step; go_step; refine wpList_store_row rfl 26 (.tmp 2) (.tmp 144) rfl w.heap.size (Bu hh v9).toArray rfl rfl 26 _ res9 (by kernel_rfl) (by rfl) one9.out ?_)
    go_wp2_with fail
    exact bodyPost_ret (results_cell_row rfl _ _ w.heap.size 26 (Bu hh v9).toArray (0, 0) _ rfl (Gd res9 _) Tryz.underlying26 rfl (by kernel_rfl)) rfl FIN9.out
  · subst hpb
    have HMI := Lib.hid (hmi.keep S2.out.kp (fun h => h))
    have hPwc : P < wc.heap.size := by obtain ⟨v, h1, _⟩ := S2.out.row; exact Bv h1
    go_wp2_with (at_range; refine Le rfl _ rfl b nm M rfl HMI.out ?_; intro w1 hrg1 hk1; go_frame)
    have LP : Hid (HfL w P wc.heap.size b hh M (fun k => (M k).isSome) [] w1) := ⟨S2.out.grow hk1, hrg1, RecsIs.start M⟩
    clear hrg1 hk1 S2 R2 HMI
    have hwr : w.heap.size < wc.heap.size := by omega
    generalize wc.heap.size = r at LP hwr hPwc ⊢
    go_loopw [4, 5, 6] (fun s4 s5 s6 wr => ∃ left l, Hid (HfL w P r b hh M left l wr)) (fun _ _ _ wr => wr.rangeLeft b r)
    case atStart => exact ⟨_, _, LP⟩
    case round =>
      clear LP
      obtain ⟨left, l, ST⟩ := hrel
      go_wp2_with (at_next; refine Mz rfl _ rfl b r M left rfl ST.out.rg ?_ ?_)
      · intro hl0
        have S9 := Lib.hid ST.out.st
        have R9 : Hid (RecsIs M (fun _ => false) l) := by
          have h := ST.out.rc
          rw [show left = fun _ => false from funext hl0] at h
          exact h
        clear ST hl0
        obtain ⟨v9, row9, own9, ne9⟩ := S9.out.row
        have res9 := S9.out.res
        have one9 : Hid (((Bu hh v9).toArray.all fun x => x.oneCell') = true) := by
          obtain ⟨A9, c9, e9⟩ := own9.at_.shape
          subst e9
          exact Xb
        have FIN9 := Lib.hid (FIN.out _ _ S9.out R9.out v9 row9)
        clear own9 ne9
        go_upto_region 17 with fail
        first
          | (refine wpList_load_row rfl 26 (.tmp 3) rfl P rfl 26 (Bu hh v9).toArray (0, 0) _ row9 Tryz.underlying26 rfl (by kernel_rfl) ?_)
          | (go_step; refine wpList_load_row rfl 26 (.tmp 3) rfl P rfl 26 (Bu hh v9).toArray (0, 0) _ row9 Tryz.underlying26 rfl (by kernel_rfl) ?_)
          | (go_step; go_step; refine wpList_load_row rfl 26 (.tmp 3) rfl P rfl 26 (Bu hh v9).toArray (0, 0) _ row9 Tryz.underlying26 rfl (by kernel_rfl) ?_)
          | (go_step; go_step; go_step; refine wpList_load_row rfl 26 (.tmp 3) rfl P rfl 26 (Bu hh v9).toArray (0, 0) _ row9 Tryz.underlying26 rfl (by kernel_rfl) ?_)
        first
          | (refine wpList_store_row rfl 26 (.tmp 2) (.tmp 144) rfl w.heap.size (Bu hh v9).toArray rfl rfl 26 _ res9 (by kernel_rfl) (by rfl) one9.out ?_)
          | (go_step; refine wpList_store_row rfl 26 (.tmp 2) (.tmp 144) rfl w.heap.size (Bu hh v9).toArray rfl rfl 26 _ res9 (by kernel_rfl) (by rfl) one9.out ?_)
          | (go_step; go_step; refine wpList_store_row rfl 26 (.tmp 2) (.tmp 144) rfl w.heap.size (Bu hh v9).toArray rfl rfl 26 _ res9 (by kernel_rfl) (by rfl) one9.out ?_)
          | (go_step; go_step; go_step; refine wpList_store_row rfl 26 (.tmp 2) (.tmp 144) rfl w.heap.size (Bu hh v9).toArray rfl rfl 26 _ res9 (by kernel_rfl) (by rfl) one9.out ?_)
        go_wp2_with fail
        exact bodyPost_ret (results_cell_row rfl _ _ w.heap.size 26 (Bu hh v9).toArray (0, 0) _ rfl (Gd res9 _) Tryz.underlying26 rfl (by kernel_rfl)) rfl FIN9.out
      · intro k v w2 hlk hMk hkl hvl hrg2 hlt2 hk2 hen
        obtain ⟨v0, row0, own0, ne0⟩ := ST.out.st.row
        have hPr : P ≠ r := fun e => (ST.out.rg.not_cells row0).2 e.symm
        have hbP : b ≠ P := (ST.out.rg.not_cells row0).1
        have hown : ∀ j, v0.ownBlock = some j → b ≠ j ∧ r ≠ j := fun j hj => by
          rcases own0.shape with ⟨e, _⟩ | ⟨g, cap, e, _⟩
          · rw [e] at hj; cases hj
          · subst e
            obtain ⟨_, cur, h1, _⟩ := own0.row
            have hj : some g = some j := hj
            injection hj with hj
            subst hj
            exact ST.out.rg.not_cells h1
        have ST2 := Lib.hid (ST.out.st.iter hk2 hwr hPr (fun v' hv' e => by
          have a1 := cell_of hv' 19 (v := v') rfl
          have a2 := cell_of row0 19 (v := v0) rfl
          rw [a1] at a2
          injection a2 with a2
          subst a2
          exact (hown r e).2 rfl))
        have RC2 : Hid (∀ l' : List Rec, l'.Perm ((k, v) :: l) → RecsIs M (fun z => left z && !(z == k)) l') := fun l' hp => ST.out.rc.step hMk hlk hp
        have hll : l.length ≤ 1048576 := Nat.le_trans (ST.out.rc.len HKS.out) hkl0
        have c19 : w2.cell? ⟨P, 19, none⟩ = some v0 := cell_of (hk2.heap row0 hPr) 19 rfl
        obtain ⟨A2, c2, hv0⟩ := own0.at_.shape
        subst hv0
        have own2 : OwnR 171 w2 (w.heap.size + 1) (.slice A2 l.length c2) l := own0.keep hk2 (fun j hj e => (hown j hj).2 e.symm)
        obtain ⟨n, hn⟩ : ∃ n, l.length = n := ⟨_, rfl⟩
        have HNN := Lib.hid hn
        have HOW := Lib.hid own2
        rw [hn] at hown
        have HWN := Lib.hid hown
        have HRG := Lib.hid hrg2
        have HLT := Lib.hid hlt2
        have HBR : Hid (b < wr.heap.size ∧ r < wr.heap.size ∧ wr.heap.size ≤ w2.heap.size) := ⟨by
          obtain ⟨D, m, L, cnt, ⟨es, clock, since, seen, c0, h1, _⟩, _⟩ := ST.out.rg
          exact (Array.getElem?_eq_some_iff.1 h1).1, ST.out.rg.lt, hk2.size⟩
        rw [hn] at c19 hll
        have hnb : n ≤ 1048576 := hll
        clear own0 ne0 row0 hown ST own2 hrg2 hlt2 hk2 hlk hMk hkl hvl hn hll
        go_upto_block 2 with fail
        go_cut [6] from 106 to 120 (fun s6 wx => ∃ i : Nat, s6 = .int .i64 (i : Int) ∧ i ≤ n ∧ wx = w2)
        case first =>
          go_wp2_with fail
          go_loopg [6] n (fun g s6 wx => s6 = .int .i64 (g : Int) ∧ g ≤ n ∧ wx = w2)
          case atStart => exact ⟨rfl, Nat.le_refl _, rfl⟩
          case round =>
            obtain ⟨rfl, hin, rfl⟩ := hrel
            by_cases hi0 : gk = 0
            · subst hi0
              go_wp2_with fail
              go_meet
              case rel => exact ⟨0, rfl, by omega, rfl⟩
            · obtain ⟨j, rfl⟩ : ∃ j, gk = j + 1 := ⟨gk - 1, by omega⟩
              have hj : j < l.length := by have := HNN.out; omega
              rcases HOW.out.shape with ⟨_, e⟩ | ⟨g, cap, e, _⟩
              · rw [e] at hj; cases hj
              injection e with e1 e2 e3
              subst e1
              have kc : wr.cell? ⟨g, j * 2, none⟩ = some (.string ⟨l[j].1.toArray⟩) := HOW.out.cell0 (List.getElem?_eq_getElem hj)
              obtain ⟨γ, hγ⟩ : ∃ γ, Op.bytesLess l[j].1 k = γ := ⟨_, rfl⟩
              obtain ⟨δ, hδ⟩ : ∃ δ, (l[j].1 == k) = δ := ⟨_, rfl⟩
              clear e2 e3
              cases γ with
              | true =>
                go_wp2_with fail
                go_meet
                case rel => exact ⟨j + 1, rfl, by omega, rfl⟩
              | false =>
              cases δ with
              | true =>
                go_wp2_with fail
                go_meet
                case rel => exact ⟨j + 1, rfl, by omega, rfl⟩
              | false =>
                go_wp2_with fail
                go_roundg j
                case measure => omega
                case rel => exact ⟨by simp, by omega, rfl⟩
        case rest =>
        obtain ⟨i, rfl, hin, rfl⟩ := hcut
        obtain ⟨g, cap, w3, hr3, y1, y2, hD⟩ := ST2.out.ins (by have := HNN.out; omega) _ c19 i n HNN.out hin
        have HR3 := Lib.hid hr3
        have HD := Lib.hid hD
        clear hr3 hD
        go_upto_region 15 with (at_builtin; refine Lib.wpList_append_run _ rfl _ _ _ _ rfl _ _ rfl rfl _ _ HR3.out ?_)
        refine (show Code.wp _ _ _ _ (w3.setCell ⟨P, 19, none⟩ (.slice (some ⟨g, 0, none⟩) (n + 1) cap)) from ?_)
        generalize w3.setCell ⟨P, 19, none⟩ (.slice (some ⟨g, 0, none⟩) (n + 1) cap) = wD at HD ⊢
        clear HR3 y1 y2 c19
        have cl := HD.out.cl
        have hc1 := HD.out.hc1
        have hk1 : (0 : Int) ≤ (i : Int) := by omega
        have hk0 : (i : Int) < (n : Int) + 1 := by omega
        have hk2 : (i : Int) + 1 ≤ (n : Int) + 1 := by omega
        have hk3 : (i : Int) ≤ (n : Int) + 1 := by omega
        have hk4 : ¬ cap = i := by omega
        have hk7 : (0 : Int) ≤ (i : Int) + 1 := by omega
        have hk8 : (n : Int) + 1 ≤ (cap : Int) := by omega
        have hwr9 : IntKind.i64.wrap ((i : Int) + 1) = (i : Int) + 1 := by
          rw [IntKind.wrap_i64]; omega
        by_cases hck : cap = i + 1
        · obtain ⟨hin2, w4, hr4, hok⟩ := HD.out.endc hck
          subst hck
          subst hin2
          have sl1 : ∀ W : World, (Instr.slice 24 (.slice (some ⟨g, 0, none⟩) (i + 1) (i + 1)) (some (.int .i64 (i : Int))) none none).run Tryz.prog W = .ok (.slice (some ⟨g, i * 2, none⟩) 1 1) W := fun W => by
            have h := Hf W g (i + 1) (i + 1) _ i rfl (by omega) (by omega)
            rw [show i + 1 - i = 1 by omega] at h
            exact h
          have sl2 : ∀ W : World, (Instr.slice 24 (.slice (some ⟨g, 0, none⟩) (i + 1) (i + 1)) (some (.int .i64 ((i : Int) + 1))) none none).run Tryz.prog W = .ok (.slice (some ⟨g, 0, none⟩) 0 0) W := fun W => V0 W g (i + 1) _ (by omega)
          have NX : Hid (∃ L, HfL w P r b hh M (fun z => left z && !(z == k)) L ((w4.setCell ⟨g, i * 2, none⟩ (.string ⟨k.toArray⟩)).setCell ⟨g, i * 2 + 1, none⟩ (.string ⟨v.toArray⟩)) ∧ ((w4.setCell ⟨g, i * 2, none⟩ (.string ⟨k.toArray⟩)).setCell ⟨g, i * 2 + 1, none⟩ (.string ⟨v.toArray⟩)).rangeLeft b r < wr.rangeLeft b r) := by
            obtain ⟨L, s5, pm, k5⟩ := hok.fin k v
            have hb5 : ¬ (b = P ∨ (Value.slice A2 i c2).ownBlock = some b ∨ wc.heap.size ≤ b) := by
              have h1 := HBR.out
              rintro (e | e | e)
              · exact hbP e
              · exact (HWN.out b e).1 rfl
              · omega
            have hr5 : ¬ (r = P ∨ (Value.slice A2 i c2).ownBlock = some r ∨ wc.heap.size ≤ r) := by
              have h1 := HBR.out
              rintro (e | e | e)
              · exact hPr e.symm
              · exact (HWN.out r e).2 rfl
              · omega
            exact ⟨L, ⟨s5, HRG.out.keep k5 hb5 hr5, RC2.out L pm⟩, by rw [HRG.out.rangeLeft k5 hb5 hr5]; exact HLT.out⟩
          have cl4 := hok.cl4
          have fz := hok.fz
          obtain ⟨s0, gc0⟩ := hok.gc0
          obtain ⟨s1, gc1⟩ := hok.gc1
          clear hok HRG HLT HBR HWN RC2 ST2 HOW HNN HD
          go_region_held3 (fun w' => w'.cell? ⟨P, 19, none⟩ = some (.slice (some ⟨g, 0, none⟩) (i + 1) (i + 1))) (first | (exact cl) | (exact cl4)) (first | (fail "none"))
          go_wp2_with fail
          go_roundw
          case rel => exact ⟨_, _, NX.out.choose_spec.1⟩
          case measure => exact NX.out.choose_spec.2
        · obtain ⟨w4, hr4, hok⟩ := HD.out.mid hck
          have sl1 : ∀ W : World, (Instr.slice 24 (.slice (some ⟨g, 0, none⟩) (n + 1) cap) (some (.int .i64 (i : Int))) none none).run Tryz.prog W = .ok (.slice (some ⟨g, i * 2, none⟩) (n + 1 - i) (cap - i)) W := fun W => Hf W g (n + 1) cap _ i rfl (by omega) (by omega)
          have sl2 : ∀ W : World, (Instr.slice 24 (.slice (some ⟨g, 0, none⟩) (n + 1) cap) (some (.int .i64 ((i : Int) + 1))) none none).run Tryz.prog W = .ok (.slice (some ⟨g, (i + 1) * 2, none⟩) (n - i) (cap - (i + 1))) W := fun W => by
            have h := Hf W g (n + 1) cap ((i : Int) + 1) (i + 1) (by omega) (by omega) (by omega)
            rw [show n + 1 - (i + 1) = n - i by omega] at h
            exact h
          have NX : Hid (∃ L, HfL w P r b hh M (fun z => left z && !(z == k)) L ((w4.setCell ⟨g, i * 2, none⟩ (.string ⟨k.toArray⟩)).setCell ⟨g, i * 2 + 1, none⟩ (.string ⟨v.toArray⟩)) ∧ ((w4.setCell ⟨g, i * 2, none⟩ (.string ⟨k.toArray⟩)).setCell ⟨g, i * 2 + 1, none⟩ (.string ⟨v.toArray⟩)).rangeLeft b r < wr.rangeLeft b r) := by
            obtain ⟨L, s5, pm, k5⟩ := hok.fin k v
            have hb5 : ¬ (b = P ∨ (Value.slice A2 n c2).ownBlock = some b ∨ wc.heap.size ≤ b) := by
              have h1 := HBR.out
              rintro (e | e | e)
              · exact hbP e
              · exact (HWN.out b e).1 rfl
              · omega
            have hr5 : ¬ (r = P ∨ (Value.slice A2 n c2).ownBlock = some r ∨ wc.heap.size ≤ r) := by
              have h1 := HBR.out
              rintro (e | e | e)
              · exact hPr e.symm
              · exact (HWN.out r e).2 rfl
              · omega
            exact ⟨L, ⟨s5, HRG.out.keep k5 hb5 hr5, RC2.out L pm⟩, by rw [HRG.out.rangeLeft k5 hb5 hr5]; exact HLT.out⟩
          have cl4 := hok.cl4
          have fz := hok.fz
          obtain ⟨s0, gc0⟩ := hok.gc0
          obtain ⟨s1, gc1⟩ := hok.gc1
          clear hok HRG HLT HBR HWN RC2 ST2 HOW HNN HD
          go_region_held3 (fun w' => w'.cell? ⟨P, 19, none⟩ = some (.slice (some ⟨g, 0, none⟩) (n + 1) cap)) (first | (exact cl) | (exact cl4)) (first | (fail "none"))
          go_wp2_with fail
          go_roundw
          case rel => exact ⟨_, _, NX.out.choose_spec.1⟩
          case measure => exact NX.out.choose_spec.2
end Go.Proofs.YtgfcnjfmmjcodaaGreatDoor
