/- What a reader finds in a file that the reference has written. -/
import Derived.Test.YtgfcnjfmmjcodaaGreatDoorM08
set_option linter.all false
set_option maxRecDepth 100000
set_option maxHeartbeats 1000000
namespace Go.Proofs.YtgfcnjfmmjcodaaGreatDoor
section
open Go.RowKit
theorem findL_mem : ∀ (l : List Rec) (k v : List UInt8), findL l k = some v → (k, v) ∈ l := by
 intro l
 induction l with
 | nil => intro k v h; cases h
 | cons r l ih =>
  intro k v h
  rw [findL] at h
  cases hl : findL l k with
  | some u => rw [hl] at h; simp only [Option.some_or, Option.some.injEq] at h; subst h; exact List.mem_cons_of_mem _ (ih k u hl)
  | none =>
   rw [hl, Option.none_or] at h
   split at h
   ·rename_i e
    simp only [Option.some.injEq] at h
    have : r = (k, v) := Prod.ext e h
    rw [this]; exact List.mem_cons_self ..
   ·cases h
theorem findL_some (l : List Rec) (k v : List UInt8) (h : (k, v) ∈ l) : ∃ u, findL l k = some u := by
 induction l with
 | nil => cases h
 | cons r l ih =>
  rw [findL]
  rcases List.mem_cons.1 h with rfl | h
  ·cases findL l k <;> simp
  ·obtain ⟨u, hu⟩ := ih h
   exact ⟨u, by rw [hu]; rfl⟩
theorem findL_key {rs : List Rec} {k : List UInt8} (h : HasKey rs k) : ∃ v, findL rs k = some v := by
 obtain ⟨r, hr, rfl⟩ := h
 exact findL_some rs r.1 r.2 hr
structure SameH (a b : Hd) : Prop where
 typ : a.typ = b.typ
 name : a.name = b.name
 link : a.link = b.link
 size : a.size = b.size
 mode : a.mode = b.mode
 uid : a.uid = b.uid
 gid : a.gid = b.gid
 un : a.un = b.un
 gn : a.gn = b.gn
 mod : a.ms = b.ms ∧ a.mn = b.mn
 maj : a.maj = b.maj
 min : a.min = b.min
 acc : a.hasA = b.hasA ∧ (b.hasA = true → a.ats = b.ats ∧ a.atn = b.atn)
 chg : a.hasC = b.hasC ∧ (b.hasC = true → a.cts = b.cts ∧ a.ctn = b.ctn)
theorem own_key {h : Hd} (ho : ∀ r ∈ h.recs, OwnOk r) {k v : List UInt8} (hf : findL h.recs k = some v) : k ∉ fieldKeys := (ho _ (findL_mem _ _ _ hf)).key.not_field
section
variable {h : Hd} (ho : ∀ r ∈ h.recs, OwnOk r) {r : Rec} (hr : RecOk h r)
include ho hr
theorem rec_path (e : r.1 = kPath) : r.2 = h.name := by
 rcases hr with ⟨h1, h2⟩ | ⟨h1, h2⟩ | ⟨h1, h2⟩ | ⟨h1, h2⟩ | ⟨h1, h2⟩ | ⟨h1, h2⟩ | ⟨h1, h2⟩ | ⟨h1, h2⟩ | ⟨h1, h2⟩ | ⟨h1, h2⟩ | h1
 all_goals first | exact h2 | exact absurd (h1.symm.trans e) (by decide) | exact absurd (by rw [e]; decide) (own_key ho h1)
theorem rec_link (e : r.1 = kLink) : r.2 = h.link := by
 rcases hr with ⟨h1, h2⟩ | ⟨h1, h2⟩ | ⟨h1, h2⟩ | ⟨h1, h2⟩ | ⟨h1, h2⟩ | ⟨h1, h2⟩ | ⟨h1, h2⟩ | ⟨h1, h2⟩ | ⟨h1, h2⟩ | ⟨h1, h2⟩ | h1
 all_goals first | exact h2 | exact absurd (h1.symm.trans e) (by decide) | exact absurd (by rw [e]; decide) (own_key ho h1)
theorem rec_un (e : r.1 = kUname) : r.2 = h.un := by
 rcases hr with ⟨h1, h2⟩ | ⟨h1, h2⟩ | ⟨h1, h2⟩ | ⟨h1, h2⟩ | ⟨h1, h2⟩ | ⟨h1, h2⟩ | ⟨h1, h2⟩ | ⟨h1, h2⟩ | ⟨h1, h2⟩ | ⟨h1, h2⟩ | h1
 all_goals first | exact h2 | exact absurd (h1.symm.trans e) (by decide) | exact absurd (by rw [e]; decide) (own_key ho h1)
theorem rec_gn (e : r.1 = kGname) : r.2 = h.gn := by
 rcases hr with ⟨h1, h2⟩ | ⟨h1, h2⟩ | ⟨h1, h2⟩ | ⟨h1, h2⟩ | ⟨h1, h2⟩ | ⟨h1, h2⟩ | ⟨h1, h2⟩ | ⟨h1, h2⟩ | ⟨h1, h2⟩ | ⟨h1, h2⟩ | h1
 all_goals first | exact h2 | exact absurd (h1.symm.trans e) (by decide) | exact absurd (by rw [e]; decide) (own_key ho h1)
theorem rec_size (e : r.1 = kSize) : r.2 = Lib.decDigits h.size.toNat := by
 rcases hr with ⟨h1, h2⟩ | ⟨h1, h2⟩ | ⟨h1, h2⟩ | ⟨h1, h2⟩ | ⟨h1, h2⟩ | ⟨h1, h2⟩ | ⟨h1, h2⟩ | ⟨h1, h2⟩ | ⟨h1, h2⟩ | ⟨h1, h2⟩ | h1
 all_goals first | exact h2 | exact absurd (h1.symm.trans e) (by decide) | exact absurd (by rw [e]; decide) (own_key ho h1)
theorem rec_uid (e : r.1 = kUid) : r.2 = Lib.decDigits h.uid.toNat := by
 rcases hr with ⟨h1, h2⟩ | ⟨h1, h2⟩ | ⟨h1, h2⟩ | ⟨h1, h2⟩ | ⟨h1, h2⟩ | ⟨h1, h2⟩ | ⟨h1, h2⟩ | ⟨h1, h2⟩ | ⟨h1, h2⟩ | ⟨h1, h2⟩ | h1
 all_goals first | exact h2 | exact absurd (h1.symm.trans e) (by decide) | exact absurd (by rw [e]; decide) (own_key ho h1)
theorem rec_gid (e : r.1 = kGid) : r.2 = Lib.decDigits h.gid.toNat := by
 rcases hr with ⟨h1, h2⟩ | ⟨h1, h2⟩ | ⟨h1, h2⟩ | ⟨h1, h2⟩ | ⟨h1, h2⟩ | ⟨h1, h2⟩ | ⟨h1, h2⟩ | ⟨h1, h2⟩ | ⟨h1, h2⟩ | ⟨h1, h2⟩ | h1
 all_goals first | exact h2 | exact absurd (h1.symm.trans e) (by decide) | exact absurd (by rw [e]; decide) (own_key ho h1)
theorem rec_mtime (e : r.1 = kMtime) : ∃ z, z ≤ 1 ∧ r.2 = timeText h.ms h.mn z := by
 rcases hr with ⟨h1, h2⟩ | ⟨h1, h2⟩ | ⟨h1, h2⟩ | ⟨h1, h2⟩ | ⟨h1, h2⟩ | ⟨h1, h2⟩ | ⟨h1, h2⟩ | ⟨h1, h2⟩ | ⟨h1, h2⟩ | ⟨h1, h2⟩ | h1
 all_goals first | exact h2 | exact absurd (h1.symm.trans e) (by decide) | exact absurd (by rw [e]; decide) (own_key ho h1)
theorem rec_atime (e : r.1 = kAtime) : h.hasA = true ∧ ∃ z, z ≤ 1 ∧ r.2 = timeText h.ats h.atn z := by
 rcases hr with ⟨h1, h2⟩ | ⟨h1, h2⟩ | ⟨h1, h2⟩ | ⟨h1, h2⟩ | ⟨h1, h2⟩ | ⟨h1, h2⟩ | ⟨h1, h2⟩ | ⟨h1, h2⟩ | ⟨h1, h2⟩ | ⟨h1, h2⟩ | h1
 all_goals first | exact h2 | exact absurd (h1.symm.trans e) (by decide) | exact absurd (by rw [e]; decide) (own_key ho h1)
theorem rec_ctime (e : r.1 = kCtime) : h.hasC = true ∧ ∃ z, z ≤ 1 ∧ r.2 = timeText h.cts h.ctn z := by
 rcases hr with ⟨h1, h2⟩ | ⟨h1, h2⟩ | ⟨h1, h2⟩ | ⟨h1, h2⟩ | ⟨h1, h2⟩ | ⟨h1, h2⟩ | ⟨h1, h2⟩ | ⟨h1, h2⟩ | ⟨h1, h2⟩ | ⟨h1, h2⟩ | h1
 all_goals first | exact h2 | exact absurd (h1.symm.trans e) (by decide) | exact absurd (by rw [e]; decide) (own_key ho h1)
end
theorem not_prefix_field {p k : List UInt8} (hk : k ∈ fieldKeys) (hp : p = kSchily ∨ p = kSparse) : ¬ p <+: k := by
 simp only [fieldKeys, List.mem_cons, List.not_mem_nil, or_false] at hk
 rcases hp with rfl | rfl <;> rcases hk with rfl | rfl | rfl | rfl | rfl | rfl | rfl | rfl | rfl | rfl <;> decide
theorem recOk_key {h : Hd} (ho : ∀ r ∈ h.recs, OwnOk r) {r : Rec} (hr : RecOk h r) : r.1 ∈ fieldKeys ∨ KeyOk r.1 ∧ NoNul r.2 := by
 rcases hr with ⟨h1, h2⟩ | ⟨h1, h2⟩ | ⟨h1, h2⟩ | ⟨h1, h2⟩ | ⟨h1, h2⟩ | ⟨h1, h2⟩ | ⟨h1, h2⟩ | ⟨h1, h2⟩ | ⟨h1, h2⟩ | ⟨h1, h2⟩ | h1
 all_goals first | exact .inl (by rw [h1]; decide) | exact .inr ⟨(ho _ (findL_mem _ _ _ h1)).key, (ho _ (findL_mem _ _ _ h1)).noNul⟩
theorem merged_of {h : Hd} {rs : List Rec} {name : List UInt8} (hc : CanP h 2) (ht : ToldE h rs)
  (hn : name = h.name.take 100 ∧ (Ascii h.name → 100 < h.name.length → ¬ Splits h.name) ∨ Ascii h.name ∧ name = h.name)
  (hi : h.size < 9223372036854775808 ∧ h.uid < 9223372036854775808 ∧ h.gid < 9223372036854775808) :
  ∃ h1, Merged (blkH h false name) h1 (findL rs) ∧ SameH h1 h := by
 have ho := hc.own
 have hk : ∀ k v, findL rs k = some v → RecOk h (k, v) ∧ v ≠ [] := fun k v e => ht.ok _ (findL_mem _ _ _ e)
 have hno : ∀ k, HasKey rs k → findL rs k ≠ none := fun k hk e => by obtain ⟨v, hv⟩ := findL_key hk; rw [hv] at e; cases e
 have hodd := hc.sane.mod
 unfold odd at hodd
 refine ⟨{ h with atn := if h.hasA then h.atn else 0, ctn := if h.hasC then h.ctn else 0 }, ?_, ?_⟩
 ·refine ⟨fun k v e => (hk k v e).2, ?_, ?_, rfl, ?_, ?_, ?_, ?_, ?_, ?_, ?_, ?_, ?_, ?_, ?_, ?_, ?_⟩
  ·intro k v e
   rcases recOk_key ho (hk k v e).1 with h1 | h1
   ·exact not_prefix_field h1 (.inl rfl)
   ·exact h1.1.noSchily
  ·intro k v e
   rcases recOk_key ho (hk k v e).1 with h1 | h1
   ·exact not_prefix_field h1 (.inr rfl)
   ·exact h1.1.noSparse
  ·cases e : findL rs kPath with
   | some v => exact (rec_path ho (hk _ _ e).1 rfl).symm
   | none =>
    show h.name = name
    have hm : ¬ (¬ Ascii h.name ∨ 100 < h.name.length ∧ ¬ Splits h.name) := fun hh => hno _ (ht.name hh hc.name.1) e
    have ha : Ascii h.name := Classical.byContradiction fun ha => hm (.inl ha)
    rcases hn with ⟨rfl, hs⟩ | ⟨_, rfl⟩
    ·rw [List.take_of_length_le]
     exact Nat.not_lt.1 fun hl => hm (.inr ⟨hl, hs ha hl⟩)
    ·rfl
  ·cases e : findL rs kLink with
   | some v => exact (rec_link ho (hk _ _ e).1 rfl).symm
   | none =>
    show h.link = h.link.take 100
    rw [List.take_of_length_le]
    exact Nat.not_lt.1 fun hl => hno _ (ht.link (.inr hl) (by intro e; rw [e] at hl; simp at hl)) e
  ·cases e : findL rs kUname with
   | some v => exact (rec_un ho (hk _ _ e).1 rfl).symm
   | none =>
    show h.un = h.un.take 32
    rw [List.take_of_length_le]
    exact Nat.not_lt.1 fun hl => hno _ (ht.un (.inr (by omega)) (by intro e; rw [e] at hl; simp at hl)) e
  ·cases e : findL rs kGname with
   | some v => exact (rec_gn ho (hk _ _ e).1 rfl).symm
   | none =>
    show h.gn = h.gn.take 32
    rw [List.take_of_length_le]
    exact Nat.not_lt.1 fun hl => hno _ (ht.gn (.inr (by omega)) (by intro e; rw [e] at hl; simp at hl)) e
  ·cases e : findL rs kSize with
   | some v =>
    have := rec_size ho (hk _ _ e).1 rfl
    simp only at this
    subst this
    show Lib.parseIntB 64 _ = .ok h.size
    rw [parse_dec _ (by omega), Int.toNat_of_nonneg hc.size.1]
   | none => exact (stored_fits (Classical.byContradiction fun hf => hno _ (ht.size hf) e)).symm
  ·cases e : findL rs kUid with
   | some v =>
    have := rec_uid ho (hk _ _ e).1 rfl
    simp only at this
    subst this
    show Lib.parseIntB 64 _ = .ok h.uid
    rw [parse_dec _ (by omega), Int.toNat_of_nonneg hc.uid.1]
   | none => exact (stored_fits (Classical.byContradiction fun hf => hno _ (ht.uid hf) e)).symm
  ·cases e : findL rs kGid with
   | some v =>
    have := rec_gid ho (hk _ _ e).1 rfl
    simp only at this
    subst this
    show Lib.parseIntB 64 _ = .ok h.gid
    rw [parse_dec _ (by omega), Int.toNat_of_nonneg hc.gid.1]
   | none => exact (stored_fits (Classical.byContradiction fun hf => hno _ (ht.gid hf) e)).symm
  ·exact (stored_fits (by have := hc.mode; simp [fitsO]; omega)).symm
  ·exact (stored_fits (by have := hc.maj; simp [fitsO]; omega)).symm
  ·exact (stored_fits (by have := hc.min; simp [fitsO]; omega)).symm
  ·cases e : findL rs kMtime with
   | some v => exact ⟨rec_mtime ho (hk _ _ e).1 rfl, hc.mod.1, hc.mod.2.1, by show 0 ≤ h.mn; omega, by show h.mn < 1000000000; omega⟩
   | none =>
    have hm : ¬ (h.mn ≠ 0 ∨ ¬ fitsO 12 h.ms = true) := fun hh => hno _ (ht.mtime hh) e
    refine ⟨(stored_fits (Classical.byContradiction fun hf => hm (.inr hf))).symm, ?_⟩
    exact Classical.byContradiction fun hf => hm (.inl hf)
  ·cases e : findL rs kAtime with
   | some v =>
    obtain ⟨hA, hz⟩ := rec_atime ho (hk _ _ e).1 rfl
    have h1 := hc.acc hA
    have h2 := hc.sane.acc hA
    unfold odd at h2
    refine ⟨hA, ?_⟩
    simp only [hA, if_true]
    exact ⟨hz, h1.2.1, h1.2.2.1, by omega, by omega⟩
   | none =>
    have hA : h.hasA = false := by
     cases hA : h.hasA with
     | false => rfl
     | true => exact absurd e (hno _ (ht.atime hA))
    simp [hA, blkH]
  ·cases e : findL rs kCtime with
   | some v =>
    obtain ⟨hA, hz⟩ := rec_ctime ho (hk _ _ e).1 rfl
    have h1 := hc.chg hA
    have h2 := hc.sane.chg hA
    unfold odd at h2
    refine ⟨hA, ?_⟩
    simp only [hA, if_true]
    exact ⟨hz, h1.2.1, h1.2.2.1, by omega, by omega⟩
   | none =>
    have hA : h.hasC = false := by
     cases hA : h.hasC with
     | false => rfl
     | true => exact absurd e (hno _ (ht.ctime hA))
    simp [hA, blkH]
 ·exact ⟨rfl, rfl, rfl, rfl, rfl, rfl, rfl, rfl, rfl, ⟨rfl, rfl⟩, rfl, rfl, ⟨rfl, fun e => ⟨rfl, by show (if h.hasA then _ else _) = _; rw [e]; rfl⟩⟩, ⟨rfl, fun e => ⟨rfl, by show (if h.hasC then _ else _) = _; rw [e]; rfl⟩⟩⟩
end
section
open Go.RowKit
theorem recT_len {r : Rec} {t : List UInt8} (h : RecT r t) : t.length = (Lib.decDigits t.length).length + r.1.length + r.2.length + 3 := by
 have := congrArg List.length h
 simp at this; omega
theorem nDigits_le (n k : Nat) (hk : 1 ≤ k) (h : n < 10 ^ k) : Lib.nDigits n ≤ k := by
 rcases Nat.lt_or_ge k (Lib.nDigits n) with hl | hl
 ·exfalso
  induction k generalizing n with
  | zero => omega
  | succ k ih =>
   by_cases hn : n < 10
   ·rw [Lib.nDigits_small hn] at hl; omega
   ·rw [Lib.nDigits_big hn] at hl
    by_cases h0 : k = 0
    ·subst h0; omega
    ·exact ih (n / 10) (by omega) (by rw [Nat.pow_succ] at h; omega) (by omega)
 ·exact hl
theorem recT_le {r : Rec} {t : List UInt8} (h : RecT r t) (hs : t.length < 10000000) : t.length ≤ r.1.length + r.2.length + 10 := by
 have h1 := recT_len h
 rw [Lib.decDigits_length] at h1
 have := nDigits_le t.length 7 (by omega) (by omega)
 omega
theorem recT_small {r : Rec} {t : List UInt8} (h : RecT r t) (hs : r.1.length + r.2.length ≤ 1048576) : t.length < 10000000 := by
 have h1 := recT_len h
 rw [Lib.decDigits_length] at h1
 rcases Nat.lt_or_ge t.length 10000000 with h2 | h2
 ·exact h2
 ·exfalso
  have hlt := Lib.lt_pow_nDigits t.length
  have hk : ∀ n : Nat, 10000000 ≤ n → Lib.nDigits n ≤ n / 1000000 + 6 := by
   intro n
   induction n using Nat.strongRecOn with
   | ind n ih =>
    intro hn
    rw [Lib.nDigits_big (by omega)]
    by_cases h3 : n / 10 < 10000000
    ·have := nDigits_le (n / 10) 7 (by omega) (by omega); omega
    ·have := ih (n / 10) (by omega) (by omega); omega
  have := hk _ h2
  omega
theorem recsT_le {rs : List Rec} {t : List UInt8} (h : RecsT rs t) (hs : ∀ r ∈ rs, r.1.length + r.2.length ≤ 1048576) : t.length ≤ recsW rs := by
 induction h with
 | nil => exact Nat.zero_le _
 | cons h hr ih =>
  rename_i r rs t ts
  have h1 := recT_le h (recT_small h (hs r (List.mem_cons_self ..)))
  have h2 := ih fun x hx => hs x (List.mem_cons_of_mem _ hx)
  simp only [recsW, List.map_cons, List.sum_cons, List.length_append] at h2 ⊢
  omega
def OutOk (h : Hd) (data tail : List UInt8) (out : Out) : Prop :=
 (∃ h2 pax, out = .file h2 pax (bodyE h data ++ tail) ∧ h.typ ≠ 103 ∧ SameH h2 h ∧ (∀ k v, findL h.recs k = some v → ∃ rs, pax = some rs ∧ findL rs k = some v)) ∨
 (∃ rs n, h.typ = 103 ∧ out = .glob h.name rs (zpad n) (List.replicate (zpad n) 0 ++ tail) ∧ ∀ k v, findL rs k = some v ↔ findL h.recs k = some v)
theorem recsW_mem {rs : List Rec} {r : Rec} (h : r ∈ rs) : r.1.length + r.2.length ≤ recsW rs := by
 induction rs with
 | nil => cases h
 | cons x rs ih =>
  simp only [recsW, List.map_cons, List.sum_cons] at ih ⊢
  rcases List.mem_cons.1 h with rfl | h
  ·omega
  ·have := ih h; omega
theorem recsT_small {rs : List Rec} {t : List UInt8} (h : RecsT rs t) (hw : recsW rs ≤ 600000) : t.length ≤ 600000 :=
 Nat.le_trans (recsT_le h fun r hr => by have := recsW_mem hr; omega) hw
theorem meta_in (kind : UInt8) (name : List UInt8) (n : Nat) (gnu : Bool) (hz : NoNul name) (hn : n ≤ 4611686018427387904) : BlkIn (metaH kind name n) gnu := by
 refine ⟨hz, (fun c hc => by cases hc), (fun c hc => by cases hc), (fun c hc => by cases hc), fun _ => ⟨?_, ?_⟩, (fun _ h => by cases h), (fun _ h => by cases h)⟩
 ·intro x hx
  simp only [metaH, hd0, List.mem_cons, List.not_mem_nil, or_false] at hx
  omega
 ·simp only [metaH, hd0]; omega
theorem meta_rd {kind : UInt8} {name : List UInt8} {n : Nat} {gnu : Bool} {l : List UInt8} (b : BlkE (metaH kind name n) gnu l) (hz : NoNul name) (hn : n < 8589934592) :
  ∃ h0, BlkRd h0 (if gnu then 8 else 6) l ∧ h0.typ = kind ∧ h0.size = n ∧ (name.length ≤ 100 → h0.name = name) := by
 obtain ⟨nm, hr, hx⟩ := b.rd (meta_in kind name n gnu hz (by omega))
 have hs : stored gnu 12 (n : Int) = n := stored_fits (by simp [fitsO]; omega)
 refine ⟨_, hr, rfl, hs, fun hl => ?_⟩
 rcases hx with ⟨rfl, _⟩ | ⟨_, _, rfl⟩
 ·exact List.take_of_length_le hl
 ·rfl
theorem nn_pax : NoNul paxName := by show ∀ c ∈ paxName, c ≠ 0; decide
theorem nn_long : NoNul longName := by show ∀ c ∈ longName, c ≠ 0; decide
theorem typ_ok {t : UInt8} (h : 48 ≤ t.toNat ∧ t.toNat ≤ 55) : t.toNat ≠ 0 ∧ t ≠ 120 ∧ t ≠ 103 ∧ t ≠ 76 ∧ t ≠ 75 ∧ t ≠ 83 := by
 refine ⟨by omega, ?_, ?_, ?_, ?_, ?_⟩ <;> (rintro rfl; simp at h)
structure Int64s (h : Hd) : Prop where
 size : h.size < 9223372036854775808
 uid : h.uid < 9223372036854775808
 gid : h.gid < 9223372036854775808
theorem blk_in {h : Hd} {f : Int} (hc : CanP h f) (gnu : Bool) (hg : gnu = true → f = 3) (hi : Int64s h) : BlkIn h gnu := by
 have := hi.size
 refine ⟨hc.name.2.1, hc.link.1, hc.un.1, hc.gn.1, fun g => ⟨?_, ?_⟩, fun g a => ?_, fun g a => ?_⟩
 ·have hf := hg g
  have h1 := hc.mode; have h2 := hc.uid; have h3 := hc.gid; have h4 := hc.maj; have h5 := hc.min
  intro x hx
  simp only [List.mem_cons, List.not_mem_nil, or_false] at hx
  rcases hx with rfl | rfl | rfl | rfl | rfl <;> omega
 ·have h1 := hc.size; have h2 := hc.mod; omega
 ·have := hc.acc a; omega
 ·have := hc.chg a; omega
theorem step_L {s m : List UInt8} (hm : LongE 76 s m) (hz : NoNul s) (hl : s.length < 1000000) (ln : List UInt8) :
  ∃ ln', (ln' = ln ∧ s.length ≤ 100 ∨ ln' = s ∧ s ≠ []) ∧ ∀ (pax : Option (List Rec)) (ll rest : List UInt8) (out : Out), (∀ (d p : List UInt8) (nb pad : Nat), d.length = nb → p.length = pad → HeadP nb pad pax ln' ll (d ++ p ++ rest) out) →
   ∀ (d p : List UInt8) (nb pad : Nat), d.length = nb → p.length = pad → HeadP nb pad pax ln ll (d ++ p ++ (m ++ rest)) out := by
 rcases hm with ⟨rfl, h1⟩ | ⟨hne, hm⟩
 ·exact ⟨ln, .inl ⟨rfl, h1⟩, fun pax ll rest out h d p nb pad hd hp => h d p nb pad hd hp⟩
 ·refine ⟨s, .inr ⟨rfl, hne⟩, fun pax ll rest out h d p nb pad hd hp => ?_⟩
  obtain ⟨l, hb⟩ := hm
  obtain ⟨h0, hrd, e1, e2, _⟩ := meta_rd hb nn_long (by simp; omega)
  have hlen : (s ++ [0]).length = s.length + 1 := by simp
  have := HeadP.name (nb := nb) (pad := pad) (pax := pax) (ln := ln) (ll := ll) d p l s _ h0 _ hd hp hb.len hrd e1 (by rw [e2, hlen]; rfl) hz (by omega) (h [] (List.replicate (zpad (s.length + 1)) 0) 0 (zpad (s.length + 1)) rfl (by simp))
  have e : d ++ p ++ (l ++ (s ++ 0 :: ([] ++ List.replicate (zpad (s.length + 1)) 0 ++ rest))) = d ++ p ++ (l ++ filledL (s ++ [0]) ++ rest) := by simp [filledL]
  rw [e] at this
  exact this
theorem step_K {s m : List UInt8} (hm : LongE 75 s m) (hz : NoNul s) (hl : s.length < 1000000) (ll : List UInt8) :
  ∃ ll', (ll' = ll ∧ s.length ≤ 100 ∨ ll' = s ∧ s ≠ []) ∧ ∀ (pax : Option (List Rec)) (ln rest : List UInt8) (out : Out), (∀ (d p : List UInt8) (nb pad : Nat), d.length = nb → p.length = pad → HeadP nb pad pax ln ll' (d ++ p ++ rest) out) →
   ∀ (d p : List UInt8) (nb pad : Nat), d.length = nb → p.length = pad → HeadP nb pad pax ln ll (d ++ p ++ (m ++ rest)) out := by
 rcases hm with ⟨rfl, h1⟩ | ⟨hne, hm⟩
 ·exact ⟨ll, .inl ⟨rfl, h1⟩, fun pax ln rest out h d p nb pad hd hp => h d p nb pad hd hp⟩
 ·refine ⟨s, .inr ⟨rfl, hne⟩, fun pax ln rest out h d p nb pad hd hp => ?_⟩
  obtain ⟨l, hb⟩ := hm
  obtain ⟨h0, hrd, e1, e2, _⟩ := meta_rd hb nn_long (by simp; omega)
  have hlen : (s ++ [0]).length = s.length + 1 := by simp
  have := HeadP.link (nb := nb) (pad := pad) (pax := pax) (ln := ln) (ll := ll) d p l s _ h0 _ hd hp hb.len hrd e1 (by rw [e2, hlen]; rfl) hz (by omega) (h [] (List.replicate (zpad (s.length + 1)) 0) 0 (zpad (s.length + 1)) rfl (by simp))
  have e : d ++ p ++ (l ++ (s ++ 0 :: ([] ++ List.replicate (zpad (s.length + 1)) 0 ++ rest))) = d ++ p ++ (l ++ filledL (s ++ [0]) ++ rest) := by simp [filledL]
  rw [e] at this
  exact this
theorem over_of {s t x : List UInt8} (h : t = [] ∧ s.length ≤ 100 ∨ t = s ∧ s ≠ []) (hx : x = s.take 100) : over t x = s := by
 rcases h with ⟨rfl, h1⟩ | ⟨rfl, h1⟩
 ·rw [over, if_pos rfl, hx, List.take_of_length_le h1]
 ·rw [over, if_neg h1]
theorem head_of_file {h : Hd} {data b tail : List UInt8} (he : FileE h data b) (hp : FileP (h, data)) (hi : Int64s h) (hdl : data.length ≤ 4611686018427387904) {d p : List UInt8} {nb pad : Nat} (hd : d.length = nb) (hpad : p.length = pad) :
  ∃ out, HeadP nb pad none [] [] (d ++ p ++ (b ++ tail)) out ∧ OutOk h data tail out := by
 have hsz : ∀ h2 : Hd, SameH h2 h → h.typ ≠ 103 → 0 ≤ h2.size ∧ h2.size ≤ 4611686018427387904 ∨ hasData h2.typ = false := fun h2 hs ht => by
  rcases hp with ⟨hg, _⟩ | ⟨_, hf, hc, hdat⟩
  ·exact absurd hg.typ ht
  ·simp only at hdat
   rw [hs.size, hs.typ]
   cases e : hasData h.typ with
   | false => exact .inr rfl
   | true => rw [if_pos e] at hdat; exact .inl ⟨by omega, by omega⟩
 cases he with
 | glob ht rs t m hrs hin hw hr hm =>
  rcases hp with ⟨hg, _⟩ | ⟨hne, _⟩
  ·obtain ⟨l, hb⟩ := hm
   have htl := recsT_small hr hw
   obtain ⟨h0, hrd, h1, h2, h3⟩ := meta_rd hb (by rw [hg.name]; intro c hc; cases hc) (by omega)
   have h3' := h3 (by rw [hg.name]; simp)
   refine ⟨_, ?_, .inr ⟨rs, t.length, ht, rfl, hrs⟩⟩
   have := HeadP.glob (nb := nb) (pad := pad) (pax := none) (ln := []) (ll := []) d p l t (List.replicate (zpad t.length) 0 ++ tail) h0 _ rs hd hpad hb.len hrd h1 h2 hr (fun r hr => hg.own r (hin r hr)) (by omega)
   rw [h3'] at this
   have e : d ++ p ++ (l ++ (t ++ (List.replicate (zpad t.length) 0 ++ tail))) = d ++ p ++ (l ++ filledL t ++ tail) := by simp [filledL]
   rw [e] at this
   exact this
  ·exact absurd ht hne
 | ustar ht hf l hl =>
  rcases hp with ⟨hg, _⟩ | ⟨_, _, hc, hdat⟩
  ·exact absurd hg.typ ht
  ·simp only [hf] at hc
   obtain ⟨nm, hrd, hx⟩ := hl.rd (blk_in hc false (fun g => by cases g) hi)
   have hnm : nm = h.name := by
    rcases hx with ⟨rfl, hs⟩ | ⟨_, _, rfl⟩
    ·rw [List.take_of_length_le]
     have := hc.name.2.2 rfl
     exact Nat.not_lt.1 fun hl => this.2.elim (by omega) (hs rfl this.1 hl)
    ·rfl
   subst hnm
   have h1 := hc.mode; have h2 := hc.uid; have h3 := hc.gid; have h4 := hc.maj; have h5 := hc.min; have h6 := hc.size; have h7 := hc.mod
   have hA : h.hasA = false := by cases e : h.hasA with
    | false => rfl
    | true => exact absurd rfl (hc.acc e).1
   have hC : h.hasC = false := by cases e : h.hasC with
    | false => rfl
    | true => exact absurd rfl (hc.chg e).1
   have hsame : SameH (blkH h false h.name) h := by
    refine ⟨rfl, rfl, ?_, ?_, ?_, ?_, ?_, ?_, ?_, ⟨?_, ?_⟩, ?_, ?_, ⟨by simp [blkH, hA], (fun e => by rw [hA] at e; cases e)⟩, ⟨by simp [blkH, hC], (fun e => by rw [hC] at e; cases e)⟩⟩
    ·exact List.take_of_length_le (hc.link.2 rfl).2
    ·exact stored_fits (by simp [fitsO]; omega)
    ·exact stored_fits (by simp [fitsO]; omega)
    ·exact stored_fits (by simp [fitsO]; omega)
    ·exact stored_fits (by simp [fitsO]; omega)
    ·exact List.take_of_length_le (by have := hc.un.2.2 (by omega); omega)
    ·exact List.take_of_length_le (by have := hc.gn.2.2 (by omega); omega)
    ·exact stored_fits (by simp [fitsO]; omega)
    ·show 0 = h.mn; have := h7.2.2.1 (by omega); omega
    ·exact stored_fits (by simp [fitsO]; omega)
    ·exact stored_fits (by simp [fitsO]; omega)
   refine ⟨_, ?_, .inl ⟨_, none, rfl, ht, hsame, ?_⟩⟩
   ·have := HeadP.file (nb := nb) (pad := pad) (pax := none) (ln := []) (ll := []) d p l (bodyE h data ++ tail) _ _ _ _ hd hpad hl.len hrd (typ_ok hc.typ) (hsz _ hsame ht) rfl rfl (hsz _ hsame ht)
    rw [List.append_assoc l]
    exact this
   ·intro k v e
    have : h.recs = [] := Classical.byContradiction fun e => by have := hc.recs e; omega
    rw [this] at e; cases e
 | pax0 ht hf h0 l hl =>
  rcases hp with ⟨hg, _⟩ | ⟨_, _, hc, hdat⟩
  ·exact absurd hg.typ ht
  ·simp only [hf] at hc
   obtain ⟨nm, hrd, hx⟩ := hl.rd (blk_in hc false (fun g => by cases g) hi)
   obtain ⟨h1, hm, hsame⟩ := merged_of hc h0 (by rcases hx with ⟨e, hs⟩ | ⟨_, ha, e⟩; exact .inl ⟨e, hs rfl⟩; exact .inr ⟨ha, e⟩) ⟨hi.size, hi.uid, hi.gid⟩
   have hb1 : SameH (blkH h false nm) h := by
    have hA : h.hasA = false := by cases e : h.hasA with
     | false => rfl
     | true => have := h0.atime e; obtain ⟨r, hr, _⟩ := this; cases hr
    have hC : h.hasC = false := by cases e : h.hasC with
     | false => rfl
     | true => have := h0.ctime e; obtain ⟨r, hr, _⟩ := this; cases hr
    have e1 := hm.name; have e2 := hm.link; have e3 := hm.un; have e4 := hm.gn
    have e5 : h1.size = _ := hm.size; have e6 : h1.uid = _ := hm.uid; have e7 : h1.gid = _ := hm.gid
    have e8 : h1.ms = _ ∧ h1.mn = _ := hm.mod
    refine ⟨rfl, e1.symm.trans hsame.name, e2.symm.trans hsame.link, e5.symm.trans hsame.size, hm.mode.symm.trans hsame.mode, e6.symm.trans hsame.uid, e7.symm.trans hsame.gid, e3.symm.trans hsame.un, e4.symm.trans hsame.gn,
     ⟨e8.1.symm.trans hsame.mod.1, e8.2.symm.trans hsame.mod.2⟩, hm.maj.symm.trans hsame.maj, hm.min.symm.trans hsame.min, ⟨by simp [blkH, hA], (fun e => by rw [hA] at e; cases e)⟩, ⟨by simp [blkH, hC], (fun e => by rw [hC] at e; cases e)⟩⟩
   refine ⟨_, ?_, .inl ⟨_, none, rfl, ht, hb1, ?_⟩⟩
   ·have := HeadP.file (nb := nb) (pad := pad) (pax := none) (ln := []) (ll := []) d p l (bodyE h data ++ tail) _ _ _ _ hd hpad hl.len hrd (typ_ok hc.typ) (hsz _ hb1 ht) rfl rfl (hsz _ hb1 ht)
    rw [List.append_assoc l]
    exact this
   ·intro k v e
    have := h0.own k v e
    cases this
 | pax ht hf rs hr t m hrt hm l hl =>
  rcases hp with ⟨hg, _⟩ | ⟨_, _, hc, hdat⟩
  ·exact absurd hg.typ ht
  ·simp only [hf] at hc
   obtain ⟨nm, hrd, hx⟩ := hl.rd (blk_in hc false (fun g => by cases g) hi)
   obtain ⟨h1, hmg, hsame⟩ := merged_of hc hr (by rcases hx with ⟨e, hs⟩ | ⟨_, ha, e⟩; exact .inl ⟨e, hs rfl⟩; exact .inr ⟨ha, e⟩) ⟨hi.size, hi.uid, hi.gid⟩
   obtain ⟨l0, hb0⟩ := hm
   have htl := recsT_small hrt hr.small
   obtain ⟨h0, hrd0, e1, e2, e3⟩ := meta_rd hb0 nn_pax (by omega)
   refine ⟨_, ?_, .inl ⟨h1, some rs, rfl, ht, hsame, fun k v e => ⟨rs, rfl, ?_⟩⟩⟩
   ·have h2 := HeadP.file (nb := 0) (pad := zpad t.length) (pax := some rs) (ln := []) (ll := []) [] (List.replicate (zpad t.length) 0) l (bodyE h data ++ tail) _ h1 h1 _ rfl (by simp) hl.len hrd (typ_ok hc.typ)
     (.inl (by have := stored_bd 12 h.size (by omega); exact ⟨this.1, by show stored false 12 h.size ≤ _; omega⟩)) hmg rfl (hsz _ hsame ht)
    have := HeadP.pax (nb := nb) (pad := pad) (pax := none) d p l0 t _ h0 _ rs hd hpad hb0.len hrd0 e1 e2 hrt (by omega) ?_ h2
    ·have e : d ++ p ++ (l0 ++ (t ++ ([] ++ List.replicate (zpad t.length) 0 ++ (l ++ (bodyE h data ++ tail))))) = d ++ p ++ (l0 ++ filledL t ++ (l ++ bodyE h data) ++ tail) := by simp [filledL]
     rw [e] at this
     exact this
    ·intro r hrm
     have h1 := recOk_key hc.own (hr.ok r hrm).1
     rcases h1 with h1 | ⟨h1, h2⟩
     ·refine ⟨?_, ?_, ?_, ?_, not_prefix_field h1 (.inr rfl), (hr.ok r hrm).2⟩
      ·simp only [fieldKeys, List.mem_cons, List.not_mem_nil, or_false] at h1
       rcases h1 with e | e | e | e | e | e | e | e | e | e <;> (rw [e]; decide)
      ·simp only [fieldKeys, List.mem_cons, List.not_mem_nil, or_false] at h1
       rcases h1 with e | e | e | e | e | e | e | e | e | e <;> (rw [e]; decide)
      ·simp only [fieldKeys, List.mem_cons, List.not_mem_nil, or_false] at h1
       rcases h1 with e | e | e | e | e | e | e | e | e | e <;> (rw [e]; unfold NoNul; decide)
      ·have ho := (hr.ok r hrm).1
       rintro (e | e | e | e)
       ·rw [rec_path hc.own ho e]; exact hc.name.2.1
       ·rw [rec_link hc.own ho e]; exact hc.link.1
       ·rw [rec_un hc.own ho e]; exact hc.un.1
       ·rw [rec_gn hc.own ho e]; exact hc.gn.1
     ·exact ⟨h1.noEq, h1.ne, h1.noNul, fun _ => h2, h1.noSparse, (hr.ok r hrm).2⟩
   ·obtain ⟨u, hu⟩ := findL_some rs k v (hr.own k v e)
    have hm := findL_mem _ _ _ hu
    have := (hr.ok _ hm).1
    have hk := own_key hc.own e
    rcases this with ⟨h1, _⟩ | ⟨h1, _⟩ | ⟨h1, _⟩ | ⟨h1, _⟩ | ⟨h1, _⟩ | ⟨h1, _⟩ | ⟨h1, _⟩ | ⟨h1, _⟩ | ⟨h1, _⟩ | ⟨h1, _⟩ | h1
    all_goals first
     | exact absurd (by rw [show k = _ from h1]; decide) hk
     | (have h1' : findL h.recs k = some u := h1; rw [hu, ← h1', e])
 | gnu ht hf first m k hm hk l hl =>
  rcases hp with ⟨hg, _⟩ | ⟨_, _, hc, hdat⟩
  ·exact absurd hg.typ ht
  ·simp only [hf] at hc
   obtain ⟨nm, hrd, hx⟩ := hl.rd (blk_in hc true (fun _ => rfl) hi)
   have hnm : nm = h.name.take 100 := by
    rcases hx with ⟨e, _⟩ | ⟨e, _⟩
    ·exact e
    ·cases e
   subst hnm
   have hw := hc.sane.small
   unfold weight at hw
   obtain ⟨ln, hln, hL⟩ := step_L hm hc.name.2.1 (by omega) []
   obtain ⟨ll, hll, hK⟩ := step_K hk hc.link.1 (by omega) []
   have hsame : SameH { blkH h true (h.name.take 100) with name := over ln (h.name.take 100), link := over ll (h.link.take 100) } h := by
    refine ⟨rfl, over_of hln rfl, over_of hll rfl, rfl, rfl, rfl, rfl, ?_, ?_, ⟨rfl, ?_⟩, rfl, rfl, ⟨by simp [blkH], fun e => ⟨rfl, ?_⟩⟩, ⟨by simp [blkH], fun e => ⟨rfl, ?_⟩⟩⟩
    ·exact List.take_of_length_le (by have := hc.un.2.2 (by omega); omega)
    ·exact List.take_of_length_le (by have := hc.gn.2.2 (by omega); omega)
    ·show 0 = h.mn; have := hc.mod.2.2.1 (by omega); omega
    ·show 0 = h.atn; have := (hc.acc e).2.2.2 (by omega); omega
    ·show 0 = h.ctn; have := (hc.chg e).2.2.2 (by omega); omega
   have hfile : ∀ (d p : List UInt8) (nb pad : Nat), d.length = nb → p.length = pad → HeadP nb pad none ln ll (d ++ p ++ (l ++ bodyE h data ++ tail)) (.file _ none (bodyE h data ++ tail)) := fun d p nb pad hd hp => by
    have := HeadP.file (nb := nb) (pad := pad) (pax := none) (ln := ln) (ll := ll) d p l (bodyE h data ++ tail) _ _ _ _ hd hp hl.len hrd (typ_ok hc.typ) (by have := hsz _ hsame ht; exact this) rfl rfl (hsz _ hsame ht)
    rw [List.append_assoc l]
    exact this
   refine ⟨_, ?_, .inl ⟨_, none, rfl, ht, hsame, ?_⟩⟩
   ·cases first with
    | true =>
     have := hL none [] (k ++ (l ++ bodyE h data ++ tail)) _ (hK none ln (l ++ bodyE h data ++ tail) _ hfile) d p nb pad hd hpad
     simp only [if_true, List.append_assoc] at this ⊢
     exact this
    | false =>
     have := hK none [] (m ++ (l ++ bodyE h data ++ tail)) _ (hL none ll (l ++ bodyE h data ++ tail) _ hfile) d p nb pad hd hpad
     simp only [Bool.false_eq_true, if_false, List.append_assoc] at this ⊢
     exact this
   ·intro k v e
    have : h.recs = [] := Classical.byContradiction fun e => by have := hc.recs e; omega
    rw [this] at e; cases e
end
section
open Go Go.RowKit
theorem and_mask (a : Int) (k : Nat) (hk : k ≤ 62) : bits .and .i64 a ((2 ^ k - 1 : Nat) : Int) = a % ((2 ^ k : Nat) : Int) := by
 show IntKind.i64.wrap ((BitVec.ofInt 64 a &&& BitVec.ofInt 64 ((2 ^ k - 1 : Nat) : Int)).toNat : Int) = _
 have h2 : 2 ^ k ≤ 2 ^ 62 := Nat.pow_le_pow_right (by omega) hk
 have hp : 1 ≤ 2 ^ k := Nat.one_le_two_pow
 have e1 : (BitVec.ofInt 64 ((2 ^ k - 1 : Nat) : Int)).toNat = 2 ^ k - 1 := by
  rw [BitVec.ofInt_natCast, BitVec.toNat_ofNat, Nat.mod_eq_of_lt (by omega)]
 rw [BitVec.toNat_and, e1, Nat.and_two_pow_sub_one_eq_mod, BitVec.toNat_ofInt]
 have hd : ((2 ^ k : Nat) : Int) ∣ ((2 ^ 64 : Nat) : Int) := by
  rw [Int.natCast_dvd_natCast]; exact Nat.pow_dvd_pow 2 (by omega)
 have h3 : (a % ((2 ^ 64 : Nat) : Int)) % ((2 ^ k : Nat) : Int) = a % ((2 ^ k : Nat) : Int) := Int.emod_emod_of_dvd a hd
 have h4 := Int.emod_nonneg a (show ((2 ^ 64 : Nat) : Int) ≠ 0 by decide)
 have h5 := Int.emod_nonneg a (show ((2 ^ k : Nat) : Int) ≠ 0 by omega)
 have h6 := Int.emod_lt_of_pos a (show (0 : Int) < ((2 ^ k : Nat) : Int) by omega)
 have e2 : (((a % ((2 ^ 64 : Nat) : Int)).toNat % 2 ^ k : Nat) : Int) = a % ((2 ^ k : Nat) : Int) := by
  rw [Int.natCast_emod, Int.toNat_of_nonneg h4, h3]
 rw [e2]
 exact IntWalk.i64_in _ (by omega)
theorem and511 (n : Nat) : bits .and .i64 (-(n : Int)) 511 = ((zpad n : Nat) : Int) := by
 have := and_mask (-(n : Int)) 9 (by omega)
 have e : bits .and .i64 (-(n : Int)) 511 = -(n : Int) % 512 := this
 rw [e]
 unfold zpad padN
 omega
theorem blockPadding_any (w : World) (n : Nat) (hn : n ≤ 4611686018427387904) :
  Calls Tryz.prog 214 #[.int .i64 n] w fun e w' => e = .returned (.int .i64 (zpad n)) ∧ w' = w := by
 have h := and511 n
 have H := Lib.hid h
 clear h
 go_enter Tryz.func214, Tryz.ntmps214
 go_wp2_with fail
 rw [H.out]
 go_ret
 exact ⟨rfl, rfl⟩
theorem isHeaderOnly_any (w : World) (t : UInt8) :
  Calls Tryz.prog 176 #[.int .u8 t.toNat] w fun e w' => e = .returned (.bool (!hasData t)) ∧ w' = w := by
 have hH : (!hasData t) = decide (49 ≤ t.toNat ∧ t.toNat ≤ 54) := by
  unfold hasData
  rw [Bool.eq_iff_iff]
  simp
 rw [hH]
 have h0 := t.toNat_lt
 generalize t.toNat = n at h0
 clear hH
 by_cases hc : 49 ≤ n ∧ n ≤ 54
 ·have hc' : n = 49 ∨ n = 50 ∨ n = 51 ∨ n = 52 ∨ n = 53 ∨ n = 54 := by omega
  clear hc
  rcases hc' with rfl | rfl | rfl | rfl | rfl | rfl
  all_goals
   go_enter Tryz.func176, Tryz.ntmps176
   go_wp2_with fail
   go_ret
   exact ⟨rfl, rfl⟩
 ·have h1 : ((n : Int) == 49) = false := by rw [beq_eq_false_iff_ne]; omega
  have h2 : ((n : Int) == 50) = false := by rw [beq_eq_false_iff_ne]; omega
  have h3 : ((n : Int) == 51) = false := by rw [beq_eq_false_iff_ne]; omega
  have h4 : ((n : Int) == 52) = false := by rw [beq_eq_false_iff_ne]; omega
  have h5 : ((n : Int) == 53) = false := by rw [beq_eq_false_iff_ne]; omega
  have h6 : ((n : Int) == 54) = false := by rw [beq_eq_false_iff_ne]; omega
  have hd : decide (49 ≤ n ∧ n ≤ 54) = false := by simpa using hc
  rw [hd]
  clear hc hd
  go_enter Tryz.func176, Tryz.ntmps176
  go_wp2_with fail
  go_ret
  exact ⟨rfl, rfl⟩
theorem mayOnlyBe_any (w : World) (b : Nat) (f g : Int) (t : TypeId) (h : w.heap[b]? = some (.cells #[.int .i64 f] t (0, 0))) :
  Calls Tryz.prog 129 #[.pointer (some ⟨b, 0, none⟩), .int .i64 g] w fun e w' => e = .returned (.tuple #[]) ∧ w' = w.setCell ⟨b, 0, none⟩ (.int .i64 (bits .and .i64 f g)) := by
 have c0 := cell_of h 0 rfl
 have f0 := free_of h 0
 clear h
 go_enter Tryz.func129, Tryz.ntmps129
 go_wp2_with fail
 go_end0
 exact ⟨rfl, rfl⟩
theorem info150 : ∃ i m, Tryz.prog.info? 150 = some i ∧ i.methods.find? (·.name == "tapearchives/pub/gotar.physicalRemaining") = some m ∧ m.path = #[] ∧ m.func = some (382, false) := by
 have h : (Tryz.prog.info? 150).bind (fun i => (i.methods.find? (·.name == "tapearchives/pub/gotar.physicalRemaining")).map fun m => (m.path.toList.isEmpty, m.func)) = some (true, some (382, false)) := by kernel_rfl
 obtain ⟨i, h1, h2⟩ := Option.bind_eq_some_iff.1 h
 obtain ⟨m, h3, h4⟩ := Option.map_eq_some_iff.1 h2
 simp only [Prod.mk.injEq] at h4
 exact ⟨i, m, h1, h3, by have := h4.1; rw [List.isEmpty_iff] at this; exact Array.toList_eq_nil_iff.1 this, h4.2⟩
theorem run_wrapNil (w : World) (t u : TypeId) (a : Addr) (s m : String) : (Builtin.ssaWrapNilChk_ #[t] u #[.pointer (some a), strVal s, strVal m]).run Tryz.prog w = .ok (.pointer (some a)) w := by
 rfl
theorem meth_phys (w : World) (b : Nat) (r : Value) (nb : Int) (h : w.heap[b]? = some (.cells #[r, .int .i64 nb] 152 (0, 0))) :
  (method 560 150 (.pointer (some ⟨b, 0, none⟩)) "tapearchives/pub/gotar.physicalRemaining").run Tryz.prog w = .ok (382, .agg #[r, .int .i64 nb]) w := by
 obtain ⟨i, m, h1, h2, h3, h4⟩ := info150
 have hl := run_loadVar_row (P := Tryz.prog) w b 152 152 #[r, .int .i64 nb] (0, 0) _ h Tryz.underlying152 rfl (by kernel_rfl)
 unfold method
 simp [typeInfo, h1, h2, h3, h4, follow, receiverAt, run_underlying Tryz.underlying150, Place.get, run_wrapNil, asAddr, hl]
theorem phys_reg (w : World) (r : Value) (nb : Int) :
  Calls Tryz.prog 382 #[.agg #[r, .int .i64 nb]] w fun e w' => e = .returned (.int .i64 nb) ∧ w' = w.alloc (.cells #[r, .int .i64 nb] 152) := by
 go_enter Tryz.func382, Tryz.ntmps382
 go_wp2_with fail
 go_ret
 exact ⟨rfl, rfl⟩
end
section
open Go Go.RowKit
def HrEnd (w : World) (R : Nat) (r : Value) (blk : List Value) (err : Value) (n : Nat) (e : Ending) (w' : World) : Prop :=
 e = .returned .nilIface ∧ ∃ Rf, w.heap.size ≤ Rf ∧ Kp (· = R) w w' ∧ w'.heap[R]? = some (.cells (trRow r (zpad n) (.iface 150 (.pointer (some ⟨Rf, 0, none⟩))) blk err).toArray 158 (0, 0)) ∧
  w'.heap[Rf]? = some (.cells #[r, .int .i64 n] 152 (0, 0))
theorem HrEnd.mk {w : World} {R : Nat} {T : TypeId} {v : Value} {pad : Int} {curr : Value} {blk : List Value} {err : Value} (n : Nat) (m : Int) (hm : m = n)
  (hr : w.heap[R]? = some (.cells (trRow (.iface T v) pad curr blk err).toArray 158 (0, 0))) :
  HrEnd w R (.iface T v) blk err n (.returned .nilIface) (((w.setCell ⟨R, 1, none⟩ (.int .i64 (zpad n))).setCell ⟨R, 2, none⟩ (.iface 150 (.pointer (some ⟨w.heap.size, 0, none⟩)))).alloc (.cells #[.iface T v, .int .i64 m] 152)) := by
 subst hm
 have h1 := heap_set hr 1 (.int .i64 (zpad n))
 rw [trRow_set_pad] at h1
 have h2 := heap_set h1 2 (.iface 150 (.pointer (some ⟨w.heap.size, 0, none⟩)))
 rw [trRow_set_curr] at h2
 refine ⟨rfl, w.heap.size, Nat.le_refl _, Kp.alloc (Kp.setCell (Kp.setCell (S := (· = R)) (Kp.refl _ _) (.inl rfl) _) (.inl rfl) _) _, heap_alloc h2 _, ?_⟩
 have h3 := heap_new ((w.setCell ⟨R, 1, none⟩ (.int .i64 (zpad n))).setCell ⟨R, 2, none⟩ (.iface 150 (.pointer (some ⟨w.heap.size, 0, none⟩)))) (.cells #[.iface T v, .int .i64 n] 152)
 rw [show ((w.setCell ⟨R, 1, none⟩ (.int .i64 (zpad n))).setCell ⟨R, 2, none⟩ (.iface 150 (.pointer (some ⟨w.heap.size, 0, none⟩)))).heap.size = w.heap.size by simp [World.setCell]] at h3
 exact h3
theorem handleReg_any (w : World) (R nh : Nat) (T : TypeId) (v : Value) (pad : Int) (curr : Value) (blk : List Value) (err : Value) (row : List Value) (tf : UInt8) (size : Int)
  (hr : w.heap[R]? = some (.cells (trRow (.iface T v) pad curr blk err).toArray 158 (0, 0))) (hh : w.heap[nh]? = some (.cells row.toArray 167 (0, 0)))
  (h0 : row[0]? = some (.int .u8 tf.toNat)) (h3 : row[3]? = some (.int .i64 size)) (hs : 0 ≤ size ∧ size ≤ 4611686018427387904 ∨ hasData tf = false) :
  Calls Tryz.prog 128 #[.pointer (some ⟨R, 0, none⟩), .pointer (some ⟨nh, 0, none⟩)] w (HrEnd w R (.iface T v) blk err (if hasData tf then size.toNat else 0)) := by
 have c0 : w.cell? ⟨R, 0, none⟩ = some (.iface T v) := cell_of hr 0 rfl
 have c1 : w.cell? ⟨R, 1, none⟩ = some (.int .i64 pad) := cell_of hr 1 rfl
 have c2 : w.cell? ⟨R, 2, none⟩ = some curr := cell_of hr 2 rfl
 have z1 := free_of hr 1
 have z2 := free_of hr 2
 have t0 : w.cell? ⟨nh, 0, none⟩ = some (.int .u8 tf.toNat) := cell_of hh 0 (by simpa using h0)
 have t3 : w.cell? ⟨nh, 3, none⟩ = some (.int .i64 size) := cell_of hh 3 (by simpa using h3)
 have hlt := lt_of hr
 have HR := Lib.hid hr
 clear hr hh h0 h3
 cases hd : hasData tf
 ·have HE := HrEnd.mk 0 0 rfl HR.out
  have HE' := Lib.hid HE
  have HD := Lib.hid hd
  clear HE hd hs
  simp only [Bool.false_eq_true, if_false]
  go_enter Tryz.func128, Tryz.ntmps128
  go_wp2_with fail
  refine (isHeaderOnly_any _ tf).mono ?_
  rintro e w1 ⟨rfl, rfl⟩
  rw [HD.out]
  go_wp2_with fail
  refine (blockPadding_any _ 0 (by omega)).mono ?_
  rintro e w1 ⟨rfl, rfl⟩
  go_wp2_with fail
  go_ret
  exact HE'.out
 ·have hs' : 0 ≤ size ∧ size ≤ 4611686018427387904 := by rcases hs with h | h; exact h; rw [hd] at h; cases h
  obtain ⟨n, rfl⟩ : ∃ n : Nat, size = (n : Int) := ⟨size.toNat, by omega⟩
  have hn : n ≤ 4611686018427387904 := by omega
  have HE := HrEnd.mk n n rfl HR.out
  have HE' := Lib.hid HE
  have HD := Lib.hid hd
  clear HE hd hs hs'
  simp only [if_true, Int.toNat_natCast]
  go_enter Tryz.func128, Tryz.ntmps128
  go_wp2_with fail
  refine (isHeaderOnly_any _ tf).mono ?_
  rintro e w1 ⟨rfl, rfl⟩
  rw [HD.out]
  go_wp2_with fail
  refine (blockPadding_any _ n hn).mono ?_
  rintro e w1 ⟨rfl, rfl⟩
  go_wp2_with fail
  go_ret
  exact HE'.out
end
end Go.Proofs.YtgfcnjfmmjcodaaGreatDoor
