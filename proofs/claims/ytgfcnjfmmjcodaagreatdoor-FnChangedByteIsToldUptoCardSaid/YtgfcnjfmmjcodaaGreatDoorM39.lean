/- Files that may be told. -/
import Derived.Test.YtgfcnjfmmjcodaaGreatDoorM38
set_option linter.all false
set_option maxRecDepth 100000
set_option maxHeartbeats 1000000
open Go.Lib (hid)
namespace Go.Proofs.YtgfcnjfmmjcodaaGreatDoor
open Go Go.RowKit
def ToldOk (f : IFile) (g : File) : Prop :=
 (f.1.typ = 103 ∧ g = (f.1, []) ∧ f.2.1 = [] ∧ GlobAll f.1) ∨ (f.1.typ ≠ 103 ∧ g = (promH f.1, f.2.1) ∧ (f.1.fmt = 1 ∨ f.1.fmt = 2 ∨ f.1.fmt = 3) ∧ CanP (promH f.1) f.1.fmt ∧ DatOk (promH f.1).typ (promH f.1).size f.2.1)
inductive ToldAll : List IFile → List File → Prop
 | nil : ToldAll [] []
 | cons {f g fs gs} (h : ToldOk f g) (hs : ToldAll fs gs) : ToldAll (f :: fs) (g :: gs)
def Named (f : IFile) : Prop := f.1.typ ≠ 103 → f.1.fmt ≠ 0
theorem toldOk_of {f : IFile} {g : File} (h : WantOk f g) (hn : Named f) : ToldOk f g := by
 rcases h with h | ⟨h1, h2, h3, h4⟩
 ·exact .inl h
 ·have e := h3.same (hn h1)
  have h5 := h3.fmt
  have h6 := h3.can
  obtain ⟨gh, gd⟩ := g
  simp only at e h2 h5 h6 h4
  subst e h2
  rw [promH_fmt] at h5 h6
  exact .inr ⟨h1, rfl, h5, h6, h4⟩
theorem toldAll_of : ∀ {fs : List IFile} {gs : List File}, WantAll fs gs → (∀ f ∈ fs, Named f) → ToldAll fs gs
 | _, _, .nil, _ => .nil
 | _, _, .cons h1 h2, hn => .cons (toldOk_of h1 (hn _ (List.mem_cons_self ..))) (toldAll_of h2 (fun f hf => hn f (List.mem_cons_of_mem _ hf)))
theorem ToldOk.fileP {f : IFile} {g : File} (h : ToldOk f g) : FileP g := by
 rcases h with ⟨h1, rfl, h3, h4⟩ | ⟨h1, rfl, h3, h4, h5⟩
 ·exact fileP_glob h4
 ·refine .inr ⟨?_, by rw [promH_fmt]; exact h3, by rw [promH_fmt]; exact h4, h5⟩
  intro e
  have := h4.typ.2
  have e : (promH f.1).typ = 103 := e
  rw [e] at this
  exact absurd this (by decide)
theorem ToldOk.fileIn {f : IFile} {g : File} (h : ToldOk f g) (r : Rng f.1) (hd : f.2.1.length ≤ 1073741824) : FileIn g := by
 rcases h with ⟨h1, rfl, h3, h4⟩ | ⟨h1, rfl, h3, h4, h5⟩
 ·exact fileIn_glob h4 r
 ·exact fileIn_can (by rw [promH_fmt]; exact h4) (by rw [promH_fmt]; exact h3) r.prom hd
theorem FilesAt.mono {w : World} {B B' : Nat} {fv : Value} {fs : List File} (h : FilesAt w B fv fs) (hB : B ≤ B') : FilesAt w B' fv fs := by
 rcases h with h | ⟨b, o, c, h1, h2, h3⟩
 ·exact .inl h
 ·refine .inr ⟨b, o, c, h1, Nat.lt_of_lt_of_le h2 hB, fun i f hf => ?_⟩
  obtain ⟨rv, dv, g1, g2, g3, g4, g5⟩ := h3 i f hf
  exact ⟨rv, dv, g1, g2.mono hB, g3, fun b o c e hp => Nat.lt_of_lt_of_le (g4 b o c e hp) hB, g5⟩
theorem iFRow_one {w w' : World} {B : Nat} {Q : Nat → Prop} {h : Hd} {rv dv : Value} {n : Int} {l : List UInt8} (hra : RecsAt w B rv h.recs) (hda : DataQ w' Q dv l) : ((iFRow h rv dv n).toArray.all fun x => x.oneCell') = true := by
 obtain ⟨Ar, cr, hr1⟩ := hra.shape
 have hd1 := hda.one
 subst hr1
 simp [iFRow, iRowH, iRow, strv, Value.oneCell']
 exact hd1
def TolEnd (w : World) (fs : List IFile) (e : Ending) (w' : World) : Prop :=
 ∃ v b, e = .returned (.tuple #[v, .bool b]) ∧ (b = true → ∃ out, FilesAt w' w'.heap.size v out ∧ ToldAll fs out ∧ dsum out ≤ 1048576) ∧ Kp (fun _ => False) w w'
theorem TolEnd.no {w w' : World} {fs : List IFile} (v : Value) (k : Kp (fun _ => False) w w') : TolEnd w fs (.returned (.tuple #[v, .bool false])) w' := ⟨v, false, rfl, (fun e => by cases e), k⟩
theorem typ_ne {t : UInt8} {b : Bool} (e : ((t.toNat : Int) != 103) = b) : b = true ↔ t ≠ 103 := by
 subst e
 rw [bne_iff_ne]
 constructor
 ·intro h e; exact h (by rw [e]; rfl)
 ·intro h e; exact h (UInt8.toNat_inj.1 (by show t.toNat = 103; omega))
set_option maxHeartbeats 6400000 in
theorem told_law (w : World) (fv : Value) (fs : List IFile) (hfs : IFilesAt w w.heap.size fv fs) (hok : ∀ f ∈ fs, IFileOk f) (hfl : fs.length ≤ 1048576) :
  Calls Tryz.prog 15 #[fv] w fun e w' => Hid (TolEnd w fs e w') := by
 obtain ⟨A, c, rfl⟩ := hfs.shape
 have HW := hid (wanted_any w _ fs hfs hok hfl)
 have HFS := hid hfs
 clear hfs hok
 go_enter Tryz.func15, Tryz.ntmps15
 go_wp2_with fail
 refine HW.out.mono ?_
 rintro e w1 hx
 obtain ⟨v, vd, rfl, hv3, hwa, k1⟩ := hx.out
 have HWA := hid hwa
 have HV3 := hid hv3
 have LP : Hid ((∀ f ∈ fs.take 0, Named f) ∧ Kp (fun _ => False) w1 w1) := ⟨(fun f hf => by rw [sE] at hf; cases hf), Kp.refl _ _⟩
 have K1 := hid k1
 clear hx hwa hv3 k1 HW
 go_wp2_with fail
 go_loopg [7, 15] fs.length (fun g s7 s15 wr => ∃ (i : Nat), i + g = fs.length ∧ s15 = .int .i64 i ∧ Hid ((∀ f ∈ fs.take i, Named f) ∧ Kp (fun _ => False) w1 wr))
 case atStart => exact ⟨0, by omega, rfl, LP⟩
 case round =>
  clear LP
  obtain ⟨i, hi, rfl, hst⟩ := hrel
  by_cases hlt : i < fs.length
  ·obtain ⟨f, hf⟩ : ∃ f, fs[i]? = some f := ⟨_, List.getElem?_eq_getElem hlt⟩
   have hfr : IFilesAt wr w.heap.size (.slice A fs.length c) fs := HFS.out.keep (K1.out.trans hst.out.2) (fun _ h => h.elim)
   obtain ⟨b, o, c', hA, hbC, hat⟩ := hfr.get hf
   injection hA with hA1 hA2 hA3
   subst hA1 hA3
   obtain ⟨rv, dv, hrg, hra, hda⟩ := hat
   have hone : ((iFRow f.1 rv dv f.2.2).toArray.all fun x => x.oneCell') = true := iFRow_one hra hda
   have htk : fs.take (i + 1) = fs.take i ++ [f] := by
    rw [List.take_succ_eq_append_getElem hlt]
    rw [List.getElem?_eq_getElem hlt] at hf
    injection hf with hf
    rw [hf]
   have hi1 : (0 : Int) ≤ (i : Int) := by omega
   have hi2 : (i : Int) < (fs.length : Int) := by omega
   have HRG := hid hrg
   have HTK := hid htk
   clear hA2 hfr hrg hra hda hf htk
   go_upto_region 4 with fail
   (iterate 4 go_step); refine wpList_load_mid rfl 29 (.tmp 17) rfl b (o + i * 23) rfl (iFRow f.1 rv dv f.2.2) _ HRG.out Tryz.underlying29 rfl (by kernel_rfl) ?_
   go_step; go_step; go_step; refine wpList_store_row rfl 29 (.tmp 7) (.tmp 18) rfl wr.heap.size (iFRow f.1 rv dv f.2.2).toArray rfl rfl 29 _ (heap_new wr _) (by kernel_rfl) (by rfl) hone ?_
   go_upto_region 5 with fail
   refine code_row ?_
   intro wB gB kB sB
   have c0 : wB.cell? ⟨wr.heap.size, 0, none⟩ = some (.int .u8 (f.1.typ.toNat : Int)) := cell_of gB 0 rfl
   have c20 : wB.cell? ⟨wr.heap.size, 20, none⟩ = some (.int .i64 f.1.fmt) := cell_of gB 20 rfl
   have KB := hid (hst.out.2.trans kB)
   have HN := hid hst.out.1
   generalize wr.heap.size = F at c0 c20 ⊢
   clear gB kB sB HRG hone hst
   obtain ⟨b1, e1⟩ : ∃ b, ((f.1.typ.toNat : Int) != 103) = b := ⟨_, rfl⟩
   obtain ⟨b2, e2⟩ : ∃ b, (f.1.fmt == 0) = b := ⟨_, rfl⟩
   have NX : Hid ((b1 = false ∨ b2 = false) → Hid ((∀ f ∈ fs.take (i + 1), Named f) ∧ Kp (fun _ => False) w1 wB)) := by
    show _ → _
    intro hb
    refine ⟨fun g hg => ?_, KB.out⟩
    rw [HTK.out] at hg
    rcases List.mem_append.1 hg with hg | hg
    ·exact HN.out g hg
    ·rw [List.mem_singleton] at hg
     subst hg
     intro ht h0
     have h1 := (typ_ne e1).2 ht
     have h2 : b2 = true := by rw [← e2, h0]; rfl
     rcases hb with hb | hb
     ·rw [hb] at h1; cases h1
     ·rw [hb] at h2; cases h2
   cases b1 with
   | true =>
    cases b2 with
    | true =>
     go_wp2_with fail
     go_ret2
     exact TolEnd.no _ (K1.out.trans KB.out)
    | false =>
     have NY := NX.out (.inr rfl)
     clear NX
     go_wp2_with fail
     go_roundg (gk - 1)
     case measure => omega
     case rel => exact ⟨i + 1, by omega, by simp, NY⟩
   | false =>
    have NY := NX.out (.inl rfl)
    clear NX
    go_wp2_with fail
    go_roundg (gk - 1)
    case measure => omega
    case rel => exact ⟨i + 1, by omega, by simp, NY⟩
  ·obtain rfl : i = fs.length := by omega
   obtain ⟨b3, e3⟩ : ∃ b, (vd == 1) = b := ⟨_, rfl⟩
   have FIN : Hid (TolEnd w fs (.returned (.tuple #[v, .bool b3])) wr) := by
    have hn := hst.out.1
    rw [List.take_length] at hn
    refine ⟨v, b3, rfl, fun e => ?_, K1.out.trans hst.out.2⟩
    subst e
    obtain ⟨out, h1, h2, h3⟩ := HWA.out (by simpa using e3)
    exact ⟨out, (h1.keep hst.out.2 (fun _ h => h.elim)).mono hst.out.2.size, toldAll_of h2 hn, h3⟩
   clear hst HFS HWA
   go_wp2_with fail
   go_ret2
   exact FIN.out
end Go.Proofs.YtgfcnjfmmjcodaaGreatDoor
