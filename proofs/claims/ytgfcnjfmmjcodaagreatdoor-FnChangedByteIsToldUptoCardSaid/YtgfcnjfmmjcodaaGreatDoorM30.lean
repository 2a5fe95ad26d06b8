/- Rows of wide elements that a call appends to. -/
import Derived.Test.YtgfcnjfmmjcodaaGreatDoorM29
set_option linter.all false
set_option maxRecDepth 100000
set_option maxHeartbeats 1000000
open Go.Lib (hid)
namespace Go.Proofs.YtgfcnjfmmjcodaaGreatDoor
open Go Go.RowKit
structure InfoX (T ST : TypeId) (k bt : Nat) : Prop where
 und : Tryz.prog.underlying ST = some (.slice T)
 info : ∃ i z, Tryz.prog.info? T = some i ∧ i.zero = some z ∧ i.size = k ∧ i.bytes = bt ∧ z.cells.size = k
theorem infoX_of {T ST : TypeId} {k bt : Nat} (hu : Tryz.prog.underlying ST = some (.slice T)) (h : (Tryz.prog.info? T).map (fun i => (i.zero.map (·.cells.size), i.size, i.bytes)) = some (some k, k, bt)) : InfoX T ST k bt := by
 refine ⟨hu, ?_⟩
 obtain ⟨i, h1, h2⟩ := Option.map_eq_some_iff.1 h
 simp only [Prod.mk.injEq] at h2
 obtain ⟨z, h3, h4⟩ := Option.map_eq_some_iff.1 h2.1
 exact ⟨i, z, h1, h3, h2.2.1, h2.2.2, h4⟩
theorem app_x_ex (w : World) {T ST ty : TypeId} {k bt : Nat} (I : InfoX T ST k bt) (hk : 0 < k) (hbt : bt ≤ 4096) (base : Nat) (v : Value) (n : Nat) (cells row : List Value) (hown : w.ownsRow base T k v n cells) (hrow : row.length = k) (hone : ∀ u ∈ row, u.oneCell' = true)
  (hn : n ≤ 16777216) (hbase : base ≤ w.heap.size) :
  ∃ v' w', (Builtin.append_ #[ST, ST] ty #[v, .slice (some ⟨w.heap.size, 0, none⟩) 1 1]).run Tryz.prog (w.alloc (.cells row.toArray T)) = .ok v' w' ∧ w'.ownsRow base T k v' (n + 1) (cells ++ row) ∧ Kp (fun j => some j = v.ownBlock) w w' ∧
   (v'.ownBlock = v.ownBlock ∨ v'.ownBlock = some (w.heap.size + 1)) := by
 obtain ⟨i0, z, hi, hz, hsz, hby, hzs⟩ := I.info
 have k1 : Kp (fun _ => False) w (w.alloc (.cells row.toArray T)) := (Kp.refl _ _).alloc _
 have hs1 : (w.alloc (.cells row.toArray T)).heap.size = w.heap.size + 1 := by show (w.heap.push _).size = _; simp
 have hown' : (w.alloc (.cells row.toArray T)).ownsRow base T k v n cells := hown.alloc _
 have hle : (n + 1) * bt ≤ 140737488355328 := by
  have : (n + 1) * bt ≤ 16777217 * 4096 := Nat.mul_le_mul (by omega) hbt
  omega
 obtain ⟨v', w', hr, h2, h3, h4, h5⟩ := run_append_own_at (P := Tryz.prog) (w.alloc (.cells row.toArray T)) base ST ty T i0 z k bt I.und hi hz hsz hby hzs hk v n cells hown' ⟨w.heap.size, 0, none⟩ 1 1 row (by rw [hrow, Nat.one_mul])
  (fun j u hu => by
   rw [add_plain', Nat.zero_add]
   exact cell_of (heap_new w _) j (by rw [List.getElem?_toArray]; exact hu))
  hone (by simp only [maxLen]; omega) hle (by rw [hs1]; omega)
 rw [hs1] at h5
 exact ⟨v', w', hr, h2, (k1.mono (fun _ _ h => h.elim)).trans (Kp.of_grownBy h3), h5⟩
def RecsQ (w : World) (Q : Nat → Prop) (rv : Value) (l : List Rec) : Prop :=
 Nil0 rv ∧ l = [] ∨ ∃ b o c, rv = .slice (some ⟨b, o, none⟩) l.length c ∧ Q b ∧ l.length ≤ c ∧ ∀ i r, l[i]? = some r → w.cell? ⟨b, o + i * 2, none⟩ = some (.string ⟨r.1.toArray⟩) ∧ w.cell? ⟨b, o + i * 2 + 1, none⟩ = some (.string ⟨r.2.toArray⟩)
theorem RecsQ.keep {w w' : World} {Q Q' : Nat → Prop} {rv : Value} {l : List Rec} {S : Nat → Prop} (h : RecsQ w Q rv l) (k : Kp S w w') (hS : ∀ b, Q b → ¬ S b) (hQ : ∀ b, Q b → Q' b) : RecsQ w' Q' rv l := by
 rcases h with h | ⟨b, o, c, h1, h2, hc, h3⟩
 ·exact .inl h
 ·exact .inr ⟨b, o, c, h1, hQ _ h2, hc, fun i r hr => ⟨k.cell (h3 i r hr).1 (hS _ h2), k.cell (h3 i r hr).2 (hS _ h2)⟩⟩
theorem RecsQ.at_ {w : World} {Q : Nat → Prop} {rv : Value} {l : List Rec} {B : Nat} (h : RecsQ w Q rv l) (hQ : ∀ b, Q b → b < B) : RecsAt w B rv l := by
 rcases h with h | ⟨b, o, c, h1, h2, _, h3⟩
 ·exact .inl h
 ·exact .inr ⟨b, o, c, h1, hQ _ h2, h3⟩
theorem RecsQ.cap {w : World} {Q : Nat → Prop} {rv : Value} {l : List Rec} (h : RecsQ w Q rv l) : CapOk rv := by
 intro A n c e
 rcases h with ⟨h | ⟨a, c', h⟩, _⟩ | ⟨b, o, c', h, _, hc, _⟩
 ·rw [h] at e
  injection e with _ e1 e2
  omega
 ·rw [h] at e
  injection e with _ e1 e2
  omega
 ·rw [h] at e
  injection e with _ e1 e2
  omega
theorem OwnR.cap {T : TypeId} {w : World} {base : Nat} {v : Value} {l : List Rec} (h : OwnR T w base v l) : CapOk v := by
 intro A n c e
 rcases h.shape with ⟨h, _⟩ | ⟨g, c', h, _, hc, _⟩
 ·rw [h] at e
  injection e with _ e1 e2
  omega
 ·rw [h] at e
  injection e with _ e1 e2
  omega
theorem recsQ_of {w : World} {Q : Nat → Prop} {rv : Value} {l : List Rec} {B : Nat} (h : RecsAt w B rv l) (hc : CapOk rv) (hQ : ∀ b o c, rv = .slice (some ⟨b, o, none⟩) l.length c → Q b) : RecsQ w Q rv l := by
 rcases h with h | ⟨b, o, c, h1, h2, h3⟩
 ·exact .inl h
 ·exact .inr ⟨b, o, c, h1, hQ b o c h1, hc _ _ _ h1, h3⟩
def DataQ (w : World) (Q : Nat → Prop) (dv : Value) (l : List UInt8) : Prop := Nil0 dv ∧ l = [] ∨ ∃ b o c, dv = .slice (some ⟨b, o, none⟩) l.length c ∧ Q b ∧ BytesAt w b o l
theorem DataQ.keep {w w' : World} {Q Q' : Nat → Prop} {dv : Value} {l : List UInt8} {S : Nat → Prop} (h : DataQ w Q dv l) (k : Kp S w w') (hS : ∀ b, Q b → ¬ S b) (hQ : ∀ b, Q b → Q' b) : DataQ w' Q' dv l := by
 rcases h with h | ⟨b, o, c, h1, h2, h3⟩
 ·exact .inl h
 ·exact .inr ⟨b, o, c, h1, hQ _ h2, fun j u hu => k.cell (h3 j u hu) (hS _ h2)⟩
theorem DataQ.one {w : World} {Q : Nat → Prop} {dv : Value} {l : List UInt8} (h : DataQ w Q dv l) : dv.oneCell' = true := by
 rcases h with ⟨h, _⟩ | ⟨b, o, c, rfl, _⟩
 ·exact h.one
 ·rfl
theorem RecsQ.one {w : World} {Q : Nat → Prop} {rv : Value} {l : List Rec} (h : RecsQ w Q rv l) : rv.oneCell' = true := by
 rcases h with ⟨h, _⟩ | ⟨b, o, c, rfl, _⟩
 ·exact h.one
 ·rfl
def FCells (w : World) (Q : Nat → Prop) : List File → List Value → Prop
 | [], cs => cs = []
 | f :: fs, cs => ∃ rv dv rest, cs = (sRow f.1 rv ++ [dv]) ++ rest ∧ RecsQ w Q rv f.1.recs ∧ DataQ w Q dv f.2 ∧ FCells w Q fs rest
theorem FCells.keep {w w' : World} {Q Q' : Nat → Prop} {S : Nat → Prop} (k : Kp S w w') (hS : ∀ b, Q b → ¬ S b) (hQ : ∀ b, Q b → Q' b) : ∀ {fs : List File} {cs : List Value}, FCells w Q fs cs → FCells w' Q' fs cs
 | [], cs, h => h
 | f :: fs, cs, ⟨rv, dv, rest, h1, h2, h3, h4⟩ => ⟨rv, dv, rest, h1, h2.keep k hS hQ, h3.keep k hS hQ, FCells.keep k hS hQ h4⟩
theorem FCells.snoc {w : World} {Q : Nat → Prop} {f : File} {rv dv : Value} (h1 : RecsQ w Q rv f.1.recs) (h2 : DataQ w Q dv f.2) : ∀ {fs : List File} {cs : List Value}, FCells w Q fs cs → FCells w Q (fs ++ [f]) (cs ++ (sRow f.1 rv ++ [dv]))
 | [], cs, h => by
  have h : cs = [] := h
  subst h
  exact ⟨rv, dv, [], by simp, h1, h2, rfl⟩
 | g :: fs, cs, ⟨rv', dv', rest, g1, g2, g3, g4⟩ => by
  subst g1
  exact ⟨rv', dv', rest ++ (sRow f.1 rv ++ [dv]), by simp, g2, g3, FCells.snoc h1 h2 g4⟩
theorem sRow_len (h : Hd) (rv : Value) : (sRow h rv).length = 21 := rfl
theorem FCells.get {w : World} {Q : Nat → Prop} {B : Nat} (hQ : ∀ b, Q b → b < B) : ∀ {fs : List File} {cs : List Value}, FCells w Q fs cs → ∀ {i : Nat} {f : File}, fs[i]? = some f →
  ∃ rv dv, (∀ j v, (sRow f.1 rv ++ [dv])[j]? = some v → cs[i * 22 + j]? = some v) ∧ RecsAt w B rv f.1.recs ∧ DataAt w dv f.2 ∧ (∀ b' o' c', dv = .slice (some ⟨b', o', none⟩) f.2.length c' → 0 < f.2.length → b' < B) ∧ CapOk rv
 | [], cs, h, i, f, hf => by cases hf
 | g :: fs, cs, ⟨rv, dv, rest, g1, g2, g3, g4⟩, i, f, hf => by
  subst g1
  have hl : (sRow g.1 rv ++ [dv]).length = 22 := by rw [List.length_append, sRow_len]; rfl
  cases i with
  | zero =>
   injection hf with hf
   subst hf
   refine ⟨rv, dv, fun j v hv => ?_, g2.at_ hQ, ?_, ?_, g2.cap⟩
   ·rw [Nat.zero_mul, Nat.zero_add, List.getElem?_append_left (by exact (List.getElem?_eq_some_iff.1 hv).1)]
    exact hv
   ·rcases g3 with h | ⟨b, o, c, h1, h2, h3⟩
    ·exact .inl h
    ·exact .inr ⟨b, o, c, h1, h3⟩
   ·intro b' o' c' e hpos
    rcases g3 with ⟨_, h⟩ | ⟨b, o, c, h1, h2, h3⟩
    ·rw [h] at hpos; exact absurd hpos (Nat.lt_irrefl 0)
    ·rw [h1] at e
     injection e with e
     injection e with e
     injection e with e
     exact e ▸ hQ _ h2
  | succ i =>
   rw [List.getElem?_cons_succ] at hf
   obtain ⟨rv2, dv2, k1, k2⟩ := FCells.get hQ g4 hf
   refine ⟨rv2, dv2, fun j v hv => ?_, k2⟩
   rw [List.getElem?_append_right (by rw [hl]; omega), hl, show (i + 1) * 22 + j - 22 = i * 22 + j by omega]
   exact k1 j v hv
structure OwnF (w : World) (base : Nat) (Q : Nat → Prop) (v : Value) (fs : List File) : Prop where
 own : ∃ cs, w.ownsRow base 47 22 v fs.length cs ∧ FCells w Q fs cs
theorem OwnF.filesAt {w : World} {base : Nat} {Q : Nat → Prop} {v : Value} {fs : List File} {B : Nat} (h : OwnF w base Q v fs) (hQ : ∀ b, Q b → b < B) (hB : w.heap.size ≤ B) : FilesAt w B v fs := by
 obtain ⟨cs, h1, h2⟩ := h.own
 rcases h1.2 with ⟨e1, e2⟩ | ⟨g, cap, cur, e, hg, hh, h3, h4, h5, h6⟩
 ·exact .inl ⟨e1, List.eq_nil_of_length_eq_zero e2⟩
 ·subst e
  refine .inr ⟨g, 0, cap, rfl, by have := lt_of hh; omega, fun i f hf => ?_⟩
  obtain ⟨rv, dv, k1, k2, k3, k4⟩ := h2.get hQ hf
  refine ⟨rv, dv, fun j u hu => ?_, k2, k3, k4⟩
  have hc := World.ownsRow.cells h1 (g := g) rfl (i * 22 + j) u (k1 j u hu)
  rw [add_plain', Nat.zero_add] at hc
  rw [Nat.zero_add]
  exact hc
structure EncSt (w : World) (fs : List File) (i : Nat) (bs : List UInt8) (v : Value) (wr : World) : Prop where
 own : OwnB wr (w.heap.size + 1) v bs
 enc : FilesE (fs.take i) bs
 len : bs.length ≤ i * 16777216 + dsum (fs.take i)
 cho : Cho wr w.heap.size (200000 * i)
 kp : Kp (fun _ => False) w wr
def EncEnd (w : World) (fs : List File) (e : Ending) (w' : World) : Prop :=
 ∃ v b, e = .returned v ∧ OwnB w' w.heap.size v b ∧ v.ownBlock ≠ none ∧ EncE fs b ∧ b.length ≤ 70368744177664 ∧ Kp (fun _ => False) w w'
set_option maxHeartbeats 3200000 in
theorem encode_any (w : World) (fv nv : Value) (fs : List File) (hfs : FilesAt w w.heap.size fv fs) (hn : NumsAt w w.heap.size nv) (hin : ∀ f ∈ fs, FileIn f) (hfl : fs.length ≤ 1048576) (hds : dsum fs ≤ 1099511627776) :
  Calls Tryz.prog 17 #[fv, nv] w fun e w' => Hid (EncEnd w fs e w') := by
 obtain ⟨A, c, rfl⟩ := hfs.shape
 have HFS := hid hfs
 have HIN := hid hin
 have LP : Hid (EncSt w fs 0 [] (.slice none 0 0) (w.alloc (.cells #[nv, .int .i64 0] 85))) := by
  have k : Kp (fun _ => False) w (w.alloc (.cells #[nv, .int .i64 0] 85)) := (Kp.refl _ _).alloc _
  exact ⟨OwnB.nil _ _, by rw [sE]; exact .nil, by simp, ⟨nv, 0, heap_new w _, Nat.le_refl _, hn.keep k (fun _ h => h.elim)⟩, k⟩
 have HDS := hid hds
 obtain ⟨An, ln, cn, rfl⟩ : ∃ A n c, nv = .slice A n c := by
  rcases hn with h | ⟨nb, no, nl, nc, h, _⟩
  ·exact ⟨_, _, _, h⟩
  ·exact ⟨_, _, _, h⟩
 clear hfs hin hn hds
 go_enter Tryz.func17, Tryz.ntmps17
 go_wp2_with fail
 generalize w.alloc (.cells #[.slice An ln cn, .int .i64 0] 85) = w0 at LP ⊢
 go_loopg [6, 8, 14] fs.length (fun g s6 s8 s14 wr => ∃ (i : Nat) (bs : List UInt8), i + g = fs.length ∧ s14 = .int .i64 i ∧ Hid (EncSt w fs i bs s6 wr))
 case atStart => exact ⟨0, [], by omega, rfl, LP⟩
 case round =>
  clear LP
  obtain ⟨i, bs, hi, rfl, hst⟩ := hrel
  have hdt : Hid (dsum (fs.take (i + 1)) ≤ 1099511627776) := by
   show _ ≤ _
   have e : dsum fs = dsum (fs.take (i + 1)) + dsum (fs.drop (i + 1)) := by
    unfold dsum
    rw [← List.sum_append, ← List.map_append, List.take_append_drop]
   have := HDS.out
   omega
  by_cases hlt : i < fs.length
  ·obtain ⟨f, hf⟩ : ∃ f, fs[i]? = some f := ⟨_, List.getElem?_eq_getElem hlt⟩
   have hfr : FilesAt wr w.heap.size (.slice A fs.length c) fs := HFS.out.keep hst.out.kp (fun _ h => h.elim)
   obtain ⟨b, o, c', hA, hbC, hat⟩ := hfr.get hf
   injection hA with hA1 hA2 hA3
   subst hA1 hA3
   have hfg : f = fs[i] := by rw [List.getElem?_eq_getElem hlt] at hf; injection hf with hf; exact hf.symm
   have htk : fs.take (i + 1) = fs.take i ++ [f] := by rw [List.take_succ_eq_append_getElem hlt, hfg]
   have hfi : FileIn f := HIN.out f (hfg ▸ List.getElem_mem hlt)
   obtain ⟨rv, dv, hrg, hra, hda, hdb, _⟩ := hat
   have hone : ((sRow f.1 rv ++ [dv]).toArray.all fun x => x.oneCell') = true := by
    obtain ⟨Ar, cr, hr1⟩ := hra.shape
    obtain ⟨Ad, cd, hd1⟩ := hda.shape
    subst hr1 hd1
    simp [sRow, strv, Value.oneCell']
   have hi1 : (0 : Int) ≤ (i : Int) := by omega
   have hi2 : (i : Int) < (fs.length : Int) := by omega
   have HRG := hid hrg
   have HRA := hid hra
   have HDA := hid hda
   have HDB := hid hdb
   have HFI := hid hfi
   have HTK := hid htk
   clear hA2 hfr hf hfg hrg hra hda hdb htk hfi
   go_upto_region 5 with fail
   iterate 3 go_step
   first
    | refine wpList_load_mid rfl 47 (.tmp 16) rfl b (o + i * 22) rfl (sRow f.1 rv ++ [dv]) _ HRG.out Tryz.underlying47 rfl (by kernel_rfl) ?_
    | (go_step; refine wpList_load_mid rfl 47 (.tmp 16) rfl b (o + i * 22) rfl (sRow f.1 rv ++ [dv]) _ HRG.out Tryz.underlying47 rfl (by kernel_rfl) ?_)
    | (go_step; go_step; refine wpList_load_mid rfl 47 (.tmp 16) rfl b (o + i * 22) rfl (sRow f.1 rv ++ [dv]) _ HRG.out Tryz.underlying47 rfl (by kernel_rfl) ?_)
   iterate 3 go_step
   refine wpList_store_row rfl 47 (.tmp 8) (.tmp 17) rfl wr.heap.size (sRow f.1 rv ++ [dv]).toArray rfl rfl 47 _ (heap_new wr _) (by kernel_rfl) (by rfl) hone ?_
   go_upto_region 6 with fail
   refine code_row ?_
   intro wB gB kB sB
   have hCB : Hid (Cho wB w.heap.size (200000 * i)) := hst.out.cho.keep kB (fun _ h => h.elim) (Nat.le_refl _)
   have HF := hid (file_any wB w.heap.size (200000 * i) f.1 rv dv f.2 hCB.out (by omega) (HRA.out.keep kB (fun _ h => h.elim)) (HDA.out.keep' HDB.out kB (fun _ h => h.elim)) (fun b o c e => HDB.out b o c e) HFI.out.dl HFI.out.ni HFI.out.fm HFI.out.ti HFI.out.tw HFI.out.ne HFI.out.rl)
   have SW : Hid (w.heap.size + 1 ≤ wB.heap.size) := by
    show _ ≤ _
    have := kB.size
    obtain ⟨nv', a', h1, _⟩ := hst.out.cho
    have := lt_of h1
    omega
   have STB : Hid (OwnB wB (w.heap.size + 1) u6 bs ∧ Kp (fun _ => False) w wB) := ⟨hst.out.own.keep kB (fun _ _ h => h), hst.out.kp.trans kB⟩
   have ENC := hid hst.out.enc
   have LEN := hid hst.out.len
   have GB := hid gB
   clear gB kB hCB hst HRG HRA HDA HDB
   iterate 4 go_step
   first
    | refine wpList_load_row rfl 47 (.tmp 8) rfl wr.heap.size rfl 47 (sRow f.1 rv ++ [dv]).toArray (0, 0) _ GB.out Tryz.underlying47 rfl (by kernel_rfl) ?_
    | (go_step; refine wpList_load_row rfl 47 (.tmp 8) rfl wr.heap.size rfl 47 (sRow f.1 rv ++ [dv]).toArray (0, 0) _ GB.out Tryz.underlying47 rfl (by kernel_rfl) ?_)
    | (go_step; go_step; refine wpList_load_row rfl 47 (.tmp 8) rfl wr.heap.size rfl 47 (sRow f.1 rv ++ [dv]).toArray (0, 0) _ GB.out Tryz.underlying47 rfl (by kernel_rfl) ?_)
    | (go_step; go_step; go_step; refine wpList_load_row rfl 47 (.tmp 8) rfl wr.heap.size rfl 47 (sRow f.1 rv ++ [dv]).toArray (0, 0) _ GB.out Tryz.underlying47 rfl (by kernel_rfl) ?_)
   go_wp2_with fail
   refine HF.out.mono ?_
   rintro e w2 hx
   obtain ⟨v2, t2, rfl, ho2, hfe, hc2, hk2⟩ := hx.out
   have htl := fileE_len hfe HFI.out.ti.name HFI.out.ti.link
   have hds1 : dsum (fs.take (i + 1)) = dsum (fs.take i) + f.2.length := by rw [HTK.out]; unfold dsum; simp
   have hlen2 : bs.length + t2.length ≤ 140737488355328 := by
    have h1 := LEN.out
    have h2 := hdt.out
    omega
   have hsz2 := hk2.size
   have hown2 : OwnB w2 (w.heap.size + 1) u6 bs := STB.out.1.keep hk2 (fun b hb e => by have := (STB.out.1.block hb).1; omega)
   obtain ⟨v3, w3, hr3, ho3, hk3, hx3⟩ := app_data_ex w2 27 (w.heap.size + 1) u6 v2 bs t2 hown2 ho2.dataAt hlen2 (by have := SW.out; omega)
   have NX : Hid (EncSt w fs (i + 1) (bs ++ t2) v3 w3) := by
    refine ⟨ho3, ?_, ?_, ?_, ?_⟩
    ·rw [HTK.out]; exact ENC.out.snoc hfe
    ·rw [List.length_append, hds1]; have := LEN.out; omega
    ·exact hc2.keep hk3 (fun i hi => by have := (hown2.block hi.symm).1; omega) (by omega)
    ·exact (STB.out.2.then hk2 (fun i hi e => by omega)).then hk3 (fun i hi e => by have := (hown2.block e.symm).1; omega)
   have HR3 := hid hr3
   clear hx ho2 hfe hc2 hk2 htl hds1 hlen2 hown2 hr3 ho3 hk3 hx3 STB ENC LEN GB HF HFI HTK hsz2
   dsimp only
   rename_i K hK
   refine hK _ _ ?_
   clear hK
   go_wp2_with (at_builtin; refine Lib.wpList_append_run _ rfl _ _ _ _ rfl _ _ rfl rfl _ _ HR3.out ?_)
   go_roundg (gk - 1)
   case measure => omega
   case rel => exact ⟨i + 1, bs ++ t2, by omega, by simp, NX⟩
  ·obtain rfl : i = fs.length := by omega
   have HCW := hid hst.out.cho
   go_wp2_with fail
   refine (of_any wr w.heap.size (200000 * fs.length) 3 HCW.out (by omega) (by omega)).mono ?_
   rintro e w2 ⟨⟨n, hn, rfl⟩, hk2, hc2⟩
   have hown2 : OwnB w2 (w.heap.size + 1) u6 bs := hst.out.own.keep hk2 (fun b hb e => by have := (hst.out.own.block hb).1; omega)
   have hlen : bs.length ≤ 18691697672192 := by
    have h1 := hst.out.len
    have h2 := HDS.out
    rw [List.take_length] at h1
    omega
   have hsz : w.heap.size + 1 ≤ w2.heap.size := by
    have := hk2.size
    obtain ⟨nv', a', h1, _⟩ := HCW.out
    have := lt_of h1
    omega
   have henc : FilesE fs bs := by have := hst.out.enc; rwa [List.take_length] at this
   have FIN : ∀ k v3 w3, 2 ≤ k → k ≤ 4 → OwnB w3 (w.heap.size + 1) v3 (bs ++ List.replicate (512 * k) 0) → Kp (fun j => some j = u6.ownBlock) w2 w3 → Hid (EncEnd w fs (.returned v3) w3) := fun k v3 w3 h1 h2 ho hk => by
    refine ⟨v3, _, rfl, ho.lower (by omega), ho.block_some (by rw [List.length_append, List.length_replicate]; omega), ⟨bs, k, henc, h1, h2, rfl⟩, by rw [List.length_append, List.length_replicate]; omega, ?_⟩
    exact (hst.out.kp.then hk2 (fun i hi e => by omega)).then hk (fun i hi e => by have := (hown2.block e.symm).1; omega)
   have FINH := hid FIN
   have h3 : n = 0 ∨ n = 1 ∨ n = 2 := by omega
   clear FIN hst hk2 hc2 henc hdt HDS HCW
   rcases h3 with rfl | rfl | rfl
   ·obtain ⟨v3, w3, hr3, ho3, hk3⟩ := app_zeros_ex w2 (w.heap.size + 1) u6 bs 1024 3 27 .i64 .i64 (by kernel_rfl) hown2 (by omega) hsz
    have FIN := FINH.out 2 v3 w3 (by decide) (by decide) ho3 hk3
    have HR3 : Hid ((Builtin.append_ #[27, 3] 27 #[u6, .int .i64 1024]).run Tryz.prog w2 = .ok v3 w3) := hr3
    clear FINH hr3 ho3 hk3 hown2
    dsimp only
    rename_i K hK
    refine hK _ _ ?_
    clear hK
    go_wp2_with (at_builtin; refine Lib.wpList_append_run _ rfl _ _ _ _ rfl _ _ rfl rfl _ _ HR3.out ?_)
    go_ret
    exact FIN
   ·obtain ⟨v3, w3, hr3, ho3, hk3⟩ := app_zeros_ex w2 (w.heap.size + 1) u6 bs 1536 3 27 .i64 .i64 (by kernel_rfl) hown2 (by omega) hsz
    have FIN := FINH.out 3 v3 w3 (by decide) (by decide) ho3 hk3
    have HR3 : Hid ((Builtin.append_ #[27, 3] 27 #[u6, .int .i64 1536]).run Tryz.prog w2 = .ok v3 w3) := hr3
    clear FINH hr3 ho3 hk3 hown2
    dsimp only
    rename_i K hK
    refine hK _ _ ?_
    clear hK
    go_wp2_with (at_builtin; refine Lib.wpList_append_run _ rfl _ _ _ _ rfl _ _ rfl rfl _ _ HR3.out ?_)
    go_ret
    exact FIN
   ·obtain ⟨v3, w3, hr3, ho3, hk3⟩ := app_zeros_ex w2 (w.heap.size + 1) u6 bs 2048 3 27 .i64 .i64 (by kernel_rfl) hown2 (by omega) hsz
    have FIN := FINH.out 4 v3 w3 (by decide) (by decide) ho3 hk3
    have HR3 : Hid ((Builtin.append_ #[27, 3] 27 #[u6, .int .i64 2048]).run Tryz.prog w2 = .ok v3 w3) := hr3
    clear FINH hr3 ho3 hk3 hown2
    dsimp only
    rename_i K hK
    refine hK _ _ ?_
    clear hK
    go_wp2_with (at_builtin; refine Lib.wpList_append_run _ rfl _ _ _ _ rfl _ _ rfl rfl _ _ HR3.out ?_)
    go_ret
    exact FIN
structure TextP (s : List UInt8) (size f : Int) : Prop where
 nul : NoNul s
 one : f = 1 → Ascii s ∧ (s.length : Int) ≤ size
def TxEnd (s : List UInt8) (size f : Int) (e : Ending) : Prop := ∃ v, e = .returned (.int .i64 v) ∧ V3 v ∧ (v = 1 → TextP s size f)
theorem ascii_of {l : List UInt8} (h : l.all okA = true) : Ascii l := fun c hc => by
 have := List.all_eq_true.1 h c hc
 unfold okA at this
 simp only [Bool.and_eq_true, decide_eq_true_eq, bne_iff_ne] at this
 exact ⟨this.2, this.1⟩
set_option maxHeartbeats 1600000 in
theorem text_any (w : World) (s : List UInt8) (size f : Int) (hf : f = 1 ∨ f = 2 ∨ f = 3) (hl : s.length ≤ 1099511627776) : Calls Tryz.prog 84 #[.string ⟨s.toArray⟩, .int .i64 size, .int .i64 f] w fun e w' => Hid (TxEnd s size f e) ∧ w' = w := by
 have END0 : Hid (TxEnd s size f (.returned (.int .i64 0))) := ⟨0, rfl, .inl rfl, fun h => absurd h (by decide)⟩
 have HN := fun W => hid (hasNul_any W s (by omega))
 have HA := fun W => hid (ascii_any W s (by omega))
 have HU := fun W => hid (utf8_any W s (by omega))
 unfold strv at HA
 obtain ⟨n, hn⟩ : ∃ n, nulB s = n := ⟨_, rfl⟩
 rw [hn] at HN
 cases n with
 | true =>
  go_enter Tryz.func84, Tryz.ntmps84
  go_wp2_with fail
  refine (HN _).out.mono ?_
  rintro e w1 ⟨rfl, rfl⟩
  go_wp2_with fail
  go_ret
  exact ⟨END0, rfl⟩
 | false =>
  have hz := hid (nulB_no hn)
  clear hn
  rcases hf with rfl | rfl | rfl
  ·obtain ⟨a, ha⟩ : ∃ a, s.all okA = a := ⟨_, rfl⟩
   rw [ha] at HA
   cases a with
   | false =>
    have FIN : Hid (TxEnd s size 1 (.returned (.int .i64 2))) := ⟨2, rfl, .inr (.inr rfl), fun h => absurd h (by decide)⟩
    clear HU ha
    go_enter Tryz.func84, Tryz.ntmps84
    go_wp2_with fail
    refine (HN _).out.mono ?_
    rintro e w1 ⟨rfl, rfl⟩
    go_wp2_with fail
    refine (HA _).out.mono ?_
    rintro e w1 ⟨rfl, rfl⟩
    go_wp2_with fail
    refine (when_any _ _).mono ?_
    rintro e w1 ⟨rfl, rfl⟩
    go_wp2_with fail
    go_ret
    exact ⟨FIN, rfl⟩
   | true =>
    obtain ⟨b, hb⟩ : ∃ b, decide ((s.length : Int) ≤ size) = b := ⟨_, rfl⟩
    have FIN : Hid (TxEnd s size 1 (.returned (.int .i64 (if b then 1 else 2)))) := ⟨_, rfl, v3_when b, fun h => by
     cases b with
     | false => exact absurd h (by decide)
     | true => exact ⟨hz.out, fun _ => ⟨ascii_of ha, of_decide_eq_true hb⟩⟩⟩
    clear HU ha
    cases b <;> (
     go_enter Tryz.func84, Tryz.ntmps84
     go_wp2_with fail
     refine (HN _).out.mono ?_
     rintro e w1 ⟨rfl, rfl⟩
     go_wp2_with fail
     refine (HA _).out.mono ?_
     rintro e w1 ⟨rfl, rfl⟩
     go_wp2_with fail
     refine (when_any _ _).mono ?_
     rintro e w1 ⟨rfl, rfl⟩
     go_wp2_with fail
     go_ret
     exact ⟨FIN, rfl⟩)
  ·have FIN : Hid (TxEnd s size 2 (.returned (.int .i64 1))) := ⟨1, rfl, .inr (.inl rfl), fun _ => ⟨hz.out, fun h => absurd h (by decide)⟩⟩
   clear HA
   go_enter Tryz.func84, Tryz.ntmps84
   go_wp2_with fail
   refine (HN _).out.mono ?_
   rintro e w1 ⟨rfl, rfl⟩
   go_wp2_with fail
   refine (HU _).out.mono ?_
   rintro e w1 ⟨⟨b, rfl, _⟩, rfl⟩
   cases b
   ·go_wp2_with fail
    go_ret
    exact ⟨END0, rfl⟩
   ·go_wp2_with fail
    go_ret
    exact ⟨FIN, rfl⟩
  ·have FIN : Hid (TxEnd s size 3 (.returned (.int .i64 1))) := ⟨1, rfl, .inr (.inl rfl), fun _ => ⟨hz.out, fun h => absurd h (by decide)⟩⟩
   clear HA HU
   go_enter Tryz.func84, Tryz.ntmps84
   go_wp2_with fail
   refine (HN _).out.mono ?_
   rintro e w1 ⟨rfl, rfl⟩
   go_wp2_with fail
   go_ret
   exact ⟨FIN, rfl⟩
structure OwnerP (s : List UInt8) (f : Int) : Prop where
 nul : NoNul s
 one : f = 1 → Ascii s
 len : f ≠ 2 → s.length ≤ 31
def OwEnd (s : List UInt8) (f : Int) (e : Ending) : Prop := ∃ v, e = .returned (.int .i64 v) ∧ V3 v ∧ (v = 1 → OwnerP s f)
set_option maxHeartbeats 1600000 in
theorem owner_any (w : World) (s : List UInt8) (f : Int) (hf : f = 1 ∨ f = 2 ∨ f = 3) (hl : s.length ≤ 1099511627776) : Calls Tryz.prog 88 #[.string ⟨s.toArray⟩, .int .i64 f] w fun e w' => Hid (OwEnd s f e) ∧ Kp (fun _ => False) w w' := by
 have HT := hid (text_any w s 32 f hf hl)
 have HALL := fun v hv => hid (all_any (w.alloc (.cells #[.int .i64 v, .int .i64 0] 3)) w.heap.size [v, 0] hv (heap_new w _) (by simp))
 have TWO : Hid (OwEnd s f (.returned (.int .i64 2))) := ⟨2, rfl, .inr (.inr rfl), fun h => absurd h (by decide)⟩
 have key : ∀ (e0 : Ending), (f ≠ 2 → s.length ≠ 32) → (f = 3 → s.length ≤ 32) → Hid (TxEnd s 32 f e0) → Hid (OwEnd s f e0) := fun e0 h1 h2 hx => by
  obtain ⟨v, rfl, hv, hp⟩ := hx.out
  refine ⟨v, rfl, hv, fun h => ?_⟩
  have := hp h
  refine ⟨this.nul, fun h => (this.one h).1, fun h => ?_⟩
  have h3 := h1 h
  rcases hf with rfl | rfl | rfl
  ·have := (this.one rfl).2
   omega
  ·exact absurd rfl h
  ·have := h2 rfl
   omega
 have KEY := hid key
 clear key
 by_cases h32 : s.length = 32
 ·have t1 : ((s.length : Int) == 32) = true := by rw [h32]; rfl
  have t2 : decide ((32 : Int) < (s.length : Int)) = false := decide_eq_false (by omega)
  by_cases f2 : f = 2
  ·subst f2
   have KEY := fun e0 => KEY.out e0 (fun h => absurd rfl h) (fun h => absurd h (by decide))
   clear h32 HALL
   go_enter Tryz.func88, Tryz.ntmps88
   go_wp2_with fail
   refine HT.out.mono ?_
   rintro e w1 ⟨hx, rfl⟩
   have FIN := KEY _ hx
   obtain ⟨v, rfl, hv, hp⟩ := hx.out
   clear HT hp KEY
   go_wp2_with fail
   go_ret
   exact ⟨FIN, Kp.refl _ _⟩
  ·have t3 : (f != 2) = true := by simpa using f2
   have t4 : f = 3 ∨ f = 1 := by omega
   have FINV : ∀ v x, V3 x → (x = 1 → ∀ u ∈ [v, (0 : Int)], u = 1) → Hid (OwEnd s f (.returned (.int .i64 x))) := fun v x hx hxx => ⟨x, rfl, hx, fun h => absurd (hxx h 0 (by simp)) (by decide)⟩
   clear h32 KEY f2 hf
   rcases t4 with rfl | rfl <;> (
    go_enter Tryz.func88, Tryz.ntmps88
    go_wp2_with fail
    refine HT.out.mono ?_
    rintro e w1 ⟨hx, rfl⟩
    obtain ⟨v, rfl, hv, hp⟩ := hx.out
    clear HT hp hx
    have HALL := HALL v (fun u hu => by rcases List.mem_cons.1 hu with rfl | hu; exact hv; rw [List.mem_singleton] at hu; exact .inl hu)
    go_wp2_with fail
    refine HALL.out.mono ?_
    rintro e w2 ⟨⟨x, rfl, hx, hxx⟩, rfl⟩
    have FIN := FINV v x hx hxx
    clear HALL hxx hx
    go_wp2_with fail
    go_ret
    exact ⟨FIN, (Kp.refl _ _).alloc _⟩)
 ·have t1 : ((s.length : Int) == 32) = false := by rw [beq_eq_false_iff_ne]; omega
  by_cases hgt : f = 3 ∧ 32 < s.length
  ·obtain ⟨rfl, hgt⟩ := hgt
   have t2 : decide ((32 : Int) < (s.length : Int)) = true := decide_eq_true (by omega)
   clear h32 HALL KEY
   go_enter Tryz.func88, Tryz.ntmps88
   go_wp2_with fail
   refine HT.out.mono ?_
   rintro e w1 ⟨hx, rfl⟩
   obtain ⟨v, rfl, hv, hp⟩ := hx.out
   clear HT hp hx
   go_wp2_with fail
   go_ret
   exact ⟨TWO, Kp.refl _ _⟩
  ·have KEY2 := fun e0 => KEY.out e0 (fun _ => h32) (fun h => by omega)
   clear h32 HALL
   rcases hf with rfl | rfl | rfl
   ·go_enter Tryz.func88, Tryz.ntmps88
    go_wp2_with fail
    refine HT.out.mono ?_
    rintro e w1 ⟨hx, rfl⟩
    have FIN := KEY2 _ hx
    obtain ⟨v, rfl, hv, hp⟩ := hx.out
    clear HT hp KEY2
    go_wp2_with fail
    go_ret
    exact ⟨FIN, Kp.refl _ _⟩
   ·go_enter Tryz.func88, Tryz.ntmps88
    go_wp2_with fail
    refine HT.out.mono ?_
    rintro e w1 ⟨hx, rfl⟩
    have FIN := KEY2 _ hx
    obtain ⟨v, rfl, hv, hp⟩ := hx.out
    clear HT hp KEY2
    go_wp2_with fail
    go_ret
    exact ⟨FIN, Kp.refl _ _⟩
   ·have t2 : decide ((32 : Int) < (s.length : Int)) = false := decide_eq_false (by omega)
    go_enter Tryz.func88, Tryz.ntmps88
    go_wp2_with fail
    refine HT.out.mono ?_
    rintro e w1 ⟨hx, rfl⟩
    have FIN := KEY2 _ hx
    obtain ⟨v, rfl, hv, hp⟩ := hx.out
    clear HT hp KEY2
    go_wp2_with fail
    go_ret
    exact ⟨FIN, Kp.refl _ _⟩
end Go.Proofs.YtgfcnjfmmjcodaaGreatDoor
