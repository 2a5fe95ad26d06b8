/- First, where Next comes to a header. -/
import Derived.Test.YtgfcnjfmmjcodaaGreatDoorP30
import Derived.Test.YtgfcnjfmmjcodaaGreatDoorP31
set_option linter.all false
set_option maxRecDepth 100000
set_option maxHeartbeats 1000000
open Go.Lib (hid)
namespace Go.Proofs.YtgfcnjfmmjcodaaGreatDoor
open Go Go.RowKit
theorem Lm {rs:List Rec}{t:List UInt8}(h:RecsT rs t):rs.length≤t.length:=by
 induction h with
 |nil=>exact Nat.zero_le _
 |@cons r rs t ts h hs ih=>
  have:=Gn h;rw[List.length_cons,List.length_append];omega
def Uk:Out→Prop
 | .file _ pax _=>∀rs,pax=some rs→rs.length≤1048576
 | .glob _ rs _ _=>rs.length≤1048576
 | .fail _=>True
theorem HeadP.recs {nb pad:Nat}{pax:Option (List Rec)}{ln ll src:List UInt8}{out:Out}(h:HeadP nb pad pax ln ll src out):(∀rs,pax=some rs→rs.length≤1048576)→Uk out:=by
 induction h with
 |file=>exact fun hp=>hp
 |glob d p l t rest h0 fm rs hd hp hl hb ht hs hr hk htl=>exact fun _=>Nat.le_trans (Lm hr) htl
 |pax d p l t rest h0 fm rs hd hp hl hb ht hs hr htl hk h ih=>exact fun _=>ih (fun rs e=>by injection e with e;subst e;exact Nat.le_trans (Lm hr) htl)
 |name d p l s rest h0 fm hd hp hl hb ht hs hz htl h ih=>exact ih
 |link d p l s rest h0 fm hd hp hl hb ht hs hz htl h ih=>exact ih
 |end_=>exact fun _=>trivial
 |bad=>exact fun _=>trivial
 |cutData=>exact fun _=>trivial
 |cutPad=>exact fun _=>trivial
 |cutNone=>exact fun _=>trivial
 |cutBlk=>exact fun _=>trivial
 |cutEnd=>exact fun _=>trivial
 |cutMeta=>exact fun _=>trivial
def On:Out→Prop
 | .file h _ _=>TimesOk h
 |_=>True
theorem Ul {s n:Int}(h:¬odd s n):(0≤n∧n<1000000000)∧¬(s= -62135596800∧n=0):=by
 unfold odd at h;omega
theorem Yt {h2 h:Hd}{f:Int}(s:SameH h2 h)(c:CanP h f):TimesOk h2:=by
 have m:=Ul c.sane.mod;have hm:=c.mod;refine⟨⟨by rw[s.mod.2];exact m.1,by rw[s.mod.1];omega⟩,fun e=>?_,fun e=>?_⟩
 ·rw[s.acc.1] at e;have a:=Ul (c.sane.acc e);have b:=c.acc e;obtain⟨e1,e2⟩:=s.acc.2 e;rw[e1,e2];exact⟨a.1,by omega,a.2⟩
 ·rw[s.chg.1] at e;have a:=Ul (c.sane.chg e);have b:=c.chg e;obtain⟨e1,e2⟩:=s.chg.2 e;rw[e1,e2];exact⟨a.1,by omega,a.2⟩
theorem Xc {h:Hd}{data tail:List UInt8}{out:Out}(ho:OutOk h data tail out)(hp:Qm (h,data)):On out:=by
 rcases ho with ⟨h2,pax,rfl,ht,hs,_⟩|⟨rs,n,ht,rfl,_⟩
 ·rcases hp with ⟨hg,_⟩|⟨_,_,hc,_⟩
  ·exact absurd hg.typ ht
  ·exact Yt hs hc
 ·exact trivial
theorem Bay {pax:Option (List Rec)}(k:List UInt8)(h:(Bae pax k).isSome=true):k∈(match pax with|none=>[]|some rs=>rs.map Prod.fst):=by
 cases pax with
 |none=>cases h
 |some rs=>
  obtain⟨v,hv⟩:=Option.isSome_iff_exists.1 h;exact List.mem_map.2 ⟨_,Cc _ _ _ hv,rfl⟩
def Bdd:Out→Prop
 | .fail _=>False
 |_=>True
theorem OutOk.not_fail {h:Hd}{data tail:List UInt8}{out:Out}(ho:OutOk h data tail out):Bdd out:=by
 rcases ho with ⟨h2,pax,rfl,_⟩|⟨rs,n,_,rfl,_⟩
 ·trivial
 ·trivial
theorem Um (name:List UInt8):TimesOk {hd0 with typ:=103,name:=name,ms:= -62135596800}:=by
 refine⟨⟨?_,?_⟩,(fun e=>by cases e),(fun e=>by cases e)⟩
 ·show (0:Int)≤0∧(0:Int)<1000000000;omega
 ·show -100000000000000003≤(-62135596800:Int)∧(-62135596800:Int)≤100000000000000003;omega
def Xd (g want:Hd):Prop:=
 want.typ=103∧g.typ=103∧(∀k,Bf g.recs k=Bf want.recs k)∨want.typ≠103∧SameH g want∧∀k v,Bf want.recs k=some v→Bf g.recs k=some v
theorem RecsIs.findL_eq {M:List UInt8→Option (List UInt8)}{l:List Rec}(s:RecsIs M (fun _=>false) l)(k:List UInt8):Bf l k=M k:=by
 cases e:M k with
 |some v=>
  obtain⟨u,hu⟩:=G8 l k v ((s.mem k v).2 ⟨e,rfl⟩);have h:=((s.mem k u).1 (Cc l k u hu)).1;rw[hu,←e,h]
 |none=>
  cases h:Bf l k with
  |none=>rfl
  |some u=>
   have h2:=((s.mem k u).1 (Cc l k u h)).1;rw[e] at h2;cases h2
theorem Baz {h2 h:Hd}(s:SameH h2 h)(f:Int)(l:List Rec):SameH {Dk h2 f true true with recs:=l} h:=by
 refine⟨s.typ,s.name,s.link,s.size,s.mode,s.uid,s.gid,s.un,s.gn,s.mod,s.maj,s.min,⟨s.acc.1,fun e=>?_⟩,⟨s.chg.1,fun e=>?_⟩⟩
 ·have e2:h2.hasA=true:=s.acc.1.trans e;have h:=s.acc.2 e;unfold Dk;simp only[e2,Bool.and_true,if_true];exact h
 ·have e2:h2.hasC=true:=s.chg.1.trans e;have h:=s.chg.2 e;unfold Dk;simp only[e2,Bool.and_true,if_true];exact h
theorem Bde {f:B4}{fs:List B4}{h2:Hd}{pax:Option (List Rec)}{src:List UInt8}(ho:Bbs f fs (.file h2 pax src)){l:List Rec}(s:RecsIs (Bae pax) (fun _=>false) l)(fm:Int):Xd {Dk h2 fm true true with recs:=l} f.1:=by
 obtain⟨h1,hs,h3,_⟩:=ho;refine .inr ⟨h1,Baz hs fm l,fun k v hk=>?_⟩;obtain⟨rs,rfl,hr⟩:=h3 k v hk;show Bf l k=some v;rw[s.findL_eq];exact hr
theorem Bdf {f:B4}{fs:List B4}{name:List UInt8}{rs:List Rec}{pad:Nat}{src:List UInt8}(ho:Bbs f fs (.glob name rs pad src)){l:List Rec}(s:RecsIs (Bf rs) (fun _=>false) l)(fm:Int)(h2:Hd)(ht:h2.typ=103):Xd {Dk h2 fm true true with recs:=l} f.1:=by
 obtain⟨h1,_,h3,_,_⟩:=ho;refine .inl ⟨h1,ht,fun k=>?_⟩;show Bf l k=_;rw[s.findL_eq];cases e:Bf f.1.recs k with
 |some v=>exact(h3 k v).2 e
 |none=>
  cases h:Bf rs k with
  |none=>rfl
  |some v=>
   have:=(h3 k v).1 h;rw[e] at this;cases this
def Bdg (g:Bt)(f:B4):Prop:=Xd g.1 f.1∧g.2.1=f.2∧g.2.2=1∧g.1.recs.length≤1048576
inductive GotAll:List Bt→List B4→Prop
 |nil:GotAll [] []
 |cons {g f gs fs} (h:Bdg g f) (hs:GotAll gs fs):GotAll (g::gs) (f::fs)
theorem GotAll.snoc {g:Bt}{f:B4}(h:Bdg g f):∀ {gs:List Bt} {fs:List B4},GotAll gs fs→GotAll (gs++[g]) (fs++[f])
 |_,_, .nil=>.cons h .nil
 |_,_, .cons h1 h2=>.cons h1 (GotAll.snoc h h2)
theorem GotAll.len:∀ {gs:List Bt} {fs:List B4},GotAll gs fs→gs.length=fs.length
 |_,_, .nil=>rfl
 |_,_, .cons h1 h2=>by rw[List.length_cons,List.length_cons,GotAll.len h2]
theorem GotAll.get:∀ {gs:List Bt} {fs:List B4},GotAll gs fs→∀ {i:Nat} {g:Bt},gs[i]?=some g→∃f,fs[i]?=some f∧Bdg g f
 |_,_, .nil,i,g,h=>by cases h
 |_,_, .cons h1 h2,0,g,h=>by
  injection h with h
  subst h
  exact⟨_,rfl,h1⟩
 |_,_, .cons h1 h2,i+1,g,h=>by
  rw[List.getElem?_cons_succ] at h ⊢
  exact GotAll.get h2 h
theorem GotAll.mem {gs:List Bt}{fs:List B4}(h:GotAll gs fs):∀g∈gs,g.1.recs.length≤1048576:=fun g hg=>by
 obtain⟨i,hi⟩:=List.mem_iff_getElem?.1 hg
 obtain⟨f,_,h1⟩:=h.get hi
 exact h1.2.2.2
structure GoodF (f:B4):Prop where
 p:Qm f
 i:Int64s f.1
 dl:f.2.length≤1048576
theorem ArcS.one {nb pad:Nat}{src:List UInt8}{f:B4}{fs:List B4}(h:ArcS nb pad src (f::fs))(g:GoodF f) :
  ∃out,HeadP nb pad none [] [] src out∧Bbs f fs out∧Bdd out∧On out∧Uk out:=by
 obtain⟨out,h1,h2,tail,h3⟩:=h.next g.p g.i (by have:=g.dl;omega)
 exact⟨out,h1,h2,h3.not_fail,Xc h3 g.p,h1.recs (fun rs e=>by cases e)⟩
structure AtFile (E : Nat → Addr) (B : Nat) (T : TypeId) (v : Value) (S : Nat → Prop) (inv : World → Nat → List UInt8 → Prop) (R : Nat) (w : World) (f : B4) (fs : List B4) (nh : Nat) (hd : Hd) (x pm : Value) (fm : Int) (M : List UInt8 → Option (List UInt8)) (ks : List (List UInt8)) (Rf pad : Nat) (tl : List UInt8) (w' : World) : Prop where
  row : w'.heap[nh]? = some (.cells (B2 hd x pm fm).toArray 167 (0, 0))
  pm : PmIs w' pm M
  times : TimesOk hd
  keys : ∀ k, (M k).isSome = true → k ∈ ks
  kl : ks.length ≤ 1048576
  inf : InFile E B T v S inv R Rf pad f.2 tl w'
  padl : pad ≤ 512
  arc : ArcS 0 pad tl fs
  low : w.heap.size ≤ Rf
  hdr : ∀ l, RecsIs M (fun _ => false) l → Xd { Dk hd fm true true with recs := l } f.1
  kp : Kp (fun k => S k ∨ k = R) w w'
theorem Bfn {E : Nat → Addr} {B : Nat} {T : TypeId} {v : Value} {S : Nat → Prop} {inv : World → Nat → List UInt8 → Prop} {R : Nat} {w w' : World} {out : Out} {e : Ending} {f : B4} {fs : List B4}
    (h : Lf E B T v S inv R w out e w') (ho : Bbs f fs out) (hS : ∀ k, S k → k < w.heap.size) (hB : B ≤ w.heap.size) (hdl : f.2.length ≤ 1048576) (hr : Uk out) (ht : On out) :
    ∃ (nh : Nat) (hd : Hd) (x pm : Value) (fm : Int) (M : List UInt8 → Option (List UInt8)) (ks : List (List UInt8)) (Rf pad : Nat) (tl : List UInt8), e = .returned (.tuple #[.pointer (some ⟨nh, 0, none⟩), .nilIface]) ∧ AtFile E B T v S inv R w f fs nh hd x pm fm M ks Rf pad tl w' := by
  obtain ⟨k, h⟩ := h
  cases out with
  | fail g => exact ho.elim
  | file hh pax src =>
    have ho2 := ho
    obtain ⟨g1, g2, g3, g4, g5, g6, g7⟩ := ho
    obtain ⟨nh, Rf, blk, fm, pm, h1, h2, h3, h4, h5, h6, h7, h8⟩ := h
    rw [g4] at h7 h8
    have hi := InFile.of h7 h8 (fun hs => by have := hS _ hs; omega) (by omega) (by omega) g7
    rw [g6] at hi
    have ha := g5.read (Nat.le_refl _)
    rw [Nat.sub_self] at ha
    refine ⟨nh, hh, _, pm, fm, Bae pax, _, Rf, _, _, h1, ⟨h4, h5, ht, Bay, ?_, hi, Nat.le_of_lt (Ry _), ha, h3, fun l hl => Bde ho2 hl fm, k⟩⟩
    cases pax with
    | none => exact Nat.zero_le _
    | some rs => rw [List.length_map]; exact hr rs rfl
  | glob name rs pad src =>
    have ho2 := ho
    obtain ⟨g1, g2, g3, g4, hp⟩ := ho
    obtain ⟨nh, Rf, blk, fm, b, h1, h2, h3, h4, h5, h6, h7, h8⟩ := h
    have hi := InFile.of (n := 0) h7 h8 (fun hs => by have := hS _ hs; omega) (by omega) (by omega) (Nat.zero_le _)
    rw [sE, sG, ← g2] at hi
    refine ⟨nh, _, _, _, fm, Bf rs, rs.map Prod.fst, Rf, pad, src, h1, ⟨h5, h6, Um name, fun k hk => ?_, by rw [List.length_map]; exact hr, hi, hp, g4, h3, fun l hl => Bdf ho2 hl fm _ rfl, k⟩⟩
    obtain ⟨v, hv⟩ := Option.isSome_iff_exists.1 hk
    exact List.mem_map.2 ⟨_, Cc _ _ _ hv, rfl⟩
set_option maxHeartbeats 6400000 in
theorem Bei (w : World) (B : Nat) (g want : Hd) (rv rv2 : Value) (hg : RecsAt w B rv g.recs) (hw : RecsAt w B rv2 want.recs) (hc : Hj rv2) (hgl : g.recs.length ≤ 2147483648) (hwl : want.recs.length ≤ 2147483648) (h : Xd g want) :
    Calls Tryz.prog 22 #[.agg (Bu g rv).toArray, .agg (Bd want rv2).toArray] w fun e w' => e = .returned (.bool true) ∧ Kp (fun _ => False) w w' := by
  obtain ⟨A2, c2, rfl⟩ := hw.shape
  have HPL := fun W (k : Kp (fun _ => False) w W) => hid (Qz W B g rv (hg.keep k (fun _ h => h.elim)) hgl)
  have HW := hid hw
  have HC := hid hc
  have HH := hid h
  obtain ⟨va, ea⟩ : ∃ va : Array Value, (Bu g rv).toArray = va := ⟨_, rfl⟩
  obtain ⟨vb, eb⟩ : ∃ vb : Array Value, (Bd want (.slice A2 want.recs.length c2)).toArray = vb := ⟨_, rfl⟩
  rw [ea, eb]
  clear hw hc h hg
  go_enter Tryz.func22, Tryz.ntmps22
  go_upto_region 1 with fail
  refine Ib ?_
  intro wB g1 g2 kB sB
  rw [← ea] at g1
  rw [← eb] at g2
  have HPB := HPL wB kB
  clear HPL ea eb
  go_step; refine wpList_load_row rfl 26 (.tmp 2) rfl w.heap.size rfl 26 (Bu g rv).toArray (0, 0) _ g1 Tryz.underlying26 rfl (by kernel_rfl) ?_
  go_wp2_with fail
  refine HPB.out.mono ?_
  rintro e w1 ⟨⟨rv1, rfl, ho1⟩, k1⟩
  have hone1 := Dx (h := g) ho1.out.one
  obtain ⟨A1, c1, hrv1⟩ := ho1.out.at_.shape
  subst hrv1
  dsimp only
  rename_i K hK
  refine hK _ _ ?_
  clear hK
  go_step; go_step; go_step; refine wpList_store_row rfl 45 (.tmp 5) (.tmp 7) rfl w1.heap.size (Bd g (.slice A1 g.recs.length c1)).toArray rfl rfl 45 _ (Ba w1 _) (by kernel_rfl) (by rfl) hone1 ?_
  go_upto_region 2 with fail
  refine Gv ?_
  intro wC gC kC sC
  have g2C : wC.heap[w.heap.size + 1]? = some (.cells (Bd want (.slice A2 want.recs.length c2)).toArray 45 (0, 0)) := (k1.trans kC).heap g2 (fun h => h)
  have KC := hid ((kB.trans k1).trans kC)
  have RG : Hid (RecsAt wC wC.heap.size (.slice A1 g.recs.length c1) g.recs) := (ho1.out.at_.keep kC (fun _ h => h.elim)).mono kC.size
  have CG : Hid (Hj (.slice A1 g.recs.length c1)) := ho1.out.cap
  have RW : Hid (RecsAt wC B (.slice A2 want.recs.length c2) want.recs) := HW.out.keep KC.out (fun _ h => h.elim)
  have G1 := hid gC
  have G2 := hid g2C
  clear g1 g2 kB sB k1 ho1 hone1 gC kC sC g2C HPB HW
  generalize w1.heap.size = H at G1 ⊢
  have d19 : wC.cell? ⟨H, 19, none⟩ = some (.slice A1 g.recs.length c1) := cell_of G1.out 19 rfl
  have c19 : wC.cell? ⟨w.heap.size + 1, 19, none⟩ = some (.slice A2 want.recs.length c2) := cell_of G2.out 19 rfl
  rcases HH.out with ⟨ht, hgt, hr⟩ | ⟨ht, hs, hr⟩
  · have c0 : wC.cell? ⟨w.heap.size + 1, 0, none⟩ = some (.int .u8 103) := by have := cell_of G2.out 0 (v := .int .u8 (want.typ.toNat : Int)) rfl; rw [ht] at this; exact this
    have d0 : wC.cell? ⟨H, 0, none⟩ = some (.int .u8 103) := by have := cell_of G1.out 0 (v := .int .u8 (g.typ.toNat : Int)) rfl; rw [hgt] at this; exact this
    have H1 := fun W (k : Kp (fun _ => False) wC W) => hid (Jm W _ _ _ _ g.recs want.recs (RG.out.keep k (fun _ h => h.elim)) (RW.out.keep k (fun _ h => h.elim)) HC.out hgl hwl (fun k v hk => by rw [hr]; exact hk))
    have H2 := fun W (k : Kp (fun _ => False) wC W) => hid (Jm W _ _ _ _ want.recs g.recs (RW.out.keep k (fun _ h => h.elim)) (RG.out.keep k (fun _ h => h.elim)) CG.out hwl hgl (fun k v hk => by rw [← hr]; exact hk))
    clear hr HH RG RW CG HC G1 G2
    go_wp2_with fail
    refine (H1 wC (Kp.refl _ _)).out.mono ?_
    rintro e w2 ⟨rfl, k2⟩
    have d19b := k2.cell d19 (fun h => h)
    have c19b := k2.cell c19 (fun h => h)
    clear d19 c19 c0 d0
    go_wp2_with fail
    refine (H2 w2 k2).out.mono ?_
    rintro e w3 ⟨rfl, k3⟩
    go_wp2_with fail
    go_ret
    exact ⟨rfl, (KC.out.trans k2).trans k3⟩
  · have e0 : ((want.typ.toNat : Int) == 103) = false := by
      rw [beq_eq_false_iff_ne]
      intro e
      exact ht (UInt8.toNat_inj.1 (by show want.typ.toNat = 103; omega))
    have c0 : wC.cell? ⟨w.heap.size + 1, 0, none⟩ = some (.int .u8 (want.typ.toNat : Int)) := cell_of G2.out 0 rfl
    have H1 := fun W (k : Kp (fun _ => False) wC W) => hid (Jm W _ _ _ _ g.recs want.recs (RG.out.keep k (fun _ h => h.elim)) (RW.out.keep k (fun _ h => h.elim)) HC.out hgl hwl hr)
    have HS := hid (Bcl wC g want (.slice A1 g.recs.length c1) (.slice A2 want.recs.length c2) hs)
    clear hr hs ht HH RG RW CG HC
    go_upto_region 4 with fail
    go_step; refine wpList_load_row rfl 45 (.tmp 5) rfl H rfl 45 (Bd g (.slice A1 g.recs.length c1)).toArray (0, 0) _ G1.out Tryz.underlying45 rfl (by kernel_rfl) ?_
    refine wpList_load_row rfl 45 (.tmp 3) rfl (w.heap.size + 1) rfl 45 (Bd want (.slice A2 want.recs.length c2)).toArray (0, 0) _ G2.out Tryz.underlying45 rfl (by kernel_rfl) ?_
    clear G1 G2
    go_wp2_with fail
    refine HS.out.mono ?_
    rintro e w2 ⟨rfl, k2⟩
    have d19b := k2.cell d19 (fun h => h)
    have c19b := k2.cell c19 (fun h => h)
    clear d19 c19 c0 HS
    go_wp2_with fail
    refine (H1 w2 k2).out.mono ?_
    rintro e w3 ⟨rfl, k3⟩
    go_wp2_with fail
    go_ret
    exact ⟨rfl, (KC.out.trans k2).trans k3⟩
theorem Q7 {w : World} {dv : Value} {l : List UInt8} (h : DataAt w dv l) (hl : l.length ≤ 1099511627776) : (convert 27 9 dv).run Tryz.prog w = .ok (.string ⟨l.toArray⟩) w := by
  rcases h with ⟨rfl | ⟨a, c, rfl⟩, rfl⟩ | ⟨b, o, c, rfl, hb⟩
  · kernel_rfl
  · kernel_rfl
  · exact C4 hb c
theorem DataAt.keepF {w w' : World} {x : Value} {l : List UInt8} (h : DataAt w x l) (k : Kp (fun _ => False) w w') : DataAt w' x l := by
  rcases h with h | ⟨b, o, c, h1, h2⟩
  · exact .inl h
  · exact .inr ⟨b, o, c, h1, fun j u hu => k.cell (h2 j u hu) (fun h => h)⟩
theorem Bfo (w : World) (a b : Value) (l : List UInt8) (ha : DataAt w a l) (hb : DataAt w b l) (hl : l.length ≤ 1099511627776) : Calls Tryz.prog 23 #[a, b] w fun e w' => e = .returned (.bool true) ∧ Kp (fun _ => False) w w' := by
  have h1 := Q7 ha hl
  have h2 := Q7 hb hl
  obtain ⟨A, c, rfl⟩ := ha.shape
  obtain ⟨A2, c2, rfl⟩ := hb.shape
  clear ha hb
  go_enter Tryz.func23, Tryz.ntmps23
  go_wp2_with fail
  go_ret
  exact ⟨rfl, Kp.refl _ _⟩
theorem NumsAt.up {w w' : World} {C C' : Nat} {nv : Value} (h : NumsAt w C nv) (k : Kp (fun _ => False) w w') (hC : C ≤ C') : NumsAt w' C' nv := by
  rcases h.keep k (fun _ h => h.elim) with h | ⟨nb, no, nl, nc, h1, h2, h3, h4, h5⟩
  · exact .inl h
  · exact .inr ⟨nb, no, nl, nc, h1, h2, h3, Nat.lt_of_lt_of_le h4 hC, h5⟩
theorem IFilesAt.up {w w' : World} {B B' : Nat} {fv : Value} {fs : List Bt} (h : IFilesAt w B fv fs) (k : Kp (fun _ => False) w w') (hB : B ≤ B') : IFilesAt w' B' fv fs := by
  rcases h.keep k (fun _ h => h.elim) with h | ⟨b, o, c, h1, h2, h3⟩
  · exact .inl h
  · refine .inr ⟨b, o, c, h1, Nat.lt_of_lt_of_le h2 hB, fun i f hf => ?_⟩
    obtain ⟨rv, dv, q1, q2, q3⟩ := h3 i f hf
    exact ⟨rv, dv, q1, q2.mono hB, q3.keep (Kp.refl (fun _ => False) _) (fun _ _ h => h) (fun b hb => Nat.lt_of_lt_of_le hb hB)⟩
theorem FilesAt.up {w w' : World} {B B' : Nat} {fv : Value} {fs : List B4} (h : FilesAt w B fv fs) (k : Kp (fun _ => False) w w') (hB : B ≤ B') : FilesAt w' B' fv fs := by
  rcases h.keep k (fun _ h => h.elim) with h | ⟨b, o, c, h1, h2, h3⟩
  · exact .inl h
  · refine .inr ⟨b, o, c, h1, Nat.lt_of_lt_of_le h2 hB, fun i f hf => ?_⟩
    obtain ⟨rv, dv, q1, q2, q3, q4, q5⟩ := h3 i f hf
    exact ⟨rv, dv, q1, q2.mono hB, q3, fun b' o' c' e hp => Nat.lt_of_lt_of_le (q4 b' o' c' e hp) hB, q5⟩
theorem Bdh {fs : List B4} {f : B4} (h : f ∈ fs) : f.2.length ≤ He fs := by
  unfold He
  induction fs with
  | nil => cases h
  | cons x r ih =>
    simp only [List.map_cons, List.sum_cons]
    rcases List.mem_cons.1 h with rfl | h
    · omega
    · have := ih h; omega
structure InpOk (fs : List Bt) : Prop where
  ok : ∀ f ∈ fs, Rng f.1 ∧ IFileOk f
  len : fs.length ≤ 1048576
theorem Xe {fs : List Bt} {gs : List B4} (h : ToldAll fs gs) : ∀ g ∈ gs, ∃ f ∈ fs, ToldOk f g := by
  induction h with
  | nil => intro g hg; cases hg
  | cons h1 h2 ih =>
    intro g hg
    rcases List.mem_cons.1 hg with rfl | hg
    · exact ⟨_, List.mem_cons_self .., h1⟩
    · obtain ⟨f, hf, ht⟩ := ih g hg
      exact ⟨f, List.mem_cons_of_mem _ hf, ht⟩
theorem Bfp {fs : List Bt} {gs : List B4} (h : ToldAll fs gs) (ho : InpOk fs) (hd : He gs ≤ 1048576) : (∀ g ∈ gs, GoodF g) ∧ (∀ g ∈ gs, FileIn g) ∧ gs.length ≤ 1048576 := by
  refine ⟨fun g hg => ?_, fun g hg => ?_, ?_⟩
  · obtain ⟨f, hf, ht⟩ := Xe h g hg
    obtain ⟨hr, hok⟩ := ho.ok f hf
    exact ⟨ht.fileP, (ht.fileIn hr hok.dl).ti.1, Nat.le_trans (Bdh hg) hd⟩
  · obtain ⟨f, hf, ht⟩ := Xe h g hg
    obtain ⟨hr, hok⟩ := ho.ok f hf
    exact ht.fileIn hr hok.dl
  · have : ∀ {fs : List Bt} {gs : List B4}, ToldAll fs gs → gs.length = fs.length := by
      intro fs gs h
      induction h with
      | nil => rfl
      | cons _ _ ih => rw [List.length_cons, List.length_cons, ih]
    rw [this h]
    exact ho.len
end Go.Proofs.YtgfcnjfmmjcodaaGreatDoor
