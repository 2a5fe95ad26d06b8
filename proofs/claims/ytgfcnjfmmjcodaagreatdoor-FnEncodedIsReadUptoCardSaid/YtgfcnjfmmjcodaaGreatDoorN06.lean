/- readHeader at a good block. -/
import Derived.Deep.CutRange
import Derived.Test.YtgfcnjfmmjcodaaGreatDoorN05
set_option linter.all false
set_option maxRecDepth 100000
set_option maxHeartbeats 1000000
open Go.Lib (hid)
namespace Go.Proofs.YtgfcnjfmmjcodaaGreatDoor
open Go.RowKit
theorem strAt {w:World}{R:Nat}{l:List UInt8}(hb:BytesAt w R 3 l)(o k q c:Nat)(p:Value)(hq:q=3+o)(hok:o+k≤l.length)(hk:k≤1000)(hc:k≤c) :
  Calls Tryz.prog 133 #[p, .slice (some ⟨R,q,none⟩) k c] w fun e w'=>e=.returned (.string ⟨(textOf (fld l o k)).toArray⟩)∧w'=w:=by
 subst hq
 have:=parseString_any w p R (3+o) c (fld l o k) (hb.fld o k hok) (by rw[fld_len l o k hok];omega) (by rw[fld_len l o k hok];omega)
 rwa[fld_len l o k hok] at this
theorem numAt {w:World}{R:Nat}{l:List UInt8}(hb:BytesAt w R 3 l)(hlt:R<w.heap.size)(o k q c:Nat)(v:Int)(p:Value)(hn:NumAt (fld l o k) v)(hq:q=3+o)(hok:o+k≤l.length)(hk:k≤1000)(hc:k≤c)(hcm:c≤1000) :
  Calls Tryz.prog 206 #[p, .slice (some ⟨R,q,none⟩) k c] w fun e w'=>e=.returned (.int .i64 v)∧Kp (fun _=>False) w w':=by
 subst hq
 have:=parseNumeric_any w p R (3+o) c (fld l o k) v (hb.fld o k hok) hlt hn (by rw[fld_len l o k hok];omega) (by rw[fld_len l o k hok];omega) (by omega)
 rwa[fld_len l o k hok] at this
structure RhSt (w2:World)(R:Nat)(l:List UInt8)(np nh:Nat)(row:List Value)(w:World):Prop where
 bytes:BytesAt w R 3 l
 lt:R<w.heap.size
 par:w.cell? ⟨np,0,none⟩=some .nilIface
 row:w.heap[nh]?=some (.cells row.toArray 167 (0,0))
 kp:Kp (fun _=>False) w2 w
 old:w2.heap.size≤nh
 ne:R≠nh∧np≠nh
theorem RhSt.step {w2 w w':World}{R:Nat}{l:List UInt8}{np nh:Nat}{row:List Value}(h:RhSt w2 R l np nh row w)(k:Kp (fun _=>False) w w'):RhSt w2 R l np nh row w':=
 ⟨h.bytes.keep k (fun h=>h),Nat.lt_of_lt_of_le h.lt k.size,k.cell h.par (fun h=>h),k.heap h.row (fun h=>h),h.kp.trans k,h.old,h.ne⟩
theorem RhSt.set {w2 w:World}{R:Nat}{l:List UInt8}{np nh:Nat}{row:List Value}(h:RhSt w2 R l np nh row w)(i:Nat)(v:Value):RhSt w2 R l np nh (row.set i v) (w.setCell ⟨nh,i,none⟩ v):=by
 have k:Kp (· =nh) w (w.setCell ⟨nh,i,none⟩ v):=Kp.setCell (S:=(· =nh)) (p:=⟨nh,i,none⟩) (Kp.refl _ w) (.inl rfl) v
 refine⟨h.bytes.keep k h.ne.1,Nat.lt_of_lt_of_le h.lt k.size,k.cell h.par h.ne.2,?_,h.kp.setCell (.inr h.old) v,h.old,h.ne⟩
 have:=heap_set h.row i v
 rwa[sA] at this
def row0:List Value:=[.int .u8 0, .string ⟨#[]⟩, .string ⟨#[]⟩, .int .i64 0, .int .i64 0, .int .i64 0, .int .i64 0, .string ⟨#[]⟩, .string ⟨#[]⟩, .int .u64 0, .int .i64 0, .int .u64 0, .int .i64 0, .int .u64 0, .int .i64 0, .int .i64 0, .int .i64 0, .map none, .map none, .int .i64 0]
theorem RhSt.start {w2 w3:World}{R:Nat}{l:List UInt8}(hB:BytesAt w2 R 3 l)(hk3:Kp (fun _=>False) w2 w3)(hlt:R<w2.heap.size) :
  RhSt w2 R l w3.heap.size (w3.heap.size+1) row0 ((w3.alloc (.cells #[.nilIface] 236)).alloc (.cells #[.int .u8 0, .string ⟨#[]⟩, .string ⟨#[]⟩, .int .i64 0, .int .i64 0, .int .i64 0, .int .i64 0, .string ⟨#[]⟩, .string ⟨#[]⟩, .int .u64 0, .int .i64 0, .int .u64 0, .int .i64 0, .int .u64 0, .int .i64 0, .int .i64 0, .int .i64 0, .map none, .map none, .int .i64 0] 167)):=by
 have hsz:=hk3.size
 refine⟨((hB.keep hk3 (fun h=>h)).keep (((Kp.refl (fun _=>False) _).alloc _).alloc _) (fun h=>h)),?_,?_,?_,(hk3.alloc _).alloc _,by omega,by omega,by omega⟩
 ·have:=(((Kp.refl (fun _=>False) w3).alloc (.cells #[.nilIface] 236)).alloc (.cells row0.toArray 167)).size
  exact Nat.lt_of_lt_of_le (by omega) this
 ·exact cell_of (heap_alloc (heap_new w3 _) _) 0 rfl
 ·have:=heap_new (w3.alloc (.cells #[.nilIface] 236)) (.cells row0.toArray 167)
  have e:(w3.alloc (.cells #[.nilIface] 236)).heap.size=w3.heap.size+1:=Array.size_push _
  rw[e] at this
  exact this
def hdRow (tf:Int)(name link:List UInt8)(size mode uid gid:Int)(un gn:List UInt8)(mt:Int)(a0 a1 c0 c1 maj min f:Int):List Value:=
 [.int .u8 tf, .string ⟨name.toArray⟩, .string ⟨link.toArray⟩, .int .i64 size, .int .i64 mode, .int .i64 uid, .int .i64 gid, .string ⟨un.toArray⟩, .string ⟨gn.toArray⟩, .int .u64 0, .int .i64 (mt+62135596800), .int .u64 a0, .int .i64 a1, .int .u64 c0, .int .i64 c1, .int .i64 maj, .int .i64 min, .map none, .map none, .int .i64 f]
theorem nulAt {w:World}{R:Nat}{l:List UInt8}(hb:BytesAt w R 3 l)(hl:l.length=512)(o k q c:Nat)(hq:q=3+o)(hok:o+(k+1)≤512)(hc:k+1≤c)(hcm:c≤1000) :
  Calls Tryz.prog 209 #[.slice (some ⟨R,q,none⟩) (k+1) c] w fun e w'=>(∃t:Bool,e=.returned (.bool t))∧w'=w:=by
 subst hq
 exact nul_any w R (3+o) c k _ (by rw[Nat.add_assoc];exact hb.get (o+k) (by omega)) hc (by omega)
theorem indexAt {w:World}{R:Nat}{l:List UInt8}(hb:BytesAt w R 3 l)(hlt:R<w.heap.size)(hl:l.length=512)(hT:Lib.Utf8Tabs 14 15 w) :
  Calls Tryz.prog 208 #[.slice (some ⟨R,3,none⟩) 512 512,notAsciiF] w fun e w'=>(∃i:Int,e=.returned (.int .i64 i))∧Kp (fun _=>False) w w':=by
 have:=IndexFunc_some w R 3 512 l hb hlt (by omega) (by omega) hT
 rwa[hl] at this
def RhGood (E:Nat→Addr)(B:Nat)(T:TypeId)(v:Value)(S:Nat→Prop)(inv:World→Nat→List UInt8→Prop)(R:Nat)(pad:Int)(curr:Value)(l:List UInt8)(err:Value)(rest:List UInt8)(w:World)(row:Int→List Value)(e:Ending)(w':World):Prop:=
 ∃(nh:Nat) (f:Int),e=.returned (.tuple #[.pointer (some ⟨nh,0,none⟩), .pointer (some ⟨R,3,none⟩), .nilIface])∧Kp (fun k=>S k∨k=R) w w' ∧
  RhIn E B T v S inv R pad curr (ubs l) err rest w'∧w.heap.size≤nh∧w'.heap[nh]?=some (.cells (row f).toArray 167 (0,0))
def joined (pre name:List UInt8):List UInt8:=if pre=[] then name else pre++47::name
theorem joined_pos {pre nm:List UInt8}(h:0<pre.length):joined pre nm=pre++47::nm:=by
 cases pre with
 |nil=>simp at h
 |cons x l=>simp[joined]
theorem joined_nil {pre nm:List UInt8}(h:¬0<pre.length):joined pre nm=nm:=by
 cases pre with
 |nil=>simp[joined]
 |cons x l=>simp at h
theorem name_join (pre nm:List UInt8):(⟨pre.toArray⟩++⟨#[47]⟩++⟨nm.toArray⟩:ByteArray)=⟨(pre++47::nm).toArray⟩:=by
 rw[show (⟨#[47]⟩:ByteArray)=⟨[47].toArray⟩ from rfl,ByteArray.mk_append_mk,ByteArray.mk_append_mk]
 simp
theorem RhSt.good {E:Nat→Addr}{B:Nat}{T:TypeId}{v:Value}{S:Nat→Prop}{inv:World→Nat→List UInt8→Prop}(hR:IsRd E B T v S inv)
  {R:Nat} {pad:Int} {curr:Value} {l:List UInt8} {err:Value} {rest:List UInt8} {w w2 wx:World} {np nh:Nat} {row:List Value} {f:Int} {rowf:Int→List Value}
  (hk:Kp (fun k=>S k∨k=R) w w2) (hi:RhIn E B T v S inv R pad curr (ubs l) err rest w2) (st:RhSt w2 R l np nh row wx) (hrow:row=rowf f) (n:Nat) :
  RhGood E B T v S inv R pad curr l err rest w rowf (.returned (.tuple #[.pointer (some ⟨nh,0,none⟩), .pointer (some ⟨R,3,none⟩), .nilIface])) (wx.drewN n):=by
 have hkx:Kp (fun _=>False) w2 (wx.drewN n):=st.kp.drewN n
 refine⟨nh,f,rfl,hk.then hkx (fun _ _ h=>h.elim),hi.keep hR hkx,Nat.le_trans hk.size st.old,?_⟩
 rw[←hrow]
 exact st.row
structure HdBlk (l:List UInt8)(n:Nat)(tf:UInt8)(size mode uid gid mt maj min:Int):Prop where
 len:l.length=512
 sum:Nonempty (OctAt (fld l 148 8) n)
 good:(n:Int)=usumTo l 512∨(n:Int)=ssumTo l 512
 typ:l[156]?=some tf
 n_size:NumAt (fld l 124 12) size
 n_mode:NumAt (fld l 100 8) mode
 n_uid:NumAt (fld l 108 8) uid
 n_gid:NumAt (fld l 116 8) gid
 n_mt:NumAt (fld l 136 12) mt
 n_maj:NumAt (fld l 329 8) maj
 n_min:NumAt (fld l 337 8) min
 tmt: -100000000000000001≤mt∧mt≤100000000000000001
set_option maxHeartbeats 4000000 in
theorem readHeader_good6 {E:Nat→Addr}{B:Nat}{T:TypeId}{v:Value}{S:Nat→Prop}{inv:World→Nat→List UInt8→Prop}(hR:IsRd E B T v S inv)
  (w:World) (R:Nat) (pad:Int) (curr:Value) (blk:List Value) (err:Value) (rest:List UInt8) (hi:RhIn E B T v S inv R pad curr blk err rest w)
  (hs:512≤rest.length) (hz:(rest.take 512==zblk)=false) (n:Nat) (tf:UInt8) (size mode uid gid mt maj min:Int) (hh:HdBlk (rest.take 512) n tf size mode uid gid mt maj min) (hf:fmtOf (rest.take 512)=6) :
  Calls Tryz.prog 127 #[.pointer (some ⟨R,0,none⟩)] w (RhGood E B T v S inv R pad curr (rest.take 512) err (rest.drop 512) w (hdRow tf.toNat (joined (textOf (fld (rest.take 512) 345 155)) (textOf (fld (rest.take 512) 0 100))) (textOf (fld (rest.take 512) 157 100)) size mode uid gid (textOf (fld (rest.take 512) 265 32)) (textOf (fld (rest.take 512) 297 32)) mt 0 0 0 0 maj min)):=by
 have c0:w.cell? ⟨R,0,none⟩=some (.iface T v):=cell_of hi.row 0 rfl
 have HI:=hid hi
 clear hi
 have hrf:rfErr E 512 rest.length=.nilIface:=by rw[rfErr,if_pos hs]
 have HE:=hid hrf
 have htl:(rest.take 512).length=512:=by rw[List.length_take];omega
 have HF:=fun w1 hb hlt=>hh.sum.elim fun ho=>hid (getFormat_good w1 R 3 n (rest.take 512) hb htl hlt ho hh.good)
 rw[hf] at HF
 have HL:=hid htl
 have HZ:=hid hz
 have HH:=hid hh
 obtain⟨l,hl⟩:∃l,rest.take 512=l:=⟨_,rfl⟩
 have HR:=hid hl
 rw[hl]
 rw[hl] at HF HL HZ HH
 have htf:=HH.out.typ
 have HTF:=hid htf
 have htl:=tf.toNat_lt
 clear hrf hs hz hh hl hf htf
 go_enter Tryz.func127,Tryz.ntmps127
 go_wp2_with fail
 refine region_seg [8] (by kernel_rfl) ?_
 simp only[wpSeg,sD,sE,sF,sG]
 repeat still_step
 refine wpStill_nil ?_
 go_wp2_with fail
 refine(HI.out.full hR).mono ?_
 rintro e w1 ⟨rfl,hk1,hi1⟩
 rw[splice_all _ _ (by rw[ubs_length,HI.out.blen,HR.out,HL.out]),HR.out] at hi1
 rw[HE.out]
 have hB1:BytesAt w1 R 3 l:=hi1.bytes
 have hB2:BytesAt (w1.alloc (.cells Tryz.zeroCells156 156)).drew R 3 l:=hB1.keep ((Kp.refl (fun _=>False) _).alloc _).drew (fun h=>h)
 have HB2:=hid hB2
 clear hB1 hB2 c0
 go_wp2_with fail
 repeat still_step
 refine wpStill_nil ?_
 go_wp2_with fail
 go_region_with (go_at_call 203;refine(equal512 _ _ _ _ HB2.out HL.out (zero156_at _)).mono ?_;rintro e w2 ⟨rfl,rfl⟩;rw[HZ.out])
 have hi1k:=hi1.keep hR ((Kp.refl (fun _=>False) _).alloc (.cells Tryz.zeroCells156 156)).drew
 have hk1k:=(hk1.alloc (.cells Tryz.zeroCells156 156)).drew
 have HI2:=hid hi1k
 have HK1:=hid hk1k
 have hB3:=HB2.out
 generalize (w1.alloc (.cells Tryz.zeroCells156 156)).drew=w2 at HI2 HK1 hB3 ⊢
 clear hi1 hk1 hi1k hk1k HB2
 go_wp2_with fail
 refine(HF w2 hB3 (lt_of HI2.out.row)).out.mono ?_
 rintro e w3 ⟨rfl,hk3⟩
 have ST:=hid (RhSt.start hB3 hk3 (lt_of HI2.out.row))
 clear hB3
 go_wp2_with fail
 generalize (w3.alloc (.cells #[.nilIface] 236)).alloc (.cells #[.int .u8 0, .string ⟨#[]⟩, .string ⟨#[]⟩, .int .i64 0, .int .i64 0, .int .i64 0, .int .i64 0, .string ⟨#[]⟩, .string ⟨#[]⟩, .int .u64 0, .int .i64 0, .int .u64 0, .int .i64 0, .int .u64 0, .int .i64 0, .int .i64 0, .int .i64 0, .map none, .map none, .int .i64 0] 167)=wk at ST ⊢
 refine(toV7_any _ _).mono ?_
 rintro e wn ⟨rfl,rfl⟩
 go_wp2_with fail
 refine(typeFlag_any _ _ _).mono ?_
 rintro e wk ⟨rfl,rfl⟩
 have ct:=ST.out.bytes 156 (ub tf) (by rw[ubs_get,HTF.out];rfl)
 have cc:=cell_of ST.out.row 0 rfl
 have zz:=free_of ST.out.row 0
 have STn:=hid (ST.out.set 0 (.int .u8 (tf.toNat:Int)))
 unfold ub at ct
 clear ST
 go_wp2_with fail
 generalize World.setCell wk ⟨w3.heap.size+1,0,none⟩ (.int .u8 (tf.toNat:Int))=wn at STn ⊢
 clear cc zz ct
 obtain⟨ST⟩:Nonempty (type_of% STn):=⟨STn⟩
 clear STn
 refine(name_any _ _ _).mono ?_
 rintro e wk ⟨rfl,rfl⟩
 go_wp2_with fail
 refine(strAt ST.out.bytes 0 100 _ _ _ rfl (by rw[HL.out];decide) (by decide) (by decide)).mono ?_
 rintro e wk ⟨rfl,rfl⟩
 have cc:=cell_of ST.out.row 1 rfl
 have zz:=free_of ST.out.row 1
 have STn:=hid (ST.out.set 1 (.string ⟨(textOf (fld l 0 100)).toArray⟩))
 go_wp2_with fail
 generalize World.setCell wk ⟨w3.heap.size+1,1,none⟩ (.string ⟨(textOf (fld l 0 100)).toArray⟩)=wn at STn ⊢
 clear cc zz ST
 obtain⟨ST⟩:Nonempty (type_of% STn):=⟨STn⟩
 clear STn
 refine(linkName_any _ _ _).mono ?_
 rintro e wk ⟨rfl,rfl⟩
 go_wp2_with fail
 refine(strAt ST.out.bytes 157 100 _ _ _ rfl (by rw[HL.out];decide) (by decide) (by decide)).mono ?_
 rintro e wk ⟨rfl,rfl⟩
 have cc:=cell_of ST.out.row 2 rfl
 have zz:=free_of ST.out.row 2
 have STn:=hid (ST.out.set 2 (.string ⟨(textOf (fld l 157 100)).toArray⟩))
 go_wp2_with fail
 generalize World.setCell wk ⟨w3.heap.size+1,2,none⟩ (.string ⟨(textOf (fld l 157 100)).toArray⟩)=wn at STn ⊢
 clear cc zz ST
 obtain⟨ST⟩:Nonempty (type_of% STn):=⟨STn⟩
 clear STn
 refine(size_any _ _ _).mono ?_
 rintro e wk ⟨rfl,rfl⟩
 go_wp2_with fail
 refine(numAt ST.out.bytes ST.out.lt 124 12 _ _ size _ HH.out.n_size rfl (by rw[HL.out];decide) (by decide) (by decide) (by decide)).mono ?_
 rintro e wk ⟨rfl,hk4⟩
 have STk:=hid (ST.out.step hk4)
 clear ST hk4
 have cc:=cell_of STk.out.row 3 rfl
 have zz:=free_of STk.out.row 3
 have STn:=hid (STk.out.set 3 (.int .i64 size))
 clear STk
 go_wp2_with fail
 generalize World.setCell wk ⟨w3.heap.size+1,3,none⟩ (.int .i64 size)=wn at STn ⊢
 clear cc zz
 obtain⟨ST⟩:Nonempty (type_of% STn):=⟨STn⟩
 clear STn
 refine(mode_any _ _ _).mono ?_
 rintro e wk ⟨rfl,rfl⟩
 go_wp2_with fail
 refine(numAt ST.out.bytes ST.out.lt 100 8 _ _ mode _ HH.out.n_mode rfl (by rw[HL.out];decide) (by decide) (by decide) (by decide)).mono ?_
 rintro e wk ⟨rfl,hk4⟩
 have STk:=hid (ST.out.step hk4)
 clear ST hk4
 have cc:=cell_of STk.out.row 4 rfl
 have zz:=free_of STk.out.row 4
 have STn:=hid (STk.out.set 4 (.int .i64 mode))
 clear STk
 go_wp2_with fail
 generalize World.setCell wk ⟨w3.heap.size+1,4,none⟩ (.int .i64 mode)=wn at STn ⊢
 clear cc zz
 obtain⟨ST⟩:Nonempty (type_of% STn):=⟨STn⟩
 clear STn
 refine(uid_any _ _ _).mono ?_
 rintro e wk ⟨rfl,rfl⟩
 go_wp2_with fail
 refine(numAt ST.out.bytes ST.out.lt 108 8 _ _ uid _ HH.out.n_uid rfl (by rw[HL.out];decide) (by decide) (by decide) (by decide)).mono ?_
 rintro e wk ⟨rfl,hk4⟩
 have STk:=hid (ST.out.step hk4)
 clear ST hk4
 have cc:=cell_of STk.out.row 5 rfl
 have zz:=free_of STk.out.row 5
 have STn:=hid (STk.out.set 5 (.int .i64 uid))
 clear STk
 go_wp2_with fail
 generalize World.setCell wk ⟨w3.heap.size+1,5,none⟩ (.int .i64 uid)=wn at STn ⊢
 clear cc zz
 obtain⟨ST⟩:Nonempty (type_of% STn):=⟨STn⟩
 clear STn
 refine(gid_any _ _ _).mono ?_
 rintro e wk ⟨rfl,rfl⟩
 go_wp2_with fail
 refine(numAt ST.out.bytes ST.out.lt 116 8 _ _ gid _ HH.out.n_gid rfl (by rw[HL.out];decide) (by decide) (by decide) (by decide)).mono ?_
 rintro e wk ⟨rfl,hk4⟩
 have STk:=hid (ST.out.step hk4)
 clear ST hk4
 have cc:=cell_of STk.out.row 6 rfl
 have zz:=free_of STk.out.row 6
 have STn:=hid (STk.out.set 6 (.int .i64 gid))
 clear STk
 go_wp2_with fail
 generalize World.setCell wk ⟨w3.heap.size+1,6,none⟩ (.int .i64 gid)=wn at STn ⊢
 clear cc zz
 obtain⟨ST⟩:Nonempty (type_of% STn):=⟨STn⟩
 clear STn
 refine(modTime_any _ _ _).mono ?_
 rintro e wk ⟨rfl,rfl⟩
 go_wp2_with fail
 refine(numAt ST.out.bytes ST.out.lt 136 12 _ _ mt _ HH.out.n_mt rfl (by rw[HL.out];decide) (by decide) (by decide) (by decide)).mono ?_
 rintro e wk ⟨rfl,hk4⟩
 have STk:=hid (ST.out.step hk4)
 clear ST hk4
 go_wp2_with fail
 refine(unix_any _ mt HH.out.tmt.1 HH.out.tmt.2).mono ?_
 rintro e wj ⟨rfl,hk4⟩
 have ST:=hid (STk.out.step hk4)
 clear STk hk4
 have cc:=cell_of ST.out.row 9 rfl
 have zz:=free_of ST.out.row 9
 have cc2:=cell_of ST.out.row 10 rfl
 have zz2:=free_of ST.out.row 10
 have STn:=hid ((ST.out.set 9 (.int .u64 0)).set 10 (.int .i64 (mt+62135596800)))
 clear ST
 go_wp2_with fail
 generalize World.setCell (World.setCell wj ⟨w3.heap.size+1,9,none⟩ (.int .u64 0)) ⟨w3.heap.size+1,10,none⟩ (.int .i64 (mt+62135596800))=wn at STn ⊢
 clear cc zz cc2 zz2
 obtain⟨ST⟩:Nonempty (type_of% STn):=⟨STn⟩
 clear STn
 refine(toUSTAR_any _ _).mono ?_
 rintro e wk ⟨rfl,rfl⟩
 go_wp2_with fail
 refine(userName_any _ _ _).mono ?_
 rintro e wk ⟨rfl,rfl⟩
 go_wp2_with fail
 refine(strAt ST.out.bytes 265 32 _ _ _ rfl (by rw[HL.out];decide) (by decide) (by decide)).mono ?_
 rintro e wk ⟨rfl,rfl⟩
 have cc:=cell_of ST.out.row 7 rfl
 have zz:=free_of ST.out.row 7
 have STn:=hid (ST.out.set 7 (.string ⟨(textOf (fld l 265 32)).toArray⟩))
 go_wp2_with fail
 generalize World.setCell wk ⟨w3.heap.size+1,7,none⟩ (.string ⟨(textOf (fld l 265 32)).toArray⟩)=wn at STn ⊢
 clear cc zz ST
 obtain⟨ST⟩:Nonempty (type_of% STn):=⟨STn⟩
 clear STn
 refine(groupName_any _ _ _).mono ?_
 rintro e wk ⟨rfl,rfl⟩
 go_wp2_with fail
 refine(strAt ST.out.bytes 297 32 _ _ _ rfl (by rw[HL.out];decide) (by decide) (by decide)).mono ?_
 rintro e wk ⟨rfl,rfl⟩
 have cc:=cell_of ST.out.row 8 rfl
 have zz:=free_of ST.out.row 8
 have STn:=hid (ST.out.set 8 (.string ⟨(textOf (fld l 297 32)).toArray⟩))
 go_wp2_with fail
 generalize World.setCell wk ⟨w3.heap.size+1,8,none⟩ (.string ⟨(textOf (fld l 297 32)).toArray⟩)=wn at STn ⊢
 clear cc zz ST
 obtain⟨ST⟩:Nonempty (type_of% STn):=⟨STn⟩
 clear STn
 refine(devMajor_any _ _ _).mono ?_
 rintro e wk ⟨rfl,rfl⟩
 go_wp2_with fail
 refine(numAt ST.out.bytes ST.out.lt 329 8 _ _ maj _ HH.out.n_maj rfl (by rw[HL.out];decide) (by decide) (by decide) (by decide)).mono ?_
 rintro e wk ⟨rfl,hk4⟩
 have STk:=hid (ST.out.step hk4)
 clear ST hk4
 have cc:=cell_of STk.out.row 15 rfl
 have zz:=free_of STk.out.row 15
 have STn:=hid (STk.out.set 15 (.int .i64 maj))
 clear STk
 go_wp2_with fail
 generalize World.setCell wk ⟨w3.heap.size+1,15,none⟩ (.int .i64 maj)=wn at STn ⊢
 clear cc zz
 obtain⟨ST⟩:Nonempty (type_of% STn):=⟨STn⟩
 clear STn
 refine(devMinor_any _ _ _).mono ?_
 rintro e wk ⟨rfl,rfl⟩
 go_wp2_with fail
 refine(numAt ST.out.bytes ST.out.lt 337 8 _ _ min _ HH.out.n_min rfl (by rw[HL.out];decide) (by decide) (by decide) (by decide)).mono ?_
 rintro e wk ⟨rfl,hk4⟩
 have STk:=hid (ST.out.step hk4)
 clear ST hk4
 have cc:=cell_of STk.out.row 16 rfl
 have zz:=free_of STk.out.row 16
 have STn:=hid (STk.out.set 16 (.int .i64 min))
 clear STk
 go_wp2_with fail
 generalize World.setCell wk ⟨w3.heap.size+1,16,none⟩ (.int .i64 min)=wn at STn ⊢
 clear cc zz
 obtain⟨ST⟩:Nonempty (type_of% STn):=⟨STn⟩
 clear STn
 refine(has_any _ 6 6).mono ?_
 rintro e wk ⟨rfl,rfl⟩
 rw[show (bits .and .i64 6 6 != 0)=true from by decide]
 have cc:=cell_of ST.out.row 19 rfl
 have zz:=free_of ST.out.row 19
 have STn:=hid (ST.out.set 19 (.int .i64 6))
 clear ST
 go_wp2_with fail
 generalize World.setCell wk ⟨w3.heap.size+1,19,none⟩ (.int .i64 6)=wn at STn ⊢
 clear cc zz
 obtain⟨ST⟩:Nonempty (type_of% STn):=⟨STn⟩
 clear STn
 refine(toUSTAR_any _ _).mono ?_
 rintro e wk ⟨rfl,rfl⟩
 go_wp2_with fail
 refine(uPrefix_any _ _ _).mono ?_
 rintro e wk ⟨rfl,rfl⟩
 go_wp2_with fail
 refine(strAt ST.out.bytes 345 155 _ _ _ rfl (by rw[HL.out];decide) (by decide) (by decide)).mono ?_
 rintro e wk ⟨rfl,rfl⟩
 have ST1:RhSt w2 R l w3.heap.size (w3.heap.size+1) (hdRow tf.toNat (textOf (fld l 0 100)) (textOf (fld l 157 100)) size mode uid gid (textOf (fld l 265 32)) (textOf (fld l 297 32)) mt 0 0 0 0 maj min 6) wk:=ST.out
 have STh:=hid ST1
 clear ST ST1
 go_upto_if 185 with fail
 refine(indexAt STh.out.bytes STh.out.lt HL.out (Utf8Tabs.keep HI2.out.tabs STh.out.kp (fun h=>h) (fun h=>h))).mono ?_
 rintro e wk ⟨⟨i,rfl⟩,hk⟩
 have STi:=hid (STh.out.step hk)
 clear STh hk
 go_upto_if 185 with fail
 go_cut [] from 179 to 188 (fun wx=>Hid (∃f2:Int,RhSt w2 R l w3.heap.size (w3.heap.size+1) (hdRow tf.toNat (textOf (fld l 0 100)) (textOf (fld l 157 100)) size mode uid gid (textOf (fld l 265 32)) (textOf (fld l 297 32)) mt 0 0 0 0 maj min f2) wx))
 case first=>
  have ST:=STi.out
  have cc:=cell_of ST.row 19 rfl
  have zz:=free_of ST.row 19
  by_cases hi:0≤i
  ·go_wp2_with fail
   go_meet
   case rel=>exact show _ from⟨_,ST.set 19 (.int .i64 0)⟩
  ·go_wp2_with fail
   go_meet
   case rel=>exact show _ from⟨_,ST⟩
 case rest=>
  clear STi
  go_upto_region 40 with fail
  go_cut [229] from 189 to 229 (fun s9 wx=>(∃t:Bool,s9=.bool t)∧Hid (∃f2:Int,RhSt w2 R l w3.heap.size (w3.heap.size+1) (hdRow tf.toNat (textOf (fld l 0 100)) (textOf (fld l 157 100)) size mode uid gid (textOf (fld l 265 32)) (textOf (fld l 297 32)) mt 0 0 0 0 maj min f2) wx))
  case first=>
   obtain⟨f2,ST⟩:=hcut.out
   go_wp2_with fail
   refine(size_any _ _ _).mono ?_
   rintro e wk ⟨rfl,rfl⟩
   go_wp2_with fail
   refine(nulAt ST.bytes HL.out 124 11 _ _ rfl (by decide) (by decide) (by decide)).mono ?_
   rintro e wk ⟨⟨t,rfl⟩,rfl⟩
   cases t
   ·go_wp2_with fail
    go_meet
    case rel=>exact⟨⟨_,rfl⟩,show _ from⟨_,ST⟩⟩
   ·skip
    go_wp2_with fail
    refine(mode_any _ _ _).mono ?_
    rintro e wk ⟨rfl,rfl⟩
    go_wp2_with fail
    refine(nulAt ST.bytes HL.out 100 7 _ _ rfl (by decide) (by decide) (by decide)).mono ?_
    rintro e wk ⟨⟨t,rfl⟩,rfl⟩
    cases t
    ·go_wp2_with fail
     go_meet
     case rel=>exact⟨⟨_,rfl⟩,show _ from⟨_,ST⟩⟩
    ·skip
     go_wp2_with fail
     refine(uid_any _ _ _).mono ?_
     rintro e wk ⟨rfl,rfl⟩
     go_wp2_with fail
     refine(nulAt ST.bytes HL.out 108 7 _ _ rfl (by decide) (by decide) (by decide)).mono ?_
     rintro e wk ⟨⟨t,rfl⟩,rfl⟩
     cases t
     ·go_wp2_with fail
      go_meet
      case rel=>exact⟨⟨_,rfl⟩,show _ from⟨_,ST⟩⟩
     ·skip
      go_wp2_with fail
      refine(gid_any _ _ _).mono ?_
      rintro e wk ⟨rfl,rfl⟩
      go_wp2_with fail
      refine(nulAt ST.bytes HL.out 116 7 _ _ rfl (by decide) (by decide) (by decide)).mono ?_
      rintro e wk ⟨⟨t,rfl⟩,rfl⟩
      cases t
      ·go_wp2_with fail
       go_meet
       case rel=>exact⟨⟨_,rfl⟩,show _ from⟨_,ST⟩⟩
      ·skip
       go_wp2_with fail
       refine(modTime_any _ _ _).mono ?_
       rintro e wk ⟨rfl,rfl⟩
       go_wp2_with fail
       refine(nulAt ST.bytes HL.out 136 11 _ _ rfl (by decide) (by decide) (by decide)).mono ?_
       rintro e wk ⟨⟨t,rfl⟩,rfl⟩
       cases t
       ·go_wp2_with fail
        go_meet
        case rel=>exact⟨⟨_,rfl⟩,show _ from⟨_,ST⟩⟩
       ·skip
        go_wp2_with fail
        refine(devMajor_any _ _ _).mono ?_
        rintro e wk ⟨rfl,rfl⟩
        go_wp2_with fail
        refine(nulAt ST.bytes HL.out 329 7 _ _ rfl (by decide) (by decide) (by decide)).mono ?_
        rintro e wk ⟨⟨t,rfl⟩,rfl⟩
        cases t
        ·go_wp2_with fail
         go_meet
         case rel=>exact⟨⟨_,rfl⟩,show _ from⟨_,ST⟩⟩
        ·skip
         go_wp2_with fail
         refine(devMinor_any _ _ _).mono ?_
         rintro e wk ⟨rfl,rfl⟩
         go_wp2_with fail
         refine(nulAt ST.bytes HL.out 337 7 _ _ rfl (by decide) (by decide) (by decide)).mono ?_
         rintro e wk ⟨⟨t,rfl⟩,rfl⟩
         cases t
         ·go_wp2_with fail
          go_meet
          case rel=>exact⟨⟨_,rfl⟩,show _ from⟨_,ST⟩⟩
         ·go_wp2_with fail
          go_meet
          case rel=>exact⟨⟨_,rfl⟩,show _ from⟨_,ST⟩⟩
  case rest=>
   obtain⟨⟨t,rfl⟩,hcut⟩:=hcut
   obtain⟨f2,ST⟩:=hcut.out
   have STh:=hid ST
   have cc:=cell_of ST.row 19 rfl
   have zz:=free_of ST.row 19
   clear ST hcut
   obtain⟨pre,hpre⟩:∃x,textOf (fld l 345 155)=x:=⟨_,rfl⟩
   obtain⟨nm,hnm⟩:∃x,textOf (fld l 0 100)=x:=⟨_,rfl⟩
   have hpl:pre.length≤155:=by rw[←hpre];exact Nat.le_trans (textOf_le _) (by rw[fld_len l 345 155 (by rw[HL.out];decide)];decide)
   have hnl:nm.length≤100:=by rw[←hnm];exact Nat.le_trans (textOf_le _) (by rw[fld_len l 0 100 (by rw[HL.out];decide)];decide)
   rw[hpre,hnm]
   rw[hnm] at STh
   have HPre:=hid hpre
   have HNm:=hid hnm
   clear hpre hnm
   cases t
   ·have ST:=STh
    clear cc zz STh
    have ck:wc.cell? ⟨w3.heap.size+1,1,none⟩=some (.string ⟨nm.toArray⟩):=cell_of ST.out.row 1 rfl
    have zk:=free_of ST.out.row 1
    have pk:=ST.out.par
    by_cases hp:0<pre.length
    ·have s1:(⟨pre.toArray⟩:ByteArray).size≤155:=hpl
     have s2:(⟨nm.toArray⟩:ByteArray).size≤100:=hnl
     have s3:((⟨pre.toArray⟩:ByteArray)++⟨#[47]⟩).size≤156:=by rw[ByteArray.size_append];exact Nat.add_le_add s1 (Nat.le_refl _)
     go_wp2_with fail
     go_quiet (fail)
     go_wp2_with fail
     refine bodyPost_ret (results_tmp3 rfl _ _ _) rfl ?_
     rw[HPre.out,HNm.out]
     refine RhSt.good (f:=f2) hR HK1.out HI2.out (ST.out.set 1 (.string (⟨pre.toArray⟩++⟨#[47]⟩++⟨nm.toArray⟩))) ?_ _
     rw[joined_pos hp,hdRow,hdRow,←name_join]
     rfl
    ·go_wp2_with fail
     go_quiet (fail)
     go_wp2_with fail
     refine bodyPost_ret (results_tmp3 rfl _ _ _) rfl ?_
     rw[HPre.out,HNm.out]
     refine RhSt.good (f:=f2) hR HK1.out HI2.out ST.out ?_ _
     rw[joined_nil hp]
   ·go_upto_if 318 with fail
    have STn:=hid (STh.out.set 19 (.int .i64 0))
    generalize World.setCell wc ⟨w3.heap.size+1,19,none⟩ (.int .i64 0)=wd at STn ⊢
    have ST:Hid (RhSt w2 R l w3.heap.size (w3.heap.size+1) (hdRow tf.toNat nm (textOf (fld l 157 100)) size mode uid gid (textOf (fld l 265 32)) (textOf (fld l 297 32)) mt 0 0 0 0 maj min 0) wd):=STn
    clear cc zz STh STn
    have ck:wd.cell? ⟨w3.heap.size+1,1,none⟩=some (.string ⟨nm.toArray⟩):=cell_of ST.out.row 1 rfl
    have zk:=free_of ST.out.row 1
    have pk:=ST.out.par
    by_cases hp:0<pre.length
    ·have s1:(⟨pre.toArray⟩:ByteArray).size≤155:=hpl
     have s2:(⟨nm.toArray⟩:ByteArray).size≤100:=hnl
     have s3:((⟨pre.toArray⟩:ByteArray)++⟨#[47]⟩).size≤156:=by rw[ByteArray.size_append];exact Nat.add_le_add s1 (Nat.le_refl _)
     go_wp2_with fail
     go_quiet (fail)
     go_wp2_with fail
     refine bodyPost_ret (results_tmp3 rfl _ _ _) rfl ?_
     rw[HPre.out,HNm.out]
     refine RhSt.good (f:=0) hR HK1.out HI2.out (ST.out.set 1 (.string (⟨pre.toArray⟩++⟨#[47]⟩++⟨nm.toArray⟩))) ?_ _
     rw[joined_pos hp,hdRow,hdRow,←name_join]
     rfl
    ·go_wp2_with fail
     go_quiet (fail)
     go_wp2_with fail
     refine bodyPost_ret (results_tmp3 rfl _ _ _) rfl ?_
     rw[HPre.out,HNm.out]
     refine RhSt.good (f:=0) hR HK1.out HI2.out ST.out ?_ _
     rw[joined_nil hp]
end Go.Proofs.YtgfcnjfmmjcodaaGreatDoor
