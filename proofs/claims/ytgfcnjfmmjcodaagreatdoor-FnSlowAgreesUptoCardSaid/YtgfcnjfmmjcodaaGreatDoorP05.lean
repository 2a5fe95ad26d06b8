/- DecodeRune. -/
import Derived.Shelf.Unicode.DecodeSlow
import Derived.Outline
import Derived.Deep.RegionWith
import Derived.Deep.CutRange
import Derived.Test.YtgfcnjfmmjcodaaGreatDoorP04
set_option linter.all false
set_option maxRecDepth 100000
set_option maxHeartbeats 1000000
open Go.Lib (hid)
namespace Go.Proofs.YtgfcnjfmmjcodaaGreatDoor
open Go.RowKit
def SomeRune (n:Nat)(e:Ending):Prop:=∃(r k:Int),e=.returned (.tuple #[.int .i32 r, .int .i64 k])∧1≤k∧k≤n
theorem SomeRune.mk {n:Nat}{e:Ending}(r k:Int)(h:e=.returned (.tuple #[.int .i32 r, .int .i64 k]))(h1:1≤k)(h2:k≤n):SomeRune n e:=⟨r,k,h,h1,h2⟩
set_option maxHeartbeats 4000000 in
set_option maxRecDepth 1000000 in
theorem Lr (w:World)(b off c:Nat)(l:List UInt8)(hb:BytesAt w b off l)(hlt:b<w.heap.size)(hl:1≤l.length)(hc:l.length≤c)(hcm:c≤281474976710656)(hT:Lib.Utf8Tabs 14 15 w) :
  Calls Tryz.prog 332 #[.slice (some ⟨b,off,none⟩) l.length c] w fun e w'=>SomeRune l.length e∧Kp (fun _=>False) w w':=by
 obtain⟨x0,hx0⟩:∃x:UInt8,w.cell? ⟨b,off,none⟩=some (.int .u8 (x.toNat:Int)):=⟨_,hb.get 0 (by omega)⟩
 have l0:=x0.toNat_lt;have hc0:=hT.1 x0.toNat (by omega)
 have hnot:¬((l.length:Int)<1):=by omega
 rcases Lib.firstT_cases x0.toNat with hX|hX|hX|hX|hX|hX|hX|hX|hX
 ·rw[hX] at hc0;clear hT hX hb;go_enter Tryz.func332,Tryz.ntmps332
  go_wp2_with fail
  go_ret2
  exact⟨SomeRune.mk _ 1 rfl (by omega) (by omega),(Kp.refl _ _)⟩
 ·rw[hX] at hc0;clear hT hX hb;go_enter Tryz.func332,Tryz.ntmps332
  go_wp2_with fail
  go_ret2
  exact⟨SomeRune.mk _ 1 rfl (by omega) (by omega),(Kp.refl _ _)⟩
 ·rw[hX] at hc0;have ha0:=(hT.2 0 (by omega)).1
  have ha1:=(hT.2 0 (by omega)).2
  simp only[Lib.accLo,Lib.accHi,Nat.reduceMul,Nat.reduceAdd,Nat.reduceEqDiff,if_true,if_false,Nat.reduceMod,Nat.reduceDiv] at ha0 ha1;clear hT hX;by_cases hn:l.length<2
  ·(have hnz:(l.length:Int)<2:=by omega);clear hb;(go_enter Tryz.func332,Tryz.ntmps332);(go_wp2_with fail);(go_ret2);exact⟨SomeRune.mk _ 1 rfl (by omega) (by omega),((Kp.refl _ _).alloc _)⟩
  ·(obtain⟨x1,hx1⟩:∃x:UInt8,w.cell? ⟨b,off+1,none⟩=some (.int .u8 (x.toNat:Int)):=⟨_,hb.get 1 (by omega)⟩);have l1:=x1.toNat_lt;(have hz1:(1:Int)<(l.length:Int):=by omega);(have hnz:¬((l.length:Int)<2):=by omega);clear hb;(go_enter Tryz.func332,Tryz.ntmps332);(go_wp2_with fail);all_goals (go_ret2;first|exact⟨SomeRune.mk _ 1 rfl (by omega) (by omega),((Kp.refl _ _).alloc _)⟩|exact⟨SomeRune.mk _ 2 rfl (by omega) (by omega),((Kp.refl _ _).alloc _)⟩|exact⟨SomeRune.mk _ 2 rfl (by omega) (by omega),((Kp.refl _ _).alloc _)⟩|exact⟨SomeRune.mk _ 3 rfl (by omega) (by omega),((Kp.refl _ _).alloc _)⟩)
 ·rw[hX] at hc0;have ha0:=(hT.2 1 (by omega)).1
  have ha1:=(hT.2 1 (by omega)).2
  simp only[Lib.accLo,Lib.accHi,Nat.reduceMul,Nat.reduceAdd,Nat.reduceEqDiff,if_true,if_false,Nat.reduceMod,Nat.reduceDiv] at ha0 ha1;clear hT hX;by_cases hn:l.length<3
  ·(have hnz:(l.length:Int)<3:=by omega);clear hb;(go_enter Tryz.func332,Tryz.ntmps332);(go_wp2_with fail);(go_ret2);exact⟨SomeRune.mk _ 1 rfl (by omega) (by omega),((Kp.refl _ _).alloc _)⟩
  ·(obtain⟨x1,hx1⟩:∃x:UInt8,w.cell? ⟨b,off+1,none⟩=some (.int .u8 (x.toNat:Int)):=⟨_,hb.get 1 (by omega)⟩);have l1:=x1.toNat_lt;(have hz1:(1:Int)<(l.length:Int):=by omega);(obtain⟨x2,hx2⟩:∃x:UInt8,w.cell? ⟨b,off+2,none⟩=some (.int .u8 (x.toNat:Int)):=⟨_,hb.get 2 (by omega)⟩);have l2:=x2.toNat_lt;(have hz2:(2:Int)<(l.length:Int):=by omega);(have hnz:¬((l.length:Int)<3):=by omega);clear hb;(go_enter Tryz.func332,Tryz.ntmps332);(go_wp2_with fail);all_goals (go_ret2;first|exact⟨SomeRune.mk _ 1 rfl (by omega) (by omega),((Kp.refl _ _).alloc _)⟩|exact⟨SomeRune.mk _ 3 rfl (by omega) (by omega),((Kp.refl _ _).alloc _)⟩|exact⟨SomeRune.mk _ 2 rfl (by omega) (by omega),((Kp.refl _ _).alloc _)⟩|exact⟨SomeRune.mk _ 3 rfl (by omega) (by omega),((Kp.refl _ _).alloc _)⟩)
 ·rw[hX] at hc0;have ha0:=(hT.2 0 (by omega)).1
  have ha1:=(hT.2 0 (by omega)).2
  simp only[Lib.accLo,Lib.accHi,Nat.reduceMul,Nat.reduceAdd,Nat.reduceEqDiff,if_true,if_false,Nat.reduceMod,Nat.reduceDiv] at ha0 ha1;clear hT hX;by_cases hn:l.length<3
  ·(have hnz:(l.length:Int)<3:=by omega);clear hb;(go_enter Tryz.func332,Tryz.ntmps332);(go_wp2_with fail);(go_ret2);exact⟨SomeRune.mk _ 1 rfl (by omega) (by omega),((Kp.refl _ _).alloc _)⟩
  ·(obtain⟨x1,hx1⟩:∃x:UInt8,w.cell? ⟨b,off+1,none⟩=some (.int .u8 (x.toNat:Int)):=⟨_,hb.get 1 (by omega)⟩);have l1:=x1.toNat_lt;(have hz1:(1:Int)<(l.length:Int):=by omega);(obtain⟨x2,hx2⟩:∃x:UInt8,w.cell? ⟨b,off+2,none⟩=some (.int .u8 (x.toNat:Int)):=⟨_,hb.get 2 (by omega)⟩);have l2:=x2.toNat_lt;(have hz2:(2:Int)<(l.length:Int):=by omega);(have hnz:¬((l.length:Int)<3):=by omega);clear hb;(go_enter Tryz.func332,Tryz.ntmps332);(go_wp2_with fail);all_goals (go_ret2;first|exact⟨SomeRune.mk _ 1 rfl (by omega) (by omega),((Kp.refl _ _).alloc _)⟩|exact⟨SomeRune.mk _ 3 rfl (by omega) (by omega),((Kp.refl _ _).alloc _)⟩|exact⟨SomeRune.mk _ 2 rfl (by omega) (by omega),((Kp.refl _ _).alloc _)⟩|exact⟨SomeRune.mk _ 3 rfl (by omega) (by omega),((Kp.refl _ _).alloc _)⟩)
 ·rw[hX] at hc0;have ha0:=(hT.2 2 (by omega)).1
  have ha1:=(hT.2 2 (by omega)).2
  simp only[Lib.accLo,Lib.accHi,Nat.reduceMul,Nat.reduceAdd,Nat.reduceEqDiff,if_true,if_false,Nat.reduceMod,Nat.reduceDiv] at ha0 ha1;clear hT hX;by_cases hn:l.length<3
  ·(have hnz:(l.length:Int)<3:=by omega);clear hb;(go_enter Tryz.func332,Tryz.ntmps332);(go_wp2_with fail);(go_ret2);exact⟨SomeRune.mk _ 1 rfl (by omega) (by omega),((Kp.refl _ _).alloc _)⟩
  ·(obtain⟨x1,hx1⟩:∃x:UInt8,w.cell? ⟨b,off+1,none⟩=some (.int .u8 (x.toNat:Int)):=⟨_,hb.get 1 (by omega)⟩);have l1:=x1.toNat_lt;(have hz1:(1:Int)<(l.length:Int):=by omega);(obtain⟨x2,hx2⟩:∃x:UInt8,w.cell? ⟨b,off+2,none⟩=some (.int .u8 (x.toNat:Int)):=⟨_,hb.get 2 (by omega)⟩);have l2:=x2.toNat_lt;(have hz2:(2:Int)<(l.length:Int):=by omega);(have hnz:¬((l.length:Int)<3):=by omega);clear hb;(go_enter Tryz.func332,Tryz.ntmps332);(go_wp2_with fail);all_goals (go_ret2;first|exact⟨SomeRune.mk _ 1 rfl (by omega) (by omega),((Kp.refl _ _).alloc _)⟩|exact⟨SomeRune.mk _ 3 rfl (by omega) (by omega),((Kp.refl _ _).alloc _)⟩|exact⟨SomeRune.mk _ 2 rfl (by omega) (by omega),((Kp.refl _ _).alloc _)⟩|exact⟨SomeRune.mk _ 3 rfl (by omega) (by omega),((Kp.refl _ _).alloc _)⟩)
 ·rw[hX] at hc0;have ha0:=(hT.2 3 (by omega)).1
  have ha1:=(hT.2 3 (by omega)).2
  simp only[Lib.accLo,Lib.accHi,Nat.reduceMul,Nat.reduceAdd,Nat.reduceEqDiff,if_true,if_false,Nat.reduceMod,Nat.reduceDiv] at ha0 ha1;clear hT hX;by_cases hn:l.length<4
  ·(have hnz:(l.length:Int)<4:=by omega);clear hb;(go_enter Tryz.func332,Tryz.ntmps332);(go_wp2_with fail);(go_ret2);exact⟨SomeRune.mk _ 1 rfl (by omega) (by omega),((Kp.refl _ _).alloc _)⟩
  ·(obtain⟨x1,hx1⟩:∃x:UInt8,w.cell? ⟨b,off+1,none⟩=some (.int .u8 (x.toNat:Int)):=⟨_,hb.get 1 (by omega)⟩);have l1:=x1.toNat_lt;(have hz1:(1:Int)<(l.length:Int):=by omega);(obtain⟨x2,hx2⟩:∃x:UInt8,w.cell? ⟨b,off+2,none⟩=some (.int .u8 (x.toNat:Int)):=⟨_,hb.get 2 (by omega)⟩);have l2:=x2.toNat_lt;(have hz2:(2:Int)<(l.length:Int):=by omega);(obtain⟨x3,hx3⟩:∃x:UInt8,w.cell? ⟨b,off+3,none⟩=some (.int .u8 (x.toNat:Int)):=⟨_,hb.get 3 (by omega)⟩);have l3:=x3.toNat_lt;(have hz3:(3:Int)<(l.length:Int):=by omega);(have hnz:¬((l.length:Int)<4):=by omega);clear hb;(go_enter Tryz.func332,Tryz.ntmps332);(go_wp2_with fail);all_goals (go_ret2;first|exact⟨SomeRune.mk _ 1 rfl (by omega) (by omega),((Kp.refl _ _).alloc _)⟩|exact⟨SomeRune.mk _ 4 rfl (by omega) (by omega),((Kp.refl _ _).alloc _)⟩|exact⟨SomeRune.mk _ 2 rfl (by omega) (by omega),((Kp.refl _ _).alloc _)⟩|exact⟨SomeRune.mk _ 3 rfl (by omega) (by omega),((Kp.refl _ _).alloc _)⟩)
 ·rw[hX] at hc0;have ha0:=(hT.2 0 (by omega)).1
  have ha1:=(hT.2 0 (by omega)).2
  simp only[Lib.accLo,Lib.accHi,Nat.reduceMul,Nat.reduceAdd,Nat.reduceEqDiff,if_true,if_false,Nat.reduceMod,Nat.reduceDiv] at ha0 ha1;clear hT hX;by_cases hn:l.length<4
  ·(have hnz:(l.length:Int)<4:=by omega);clear hb;(go_enter Tryz.func332,Tryz.ntmps332);(go_wp2_with fail);(go_ret2);exact⟨SomeRune.mk _ 1 rfl (by omega) (by omega),((Kp.refl _ _).alloc _)⟩
  ·(obtain⟨x1,hx1⟩:∃x:UInt8,w.cell? ⟨b,off+1,none⟩=some (.int .u8 (x.toNat:Int)):=⟨_,hb.get 1 (by omega)⟩);have l1:=x1.toNat_lt;(have hz1:(1:Int)<(l.length:Int):=by omega);(obtain⟨x2,hx2⟩:∃x:UInt8,w.cell? ⟨b,off+2,none⟩=some (.int .u8 (x.toNat:Int)):=⟨_,hb.get 2 (by omega)⟩);have l2:=x2.toNat_lt;(have hz2:(2:Int)<(l.length:Int):=by omega);(obtain⟨x3,hx3⟩:∃x:UInt8,w.cell? ⟨b,off+3,none⟩=some (.int .u8 (x.toNat:Int)):=⟨_,hb.get 3 (by omega)⟩);have l3:=x3.toNat_lt;(have hz3:(3:Int)<(l.length:Int):=by omega);(have hnz:¬((l.length:Int)<4):=by omega);clear hb;(go_enter Tryz.func332,Tryz.ntmps332);(go_wp2_with fail);all_goals (go_ret2;first|exact⟨SomeRune.mk _ 1 rfl (by omega) (by omega),((Kp.refl _ _).alloc _)⟩|exact⟨SomeRune.mk _ 4 rfl (by omega) (by omega),((Kp.refl _ _).alloc _)⟩|exact⟨SomeRune.mk _ 2 rfl (by omega) (by omega),((Kp.refl _ _).alloc _)⟩|exact⟨SomeRune.mk _ 3 rfl (by omega) (by omega),((Kp.refl _ _).alloc _)⟩)
 ·rw[hX] at hc0;have ha0:=(hT.2 4 (by omega)).1
  have ha1:=(hT.2 4 (by omega)).2
  simp only[Lib.accLo,Lib.accHi,Nat.reduceMul,Nat.reduceAdd,Nat.reduceEqDiff,if_true,if_false,Nat.reduceMod,Nat.reduceDiv] at ha0 ha1;clear hT hX;by_cases hn:l.length<4
  ·(have hnz:(l.length:Int)<4:=by omega);clear hb;(go_enter Tryz.func332,Tryz.ntmps332);(go_wp2_with fail);(go_ret2);exact⟨SomeRune.mk _ 1 rfl (by omega) (by omega),((Kp.refl _ _).alloc _)⟩
  ·(obtain⟨x1,hx1⟩:∃x:UInt8,w.cell? ⟨b,off+1,none⟩=some (.int .u8 (x.toNat:Int)):=⟨_,hb.get 1 (by omega)⟩);have l1:=x1.toNat_lt;(have hz1:(1:Int)<(l.length:Int):=by omega);(obtain⟨x2,hx2⟩:∃x:UInt8,w.cell? ⟨b,off+2,none⟩=some (.int .u8 (x.toNat:Int)):=⟨_,hb.get 2 (by omega)⟩);have l2:=x2.toNat_lt;(have hz2:(2:Int)<(l.length:Int):=by omega);(obtain⟨x3,hx3⟩:∃x:UInt8,w.cell? ⟨b,off+3,none⟩=some (.int .u8 (x.toNat:Int)):=⟨_,hb.get 3 (by omega)⟩);have l3:=x3.toNat_lt;(have hz3:(3:Int)<(l.length:Int):=by omega);(have hnz:¬((l.length:Int)<4):=by omega);clear hb;(go_enter Tryz.func332,Tryz.ntmps332);(go_wp2_with fail);all_goals (go_ret2;first|exact⟨SomeRune.mk _ 1 rfl (by omega) (by omega),((Kp.refl _ _).alloc _)⟩|exact⟨SomeRune.mk _ 4 rfl (by omega) (by omega),((Kp.refl _ _).alloc _)⟩|exact⟨SomeRune.mk _ 2 rfl (by omega) (by omega),((Kp.refl _ _).alloc _)⟩|exact⟨SomeRune.mk _ 3 rfl (by omega) (by omega),((Kp.refl _ _).alloc _)⟩)
theorem Ls (w:World)(b off c:Nat)(l:List UInt8)(hb:BytesAt w b off l)(hlt:b<w.heap.size)(hl:1≤l.length)(hc:l.length≤c)(hcm:c≤281474976710656)(hT:Lib.Utf8Tabs 14 15 w) :
  Calls Tryz.prog 295 #[.slice (some ⟨b,off,none⟩) l.length c] w fun e w'=>SomeRune l.length e∧Kp (fun _=>False) w w':=by
 have H:=hid (Lr w b off c l hb hlt hl hc hcm hT);obtain⟨x0,hx0⟩:∃x:UInt8,w.cell? ⟨b,off,none⟩=some (.int .u8 (x.toNat:Int)):=⟨_,hb.get 0 (by omega)⟩
 have l0:=x0.toNat_lt;clear hb hT;by_cases hx:x0.toNat<128
 ·go_enter Tryz.func295,Tryz.ntmps295
  go_wp2_with fail
  go_loop [8] (fun k=>k=.int .i64 0) (fun _=>1)
  case atStart=>rfl
  case round=>
   subst hrel;(go_wp2_with fail);(go_ret2);exact⟨SomeRune.mk _ 1 rfl (by omega) (by omega),Kp.refl _ _⟩
 ·go_enter Tryz.func295,Tryz.ntmps295
  go_wp2_with fail
  go_loop [8] (fun k=>k=.int .i64 0) (fun _=>1)
  case atStart=>rfl
  case round=>
   subst hrel;(go_wp2_with fail);refine H.out.mono ?_;rintro e w1 ⟨⟨r,k,rfl,h1,h2⟩,hk1⟩;(go_wp2_with fail);(go_ret2);exact⟨SomeRune.mk _ k rfl h1 h2,hk1⟩
theorem Jv (w:World)(f g:Int) :
  Calls Tryz.prog 111 #[.int .i64 f, .int .i64 g] w fun e w'=>e=.returned (.bool (bits .and .i64 f g != 0))∧w'=w:=by
 go_enter Tryz.func111,Tryz.ntmps111
 go_wp2_with fail
 go_ret
 exact⟨rfl,rfl⟩
theorem Rp (w:World)(s:Int)(h0: -100000000000000001≤s)(h1:s≤100000000000000001) :
  Calls Tryz.prog 197 #[.int .i64 s, .int .i32 0] w fun e w'=>e=.returned (.agg #[.int .u64 0, .int .i64 (s+62135596800)])∧Kp (fun _=>False) w w':=by
 go_enter Tryz.func197,Tryz.ntmps197
 go_wp2_with fail
 exact bodyPost_ret (results_cell_row rfl _ _ w.heap.size 163 #[.int .u64 0, .int .i64 (s+62135596800)] (0,0) _ rfl (Ba _ _) Tryz.underlying163 rfl (by kernel_rfl)) rfl ⟨rfl,(Kp.refl _ _).alloc _⟩
theorem Hs (w:World)(s:Int)(h0: -100000000000000001≤s)(h1:s≤100000000000000001) :
  Calls Tryz.prog 115 #[.int .i64 s, .int .i64 0] w fun e w'=>e=.returned (.agg #[.int .u64 0, .int .i64 (s+62135596800)])∧Kp (fun _=>False) w w':=by
 go_enter Tryz.func115,Tryz.ntmps115
 go_wp2_with fail
 refine(Rp _ s h0 h1).mono ?_;rintro e w1 ⟨rfl,hk1⟩;have hr:w1.heap[w.heap.size]?=some (.cells #[.int .u64 0, .int .i64 0] 163 (0,0)):=hk1.heap (Ba _ _) (fun h=>h);have c0:=cell_of hr 0 rfl;have c1:=cell_of hr 1 rfl;have z0:=Bb hr 0;have z1:=Bb hr 1;have HR:=hid hr;clear hr;go_wp2_with fail
 have hn:w.heap.size≤w.heap.size:=Nat.le_refl _;have hk:Kp (fun _=>False) w w1:=((Kp.refl _ _).alloc _).trans hk1;exact bodyPost_ret (results_cell_row rfl _ _ w.heap.size 163 #[.int .u64 0, .int .i64 (s+62135596800)] (0,0) _ rfl (heap_set (heap_set HR.out 0 _) 1 _) Tryz.underlying163 rfl (by kernel_rfl)) rfl ⟨rfl,(hk.setCell (.inr hn) _).setCell (.inr hn) _⟩
def Is:Value:=.func (.func 207) #[] #[]
theorem Rq (w:World)(r:Int) :
  Calls Tryz.prog 207 #[.int .i32 r] w fun e w'=>(∃t:Bool,e=.returned (.bool t))∧w'=w:=by
 go_enter Tryz.func207,Tryz.ntmps207
 go_wp2_with fail
 go_ret
 exact⟨⟨_,rfl⟩,rfl⟩
theorem BytesAt.drop {w:World}{b off:Nat}{l:List UInt8}(h:BytesAt w b off l)(j:Nat)(hj:j≤l.length):BytesAt w b (off+j) (l.drop j):=by
 have h1:=h;rw[←List.take_append_drop j l] at h1;have h2:=h1.right;rwa[List.length_take,Nat.min_eq_left hj] at h2
theorem Utf8Tabs.keep {w w':World}{g h:Nat}{S:Nat→Prop}(H:Lib.Utf8Tabs g h w)(k:Kp S w w')(hg:¬S g)(hh:¬S h):Lib.Utf8Tabs g h w':=
 ⟨fun c hc=>k.cell (H.1 c hc) hg,fun i hi=>⟨k.cell (H.2 i hi).1 hh,k.cell (H.2 i hi).2 hh⟩⟩
theorem Mn (w:World)(b off c:Nat)(l:List UInt8)(hb:BytesAt w b off l)(hlt:b<w.heap.size)(hc:l.length≤c)(hcm:c≤281474976710656)(hT:Lib.Utf8Tabs 14 15 w) :
  Calls Tryz.prog 258 #[.slice (some ⟨b,off,none⟩) l.length c,Is, .bool true] w fun e w'=>(∃i:Int,e=.returned (.int .i64 i))∧Kp (fun _=>False) w w':=by
 have hD:∀(wr:World) (j:Nat),j<l.length→Kp (fun _=>False) w wr→Calls Tryz.prog 295 #[.slice (some ⟨b,off+j,none⟩) (l.length-j) (c-j)] wr fun e w'=>SomeRune (l.length-j) e∧Kp (fun _=>False) wr w':=fun wr j hj hk=>by
  have:=Ls wr b (off+j) (c-j) (l.drop j) ((hb.drop j (by omega)).keep hk (fun h=>h)) (by have:=hk.size;omega) (by simp;omega) (by simp;omega) (by omega) (Utf8Tabs.keep hT hk (fun h=>h) (fun h=>h))
  simpa using this
 have HD:=hid hD;clear hD hb hT;unfold Is;go_enter Tryz.func258,Tryz.ntmps258
 go_wp2_with fail
 go_loopw [7] (fun s wr=>∃j:Nat,s=.int .i64 j∧j≤l.length∧Kp (fun _=>False) w wr) (fun s _=>l.length-(intOf s).toNat)
 case atStart=>exact⟨0,rfl,by omega,Kp.refl _ _⟩
 case round=>
  obtain⟨j,rfl,hj,hkp⟩:=hrel;by_cases hjl:j<l.length
  ·(have hjc:j<c:=by omega);(go_wp2_with fail);refine(HD.out wr j hjl hkp).mono ?_;rintro e w1 ⟨⟨r,k,rfl,hk0,hk1⟩,hkw⟩;(go_wp2_with fail);refine(Rq w1 r).mono ?_;rintro e w2 ⟨⟨t,rfl⟩,rfl⟩;have hkw2:=hkp.trans hkw;cases t
   ·(have hjk:(j:Int)+k≤281474976710656:=by omega);(have hjk0:0≤(j:Int)+k:=by omega);(go_wp2_with fail);go_roundw
    case rel=>exact⟨j+k.toNat,by congr 1;omega,by omega,hkw2⟩
    case measure=>simp[intOf];omega
   ·(go_wp2_with fail);(go_ret);exact⟨⟨_,rfl⟩,hkw2⟩
  ·(go_wp2_with fail);(go_ret);exact⟨⟨_,rfl⟩,hkp⟩
theorem Mo (w:World)(b off c:Nat)(l:List UInt8)(hb:BytesAt w b off l)(hlt:b<w.heap.size)(hc:l.length≤c)(hcm:c≤281474976710656)(hT:Lib.Utf8Tabs 14 15 w) :
  Calls Tryz.prog 208 #[.slice (some ⟨b,off,none⟩) l.length c,Is] w fun e w'=>(∃i:Int,e=.returned (.int .i64 i))∧Kp (fun _=>False) w w':=by
 have H:=hid (Mn w b off c l hb hlt hc hcm hT);clear hb hT;go_enter Tryz.func208,Tryz.ntmps208
 go_wp2_with fail
 refine H.out.mono ?_;rintro e w1 ⟨⟨i,rfl⟩,hk⟩;go_wp2_with fail
 go_ret
 exact⟨⟨_,rfl⟩,hk⟩
theorem Bdo (w:World)(b off c n:Nat)(x:UInt8)(hx:w.cell? ⟨b,off+n,none⟩=some (.int .u8 (x.toNat:Int)))(hn:n+1≤c)(hcm:c≤281474976710656) :
  Calls Tryz.prog 209 #[.slice (some ⟨b,off,none⟩) (n+1) c] w fun e w'=>(∃t:Bool,e=.returned (.bool t))∧w'=w:=by
 have hx0:=x.toNat_lt;go_enter Tryz.func209,Tryz.ntmps209
 go_wp2_with fail
 go_ret
 exact⟨⟨_,rfl⟩,rfl⟩
theorem Zt (w:World)(b1 o1 c1 b2 o2 c2:Nat)(l1 l2:List UInt8)(h1:BytesAt w b1 o1 l1)(h2:BytesAt w b2 o2 l2) :
  Calls Tryz.prog 203 #[.slice (some ⟨b1,o1,none⟩) l1.length c1, .slice (some ⟨b2,o2,none⟩) l2.length c2] w fun e w'=>e=.returned (.bool (l1==l2))∧w'=w:=by
 have e1:=C4 h1 c1;have e2:=C4 h2 c2;go_enter Tryz.func203,Tryz.ntmps203
 go_wp2_with fail
 go_ret
 exact⟨rfl,rfl⟩
structure RhIn (E:Nat→Addr)(B:Nat)(T:TypeId)(v:Value)(S:Nat→Prop)(inv:World→Nat→List UInt8→Prop)(R:Nat)(pad:Int)(curr:Value)(blk:List Value)(err:Value)(rest:List UInt8)(w:World):Prop where
 glob:Glob E B w
 tabs:Lib.Utf8Tabs 14 15 w
 low:16≤B
 rd:inv w 0 rest
 row:w.heap[R]?=some (.cells (Cz (.iface T v) pad curr blk err).toArray 158 (0,0))
 blen:blk.length=512
 out:¬S R
 above:B≤R
theorem RhIn.full {E:Nat→Addr}{B:Nat}{T:TypeId}{v:Value}{S:Nat→Prop}{inv:World→Nat→List UInt8→Prop}(hR:IsRd E B T v S inv)
  {R:Nat} {pad:Int} {curr:Value} {blk:List Value} {err:Value} {rest:List UInt8} {w:World} (h:RhIn E B T v S inv R pad curr blk err rest w) :
  Calls Tryz.prog 202 #[.iface T v, .slice (some ⟨R,3,none⟩) 512 512] w.drew fun e w'=>e=.returned (.tuple #[.int .i64 (min 512 rest.length:Nat),Da E 512 rest.length]) ∧
   Kp (fun k=>S k∨k=R) w w'∧RhIn E B T v S inv R pad curr (splice blk 0 (ubs (rest.take 512))) err (rest.drop 512) w':=by
 refine(Rh hR w.drew R 3 512 512 158 _ rest (h.glob.keep ((Kp.refl (fun _=>False) _).drew) (fun _ h=>h.elim)) (hR.frame h.rd (fun _ _=>rfl)) (by omega) h.row (by rw[Qd h.blen];omega) (by omega) h.out h.above).mono ?_
 rintro e w' ⟨he,hk,hb,hi⟩;have hk':Kp (fun k=>S k∨k=R) w w':=((Kp.refl _ w).drew).trans hk;have hlow:∀b,(S b∨b=R)→B≤b:=by rintro b (h1|rfl);exact hR.low _ h1;exact h.above
 have h16:=h.low;refine⟨he,hk',⟨h.glob.keep hk' hlow,Utf8Tabs.keep h.tabs hk' (fun h1=>by have:=hlow _ h1;omega) (fun h1=>by have:=hlow _ h1;omega),h.low,hi,?_,?_,h.out,h.above⟩⟩
 ·rw[hb,Jp _ (by rw[Bi,h.blen,List.length_take];omega)]
 ·rw[D3 _ _ _ (by rw[h.blen,List.length_take];omega),h.blen]
def RowAt (w:World)(R:Nat):Prop:=∃x pad cur blk err,blk.length=512∧w.heap[R]?=some (.cells (Cz x pad cur blk err).toArray 158 (0,0))
theorem RowAt.keep {w w':World}{R:Nat}{S:Nat→Prop}(h:RowAt w R)(k:Kp S w w')(hS:¬S R):RowAt w' R:=by
 obtain⟨x,pad,cur,blk,err,h1,h2⟩:=h;exact⟨x,pad,cur,blk,err,h1,k.heap h2 hS⟩
theorem RhIn.rowAt {E:Nat→Addr}{B:Nat}{T:TypeId}{v:Value}{S:Nat→Prop}{inv:World→Nat→List UInt8→Prop}{R:Nat}{pad:Int}{curr:Value}{blk:List Value}{err:Value}{rest:List UInt8}{w:World}
  (h:RhIn E B T v S inv R pad curr blk err rest w):RowAt w R:=⟨_,_,_,_,_,h.blen,h.row⟩
def U3 (S:Nat→Prop)(R:Nat)(er:Value)(w:World)(e:Ending)(w':World):Prop:=
 e=.returned (.tuple #[.pointer none, .pointer none,er])∧Kp (fun k=>S k∨k=R) w w'∧RowAt w' R
theorem Gj {E:Nat→Addr}{B:Nat}{T:TypeId}{v:Value}{S:Nat→Prop}{inv:World→Nat→List UInt8→Prop}(hR:IsRd E B T v S inv)
  (w:World) (R:Nat) (pad:Int) (curr:Value) (blk:List Value) (err:Value) (rest:List UInt8) (hi:RhIn E B T v S inv R pad curr blk err rest w) (hs:rest.length<512) :
  Calls Tryz.prog 127 #[.pointer (some ⟨R,0,none⟩)] w (U3 S R (if rest.length=0 then By (E 0) else By (E 5)) w):=by
 have c0:w.cell? ⟨R,0,none⟩=some (.iface T v):=cell_of hi.row 0 rfl;have HI:=hid hi;clear hi;obtain⟨er,her⟩:∃a,(if rest.length=0 then By (E 0) else By (E 5))=By a:=by
  by_cases h:rest.length=0
  ·exact⟨E 0,if_pos h⟩
  ·exact⟨E 5,if_neg h⟩
 have hrf:Da E 512 rest.length=By er:=by rw[Da,if_neg (by omega),her]
 rw[her];have HE:=hid hrf;clear her hrf hs;go_enter Tryz.func127,Tryz.ntmps127
 go_wp2_with fail
 refine Bh [8] (by kernel_rfl) ?_
 simp only[Ce,sD,sE,sF,sG];repeat still_step
 refine wpStill_nil ?_;go_wp2_with fail
 refine(HI.out.full hR).mono ?_;rintro e w1 ⟨rfl,hk1,hi1⟩;rw[HE.out];clear c0;go_wp2_with fail
 repeat still_step
 refine wpStill_nil ?_;go_wp2_with fail
 go_ret3
 exact⟨rfl,hk1,hi1.rowAt⟩
def zblk:List UInt8:=List.replicate 512 0
theorem Y1:Tryz.zeroCells156=(ubs zblk).toArray:=by kernel_rfl
theorem D4 (w:World):BytesAt (w.alloc (.cells Tryz.zeroCells156 156)).drew w.heap.size 0 zblk:=fun j v hv=>by
 have h:=cell_of (heap_drew (Ba w (.cells Tryz.zeroCells156 156))) (0+j) (v:=v)
 rw[Y1] at h
 rw[Y1]
 exact h (by simpa using hv)
theorem Gk (w:World)(R n:Nat)(l:List UInt8)(h1:BytesAt w R 3 l)(hl:l.length=512)(h2:BytesAt w n 0 zblk) :
  Calls Tryz.prog 203 #[.slice (some ⟨R,3,none⟩) 512 512, .slice (some ⟨n,0,none⟩) 512 512] w fun e w'=>e=.returned (.bool (l==zblk))∧w'=w:=by
 have:=Zt w R 3 512 n 0 512 l zblk h1 h2;rw[hl,show zblk.length=512 from List.length_replicate] at this
 exact this
theorem RhIn.bytes {E:Nat→Addr}{B:Nat}{T:TypeId}{v:Value}{S:Nat→Prop}{inv:World→Nat→List UInt8→Prop}
  {R:Nat} {pad:Int} {curr:Value} {l:List UInt8} {err:Value} {rest:List UInt8} {w:World} (h:RhIn E B T v S inv R pad curr (ubs l) err rest w):BytesAt w R 3 l:=fun j x hx=>by
 have hj:j<(ubs l).length:=by
  rcases Nat.lt_or_ge j (ubs l).length with h1|h1
  ·exact h1
  ·rw[List.getElem?_eq_none h1] at hx;cases hx
 exact cell_of h.row (3+j) (by rw[Zq j hj];exact hx)
theorem RhIn.keep {E:Nat→Addr}{B:Nat}{T:TypeId}{v:Value}{S:Nat→Prop}{inv:World→Nat→List UInt8→Prop}(hR:IsRd E B T v S inv)
  {R:Nat} {pad:Int} {curr:Value} {blk:List Value} {err:Value} {rest:List UInt8} {w w':World} (h:RhIn E B T v S inv R pad curr blk err rest w) (k:Kp (fun _=>False) w w') :
  RhIn E B T v S inv R pad curr blk err rest w':=
 ⟨h.glob.keep k (fun _ h=>h.elim),Utf8Tabs.keep h.tabs k (fun h=>h) (fun h=>h),h.low,hR.frame h.rd (fun b hb=>k.block b ((hR.foot h.rd).2 b hb) (fun h=>h)),k.heap h.row (fun h=>h),h.blen,h.out,h.above⟩
theorem D5 (blk:List Value)(l:List Value)(h:l.length=blk.length):splice blk 0 l=l:=by
 simp[splice,h]
theorem Jw {E:Nat→Addr}{B:Nat}{T:TypeId}{v:Value}{S:Nat→Prop}{inv:World→Nat→List UInt8→Prop}(hR:IsRd E B T v S inv)
  (w:World) (R:Nat) (pad:Int) (curr:Value) (blk:List Value) (err:Value) (rest:List UInt8) (hi:RhIn E B T v S inv R pad curr blk err rest w)
  (hs:512≤rest.length) (hz:rest.take 512=List.replicate 512 0) (hs2:rest.length<1024) :
  Calls Tryz.prog 127 #[.pointer (some ⟨R,0,none⟩)] w (U3 S R (if rest.length=512 then By (E 0) else By (E 5)) w):=by
 have c0:w.cell? ⟨R,0,none⟩=some (.iface T v):=cell_of hi.row 0 rfl;have HI:=hid hi;clear hi;obtain⟨er,her⟩:∃a,(if rest.length=512 then By (E 0) else By (E 5))=By a:=by
  by_cases h:rest.length=512
  ·exact⟨E 0,if_pos h⟩
  ·exact⟨E 5,if_neg h⟩
 have hrf:Da E 512 rest.length=.nilIface:=by rw[Da,if_pos hs]
 have hrf2:Da E 512 (rest.drop 512).length=By er:=by
  rw[Da,List.length_drop,if_neg (by omega),←her]
  by_cases h:rest.length=512
  ·rw[if_pos (by omega),if_pos h]
  ·rw[if_neg (by omega),if_neg h]
 rw[her];have HE:=hid hrf;have HE2:=hid hrf2;have HS:=hid hs;have HZ:=hid hz;clear her hrf hs hrf2 hz;go_enter Tryz.func127,Tryz.ntmps127
 go_wp2_with fail
 refine Bh [8] (by kernel_rfl) ?_
 simp only[Ce,sD,sE,sF,sG];repeat still_step
 refine wpStill_nil ?_;go_wp2_with fail
 refine(HI.out.full hR).mono ?_;rintro e w1 ⟨rfl,hk1,hi1⟩;rw[D5 _ _ (by rw[Bi,HI.out.blen,List.length_take];have:=HS.out;omega),HZ.out] at hi1
 rw[HE.out];have hB1:BytesAt w1 R 3 zblk:=hi1.bytes;have hB2:BytesAt (w1.alloc (.cells Tryz.zeroCells156 156)).drew R 3 zblk:=hB1.keep ((Kp.refl (fun _=>False) _).alloc _).drew (fun h=>h);have HB2:=hid hB2;clear hB1 hB2;clear c0;go_wp2_with fail
 repeat still_step
 refine wpStill_nil ?_;go_wp2_with fail
 go_region_with (go_at_call 203;refine(Gk _ _ _ _ HB2.out rfl (D4 _)).mono ?_;rintro e w2 ⟨rfl,rfl⟩;rw[show (zblk==zblk)=true from by simp])
 have hi1k:=hi1.keep hR ((Kp.refl (fun _=>False) _).alloc (.cells Tryz.zeroCells156 156)).drew;have hk1k:=(hk1.alloc (.cells Tryz.zeroCells156 156)).drew;have HI2:=hid hi1k;have HK1:=hid hk1k;have c0:(w1.alloc (.cells Tryz.zeroCells156 156)).drew.cell? ⟨R,0,none⟩=some (.iface T v):=cell_of hi1k.row 0 rfl;generalize (w1.alloc (.cells Tryz.zeroCells156 156)).drew=w2 at HI2 HK1 c0 ⊢;clear hi1 hk1 hi1k hk1k HB2;go_wp2_with fail
 refine Bh [8] (by kernel_rfl) ?_
 simp only[Ce,sD,sE,sF,sG];repeat still_step
 refine wpStill_nil ?_;go_wp2_with fail
 refine(HI2.out.full hR).mono ?_;rintro e w3 ⟨rfl,hk3,hi3⟩;rw[HE2.out];clear c0;go_wp2_with fail
 repeat still_step
 refine wpStill_nil ?_;go_wp2_with fail
 go_ret3
 exact⟨rfl,HK1.out.trans hk3,hi3.rowAt⟩
theorem O0 {E:Nat→Addr}{B:Nat}{T:TypeId}{v:Value}{S:Nat→Prop}{inv:World→Nat→List UInt8→Prop}(hR:IsRd E B T v S inv)
  (w:World) (R:Nat) (pad:Int) (curr:Value) (blk:List Value) (err:Value) (rest:List UInt8) (hi:RhIn E B T v S inv R pad curr blk err rest w)
  (hs2:1024≤rest.length) (hz:rest.take 512=List.replicate 512 0) (hz2:(rest.drop 512).take 512=List.replicate 512 0) :
  Calls Tryz.prog 127 #[.pointer (some ⟨R,0,none⟩)] w (U3 S R (By (E 0)) w):=by
 have hs:512≤rest.length:=by omega
 have c0:w.cell? ⟨R,0,none⟩=some (.iface T v):=cell_of hi.row 0 rfl;have HI:=hid hi;clear hi;have hrf:Da E 512 rest.length=.nilIface:=by rw[Da,if_pos hs]
 have hrf2:Da E 512 (rest.drop 512).length=.nilIface:=by rw[Da,List.length_drop,if_pos (by omega)]
 have HZ2:=hid hz2;have HE:=hid hrf;have HE2:=hid hrf2;have HS:=hid hs;have HS2:=hid hs2;have HZ:=hid hz;clear hrf hs hrf2 hz hz2;go_enter Tryz.func127,Tryz.ntmps127
 go_wp2_with fail
 refine Bh [8] (by kernel_rfl) ?_
 simp only[Ce,sD,sE,sF,sG];repeat still_step
 refine wpStill_nil ?_;go_wp2_with fail
 refine(HI.out.full hR).mono ?_;rintro e w1 ⟨rfl,hk1,hi1⟩;rw[D5 _ _ (by rw[Bi,HI.out.blen,List.length_take];have:=HS.out;omega),HZ.out] at hi1
 rw[HE.out];have hB1:BytesAt w1 R 3 zblk:=hi1.bytes;have hB2:BytesAt (w1.alloc (.cells Tryz.zeroCells156 156)).drew R 3 zblk:=hB1.keep ((Kp.refl (fun _=>False) _).alloc _).drew (fun h=>h);have HB2:=hid hB2;clear hB1 hB2;clear c0;go_wp2_with fail
 repeat still_step
 refine wpStill_nil ?_;go_wp2_with fail
 go_region_with (go_at_call 203;refine(Gk _ _ _ _ HB2.out rfl (D4 _)).mono ?_;rintro e w2 ⟨rfl,rfl⟩;rw[show (zblk==zblk)=true from by simp])
 have hi1k:=hi1.keep hR ((Kp.refl (fun _=>False) _).alloc (.cells Tryz.zeroCells156 156)).drew;have hk1k:=(hk1.alloc (.cells Tryz.zeroCells156 156)).drew;have HI2:=hid hi1k;have HK1:=hid hk1k;have c0:(w1.alloc (.cells Tryz.zeroCells156 156)).drew.cell? ⟨R,0,none⟩=some (.iface T v):=cell_of hi1k.row 0 rfl;generalize (w1.alloc (.cells Tryz.zeroCells156 156)).drew=w2 at HI2 HK1 c0 ⊢;clear hi1 hk1 hi1k hk1k HB2;go_wp2_with fail
 refine Bh [8] (by kernel_rfl) ?_
 simp only[Ce,sD,sE,sF,sG];repeat still_step
 refine wpStill_nil ?_;go_wp2_with fail
 refine(HI2.out.full hR).mono ?_;rintro e w3 ⟨rfl,hk3,hi3⟩;rw[D5 _ _ (by rw[Bi,HI2.out.blen,List.length_take,List.length_drop];have:=HS2.out;omega),HZ2.out] at hi3
 rw[HE2.out];have hB1:BytesAt w3 R 3 zblk:=hi3.bytes;have hB2:BytesAt (w3.alloc (.cells Tryz.zeroCells156 156)).drew R 3 zblk:=hB1.keep ((Kp.refl (fun _=>False) _).alloc _).drew (fun h=>h);have HB2:=hid hB2;clear hB1 hB2 c0;go_wp2_with fail
 repeat still_step
 refine wpStill_nil ?_;go_wp2_with fail
 go_region_with (go_at_call 203;refine(Gk _ _ _ _ HB2.out rfl (D4 _)).mono ?_;rintro e w2 ⟨rfl,rfl⟩;rw[show (zblk==zblk)=true from by simp])
 have hg:=(hi3.keep hR ((Kp.refl (fun _=>False) _).alloc (.cells Tryz.zeroCells156 156)).drew).glob.eof;have hk3k:=(hk3.alloc (.cells Tryz.zeroCells156 156)).drew;have hra:=hid (hi3.keep hR ((Kp.refl (fun _=>False) _).alloc (.cells Tryz.zeroCells156 156)).drew).rowAt;generalize (w3.alloc (.cells Tryz.zeroCells156 156)).drew=w4 at hg hk3k hra ⊢;clear HB2 hi3 hk3;go_wp2_with fail
 go_quiet (fail)
 go_wp2_with fail
 go_ret3
 exact⟨rfl,(HK1.out.trans hk3k).drewN _,hra.out.keep ((Kp.refl (fun _=>False) _).drewN _) (fun h=>h)⟩
theorem Mp {E:Nat→Addr}{B:Nat}{T:TypeId}{v:Value}{S:Nat→Prop}{inv:World→Nat→List UInt8→Prop}(hR:IsRd E B T v S inv)
  (w:World) (R:Nat) (pad:Int) (curr:Value) (blk:List Value) (err:Value) (rest:List UInt8) (hi:RhIn E B T v S inv R pad curr blk err rest w)
  (hs:512≤rest.length) (hz:(rest.take 512==zblk)=false) (n:Nat) (ho:OctAt (fld (rest.take 512) 148 8) n)
  (hbad:¬((n:Int)=Bz (rest.take 512) 512∨(n:Int)=C5 (rest.take 512) 512)) :
  Calls Tryz.prog 127 #[.pointer (some ⟨R,0,none⟩)] w (U3 S R (By (E 1)) w):=by
 have c0:w.cell? ⟨R,0,none⟩=some (.iface T v):=cell_of hi.row 0 rfl;have HI:=hid hi;clear hi;have hrf:Da E 512 rest.length=.nilIface:=by rw[Da,if_pos hs]
 have HE:=hid hrf;have htl:(rest.take 512).length=512:=by rw[List.length_take];omega
 have HF:=fun w1 hb hlt=>hid (Oz w1 R 3 n (rest.take 512) hb htl hlt ho hbad);have HL:=hid htl;have HZ:=hid hz;obtain⟨l,hl⟩:∃l,rest.take 512=l:=⟨_,rfl⟩;have HR:=hid hl;rw[hl] at HF HL HZ;clear hrf hs hz htl ho hbad hl;go_enter Tryz.func127,Tryz.ntmps127
 go_wp2_with fail
 refine Bh [8] (by kernel_rfl) ?_
 simp only[Ce,sD,sE,sF,sG];repeat still_step
 refine wpStill_nil ?_;go_wp2_with fail
 refine(HI.out.full hR).mono ?_;rintro e w1 ⟨rfl,hk1,hi1⟩;rw[D5 _ _ (by rw[Bi,HI.out.blen,HR.out,HL.out]),HR.out] at hi1
 rw[HE.out];have hB1:BytesAt w1 R 3 l:=hi1.bytes;have hB2:BytesAt (w1.alloc (.cells Tryz.zeroCells156 156)).drew R 3 l:=hB1.keep ((Kp.refl (fun _=>False) _).alloc _).drew (fun h=>h);have HB2:=hid hB2;clear hB1 hB2 c0;go_wp2_with fail
 repeat still_step
 refine wpStill_nil ?_;go_wp2_with fail
 go_region_with (go_at_call 203;refine(Gk _ _ _ _ HB2.out HL.out (D4 _)).mono ?_;rintro e w2 ⟨rfl,rfl⟩;rw[HZ.out])
 have hi1k:=hi1.keep hR ((Kp.refl (fun _=>False) _).alloc (.cells Tryz.zeroCells156 156)).drew;have hk1k:=(hk1.alloc (.cells Tryz.zeroCells156 156)).drew;have HI2:=hid hi1k;have HK1:=hid hk1k;have hB3:=HB2.out;generalize (w1.alloc (.cells Tryz.zeroCells156 156)).drew=w2 at HI2 HK1 hB3 ⊢;clear hi1 hk1 hi1k hk1k HB2;go_wp2_with fail
 refine(HF w2 hB3 (Bv HI2.out.row)).out.mono ?_;rintro e w3 ⟨rfl,hk3⟩;have hg:w3.cell? ⟨1,0,none⟩=some (By (E 1)):=((HI2.out.keep hR hk3).glob.var 1 (by decide)).2
 go_wp2_with fail
 go_quiet (fail)
 go_wp2_with fail
 go_ret3
 exact⟨rfl,(HK1.out.then hk3 (fun _ _ h=>h.elim)).drewN _,(HI2.out.keep hR hk3).rowAt.keep ((Kp.refl (fun _=>False) _).drewN _) (fun h=>h)⟩
theorem Jx {w:World}{R:Nat}{l:List UInt8}(hb:BytesAt w R 3 l)(o k q c:Nat)(p:Value)(hq:q=3+o)(hok:o+k≤l.length)(hk:k≤1000)(hc:k≤c) :
  Calls Tryz.prog 133 #[p, .slice (some ⟨R,q,none⟩) k c] w fun e w'=>e=.returned (.string ⟨(textOf (fld l o k)).toArray⟩)∧w'=w:=by
 subst hq;have:=Ei w p R (3+o) c (fld l o k) (hb.fld o k hok) (by rw[Dq l o k hok];omega) (by rw[Dq l o k hok];omega)
 rwa[Dq l o k hok] at this
theorem Ec {w:World}{R:Nat}{l:List UInt8}(hb:BytesAt w R 3 l)(hlt:R<w.heap.size)(o k q c:Nat)(v:Int)(p:Value)(hn:Dp (fld l o k) v)(hq:q=3+o)(hok:o+k≤l.length)(hk:k≤1000)(hc:k≤c)(hcm:c≤1000) :
  Calls Tryz.prog 206 #[p, .slice (some ⟨R,q,none⟩) k c] w fun e w'=>e=.returned (.int .i64 v)∧Kp (fun _=>False) w w':=by
 subst hq;have:=Kr w p R (3+o) c (fld l o k) v (hb.fld o k hok) hlt hn (by rw[Dq l o k hok];omega) (by rw[Dq l o k hok];omega) (by omega)
 rwa[Dq l o k hok] at this
structure RhSt (w2:World)(R:Nat)(l:List UInt8)(np nh:Nat)(row:List Value)(w:World):Prop where
 bytes:BytesAt w R 3 l
 lt:R<w.heap.size
 par:w.cell? ⟨np,0,none⟩=some .nilIface
 row:w.heap[nh]?=some (.cells row.toArray 167 (0,0))
 kp:Kp (fun _=>False) w2 w
 old:w2.heap.size≤nh
 ne:R≠nh∧np≠nh
theorem RhSt.step {w2 w w':World}{R:Nat}{l:List UInt8}{np nh:Nat}{row:List Value}(h:RhSt w2 R l np nh row w)(k:Kp (fun _=>False) w w'):RhSt w2 R l np nh row w':=
 ⟨h.bytes.keep k (fun h=>h),Nat.lt_of_lt_of_le h.lt k.size,k.cell h.par (fun h=>h),k.heap h.row (fun h=>h),h.kp.trans k,h.old,h.ne⟩
theorem RhSt.set {w2 w:World}{R:Nat}{l:List UInt8}{np nh:Nat}{row:List Value}(h:RhSt w2 R l np nh row w)(i:Nat)(v:Value):RhSt w2 R l np nh (row.set i v) (w.setCell ⟨nh,i,none⟩ v):=by
 have k:Kp (· =nh) w (w.setCell ⟨nh,i,none⟩ v):=Kp.setCell (S:=(· =nh)) (p:=⟨nh,i,none⟩) (Kp.refl _ w) (.inl rfl) v;refine⟨h.bytes.keep k h.ne.1,Nat.lt_of_lt_of_le h.lt k.size,k.cell h.par h.ne.2,?_,h.kp.setCell (.inr h.old) v,h.old,h.ne⟩;have:=heap_set h.row i v;rwa[sA] at this
def row0:List Value:=[.int .u8 0, .string ⟨#[]⟩, .string ⟨#[]⟩, .int .i64 0, .int .i64 0, .int .i64 0, .int .i64 0, .string ⟨#[]⟩, .string ⟨#[]⟩, .int .u64 0, .int .i64 0, .int .u64 0, .int .i64 0, .int .u64 0, .int .i64 0, .int .i64 0, .int .i64 0, .map none, .map none, .int .i64 0]
theorem RhSt.start {w2 w3:World}{R:Nat}{l:List UInt8}(hB:BytesAt w2 R 3 l)(hk3:Kp (fun _=>False) w2 w3)(hlt:R<w2.heap.size) :
  RhSt w2 R l w3.heap.size (w3.heap.size+1) row0 ((w3.alloc (.cells #[.nilIface] 236)).alloc (.cells #[.int .u8 0, .string ⟨#[]⟩, .string ⟨#[]⟩, .int .i64 0, .int .i64 0, .int .i64 0, .int .i64 0, .string ⟨#[]⟩, .string ⟨#[]⟩, .int .u64 0, .int .i64 0, .int .u64 0, .int .i64 0, .int .u64 0, .int .i64 0, .int .i64 0, .int .i64 0, .map none, .map none, .int .i64 0] 167)):=by
 have hsz:=hk3.size;refine⟨((hB.keep hk3 (fun h=>h)).keep (((Kp.refl (fun _=>False) _).alloc _).alloc _) (fun h=>h)),?_,?_,?_,(hk3.alloc _).alloc _,by omega,by omega,by omega⟩
 ·have:=(((Kp.refl (fun _=>False) w3).alloc (.cells #[.nilIface] 236)).alloc (.cells row0.toArray 167)).size;exact Nat.lt_of_lt_of_le (by omega) this
 ·exact cell_of (heap_alloc (Ba w3 _) _) 0 rfl
 ·have:=Ba (w3.alloc (.cells #[.nilIface] 236)) (.cells row0.toArray 167);have e:(w3.alloc (.cells #[.nilIface] 236)).heap.size=w3.heap.size+1:=Array.size_push _;rw[e] at this;exact this
def Ek (tf:Int)(name link:List UInt8)(size mode uid gid:Int)(un gn:List UInt8)(mt:Int)(a0 a1 c0 c1 maj min f:Int):List Value:=
 [.int .u8 tf, .string ⟨name.toArray⟩, .string ⟨link.toArray⟩, .int .i64 size, .int .i64 mode, .int .i64 uid, .int .i64 gid, .string ⟨un.toArray⟩, .string ⟨gn.toArray⟩, .int .u64 0, .int .i64 (mt+62135596800), .int .u64 a0, .int .i64 a1, .int .u64 c0, .int .i64 c1, .int .i64 maj, .int .i64 min, .map none, .map none, .int .i64 f]
theorem Mq {w:World}{R:Nat}{l:List UInt8}(hb:BytesAt w R 3 l)(hl:l.length=512)(o k q c:Nat)(hq:q=3+o)(hok:o+(k+1)≤512)(hc:k+1≤c)(hcm:c≤1000) :
  Calls Tryz.prog 209 #[.slice (some ⟨R,q,none⟩) (k+1) c] w fun e w'=>(∃t:Bool,e=.returned (.bool t))∧w'=w:=by
 subst hq;exact Bdo w R (3+o) c k _ (by rw[Nat.add_assoc];exact hb.get (o+k) (by omega)) hc (by omega)
theorem indexAt {w:World}{R:Nat}{l:List UInt8}(hb:BytesAt w R 3 l)(hlt:R<w.heap.size)(hl:l.length=512)(hT:Lib.Utf8Tabs 14 15 w) :
  Calls Tryz.prog 208 #[.slice (some ⟨R,3,none⟩) 512 512,Is] w fun e w'=>(∃i:Int,e=.returned (.int .i64 i))∧Kp (fun _=>False) w w':=by
 have:=Mo w R 3 512 l hb hlt (by omega) (by omega) hT
 rwa[hl] at this
def Rr (E:Nat→Addr)(B:Nat)(T:TypeId)(v:Value)(S:Nat→Prop)(inv:World→Nat→List UInt8→Prop)(R:Nat)(pad:Int)(curr:Value)(l:List UInt8)(err:Value)(rest:List UInt8)(w:World)(row:Int→List Value)(e:Ending)(w':World):Prop:=
 ∃(nh:Nat) (f:Int),e=.returned (.tuple #[.pointer (some ⟨nh,0,none⟩), .pointer (some ⟨R,3,none⟩), .nilIface])∧Kp (fun k=>S k∨k=R) w w' ∧
  RhIn E B T v S inv R pad curr (ubs l) err rest w'∧w.heap.size≤nh∧w'.heap[nh]?=some (.cells (row f).toArray 167 (0,0))
def joined (pre name:List UInt8):List UInt8:=if pre=[] then name else pre++47::name
theorem Je {pre nm:List UInt8}(h:0<pre.length):joined pre nm=pre++47::nm:=by
 cases pre with
 |nil=>simp at h
 |cons x l=>simp[joined]
theorem Jf {pre nm:List UInt8}(h:¬0<pre.length):joined pre nm=nm:=by
 cases pre with
 |nil=>simp[joined]
 |cons x l=>simp at h
theorem Qg (pre nm:List UInt8):(⟨pre.toArray⟩++⟨#[47]⟩++⟨nm.toArray⟩:ByteArray)=⟨(pre++47::nm).toArray⟩:=by
 rw[show (⟨#[47]⟩:ByteArray)=⟨[47].toArray⟩ from rfl,ByteArray.mk_append_mk,ByteArray.mk_append_mk]
 simp
theorem RhSt.good {E:Nat→Addr}{B:Nat}{T:TypeId}{v:Value}{S:Nat→Prop}{inv:World→Nat→List UInt8→Prop}(hR:IsRd E B T v S inv)
  {R:Nat} {pad:Int} {curr:Value} {l:List UInt8} {err:Value} {rest:List UInt8} {w w2 wx:World} {np nh:Nat} {row:List Value} {f:Int} {rowf:Int→List Value}
  (hk:Kp (fun k=>S k∨k=R) w w2) (hi:RhIn E B T v S inv R pad curr (ubs l) err rest w2) (st:RhSt w2 R l np nh row wx) (hrow:row=rowf f) (n:Nat) :
  Rr E B T v S inv R pad curr l err rest w rowf (.returned (.tuple #[.pointer (some ⟨nh,0,none⟩), .pointer (some ⟨R,3,none⟩), .nilIface])) (wx.drewN n):=by
 have hkx:Kp (fun _=>False) w2 (wx.drewN n):=st.kp.drewN n;refine⟨nh,f,rfl,hk.then hkx (fun _ _ h=>h.elim),hi.keep hR hkx,Nat.le_trans hk.size st.old,?_⟩;rw[←hrow];exact st.row
structure HdBlk (l:List UInt8)(n:Nat)(tf:UInt8)(size mode uid gid mt maj min:Int):Prop where
 len:l.length=512
 sum:Nonempty (OctAt (fld l 148 8) n)
 good:(n:Int)=Bz l 512∨(n:Int)=C5 l 512
 typ:l[156]?=some tf
 n_size:Dp (fld l 124 12) size
 n_mode:Dp (fld l 100 8) mode
 n_uid:Dp (fld l 108 8) uid
 n_gid:Dp (fld l 116 8) gid
 n_mt:Dp (fld l 136 12) mt
 n_maj:Dp (fld l 329 8) maj
 n_min:Dp (fld l 337 8) min
 tmt: -100000000000000001≤mt∧mt≤100000000000000001
set_option maxHeartbeats 4000000 in
theorem Kt {E:Nat→Addr}{B:Nat}{T:TypeId}{v:Value}{S:Nat→Prop}{inv:World→Nat→List UInt8→Prop}(hR:IsRd E B T v S inv)
  (w:World) (R:Nat) (pad:Int) (curr:Value) (blk:List Value) (err:Value) (rest:List UInt8) (hi:RhIn E B T v S inv R pad curr blk err rest w)
  (hs:512≤rest.length) (hz:(rest.take 512==zblk)=false) (n:Nat) (tf:UInt8) (size mode uid gid mt maj min:Int) (hh:HdBlk (rest.take 512) n tf size mode uid gid mt maj min) (hf:Ld (rest.take 512)=6) :
  Calls Tryz.prog 127 #[.pointer (some ⟨R,0,none⟩)] w (Rr E B T v S inv R pad curr (rest.take 512) err (rest.drop 512) w (Ek tf.toNat (joined (textOf (fld (rest.take 512) 345 155)) (textOf (fld (rest.take 512) 0 100))) (textOf (fld (rest.take 512) 157 100)) size mode uid gid (textOf (fld (rest.take 512) 265 32)) (textOf (fld (rest.take 512) 297 32)) mt 0 0 0 0 maj min)):=by
 have c0:w.cell? ⟨R,0,none⟩=some (.iface T v):=cell_of hi.row 0 rfl;have HI:=hid hi;clear hi;have hrf:Da E 512 rest.length=.nilIface:=by rw[Da,if_pos hs]
 have HE:=hid hrf;have htl:(rest.take 512).length=512:=by rw[List.length_take];omega
 have HF:=fun w1 hb hlt=>hh.sum.elim fun ho=>hid (Hr w1 R 3 n (rest.take 512) hb htl hlt ho hh.good);rw[hf] at HF;have HL:=hid htl;have HZ:=hid hz;have HH:=hid hh;obtain⟨l,hl⟩:∃l,rest.take 512=l:=⟨_,rfl⟩;have HR:=hid hl;rw[hl];rw[hl] at HF HL HZ HH;have htf:=HH.out.typ;have HTF:=hid htf;have htl:=tf.toNat_lt;clear hrf hs hz hh hl hf htf;go_enter Tryz.func127,Tryz.ntmps127
 go_wp2_with fail
 refine Bh [8] (by kernel_rfl) ?_
 simp only[Ce,sD,sE,sF,sG];repeat still_step
 refine wpStill_nil ?_;go_wp2_with fail
 refine(HI.out.full hR).mono ?_;rintro e w1 ⟨rfl,hk1,hi1⟩;rw[D5 _ _ (by rw[Bi,HI.out.blen,HR.out,HL.out]),HR.out] at hi1
 rw[HE.out];have hB1:BytesAt w1 R 3 l:=hi1.bytes;have hB2:BytesAt (w1.alloc (.cells Tryz.zeroCells156 156)).drew R 3 l:=hB1.keep ((Kp.refl (fun _=>False) _).alloc _).drew (fun h=>h);have HB2:=hid hB2;clear hB1 hB2 c0;go_wp2_with fail
 repeat still_step
 refine wpStill_nil ?_;go_wp2_with fail
 go_region_with (go_at_call 203;refine(Gk _ _ _ _ HB2.out HL.out (D4 _)).mono ?_;rintro e w2 ⟨rfl,rfl⟩;rw[HZ.out])
 have hi1k:=hi1.keep hR ((Kp.refl (fun _=>False) _).alloc (.cells Tryz.zeroCells156 156)).drew;have hk1k:=(hk1.alloc (.cells Tryz.zeroCells156 156)).drew;have HI2:=hid hi1k;have HK1:=hid hk1k;have hB3:=HB2.out;generalize (w1.alloc (.cells Tryz.zeroCells156 156)).drew=w2 at HI2 HK1 hB3 ⊢;clear hi1 hk1 hi1k hk1k HB2;go_wp2_with fail
 refine(HF w2 hB3 (Bv HI2.out.row)).out.mono ?_;rintro e w3 ⟨rfl,hk3⟩;have ST:=hid (RhSt.start hB3 hk3 (Bv HI2.out.row));clear hB3;go_wp2_with fail
 generalize (w3.alloc (.cells #[.nilIface] 236)).alloc (.cells #[.int .u8 0, .string ⟨#[]⟩, .string ⟨#[]⟩, .int .i64 0, .int .i64 0, .int .i64 0, .int .i64 0, .string ⟨#[]⟩, .string ⟨#[]⟩, .int .u64 0, .int .i64 0, .int .u64 0, .int .i64 0, .int .u64 0, .int .i64 0, .int .i64 0, .int .i64 0, .map none, .map none, .int .i64 0] 167)=wk at ST ⊢;refine(Ju _ _).mono ?_;rintro e wn ⟨rfl,rfl⟩;go_wp2_with fail
 refine(Js _ _ _).mono ?_;rintro e wk ⟨rfl,rfl⟩;have ct:=ST.out.bytes 156 (ub tf) (by rw[Cy,HTF.out];rfl)
 have cc:=cell_of ST.out.row 0 rfl;have zz:=Bb ST.out.row 0;have STn:=hid (ST.out.set 0 (.int .u8 (tf.toNat:Int)));unfold ub at ct;clear ST;go_wp2_with fail
 generalize World.setCell wk ⟨w3.heap.size+1,0,none⟩ (.int .u8 (tf.toNat:Int))=wn at STn ⊢;clear cc zz ct;obtain⟨ST⟩:Nonempty (type_of% STn):=⟨STn⟩;clear STn;refine(U0 _ _ _).mono ?_;rintro e wk ⟨rfl,rfl⟩;go_wp2_with fail
 refine(Jx ST.out.bytes 0 100 _ _ _ rfl (by rw[HL.out];decide) (by decide) (by decide)).mono ?_
 rintro e wk ⟨rfl,rfl⟩;have cc:=cell_of ST.out.row 1 rfl;have zz:=Bb ST.out.row 1;have STn:=hid (ST.out.set 1 (.string ⟨(textOf (fld l 0 100)).toArray⟩));go_wp2_with fail
 generalize World.setCell wk ⟨w3.heap.size+1,1,none⟩ (.string ⟨(textOf (fld l 0 100)).toArray⟩)=wn at STn ⊢;clear cc zz ST;obtain⟨ST⟩:Nonempty (type_of% STn):=⟨STn⟩;clear STn;refine(Jr _ _ _).mono ?_;rintro e wk ⟨rfl,rfl⟩;go_wp2_with fail
 refine(Jx ST.out.bytes 157 100 _ _ _ rfl (by rw[HL.out];decide) (by decide) (by decide)).mono ?_
 rintro e wk ⟨rfl,rfl⟩;have cc:=cell_of ST.out.row 2 rfl;have zz:=Bb ST.out.row 2;have STn:=hid (ST.out.set 2 (.string ⟨(textOf (fld l 157 100)).toArray⟩));go_wp2_with fail
 generalize World.setCell wk ⟨w3.heap.size+1,2,none⟩ (.string ⟨(textOf (fld l 157 100)).toArray⟩)=wn at STn ⊢;clear cc zz ST;obtain⟨ST⟩:Nonempty (type_of% STn):=⟨STn⟩;clear STn;refine(Ml _ _ _).mono ?_;rintro e wk ⟨rfl,rfl⟩;go_wp2_with fail
 refine(Ec ST.out.bytes ST.out.lt 124 12 _ _ size _ HH.out.n_size rfl (by rw[HL.out];decide) (by decide) (by decide) (by decide)).mono ?_
 rintro e wk ⟨rfl,hk4⟩;have STk:=hid (ST.out.step hk4);clear ST hk4;have cc:=cell_of STk.out.row 3 rfl;have zz:=Bb STk.out.row 3;have STn:=hid (STk.out.set 3 (.int .i64 size));clear STk;go_wp2_with fail
 generalize World.setCell wk ⟨w3.heap.size+1,3,none⟩ (.int .i64 size)=wn at STn ⊢;clear cc zz;obtain⟨ST⟩:Nonempty (type_of% STn):=⟨STn⟩;clear STn;refine(Mk _ _ _).mono ?_;rintro e wk ⟨rfl,rfl⟩;go_wp2_with fail
 refine(Ec ST.out.bytes ST.out.lt 100 8 _ _ mode _ HH.out.n_mode rfl (by rw[HL.out];decide) (by decide) (by decide) (by decide)).mono ?_
 rintro e wk ⟨rfl,hk4⟩;have STk:=hid (ST.out.step hk4);clear ST hk4;have cc:=cell_of STk.out.row 4 rfl;have zz:=Bb STk.out.row 4;have STn:=hid (STk.out.set 4 (.int .i64 mode));clear STk;go_wp2_with fail
 generalize World.setCell wk ⟨w3.heap.size+1,4,none⟩ (.int .i64 mode)=wn at STn ⊢;clear cc zz;obtain⟨ST⟩:Nonempty (type_of% STn):=⟨STn⟩;clear STn;refine(Rl _ _ _).mono ?_;rintro e wk ⟨rfl,rfl⟩;go_wp2_with fail
 refine(Ec ST.out.bytes ST.out.lt 108 8 _ _ uid _ HH.out.n_uid rfl (by rw[HL.out];decide) (by decide) (by decide) (by decide)).mono ?_
 rintro e wk ⟨rfl,hk4⟩;have STk:=hid (ST.out.step hk4);clear ST hk4;have cc:=cell_of STk.out.row 5 rfl;have zz:=Bb STk.out.row 5;have STn:=hid (STk.out.set 5 (.int .i64 uid));clear STk;go_wp2_with fail
 generalize World.setCell wk ⟨w3.heap.size+1,5,none⟩ (.int .i64 uid)=wn at STn ⊢;clear cc zz;obtain⟨ST⟩:Nonempty (type_of% STn):=⟨STn⟩;clear STn;refine(Rm _ _ _).mono ?_;rintro e wk ⟨rfl,rfl⟩;go_wp2_with fail
 refine(Ec ST.out.bytes ST.out.lt 116 8 _ _ gid _ HH.out.n_gid rfl (by rw[HL.out];decide) (by decide) (by decide) (by decide)).mono ?_
 rintro e wk ⟨rfl,hk4⟩;have STk:=hid (ST.out.step hk4);clear ST hk4;have cc:=cell_of STk.out.row 6 rfl;have zz:=Bb STk.out.row 6;have STn:=hid (STk.out.set 6 (.int .i64 gid));clear STk;go_wp2_with fail
 generalize World.setCell wk ⟨w3.heap.size+1,6,none⟩ (.int .i64 gid)=wn at STn ⊢;clear cc zz;obtain⟨ST⟩:Nonempty (type_of% STn):=⟨STn⟩;clear STn;refine(Hq _ _ _).mono ?_;rintro e wk ⟨rfl,rfl⟩;go_wp2_with fail
 refine(Ec ST.out.bytes ST.out.lt 136 12 _ _ mt _ HH.out.n_mt rfl (by rw[HL.out];decide) (by decide) (by decide) (by decide)).mono ?_
 rintro e wk ⟨rfl,hk4⟩;have STk:=hid (ST.out.step hk4);clear ST hk4;go_wp2_with fail
 refine(Hs _ mt HH.out.tmt.1 HH.out.tmt.2).mono ?_;rintro e wj ⟨rfl,hk4⟩;have ST:=hid (STk.out.step hk4);clear STk hk4;have cc:=cell_of ST.out.row 9 rfl;have zz:=Bb ST.out.row 9;have cc2:=cell_of ST.out.row 10 rfl;have zz2:=Bb ST.out.row 10;have STn:=hid ((ST.out.set 9 (.int .u64 0)).set 10 (.int .i64 (mt+62135596800)));clear ST;go_wp2_with fail
 generalize World.setCell (World.setCell wj ⟨w3.heap.size+1,9,none⟩ (.int .u64 0)) ⟨w3.heap.size+1,10,none⟩ (.int .i64 (mt+62135596800))=wn at STn ⊢;clear cc zz cc2 zz2;obtain⟨ST⟩:Nonempty (type_of% STn):=⟨STn⟩;clear STn;refine(Eb _ _).mono ?_;rintro e wk ⟨rfl,rfl⟩;go_wp2_with fail
 refine(Jt _ _ _).mono ?_;rintro e wk ⟨rfl,rfl⟩;go_wp2_with fail
 refine(Jx ST.out.bytes 265 32 _ _ _ rfl (by rw[HL.out];decide) (by decide) (by decide)).mono ?_
 rintro e wk ⟨rfl,rfl⟩;have cc:=cell_of ST.out.row 7 rfl;have zz:=Bb ST.out.row 7;have STn:=hid (ST.out.set 7 (.string ⟨(textOf (fld l 265 32)).toArray⟩));go_wp2_with fail
 generalize World.setCell wk ⟨w3.heap.size+1,7,none⟩ (.string ⟨(textOf (fld l 265 32)).toArray⟩)=wn at STn ⊢;clear cc zz ST;obtain⟨ST⟩:Nonempty (type_of% STn):=⟨STn⟩;clear STn;refine(I2 _ _ _).mono ?_;rintro e wk ⟨rfl,rfl⟩;go_wp2_with fail
 refine(Jx ST.out.bytes 297 32 _ _ _ rfl (by rw[HL.out];decide) (by decide) (by decide)).mono ?_
 rintro e wk ⟨rfl,rfl⟩;have cc:=cell_of ST.out.row 8 rfl;have zz:=Bb ST.out.row 8;have STn:=hid (ST.out.set 8 (.string ⟨(textOf (fld l 297 32)).toArray⟩));go_wp2_with fail
 generalize World.setCell wk ⟨w3.heap.size+1,8,none⟩ (.string ⟨(textOf (fld l 297 32)).toArray⟩)=wn at STn ⊢;clear cc zz ST;obtain⟨ST⟩:Nonempty (type_of% STn):=⟨STn⟩;clear STn;refine(G0 _ _ _).mono ?_;rintro e wk ⟨rfl,rfl⟩;go_wp2_with fail
 refine(Ec ST.out.bytes ST.out.lt 329 8 _ _ maj _ HH.out.n_maj rfl (by rw[HL.out];decide) (by decide) (by decide) (by decide)).mono ?_
 rintro e wk ⟨rfl,hk4⟩;have STk:=hid (ST.out.step hk4);clear ST hk4;have cc:=cell_of STk.out.row 15 rfl;have zz:=Bb STk.out.row 15;have STn:=hid (STk.out.set 15 (.int .i64 maj));clear STk;go_wp2_with fail
 generalize World.setCell wk ⟨w3.heap.size+1,15,none⟩ (.int .i64 maj)=wn at STn ⊢;clear cc zz;obtain⟨ST⟩:Nonempty (type_of% STn):=⟨STn⟩;clear STn;refine(G5 _ _ _).mono ?_;rintro e wk ⟨rfl,rfl⟩;go_wp2_with fail
 refine(Ec ST.out.bytes ST.out.lt 337 8 _ _ min _ HH.out.n_min rfl (by rw[HL.out];decide) (by decide) (by decide) (by decide)).mono ?_
 rintro e wk ⟨rfl,hk4⟩;have STk:=hid (ST.out.step hk4);clear ST hk4;have cc:=cell_of STk.out.row 16 rfl;have zz:=Bb STk.out.row 16;have STn:=hid (STk.out.set 16 (.int .i64 min));clear STk;go_wp2_with fail
 generalize World.setCell wk ⟨w3.heap.size+1,16,none⟩ (.int .i64 min)=wn at STn ⊢;clear cc zz;obtain⟨ST⟩:Nonempty (type_of% STn):=⟨STn⟩;clear STn;refine(Jv _ 6 6).mono ?_;rintro e wk ⟨rfl,rfl⟩;rw[show (bits .and .i64 6 6 != 0)=true from by decide]
 have cc:=cell_of ST.out.row 19 rfl;have zz:=Bb ST.out.row 19;have STn:=hid (ST.out.set 19 (.int .i64 6));clear ST;go_wp2_with fail
 generalize World.setCell wk ⟨w3.heap.size+1,19,none⟩ (.int .i64 6)=wn at STn ⊢;clear cc zz;obtain⟨ST⟩:Nonempty (type_of% STn):=⟨STn⟩;clear STn;refine(Eb _ _).mono ?_;rintro e wk ⟨rfl,rfl⟩;go_wp2_with fail
 refine(U1 _ _ _).mono ?_;rintro e wk ⟨rfl,rfl⟩;go_wp2_with fail
 refine(Jx ST.out.bytes 345 155 _ _ _ rfl (by rw[HL.out];decide) (by decide) (by decide)).mono ?_
 rintro e wk ⟨rfl,rfl⟩;have ST1:RhSt w2 R l w3.heap.size (w3.heap.size+1) (Ek tf.toNat (textOf (fld l 0 100)) (textOf (fld l 157 100)) size mode uid gid (textOf (fld l 265 32)) (textOf (fld l 297 32)) mt 0 0 0 0 maj min 6) wk:=ST.out;have STh:=hid ST1;clear ST ST1;go_upto_if 185 with fail
 refine(indexAt STh.out.bytes STh.out.lt HL.out (Utf8Tabs.keep HI2.out.tabs STh.out.kp (fun h=>h) (fun h=>h))).mono ?_;rintro e wk ⟨⟨i,rfl⟩,hk⟩;have STi:=hid (STh.out.step hk);clear STh hk;go_upto_if 185 with fail
 go_cut [] from 179 to 188 (fun wx=>Hid (∃f2:Int,RhSt w2 R l w3.heap.size (w3.heap.size+1) (Ek tf.toNat (textOf (fld l 0 100)) (textOf (fld l 157 100)) size mode uid gid (textOf (fld l 265 32)) (textOf (fld l 297 32)) mt 0 0 0 0 maj min f2) wx))
 case first=>
  have ST:=STi.out;have cc:=cell_of ST.row 19 rfl;have zz:=Bb ST.row 19;by_cases hi:0≤i
  ·(go_wp2_with fail);go_meet
   case rel=>exact show _ from⟨_,ST.set 19 (.int .i64 0)⟩
  ·(go_wp2_with fail);go_meet
   case rel=>exact show _ from⟨_,ST⟩
 case rest=>
  clear STi;go_upto_region 40 with fail
  go_cut [229] from 189 to 229 (fun s9 wx=>(∃t:Bool,s9=.bool t)∧Hid (∃f2:Int,RhSt w2 R l w3.heap.size (w3.heap.size+1) (Ek tf.toNat (textOf (fld l 0 100)) (textOf (fld l 157 100)) size mode uid gid (textOf (fld l 265 32)) (textOf (fld l 297 32)) mt 0 0 0 0 maj min f2) wx))
  case first=>
   obtain⟨f2,ST⟩:=hcut.out;(go_wp2_with fail);refine(Ml _ _ _).mono ?_;rintro e wk ⟨rfl,rfl⟩;(go_wp2_with fail);(refine(Mq ST.bytes HL.out 124 11 _ _ rfl (by decide) (by decide) (by decide)).mono ?_);rintro e wk ⟨⟨t,rfl⟩,rfl⟩;cases t
   ·(go_wp2_with fail);go_meet
    case rel=>exact⟨⟨_,rfl⟩,show _ from⟨_,ST⟩⟩
   ·(skip);(go_wp2_with fail);refine(Mk _ _ _).mono ?_;rintro e wk ⟨rfl,rfl⟩;(go_wp2_with fail);(refine(Mq ST.bytes HL.out 100 7 _ _ rfl (by decide) (by decide) (by decide)).mono ?_);rintro e wk ⟨⟨t,rfl⟩,rfl⟩;cases t
    ·(go_wp2_with fail);go_meet
     case rel=>exact⟨⟨_,rfl⟩,show _ from⟨_,ST⟩⟩
    ·(skip);(go_wp2_with fail);refine(Rl _ _ _).mono ?_;rintro e wk ⟨rfl,rfl⟩;(go_wp2_with fail);(refine(Mq ST.bytes HL.out 108 7 _ _ rfl (by decide) (by decide) (by decide)).mono ?_);rintro e wk ⟨⟨t,rfl⟩,rfl⟩;cases t
     ·(go_wp2_with fail);go_meet
      case rel=>exact⟨⟨_,rfl⟩,show _ from⟨_,ST⟩⟩
     ·(skip);(go_wp2_with fail);refine(Rm _ _ _).mono ?_;rintro e wk ⟨rfl,rfl⟩;(go_wp2_with fail);(refine(Mq ST.bytes HL.out 116 7 _ _ rfl (by decide) (by decide) (by decide)).mono ?_);rintro e wk ⟨⟨t,rfl⟩,rfl⟩;cases t
      ·(go_wp2_with fail);go_meet
       case rel=>exact⟨⟨_,rfl⟩,show _ from⟨_,ST⟩⟩
      ·(skip);(go_wp2_with fail);refine(Hq _ _ _).mono ?_;rintro e wk ⟨rfl,rfl⟩;(go_wp2_with fail);(refine(Mq ST.bytes HL.out 136 11 _ _ rfl (by decide) (by decide) (by decide)).mono ?_);rintro e wk ⟨⟨t,rfl⟩,rfl⟩;cases t
       ·(go_wp2_with fail);go_meet
        case rel=>exact⟨⟨_,rfl⟩,show _ from⟨_,ST⟩⟩
       ·(skip);(go_wp2_with fail);refine(G0 _ _ _).mono ?_;rintro e wk ⟨rfl,rfl⟩;(go_wp2_with fail);(refine(Mq ST.bytes HL.out 329 7 _ _ rfl (by decide) (by decide) (by decide)).mono ?_);rintro e wk ⟨⟨t,rfl⟩,rfl⟩;cases t
        ·(go_wp2_with fail);go_meet
         case rel=>exact⟨⟨_,rfl⟩,show _ from⟨_,ST⟩⟩
        ·(skip);(go_wp2_with fail);refine(G5 _ _ _).mono ?_;rintro e wk ⟨rfl,rfl⟩;(go_wp2_with fail);(refine(Mq ST.bytes HL.out 337 7 _ _ rfl (by decide) (by decide) (by decide)).mono ?_);rintro e wk ⟨⟨t,rfl⟩,rfl⟩;cases t
         ·(go_wp2_with fail);go_meet
          case rel=>exact⟨⟨_,rfl⟩,show _ from⟨_,ST⟩⟩
         ·(go_wp2_with fail);go_meet
          case rel=>exact⟨⟨_,rfl⟩,show _ from⟨_,ST⟩⟩
  case rest=>
   obtain⟨⟨t,rfl⟩,hcut⟩:=hcut;obtain⟨f2,ST⟩:=hcut.out;have STh:=hid ST;have cc:=cell_of ST.row 19 rfl;have zz:=Bb ST.row 19;clear ST hcut;obtain⟨pre,hpre⟩:∃x,textOf (fld l 345 155)=x:=⟨_,rfl⟩;obtain⟨nm,hnm⟩:∃x,textOf (fld l 0 100)=x:=⟨_,rfl⟩;(have hpl:pre.length≤155:=by rw[←hpre];exact Nat.le_trans (Kn _) (by rw[Dq l 345 155 (by rw[HL.out];decide)];decide));(have hnl:nm.length≤100:=by rw[←hnm];exact Nat.le_trans (Kn _) (by rw[Dq l 0 100 (by rw[HL.out];decide)];decide));rw[hpre,hnm];rw[hnm] at STh;have HPre:=hid hpre;have HNm:=hid hnm;clear hpre hnm;cases t
   ·have ST:=STh;clear cc zz STh;have ck:wc.cell? ⟨w3.heap.size+1,1,none⟩=some (.string ⟨nm.toArray⟩):=cell_of ST.out.row 1 rfl;have zk:=Bb ST.out.row 1;have pk:=ST.out.par;by_cases hp:0<pre.length
    ·have s1:(⟨pre.toArray⟩:ByteArray).size≤155:=hpl;have s2:(⟨nm.toArray⟩:ByteArray).size≤100:=hnl;(have s3:((⟨pre.toArray⟩:ByteArray)++⟨#[47]⟩).size≤156:=by rw[ByteArray.size_append];exact Nat.add_le_add s1 (Nat.le_refl _));(go_wp2_with fail);(go_quiet (fail));(go_wp2_with fail);refine bodyPost_ret (results_tmp3 rfl _ _ _) rfl ?_;rw[HPre.out,HNm.out];refine RhSt.good (f:=f2) hR HK1.out HI2.out (ST.out.set 1 (.string (⟨pre.toArray⟩++⟨#[47]⟩++⟨nm.toArray⟩))) ?_ _;rw[Je hp,Ek,Ek,←Qg];rfl
    ·(go_wp2_with fail);(go_quiet (fail));(go_wp2_with fail);refine bodyPost_ret (results_tmp3 rfl _ _ _) rfl ?_;rw[HPre.out,HNm.out];refine RhSt.good (f:=f2) hR HK1.out HI2.out ST.out ?_ _;rw[Jf hp]
   ·(go_upto_if 318 with fail);have STn:=hid (STh.out.set 19 (.int .i64 0));generalize World.setCell wc ⟨w3.heap.size+1,19,none⟩ (.int .i64 0)=wd at STn ⊢;have ST:Hid (RhSt w2 R l w3.heap.size (w3.heap.size+1) (Ek tf.toNat nm (textOf (fld l 157 100)) size mode uid gid (textOf (fld l 265 32)) (textOf (fld l 297 32)) mt 0 0 0 0 maj min 0) wd):=STn;clear cc zz STh STn;have ck:wd.cell? ⟨w3.heap.size+1,1,none⟩=some (.string ⟨nm.toArray⟩):=cell_of ST.out.row 1 rfl;have zk:=Bb ST.out.row 1;have pk:=ST.out.par;by_cases hp:0<pre.length
    ·have s1:(⟨pre.toArray⟩:ByteArray).size≤155:=hpl;have s2:(⟨nm.toArray⟩:ByteArray).size≤100:=hnl;(have s3:((⟨pre.toArray⟩:ByteArray)++⟨#[47]⟩).size≤156:=by rw[ByteArray.size_append];exact Nat.add_le_add s1 (Nat.le_refl _));(go_wp2_with fail);(go_quiet (fail));(go_wp2_with fail);refine bodyPost_ret (results_tmp3 rfl _ _ _) rfl ?_;rw[HPre.out,HNm.out];refine RhSt.good (f:=0) hR HK1.out HI2.out (ST.out.set 1 (.string (⟨pre.toArray⟩++⟨#[47]⟩++⟨nm.toArray⟩))) ?_ _;rw[Je hp,Ek,Ek,←Qg];rfl
    ·(go_wp2_with fail);(go_quiet (fail));(go_wp2_with fail);refine bodyPost_ret (results_tmp3 rfl _ _ _) rfl ?_;rw[HPre.out,HNm.out];refine RhSt.good (f:=0) hR HK1.out HI2.out ST.out ?_ _;rw[Jf hp]
end Go.Proofs.YtgfcnjfmmjcodaaGreatDoor
