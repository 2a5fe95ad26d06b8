/- DecodeRune. -/
import Derived.Shelf.Unicode.DecodeSlow
import Derived.Outline
import Derived.Deep.RegionWith
import Derived.Test.YtgfcnjfmmjcodaaGreatDoorN04
set_option linter.all false
set_option maxRecDepth 100000
set_option maxHeartbeats 1000000
open Go.Lib (hid)
namespace Go.Proofs.YtgfcnjfmmjcodaaGreatDoor
open Go.RowKit
def SomeRune (n:Nat)(e:Ending):Prop:=∃(r k:Int),e=.returned (.tuple #[.int .i32 r, .int .i64 k])∧1≤k∧k≤n
theorem SomeRune.mk {n:Nat}{e:Ending}(r k:Int)(h:e=.returned (.tuple #[.int .i32 r, .int .i64 k]))(h1:1≤k)(h2:k≤n):SomeRune n e:=⟨r,k,h,h1,h2⟩
set_option maxHeartbeats 4000000 in
set_option maxRecDepth 1000000 in
theorem decodeSlow_some (w:World)(b off c:Nat)(l:List UInt8)(hb:BytesAt w b off l)(hlt:b<w.heap.size)(hl:1≤l.length)(hc:l.length≤c)(hcm:c≤281474976710656)(hT:Lib.Utf8Tabs 14 15 w) :
  Calls Tryz.prog 332 #[.slice (some ⟨b,off,none⟩) l.length c] w fun e w'=>SomeRune l.length e∧Kp (fun _=>False) w w':=by
 obtain⟨x0,hx0⟩:∃x:UInt8,w.cell? ⟨b,off,none⟩=some (.int .u8 (x.toNat:Int)):=⟨_,hb.get 0 (by omega)⟩
 have l0:=x0.toNat_lt
 have hc0:=hT.1 x0.toNat (by omega)
 have hnot:¬((l.length:Int)<1):=by omega
 rcases Lib.firstT_cases x0.toNat with hX|hX|hX|hX|hX|hX|hX|hX|hX
 ·rw[hX] at hc0
  clear hT hX hb
  go_enter Tryz.func332,Tryz.ntmps332
  go_wp2_with fail
  go_ret2
  exact⟨SomeRune.mk _ 1 rfl (by omega) (by omega),(Kp.refl _ _)⟩
 ·rw[hX] at hc0
  clear hT hX hb
  go_enter Tryz.func332,Tryz.ntmps332
  go_wp2_with fail
  go_ret2
  exact⟨SomeRune.mk _ 1 rfl (by omega) (by omega),(Kp.refl _ _)⟩
 ·rw[hX] at hc0
  have ha0:=(hT.2 0 (by omega)).1
  have ha1:=(hT.2 0 (by omega)).2
  simp only[Lib.accLo,Lib.accHi,Nat.reduceMul,Nat.reduceAdd,Nat.reduceEqDiff,if_true,if_false,Nat.reduceMod,Nat.reduceDiv] at ha0 ha1
  clear hT hX
  by_cases hn:l.length<2
  ·have hnz:(l.length:Int)<2:=by omega
   clear hb
   go_enter Tryz.func332,Tryz.ntmps332
   go_wp2_with fail
   go_ret2
   exact⟨SomeRune.mk _ 1 rfl (by omega) (by omega),((Kp.refl _ _).alloc _)⟩
  ·obtain⟨x1,hx1⟩:∃x:UInt8,w.cell? ⟨b,off+1,none⟩=some (.int .u8 (x.toNat:Int)):=⟨_,hb.get 1 (by omega)⟩
   have l1:=x1.toNat_lt
   have hz1:(1:Int)<(l.length:Int):=by omega
   have hnz:¬((l.length:Int)<2):=by omega
   clear hb
   go_enter Tryz.func332,Tryz.ntmps332
   go_wp2_with fail
   all_goals (go_ret2;first|exact⟨SomeRune.mk _ 1 rfl (by omega) (by omega),((Kp.refl _ _).alloc _)⟩|exact⟨SomeRune.mk _ 2 rfl (by omega) (by omega),((Kp.refl _ _).alloc _)⟩|exact⟨SomeRune.mk _ 2 rfl (by omega) (by omega),((Kp.refl _ _).alloc _)⟩|exact⟨SomeRune.mk _ 3 rfl (by omega) (by omega),((Kp.refl _ _).alloc _)⟩)
 ·rw[hX] at hc0
  have ha0:=(hT.2 1 (by omega)).1
  have ha1:=(hT.2 1 (by omega)).2
  simp only[Lib.accLo,Lib.accHi,Nat.reduceMul,Nat.reduceAdd,Nat.reduceEqDiff,if_true,if_false,Nat.reduceMod,Nat.reduceDiv] at ha0 ha1
  clear hT hX
  by_cases hn:l.length<3
  ·have hnz:(l.length:Int)<3:=by omega
   clear hb
   go_enter Tryz.func332,Tryz.ntmps332
   go_wp2_with fail
   go_ret2
   exact⟨SomeRune.mk _ 1 rfl (by omega) (by omega),((Kp.refl _ _).alloc _)⟩
  ·obtain⟨x1,hx1⟩:∃x:UInt8,w.cell? ⟨b,off+1,none⟩=some (.int .u8 (x.toNat:Int)):=⟨_,hb.get 1 (by omega)⟩
   have l1:=x1.toNat_lt
   have hz1:(1:Int)<(l.length:Int):=by omega
   obtain⟨x2,hx2⟩:∃x:UInt8,w.cell? ⟨b,off+2,none⟩=some (.int .u8 (x.toNat:Int)):=⟨_,hb.get 2 (by omega)⟩
   have l2:=x2.toNat_lt
   have hz2:(2:Int)<(l.length:Int):=by omega
   have hnz:¬((l.length:Int)<3):=by omega
   clear hb
   go_enter Tryz.func332,Tryz.ntmps332
   go_wp2_with fail
   all_goals (go_ret2;first|exact⟨SomeRune.mk _ 1 rfl (by omega) (by omega),((Kp.refl _ _).alloc _)⟩|exact⟨SomeRune.mk _ 3 rfl (by omega) (by omega),((Kp.refl _ _).alloc _)⟩|exact⟨SomeRune.mk _ 2 rfl (by omega) (by omega),((Kp.refl _ _).alloc _)⟩|exact⟨SomeRune.mk _ 3 rfl (by omega) (by omega),((Kp.refl _ _).alloc _)⟩)
 ·rw[hX] at hc0
  have ha0:=(hT.2 0 (by omega)).1
  have ha1:=(hT.2 0 (by omega)).2
  simp only[Lib.accLo,Lib.accHi,Nat.reduceMul,Nat.reduceAdd,Nat.reduceEqDiff,if_true,if_false,Nat.reduceMod,Nat.reduceDiv] at ha0 ha1
  clear hT hX
  by_cases hn:l.length<3
  ·have hnz:(l.length:Int)<3:=by omega
   clear hb
   go_enter Tryz.func332,Tryz.ntmps332
   go_wp2_with fail
   go_ret2
   exact⟨SomeRune.mk _ 1 rfl (by omega) (by omega),((Kp.refl _ _).alloc _)⟩
  ·obtain⟨x1,hx1⟩:∃x:UInt8,w.cell? ⟨b,off+1,none⟩=some (.int .u8 (x.toNat:Int)):=⟨_,hb.get 1 (by omega)⟩
   have l1:=x1.toNat_lt
   have hz1:(1:Int)<(l.length:Int):=by omega
   obtain⟨x2,hx2⟩:∃x:UInt8,w.cell? ⟨b,off+2,none⟩=some (.int .u8 (x.toNat:Int)):=⟨_,hb.get 2 (by omega)⟩
   have l2:=x2.toNat_lt
   have hz2:(2:Int)<(l.length:Int):=by omega
   have hnz:¬((l.length:Int)<3):=by omega
   clear hb
   go_enter Tryz.func332,Tryz.ntmps332
   go_wp2_with fail
   all_goals (go_ret2;first|exact⟨SomeRune.mk _ 1 rfl (by omega) (by omega),((Kp.refl _ _).alloc _)⟩|exact⟨SomeRune.mk _ 3 rfl (by omega) (by omega),((Kp.refl _ _).alloc _)⟩|exact⟨SomeRune.mk _ 2 rfl (by omega) (by omega),((Kp.refl _ _).alloc _)⟩|exact⟨SomeRune.mk _ 3 rfl (by omega) (by omega),((Kp.refl _ _).alloc _)⟩)
 ·rw[hX] at hc0
  have ha0:=(hT.2 2 (by omega)).1
  have ha1:=(hT.2 2 (by omega)).2
  simp only[Lib.accLo,Lib.accHi,Nat.reduceMul,Nat.reduceAdd,Nat.reduceEqDiff,if_true,if_false,Nat.reduceMod,Nat.reduceDiv] at ha0 ha1
  clear hT hX
  by_cases hn:l.length<3
  ·have hnz:(l.length:Int)<3:=by omega
   clear hb
   go_enter Tryz.func332,Tryz.ntmps332
   go_wp2_with fail
   go_ret2
   exact⟨SomeRune.mk _ 1 rfl (by omega) (by omega),((Kp.refl _ _).alloc _)⟩
  ·obtain⟨x1,hx1⟩:∃x:UInt8,w.cell? ⟨b,off+1,none⟩=some (.int .u8 (x.toNat:Int)):=⟨_,hb.get 1 (by omega)⟩
   have l1:=x1.toNat_lt
   have hz1:(1:Int)<(l.length:Int):=by omega
   obtain⟨x2,hx2⟩:∃x:UInt8,w.cell? ⟨b,off+2,none⟩=some (.int .u8 (x.toNat:Int)):=⟨_,hb.get 2 (by omega)⟩
   have l2:=x2.toNat_lt
   have hz2:(2:Int)<(l.length:Int):=by omega
   have hnz:¬((l.length:Int)<3):=by omega
   clear hb
   go_enter Tryz.func332,Tryz.ntmps332
   go_wp2_with fail
   all_goals (go_ret2;first|exact⟨SomeRune.mk _ 1 rfl (by omega) (by omega),((Kp.refl _ _).alloc _)⟩|exact⟨SomeRune.mk _ 3 rfl (by omega) (by omega),((Kp.refl _ _).alloc _)⟩|exact⟨SomeRune.mk _ 2 rfl (by omega) (by omega),((Kp.refl _ _).alloc _)⟩|exact⟨SomeRune.mk _ 3 rfl (by omega) (by omega),((Kp.refl _ _).alloc _)⟩)
 ·rw[hX] at hc0
  have ha0:=(hT.2 3 (by omega)).1
  have ha1:=(hT.2 3 (by omega)).2
  simp only[Lib.accLo,Lib.accHi,Nat.reduceMul,Nat.reduceAdd,Nat.reduceEqDiff,if_true,if_false,Nat.reduceMod,Nat.reduceDiv] at ha0 ha1
  clear hT hX
  by_cases hn:l.length<4
  ·have hnz:(l.length:Int)<4:=by omega
   clear hb
   go_enter Tryz.func332,Tryz.ntmps332
   go_wp2_with fail
   go_ret2
   exact⟨SomeRune.mk _ 1 rfl (by omega) (by omega),((Kp.refl _ _).alloc _)⟩
  ·obtain⟨x1,hx1⟩:∃x:UInt8,w.cell? ⟨b,off+1,none⟩=some (.int .u8 (x.toNat:Int)):=⟨_,hb.get 1 (by omega)⟩
   have l1:=x1.toNat_lt
   have hz1:(1:Int)<(l.length:Int):=by omega
   obtain⟨x2,hx2⟩:∃x:UInt8,w.cell? ⟨b,off+2,none⟩=some (.int .u8 (x.toNat:Int)):=⟨_,hb.get 2 (by omega)⟩
   have l2:=x2.toNat_lt
   have hz2:(2:Int)<(l.length:Int):=by omega
   obtain⟨x3,hx3⟩:∃x:UInt8,w.cell? ⟨b,off+3,none⟩=some (.int .u8 (x.toNat:Int)):=⟨_,hb.get 3 (by omega)⟩
   have l3:=x3.toNat_lt
   have hz3:(3:Int)<(l.length:Int):=by omega
   have hnz:¬((l.length:Int)<4):=by omega
   clear hb
   go_enter Tryz.func332,Tryz.ntmps332
   go_wp2_with fail
   all_goals (go_ret2;first|exact⟨SomeRune.mk _ 1 rfl (by omega) (by omega),((Kp.refl _ _).alloc _)⟩|exact⟨SomeRune.mk _ 4 rfl (by omega) (by omega),((Kp.refl _ _).alloc _)⟩|exact⟨SomeRune.mk _ 2 rfl (by omega) (by omega),((Kp.refl _ _).alloc _)⟩|exact⟨SomeRune.mk _ 3 rfl (by omega) (by omega),((Kp.refl _ _).alloc _)⟩)
 ·rw[hX] at hc0
  have ha0:=(hT.2 0 (by omega)).1
  have ha1:=(hT.2 0 (by omega)).2
  simp only[Lib.accLo,Lib.accHi,Nat.reduceMul,Nat.reduceAdd,Nat.reduceEqDiff,if_true,if_false,Nat.reduceMod,Nat.reduceDiv] at ha0 ha1
  clear hT hX
  by_cases hn:l.length<4
  ·have hnz:(l.length:Int)<4:=by omega
   clear hb
   go_enter Tryz.func332,Tryz.ntmps332
   go_wp2_with fail
   go_ret2
   exact⟨SomeRune.mk _ 1 rfl (by omega) (by omega),((Kp.refl _ _).alloc _)⟩
  ·obtain⟨x1,hx1⟩:∃x:UInt8,w.cell? ⟨b,off+1,none⟩=some (.int .u8 (x.toNat:Int)):=⟨_,hb.get 1 (by omega)⟩
   have l1:=x1.toNat_lt
   have hz1:(1:Int)<(l.length:Int):=by omega
   obtain⟨x2,hx2⟩:∃x:UInt8,w.cell? ⟨b,off+2,none⟩=some (.int .u8 (x.toNat:Int)):=⟨_,hb.get 2 (by omega)⟩
   have l2:=x2.toNat_lt
   have hz2:(2:Int)<(l.length:Int):=by omega
   obtain⟨x3,hx3⟩:∃x:UInt8,w.cell? ⟨b,off+3,none⟩=some (.int .u8 (x.toNat:Int)):=⟨_,hb.get 3 (by omega)⟩
   have l3:=x3.toNat_lt
   have hz3:(3:Int)<(l.length:Int):=by omega
   have hnz:¬((l.length:Int)<4):=by omega
   clear hb
   go_enter Tryz.func332,Tryz.ntmps332
   go_wp2_with fail
   all_goals (go_ret2;first|exact⟨SomeRune.mk _ 1 rfl (by omega) (by omega),((Kp.refl _ _).alloc _)⟩|exact⟨SomeRune.mk _ 4 rfl (by omega) (by omega),((Kp.refl _ _).alloc _)⟩|exact⟨SomeRune.mk _ 2 rfl (by omega) (by omega),((Kp.refl _ _).alloc _)⟩|exact⟨SomeRune.mk _ 3 rfl (by omega) (by omega),((Kp.refl _ _).alloc _)⟩)
 ·rw[hX] at hc0
  have ha0:=(hT.2 4 (by omega)).1
  have ha1:=(hT.2 4 (by omega)).2
  simp only[Lib.accLo,Lib.accHi,Nat.reduceMul,Nat.reduceAdd,Nat.reduceEqDiff,if_true,if_false,Nat.reduceMod,Nat.reduceDiv] at ha0 ha1
  clear hT hX
  by_cases hn:l.length<4
  ·have hnz:(l.length:Int)<4:=by omega
   clear hb
   go_enter Tryz.func332,Tryz.ntmps332
   go_wp2_with fail
   go_ret2
   exact⟨SomeRune.mk _ 1 rfl (by omega) (by omega),((Kp.refl _ _).alloc _)⟩
  ·obtain⟨x1,hx1⟩:∃x:UInt8,w.cell? ⟨b,off+1,none⟩=some (.int .u8 (x.toNat:Int)):=⟨_,hb.get 1 (by omega)⟩
   have l1:=x1.toNat_lt
   have hz1:(1:Int)<(l.length:Int):=by omega
   obtain⟨x2,hx2⟩:∃x:UInt8,w.cell? ⟨b,off+2,none⟩=some (.int .u8 (x.toNat:Int)):=⟨_,hb.get 2 (by omega)⟩
   have l2:=x2.toNat_lt
   have hz2:(2:Int)<(l.length:Int):=by omega
   obtain⟨x3,hx3⟩:∃x:UInt8,w.cell? ⟨b,off+3,none⟩=some (.int .u8 (x.toNat:Int)):=⟨_,hb.get 3 (by omega)⟩
   have l3:=x3.toNat_lt
   have hz3:(3:Int)<(l.length:Int):=by omega
   have hnz:¬((l.length:Int)<4):=by omega
   clear hb
   go_enter Tryz.func332,Tryz.ntmps332
   go_wp2_with fail
   all_goals (go_ret2;first|exact⟨SomeRune.mk _ 1 rfl (by omega) (by omega),((Kp.refl _ _).alloc _)⟩|exact⟨SomeRune.mk _ 4 rfl (by omega) (by omega),((Kp.refl _ _).alloc _)⟩|exact⟨SomeRune.mk _ 2 rfl (by omega) (by omega),((Kp.refl _ _).alloc _)⟩|exact⟨SomeRune.mk _ 3 rfl (by omega) (by omega),((Kp.refl _ _).alloc _)⟩)
theorem decodeRune_some (w:World)(b off c:Nat)(l:List UInt8)(hb:BytesAt w b off l)(hlt:b<w.heap.size)(hl:1≤l.length)(hc:l.length≤c)(hcm:c≤281474976710656)(hT:Lib.Utf8Tabs 14 15 w) :
  Calls Tryz.prog 295 #[.slice (some ⟨b,off,none⟩) l.length c] w fun e w'=>SomeRune l.length e∧Kp (fun _=>False) w w':=by
 have H:=hid (decodeSlow_some w b off c l hb hlt hl hc hcm hT)
 obtain⟨x0,hx0⟩:∃x:UInt8,w.cell? ⟨b,off,none⟩=some (.int .u8 (x.toNat:Int)):=⟨_,hb.get 0 (by omega)⟩
 have l0:=x0.toNat_lt
 clear hb hT
 by_cases hx:x0.toNat<128
 ·go_enter Tryz.func295,Tryz.ntmps295
  go_wp2_with fail
  go_loop [8] (fun k=>k=.int .i64 0) (fun _=>1)
  case atStart=>rfl
  case round=>
   subst hrel
   go_wp2_with fail
   go_ret2
   exact⟨SomeRune.mk _ 1 rfl (by omega) (by omega),Kp.refl _ _⟩
 ·go_enter Tryz.func295,Tryz.ntmps295
  go_wp2_with fail
  go_loop [8] (fun k=>k=.int .i64 0) (fun _=>1)
  case atStart=>rfl
  case round=>
   subst hrel
   go_wp2_with fail
   refine H.out.mono ?_
   rintro e w1 ⟨⟨r,k,rfl,h1,h2⟩,hk1⟩
   go_wp2_with fail
   go_ret2
   exact⟨SomeRune.mk _ k rfl h1 h2,hk1⟩
theorem has_any (w:World)(f g:Int) :
  Calls Tryz.prog 111 #[.int .i64 f, .int .i64 g] w fun e w'=>e=.returned (.bool (bits .and .i64 f g != 0))∧w'=w:=by
 go_enter Tryz.func111,Tryz.ntmps111
 go_wp2_with fail
 go_ret
 exact⟨rfl,rfl⟩
theorem unixTime_any (w:World)(s:Int)(h0: -100000000000000001≤s)(h1:s≤100000000000000001) :
  Calls Tryz.prog 197 #[.int .i64 s, .int .i32 0] w fun e w'=>e=.returned (.agg #[.int .u64 0, .int .i64 (s+62135596800)])∧Kp (fun _=>False) w w':=by
 go_enter Tryz.func197,Tryz.ntmps197
 go_wp2_with fail
 exact bodyPost_ret (results_cell_row rfl _ _ w.heap.size 163 #[.int .u64 0, .int .i64 (s+62135596800)] (0,0) _ rfl (heap_new _ _) Tryz.underlying163 rfl (by kernel_rfl)) rfl ⟨rfl,(Kp.refl _ _).alloc _⟩
theorem unix_any (w:World)(s:Int)(h0: -100000000000000001≤s)(h1:s≤100000000000000001) :
  Calls Tryz.prog 115 #[.int .i64 s, .int .i64 0] w fun e w'=>e=.returned (.agg #[.int .u64 0, .int .i64 (s+62135596800)])∧Kp (fun _=>False) w w':=by
 go_enter Tryz.func115,Tryz.ntmps115
 go_wp2_with fail
 refine(unixTime_any _ s h0 h1).mono ?_
 rintro e w1 ⟨rfl,hk1⟩
 have hr:w1.heap[w.heap.size]?=some (.cells #[.int .u64 0, .int .i64 0] 163 (0,0)):=hk1.heap (heap_new _ _) (fun h=>h)
 have c0:=cell_of hr 0 rfl
 have c1:=cell_of hr 1 rfl
 have z0:=free_of hr 0
 have z1:=free_of hr 1
 have HR:=hid hr
 clear hr
 go_wp2_with fail
 have hn:w.heap.size≤w.heap.size:=Nat.le_refl _
 have hk:Kp (fun _=>False) w w1:=((Kp.refl _ _).alloc _).trans hk1
 exact bodyPost_ret (results_cell_row rfl _ _ w.heap.size 163 #[.int .u64 0, .int .i64 (s+62135596800)] (0,0) _ rfl (heap_set (heap_set HR.out 0 _) 1 _) Tryz.underlying163 rfl (by kernel_rfl)) rfl ⟨rfl,(hk.setCell (.inr hn) _).setCell (.inr hn) _⟩
def notAsciiF:Value:=.func (.func 207) #[] #[]
theorem notAscii_any (w:World)(r:Int) :
  Calls Tryz.prog 207 #[.int .i32 r] w fun e w'=>(∃t:Bool,e=.returned (.bool t))∧w'=w:=by
 go_enter Tryz.func207,Tryz.ntmps207
 go_wp2_with fail
 go_ret
 exact⟨⟨_,rfl⟩,rfl⟩
theorem BytesAt.drop {w:World}{b off:Nat}{l:List UInt8}(h:BytesAt w b off l)(j:Nat)(hj:j≤l.length):BytesAt w b (off+j) (l.drop j):=by
 have h1:=h
 rw[←List.take_append_drop j l] at h1
 have h2:=h1.right
 rwa[List.length_take,Nat.min_eq_left hj] at h2
theorem Utf8Tabs.keep {w w':World}{g h:Nat}{S:Nat→Prop}(H:Lib.Utf8Tabs g h w)(k:Kp S w w')(hg:¬S g)(hh:¬S h):Lib.Utf8Tabs g h w':=
 ⟨fun c hc=>k.cell (H.1 c hc) hg,fun i hi=>⟨k.cell (H.2 i hi).1 hh,k.cell (H.2 i hi).2 hh⟩⟩
theorem indexFunc_some (w:World)(b off c:Nat)(l:List UInt8)(hb:BytesAt w b off l)(hlt:b<w.heap.size)(hc:l.length≤c)(hcm:c≤281474976710656)(hT:Lib.Utf8Tabs 14 15 w) :
  Calls Tryz.prog 258 #[.slice (some ⟨b,off,none⟩) l.length c,notAsciiF, .bool true] w fun e w'=>(∃i:Int,e=.returned (.int .i64 i))∧Kp (fun _=>False) w w':=by
 have hD:∀(wr:World) (j:Nat),j<l.length→Kp (fun _=>False) w wr→Calls Tryz.prog 295 #[.slice (some ⟨b,off+j,none⟩) (l.length-j) (c-j)] wr fun e w'=>SomeRune (l.length-j) e∧Kp (fun _=>False) wr w':=fun wr j hj hk=>by
  have:=decodeRune_some wr b (off+j) (c-j) (l.drop j) ((hb.drop j (by omega)).keep hk (fun h=>h)) (by have:=hk.size;omega) (by simp;omega) (by simp;omega) (by omega) (Utf8Tabs.keep hT hk (fun h=>h) (fun h=>h))
  simpa using this
 have HD:=hid hD
 clear hD hb hT
 unfold notAsciiF
 go_enter Tryz.func258,Tryz.ntmps258
 go_wp2_with fail
 go_loopw [7] (fun s wr=>∃j:Nat,s=.int .i64 j∧j≤l.length∧Kp (fun _=>False) w wr) (fun s _=>l.length-(intOf s).toNat)
 case atStart=>exact⟨0,rfl,by omega,Kp.refl _ _⟩
 case round=>
  obtain⟨j,rfl,hj,hkp⟩:=hrel
  by_cases hjl:j<l.length
  ·have hjc:j<c:=by omega
   go_wp2_with fail
   refine(HD.out wr j hjl hkp).mono ?_
   rintro e w1 ⟨⟨r,k,rfl,hk0,hk1⟩,hkw⟩
   go_wp2_with fail
   refine(notAscii_any w1 r).mono ?_
   rintro e w2 ⟨⟨t,rfl⟩,rfl⟩
   have hkw2:=hkp.trans hkw
   cases t
   ·have hjk:(j:Int)+k≤281474976710656:=by omega
    have hjk0:0≤(j:Int)+k:=by omega
    go_wp2_with fail
    go_roundw
    case rel=>exact⟨j+k.toNat,by congr 1;omega,by omega,hkw2⟩
    case measure=>simp[intOf];omega
   ·go_wp2_with fail
    go_ret
    exact⟨⟨_,rfl⟩,hkw2⟩
  ·go_wp2_with fail
   go_ret
   exact⟨⟨_,rfl⟩,hkp⟩
theorem IndexFunc_some (w:World)(b off c:Nat)(l:List UInt8)(hb:BytesAt w b off l)(hlt:b<w.heap.size)(hc:l.length≤c)(hcm:c≤281474976710656)(hT:Lib.Utf8Tabs 14 15 w) :
  Calls Tryz.prog 208 #[.slice (some ⟨b,off,none⟩) l.length c,notAsciiF] w fun e w'=>(∃i:Int,e=.returned (.int .i64 i))∧Kp (fun _=>False) w w':=by
 have H:=hid (indexFunc_some w b off c l hb hlt hc hcm hT)
 clear hb hT
 go_enter Tryz.func208,Tryz.ntmps208
 go_wp2_with fail
 refine H.out.mono ?_
 rintro e w1 ⟨⟨i,rfl⟩,hk⟩
 go_wp2_with fail
 go_ret
 exact⟨⟨_,rfl⟩,hk⟩
theorem nul_any (w:World)(b off c n:Nat)(x:UInt8)(hx:w.cell? ⟨b,off+n,none⟩=some (.int .u8 (x.toNat:Int)))(hn:n+1≤c)(hcm:c≤281474976710656) :
  Calls Tryz.prog 209 #[.slice (some ⟨b,off,none⟩) (n+1) c] w fun e w'=>(∃t:Bool,e=.returned (.bool t))∧w'=w:=by
 have hx0:=x.toNat_lt
 go_enter Tryz.func209,Tryz.ntmps209
 go_wp2_with fail
 go_ret
 exact⟨⟨_,rfl⟩,rfl⟩
theorem equal_any (w:World)(b1 o1 c1 b2 o2 c2:Nat)(l1 l2:List UInt8)(h1:BytesAt w b1 o1 l1)(h2:BytesAt w b2 o2 l2) :
  Calls Tryz.prog 203 #[.slice (some ⟨b1,o1,none⟩) l1.length c1, .slice (some ⟨b2,o2,none⟩) l2.length c2] w fun e w'=>e=.returned (.bool (l1==l2))∧w'=w:=by
 have e1:=conv_bytes h1 c1
 have e2:=conv_bytes h2 c2
 go_enter Tryz.func203,Tryz.ntmps203
 go_wp2_with fail
 go_ret
 exact⟨rfl,rfl⟩
structure RhIn (E:Nat→Addr)(B:Nat)(T:TypeId)(v:Value)(S:Nat→Prop)(inv:World→Nat→List UInt8→Prop)(R:Nat)(pad:Int)(curr:Value)(blk:List Value)(err:Value)(rest:List UInt8)(w:World):Prop where
 glob:Glob E B w
 tabs:Lib.Utf8Tabs 14 15 w
 low:16≤B
 rd:inv w 0 rest
 row:w.heap[R]?=some (.cells (trRow (.iface T v) pad curr blk err).toArray 158 (0,0))
 blen:blk.length=512
 out:¬S R
 above:B≤R
theorem RhIn.full {E:Nat→Addr}{B:Nat}{T:TypeId}{v:Value}{S:Nat→Prop}{inv:World→Nat→List UInt8→Prop}(hR:IsRd E B T v S inv)
  {R:Nat} {pad:Int} {curr:Value} {blk:List Value} {err:Value} {rest:List UInt8} {w:World} (h:RhIn E B T v S inv R pad curr blk err rest w) :
  Calls Tryz.prog 202 #[.iface T v, .slice (some ⟨R,3,none⟩) 512 512] w.drew fun e w'=>e=.returned (.tuple #[.int .i64 (min 512 rest.length:Nat),rfErr E 512 rest.length]) ∧
   Kp (fun k=>S k∨k=R) w w'∧RhIn E B T v S inv R pad curr (splice blk 0 (ubs (rest.take 512))) err (rest.drop 512) w':=by
 refine(readFull_any hR w.drew R 3 512 512 158 _ rest (h.glob.keep ((Kp.refl (fun _=>False) _).drew) (fun _ h=>h.elim)) (hR.frame h.rd (fun _ _=>rfl)) (by omega) h.row (by rw[trRow_len h.blen];omega) (by omega) h.out h.above).mono ?_
 rintro e w' ⟨he,hk,hb,hi⟩
 have hk':Kp (fun k=>S k∨k=R) w w':=((Kp.refl _ w).drew).trans hk
 have hlow:∀b,(S b∨b=R)→B≤b:=by rintro b (h1|rfl);exact hR.low _ h1;exact h.above
 have h16:=h.low
 refine⟨he,hk',⟨h.glob.keep hk' hlow,Utf8Tabs.keep h.tabs hk' (fun h1=>by have:=hlow _ h1;omega) (fun h1=>by have:=hlow _ h1;omega),h.low,hi,?_,?_,h.out,h.above⟩⟩
 ·rw[hb,trRow_splice _ (by rw[ubs_length,h.blen,List.length_take];omega)]
 ·rw[splice_len _ _ _ (by rw[h.blen,List.length_take];omega),h.blen]
def RowAt (w:World)(R:Nat):Prop:=∃x pad cur blk err,blk.length=512∧w.heap[R]?=some (.cells (trRow x pad cur blk err).toArray 158 (0,0))
theorem RowAt.keep {w w':World}{R:Nat}{S:Nat→Prop}(h:RowAt w R)(k:Kp S w w')(hS:¬S R):RowAt w' R:=by
 obtain⟨x,pad,cur,blk,err,h1,h2⟩:=h
 exact⟨x,pad,cur,blk,err,h1,k.heap h2 hS⟩
theorem RhIn.rowAt {E:Nat→Addr}{B:Nat}{T:TypeId}{v:Value}{S:Nat→Prop}{inv:World→Nat→List UInt8→Prop}{R:Nat}{pad:Int}{curr:Value}{blk:List Value}{err:Value}{rest:List UInt8}{w:World}
  (h:RhIn E B T v S inv R pad curr blk err rest w):RowAt w R:=⟨_,_,_,_,_,h.blen,h.row⟩
def RhErr (S:Nat→Prop)(R:Nat)(er:Value)(w:World)(e:Ending)(w':World):Prop:=
 e=.returned (.tuple #[.pointer none, .pointer none,er])∧Kp (fun k=>S k∨k=R) w w'∧RowAt w' R
theorem readHeader_short {E:Nat→Addr}{B:Nat}{T:TypeId}{v:Value}{S:Nat→Prop}{inv:World→Nat→List UInt8→Prop}(hR:IsRd E B T v S inv)
  (w:World) (R:Nat) (pad:Int) (curr:Value) (blk:List Value) (err:Value) (rest:List UInt8) (hi:RhIn E B T v S inv R pad curr blk err rest w) (hs:rest.length<512) :
  Calls Tryz.prog 127 #[.pointer (some ⟨R,0,none⟩)] w (RhErr S R (if rest.length=0 then errv (E 0) else errv (E 5)) w):=by
 have c0:w.cell? ⟨R,0,none⟩=some (.iface T v):=cell_of hi.row 0 rfl
 have HI:=hid hi
 clear hi
 obtain⟨er,her⟩:∃a,(if rest.length=0 then errv (E 0) else errv (E 5))=errv a:=by
  by_cases h:rest.length=0
  ·exact⟨E 0,if_pos h⟩
  ·exact⟨E 5,if_neg h⟩
 have hrf:rfErr E 512 rest.length=errv er:=by rw[rfErr,if_neg (by omega),her]
 rw[her]
 have HE:=hid hrf
 clear her hrf hs
 go_enter Tryz.func127,Tryz.ntmps127
 go_wp2_with fail
 refine region_seg [8] (by kernel_rfl) ?_
 simp only[wpSeg,sD,sE,sF,sG]
 repeat still_step
 refine wpStill_nil ?_
 go_wp2_with fail
 refine(HI.out.full hR).mono ?_
 rintro e w1 ⟨rfl,hk1,hi1⟩
 rw[HE.out]
 clear c0
 go_wp2_with fail
 repeat still_step
 refine wpStill_nil ?_
 go_wp2_with fail
 go_ret3
 exact⟨rfl,hk1,hi1.rowAt⟩
def zblk:List UInt8:=List.replicate 512 0
theorem zero156:Tryz.zeroCells156=(ubs zblk).toArray:=by kernel_rfl
theorem zero156_at (w:World):BytesAt (w.alloc (.cells Tryz.zeroCells156 156)).drew w.heap.size 0 zblk:=fun j v hv=>by
 have h:=cell_of (heap_drew (heap_new w (.cells Tryz.zeroCells156 156))) (0+j) (v:=v)
 rw[zero156] at h
 rw[zero156]
 exact h (by simpa using hv)
theorem equal512 (w:World)(R n:Nat)(l:List UInt8)(h1:BytesAt w R 3 l)(hl:l.length=512)(h2:BytesAt w n 0 zblk) :
  Calls Tryz.prog 203 #[.slice (some ⟨R,3,none⟩) 512 512, .slice (some ⟨n,0,none⟩) 512 512] w fun e w'=>e=.returned (.bool (l==zblk))∧w'=w:=by
 have:=equal_any w R 3 512 n 0 512 l zblk h1 h2
 rw[hl,show zblk.length=512 from List.length_replicate] at this
 exact this
theorem RhIn.bytes {E:Nat→Addr}{B:Nat}{T:TypeId}{v:Value}{S:Nat→Prop}{inv:World→Nat→List UInt8→Prop}
  {R:Nat} {pad:Int} {curr:Value} {l:List UInt8} {err:Value} {rest:List UInt8} {w:World} (h:RhIn E B T v S inv R pad curr (ubs l) err rest w):BytesAt w R 3 l:=fun j x hx=>by
 have hj:j<(ubs l).length:=by
  rcases Nat.lt_or_ge j (ubs l).length with h1|h1
  ·exact h1
  ·rw[List.getElem?_eq_none h1] at hx;cases hx
 exact cell_of h.row (3+j) (by rw[trRow_blk j hj];exact hx)
theorem RhIn.keep {E:Nat→Addr}{B:Nat}{T:TypeId}{v:Value}{S:Nat→Prop}{inv:World→Nat→List UInt8→Prop}(hR:IsRd E B T v S inv)
  {R:Nat} {pad:Int} {curr:Value} {blk:List Value} {err:Value} {rest:List UInt8} {w w':World} (h:RhIn E B T v S inv R pad curr blk err rest w) (k:Kp (fun _=>False) w w') :
  RhIn E B T v S inv R pad curr blk err rest w':=
 ⟨h.glob.keep k (fun _ h=>h.elim),Utf8Tabs.keep h.tabs k (fun h=>h) (fun h=>h),h.low,hR.frame h.rd (fun b hb=>k.block b ((hR.foot h.rd).2 b hb) (fun h=>h)),k.heap h.row (fun h=>h),h.blen,h.out,h.above⟩
theorem splice_all (blk:List Value)(l:List Value)(h:l.length=blk.length):splice blk 0 l=l:=by
 simp[splice,h]
theorem readHeader_zshort {E:Nat→Addr}{B:Nat}{T:TypeId}{v:Value}{S:Nat→Prop}{inv:World→Nat→List UInt8→Prop}(hR:IsRd E B T v S inv)
  (w:World) (R:Nat) (pad:Int) (curr:Value) (blk:List Value) (err:Value) (rest:List UInt8) (hi:RhIn E B T v S inv R pad curr blk err rest w)
  (hs:512≤rest.length) (hz:rest.take 512=List.replicate 512 0) (hs2:rest.length<1024) :
  Calls Tryz.prog 127 #[.pointer (some ⟨R,0,none⟩)] w (RhErr S R (if rest.length=512 then errv (E 0) else errv (E 5)) w):=by
 have c0:w.cell? ⟨R,0,none⟩=some (.iface T v):=cell_of hi.row 0 rfl
 have HI:=hid hi
 clear hi
 obtain⟨er,her⟩:∃a,(if rest.length=512 then errv (E 0) else errv (E 5))=errv a:=by
  by_cases h:rest.length=512
  ·exact⟨E 0,if_pos h⟩
  ·exact⟨E 5,if_neg h⟩
 have hrf:rfErr E 512 rest.length=.nilIface:=by rw[rfErr,if_pos hs]
 have hrf2:rfErr E 512 (rest.drop 512).length=errv er:=by
  rw[rfErr,List.length_drop,if_neg (by omega),←her]
  by_cases h:rest.length=512
  ·rw[if_pos (by omega),if_pos h]
  ·rw[if_neg (by omega),if_neg h]
 rw[her]
 have HE:=hid hrf
 have HE2:=hid hrf2
 have HS:=hid hs
 have HZ:=hid hz
 clear her hrf hs hrf2 hz
 go_enter Tryz.func127,Tryz.ntmps127
 go_wp2_with fail
 refine region_seg [8] (by kernel_rfl) ?_
 simp only[wpSeg,sD,sE,sF,sG]
 repeat still_step
 refine wpStill_nil ?_
 go_wp2_with fail
 refine(HI.out.full hR).mono ?_
 rintro e w1 ⟨rfl,hk1,hi1⟩
 rw[splice_all _ _ (by rw[ubs_length,HI.out.blen,List.length_take];have:=HS.out;omega),HZ.out] at hi1
 rw[HE.out]
 have hB1:BytesAt w1 R 3 zblk:=hi1.bytes
 have hB2:BytesAt (w1.alloc (.cells Tryz.zeroCells156 156)).drew R 3 zblk:=hB1.keep ((Kp.refl (fun _=>False) _).alloc _).drew (fun h=>h)
 have HB2:=hid hB2
 clear hB1 hB2
 clear c0
 go_wp2_with fail
 repeat still_step
 refine wpStill_nil ?_
 go_wp2_with fail
 go_region_with (go_at_call 203;refine(equal512 _ _ _ _ HB2.out rfl (zero156_at _)).mono ?_;rintro e w2 ⟨rfl,rfl⟩;rw[show (zblk==zblk)=true from by simp])
 have hi1k:=hi1.keep hR ((Kp.refl (fun _=>False) _).alloc (.cells Tryz.zeroCells156 156)).drew
 have hk1k:=(hk1.alloc (.cells Tryz.zeroCells156 156)).drew
 have HI2:=hid hi1k
 have HK1:=hid hk1k
 have c0:(w1.alloc (.cells Tryz.zeroCells156 156)).drew.cell? ⟨R,0,none⟩=some (.iface T v):=cell_of hi1k.row 0 rfl
 generalize (w1.alloc (.cells Tryz.zeroCells156 156)).drew=w2 at HI2 HK1 c0 ⊢
 clear hi1 hk1 hi1k hk1k HB2
 go_wp2_with fail
 refine region_seg [8] (by kernel_rfl) ?_
 simp only[wpSeg,sD,sE,sF,sG]
 repeat still_step
 refine wpStill_nil ?_
 go_wp2_with fail
 refine(HI2.out.full hR).mono ?_
 rintro e w3 ⟨rfl,hk3,hi3⟩
 rw[HE2.out]
 clear c0
 go_wp2_with fail
 repeat still_step
 refine wpStill_nil ?_
 go_wp2_with fail
 go_ret3
 exact⟨rfl,HK1.out.trans hk3,hi3.rowAt⟩
theorem readHeader_zz {E:Nat→Addr}{B:Nat}{T:TypeId}{v:Value}{S:Nat→Prop}{inv:World→Nat→List UInt8→Prop}(hR:IsRd E B T v S inv)
  (w:World) (R:Nat) (pad:Int) (curr:Value) (blk:List Value) (err:Value) (rest:List UInt8) (hi:RhIn E B T v S inv R pad curr blk err rest w)
  (hs2:1024≤rest.length) (hz:rest.take 512=List.replicate 512 0) (hz2:(rest.drop 512).take 512=List.replicate 512 0) :
  Calls Tryz.prog 127 #[.pointer (some ⟨R,0,none⟩)] w (RhErr S R (errv (E 0)) w):=by
 have hs:512≤rest.length:=by omega
 have c0:w.cell? ⟨R,0,none⟩=some (.iface T v):=cell_of hi.row 0 rfl
 have HI:=hid hi
 clear hi
 have hrf:rfErr E 512 rest.length=.nilIface:=by rw[rfErr,if_pos hs]
 have hrf2:rfErr E 512 (rest.drop 512).length=.nilIface:=by rw[rfErr,List.length_drop,if_pos (by omega)]
 have HZ2:=hid hz2
 have HE:=hid hrf
 have HE2:=hid hrf2
 have HS:=hid hs
 have HS2:=hid hs2
 have HZ:=hid hz
 clear hrf hs hrf2 hz hz2
 go_enter Tryz.func127,Tryz.ntmps127
 go_wp2_with fail
 refine region_seg [8] (by kernel_rfl) ?_
 simp only[wpSeg,sD,sE,sF,sG]
 repeat still_step
 refine wpStill_nil ?_
 go_wp2_with fail
 refine(HI.out.full hR).mono ?_
 rintro e w1 ⟨rfl,hk1,hi1⟩
 rw[splice_all _ _ (by rw[ubs_length,HI.out.blen,List.length_take];have:=HS.out;omega),HZ.out] at hi1
 rw[HE.out]
 have hB1:BytesAt w1 R 3 zblk:=hi1.bytes
 have hB2:BytesAt (w1.alloc (.cells Tryz.zeroCells156 156)).drew R 3 zblk:=hB1.keep ((Kp.refl (fun _=>False) _).alloc _).drew (fun h=>h)
 have HB2:=hid hB2
 clear hB1 hB2
 clear c0
 go_wp2_with fail
 repeat still_step
 refine wpStill_nil ?_
 go_wp2_with fail
 go_region_with (go_at_call 203;refine(equal512 _ _ _ _ HB2.out rfl (zero156_at _)).mono ?_;rintro e w2 ⟨rfl,rfl⟩;rw[show (zblk==zblk)=true from by simp])
 have hi1k:=hi1.keep hR ((Kp.refl (fun _=>False) _).alloc (.cells Tryz.zeroCells156 156)).drew
 have hk1k:=(hk1.alloc (.cells Tryz.zeroCells156 156)).drew
 have HI2:=hid hi1k
 have HK1:=hid hk1k
 have c0:(w1.alloc (.cells Tryz.zeroCells156 156)).drew.cell? ⟨R,0,none⟩=some (.iface T v):=cell_of hi1k.row 0 rfl
 generalize (w1.alloc (.cells Tryz.zeroCells156 156)).drew=w2 at HI2 HK1 c0 ⊢
 clear hi1 hk1 hi1k hk1k HB2
 go_wp2_with fail
 refine region_seg [8] (by kernel_rfl) ?_
 simp only[wpSeg,sD,sE,sF,sG]
 repeat still_step
 refine wpStill_nil ?_
 go_wp2_with fail
 refine(HI2.out.full hR).mono ?_
 rintro e w3 ⟨rfl,hk3,hi3⟩
 rw[splice_all _ _ (by rw[ubs_length,HI2.out.blen,List.length_take,List.length_drop];have:=HS2.out;omega),HZ2.out] at hi3
 rw[HE2.out]
 have hB1:BytesAt w3 R 3 zblk:=hi3.bytes
 have hB2:BytesAt (w3.alloc (.cells Tryz.zeroCells156 156)).drew R 3 zblk:=hB1.keep ((Kp.refl (fun _=>False) _).alloc _).drew (fun h=>h)
 have HB2:=hid hB2
 clear hB1 hB2 c0
 go_wp2_with fail
 repeat still_step
 refine wpStill_nil ?_
 go_wp2_with fail
 go_region_with (go_at_call 203;refine(equal512 _ _ _ _ HB2.out rfl (zero156_at _)).mono ?_;rintro e w2 ⟨rfl,rfl⟩;rw[show (zblk==zblk)=true from by simp])
 have hg:=(hi3.keep hR ((Kp.refl (fun _=>False) _).alloc (.cells Tryz.zeroCells156 156)).drew).glob.eof
 have hk3k:=(hk3.alloc (.cells Tryz.zeroCells156 156)).drew
 have hra:=hid (hi3.keep hR ((Kp.refl (fun _=>False) _).alloc (.cells Tryz.zeroCells156 156)).drew).rowAt
 generalize (w3.alloc (.cells Tryz.zeroCells156 156)).drew=w4 at hg hk3k hra ⊢
 clear HB2 hi3 hk3
 go_wp2_with fail
 go_quiet (fail)
 go_wp2_with fail
 go_ret3
 exact⟨rfl,(HK1.out.trans hk3k).drewN _,hra.out.keep ((Kp.refl (fun _=>False) _).drewN _) (fun h=>h)⟩
theorem readHeader_bad {E:Nat→Addr}{B:Nat}{T:TypeId}{v:Value}{S:Nat→Prop}{inv:World→Nat→List UInt8→Prop}(hR:IsRd E B T v S inv)
  (w:World) (R:Nat) (pad:Int) (curr:Value) (blk:List Value) (err:Value) (rest:List UInt8) (hi:RhIn E B T v S inv R pad curr blk err rest w)
  (hs:512≤rest.length) (hz:(rest.take 512==zblk)=false) (n:Nat) (ho:OctAt (fld (rest.take 512) 148 8) n)
  (hbad:¬((n:Int)=usumTo (rest.take 512) 512∨(n:Int)=ssumTo (rest.take 512) 512)) :
  Calls Tryz.prog 127 #[.pointer (some ⟨R,0,none⟩)] w (RhErr S R (errv (E 1)) w):=by
 have c0:w.cell? ⟨R,0,none⟩=some (.iface T v):=cell_of hi.row 0 rfl
 have HI:=hid hi
 clear hi
 have hrf:rfErr E 512 rest.length=.nilIface:=by rw[rfErr,if_pos hs]
 have HE:=hid hrf
 have htl:(rest.take 512).length=512:=by rw[List.length_take];omega
 have HF:=fun w1 hb hlt=>hid (getFormat_bad w1 R 3 n (rest.take 512) hb htl hlt ho hbad)
 have HL:=hid htl
 have HZ:=hid hz
 obtain⟨l,hl⟩:∃l,rest.take 512=l:=⟨_,rfl⟩
 have HR:=hid hl
 rw[hl] at HF HL HZ
 clear hrf hs hz htl ho hbad hl
 go_enter Tryz.func127,Tryz.ntmps127
 go_wp2_with fail
 refine region_seg [8] (by kernel_rfl) ?_
 simp only[wpSeg,sD,sE,sF,sG]
 repeat still_step
 refine wpStill_nil ?_
 go_wp2_with fail
 refine(HI.out.full hR).mono ?_
 rintro e w1 ⟨rfl,hk1,hi1⟩
 rw[splice_all _ _ (by rw[ubs_length,HI.out.blen,HR.out,HL.out]),HR.out] at hi1
 rw[HE.out]
 have hB1:BytesAt w1 R 3 l:=hi1.bytes
 have hB2:BytesAt (w1.alloc (.cells Tryz.zeroCells156 156)).drew R 3 l:=hB1.keep ((Kp.refl (fun _=>False) _).alloc _).drew (fun h=>h)
 have HB2:=hid hB2
 clear hB1 hB2 c0
 go_wp2_with fail
 repeat still_step
 refine wpStill_nil ?_
 go_wp2_with fail
 go_region_with (go_at_call 203;refine(equal512 _ _ _ _ HB2.out HL.out (zero156_at _)).mono ?_;rintro e w2 ⟨rfl,rfl⟩;rw[HZ.out])
 have hi1k:=hi1.keep hR ((Kp.refl (fun _=>False) _).alloc (.cells Tryz.zeroCells156 156)).drew
 have hk1k:=(hk1.alloc (.cells Tryz.zeroCells156 156)).drew
 have HI2:=hid hi1k
 have HK1:=hid hk1k
 have hB3:=HB2.out
 generalize (w1.alloc (.cells Tryz.zeroCells156 156)).drew=w2 at HI2 HK1 hB3 ⊢
 clear hi1 hk1 hi1k hk1k HB2
 go_wp2_with fail
 refine(HF w2 hB3 (lt_of HI2.out.row)).out.mono ?_
 rintro e w3 ⟨rfl,hk3⟩
 have hg:w3.cell? ⟨1,0,none⟩=some (errv (E 1)):=((HI2.out.keep hR hk3).glob.var 1 (by decide)).2
 go_wp2_with fail
 go_quiet (fail)
 go_wp2_with fail
 go_ret3
 exact⟨rfl,(HK1.out.then hk3 (fun _ _ h=>h.elim)).drewN _,(HI2.out.keep hR hk3).rowAt.keep ((Kp.refl (fun _=>False) _).drewN _) (fun h=>h)⟩
end Go.Proofs.YtgfcnjfmmjcodaaGreatDoor
