/- bytes.Trim of spaces and bytes 0. -/
import Derived.Laws.Rows
import Derived.Laws.ResultCell
import Derived.LaidLaws
import Derived.Test.YtgfcnjfmmjcodaaGreatDoorP02
set_option linter.all false
set_option maxRecDepth 100000
set_option maxHeartbeats 1000000
open Go.Lib (hid)
namespace Go.Proofs.YtgfcnjfmmjcodaaGreatDoor
section
open Go.RowKit
theorem Gz (w:World)(b c:Nat)(v:Bool)(hc:w.cell? ⟨b,c,none⟩=some (.bool v))(h:c<256) :
  Calls Tryz.prog 348 #[.pointer (some ⟨b,0,none⟩), .int .u8 c] w fun e w'=>e=.returned (.bool v)∧w'=w:=by
 go_enter Tryz.func348,Tryz.ntmps348
 go_wp2_with fail
 go_ret
 exact⟨rfl,rfl⟩
noncomputable def setA:Array Value:=(Tryz.zeroCells413.setIfInBounds 32 (.bool true)).setIfInBounds 0 (.bool true)
noncomputable def Bbc:Array Value:=Tryz.zeroCells413.setIfInBounds 32 (.bool true)
theorem Rj:Tryz.zeroCells413.size=256:=by kernel_rfl
theorem Ev:setA.size=256:=by simp[setA]
def Gh (c:Nat):Bool:=c==32||c==0
theorem Jd (c:Nat)(h:c<256):Tryz.zeroCells413[c]?=some (.bool false):=by
 have h1:Tryz.zeroCells413=Array.replicate 256 (.bool false):=by kernel_rfl
 rw[h1,Array.getElem?_replicate,if_pos h]
theorem L2 (c:Nat)(h:c<256):setA[c]?=some (.bool (Gh c)):=by
 unfold setA Gh;rw[Array.getElem?_setIfInBounds,Array.getElem?_setIfInBounds];by_cases h0:0=c
 ·subst h0;simp
 ·by_cases h1:32=c
  ·subst h1;simp
  ·rw[if_neg h0,if_neg h1,Jd c h];(have e1:(c==32)=false:=by simp;omega);(have e2:(c==0)=false:=by simp;omega);rw[e1,e2];rfl
theorem Uw:setA.all (·.oneCell')=true:=by
 rw[Array.all_eq_true];intro i hi;have:=L2 i (by rw[Ev] at hi;exact hi)
 rw[Array.getElem?_eq_getElem hi] at this;rw[Option.some.inj this];rfl
theorem Bdn (w:World):Calls Tryz.prog 327 #[.string ⟨#[32,0]⟩] w fun e w'=>e=.returned (.tuple #[.agg setA, .bool true])∧Kp (fun _=>False) w w':=by
 have h0:(w.alloc (.cells Tryz.zeroCells413 413)).heap[w.heap.size]?=some (.cells Tryz.zeroCells413 413 (0,0)):=Ba w _;have i0:∀w,(Instr.index 9 (.string ⟨#[32,0]⟩) (.int .i64 0)).run Tryz.prog w=.ok (.int .u8 32) w:=fun _=>by kernel_rfl
 have i1:∀w,(Instr.index 9 (.string ⟨#[32,0]⟩) (.int .i64 1)).run Tryz.prog w=.ok (.int .u8 0) w:=fun _=>by kernel_rfl
 go_enter Tryz.func327,Tryz.ntmps327
 go_wp2_with fail
 go_loopw [4] (fun i wr=>Kp (fun _=>False) w wr∧(i=.int .i64 0∧wr.heap[w.heap.size]?=some (.cells Tryz.zeroCells413 413 (0,0))∨i=.int .i64 1∧wr.heap[w.heap.size]?=some (.cells Bbc 413 (0,0))∨i=.int .i64 2∧wr.heap[w.heap.size]?=some (.cells setA 413 (0,0)))) (fun i _=>2-(intOf i).toNat)
 case atStart=>exact⟨Kp.alloc (Kp.refl _ _) _, .inl ⟨rfl,h0⟩⟩
 case round=>
  obtain⟨hk,⟨rfl,hr⟩|⟨rfl,hr⟩|⟨rfl,hr⟩⟩:=hrel
  ·(have c0:=cell_of hr 32 (Jd 32 (by omega)));have f0:=Bb hr 32;(go_wp2_with fail);go_roundw
   case rel=>exact⟨Kp.setCell hk (.inr (Nat.le_refl _)) _, .inr (.inl ⟨rfl,heap_set hr 32 _⟩)⟩
   case measure=>simp[intOf]
  ·(have c0:=cell_of hr 0 (show Bbc[0]?=some (.bool false) by unfold Bbc;rw[Array.getElem?_setIfInBounds_ne (by omega)];exact Jd 0 (by omega)));have f0:=Bb hr 0;(go_wp2_with fail);go_roundw
   case rel=>exact⟨Kp.setCell hk (.inr (Nat.le_refl _)) _, .inr (.inr ⟨rfl,heap_set hr 0 _⟩)⟩
   case measure=>simp[intOf]
  ·(go_wp2_with (first|(refine wpList_load_row rfl 413 _ rfl w.heap.size rfl 413 setA (0,0) _ hr Tryz.underlying413 rfl (by rw[Ev];kernel_rfl) ?_)|(refine wpList_store_row rfl 413 _ _ rfl w.heap.size setA rfl rfl 413 setA hr (by rw[Ev];kernel_rfl) rfl Uw ?_)));have hr2:(wr.setRow w.heap.size setA).heap[w.heap.size]?=some (.cells setA 413 (0,0)):=setRow_heap wr _ _ _ _ _ hr;refine bodyPost_ret (v:=.tuple #[.agg setA, .bool true]) ?_ rfl ⟨rfl,Kp.setRow hk (.inr (Nat.le_refl _)) _⟩;rw[results_cell_tmp rfl];show ((asAddr (.pointer (some ⟨w.heap.size,0,none⟩))).run Tryz.prog _).andThen _=_;(simp only[asAddr,Sem.run_pure,Result.andThen_ok,run_loadVar_row _ w.heap.size 413 413 setA (0,0) _ hr2 Tryz.underlying413 rfl (by rw[Ev];kernel_rfl)]);rfl
def BytesAt (w:World)(b off:Nat)(l:List UInt8):Prop:=∀(j:Nat) (v:Value),(ubs l)[j]?=some v→w.cell? ⟨b,off+j,none⟩=some v
theorem BytesAt.get {w:World}{b off:Nat}{l:List UInt8}(h:BytesAt w b off l)(j:Nat)(hj:j<l.length):w.cell? ⟨b,off+j,none⟩=some (.int .u8 (l[j].toNat:Int)):=
 h j _ (by rw[Cy,List.getElem?_eq_getElem hj];rfl)
theorem BytesAt.keep {w w':World}{b off:Nat}{l:List UInt8}{S:Nat→Prop}(h:BytesAt w b off l)(k:Kp S w w')(hs:¬S b):BytesAt w' b off l:=
 fun j v hv=>k.cell (h j v hv) hs
theorem BytesAt.left {w:World}{b off:Nat}{l m:List UInt8}(h:BytesAt w b off (l++m)):BytesAt w b off l:=fun j v hv=>h j v (by
 have hj:j<(ubs l).length:=(List.getElem?_eq_some_iff.1 hv).1
 rw[D2,List.getElem?_append_left hj];exact hv)
theorem BytesAt.right {w:World}{b off:Nat}{l m:List UInt8}(h:BytesAt w b off (l++m)):BytesAt w b (off+l.length) m:=fun j v hv=>by
 have:=h (l.length+j) v (by rw[D2,List.getElem?_append_right (by rw[Bi];omega),Bi,Nat.add_sub_cancel_left];exact hv)
 rwa[←Nat.add_assoc] at this
theorem Ov (w:World)(b off c sb:Nat)(ds tl:List UInt8)(hb:BytesAt w b off (ds++tl))(hsb:w.heap[sb]?=some (.cells setA 413 (0,0)))
  (hc:ds.length+tl.length≤c) (hcm:c≤281474976710656) (htl:∀x∈tl,Gh x.toNat=true) (hds:∀h:ds≠[],Gh (ds.getLast h).toNat=false) :
  Calls Tryz.prog 329 #[.slice (some ⟨b,off,none⟩) (ds.length+tl.length) c, .pointer (some ⟨sb,0,none⟩)] w fun e w'=>e=.returned (.slice (some ⟨b,off,none⟩) ds.length c)∧w'=w:=by
 have HT:=hid htl;have HD:=hid hds;have HB:=hid hb;clear htl hds hb;have hdl:ds.length≤281474976710656:=by omega
 go_enter Tryz.func329,Tryz.ntmps329
 go_wp2_with fail
 go_loop [0] (fun s=>∃k:Nat,k≤tl.length∧s=.slice (some ⟨b,off,none⟩) (ds.length+k) c) (fun s=>match s with| .slice _ n _=>n|_=>0)
 case atStart=>exact⟨tl.length,Nat.le_refl _,rfl⟩
 case round=>
  obtain⟨k,hk,rfl⟩:=hrel;by_cases hk0:0<k
  ·(have hj:ds.length+(k-1)<(ds++tl).length:=by rw[List.length_append];omega);have hg:=HB.out.get (ds.length+(k-1)) hj;have hin:Gh ((ds++tl)[ds.length+(k-1)]).toNat=true:=by
    (rw[List.getElem_append_right (by omega)]);exact HT.out _ (List.getElem_mem _)
   generalize (ds++tl)[ds.length+(k-1)]=x at hg hin;have hx:x.toNat<256:=x.toNat_lt;have hs:=cell_of hsb x.toNat (L2 _ hx);rw[hin] at hs;(have hoff:off+(ds.length+k-1)=off+(ds.length+(k-1)):=by omega);rw[←hoff] at hg;clear hin hoff;(go_wp2_with (go_at_call 348;refine(Gz w sb x.toNat true hs hx).mono ?_;rintro e w' ⟨rfl,rfl⟩));go_round
   case rel=>exact⟨k-1,by omega,by rw[show ds.length+k-1=ds.length+(k-1) by omega]⟩
   case measure=>simp;omega
  ·(obtain rfl:k=0:=by omega);rw[Nat.add_zero];by_cases hd:ds=[]
   ·subst hd;rw[List.length_nil];(go_wp2_with fail);(go_ret);exact⟨rfl,rfl⟩
   ·have hpos:0<ds.length:=List.length_pos_iff.2 hd;(have hg:=HB.out.left.get (ds.length-1) (by omega));have hin:=HD.out hd;rw[List.getLast_eq_getElem] at hin;generalize ds[ds.length-1]=x at hg hin;have hx:x.toNat<256:=x.toNat_lt;have hs:=cell_of hsb x.toNat (L2 _ hx);rw[hin] at hs;clear hin;(go_wp2_with (go_at_call 348;refine(Gz w sb x.toNat false hs hx).mono ?_;rintro e w' ⟨rfl,rfl⟩));(go_ret);exact⟨rfl,rfl⟩
theorem Rk (w:World)(b off n c sb:Nat)(x:UInt8)(l:List UInt8)(hb:BytesAt w b off (x::l))(hsb:w.heap[sb]?=some (.cells setA 413 (0,0)))
  (hn:1≤n) (hnm:n≤281474976710656) (hx0:Gh x.toNat=false) :
  Calls Tryz.prog 328 #[.slice (some ⟨b,off,none⟩) n c, .pointer (some ⟨sb,0,none⟩)] w fun e w'=>e=.returned (.slice (some ⟨b,off,none⟩) n c)∧w'=w:=by
 have hg:w.cell? ⟨b,off,none⟩=some (.int .u8 (x.toNat:Int)):=hb.get 0 (by simp)
 have hx:x.toNat<256:=x.toNat_lt;have hs:=cell_of hsb x.toNat (L2 _ hx);rw[hx0] at hs;clear hx0 hb;have hn0:((n:Int)==0)=false:=by rw[beq_eq_false_iff_ne];omega
 go_enter Tryz.func328,Tryz.ntmps328
 go_wp2_with fail
 go_loop [0] (fun s=>s=.slice (some ⟨b,off,none⟩) n c) (fun s=>match s with| .slice _ n _=>n|_=>0)
 case atStart=>rfl
 case round=>
  subst hrel;go_wp2_with (go_at_call 348;refine(Gz w sb x.toNat false hs hx).mono ?_;rintro e w' ⟨rfl,rfl⟩)
  go_ret
  exact⟨rfl,rfl⟩
theorem Bbd (w:World)(b off c:Nat)(ds tl:List UInt8)(hb:BytesAt w b off (ds++tl))(hlt:b<w.heap.size)
  (hc:ds.length+tl.length≤c) (hcm:c≤281474976710656) (htl:∀x∈tl,Gh x.toNat=true) (hds:∀x∈ds,Gh x.toNat=false) (hne:1≤ds.length) :
  Calls Tryz.prog 293 #[.slice (some ⟨b,off,none⟩) (ds.length+tl.length) c, .string ⟨#[32,0]⟩] w fun e w'=>e=.returned (.slice (some ⟨b,off,none⟩) ds.length c)∧Kp (fun _=>False) w w':=by
 have hn0:(((ds.length:Int)+(tl.length:Int))==0)=false:=by rw[beq_eq_false_iff_ne];omega
 have HT:=hid htl;have HD:=hid hds;have HB:=hid hb;clear htl hds hb;go_enter Tryz.func293,Tryz.ntmps293
 go_wp2_with fail
 refine(Bdn w).mono ?_;rintro e w1 ⟨rfl,hk1⟩;have hB1:=HB.out.keep hk1 (fun h=>h);have hlt1:b<w1.heap.size:=Nat.lt_of_lt_of_le hlt hk1.size;have hnw:(w1.alloc (.cells Tryz.zeroCells413 413)).heap[w1.heap.size]?=some (.cells Tryz.zeroCells413 413 (0,0)):=Ba w1 _;have hset:((w1.alloc (.cells Tryz.zeroCells413 413)).setRow w1.heap.size setA).heap[w1.heap.size]?=some (.cells setA 413 (0,0)):=setRow_heap _ _ _ _ _ _ hnw;have hk2:Kp (fun _=>False) w1 ((w1.alloc (.cells Tryz.zeroCells413 413)).setRow w1.heap.size setA):=Kp.setRow (Kp.alloc (Kp.refl _ _) _) (.inr (Nat.le_refl _)) _;have hB2:=hB1.keep hk2 (fun h=>h);have hkk:=hk1.trans hk2;have HN:=hid hnw;clear hnw;go_wp2_with (refine wpList_store_row rfl 413 (.tmp 5) (.tmp 31) rfl w1.heap.size setA rfl rfl 413 Tryz.zeroCells413 HN.out (by rw[Ev];kernel_rfl) (by rw[Ev,Rj]) Uw ?_)
 obtain⟨W2,hW2⟩:∃W2,W2=(w1.alloc (.cells Tryz.zeroCells413 413)).setRow w1.heap.size setA:=⟨_,rfl⟩;rw[←hW2] at hset hB2 hkk ⊢;clear hW2 hk2;refine(Ov W2 b off c w1.heap.size ds tl hB2 hset (by omega) hcm HT.out (fun h=>HD.out _ (List.getLast_mem h))).mono ?_
 rintro e w3 ⟨rfl,rfl⟩;go_wp2_with fail
 obtain⟨x,l,hxl⟩:∃x l,ds=x::l:=by
  cases ds with
  |nil=>simp at hne
  |cons x l=>exact⟨x,l,rfl⟩
 have hx:Gh x.toNat=false:=HD.out x (by rw[hxl];simp)
 have hB3:BytesAt w3 b off (x::l):=by rw[←hxl];exact hB2.left
 refine(Rk w3 b off ds.length c w1.heap.size x l hB3 hset hne (by omega) hx).mono ?_
 rintro e w4 ⟨rfl,rfl⟩;clear hxl;go_wp2_with fail
 go_ret
 exact⟨rfl,hkk⟩
end
section
open Go Go.RowKit
theorem c90:Tryz.prog.cellsOf 329=1:=by kernel_rfl
theorem c9':Tryz.prog.cellsOf 9=1:=by kernel_rfl
theorem Ux : "*" ++ "errors.errorString" = "*errors.errorString" := by decide
theorem Be1 (u : TypeId) (h : Tryz.prog.typeName? 3 u = some "*errors.errorString") : u = 327 :=
 typeName_ptr_named (nm := "errors.errorString") (by rw [Ux]; kernel_rfl) (by kernel_rfl) (by decide) u (by rw [Ux]; exact h)
end
end Go.Proofs.YtgfcnjfmmjcodaaGreatDoor
