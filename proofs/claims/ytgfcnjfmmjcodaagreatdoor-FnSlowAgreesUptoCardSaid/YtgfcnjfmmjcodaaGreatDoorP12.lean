/- Ranging over a map of texts. -/
import Derived.Maps.RangeWalk
import Derived.Sort.MapsRangeIn
import Derived.Laws.IdiomRangeMap
import Derived.Maps.OwnSet
import Derived.Test.YtgfcnjfmmjcodaaGreatDoorP11
set_option linter.all false
set_option maxRecDepth 100000
set_option maxHeartbeats 1000000
open Go.Lib (hid)
namespace Go.Proofs.YtgfcnjfmmjcodaaGreatDoor
section
open Go Go.RowKit Go.Maps
def Rg (w:World)(b r:Nat)(M:List UInt8→Option (List UInt8))(left:List UInt8→Bool):Prop:=
 ∃D n L cnt,w.ranges Tryz.prog 9 (plainElem Tryz.prog 9) b r n D L cnt∧MapH D M∧∀k,left k=L (.string k)
theorem Rg.keep {w w':World}{b r:Nat}{M:List UInt8→Option (List UInt8)}{left:List UInt8→Bool}{S:Nat→Prop}(h:Rg w b r M left)(k:Kp S w w')(hb:¬S b)(hr:¬S r):Rg w' b r M left:=by
 obtain⟨D,n,L,cnt,⟨es,clock,since,seen,c0,h1,F,hs,hD,h2,rest⟩,h3⟩:=h;exact⟨D,n,L,cnt,⟨es,clock,since,seen,c0,k.heap h1 hb,F,hs,hD,k.heap h2 hr,rest⟩,h3⟩
theorem Rg.lt {w:World}{b r:Nat}{M:List UInt8→Option (List UInt8)}{left:List UInt8→Bool}(h:Rg w b r M left):r<w.heap.size:=by
 obtain⟨D,n,L,cnt,h1,_⟩:=h;exact h1.lt
theorem Rg.rangeLeft {w w':World}{b r:Nat}{M:List UInt8→Option (List UInt8)}{left:List UInt8→Bool}{S:Nat→Prop}(h:Rg w b r M left)(k:Kp S w w')(hb:¬S b)(hr:¬S r):w'.rangeLeft b r=w.rangeLeft b r:=by
 obtain⟨D,n,L,cnt,⟨es,clock,since,seen,c0,h1,F,hs,hD,h2,rest⟩,h3⟩:=h;simp only[World.rangeLeft,h1,h2,k.heap h1 hb,k.heap h2 hr]
theorem Le {w:World}{ops:Array Oper}{rest:List Oper}{o:Oper}{a:Act}{Q:Exit→Act→World→Prop}(hg:o.guard=none)(m:Operand)(hop:o.op=Op.range 164 m)
  (b n:Nat) (M:List UInt8→Option (List UInt8)) (hm:a.eval m=.map (some b)) (h:MapIs w b n M)
  (hK:∀w',Rg w' b w.heap.size M (fun k=>(M k).isSome)→Kp (fun _=>False) w w'→wpList Tryz.prog ops Q rest (a.put o.dst (.pointer (some ⟨w.heap.size,0,none⟩))) w'):wpList Tryz.prog ops Q (o::rest) a w:=by
 obtain⟨D,hown,hD⟩:=h;refine wpList_range_own w hg m 164 hop 9 9 Bbx Tryz.underlying164 _ b n D hm hown ?_;intro w' h1 h2 h3;refine hK w' ⟨D,n,_,_,h1,hD,fun k=>(hD.has k).symm⟩ ((Kp.of_grownBy h2).mono (by intro i _ hi;cases hi))
theorem Mz {w:World}{ops:Array Oper}{rest:List Oper}{o:Oper}{a:Act}{Q:Exit→Act→World→Prop}(hg:o.guard=none)(it:Operand)(hop:o.op=Op.next it false)
  (b r:Nat) (M:List UInt8→Option (List UInt8)) (left:List UInt8→Bool) (hit:a.eval it=.pointer (some ⟨r,0,none⟩)) (h:Rg w b r M left)
  (hDone:(∀k,left k=false)→wpList Tryz.prog ops Q rest (a.put o.dst (.tuple #[.bool false])) w)
  (hMore:∀(k v:List UInt8) (w':World),left k=true→M k=some v→k.length≤281474976710656*1048576→v.length≤281474976710656*1048576→Rg w' b r M (fun z=>left z&& !(z==k))→w'.rangeLeft b r<w.rangeLeft b r→Kp (· =r) w w' →
   (Instr.entry (.pointer (some ⟨r,0,none⟩))).run Tryz.prog w'=.ok (.tuple #[.string ⟨k.toArray⟩, .string ⟨v.toArray⟩]) w'→wpList Tryz.prog ops Q rest (a.put o.dst (.tuple #[.bool true, .string ⟨k.toArray⟩, .string ⟨v.toArray⟩])) w'):wpList Tryz.prog ops Q (o::rest) a w:=by
 obtain⟨D,n,L,cnt,hrg,hD,hL⟩:=h
 refine wpList_next_ranges w hg it hop 9 Bbx (plainElem Tryz.prog 9) Value.string Value.string (fun key kl hkey=>Maps.keyOf_string_inv Tryz.underlying9 hkey) (fun v y hv=>by obtain⟨c,rfl,_⟩:=plainElem_string_inv Tryz.underlying9 hv;exact⟨c,rfl⟩)
  b r n D L cnt hit hrg (fun _ hl=>hDone fun k=>(hL k).trans (hl _)) ?_
 intro x c kl y w' cnt' hkey hlk hv hat hrg' hlt hgr hsz hen;obtain⟨c',ec,rfl,hwc⟩:=plainElem_string_inv Tryz.underlying9 hv;cases ec;have hxs:x.size≤maxLen:=by
  rcases Nat.lt_or_ge maxLen x.size with h|h
  ·exfalso;simp[keyOf,Tryz.underlying9,mapKey] at hkey;omega
  ·exact h
 have hk2:=WideMaps.keyOf_string_mk (P:=Tryz.prog) Tryz.underlying9 hxs;rw[hk2] at hkey;injection hkey with hkey
 subst hkey;have ex:x=⟨x.data.toList.toArray⟩:=by simp
 have ec:c=⟨c.data.toList.toArray⟩:=by simp
 generalize x.data.toList=k at *;generalize c.data.toList=v at *;subst ex ec;have hM:M k=some v:=by
  cases hm:M k with
  |none=>
   have h1:=hD.has k;rw[hm,has_true_of_atKey hat] at h1;cases h1
  |some u=>
   have h1:=(hD.at_ k u hm .nil).symm.trans (hat .nil);simp only[DataW.lit.injEq,Lit.string.injEq] at h1;rw[h1]
 refine hMore k v w' ((hL k).trans hlk) hM (by have:k.length≤maxLen:=hxs;unfold maxLen at this;omega) (by have:v.length≤maxLen:=hwc;unfold maxLen at this;omega) ⟨D,n,_,cnt',hrg',hD,fun z=>?_⟩ (by rw[hrg'.left_eq,hrg.left_eq];exact hlt) ((Kp.of_grownBy hgr).mono (by intro i _ hi;injection hi)) hen
 show (left z&& !(z==k))=_;rw[hL z];congr 2
end
section
open Go Go.RowKit
def tc0 (has:Bool)(n:Int):Value:=.int .u64 (if has then n else 0)
def tc1 (has:Bool)(s:Int):Value:=.int .i64 (if has then s+62135596800 else 0)
def B2 (h:Hd)(x p:Value)(f:Int):List Value:=
 [.int .u8 h.typ.toNat,B5 h.name,B5 h.link, .int .i64 h.size, .int .i64 h.mode, .int .i64 h.uid, .int .i64 h.gid,B5 h.un,B5 h.gn, .int .u64 h.mn, .int .i64 (h.ms+62135596800),
  tc0 h.hasA h.atn,tc1 h.hasA h.ats,tc0 h.hasC h.ctn,tc1 h.hasC h.cts, .int .i64 h.maj, .int .i64 h.min,x,p, .int .i64 f]
def mix (d:List UInt8→Bool)(a b:Hd):Hd:=
 {a with name:=if d Bo then b.name else a.name,link:=if d Br then b.link else a.link,un:=if d Bj then b.un else a.un,gn:=if d Bm then b.gn else a.gn,
          uid:=if d Ck then b.uid else a.uid,gid:=if d Cn then b.gid else a.gid,size:=if d B1 then b.size else a.size,
          ms:=if d kMtime then b.ms else a.ms,mn:=if d kMtime then b.mn else a.mn,
          hasA:=if d kAtime then b.hasA else a.hasA,ats:=if d kAtime then b.ats else a.ats,atn:=if d kAtime then b.atn else a.atn,
          hasC:=if d kCtime then b.hasC else a.hasC,cts:=if d kCtime then b.cts else a.cts,ctn:=if d kCtime then b.ctn else a.ctn}
section
variable {d d':List UInt8→Bool} {a b:Hd} {x p:Value} {f:Int}
theorem Bb4 (h:∀k,d k=false):B2 (mix d a b) x p f=B2 a x p f:=by simp[mix,B2,h]
theorem Bb5 (h:∀z,d' z=(d z||z==Bo)):B2 (mix d' a b) x p f=(B2 (mix d a b) x p f).set 1 (B5 b.name):=by
 simp only[B2,mix,h,show (Br==Bo)=false by decide,show (Bj==Bo)=false by decide,show (Bm==Bo)=false by decide,show (Ck==Bo)=false by decide,show (Cn==Bo)=false by decide,show (kAtime==Bo)=false by decide,show (kMtime==Bo)=false by decide,show (kCtime==Bo)=false by decide,show (B1==Bo)=false by decide,Bool.or_false,show (Bo==Bo)=true by decide,Bool.or_true,if_true,tc0,tc1]
 rfl
theorem Bb6 (h:∀z,d' z=(d z||z==Br)):B2 (mix d' a b) x p f=(B2 (mix d a b) x p f).set 2 (B5 b.link):=by
 simp only[B2,mix,h,show (Bo==Br)=false by decide,show (Bj==Br)=false by decide,show (Bm==Br)=false by decide,show (Ck==Br)=false by decide,show (Cn==Br)=false by decide,show (kAtime==Br)=false by decide,show (kMtime==Br)=false by decide,show (kCtime==Br)=false by decide,show (B1==Br)=false by decide,Bool.or_false,show (Br==Br)=true by decide,Bool.or_true,if_true,tc0,tc1]
 rfl
theorem Z7 (h:∀z,d' z=(d z||z==Bj)):B2 (mix d' a b) x p f=(B2 (mix d a b) x p f).set 7 (B5 b.un):=by
 simp only[B2,mix,h,show (Bo==Bj)=false by decide,show (Br==Bj)=false by decide,show (Bm==Bj)=false by decide,show (Ck==Bj)=false by decide,show (Cn==Bj)=false by decide,show (kAtime==Bj)=false by decide,show (kMtime==Bj)=false by decide,show (kCtime==Bj)=false by decide,show (B1==Bj)=false by decide,Bool.or_false,show (Bj==Bj)=true by decide,Bool.or_true,if_true,tc0,tc1]
 rfl
theorem Z8 (h:∀z,d' z=(d z||z==Bm)):B2 (mix d' a b) x p f=(B2 (mix d a b) x p f).set 8 (B5 b.gn):=by
 simp only[B2,mix,h,show (Bo==Bm)=false by decide,show (Br==Bm)=false by decide,show (Bj==Bm)=false by decide,show (Ck==Bm)=false by decide,show (Cn==Bm)=false by decide,show (kAtime==Bm)=false by decide,show (kMtime==Bm)=false by decide,show (kCtime==Bm)=false by decide,show (B1==Bm)=false by decide,Bool.or_false,show (Bm==Bm)=true by decide,Bool.or_true,if_true,tc0,tc1]
 rfl
theorem Bd0 (h:∀z,d' z=(d z||z==Ck)):B2 (mix d' a b) x p f=(B2 (mix d a b) x p f).set 5 (.int .i64 b.uid):=by
 simp only[B2,mix,h,show (Bo==Ck)=false by decide,show (Br==Ck)=false by decide,show (Bj==Ck)=false by decide,show (Bm==Ck)=false by decide,show (Cn==Ck)=false by decide,show (kAtime==Ck)=false by decide,show (kMtime==Ck)=false by decide,show (kCtime==Ck)=false by decide,show (B1==Ck)=false by decide,Bool.or_false,show (Ck==Ck)=true by decide,Bool.or_true,if_true,tc0,tc1]
 rfl
theorem Bd1 (h:∀z,d' z=(d z||z==Cn)):B2 (mix d' a b) x p f=(B2 (mix d a b) x p f).set 6 (.int .i64 b.gid):=by
 simp only[B2,mix,h,show (Bo==Cn)=false by decide,show (Br==Cn)=false by decide,show (Bj==Cn)=false by decide,show (Bm==Cn)=false by decide,show (Ck==Cn)=false by decide,show (kAtime==Cn)=false by decide,show (kMtime==Cn)=false by decide,show (kCtime==Cn)=false by decide,show (B1==Cn)=false by decide,Bool.or_false,show (Cn==Cn)=true by decide,Bool.or_true,if_true,tc0,tc1]
 rfl
theorem Z9 (h:∀z,d' z=(d z||z==kAtime))(hA:b.hasA=true):B2 (mix d' a b) x p f=((B2 (mix d a b) x p f).set 11 (.int .u64 b.atn)).set 12 (.int .i64 (b.ats+62135596800)):=by
 simp only[B2,mix,h,show (Bo==kAtime)=false by decide,show (Br==kAtime)=false by decide,show (Bj==kAtime)=false by decide,show (Bm==kAtime)=false by decide,show (Ck==kAtime)=false by decide,show (Cn==kAtime)=false by decide,show (kMtime==kAtime)=false by decide,show (kCtime==kAtime)=false by decide,show (B1==kAtime)=false by decide,Bool.or_false,show (kAtime==kAtime)=true by decide,Bool.or_true,if_true,tc0,tc1,hA]
 rfl
theorem Baa (h:∀z,d' z=(d z||z==kMtime)):B2 (mix d' a b) x p f=((B2 (mix d a b) x p f).set 9 (.int .u64 b.mn)).set 10 (.int .i64 (b.ms+62135596800)):=by
 simp only[B2,mix,h,show (Bo==kMtime)=false by decide,show (Br==kMtime)=false by decide,show (Bj==kMtime)=false by decide,show (Bm==kMtime)=false by decide,show (Ck==kMtime)=false by decide,show (Cn==kMtime)=false by decide,show (kAtime==kMtime)=false by decide,show (kCtime==kMtime)=false by decide,show (B1==kMtime)=false by decide,Bool.or_false,show (kMtime==kMtime)=true by decide,Bool.or_true,if_true,tc0,tc1]
 rfl
theorem Bab (h:∀z,d' z=(d z||z==kCtime))(hA:b.hasC=true):B2 (mix d' a b) x p f=((B2 (mix d a b) x p f).set 13 (.int .u64 b.ctn)).set 14 (.int .i64 (b.cts+62135596800)):=by
 simp only[B2,mix,h,show (Bo==kCtime)=false by decide,show (Br==kCtime)=false by decide,show (Bj==kCtime)=false by decide,show (Bm==kCtime)=false by decide,show (Ck==kCtime)=false by decide,show (Cn==kCtime)=false by decide,show (kAtime==kCtime)=false by decide,show (kMtime==kCtime)=false by decide,show (B1==kCtime)=false by decide,Bool.or_false,show (kCtime==kCtime)=true by decide,Bool.or_true,if_true,tc0,tc1,hA]
 rfl
theorem Bb7 (h:∀z,d' z=(d z||z==B1)):B2 (mix d' a b) x p f=(B2 (mix d a b) x p f).set 3 (.int .i64 b.size):=by
 simp only[B2,mix,h,show (Bo==B1)=false by decide,show (Br==B1)=false by decide,show (Bj==B1)=false by decide,show (Bm==B1)=false by decide,show (Ck==B1)=false by decide,show (Cn==B1)=false by decide,show (kAtime==B1)=false by decide,show (kMtime==B1)=false by decide,show (kCtime==B1)=false by decide,Bool.or_false,show (B1==B1)=true by decide,Bool.or_true,if_true,tc0,tc1]
 rfl
theorem Bac {k:List UInt8}(h:∀z,d' z=(d z||z==k))(hk:k∉Cl):B2 (mix d' a b) x p f=B2 (mix d a b) x p f:=by
 have e:∀z∈Cl,d' z=d z:=fun z hz=>by
  rw[h,show (z==k)=false by rw[beq_eq_false_iff_ne];rintro rfl;exact hk hz,Bool.or_false]
 simp only[B2,mix,e Bo (by decide),e Br (by decide),e Bj (by decide),e Bm (by decide),e Ck (by decide),e Cn (by decide),e kAtime (by decide),e kMtime (by decide),e kCtime (by decide),e B1 (by decide)]
end
theorem Merged.row {a b:Hd}{M:List UInt8→Option (List UInt8)}{x p:Value}{f:Int}(h:Merged a b M):B2 (mix (fun k=>(M k).isSome) a b) x p f=B2 b x p f:=by
 have e1:=h.name;have e2:=h.link;have e3:=h.un;have e4:=h.gn;have e5:=h.size;have e6:=h.uid;have e7:=h.gid;have e8:=h.mod;have e9:=h.acc;have e10:=h.chg;unfold Rz at e5 e6 e7;have g1:(if (M Bo).isSome then b.name else a.name)=b.name:=by cases e:M Bo with
  |none=>rw[e] at e1;exact e1.symm
  |some v=>rfl
 have g2:(if (M Br).isSome then b.link else a.link)=b.link:=by cases e:M Br with
  |none=>rw[e] at e2;exact e2.symm
  |some v=>rfl
 have g3:(if (M Bj).isSome then b.un else a.un)=b.un:=by cases e:M Bj with
  |none=>rw[e] at e3;exact e3.symm
  |some v=>rfl
 have g4:(if (M Bm).isSome then b.gn else a.gn)=b.gn:=by cases e:M Bm with
  |none=>rw[e] at e4;exact e4.symm
  |some v=>rfl
 have g5:(if (M B1).isSome then b.size else a.size)=b.size:=by cases e:M B1 with
  |none=>rw[e] at e5;exact e5.symm
  |some v=>rfl
 have g6:(if (M Ck).isSome then b.uid else a.uid)=b.uid:=by cases e:M Ck with
  |none=>rw[e] at e6;exact e6.symm
  |some v=>rfl
 have g7:(if (M Cn).isSome then b.gid else a.gid)=b.gid:=by cases e:M Cn with
  |none=>rw[e] at e7;exact e7.symm
  |some v=>rfl
 have g8:(if (M kMtime).isSome then b.ms else a.ms)=b.ms∧(if (M kMtime).isSome then b.mn else a.mn)=b.mn:=by cases e:M kMtime with
  |none=>rw[e] at e8;exact⟨e8.1.symm,e8.2.symm⟩
  |some v=>exact⟨rfl,rfl⟩
 have g9:(if (M kAtime).isSome then b.hasA else a.hasA)=b.hasA∧(if (M kAtime).isSome then b.ats else a.ats)=b.ats∧(if (M kAtime).isSome then b.atn else a.atn)=b.atn:=by cases e:M kAtime with
  |none=>rw[e] at e9;exact⟨e9.1.symm,e9.2.1.symm,e9.2.2.symm⟩
  |some v=>exact⟨rfl,rfl,rfl⟩
 have g10:(if (M kCtime).isSome then b.hasC else a.hasC)=b.hasC∧(if (M kCtime).isSome then b.cts else a.cts)=b.cts∧(if (M kCtime).isSome then b.ctn else a.ctn)=b.ctn:=by cases e:M kCtime with
  |none=>rw[e] at e10;exact⟨e10.1.symm,e10.2.1.symm,e10.2.2.symm⟩
  |some v=>exact⟨rfl,rfl,rfl⟩
 simp only[B2,mix,g1,g2,g3,g4,g5,g6,g7,g8.1,g8.2,g9.1,g9.2.1,g9.2.2,g10.1,g10.2.1,g10.2.2,h.typ,h.mode,h.maj,h.min]
structure MrSt (w:World)(b r nh:Nat)(M:List UInt8→Option (List UInt8))(a1 b1:Hd)(x p:Value)(f:Int)(left:List UInt8→Bool)(wr:World):Prop where
 rg:Rg wr b r M left
 row:wr.heap[nh]?=some (.cells (B2 (mix (fun k=>(M k).isSome&& !left k) a1 b1) x p f).toArray 167 (0,0))
 kp:Kp (· =nh) w wr
 ne:b≠nh∧r≠nh
 old:nh<w.heap.size∧w.heap.size≤r
section
variable {w wr w1 w2:World} {b r nh:Nat} {M:List UInt8→Option (List UInt8)} {a1 b1:Hd} {x p:Value} {f:Int} {left:List UInt8→Bool} {k:List UInt8}
theorem left_step (hM:(M k).isSome=true)(hl:left k=true)(z:List UInt8):((M z).isSome&& !(left z&& !(z==k)))=(((M z).isSome&& !left z)||z==k):=by
 by_cases e:z=k
 ·subst e;simp[hM]
 ·have:(z==k)=false:=by rw[beq_eq_false_iff_ne];exact e
  rw[this];simp
theorem MrSt.step0 (st:MrSt w b r nh M a1 b1 x p f left wr)(hrg:Rg w1 b r M (fun z=>left z&& !(z==k)))(k1:Kp (· =r) wr w1)
  (h:B2 (mix (fun z=>(M z).isSome&& !(left z&& !(z==k))) a1 b1) x p f=B2 (mix (fun z=>(M z).isSome&& !left z) a1 b1) x p f):MrSt w b r nh M a1 b1 x p f (fun z=>left z&& !(z==k)) w1:=
 ⟨hrg,by rw[h];exact k1.heap st.row (fun e=>st.ne.2 e.symm),st.kp.then k1 (fun i hi e=>by have:=st.old;omega),st.ne,st.old⟩
theorem MrSt.mid (st:MrSt w b r nh M a1 b1 x p f left wr)(hrg:Rg w1 b r M (fun z=>left z&& !(z==k)))(k1:Kp (· =r) wr w1)(k2:Kp (fun _=>False) w1 w2) :
  w2.heap[nh]?=some (.cells (B2 (mix (fun k=>(M k).isSome&& !left k) a1 b1) x p f).toArray 167 (0,0))∧w2.rangeLeft b r=w1.rangeLeft b r∧Rg w2 b r M (fun z=>left z&& !(z==k))∧Kp (· =nh) w w2:=
 ⟨k2.heap (k1.heap st.row (fun e=>st.ne.2 e.symm)) (fun h=>h),hrg.rangeLeft k2 (fun h=>h) (fun h=>h),hrg.keep k2 (fun h=>h) (fun h=>h),(st.kp.then k1 (fun i hi e=>by have:=st.old;omega)).then k2 (fun _ _ h=>h.elim)⟩
theorem MrSt.set1 (st:MrSt w b r nh M a1 b1 x p f left wr)(hrg:Rg w1 b r M (fun z=>left z&& !(z==k)))(k1:Kp (· =r) wr w1)(k2:Kp (fun _=>False) w1 w2)(i:Nat)(v:Value)
  (h:B2 (mix (fun z=>(M z).isSome&& !(left z&& !(z==k))) a1 b1) x p f=(B2 (mix (fun z=>(M z).isSome&& !left z) a1 b1) x p f).set i v) :
  MrSt w b r nh M a1 b1 x p f (fun z=>left z&& !(z==k)) (w2.setCell ⟨nh,i,none⟩ v)∧(w2.setCell ⟨nh,i,none⟩ v).rangeLeft b r=w1.rangeLeft b r:=by
 obtain⟨h1,h2,h3,h4⟩:=st.mid hrg k1 k2;have ks:Kp (· =nh) w2 (w2.setCell ⟨nh,i,none⟩ v):=Kp.setCell (S:=(· =nh)) (Kp.refl _ _) (.inl rfl) v;refine⟨⟨h3.keep ks st.ne.1 st.ne.2,?_,h4.trans ks,st.ne,st.old⟩,(h3.rangeLeft ks st.ne.1 st.ne.2).trans h2⟩;rw[h];have:=heap_set h1 i v;rwa[sA] at this
theorem MrSt.set2 (st:MrSt w b r nh M a1 b1 x p f left wr)(hrg:Rg w1 b r M (fun z=>left z&& !(z==k)))(k1:Kp (· =r) wr w1)(k2:Kp (fun _=>False) w1 w2)(i j:Nat)(v u:Value)
  (h:B2 (mix (fun z=>(M z).isSome&& !(left z&& !(z==k))) a1 b1) x p f=((B2 (mix (fun z=>(M z).isSome&& !left z) a1 b1) x p f).set i v).set j u) :
  MrSt w b r nh M a1 b1 x p f (fun z=>left z&& !(z==k)) ((w2.setCell ⟨nh,i,none⟩ v).setCell ⟨nh,j,none⟩ u)∧((w2.setCell ⟨nh,i,none⟩ v).setCell ⟨nh,j,none⟩ u).rangeLeft b r=w1.rangeLeft b r:=by
 obtain⟨h1,h2,h3,h4⟩:=st.mid hrg k1 k2;have ks:Kp (· =nh) w2 ((w2.setCell ⟨nh,i,none⟩ v).setCell ⟨nh,j,none⟩ u):=Kp.setCell (S:=(· =nh)) (Kp.setCell (S:=(· =nh)) (Kp.refl _ _) (.inl rfl) v) (.inl rfl) u;refine⟨⟨h3.keep ks st.ne.1 st.ne.2,?_,h4.trans ks,st.ne,st.old⟩,(h3.rangeLeft ks st.ne.1 st.ne.2).trans h2⟩;rw[h];have:=heap_set (heap_set h1 i v) j u;rwa[sA,sA] at this
end
theorem Xy {k:List UInt8}(h:¬En <+: k):Lib.hasPrefix k [83,67,72,73,76,89,46,120,97,116,116,114,46]=false:=by
 rw[Bool.eq_false_iff];intro e;exact h ((show En <+: [83,67,72,73,76,89,46,120,97,116,116,114,46] by decide).trans (List.isPrefixOf_iff_prefix.1 e))
set_option maxHeartbeats 8000000 in
theorem Ue (w:World)(nh b n:Nat)(M:List UInt8→Option (List UInt8))(a1 b1:Hd)(x p:Value)(f:Int)(hrow:w.heap[nh]?=some (.cells (B2 a1 x p f).toArray 167 (0,0)))(hm:MapIs w b n M)
  (hmg:Merged a1 b1 M) (hsz:∀k v,M k=some v→v.length≤1048576) :
  Calls Tryz.prog 131 #[.pointer (some ⟨nh,0,none⟩), .map (some b)] w fun e w'=>e=.returned .nilIface∧Kp (· =nh) w w'∧w'.heap[nh]?=some (.cells (B2 b1 x (.map (some b)) f).toArray 167 (0,0)):=by
 have hbn:b≠nh:=by
  obtain⟨D,⟨es,cl,hb,_⟩,_⟩:=hm;rintro rfl;rw[hb] at hrow;cases hrow
 have hlt:=Bv hrow;have HM:=hid hm;have HR:=hid hrow;have HG:=hid hmg;have HZ:=hid hsz;clear hm hrow hmg hsz;go_enter Tryz.func131,Tryz.ntmps131
 go_wp2_with (at_range;refine Le rfl _ rfl b n M rfl HM.out ?_;intro w1 hrg1 hk1;go_frame)
 have hst:MrSt w b w.heap.size nh M a1 b1 x p f (fun k=>(M k).isSome) w1:=
  ⟨hrg1,by rw[Bb4 (fun k=>by cases (M k).isSome<;>rfl)];exact hk1.heap HR.out (fun h=>h),hk1.mono (fun _ _ h=>h.elim),⟨hbn,by omega⟩,hlt,Nat.le_refl _⟩
 have HS:=hid hst;clear hst hrg1 hk1;go_loopw [4] (fun er wr=>er=.nilIface∧∃left,MrSt w b w.heap.size nh M a1 b1 x p f left wr) (fun _ wr=>wr.rangeLeft b w.heap.size)
 case atStart=>exact⟨rfl,_,HS.out⟩
 case round=>
  clear HS;obtain⟨rfl,left,st⟩:=hrel;have ST:=hid st;clear st;go_wp2_with (at_next;refine Mz rfl _ rfl b w.heap.size M left rfl ST.out.rg ?_ ?_)
  ·intro hl0;have hrow:wr.heap[nh]?=some (.cells (B2 b1 x p f).toArray 167 (0,0)):=by
    rw[←HG.out.row,ST.out.row];rw[show (fun k=>(M k).isSome&& !left k)=fun k=>(M k).isSome from funext fun k=>by rw[hl0 k];simp]
   have cc:wr.cell? ⟨nh,18,none⟩=some p:=cell_of hrow 18 rfl;have zz:=Bb hrow 18;have hset:=heap_set hrow 18 (.map (some b));rw[sA] at hset;have HH:=hid (And.intro (Kp.setCell (S:=(· =nh)) (p:=⟨nh,18,none⟩) ST.out.kp (.inl rfl) (.map (some b))) hset);clear hrow hset hl0 ST;(go_wp2_with fail);(go_ret);exact⟨rfl,HH.out.1,HH.out.2⟩
  ·intro k v w2 hlk hMk hkl hvl hrg2 hlt2 hk2 hen;have hv0:=HG.out.vals k v hMk;have hvE:v.isEmpty=false:=by cases v with
    |nil=>exact absurd rfl hv0
    |cons c l=>rfl
   (have hMs:(M k).isSome=true:=by rw[hMk];rfl);have hd:=left_step hMs hlk;have hvz:=HZ.out k v hMk;have HD:=hid hd;have HMk:=hid hMk;have HRG:=hid hrg2;have HK2:=hid hk2;have HLT:=hid hlt2;have hrow2:w2.heap[nh]?=some (.cells (B2 (mix (fun k=>(M k).isSome&& !left k) a1 b1) x p f).toArray 167 (0,0)):=hk2.heap ST.out.row (fun e=>ST.out.ne.2 e.symm);have HRW:=hid hrow2;clear hv0 hMs hd hMk hrg2 hk2 hlt2 hrow2 hlk;by_cases q0:k=Bo
   ·(have t0:(k==[112,97,116,104])=true:=by rw[q0];decide);(have hval:b1.name=v:=by have h1:=HG.out.name;have h2:=HMk.out;rw[q0] at h2;rw[h2] at h1;exact h1);(have hfin:=ST.out.set1 HRG.out HK2.out (Kp.refl _ w2) 1 (B5 v) (by rw[←hval];exact Bb5 (fun z=>by rw[←q0];exact HD.out z)));have HF:=hid hfin;have cc:=cell_of HRW.out 1 rfl;have zz:=Bb HRW.out 1;clear hfin hval q0;unfold B5 at HF cc;(go_wp2_with fail);go_roundw
    case rel=>exact⟨rfl,_,HF.out.1⟩
    case measure=>rw[HF.out.2];exact HLT.out
   by_cases q1:k=Br
   ·(have t0:(k==[112,97,116,104])=false:=by rw[q1];decide);(have t1:(k==[108,105,110,107,112,97,116,104])=true:=by rw[q1];decide);(have hval:b1.link=v:=by have h1:=HG.out.link;have h2:=HMk.out;rw[q1] at h2;rw[h2] at h1;exact h1);(have hfin:=ST.out.set1 HRG.out HK2.out (Kp.refl _ w2) 2 (B5 v) (by rw[←hval];exact Bb6 (fun z=>by rw[←q1];exact HD.out z)));have HF:=hid hfin;have cc:=cell_of HRW.out 2 rfl;have zz:=Bb HRW.out 2;clear hfin hval q1;unfold B5 at HF cc;(go_wp2_with fail);go_roundw
    case rel=>exact⟨rfl,_,HF.out.1⟩
    case measure=>rw[HF.out.2];exact HLT.out
   by_cases q2:k=Bj
   ·(have t0:(k==[112,97,116,104])=false:=by rw[q2];decide);(have t1:(k==[108,105,110,107,112,97,116,104])=false:=by rw[q2];decide);(have t2:(k==[117,110,97,109,101])=true:=by rw[q2];decide);(have hval:b1.un=v:=by have h1:=HG.out.un;have h2:=HMk.out;rw[q2] at h2;rw[h2] at h1;exact h1);(have hfin:=ST.out.set1 HRG.out HK2.out (Kp.refl _ w2) 7 (B5 v) (by rw[←hval];exact Z7 (fun z=>by rw[←q2];exact HD.out z)));have HF:=hid hfin;have cc:=cell_of HRW.out 7 rfl;have zz:=Bb HRW.out 7;clear hfin hval q2;unfold B5 at HF cc;(go_wp2_with fail);go_roundw
    case rel=>exact⟨rfl,_,HF.out.1⟩
    case measure=>rw[HF.out.2];exact HLT.out
   by_cases q3:k=Bm
   ·(have t0:(k==[112,97,116,104])=false:=by rw[q3];decide);(have t1:(k==[108,105,110,107,112,97,116,104])=false:=by rw[q3];decide);(have t2:(k==[117,110,97,109,101])=false:=by rw[q3];decide);(have t3:(k==[103,110,97,109,101])=true:=by rw[q3];decide);(have hval:b1.gn=v:=by have h1:=HG.out.gn;have h2:=HMk.out;rw[q3] at h2;rw[h2] at h1;exact h1);(have hfin:=ST.out.set1 HRG.out HK2.out (Kp.refl _ w2) 8 (B5 v) (by rw[←hval];exact Z8 (fun z=>by rw[←q3];exact HD.out z)));have HF:=hid hfin;have cc:=cell_of HRW.out 8 rfl;have zz:=Bb HRW.out 8;clear hfin hval q3;unfold B5 at HF cc;(go_wp2_with fail);go_roundw
    case rel=>exact⟨rfl,_,HF.out.1⟩
    case measure=>rw[HF.out.2];exact HLT.out
   by_cases q4:k=Ck
   ·(have t0:(k==[112,97,116,104])=false:=by rw[q4];decide);(have t1:(k==[108,105,110,107,112,97,116,104])=false:=by rw[q4];decide);(have t2:(k==[117,110,97,109,101])=false:=by rw[q4];decide);(have t3:(k==[103,110,97,109,101])=false:=by rw[q4];decide);(have t4:(k==[117,105,100])=true:=by rw[q4];decide);(have hval:Lib.parseIntB 64 v=.ok b1.uid:=by have h1:=HG.out.uid;have h2:=HMk.out;rw[q4] at h2;rw[h2] at h1;exact h1);(have HP:=fun W=>hid (Dm W ⟨v.toArray⟩ b1.uid (by show v.length≤_;omega) hval));(have hset:=fun W (hk:Kp (fun _=>False) w2 W)=>hid (ST.out.set1 HRG.out HK2.out hk 5 (.int .i64 b1.uid) (Bd0 (fun z=>by rw[←q4];exact HD.out z))));have HRk:=fun W (hk:Kp (fun _=>False) w2 W)=>hid (hk.heap HRW.out (fun h=>h));clear hval q4;(go_wp2_with fail);refine(HP _).out.mono ?_;rintro e w3 ⟨rfl,hk3⟩;have HF:=hset w3 hk3;have HR3:=HRk w3 hk3;have cc:=cell_of HR3.out 5 rfl;have zz:=Bb HR3.out 5;clear hset HRk hk3;(go_wp2_with fail);go_roundw
    case rel=>exact⟨rfl,_,HF.out.1⟩
    case measure=>rw[HF.out.2];exact HLT.out
   by_cases q5:k=Cn
   ·(have t0:(k==[112,97,116,104])=false:=by rw[q5];decide);(have t1:(k==[108,105,110,107,112,97,116,104])=false:=by rw[q5];decide);(have t2:(k==[117,110,97,109,101])=false:=by rw[q5];decide);(have t3:(k==[103,110,97,109,101])=false:=by rw[q5];decide);(have t4:(k==[117,105,100])=false:=by rw[q5];decide);(have t5:(k==[103,105,100])=true:=by rw[q5];decide);(have hval:Lib.parseIntB 64 v=.ok b1.gid:=by have h1:=HG.out.gid;have h2:=HMk.out;rw[q5] at h2;rw[h2] at h1;exact h1);(have HP:=fun W=>hid (Dm W ⟨v.toArray⟩ b1.gid (by show v.length≤_;omega) hval));(have hset:=fun W (hk:Kp (fun _=>False) w2 W)=>hid (ST.out.set1 HRG.out HK2.out hk 6 (.int .i64 b1.gid) (Bd1 (fun z=>by rw[←q5];exact HD.out z))));have HRk:=fun W (hk:Kp (fun _=>False) w2 W)=>hid (hk.heap HRW.out (fun h=>h));clear hval q5;(go_wp2_with fail);refine(HP _).out.mono ?_;rintro e w3 ⟨rfl,hk3⟩;have HF:=hset w3 hk3;have HR3:=HRk w3 hk3;have cc:=cell_of HR3.out 6 rfl;have zz:=Bb HR3.out 6;clear hset HRk hk3;(go_wp2_with fail);go_roundw
    case rel=>exact⟨rfl,_,HF.out.1⟩
    case measure=>rw[HF.out.2];exact HLT.out
   by_cases q6:k=kAtime
   ·(have t0:(k==[112,97,116,104])=false:=by rw[q6];decide);(have t1:(k==[108,105,110,107,112,97,116,104])=false:=by rw[q6];decide);(have t2:(k==[117,110,97,109,101])=false:=by rw[q6];decide);(have t3:(k==[103,110,97,109,101])=false:=by rw[q6];decide);(have t4:(k==[117,105,100])=false:=by rw[q6];decide);(have t5:(k==[103,105,100])=false:=by rw[q6];decide);(have t6:(k==[97,116,105,109,101])=true:=by rw[q6];decide);(have hval:b1.hasA=true∧Xs v b1.ats b1.atn:=by have h1:=HG.out.acc;have h2:=HMk.out;rw[q6] at h2;rw[h2] at h1;exact h1);have HP:=fun W=>hid (K0 W v b1.ats b1.atn hval.2);(have hset:=fun W (hk:Kp (fun _=>False) w2 W)=>hid (ST.out.set2 HRG.out HK2.out hk 11 12 (.int .u64 b1.atn) (.int .i64 (b1.ats+62135596800)) (Z9 (fun z=>by rw[←q6];exact HD.out z) hval.1)));have HRk:=fun W (hk:Kp (fun _=>False) w2 W)=>hid (hk.heap HRW.out (fun h=>h));clear hval q6;(go_wp2_with fail);refine(HP _).out.mono ?_;rintro e w3 ⟨rfl,hk3⟩;unfold Ub;have HF:=hset w3 hk3;have HR3:=HRk w3 hk3;have cc:=cell_of HR3.out 11 rfl;have zz:=Bb HR3.out 11;have cd:=cell_of HR3.out 12 rfl;have zd:=Bb HR3.out 12;clear hset HRk hk3;(go_wp2_with fail);go_roundw
    case rel=>exact⟨rfl,_,HF.out.1⟩
    case measure=>rw[HF.out.2];exact HLT.out
   by_cases q7:k=kMtime
   ·(have t0:(k==[112,97,116,104])=false:=by rw[q7];decide);(have t1:(k==[108,105,110,107,112,97,116,104])=false:=by rw[q7];decide);(have t2:(k==[117,110,97,109,101])=false:=by rw[q7];decide);(have t3:(k==[103,110,97,109,101])=false:=by rw[q7];decide);(have t4:(k==[117,105,100])=false:=by rw[q7];decide);(have t5:(k==[103,105,100])=false:=by rw[q7];decide);(have t6:(k==[97,116,105,109,101])=false:=by rw[q7];decide);(have t7:(k==[109,116,105,109,101])=true:=by rw[q7];decide);(have hval:Xs v b1.ms b1.mn:=by have h1:=HG.out.mod;have h2:=HMk.out;rw[q7] at h2;rw[h2] at h1;exact h1);have HP:=fun W=>hid (K0 W v b1.ms b1.mn hval);(have hset:=fun W (hk:Kp (fun _=>False) w2 W)=>hid (ST.out.set2 HRG.out HK2.out hk 9 10 (.int .u64 b1.mn) (.int .i64 (b1.ms+62135596800)) (Baa (fun z=>by rw[←q7];exact HD.out z))));have HRk:=fun W (hk:Kp (fun _=>False) w2 W)=>hid (hk.heap HRW.out (fun h=>h));clear hval q7;(go_wp2_with fail);refine(HP _).out.mono ?_;rintro e w3 ⟨rfl,hk3⟩;unfold Ub;have HF:=hset w3 hk3;have HR3:=HRk w3 hk3;have cc:=cell_of HR3.out 9 rfl;have zz:=Bb HR3.out 9;have cd:=cell_of HR3.out 10 rfl;have zd:=Bb HR3.out 10;clear hset HRk hk3;(go_wp2_with fail);go_roundw
    case rel=>exact⟨rfl,_,HF.out.1⟩
    case measure=>rw[HF.out.2];exact HLT.out
   by_cases q8:k=kCtime
   ·(have t0:(k==[112,97,116,104])=false:=by rw[q8];decide);(have t1:(k==[108,105,110,107,112,97,116,104])=false:=by rw[q8];decide);(have t2:(k==[117,110,97,109,101])=false:=by rw[q8];decide);(have t3:(k==[103,110,97,109,101])=false:=by rw[q8];decide);(have t4:(k==[117,105,100])=false:=by rw[q8];decide);(have t5:(k==[103,105,100])=false:=by rw[q8];decide);(have t6:(k==[97,116,105,109,101])=false:=by rw[q8];decide);(have t7:(k==[109,116,105,109,101])=false:=by rw[q8];decide);(have t8:(k==[99,116,105,109,101])=true:=by rw[q8];decide);(have hval:b1.hasC=true∧Xs v b1.cts b1.ctn:=by have h1:=HG.out.chg;have h2:=HMk.out;rw[q8] at h2;rw[h2] at h1;exact h1);have HP:=fun W=>hid (K0 W v b1.cts b1.ctn hval.2);(have hset:=fun W (hk:Kp (fun _=>False) w2 W)=>hid (ST.out.set2 HRG.out HK2.out hk 13 14 (.int .u64 b1.ctn) (.int .i64 (b1.cts+62135596800)) (Bab (fun z=>by rw[←q8];exact HD.out z) hval.1)));have HRk:=fun W (hk:Kp (fun _=>False) w2 W)=>hid (hk.heap HRW.out (fun h=>h));clear hval q8;(go_wp2_with fail);refine(HP _).out.mono ?_;rintro e w3 ⟨rfl,hk3⟩;unfold Ub;have HF:=hset w3 hk3;have HR3:=HRk w3 hk3;have cc:=cell_of HR3.out 13 rfl;have zz:=Bb HR3.out 13;have cd:=cell_of HR3.out 14 rfl;have zd:=Bb HR3.out 14;clear hset HRk hk3;(go_wp2_with fail);go_roundw
    case rel=>exact⟨rfl,_,HF.out.1⟩
    case measure=>rw[HF.out.2];exact HLT.out
   by_cases q9:k=B1
   ·(have t0:(k==[112,97,116,104])=false:=by rw[q9];decide);(have t1:(k==[108,105,110,107,112,97,116,104])=false:=by rw[q9];decide);(have t2:(k==[117,110,97,109,101])=false:=by rw[q9];decide);(have t3:(k==[103,110,97,109,101])=false:=by rw[q9];decide);(have t4:(k==[117,105,100])=false:=by rw[q9];decide);(have t5:(k==[103,105,100])=false:=by rw[q9];decide);(have t6:(k==[97,116,105,109,101])=false:=by rw[q9];decide);(have t7:(k==[109,116,105,109,101])=false:=by rw[q9];decide);(have t8:(k==[99,116,105,109,101])=false:=by rw[q9];decide);(have t9:(k==[115,105,122,101])=true:=by rw[q9];decide);(have hval:Lib.parseIntB 64 v=.ok b1.size:=by have h1:=HG.out.size;have h2:=HMk.out;rw[q9] at h2;rw[h2] at h1;exact h1);(have HP:=fun W=>hid (Dm W ⟨v.toArray⟩ b1.size (by show v.length≤_;omega) hval));(have hset:=fun W (hk:Kp (fun _=>False) w2 W)=>hid (ST.out.set1 HRG.out HK2.out hk 3 (.int .i64 b1.size) (Bb7 (fun z=>by rw[←q9];exact HD.out z))));have HRk:=fun W (hk:Kp (fun _=>False) w2 W)=>hid (hk.heap HRW.out (fun h=>h));clear hval q9;(go_wp2_with fail);refine(HP _).out.mono ?_;rintro e w3 ⟨rfl,hk3⟩;have HF:=hset w3 hk3;have HR3:=HRk w3 hk3;have cc:=cell_of HR3.out 3 rfl;have zz:=Bb HR3.out 3;clear hset HRk hk3;(go_wp2_with fail);go_roundw
    case rel=>exact⟨rfl,_,HF.out.1⟩
    case measure=>rw[HF.out.2];exact HLT.out
   (have hne:k∉Cl:=by simp only[Cl,List.mem_cons,List.not_mem_nil,or_false,not_or];exact⟨q0,q1,q9,q4,q5,q2,q3,q7,q6,q8⟩);have hpre:=Xy (HG.out.noSchily k v HMk.out);(have t0:(k==[112,97,116,104])=false:=by rw[beq_eq_false_iff_ne];exact q0);(have t1:(k==[108,105,110,107,112,97,116,104])=false:=by rw[beq_eq_false_iff_ne];exact q1);(have t2:(k==[117,110,97,109,101])=false:=by rw[beq_eq_false_iff_ne];exact q2);(have t3:(k==[103,110,97,109,101])=false:=by rw[beq_eq_false_iff_ne];exact q3);(have t4:(k==[117,105,100])=false:=by rw[beq_eq_false_iff_ne];exact q4);(have t5:(k==[103,105,100])=false:=by rw[beq_eq_false_iff_ne];exact q5);(have t6:(k==[97,116,105,109,101])=false:=by rw[beq_eq_false_iff_ne];exact q6);(have t7:(k==[109,116,105,109,101])=false:=by rw[beq_eq_false_iff_ne];exact q7);(have t8:(k==[99,116,105,109,101])=false:=by rw[beq_eq_false_iff_ne];exact q8);(have t9:(k==[115,105,122,101])=false:=by rw[beq_eq_false_iff_ne];exact q9);have HPre:=fun W=>hid (Tryz.strings_HasPrefix ⟨k.toArray⟩ ⟨#[83,67,72,73,76,89,46,120,97,116,116,114,46]⟩ W);have HPE:=hid hpre;have HF:=hid (ST.out.step0 HRG.out HK2.out (Bac (HD.out) hne));clear hne hpre q0 q1 q2 q3 q4 q5 q6 q7 q8 q9;(go_wp2_with fail);refine(HPre _).out.mono ?_;rintro e w3 ⟨rfl,rfl⟩;(rw[show (Lib.hasPrefix (⟨k.toArray⟩:ByteArray).data.toList (⟨#[83,67,72,73,76,89,46,120,97,116,116,114,46]⟩:ByteArray).data.toList)=false from HPE.out]);(go_wp2_with fail);go_roundw
   case rel=>exact⟨rfl,_,HF.out⟩
   case measure=>exact HLT.out
theorem Uf (w:World)(nh:Nat)(a1:Hd)(x p:Value)(f:Int)(hrow:w.heap[nh]?=some (.cells (B2 a1 x p f).toArray 167 (0,0))) :
  Calls Tryz.prog 131 #[.pointer (some ⟨nh,0,none⟩), .map none] w fun e w'=>e=.returned .nilIface∧Kp (· =nh) w w'∧w'.heap[nh]?=some (.cells (B2 a1 x (.map none) f).toArray 167 (0,0)):=by
 have hr1:=fun w=>run_range_nilMap (P:=Tryz.prog) w 164 9 9 Tryz.underlying164;have hr2:=@run_next_nilMap Tryz.prog;have cc:w.cell? ⟨nh,18,none⟩=some p:=cell_of hrow 18 rfl;have hlt:=Bv hrow;have zz:=Bb hrow 18;have HR:=hid hrow;clear hrow;go_enter Tryz.func131,Tryz.ntmps131
 go_wp2_with fail
 refine wp_loop_rounds 1 ?_;rw[rounds_succ];go_wp2_with fail
 go_ret
 have hset:=heap_alloc (heap_set HR.out 18 (.map none)) (.mapIter none 0 #[] 0);rw[sA] at hset;exact⟨rfl,Kp.alloc (Kp.setCell (S:=(· =nh)) (p:=⟨nh,18,none⟩) (Kp.refl _ _) (.inl rfl) _) _,hset⟩
end
section
open Go Go.RowKit Go.Maps
theorem Ber (w:World):(zeroValue 9).run Tryz.prog w=.ok (.string ⟨#[]⟩) w:=by kernel_rfl
def PmIs (w:World)(pm:Value)(M:List UInt8→Option (List UInt8)):Prop:=(pm=.map none∧M=fun _=>none)∨∃b n,pm=.map (some b)∧MapIs w b n M
theorem PmIs.look {w:World}{pm:Value}{M:List UInt8→Option (List UInt8)}(h:PmIs w pm M)(k:List UInt8)(hk:k.length≤1000)(hM:M k=none) :
  (Instr.lookup 164 pm (.string ⟨k.toArray⟩) false).run Tryz.prog w=.ok (.string ⟨#[]⟩) w:=by
 have hkey:=Bby k (by unfold maxLen;omega)
 rcases h with ⟨rfl,rfl⟩|⟨b,n,rfl,D,hown,hD⟩
 ·have:=Maps.look_nil (w:=w) (P:=Tryz.prog) false Bbx Tryz.underlying164 (Ber w) hkey;simpa using this
 ·obtain⟨v,ps,hrun,hv⟩:=hown.lookup Bbx Tryz.underlying164 (Ber w) (Bep [] (by simp[maxLen])) hkey
  have hh:=hD.has k;rw[hM] at hh;rw[atKey_of_not_has hh] at hv;obtain⟨c,rfl,hc,_⟩:=plainElem_string_inv Tryz.underlying9 hv;simp only[Prod.mk.injEq,DataW.lit.injEq,Lit.string.injEq] at hc;have:c=⟨#[]⟩:=by
   (have e:c=⟨c.data.toList.toArray⟩:=by simp);rw[e,←hc.1]
  rw[hrun,this]
theorem PmIs.keep {w w':World}{pm:Value}{M:List UInt8→Option (List UInt8)}{S:Nat→Prop}(h:PmIs w pm M)(k:Kp S w w')(hS:∀b,pm=.map (some b)→¬S b):PmIs w' pm M:=by
 rcases h with h|⟨b,n,rfl,h⟩
 ·exact .inl h
 ·exact .inr ⟨b,n,rfl,h.keep k (hS b rfl)⟩
theorem PmIs.drewN {w:World}{pm:Value}{M:List UInt8→Option (List UInt8)}(h:PmIs w pm M)(n:Nat):PmIs (w.drewN n) pm M:=h.keep ((Kp.refl (fun _=>False) w).drewN n) (fun _ _ h=>h)
theorem Xz (w:World)(p:Value)(nh:Nat)(row:List Value)(pm:Value)(M:List UInt8→Option (List UInt8))(hrow:w.heap[nh]?=some (.cells row.toArray 167 (0,0)))(h18:row[18]?=some pm)(hm:PmIs w pm M)
  (h0:∀k,Ct <+: k→M k=none) :
  Calls Tryz.prog 224 #[p, .pointer (some ⟨nh,0,none⟩)] w fun e w'=>e=.returned (.tuple #[.slice none 0 0, .nilIface])∧∃n,w'=w.drewN n:=by
 have c18:w.cell? ⟨nh,18,none⟩=some pm:=cell_of hrow 18 (by simpa using h18)
 have l1:=fun n=>(hm.drewN n).look [71,78,85,46,115,112,97,114,115,101,46,109,97,106,111,114] (by decide) (h0 _ (by decide))
 have l2:=fun n=>(hm.drewN n).look [71,78,85,46,115,112,97,114,115,101,46,109,105,110,111,114] (by decide) (h0 _ (by decide))
 have l3:=fun n=>(hm.drewN n).look [71,78,85,46,115,112,97,114,115,101,46,109,97,112] (by decide) (h0 _ (by decide))
 clear hrow h18 hm h0;go_enter Tryz.func224,Tryz.ntmps224
 go_wp2_with fail
 go_quiet (fail)
 go_wp2_with fail
 go_ret2
 exact⟨rfl,_,rfl⟩
theorem J9 (w:World)(p q:Value)(nh:Nat)(row:List Value)(pm:Value)(M:List UInt8→Option (List UInt8))(tf:UInt8)(hrow:w.heap[nh]?=some (.cells row.toArray 167 (0,0)))(hr0:row[0]?=some (.int .u8 tf.toNat))(htf:tf≠83)(h18:row[18]?=some pm)(hm:PmIs w pm M)
  (h0:∀k,Ct <+: k→M k=none) :
  Calls Tryz.prog 134 #[p, .pointer (some ⟨nh,0,none⟩),q] w fun e w'=>e=.returned .nilIface∧∃n,w'=w.drewN n:=by
 have c0:w.cell? ⟨nh,0,none⟩=some (.int .u8 tf.toNat):=cell_of hrow 0 (by simpa using hr0)
 have H:=fun P=>hid (Xz w P nh row pm M hrow h18 hm h0);have ht:((tf.toNat:Int)==83)=false:=by
  rw[beq_eq_false_iff_ne];intro e;exact htf (UInt8.toNat_inj.1 (by show tf.toNat=83;omega))
 clear hrow h18 hm h0 htf;go_enter Tryz.func134,Tryz.ntmps134
 go_wp2_with fail
 refine(H _).out.mono ?_;rintro e w1 ⟨rfl,n,rfl⟩;go_wp2_with fail
 go_ret
 exact⟨rfl,_,rfl⟩
end
end Go.Proofs.YtgfcnjfmmjcodaaGreatDoor
