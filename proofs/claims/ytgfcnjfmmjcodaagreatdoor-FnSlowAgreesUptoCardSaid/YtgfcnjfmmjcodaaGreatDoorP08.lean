/- handleRegularFile. -/
import Derived.Test.YtgfcnjfmmjcodaaGreatDoorP07
set_option linter.all false
set_option maxRecDepth 100000
set_option maxHeartbeats 1000000
open Go.Lib (hid)
namespace Go.Proofs.YtgfcnjfmmjcodaaGreatDoor
section
open Go Go.RowKit
def HrEnd (w:World)(R:Nat)(r:Value)(blk:List Value)(err:Value)(n:Nat)(e:Ending)(w':World):Prop:=
 e=.returned .nilIface∧∃Rf,w.heap.size≤Rf∧Kp (· =R) w w'∧w'.heap[R]?=some (.cells (Cz r (Cv n) (.iface 150 (.pointer (some ⟨Rf,0,none⟩))) blk err).toArray 158 (0,0)) ∧
  w'.heap[Rf]?=some (.cells #[r, .int .i64 n] 152 (0,0))
theorem HrEnd.mk {w:World}{R:Nat}{T:TypeId}{v:Value}{pad:Int}{curr:Value}{blk:List Value}{err:Value}(n:Nat)(m:Int)(hm:m=n)
  (hr:w.heap[R]?=some (.cells (Cz (.iface T v) pad curr blk err).toArray 158 (0,0))) :
  HrEnd w R (.iface T v) blk err n (.returned .nilIface) (((w.setCell ⟨R,1,none⟩ (.int .i64 (Cv n))).setCell ⟨R,2,none⟩ (.iface 150 (.pointer (some ⟨w.heap.size,0,none⟩)))).alloc (.cells #[.iface T v, .int .i64 m] 152)):=by
 subst hm;have h1:=heap_set hr 1 (.int .i64 (Cv n));rw[I1] at h1;have h2:=heap_set h1 2 (.iface 150 (.pointer (some ⟨w.heap.size,0,none⟩)));rw[Mi] at h2;refine⟨rfl,w.heap.size,Nat.le_refl _,Kp.alloc (Kp.setCell (Kp.setCell (S:=(· =R)) (Kp.refl _ _) (.inl rfl) _) (.inl rfl) _) _,heap_alloc h2 _,?_⟩;have h3:=Ba ((w.setCell ⟨R,1,none⟩ (.int .i64 (Cv n))).setCell ⟨R,2,none⟩ (.iface 150 (.pointer (some ⟨w.heap.size,0,none⟩)))) (.cells #[.iface T v, .int .i64 n] 152);rw[show ((w.setCell ⟨R,1,none⟩ (.int .i64 (Cv n))).setCell ⟨R,2,none⟩ (.iface 150 (.pointer (some ⟨w.heap.size,0,none⟩)))).heap.size=w.heap.size by simp[World.setCell]] at h3
 exact h3
theorem I3 (w:World)(R nh:Nat)(T:TypeId)(v:Value)(pad:Int)(curr:Value)(blk:List Value)(err:Value)(row:List Value)(tf:UInt8)(size:Int)
  (hr:w.heap[R]?=some (.cells (Cz (.iface T v) pad curr blk err).toArray 158 (0,0))) (hh:w.heap[nh]?=some (.cells row.toArray 167 (0,0)))
  (h0:row[0]?=some (.int .u8 tf.toNat)) (h3:row[3]?=some (.int .i64 size)) (hs:0≤size∧size≤4611686018427387904∨B8 tf=false) :
  Calls Tryz.prog 128 #[.pointer (some ⟨R,0,none⟩), .pointer (some ⟨nh,0,none⟩)] w (HrEnd w R (.iface T v) blk err (if B8 tf then size.toNat else 0)):=by
 have c0:w.cell? ⟨R,0,none⟩=some (.iface T v):=cell_of hr 0 rfl;have c1:w.cell? ⟨R,1,none⟩=some (.int .i64 pad):=cell_of hr 1 rfl;have c2:w.cell? ⟨R,2,none⟩=some curr:=cell_of hr 2 rfl;have z1:=Bb hr 1;have z2:=Bb hr 2;have t0:w.cell? ⟨nh,0,none⟩=some (.int .u8 tf.toNat):=cell_of hh 0 (by simpa using h0)
 have t3:w.cell? ⟨nh,3,none⟩=some (.int .i64 size):=cell_of hh 3 (by simpa using h3)
 have hlt:=Bv hr;have HR:=hid hr;clear hr hh h0 h3;cases hd:B8 tf
 ·have HE:=HrEnd.mk 0 0 rfl HR.out;have HE':=hid HE;have HD:=hid hd;clear HE hd hs;simp only[Bool.false_eq_true,if_false];go_enter Tryz.func128,Tryz.ntmps128
  go_wp2_with fail
  refine(Gr _ tf).mono ?_;rintro e w1 ⟨rfl,rfl⟩;rw[HD.out];go_wp2_with fail
  refine(Gp _ 0 (by omega)).mono ?_
  rintro e w1 ⟨rfl,rfl⟩;go_wp2_with fail
  go_ret
  exact HE'.out
 ·have hs':0≤size∧size≤4611686018427387904:=by rcases hs with h|h;exact h;rw[hd] at h;cases h
  obtain⟨n,rfl⟩:∃n:Nat,size=(n:Int):=⟨size.toNat,by omega⟩
  have hn:n≤4611686018427387904:=by omega
  have HE:=HrEnd.mk n n rfl HR.out;have HE':=hid HE;have HD:=hid hd;clear HE hd hs hs';simp only[if_true,Int.toNat_natCast];go_enter Tryz.func128,Tryz.ntmps128
  go_wp2_with fail
  refine(Gr _ tf).mono ?_;rintro e w1 ⟨rfl,rfl⟩;rw[HD.out];go_wp2_with fail
  refine(Gp _ n hn).mono ?_;rintro e w1 ⟨rfl,rfl⟩;go_wp2_with fail
  go_ret
  exact HE'.out
end
section
open Go Go.RowKit
inductive RhFail:List UInt8→Nat→Prop
 |none:RhFail [] 0
 |short (l:List UInt8) (h0:0<l.length) (h1:l.length<512):RhFail l 5
 |zshort (k:Nat) (h0:512≤k) (h1:k<1024):RhFail (List.replicate k 0) (if k=512 then 0 else 5)
 |zz (rest:List UInt8):RhFail (List.replicate 1024 0++rest) 0
 |bad (l rest:List UInt8) (n:Nat) (hl:l.length=512) (ho:Nonempty (OctAt (fld l 148 8) n)) (hb:¬((n:Int)=Bz l 512∨(n:Int)=C5 l 512)) (hz:¬l=zblk):RhFail (l++rest) 1
inductive HC:Option (List Rec)→List UInt8→List UInt8→Hd→List UInt8→Out→Prop
 |file {pax ln ll} (rest:List UInt8) (h0 h1 h2:Hd)
   (ht:h0.typ.toNat≠0∧h0.typ≠120∧h0.typ≠103∧h0.typ≠76∧h0.typ≠75∧h0.typ≠83) (hs:0≤h0.size∧h0.size≤4611686018427387904∨B8 h0.typ=false)
   (hm:match pax with|none=>h1=h0|some rs=>Merged h0 h1 (Bf rs)) (hn:h2={h1 with name:=over ln h1.name,link:=over ll h1.link}) (hs2:0≤h2.size∧h2.size≤4611686018427387904∨B8 h2.typ=false) :
   HC pax ln ll h0 rest (.file h2 pax rest)
 |glob {pax ln ll} (t rest:List UInt8) (h0:Hd) (rs:List Rec) (ht:h0.typ=103) (hs:h0.size=t.length) (hr:RecsT rs t) (hk:∀r∈rs,OwnOk r) (htl:t.length≤1048576) :
   HC pax ln ll h0 (t++rest) (.glob h0.name rs (Cv t.length) rest)
 |pax {pax ln ll out} (t rest:List UInt8) (h0:Hd) (rs:List Rec) (ht:h0.typ=120) (hs:h0.size=t.length) (hr:RecsT rs t) (htl:t.length≤1048576)
   (hk:∀r∈rs,(61:UInt8)∉r.1∧r.1≠[]∧NoNul r.1∧(r.1=Bo∨r.1=Br∨r.1=Bj∨r.1=Bm→NoNul r.2)∧¬Ct <+: r.1∧r.2≠[])
   (h:HeadP 0 (Cv t.length) (some rs) ln ll rest out):HC pax ln ll h0 (t++rest) out
 |name {pax ln ll out} (s rest:List UInt8) (h0:Hd) (ht:h0.typ=76) (hs:h0.size=s.length+1) (hz:NoNul s) (htl:s.length<1048576)
   (h:HeadP 0 (Cv (s.length+1)) pax s ll rest out):HC pax ln ll h0 (s++0::rest) out
 |link {pax ln ll out} (s rest:List UInt8) (h0:Hd) (ht:h0.typ=75) (hs:h0.size=s.length+1) (hz:NoNul s) (htl:s.length<1048576)
   (h:HeadP 0 (Cv (s.length+1)) pax ln s rest out):HC pax ln ll h0 (s++0::rest) out
 |cut {pax ln ll} (t:List UInt8) (h0:Hd) (ht:h0.typ=120∨h0.typ=103∨h0.typ=76∨h0.typ=75) (hs:(t.length:Int)<h0.size) (htl:t.length≤1048576) (hsm:h0.size≤4611686018427387904):HC pax ln ll h0 t (.fail 5)
inductive HB:Option (List Rec)→List UInt8→List UInt8→List UInt8→Out→Prop
 |err {pax ln ll} (rest:List UInt8) (g:Nat) (h:RhFail rest g):HB pax ln ll rest (.fail g)
 |hdr {pax ln ll out} (l rest:List UInt8) (h0:Hd) (fm:Int) (hl:l.length=512) (hb:BlkRd h0 fm l) (h:HC pax ln ll h0 rest out):HB pax ln ll (l++rest) out
theorem HeadP.split {nb pad:Nat}{pax:Option (List Rec)}{ln ll src:List UInt8}{out:Out}(h:HeadP nb pad pax ln ll src out) :
  (src.length<nb∧out=.fail 5)∨(∃d p,src=d++p∧d.length=nb∧p.length<pad∧out=.fail 0)∨∃d p rest,src=d++(p++rest)∧d.length=nb∧p.length=pad∧HB pax ln ll rest out:=by
 cases h with
 |file d p l rest h0 h1 h2 fm hd hp hl hb ht hs hm hn hs2=>exact .inr (.inr ⟨d,p,_,by simp,hd,hp, .hdr l rest h0 fm hl hb (.file rest h0 h1 h2 ht hs hm hn hs2)⟩)
 |glob d p l t rest h0 fm rs hd hp hl hb ht hs hr hk htl=>exact .inr (.inr ⟨d,p,_,by simp,hd,hp, .hdr l _ h0 fm hl hb (.glob t rest h0 rs ht hs hr hk htl)⟩)
 |pax d p l t rest h0 fm rs hd hp hl hb ht hs hr htl hk h=>exact .inr (.inr ⟨d,p,_,by simp,hd,hp, .hdr l _ h0 fm hl hb (.pax t rest h0 rs ht hs hr htl hk h)⟩)
 |name d p l s rest h0 fm hd hp hl hb ht hs hz htl h=>exact .inr (.inr ⟨d,p,_,by simp,hd,hp, .hdr l _ h0 fm hl hb (.name s rest h0 ht hs hz htl h)⟩)
 |link d p l s rest h0 fm hd hp hl hb ht hs hz htl h=>exact .inr (.inr ⟨d,p,_,by simp,hd,hp, .hdr l _ h0 fm hl hb (.link s rest h0 ht hs hz htl h)⟩)
 |end_ d p rest hd hp=>exact .inr (.inr ⟨d,p,_,by rw[List.append_assoc],hd,hp, .err _ 0 (.zz rest)⟩)
 |bad d p l rest n hd hp hl ho hb hz=>exact .inr (.inr ⟨d,p,_,by simp,hd,hp, .err _ 1 (.bad l rest n hl ho hb hz)⟩)
 |cutData src h=>exact .inl ⟨h,rfl⟩
 |cutPad d p hd hp=>exact .inr (.inl ⟨d,p,rfl,hd,hp,rfl⟩)
 |cutNone d p hd hp=>exact .inr (.inr ⟨d,p,[],by simp,hd,hp, .err _ 0 .none⟩)
 |cutBlk d p l hd hp h0 h1=>exact .inr (.inr ⟨d,p,l,by simp,hd,hp, .err _ 5 (.short l h0 h1)⟩)
 |cutEnd d p k hd hp h0 h1=>exact .inr (.inr ⟨d,p,_,by simp,hd,hp, .err _ _ (.zshort k h0 h1)⟩)
 |cutMeta d p l t h0 fm hd hp hl hb ht hs htl hsm=>exact .inr (.inr ⟨d,p,_,by simp,hd,hp, .hdr l t h0 fm hl hb (.cut t h0 ht hs htl hsm)⟩)
theorem HdBlk.not_zero {l:List UInt8}{n:Nat}{tf:UInt8}{a b c d e f g:Int}(h:HdBlk l n tf a b c d e f g):(l==zblk)=false:=by
 rw[beq_eq_false_iff_ne];rintro rfl;obtain⟨o⟩:=h.sum;have hs:=o.some;cases hd:o.ds with
 |nil=>rw[hd] at hs;simp at hs
 |cons x r=>
  have h1:=o.digit x (by rw[hd];simp)
  have h2:=o.eq;rw[hd] at h2;have:x∈fld zblk 148 8:=by rw[h2];simp
  have hz:∀y∈fld zblk 148 8,y=0:=by decide
  rw[hz x this] at h1;simp at h1
end
section
open Go Go.RowKit
def RowB (w:World)(b:Nat)(l:List UInt8):Prop:=w.heap[b]?=some (.cells (ubs l).toArray 5 (0,0))
def J0 (w:World)(b off n:Nat):Prop:=∀i,i<n→∃x:Bool,w.cell? ⟨b,off+i,none⟩=some (.bool x)
theorem O6 (k:Nat)(z:Value)(hz:z=.int .u8 0):madeCells z.cells (k*1)=(ubs (List.replicate k 0)).toArray:=by
 subst hz;apply Array.ext
 ·simp[size_madeCells,ubs]
 ·intro i h1 h2;simp[madeCells,ubs,Value.cells,Nat.mod_one,ub]
theorem Bdw (w:World)(k:Nat)(hk:k≤281474976710656):(Instr.makeSlice 27 (.int .i64 k) (.int .i64 k)).run Tryz.prog w=.ok (.slice (some ⟨w.heap.size,0,none⟩) k k) (w.alloc (.cells (ubs (List.replicate k 0)).toArray 5)):=by
 obtain⟨i,hi,hz,hs,hby⟩:=info5;have:=run_make w (P:=Tryz.prog) 27 5 i _ Tryz.underlying27 hi hz .i64 .i64 k k (by omega) (Int.le_refl _) (by rw[hby];omega) (by omega)
 rw[hs,Int.toNat_natCast,O6 _ _ rfl] at this;exact this
theorem Bdx (a r:List UInt8)(x y:UInt8)(v:Value)(hv:v=ub y):(ubs (a++x::r)).toArray.setIfInBounds a.length v=(ubs (a++y::r)).toArray:=by
 subst hv;simp[ubs]
theorem RowB.set {w:World}{b:Nat}{a r:List UInt8}{x:UInt8}(h:RowB w b (a++x::r))(y:UInt8)(v:Value)(hv:v=ub y)(i:Nat)(hi:i=a.length):RowB (w.setCell ⟨b,i,none⟩ v) b (a++y::r):=by
 subst hi;have:=heap_set h a.length v;rwa[Bdx a r x y v hv] at this
theorem RowB.cell {w:World}{b:Nat}{a r:List UInt8}{x:UInt8}(h:RowB w b (a++x::r))(i:Nat)(hi:i=a.length):w.cell? ⟨b,i,none⟩=some (.int .u8 x.toNat):=by
 subst hi;exact cell_of h a.length (by simp[ubs,ub])
theorem RowB.put {w:World}{b:Nat}{l:List UInt8}(h:RowB w b l)(i:Nat)(y:UInt8)(v:Value)(hv:v=ub y):RowB (w.setCell ⟨b,i,none⟩ v) b (l.set i y):=by
 subst hv;have:=heap_set h i (ub y);unfold RowB;rw[this];simp[ubs,List.map_set]
theorem RowB.at_ {w:World}{b:Nat}{l:List UInt8}(h:RowB w b l)(i:Nat)(hi:i<l.length):∃x:UInt8,w.cell? ⟨b,i,none⟩=some (.int .u8 x.toNat):=
 ⟨l[i],cell_of h i (by simp[ubs,ub,hi])⟩
theorem Vd (p:Nat)(r:List UInt8):List.replicate (p+1) (0:UInt8)++r=List.replicate p 0++0::r:=by
 rw[List.replicate_succ',List.append_assoc];rfl
theorem and7 (x:Nat):bits .and .i64 (x:Int) 7=((x%8:Nat):Int):=by
 have:=Va (x:Int) 3 (by omega)
 have e:bits .and .i64 (x:Int) 7=(x:Int)%8:=this;rw[e];omega
theorem Bbq:∀(l:List UInt8),(l.length=1∨l.length=2)→(∀c∈l,c=0∨c=32)→∃k0 k1,l=tails k0 k1 l.length
 |[a],_,h=>by
  rcases h a (by simp) with rfl|rfl
  ·exact⟨false,false,rfl⟩
  ·exact⟨true,false,rfl⟩
 |[a,b],_,h=>by
  rcases h a (by simp) with rfl|rfl<;>rcases h b (by simp) with rfl|rfl
  ·exact⟨false,false,rfl⟩
  ·exact⟨false,true,rfl⟩
  ·exact⟨true,false,rfl⟩
  ·exact⟨true,true,rfl⟩
 |[],h,_=>by simp at h
 |a::b::c::r,h,_=>by simp at h
theorem Du (w:World)(k tail m kb ko kl kc:Nat)(hk:tail<k∧k≤23)(ht:1≤tail∧tail≤2)(hm:m<8 ^ (k-tail))(hm2:m≤9223372036854775807)(hb:J0 w kb ko kl)(hkb:kb<w.heap.size)(hkl:kl≤kc)(hkc:kc≤2) :
  Calls Tryz.prog 200 #[.int .i64 k, .int .i64 tail, .int .i64 m, .slice (some ⟨kb,ko,none⟩) kl kc] w fun e w'=>
   e=.returned (.slice (some ⟨w.heap.size,0,none⟩) k k)∧Kp (fun _=>False) w w'∧∃k0 k1,RowB w' w.heap.size (Db (k-tail) m++tails k0 k1 tail):=by
 obtain⟨q,hq⟩:∃q,k=q+tail:=⟨k-tail,by omega⟩
 rw[show k-tail=q by omega] at hm ⊢
 have hqk:q+tail≤k∧k≤q+tail:=by omega
 have hmk:=fun w=>Bdw w k (by omega)
 have hrow:RowB (w.alloc (.cells (ubs (List.replicate k 0)).toArray 5)) w.heap.size (List.replicate q 0++(Db 0 m++List.replicate tail 0)):=by
  have:=Ba w (.cells (ubs (List.replicate k 0)).toArray 5);unfold RowB;rw[this,hq];simp[Db]
 have hkt:(k:Int)-(tail:Int)=(q:Int):=by omega
 clear hq;have HROW:=hid hrow;have HK0:Hid (Kp (fun _=>False) w (w.alloc (.cells (ubs (List.replicate k 0)).toArray 5))):=(Kp.refl _ _).alloc _;have HB:=hid hb;have HM:=hid hm;have HX:Hid (m=m/8 ^ 0):=by show m=m/8 ^ 0;simp
 clear hrow hb hm;go_enter Tryz.func200,Tryz.ntmps200
 go_wp2_with fail
 go_loopg [2,10] q (fun g s2 s10 wr=>∃j x:Nat,j+g=q∧s10=.int .i64 ((g:Int)-1)∧s2=.int .i64 x∧Hid (x=m/8 ^ j)∧x≤m∧Hid (RowB wr w.heap.size (List.replicate g 0++(Db j m++List.replicate tail 0)))∧Hid (Kp (fun k=>k=w.heap.size) w wr))
 case atStart=>exact⟨0,m,by omega,rfl,rfl,HX,Nat.le_refl _,HROW,HK0.out.mono (fun _ _ h=>h.elim)⟩
 case round=>
  clear HROW HK0 HX;obtain⟨j,x,hj,rfl,rfl,hx,hxm,hrow,hkp⟩:=hrel;cases gk with
  |succ p=>
   (have e:((p+1:Nat):Int)-1=p:=by omega);rw[e];(have hrow':RowB wr w.heap.size (List.replicate p 0++0::(Db j m++List.replicate tail 0)):=by have:=hrow.out;rwa[Vd] at this);(have c1:=hrow'.cell p (by simp));have z1:=Bb hrow' p;have hand:=and7 x;(have hd:=Nat.mod_lt x (show 0<8 by omega));(have hdx:Hid (x%8=m/8 ^ j%8):=by show x%8=_;rw[show x=m/8 ^ j from hx]);(have hx8:Hid (x/8=m/8 ^ (j+1)):=by show x/8=_;rw[show x=m/8 ^ j from hx,Nat.pow_succ,Nat.div_div_eq_div_mul]);generalize x%8=d at hand hd hdx;have HROW:=hid hrow';clear hrow' hrow e;(go_wp2_with fail);go_roundg p
   case measure=>omega
   case rel=>
    (refine⟨j+1,x/8,by omega,rfl,rfl,hx8,by omega,?_,hkp.out.setCell (p:=⟨w.heap.size,p,none⟩) (.inl rfl) _⟩);(have:=HROW.out.set (UInt8.ofNat (48+d)) (.int .u8 (48+(d:Int))) (by unfold ub;rw[Ht d hd];simp) p (by simp));(rw[show d=m/8 ^ j%8 from hdx] at this ⊢);exact this
  |zero=>
   (obtain rfl:j=q:=by omega);have hrow2:Hid (RowB wr w.heap.size (Db j m++List.replicate tail 0)):=hrow;clear hrow hx;(have hjk:j+tail=k:=by omega);have HJK:=hid hjk;clear hjk hj;(go_wp2_with fail);go_loopg [11,32] tail (fun g s11 s32 wr=>∃(i:Nat) (l2:List UInt8),i+g=tail∧s32=.int .i64 i∧Hid (RowB wr w.heap.size (Db j m++l2)∧l2.length=tail∧(∀c∈l2,c=0∨c=32))∧Hid (Kp (fun k=>k=w.heap.size) w wr))
   case atStart=>exact⟨0,List.replicate tail 0,by omega,rfl,⟨hrow2,List.length_replicate,fun c hc=>.inl (List.eq_of_mem_replicate hc)⟩,hkp⟩
   case round=>
    clear hrow2 hkp;obtain⟨i,l2,hi,rfl,hrow,hkp⟩:=hrel;cases gk with
    |succ g2=>
     have same:RowB wr w.heap.size (Db j m++l2):=hrow.out.1;(have hit:i<tail:=by omega);by_cases hik:i<kl
     ·obtain⟨b,hb⟩:=HB.out i hik;(have cb:wr.cell? ⟨kb,ko+i,none⟩=some (.bool b):=hkp.out.cell hb (by show ¬kb=_;omega));cases b
      ·clear same hb;(go_wp2_with fail);go_roundg g2
       case measure=>omega
       case rel=>exact⟨i+1,l2,by omega,by simp,hrow,hkp⟩
      ·(obtain⟨y,cy⟩:=same.at_ (j+i) (by rw[List.length_append,Dc];have:=hrow.out.2.1;omega));have z1:=Bb same (j+i);have hput:Hid (RowB (wr.setCell ⟨w.heap.size,j+i,none⟩ (.int .u8 32)) w.heap.size (Db j m++l2.set i 32)):=by
        have:=same.put (j+i) 32 (.int .u8 32) rfl;(rw[List.set_append_right _ _ (by rw[Dc];omega),Dc,Nat.add_sub_cancel_left] at this);exact this
       clear same hb;(go_wp2_with fail);go_roundg g2
       case measure=>omega
       case rel=>
        (refine⟨i+1,l2.set i 32,by omega,by simp,⟨hput,by rw[List.length_set];exact hrow.out.2.1,?_⟩,hkp.out.setCell (p:=⟨w.heap.size,j+i,none⟩) (.inl rfl) _⟩);intro c hc;rcases List.mem_or_eq_of_mem_set hc with h|h
        ·exact hrow.out.2.2 c h
        ·exact .inr h
     ·(have hd:decide ((i:Int)<(kl:Int))=false:=decide_eq_false (by omega));clear same;(go_wp2_with fail);go_roundg g2
      case measure=>omega
      case rel=>exact⟨i+1,l2,by omega,by simp,hrow,hkp⟩
    |zero=>
     (go_wp2_with fail);(go_ret);(obtain⟨k0,k1,e⟩:=Bbq l2 (by have:=hrow.out.2.1;omega) hrow.out.2.2);(refine⟨rfl,(Kp.refl (fun _=>False) w).then hkp.out (fun i h1 h2=>by omega),k0,k1,?_⟩);have:=hrow.out.1;rw[e,hrow.out.2.1] at this;exact this
end
section
open Go.RowKit
theorem G9 (r:Rec)(l:List Rec):B9 (r::l)=r.1.length+r.2.length+10+B9 l:=by simp[B9]
theorem Co (l m:List Rec):B9 (l++m)=B9 l+B9 m:=by simp[B9]
theorem Ky:B9 []=0:=rfl
theorem J1 (l m:List Rec)(k:List UInt8):Bf (l++m) k=(Bf m k).or (Bf l k):=by
 induction l with
 |nil=>simp[Bf]
 |cons r l ih=>rw[List.cons_append,Bf,Bf,ih,Option.or_assoc]
theorem Bg6 (l:List Rec)(r:Rec)(k:List UInt8):Bf (l++[r]) k=if r.1=k then some r.2 else Bf l k:=by
 rw[J1];by_cases h:r.1=k<;>simp[Bf,h]
structure WithE (l:List Rec)(r:Rec)(o:List Rec):Prop where
 mem:∀x,x∈o↔x=r∨x∈l∧x.1≠r.1
 wt:B9 o≤B9 l+(r.1.length+r.2.length+10)
 len:o.length≤l.length+1
structure WithS (p:List Rec)(r:Rec)(o:List Rec)(inn:Bool):Prop where
 mem:∀x,x∈o↔(inn=true∧x=r)∨x∈p∧x.1≠r.1
 wt:B9 o≤B9 p+(if inn then r.1.length+r.2.length+10 else 0)
 len:o.length≤p.length+(if inn then 1 else 0)
theorem WithS.nil (r:Rec):WithS [] r [] false:=⟨by simp,by simp[Ky],by simp⟩
theorem WithS.skip {p o:List Rec}{r x:Rec}{inn:Bool}(h:WithS p r o inn)(hx:x.1=r.1):WithS (p++[x]) r o inn:=by
 refine⟨fun y=>?_,?_,?_⟩
 ·rw[h.mem,List.mem_append,List.mem_singleton];constructor
  ·rintro(h|h)
   ·exact .inl h
   ·exact .inr ⟨.inl h.1,h.2⟩
  ·rintro(h|⟨h|rfl,h2⟩)
   ·exact .inl h
   ·exact .inr ⟨h,h2⟩
   ·exact absurd hx h2
 ·rw[Co];have:=h.wt;omega
 ·rw[List.length_append];have:=h.len;omega
theorem WithS.keep {p o:List Rec}{r x:Rec}{inn:Bool}(h:WithS p r o inn)(hx:x.1≠r.1):WithS (p++[x]) r (o++[x]) inn:=by
 refine⟨fun y=>?_,?_,?_⟩
 ·rw[List.mem_append,h.mem,List.mem_append,List.mem_singleton];constructor
  ·rintro((h|h)|rfl)
   ·exact .inl h
   ·exact .inr ⟨.inl h.1,h.2⟩
   ·exact .inr ⟨.inr rfl,hx⟩
  ·rintro(h|⟨h|rfl,h2⟩)
   ·exact .inl (.inl h)
   ·exact .inl (.inr ⟨h,h2⟩)
   ·exact .inr rfl
 ·rw[Co,Co];have:=h.wt;omega
 ·rw[List.length_append,List.length_append,List.length_singleton];have:=h.len;omega
theorem WithS.put {p o:List Rec}{r:Rec}(h:WithS p r o false):WithS p r (o++[r]) true:=by
 refine⟨fun y=>?_,?_,?_⟩
 ·rw[List.mem_append,h.mem,List.mem_singleton];constructor
  ·rintro((h|h)|rfl)
   ·exact absurd h.1 (by simp)
   ·exact .inr h
   ·exact .inl ⟨rfl,rfl⟩
  ·rintro(h|h)
   ·exact .inr h.2
   ·exact .inl (.inr h)
 ·rw[Co];have:=h.wt;simp only[G9,Ky,if_true,Bool.false_eq_true,if_false] at *;omega
 ·rw[List.length_append,List.length_singleton];have:=h.len;simp only[if_true,Bool.false_eq_true,if_false] at *;omega
theorem WithS.done {p o:List Rec}{r:Rec}(h:WithS p r o true):WithE p r o:=
 ⟨fun x=>by rw[h.mem];simp,by have:=h.wt;simpa using this,by have:=h.len;simpa using this⟩
structure LastE (l o:List Rec):Prop where
 mem:∀k v,(k,v)∈o↔Bf l k=some v
 wt:B9 o≤B9 l
 len:o.length≤l.length
theorem LastE.nil:LastE [] []:=⟨fun k v=>by simp[Bf],Nat.le_refl _,Nat.le_refl _⟩
theorem LastE.step {l o o':List Rec}{r:Rec}(h:LastE l o)(hw:WithE o r o'):LastE (l++[r]) o':=by
 refine⟨fun k v=>?_,?_,?_⟩
 ·rw[hw.mem,Bg6,h.mem];by_cases hk:r.1=k
  ·rw[if_pos hk];subst hk;constructor
   ·rintro(h|⟨_,h⟩)
    ·rw[←h]
    ·exact absurd rfl h
   ·intro h;(injection h with h);exact .inl (by rw[←h])
  ·rw[if_neg hk];constructor
   ·rintro(h|⟨h,_⟩)
    ·rw[←h] at hk;exact absurd rfl hk
    ·exact h
   ·intro h;exact .inr ⟨h,fun e=>hk e.symm⟩
 ·have:=h.wt;have:=hw.wt;rw[Co,G9,Ky];omega
 ·have:=h.len;have:=hw.len;rw[List.length_append,List.length_singleton];omega
theorem LastE.find {l o:List Rec}(h:LastE l o)(k v:List UInt8):Bf o k=some v↔Bf l k=some v:=by
 constructor
 ·intro hf;exact(h.mem k v).1 (Cc _ _ _ hf)
 ·intro hf;obtain⟨u,hu⟩:=G8 _ _ _ ((h.mem k v).2 hf);have:=(h.mem k u).1 (Cc _ _ _ hu);rw[hf] at this;injection this with this
  subst this;exact hu
theorem LastE.sub {l o:List Rec}(h:LastE l o):∀r∈o,r∈l:=fun r hr=>Cc _ _ _ ((h.mem r.1 r.2).1 hr)
theorem Cr (n k:Nat)(hk:1≤k)(h:n<10 ^ k):(Lib.decDigits n).length≤k:=by
 induction k generalizing n with
 |zero=>omega
 |succ k ih=>
  rw[Lib.decDigits];split
  ·simp
  ·cases k with
   |zero=>simp at h;omega
   |succ k=>
    (have:=ih (n/10) (by omega) (by rw[Nat.pow_succ] at h;exact Nat.div_lt_of_lt_mul (by rw[Nat.mul_comm];exact h)));rw[List.length_append,List.length_singleton];omega
theorem Mw (n k:Nat)(h:10 ^ k≤n):k+1≤(Lib.decDigits n).length:=by
 have h1:=Rv (Lib.decDigits n) (Em n);rw[E2] at h1;have h2:=Nat.lt_of_le_of_lt h h1;exact(Nat.pow_lt_pow_iff_right (show 1<10 by omega)).1 h2
theorem Bbr (n:Nat)(hn:n<10 ^ 16):∃d,1≤d∧d≤18∧(Lib.decDigits (n+d)).length=d:=by
 obtain⟨d,hd⟩:∃d,(Lib.decDigits n).length=d:=⟨_,rfl⟩;have hd1:1≤d:=hd▸L3 n;have hd16:d≤16:=hd▸Cr n 16 (by omega) hn
 have hlt:n<10 ^ d:=by
  have h1:=Rv (Lib.decDigits n) (Em n);rwa[E2,hd] at h1
 have hge:d≤(Lib.decDigits (n+d)).length:=by
  rcases Nat.lt_or_ge n 10 with h|h
  ·have:d=1:=by
    rw[←hd,Lib.decDigits];simp[h]
   rw[this];exact L3 _
  ·(obtain⟨e,he⟩:∃e,d=e+1:=⟨d-1,by omega⟩);have:10 ^ e≤n:=by
    rcases Nat.lt_or_ge n (10 ^ e) with hh|hh
    ·have:1≤e:=by
      rcases e with _|e
      ·simp at hh;omega
      ·omega
     have:=Cr n e this hh;omega
    ·exact hh
   rw[he];exact Mw _ _ (by omega)
 have h10:d+1≤10 ^ d:=by
  have:d<10 ^ d:=Nat.lt_pow_self (by omega)
  omega
 by_cases h:n+d<10 ^ d
 ·exact⟨d,hd1,by omega,Nat.le_antisymm (Cr _ _ hd1 h) hge⟩
 ·refine⟨d+1,by omega,by omega,Nat.le_antisymm (Cr _ _ (by omega) ?_) (Mw _ _ (by omega))⟩
  rw[Nat.pow_succ];omega
def Dv (r:Rec):List UInt8:=32::(r.1++61::(r.2++[10]))
theorem Bdy (r:Rec)(d:Nat)(h:(Lib.decDigits ((Dv r).length+d)).length=d):Lt r (Lib.decDigits ((Dv r).length+d)++Dv r):=by
 unfold Lt;rw[List.length_append,h,Nat.add_comm d];rfl
end
section
open Go.RowKit
def ArcS (nb pad:Nat)(src:List UInt8)(fs:List B4):Prop:=
 ∃d p bs tail,src=d++p++(bs++(List.replicate 1024 0++tail))∧d.length=nb∧p.length=pad∧FilesE fs bs
theorem ArcS.start {fs:List B4}{b:List UInt8}(h:Bfy fs b)(behind:List UInt8):ArcS 0 0 (b++behind) fs:=by
 obtain⟨bs,k,h1,h2,h3,rfl⟩:=h;refine⟨[],[],bs,List.replicate (512*k-1024) 0++behind,?_,rfl,rfl,h1⟩;have e:List.replicate (512*k) (0:UInt8)=List.replicate 1024 0++List.replicate (512*k-1024) 0:=by
  rw[List.replicate_append_replicate,show 1024+(512*k-1024)=512*k by omega]
 rw[e];simp only[List.nil_append,List.append_assoc]
theorem ArcS.end_ {nb pad:Nat}{src:List UInt8}(h:ArcS nb pad src []):HeadP nb pad none [] [] src (.fail 0):=by
 obtain⟨d,p,bs,tail,rfl,h1,h2,h3⟩:=h;cases h3;exact HeadP.end_ d p tail h1 h2
theorem ArcS.read {nb pad m:Nat}{src:List UInt8}{fs:List B4}(h:ArcS nb pad src fs)(hm:m≤nb):ArcS (nb-m) pad (src.drop m) fs:=by
 obtain⟨d,p,bs,tail,rfl,h1,h2,h3⟩:=h;refine⟨d.drop m,p,bs,tail,?_,by rw[List.length_drop,h1],h2,h3⟩
 rw[List.append_assoc d,List.append_assoc (d.drop m),List.drop_append_of_le_length (by omega)]
def Bbs (f:B4)(fs:List B4):Out→Prop
 | .file h2 pax src=>f.1.typ≠103∧SameH h2 f.1∧(∀k v,Bf f.1.recs k=some v→∃rs,pax=some rs∧Bf rs k=some v)∧Cm h2=f.2.length∧ArcS f.2.length (Cv f.2.length) src fs∧src.take f.2.length=f.2∧f.2.length≤src.length
 | .glob _ rs pad src=>f.1.typ=103∧f.2=[]∧(∀k v,Bf rs k=some v↔Bf f.1.recs k=some v)∧ArcS 0 pad src fs∧pad≤512
 | .fail _=>False
theorem ArcS.next {nb pad:Nat}{src:List UInt8}{f:B4}{fs:List B4}(h:ArcS nb pad src (f::fs))(hp:Qm f)(hi:Int64s f.1)(hdl:f.2.length≤4611686018427387904) :
  ∃out,HeadP nb pad none [] [] src out∧Bbs f fs out∧∃tail,OutOk f.1 f.2 tail out:=by
 obtain⟨d,p,bs,tail,rfl,h1,h2,h3⟩:=h;cases h3 with
 |@cons _ _ b bs' h3 h4=>
  obtain⟨out,e1,e2⟩:=R5 (h:=f.1) (data:=f.2) (tail:=bs'++(List.replicate 1024 0++tail)) h3 hp hi hdl h1 h2;have e20:=e2;refine⟨out,by rw[List.append_assoc b bs'];exact e1,?_,_,e20⟩
  rcases e2 with ⟨h2',pax,rfl,ht,hs,hf⟩|⟨rs,n,ht,rfl,hf⟩
  ·have hdat:if B8 f.1.typ then (f.2.length:Int)=f.1.size else f.2=[]:=by
    rcases hp with ⟨hg,_⟩|⟨_,_,_,h⟩
    ·exact absurd hg.typ ht
    ·exact h
   refine⟨ht,hs,hf,?_⟩;unfold Cm De;rw[hs.typ,hs.size];cases e:B8 f.1.typ with
   |true=>
    rw[if_pos e] at hdat;simp only[if_true];refine⟨by omega,⟨f.2,List.replicate (Cv f.2.length) 0,bs',tail,?_,rfl,List.length_replicate ..,h4⟩,?_,?_⟩
    ·rfl
    ·unfold Cb;rw[List.append_assoc,List.take_left'];rfl
    ·unfold Cb;simp only[List.length_append];omega
   |false=>
    rw[e] at hdat;simp only[Bool.false_eq_true,if_false] at hdat ⊢;rw[hdat];exact⟨rfl,⟨[],[],bs',tail,rfl,rfl,rfl,h4⟩,rfl,Nat.zero_le _⟩
  ·have hdat:f.2=[]:=by
    rcases hp with ⟨_,h⟩|⟨h,_⟩
    ·exact h
    ·exact absurd ht h
   exact⟨ht,hdat,hf,⟨[],List.replicate (Cv n) 0,bs',tail,rfl,rfl,List.length_replicate ..,h4⟩,Nat.le_of_lt (Ry n)⟩
end
section
open Go Go.RowKit
theorem Ve (n:Int)(j:Nat):n/256 ^ j/256=n/256 ^ (j+1):=by
 rw[Int.pow_succ,Int.ediv_ediv_of_nonneg (Int.pow_nonneg (by decide))]
theorem J2 (w:World)(k:Nat)(n:Int)(hk:1≤k∧k≤23)(hn: -9223372036854775808≤n∧n≤9223372036854775807) :
  Calls Tryz.prog 198 #[.int .i64 k, .int .i64 n] w fun e w'=>
   e=.returned (.slice (some ⟨w.heap.size,0,none⟩) k k)∧Kp (fun _=>False) w w'∧RowB w' w.heap.size (Hn (k-1) n):=by
 obtain⟨q,hq⟩:∃q,k=q+1:=⟨k-1,by omega⟩
 rw[show k-1=q by omega]
 have hqk:q+1≤k∧k≤q+1:=by omega
 have hkt:(k:Int)-1=(q:Int):=by omega
 have hmk:=fun w=>Bdw w k (by omega)
 have hrow:RowB (w.alloc (.cells (ubs (List.replicate k 0)).toArray 5)) w.heap.size (List.replicate (q+1) 0++G6 0 n):=by
  have:=Ba w (.cells (ubs (List.replicate k 0)).toArray 5);unfold RowB;rw[this,hq];simp[G6]
 clear hq;have HROW:=hid hrow;have HK0:Hid (Kp (fun _=>False) w (w.alloc (.cells (ubs (List.replicate k 0)).toArray 5))):=(Kp.refl _ _).alloc _;have HX:Hid (n=n/256 ^ 0):=by show n=n/256 ^ 0;simp
 clear hrow;go_enter Tryz.func198,Tryz.ntmps198
 go_wp2_with fail
 go_loopg [1,6] q (fun g s1 s6 wr=>∃(j:Nat) (x:Int),j+g=q∧s6=.int .i64 g∧s1=.int .i64 x∧Hid (x=n/256 ^ j)∧Hid (x<0↔n<0)∧ -9223372036854775808≤x∧x≤9223372036854775807∧Hid (RowB wr w.heap.size (List.replicate (g+1) 0++G6 j n))∧Hid (Kp (fun k=>k=w.heap.size) w wr))
 case atStart=>exact⟨0,n,by omega,rfl,rfl,HX,Iff.rfl,hn.1,hn.2,HROW,HK0.out.mono (fun _ _ h=>h.elim)⟩
 case round=>
  clear HROW HK0 HX;obtain⟨j,x,hj,rfl,rfl,hx,hsg,hx1,hx2,hrow,hkp⟩:=hrel;cases gk with
  |succ p=>
   (have hrow':RowB wr w.heap.size (List.replicate (p+1) 0++0::G6 j n):=by have:=hrow.out;rwa[Vd] at this);(have c1:=hrow'.cell (p+1) (by simp));have z1:=Bb hrow' (p+1);(have hdx:Hid (x%256=n/256 ^ j%256):=by show x%256=_;rw[show x=n/256 ^ j from hx]);(have hx8:Hid (x/256=n/256 ^ (j+1)):=by show x/256=_;rw[show x=n/256 ^ j from hx,Ve]);(have hd1:0≤x%256∧x%256<256:=by omega);have HROW:=hid hrow';clear hrow' hrow;(go_wp2_with fail);go_roundg p
   case measure=>omega
   case rel=>
    refine⟨j+1,x/256,by omega,rfl,rfl,hx8,?_,by omega,by omega,?_,hkp.out.setCell (p:=⟨w.heap.size,p+1,none⟩) (.inl rfl) _⟩
    ·have:=hsg.out;show x/256<0↔n<0;rw[←this];omega
    ·(have:=HROW.out.set (UInt8.ofNat (x%256).toNat) (.int .u8 (x%256)) (by unfold ub;rw[byte_toNat _ hd1.1 hd1.2];congr 1;omega) (p+1) (by simp));(rw[show x%256=n/256 ^ j%256 from hdx] at this ⊢);exact this
  |zero=>
   (obtain rfl:j=q:=by omega);have hrow':RowB wr w.heap.size ([]++0::G6 j n):=hrow.out;have c1:=hrow'.cell 0 rfl;have z1:=Bb hrow' 0;have r1:Hid (RowB (wr.setCell ⟨w.heap.size,0,none⟩ (.int .u8 128)) w.heap.size ([]++128::G6 j n)):=hrow'.set 128 _ rfl 0 rfl;have HROW:=hid hrow';have kp1:Hid (Kp (fun k=>k=w.heap.size) w (wr.setCell ⟨w.heap.size,0,none⟩ (.int .u8 128))):=hkp.out.setCell (p:=⟨w.heap.size,0,none⟩) (.inl rfl) _;clear hrow' hrow hkp;by_cases hneg:x<0
   ·have c2:=r1.out.cell 0 rfl;have z2:=Bb r1.out 0;have r2:Hid (RowB ((wr.setCell ⟨w.heap.size,0,none⟩ (.int .u8 128)).setCell ⟨w.heap.size,0,none⟩ (.int .u8 255)) w.heap.size ([]++255::G6 j n)):=r1.out.set 255 _ rfl 0 rfl;have kp2:Hid (Kp (fun k=>k=w.heap.size) w ((wr.setCell ⟨w.heap.size,0,none⟩ (.int .u8 128)).setCell ⟨w.heap.size,0,none⟩ (.int .u8 255))):=kp1.out.setCell (p:=⟨w.heap.size,0,none⟩) (.inl rfl) _;(go_wp2_with fail);(go_ret);(refine⟨rfl,(Kp.refl (fun _=>False) w).then kp2.out (fun i h1 h2=>by omega),?_⟩);have hn0:n<0:=hsg.out.1 hneg;rw[Hn,if_pos hn0];exact r2.out
   ·(go_wp2_with fail);(go_ret);(refine⟨rfl,(Kp.refl (fun _=>False) w).then kp1.out (fun i h1 h2=>by omega),?_⟩);(have hn0:¬n<0:=fun h=>by have:=hsg.out.2 h;omega);rw[Hn,if_neg hn0];exact r1.out
end
section
open Go Go.RowKit
def NumsAt (w:World)(C:Nat)(nv:Value):Prop:=
 nv=.slice none 0 0∨∃nb no nl nc,nv=.slice (some ⟨nb,no,none⟩) nl nc∧nl≤nc∧nc≤1152921504606846976∧nb<C∧∀i,i<nl→∃x:Int,-9223372036854775808≤x∧x≤9223372036854775807∧w.cell? ⟨nb,no+i,none⟩=some (.int .i64 x)
def Cho (w:World)(C m:Nat):Prop:=∃nv at_,w.heap[C]?=some (.cells #[nv, .int .i64 ((at_:Nat):Int)] 85 (0,0))∧at_≤m∧NumsAt w C nv
theorem NumsAt.keep {w w':World}{C:Nat}{nv:Value}{S:Nat→Prop}(h:NumsAt w C nv)(k:Kp S w w')(hS:∀i,S i→C≤i):NumsAt w' C nv:=by
 rcases h with h|⟨nb,no,nl,nc,h1,h2,h3,h4,h5⟩
 ·exact .inl h
 ·exact .inr ⟨nb,no,nl,nc,h1,h2,h3,h4,fun i hi=>by obtain⟨x,a,b,c⟩:=h5 i hi;exact⟨x,a,b,k.cell c (fun h=>by have:=hS _ h;simp at this;omega)⟩⟩
theorem Cho.keep {w w':World}{C m m':Nat}{S:Nat→Prop}(h:Cho w C m)(k:Kp S w w')(hS:∀i,S i→C<i)(hm:m≤m'):Cho w' C m':=by
 obtain⟨nv,a,h1,h2,h3⟩:=h;exact⟨nv,a,k.heap h1 (fun h=>by have:=hS _ h;omega),by omega,h3.keep k (fun i hi=>Nat.le_of_lt (hS i hi))⟩
theorem Cs (w:World)(C m n:Nat)(h:Cho w C m)(hn:1≤n∧n≤1152921504606846976)(hm:m≤1152921504606846976) :
  Calls Tryz.prog 39 #[.pointer (some ⟨C,0,none⟩), .int .i64 n] w fun e w'=>(∃v:Nat,v<n∧e=.returned (.int .i64 v))∧Kp (· =C) w w'∧Cho w' C (m+1):=by
 have H:=hid h;obtain⟨nv,a,hrow,ha,hnv⟩:=h;have c1:w.cell? ⟨C,1,none⟩=some (.int .i64 a):=cell_of hrow 1 rfl;have z1:=Bb hrow 1;have same:Hid (Kp (· =C) w w∧Cho w C (m+1)):=⟨Kp.refl _ _,H.out.keep (Kp.refl (fun _=>False) w) (fun _ h=>h.elim) (by omega)⟩
 have HROW:=hid hrow;rcases hnv with rfl|⟨nb,no,nl,nc,rfl,hlc,hcm,hbC,hx⟩
 ·have c0:w.cell? ⟨C,0,none⟩=some (.slice none 0 0):=cell_of hrow 0 rfl;clear hrow H;go_enter Tryz.func39,Tryz.ntmps39
  go_wp2_with fail
  go_ret
  exact⟨⟨0,by omega,rfl⟩,same.out.1,same.out.2⟩
 ·have c0:w.cell? ⟨C,0,none⟩=some (.slice (some ⟨nb,no,none⟩) nl nc):=cell_of hrow 0 rfl;have HX:=hid hx;clear hrow H hx;by_cases hz:nl=0
  ·subst hz;(go_enter Tryz.func39,Tryz.ntmps39);(go_wp2_with fail);(go_ret);exact⟨⟨0,by omega,rfl⟩,same.out.1,same.out.2⟩
  ·(have hz':((nl:Int)==0)=false:=by rw[beq_eq_false_iff_ne];omega);by_cases h2:n<2
   ·(have h2':decide ((n:Int)<2)=true:=decide_eq_true (by omega));(go_enter Tryz.func39,Tryz.ntmps39);(go_wp2_with fail);(go_ret);exact⟨⟨0,by omega,rfl⟩,same.out.1,same.out.2⟩
   ·(have h2':decide ((n:Int)<2)=false:=decide_eq_false (by omega));(have hr:a%nl<nl:=Nat.mod_lt _ (by omega));obtain⟨x,hx1,hx2,cx⟩:=HX.out (a%nl) hr;have htm:Int.tmod (a:Int) (nl:Int)=((a%nl:Nat):Int):=Int.ofNat_tmod a nl▸rfl;have hyb: -(n:Int)<Int.tmod x (n:Int)∧Int.tmod x (n:Int)<(n:Int):=by
     (have h1:=Int.tmod_lt_of_pos x (show (0:Int)<n by omega));have h2:=Int.neg_tmod (a:=x) (b:=n);(have h3:=Int.tmod_lt_of_pos (-x) (show (0:Int)<n by omega));omega
    obtain⟨y,hy⟩:∃y,Int.tmod x (n:Int)=y:=⟨_,rfl⟩;rw[hy] at hyb;have fin:∀q,Hid (Kp (· =C) w ((w.drewN q).setCell ⟨C,1,none⟩ (.int .i64 ((a:Int)+1)))∧Cho ((w.drewN q).setCell ⟨C,1,none⟩ (.int .i64 ((a:Int)+1))) C (m+1)):=by
     intro q;have k:Kp (· =C) w ((w.drewN q).setCell ⟨C,1,none⟩ (.int .i64 ((a:Int)+1))):=Kp.setCell (S:=(· =C)) (p:=⟨C,1,none⟩) ((Kp.refl _ w).drewN q) (.inl rfl) _;refine⟨k,_,a+1,?_,by omega, .inr ⟨nb,no,nl,nc,rfl,hlc,hcm,hbC,fun i hi=>?_⟩⟩
     ·have:=heap_set (heap_drewN HROW.out q) 1 (.int .i64 ((a:Int)+1));exact this
     ·obtain⟨x',h1,h2,h3⟩:=HX.out i hi;exact⟨x',h1,h2,k.cell h3 (by show ¬nb=C;omega)⟩
    by_cases hneg:y<0
    ·(go_enter Tryz.func39,Tryz.ntmps39);(go_wp2_with fail);(go_quiet (fail));(go_wp2_with fail);(go_ret);exact⟨⟨(y+n).toNat,by omega,by show Ending.returned (.int .i64 (y+n))=_;rw[Int.toNat_of_nonneg (by omega)]⟩,(fin _).out.1,(fin _).out.2⟩
    ·(go_enter Tryz.func39,Tryz.ntmps39);(go_wp2_with fail);(go_quiet (fail));(go_wp2_with fail);(go_ret);exact⟨⟨y.toNat,by omega,by show Ending.returned (.int .i64 y)=_;rw[Int.toNat_of_nonneg (by omega)]⟩,(fin _).out.1,(fin _).out.2⟩
end
section
open Go Go.RowKit
theorem Bbt (w:World)(b off c:Nat)(l:List UInt8)(hb:BytesAt w b off l)(hl:l.length=512) :
  Calls Tryz.prog 97 #[.slice (some ⟨b,off,none⟩) 512 c] w fun e w'=>(∃s2:Int,e=.returned (.tuple #[.int .i64 (Bz l 512), .int .i64 s2]))∧w'=w:=by
 have HB:=hid hb;clear hb;go_enter Tryz.func97,Tryz.ntmps97
 go_wp2_with fail
 go_loopg [4,5,6,7,10] 512 (fun g s4 s5 s6 s7 s10 wr=>∃(i:Nat) (a t:Int),i+g=512∧s10=.int .i64 i∧s4=.int .i64 a∧Hid (a=Bz l i)∧0≤a∧a≤255*i∧s5=.int .i64 t∧wr=w)
 case atStart=>exact⟨0,0,0,by omega,rfl,rfl,rfl,by omega,by omega,rfl,rfl⟩
 case round=>
  obtain⟨i,a,t,hi,rfl,rfl,ha,h0,h1,rfl,rfl⟩:=hrel;by_cases hlt:i<512
  ·(have hil:i<l.length:=by omega);(have cb:wr.cell? ⟨b,off+i,none⟩=some (.int .u8 l[i].toNat):=HB.out i _ (by simp[ubs,ub,hil]));have h256:=l[i].toNat_lt;have hus:Hid (((Bz l (i+1):Nat):Int)=a+(((ck i l[i]).toNat:Nat):Int)):=by
    show _=_;(rw[show a=((Bz l i:Nat):Int) from ha,Bz,List.getD_eq_getElem?_getD,List.getElem?_eq_getElem hil]);rfl
   by_cases hin:148≤i∧i<156
   ·(go_wp2_with fail);go_roundg (gk-1)
    case measure=>omega
    case rel=>
     (refine⟨i+1,a+32,_,by omega,by simp,rfl,?_,by omega,by omega,rfl,rfl⟩);have:=hus.out;rw[ck,if_pos hin] at this;exact this.symm
   ·by_cases h8:i<148
    ·(go_wp2_with fail);go_roundg (gk-1)
     case measure=>omega
     case rel=>
      (refine⟨i+1,a+l[i].toNat,_,by omega,by simp,rfl,?_,by omega,by omega,rfl,rfl⟩);have:=hus.out;rw[ck,if_neg hin] at this;exact this.symm
    ·(have h9:156≤i:=by omega);(go_wp2_with fail);go_roundg (gk-1)
     case measure=>omega
     case rel=>
      (refine⟨i+1,a+l[i].toNat,_,by omega,by simp,rfl,?_,by omega,by omega,rfl,rfl⟩);have:=hus.out;rw[ck,if_neg hin] at this;exact this.symm
  ·(obtain rfl:i=512:=by omega);have ha':Hid (a=Bz l 512):=ha;(go_wp2_with fail);(go_ret2);refine⟨⟨t,?_⟩,rfl⟩;(rw[←show a=((Bz l 512:Nat):Int) from ha']);rfl
end
section
open Go Go.RowKit
theorem H9 (w:World)(t:UInt8):Calls Tryz.prog 67 #[.int .u8 t.toNat] w fun e w'=>e=.returned (.bool (B8 t))∧w'=w:=by
 have hh:B8 t=(decide (t.toNat<49)||decide (54<t.toNat)):=rfl;rw[hh];have ht:=t.toNat_lt;generalize t.toNat=n at ht ⊢;by_cases h1:n<49
 ·have e:(decide (n<49)||decide (54<n))=true:=by simp[h1]
  rw[e];go_enter Tryz.func67,Tryz.ntmps67
  go_wp2_with fail
  go_ret
  refine⟨?_,rfl⟩;have:decide ((n:Int)<49)=true:=decide_eq_true (by omega)
  simp[this];try omega
 ·have h1':decide ((n:Int)<49)=false:=decide_eq_false (by omega)
  have e:(decide (n<49)||decide (54<n))=decide ((54:Int)<n):=by
   rw[decide_eq_false h1,Bool.false_or];exact decide_eq_decide.2 (by omega)
  rw[e];go_enter Tryz.func67,Tryz.ntmps67
  go_wp2_with fail
  go_ret
  exact⟨by simp[h1'],rfl⟩
theorem Xu (w:World)(n:Nat)(hn:n≤1152921504606846976):Calls Tryz.prog 55 #[.int .i64 n] w fun e w'=>e=.returned (.int .i64 (Kw n:Nat))∧w'=w:=by
 go_enter Tryz.func55,Tryz.ntmps55
 go_wp2_with fail
 go_ret
 exact⟨rfl,rfl⟩
end
section
open Go Go.RowKit
def okA (c:UInt8):Bool:=decide (c.toNat<128)&&(c != 0)
theorem Bbu {l:List UInt8}{i:Nat}(hi:i<l.length)(h:(l.take i).all okA=true)(hc:okA l[i]=true):(l.take (i+1)).all okA=true:=by
 rw[List.take_succ_eq_append_getElem hi,List.all_append,h];simp[hc]
theorem Y7 {l:List UInt8}{i:Nat}(hi:i<l.length)(hc:okA l[i]=false):l.all okA=false:=by
 rw[Bool.eq_false_iff];intro h;have:=List.all_eq_true.1 h l[i] (List.getElem_mem hi);rw[hc] at this;cases this
theorem Ew (w:World)(l:List UInt8)(hl:l.length≤281474976710656):Calls Tryz.prog 119 #[B5 l] w fun e w'=>e=.returned (.bool (l.all okA))∧w'=w:=by
 unfold B5;go_enter Tryz.func119,Tryz.ntmps119
 go_wp2_with fail
 go_loopg [3,6] l.length (fun g s3 s6 wr=>∃(i:Nat),i+g=l.length∧s6=.int .i64 i∧Hid ((l.take i).all okA=true)∧wr=w)
 case atStart=>exact⟨0,by omega,rfl,rfl,rfl⟩
 case round=>
  obtain⟨i,hi,rfl,ha,rfl⟩:=hrel;by_cases hlt:i<l.length
  ·by_cases h1:(128:Int)≤((l[i].toNat:Nat):Int)
   ·(have hbad:Hid (l.all okA=false):=Y7 hlt (by unfold okA;rw[decide_eq_false (by omega)];rfl));have h1':(128:Int)≤(((⟨l.toArray⟩:ByteArray)[i]'hlt).toNat:Int):=h1;clear h1;(go_wp2_with fail);(go_ret);rw[hbad.out];exact⟨rfl,rfl⟩
   ·(have h1':(((⟨l.toArray⟩:ByteArray)[i]'hlt).toNat:Int)<128:=by show ((l[i].toNat:Nat):Int)<128;omega);by_cases h2:l[i]=0
    ·(have hbad:Hid (l.all okA=false):=Y7 hlt (by rw[h2];rfl));(have h2':((((⟨l.toArray⟩:ByteArray)[i]'hlt).toNat:Int)==0)=true:=by show ((l[i].toNat:Int)==0)=true;rw[h2];rfl);clear h2 h1;(go_wp2_with fail);(go_ret);rw[hbad.out];exact⟨rfl,rfl⟩
    ·(have hok:Hid ((l.take (i+1)).all okA=true):=Bbu hlt ha.out (by unfold okA;rw[decide_eq_true (by omega)];simpa using h2));have h2':((((⟨l.toArray⟩:ByteArray)[i]'hlt).toNat:Int)==0)=false:=by
      show ((l[i].toNat:Int)==0)=false;rw[beq_eq_false_iff_ne];intro e;exact h2 (UInt8.toNat_inj.mp (by simpa using e))
     clear h2 h1;(go_wp2_with fail);go_roundg (gk-1)
     case measure=>omega
     case rel=>exact⟨i+1,by omega,by simp,hok,rfl⟩
  ·(obtain rfl:i=l.length:=by omega);(go_wp2_with fail);(go_ret);refine⟨?_,rfl⟩;have:=ha.out;rw[List.take_length] at this;rw[this];rfl
end
section
open Go Go.RowKit
def splitB (l:List UInt8)(i:Nat):Bool:=decide (1≤i)&&decide (i≤155)&&decide (i<l.length)&&decide (l[i]?=some 47)&&decide (i+2≤l.length)&&decide (l.length≤i+101)
theorem Qo (w:World)(l:List UInt8)(i:Nat)(hl:l.length≤281474976710656)(hi:i≤281474976710656):Calls Tryz.prog 122 #[B5 l, .int .i64 i] w fun e w'=>e=.returned (.bool (splitB l i))∧w'=w:=by
 unfold B5;by_cases h1:1≤i
 ·by_cases h2:i≤155
  ·by_cases h3:i<l.length
   ·have h3':i<(⟨l.toArray⟩:ByteArray).size:=h3;have hg:l[i]?=some l[i]:=List.getElem?_eq_getElem h3;by_cases h4:l[i]=47
    ·(have h4':((((⟨l.toArray⟩:ByteArray)[i]'h3').toNat:Int)==47)=true:=by show ((l[i].toNat:Int)==47)=true;rw[h4];rfl);by_cases h5:i+2≤l.length
     ·have hv:Hid (splitB l i=decide ((l.length:Int)-i-1≤100)):=by
       show _=_;unfold splitB;rw[hg,h4,decide_eq_true h1,decide_eq_true h2,decide_eq_true h3,decide_eq_true h5];simp only[decide_true,Bool.true_and];exact decide_eq_decide.2 (by omega)
      clear h4 hg;(go_enter Tryz.func122,Tryz.ntmps122);(go_wp2_with fail);(go_ret);rw[hv.out];exact⟨rfl,rfl⟩
     ·(have hv:Hid (splitB l i=false):=by show _=_;unfold splitB;rw[decide_eq_false h5];simp);clear h4 hg;(go_enter Tryz.func122,Tryz.ntmps122);(go_wp2_with fail);(go_ret);rw[hv.out];exact⟨rfl,rfl⟩
    ·have h4':((((⟨l.toArray⟩:ByteArray)[i]'h3').toNat:Int)==47)=false:=by
      show ((l[i].toNat:Int)==47)=false;rw[beq_eq_false_iff_ne];intro e;exact h4 (UInt8.toNat_inj.mp (by show l[i].toNat=47;omega))
     (have hv:Hid (splitB l i=false):=by show _=_;unfold splitB;rw[hg,decide_eq_false (p:=some l[i]=some 47) (by simpa using h4)];simp);clear h4 hg;(go_enter Tryz.func122,Tryz.ntmps122);(go_wp2_with fail);(go_ret);rw[hv.out];exact⟨rfl,rfl⟩
   ·(have hv:Hid (splitB l i=false):=by show _=_;unfold splitB;rw[decide_eq_false h3];simp);(go_enter Tryz.func122,Tryz.ntmps122);(go_wp2_with fail);(go_ret);rw[hv.out];exact⟨rfl,rfl⟩
  ·(have hv:Hid (splitB l i=false):=by show _=_;unfold splitB;rw[decide_eq_false h2];simp);(go_enter Tryz.func122,Tryz.ntmps122);(go_wp2_with fail);(go_ret);rw[hv.out];exact⟨rfl,rfl⟩
 ·have hv:Hid (splitB l i=false):=by show _=_;unfold splitB;rw[decide_eq_false h1];simp
  go_enter Tryz.func122,Tryz.ntmps122
  go_wp2_with fail
  go_ret
  rw[hv.out];exact⟨rfl,rfl⟩
end
section
open Go Go.RowKit
def OctEnd (w:World)(C m b off k n:Nat)(cur:List Value)(t:TypeId)(e:Ending)(w':World):Prop:=
 e=.returned (.tuple #[])∧Kp (fun i=>i=b∨i=C) w w'∧Cho w' C (m+3)∧∃tail k0 k1,1≤tail∧tail≤2∧n<8 ^ (k-tail)∧w'.heap[b]?=some (.cells (splice cur off (ubs (Db (k-tail) n++tails k0 k1 tail))).toArray t (0,0))
theorem Qp (w:World)(C m b off k c:Nat)(n:Nat)(cur:List Value)(t:TypeId)(hC:Cho w C m)(hm:m≤1000000000000)(hCb:C<b)(hk:3≤k∧k≤12)(hkc:k≤c)(hn:n<8 ^ (k-1))(hb:w.heap[b]?=some (.cells cur.toArray t (0,0)))(hfit:off+k≤cur.length) :
  Calls Tryz.prog 199 #[.pointer (some ⟨C,0,none⟩), .slice (some ⟨b,off,none⟩) k c, .int .i64 n] w (OctEnd w C m b off k n cur t):=by
 have hn2:(n:Int)≤9223372036854775807:=by
  have:8 ^ (k-1)≤8 ^ 11:=Nat.pow_le_pow_right (by omega) (by omega)
  omega
 have HF:=fun W=>hid (Cx W (k-1) n (by omega) (by omega))
 have HC:=hid hC;clear hC;have hkt:(k:Int)-1=((k-1:Nat):Int):=by omega
 go_enter Tryz.func199,Tryz.ntmps199
 go_wp2_with fail
 refine(HF w).out.mono ?_;rintro e w1 ⟨rfl,rfl⟩;obtain⟨β,hβ⟩:∃β,(decide (0≤(n:Int))&&decide ((n:Int)<8 ^ (k-1-1)))=β:=⟨_,rfl⟩;rw[hβ];have HBETA:=hid hβ;clear hβ;cases β
 ·go_wp2_with fail
  refine(Cs w1 C m 2 HC.out (by omega) (by omega)).mono ?_
  rintro e w2 ⟨⟨v1,hv1,rfl⟩,hk2,hc2⟩;have hb2:=hk2.heap hb (by omega)
  have HC2:=hid hc2;go_wp2_with fail
  refine(Cs w2 C (m+1) 2 HC2.out (by omega) (by omega)).mono ?_
  rintro e w3 ⟨⟨v2,hv2,rfl⟩,hk3,hc3⟩;have hb3:=hk3.heap hb2 (by omega)
  have hk13:=(hk2.mono (fun _ _ h=>h):Kp (fun i=>i=C) w1 w2).trans hk3;have hk14:∀o,Kp (fun i=>i=C) w1 (w3.alloc o):=fun o=>hk13.alloc o;have hb4:∀o,(w3.alloc o).heap[b]?=some (.cells cur.toArray t (0,0)):=fun o=>((Kp.refl (fun _=>False) w3).alloc o).heap hb3 (fun h=>h);have hc4:∀o,Cho (w3.alloc o) C (m+2):=fun o=>hc3.keep ((Kp.refl (fun _=>False) w3).alloc o) (fun _ h=>h.elim) (by omega)
  have hbo:∀x y:Bool,J0 (w3.alloc (.cells #[.bool x, .bool y] 4)) w3.heap.size 0 2:=by
   intro x y i hi;have:=Ba w3 (.cells #[.bool x, .bool y] 4);rcases i with _|_|i
   ·exact⟨x,cell_of this 0 rfl⟩
   ·exact⟨y,cell_of this 1 rfl⟩
   ·omega
  have hsz4:∀o,(w3.alloc o).heap.size=w3.heap.size+1:=fun o=>by show (w3.heap.push _).size=_;simp
  have HK14:=hid hk14;have HB4:=hid hb4;have HC4:=hid hc4;have HBO:=hid hbo;clear hk2 hc2 hb2 HC2 hk3 hc3 hb3 hk13 hk14 hb4 hc4 hbo HC hb HF;go_wp2_with fail
  refine(Du _ k 1 n w3.heap.size 0 2 2 (by omega) (by omega) hn (by omega) (HBO.out _ _) (by rw[hsz4];omega) (by omega) (by omega)).mono ?_
  rintro e w5 ⟨rfl,hk5,k0,k1,hrow⟩;have hb5:=hk5.heap (HB4.out _) (fun h=>h);have hc5:=(HC4.out _).keep hk5 (fun _ h=>h.elim) (Nat.le_refl _);have hk15:=(HK14.out _).then hk5 (fun _ _ h=>h.elim);have hlen:(Db (k-1) n++tails k0 k1 1).length=Nat.min k k:=by rw[List.length_append,Dc,tails,List.length_take,show Nat.min k k=k from Nat.min_self k];simp;omega
  have hsrc:∀(j:Nat) (v:Value),(ubs (Db (k-1) n++tails k0 k1 1))[j]?=some v→w5.cell? ((⟨w3.heap.size+1,0,none⟩:Addr).add j)=some v:=by
   intro j v hv;rw[add_plain',Nat.zero_add];rw[hsz4] at hrow;exact cell_of hrow j (by simpa using hv)
  have hft:off+(Db (k-1) n++tails k0 k1 1).length≤cur.length:=by rw[hlen,show Nat.min k k=k from Nat.min_self k];exact hfit
  rw[hsz4];have HLEN:=hid hlen;have HSRC:=hid hsrc;have HFT:=hid hft;have HB5:=hid hb5;have HC5:=hid hc5;have HK15:=hid hk15;clear hlen hsrc hft hb5 hc5 hk15 hrow hk5 HK14 HB4 HC4 HBO hsz4;dsimp only;rename_i K h;refine h _ _ ?_;refine Im rfl (.tmp 21) (.tmp 33) rfl b off k c k k ⟨w3.heap.size+1,0,none⟩ rfl rfl cur t HB5.out (Db (k-1) n++tails k0 k1 1) HLEN.out HSRC.out HFT.out ?_;intro w6 hk6 hb6;go_wp2_with fail
  go_end0
  exact⟨rfl,(HK15.out.mono (fun _ _ h=>.inr h)).trans (hk6.mono (fun _ _ h=>.inl h)),HC5.out.keep hk6 (fun i hi=>by omega) (by omega),1,k0,k1,by omega,by omega,hn,hb6⟩
 ·have hnt:n<8 ^ (k-2):=by
   have:=HBETA.out;rw[Bool.and_eq_true] at this;have h2:=of_decide_eq_true this.2;(have e:k-1-1=k-2:=by omega);rw[e] at h2;(have h3:((8 ^ (k-2):Nat):Int)=(8:Int) ^ (k-2):=by rw[Int.natCast_pow];rfl);omega
  go_wp2_with fail
  refine(Cs w1 C m 2 HC.out (by omega) (by omega)).mono ?_
  rintro e wq ⟨⟨v,hv,rfl⟩,hkq,hcq⟩;have hbq:=hkq.heap hb (by omega)
  have HCQ:=hid hcq;clear hcq;rcases v with _|_|v
  ·(go_wp2_with fail);(refine(Cs wq C (m+1) 2 HCQ.out (by omega) (by omega)).mono ?_);rintro e w2 ⟨⟨v1,hv1,rfl⟩,hk2,hc2⟩;(have hb2:=hk2.heap hbq (by omega));have HC2:=hid hc2;(go_wp2_with fail);(refine(Cs w2 C (m+1+1) 2 HC2.out (by omega) (by omega)).mono ?_);rintro e w3 ⟨⟨v2,hv2,rfl⟩,hk3,hc3⟩;(have hb3:=hk3.heap hb2 (by omega));have hk13:=(hk2.mono (fun _ _ h=>h):Kp (fun i=>i=C) wq w2).trans hk3;have hk14:∀o,Kp (fun i=>i=C) w1 (w3.alloc o):=fun o=>(hkq.trans hk13).alloc o;have hb4:∀o,(w3.alloc o).heap[b]?=some (.cells cur.toArray t (0,0)):=fun o=>((Kp.refl (fun _=>False) w3).alloc o).heap hb3 (fun h=>h);(have hc4:∀o,Cho (w3.alloc o) C (m+3):=fun o=>hc3.keep ((Kp.refl (fun _=>False) w3).alloc o) (fun _ h=>h.elim) (by omega));have hbo:∀x y:Bool,J0 (w3.alloc (.cells #[.bool x, .bool y] 4)) w3.heap.size 0 2:=by
    intro x y i hi;have:=Ba w3 (.cells #[.bool x, .bool y] 4);rcases i with _|_|i
    ·exact⟨x,cell_of this 0 rfl⟩
    ·exact⟨y,cell_of this 1 rfl⟩
    ·omega
   (have hsz4:∀o,(w3.alloc o).heap.size=w3.heap.size+1:=fun o=>by show (w3.heap.push _).size=_;simp);have HK14:=hid hk14;have HB4:=hid hb4;have HC4:=hid hc4;have HBO:=hid hbo;clear hk2 hc2 hb2 HC2 hk3 hc3 hb3 hk13 hk14 hb4 hc4 hbo HC hb HF HCQ hbq hkq;(go_wp2_with fail);(refine(Du _ k 1 n w3.heap.size 0 2 2 (by omega) (by omega) hn (by omega) (HBO.out _ _) (by rw[hsz4];omega) (by omega) (by omega)).mono ?_);rintro e w5 ⟨rfl,hk5,k0,k1,hrow⟩;have hb5:=hk5.heap (HB4.out _) (fun h=>h);have hc5:=(HC4.out _).keep hk5 (fun _ h=>h.elim) (Nat.le_refl _);have hk15:=(HK14.out _).then hk5 (fun _ _ h=>h.elim);(have hlen:(Db (k-1) n++tails k0 k1 1).length=Nat.min k k:=by rw[List.length_append,Dc,tails,List.length_take,show Nat.min k k=k from Nat.min_self k];simp;omega);have hsrc:∀(j:Nat) (v:Value),(ubs (Db (k-1) n++tails k0 k1 1))[j]?=some v→w5.cell? ((⟨w3.heap.size+1,0,none⟩:Addr).add j)=some v:=by
    intro j v hv;rw[add_plain',Nat.zero_add];rw[hsz4] at hrow;exact cell_of hrow j (by simpa using hv)
   (have hft:off+(Db (k-1) n++tails k0 k1 1).length≤cur.length:=by rw[hlen,show Nat.min k k=k from Nat.min_self k];exact hfit);rw[hsz4];have HLEN:=hid hlen;have HSRC:=hid hsrc;have HFT:=hid hft;have HB5:=hid hb5;have HC5:=hid hc5;have HK15:=hid hk15;clear hlen hsrc hft hb5 hc5 hk15 hrow hk5 HK14 HB4 HC4 HBO hsz4;dsimp only;rename_i K h;refine h _ _ ?_;refine Im rfl (.tmp 21) (.tmp 33) rfl b off k c k k ⟨w3.heap.size+1,0,none⟩ rfl rfl cur t HB5.out (Db (k-1) n++tails k0 k1 1) HLEN.out HSRC.out HFT.out ?_;intro w6 hk6 hb6;(go_wp2_with fail);(go_end0);exact⟨rfl,(HK15.out.mono (fun _ _ h=>.inr h)).trans (hk6.mono (fun _ _ h=>.inl h)),HC5.out.keep hk6 (fun i hi=>by omega) (by omega),1,k0,k1,by omega,by omega,hn,hb6⟩
  ·(go_wp2_with fail);(refine(Cs wq C (m+1) 2 HCQ.out (by omega) (by omega)).mono ?_);rintro e w2 ⟨⟨v1,hv1,rfl⟩,hk2,hc2⟩;(have hb2:=hk2.heap hbq (by omega));have HC2:=hid hc2;(go_wp2_with fail);(refine(Cs w2 C (m+1+1) 2 HC2.out (by omega) (by omega)).mono ?_);rintro e w3 ⟨⟨v2,hv2,rfl⟩,hk3,hc3⟩;(have hb3:=hk3.heap hb2 (by omega));have hk13:=(hk2.mono (fun _ _ h=>h):Kp (fun i=>i=C) wq w2).trans hk3;have hk14:∀o,Kp (fun i=>i=C) w1 (w3.alloc o):=fun o=>(hkq.trans hk13).alloc o;have hb4:∀o,(w3.alloc o).heap[b]?=some (.cells cur.toArray t (0,0)):=fun o=>((Kp.refl (fun _=>False) w3).alloc o).heap hb3 (fun h=>h);(have hc4:∀o,Cho (w3.alloc o) C (m+3):=fun o=>hc3.keep ((Kp.refl (fun _=>False) w3).alloc o) (fun _ h=>h.elim) (by omega));have hbo:∀x y:Bool,J0 (w3.alloc (.cells #[.bool x, .bool y] 4)) w3.heap.size 0 2:=by
    intro x y i hi;have:=Ba w3 (.cells #[.bool x, .bool y] 4);rcases i with _|_|i
    ·exact⟨x,cell_of this 0 rfl⟩
    ·exact⟨y,cell_of this 1 rfl⟩
    ·omega
   (have hsz4:∀o,(w3.alloc o).heap.size=w3.heap.size+1:=fun o=>by show (w3.heap.push _).size=_;simp);have HK14:=hid hk14;have HB4:=hid hb4;have HC4:=hid hc4;have HBO:=hid hbo;clear hk2 hc2 hb2 HC2 hk3 hc3 hb3 hk13 hk14 hb4 hc4 hbo HC hb HF HCQ hbq hkq;(go_wp2_with fail);(refine(Du _ k 2 n w3.heap.size 0 2 2 (by omega) (by omega) hnt (by omega) (HBO.out _ _) (by rw[hsz4];omega) (by omega) (by omega)).mono ?_);rintro e w5 ⟨rfl,hk5,k0,k1,hrow⟩;have hb5:=hk5.heap (HB4.out _) (fun h=>h);have hc5:=(HC4.out _).keep hk5 (fun _ h=>h.elim) (Nat.le_refl _);have hk15:=(HK14.out _).then hk5 (fun _ _ h=>h.elim);(have hlen:(Db (k-2) n++tails k0 k1 2).length=Nat.min k k:=by rw[List.length_append,Dc,tails,List.length_take,show Nat.min k k=k from Nat.min_self k];simp;omega);have hsrc:∀(j:Nat) (v:Value),(ubs (Db (k-2) n++tails k0 k1 2))[j]?=some v→w5.cell? ((⟨w3.heap.size+1,0,none⟩:Addr).add j)=some v:=by
    intro j v hv;rw[add_plain',Nat.zero_add];rw[hsz4] at hrow;exact cell_of hrow j (by simpa using hv)
   (have hft:off+(Db (k-2) n++tails k0 k1 2).length≤cur.length:=by rw[hlen,show Nat.min k k=k from Nat.min_self k];exact hfit);rw[hsz4];have HLEN:=hid hlen;have HSRC:=hid hsrc;have HFT:=hid hft;have HB5:=hid hb5;have HC5:=hid hc5;have HK15:=hid hk15;clear hlen hsrc hft hb5 hc5 hk15 hrow hk5 HK14 HB4 HC4 HBO hsz4;dsimp only;rename_i K h;refine h _ _ ?_;refine Im rfl (.tmp 21) (.tmp 33) rfl b off k c k k ⟨w3.heap.size+1,0,none⟩ rfl rfl cur t HB5.out (Db (k-2) n++tails k0 k1 2) HLEN.out HSRC.out HFT.out ?_;intro w6 hk6 hb6;(go_wp2_with fail);(go_end0);exact⟨rfl,(HK15.out.mono (fun _ _ h=>.inr h)).trans (hk6.mono (fun _ _ h=>.inl h)),HC5.out.keep hk6 (fun i hi=>by omega) (by omega),2,k0,k1,by omega,by omega,hnt,hb6⟩
  ·omega
end
section
open Go Go.RowKit
def NumEnd (w:World)(C m b off k:Nat)(n:Int)(gnu:Bool)(cur:List Value)(t:TypeId)(e:Ending)(w':World):Prop:=
 e=.returned (.tuple #[])∧Kp (fun i=>i=b∨i=C) w w'∧Cho w' C (m+4)∧∃f,NumE gnu k n f∧w'.heap[b]?=some (.cells (splice cur off (ubs f)).toArray t (0,0))
theorem OctEnd.num {w w0:World}{C m m' b off k n:Nat}{cur:List Value}{t:TypeId}{e:Ending}{w':World}(gnu:Bool)(h:OctEnd w C m b off k n cur t e w')(hk:3≤k)(hm:m+3≤m'+4)(h0:Kp (fun i=>i=b∨i=C) w0 w):NumEnd w0 C m' b off k n gnu cur t e w':=by
 obtain⟨h1,h2,h3,tail,k0,k1,h4,h5,h6,h7⟩:=h;exact⟨h1,h0.trans h2,h3.keep (Kp.refl (fun _=>False) _) (fun _ h=>h.elim) hm,_, .oct n tail k0 k1 rfl h4 h5 (by omega) h6,h7⟩
theorem R8 (w:World)(C m b off k c:Nat)(n:Nat)(cur:List Value)(t:TypeId)(hC:Cho w C m)(hm:m≤1000000000000)(hCb:C<b)(hk:3≤k∧k≤12)(hkc:k≤c)(hn:n<8 ^ (k-1))(hb:w.heap[b]?=some (.cells cur.toArray t (0,0)))(hfit:off+k≤cur.length) :
  Calls Tryz.prog 123 #[.pointer (some ⟨C,0,none⟩), .slice (some ⟨b,off,none⟩) k c, .int .i64 n, .bool false] w (NumEnd w C m b off k n false cur t):=by
 have HO:=hid (Qp w C m b off k c n cur t hC hm hCb hk hkc hn hb hfit);clear hC hb;go_enter Tryz.func123,Tryz.ntmps123
 go_wp2_with fail
 refine HO.out.mono ?_;intro e w1 h;have hend:=h.num false (m':=m) (by omega) (by omega) (Kp.refl _ _)
 obtain⟨rfl,_⟩:=id h;have HE:=hid hend;clear h hend HO;go_wp2_with fail
 go_end0
 exact HE.out
end
section
open Go Go.RowKit
theorem Xv (w:World)(C m b off k c:Nat)(n:Int)(cur:List Value)(t:TypeId)(hC:Cho w C m)(hm:m+10≤1000000000000)(hCb:C<b)(hk:3≤k∧k≤12)(hkc:k≤c)(hn: -9223372036854775808≤n∧n≤9223372036854775807)(hb:w.heap[b]?=some (.cells cur.toArray t (0,0)))(hfit:off+k≤cur.length) :
  Calls Tryz.prog 123 #[.pointer (some ⟨C,0,none⟩), .slice (some ⟨b,off,none⟩) k c, .int .i64 n, .bool true] w (NumEnd w C m b off k n true cur t):=by
 have HF:=fun W=>hid (Cx W k n (by omega) hn)
 have HC:=hid hC;clear hC;go_enter Tryz.func123,Tryz.ntmps123
 go_wp2_with fail
 refine(HF w).out.mono ?_;rintro e w1 ⟨rfl,rfl⟩;obtain⟨β,hβ⟩:∃β,(decide (0≤n)&&decide (n<8 ^ (k-1)))=β:=⟨_,rfl⟩;rw[hβ];have HBETA:=hid hβ;clear hβ HF;cases β
 ·go_wp2_with fail
  refine(J2 w1 k n (by omega) hn).mono ?_
  rintro e w5 ⟨rfl,hk5,hrow⟩;have hb5:=hid (hk5.heap hb (fun h=>h));have hc5:=hid (HC.out.keep hk5 (fun _ h=>h.elim) (Nat.le_refl _));have hk15:=hid ((Kp.refl (fun i=>i=C) w1).then hk5 (fun _ _ h=>h.elim));have hlen:=hid (show (Hn (k-1) n).length=Nat.min k k by rw[show Nat.min k k=k from Nat.min_self k,Hn,List.length_cons,Hu];omega)
  have hsrc:Hid (∀(j:Nat) (v:Value),(ubs (Hn (k-1) n))[j]?=some v→w5.cell? ((⟨w1.heap.size,0,none⟩:Addr).add j)=some v):=by
   intro j v hv;rw[add_plain',Nat.zero_add];exact cell_of hrow j (by simpa using hv)
  have hft:=hid (show off+(Hn (k-1) n).length≤cur.length by rw[hlen.out,show Nat.min k k=k from Nat.min_self k];exact hfit)
  dsimp only;rename_i K h;refine h _ _ ?_;refine Im rfl (.tmp 21) (.tmp 25) rfl b off k c k k ⟨w1.heap.size,0,none⟩ rfl rfl cur t hb5.out (Hn (k-1) n) hlen.out hsrc.out hft.out ?_;intro w6 hk6 hb6;have HE:Hid (NumEnd w1 C m b off k n true cur t (.returned (.tuple #[])) w6):=⟨rfl,(hk15.out.mono (fun _ _ h=>.inr h)).trans (hk6.mono (fun _ _ h=>.inl h)),hc5.out.keep hk6 (fun i hi=>by omega) (by omega),_, .bin rfl (by omega),hb6⟩
  go_wp2_with fail
  go_end0
  exact HE.out
 ·go_wp2_with fail
  refine(Cs w1 C m 3 HC.out (by omega) (by omega)).mono ?_
  rintro e w2 ⟨⟨v,hv,rfl⟩,hk2,hc2⟩;have HB2:=hid (hk2.heap hb (by omega))
  have HC2:=hid hc2;have HK2:=hid hk2;clear hk2 hc2 HC hb;by_cases hv0:v=0
  ·subst hv0;(go_wp2_with fail);(refine(J2 w2 k n (by omega) hn).mono ?_);rintro e w5 ⟨rfl,hk5,hrow⟩;have hb5:=hid (hk5.heap HB2.out (fun h=>h));have hc5:=hid (HC2.out.keep hk5 (fun _ h=>h.elim) (Nat.le_refl _));have hk15:=hid (HK2.out.then hk5 (fun _ _ h=>h.elim));(have hlen:=hid (show (Hn (k-1) n).length=Nat.min k k by rw[show Nat.min k k=k from Nat.min_self k,Hn,List.length_cons,Hu];omega));have hsrc:Hid (∀(j:Nat) (v:Value),(ubs (Hn (k-1) n))[j]?=some v→w5.cell? ((⟨w2.heap.size,0,none⟩:Addr).add j)=some v):=by
    intro j v hv;rw[add_plain',Nat.zero_add];exact cell_of hrow j (by simpa using hv)
   (have hft:=hid (show off+(Hn (k-1) n).length≤cur.length by rw[hlen.out,show Nat.min k k=k from Nat.min_self k];exact hfit));dsimp only;rename_i K h;refine h _ _ ?_;refine Im rfl (.tmp 21) (.tmp 25) rfl b off k c k k ⟨w2.heap.size,0,none⟩ rfl rfl cur t hb5.out (Hn (k-1) n) hlen.out hsrc.out hft.out ?_;intro w6 hk6 hb6;(have HE:Hid (NumEnd w1 C m b off k n true cur t (.returned (.tuple #[])) w6):=⟨rfl,(hk15.out.mono (fun _ _ h=>.inr h)).trans (hk6.mono (fun _ _ h=>.inl h)),hc5.out.keep hk6 (fun i hi=>by omega) (by omega),_, .bin rfl (by omega),hb6⟩);(go_wp2_with fail);(go_end0);exact HE.out
  ·(have hv1:((v:Int)==0)=false:=by rw[beq_eq_false_iff_ne];omega);(go_wp2_with fail);have hb':=HBETA.out;rw[Bool.and_eq_true] at hb';have h0:=of_decide_eq_true hb'.1;have h1:=of_decide_eq_true hb'.2;(obtain⟨q,rfl⟩:∃q:Nat,n=(q:Int):=⟨n.toNat,by omega⟩);have hq:q<8 ^ (k-1):=by
    (have h3:((8 ^ (k-1):Nat):Int)=(8:Int) ^ (k-1):=by rw[Int.natCast_pow];rfl);omega
   (refine(Qp w2 C (m+1) b off k c q cur t HC2.out (by omega) hCb hk hkc hq HB2.out hfit).mono ?_);intro e w3 h;(have hend:=h.num true (m':=m) (by omega) (by omega) (HK2.out.mono (fun _ _ h=>.inr h)));obtain⟨rfl,_⟩:=id h;have HE:=hid hend;clear h hend h0 h1 hb' hq;(go_wp2_with fail);(go_end0);exact HE.out
end
end Go.Proofs.YtgfcnjfmmjcodaaGreatDoor
