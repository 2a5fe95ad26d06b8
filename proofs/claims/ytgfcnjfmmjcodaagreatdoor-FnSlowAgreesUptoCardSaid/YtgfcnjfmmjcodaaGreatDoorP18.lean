/- Blocks. -/
import Derived.Test.YtgfcnjfmmjcodaaGreatDoorP16
import Derived.Test.YtgfcnjfmmjcodaaGreatDoorP17
set_option linter.all false
set_option maxRecDepth 100000
set_option maxHeartbeats 1000000
open Go.Lib (hid)
namespace Go.Proofs.YtgfcnjfmmjcodaaGreatDoor
open Go Go.RowKit
def Bd (h:Hd)(rv:Value):List Value:=
 [.int .u8 h.typ.toNat,B5 h.name,B5 h.link, .int .i64 h.size, .int .i64 h.mode, .int .i64 h.uid, .int .i64 h.gid,B5 h.un,B5 h.gn, .int .i64 h.ms, .int .i64 h.mn, .bool h.hasA, .bool h.hasC,
  .int .i64 h.ats, .int .i64 h.atn, .int .i64 h.cts, .int .i64 h.ctn, .int .i64 h.maj, .int .i64 h.min,rv, .int .i64 h.fmt]
structure BlkSt (w0:World)(C m:Nat)(h:Hd)(rv:Value)(L:List UInt8)(w:World):Prop where
 cho:Cho w C m
 row:RowB w (w0.heap.size+1) L
 hdr:w.heap[w0.heap.size]?=some (.cells (Bd h rv).toArray 45 (0,0))
 kp:Kp (· =C) w0 w
 len:L.length=512
theorem BlkSt.copyTo {w0 w w':World}{C m:Nat}{h:Hd}{rv:Value}{L f:List UInt8}{o:Nat}(s:BlkSt w0 C m h rv L w)(hC:C<w0.heap.size)(k:Kp (· =w0.heap.size+1) w w')(r:RowB w' (w0.heap.size+1) (splice L o f))(hf:o+f.length≤512) :
  BlkSt w0 C m h rv (splice L o f) w':=
 ⟨s.cho.keep k (fun i hi=>by omega) (Nat.le_refl _),r,k.heap s.hdr (by omega),s.kp.then k (fun i hi e=>by omega),by rw[Ma _ _ _ (by rw[s.len];exact hf)];exact s.len⟩
theorem BlkSt.numTo {w0 w w':World}{C m m':Nat}{h:Hd}{rv:Value}{L f:List UInt8}{o:Nat}(s:BlkSt w0 C m h rv L w)(hC:C<w0.heap.size)(k:Kp (fun i=>i=w0.heap.size+1∨i=C) w w')(hc:Cho w' C m')(r:RowB w' (w0.heap.size+1) (splice L o f))(hf:o+f.length≤512) :
  BlkSt w0 C m' h rv (splice L o f) w':=
 ⟨hc,r,k.heap s.hdr (by omega),s.kp.then k (fun i hi e=>by omega),by rw[Ma _ _ _ (by rw[s.len];exact hf)];exact s.len⟩
theorem BlkSt.grow {w0 w w':World}{C m:Nat}{h:Hd}{rv:Value}{L:List UInt8}(s:BlkSt w0 C m h rv L w)(k:Kp (fun _=>False) w w'):BlkSt w0 C m h rv L w':=
 ⟨s.cho.keep k (fun _ h=>h.elim) (Nat.le_refl _),k.heap s.row (fun h=>h),k.heap s.hdr (fun h=>h),s.kp.then k (fun _ _ h=>h.elim),s.len⟩
theorem BlkSt.more {w0 w:World}{C m m':Nat}{h:Hd}{rv:Value}{L:List UInt8}(s:BlkSt w0 C m h rv L w)(hm:m≤m'):BlkSt w0 C m' h rv L w:=
 ⟨s.cho.keep (Kp.refl (fun _=>False) _) (fun _ h=>h.elim) hm,s.row,s.hdr,s.kp,s.len⟩
theorem BlkSt.put {w0 w:World}{C m:Nat}{h:Hd}{rv:Value}{L:List UInt8}(s:BlkSt w0 C m h rv L w)(hC:C<w0.heap.size)(i:Nat)(y:UInt8):BlkSt w0 C m h rv (L.set i y) (w.setCell ⟨w0.heap.size+1,i,none⟩ (.int .u8 y.toNat)):=by
 have k:Kp (· =w0.heap.size+1) w (w.setCell ⟨w0.heap.size+1,i,none⟩ (.int .u8 y.toNat)):=Kp.setCell (S:=(· =w0.heap.size+1)) (p:=⟨w0.heap.size+1,i,none⟩) (Kp.refl _ w) (.inl rfl) _;exact⟨s.cho.keep k (fun i hi=>by omega) (Nat.le_refl _),s.row.put i y _ rfl,k.heap s.hdr (by omega),s.kp.then k (fun i hi e=>by omega),by rw[List.length_set];exact s.len⟩
theorem Cd (w:World)(ty:TypeId)(b off n c:Nat)(l cur:List UInt8)(hb:RowB w b cur)(hfit:off+n≤cur.length) :
  ∃w',(Builtin.copy_ #[27,9] ty #[.slice (some ⟨b,off,none⟩) n c, .string ⟨l.toArray⟩]).run Tryz.prog w=.ok (goInt (Nat.min l.length n)) w'∧Kp (· =b) w w'∧RowB w' b (splice cur off (l.take n)):=by
 have hr:=Uh w ty b off n c l (ubs cur) 5 hb (by rw[Bi];exact hfit)
 refine⟨_,hr,Kp.setRow (S:=(· =b)) (Kp.refl _ _) (.inl rfl) _,?_⟩;unfold RowB;rw[Rx];exact setRow_heap w b (ubs cur).toArray _ 5 (0,0) hb
def Same (L L':List UInt8)(o n:Nat):Prop:=L'.length=L.length∧∀o' n',(o'+n'≤o∨o+n≤o')→fld L' o' n'=fld L o' n'
theorem Gs (L f:List UInt8)(o n:Nat)(h:o+n≤L.length)(hf:f.length≤n):Same L (splice L o f) o n:=
 ⟨Ma _ _ _ (by omega),fun o' n' hd=>Hw _ _ _ _ _ (by omega) (by omega)⟩
theorem D9 (L s:List UInt8)(o n:Nat)(h:o+n≤L.length):Same L (splice L o (s.take n)) o n:=Gs L _ o n h (by rw[List.length_take];omega)
theorem Bci (L:List UInt8)(i:Nat)(y:UInt8):Same L (L.set i y) i 1:=
 ⟨List.length_set,fun o' n' hd=>by
  apply List.ext_getElem?
  intro j
  rw[Gc,Gc]
  by_cases hj:j<n'
  ·rw[if_pos hj,if_pos hj,List.getElem?_set,if_neg (by omega)]
  ·rw[if_neg hj,if_neg hj]⟩
def fo:Nat→Nat
 |0=>100|1=>108|2=>116|3=>124|4=>136|5=>329|_=>337
def fw:Nat→Nat
 |3=>12|4=>12|_=>8
def fv (h:Hd):Nat→Int
 |0=>h.mode|1=>h.uid|2=>h.gid|3=>h.size|4=>h.ms|5=>h.maj|_=>h.min
theorem Bf5:∀j,j<7→∀q,q<j→fo q+fw q≤fo j:=by decide
theorem K7:∀j,j<7→fo j+fw j≤345∧3≤fw j∧fw j≤12∧100≤fo j:=by decide
structure NumsTo (gnu:Bool)(h:Hd)(L0:List UInt8)(j:Nat)(L:List UInt8):Prop where
 len:L.length=512
 num:∀q,q<j→NumE gnu (fw q) (stored gnu (fw q) (fv h q)) (fld L (fo q) (fw q))
 rest:∀o n,(∀q,q<j→o+n≤fo q∨fo q+fw q≤o)→fld L o n=fld L0 o n
theorem NumsTo.zero (gnu:Bool)(h:Hd)(L0:List UInt8)(hl:L0.length=512):NumsTo gnu h L0 0 L0:=⟨hl,fun q hq=>by omega,fun _ _ _=>rfl⟩
theorem NumsTo.step {gnu:Bool}{h:Hd}{L0:List UInt8}{j:Nat}{L f:List UInt8}(s:NumsTo gnu h L0 j L)(hj:j<7)(hf:NumE gnu (fw j) (stored gnu (fw j) (fv h j)) f):NumsTo gnu h L0 (j+1) (splice L (fo j) f):=by
 have hl:=hf.len;have hb:=K7 j hj;have hlen:=s.len;refine⟨by rw[Ma _ _ _ (by omega)];exact hlen,fun q hq=>?_,fun o n hd=>?_⟩
 ·rcases Nat.lt_or_ge q j with h1|h1
  ·(rw[Hw _ _ _ _ _ (by omega) (.inl (Bf5 j hj q h1))]);exact s.num q h1
  ·(obtain rfl:q=j:=by omega);(rw[Df _ _ _ _ (by omega) hl]);exact hf
 ·rw[Hw _ _ _ _ _ (by omega) (by have:=hd j (by omega);omega)]
  exact s.rest o n fun q hq=>hd q (by omega)
def Gg (h:Hd):List Value:=
 [.int .i64 100, .int .i64 108, .int .i64 h.mode, .int .i64 108, .int .i64 116, .int .i64 h.uid, .int .i64 116, .int .i64 124, .int .i64 h.gid, .int .i64 124, .int .i64 136, .int .i64 h.size,
  .int .i64 136, .int .i64 148, .int .i64 h.ms, .int .i64 329, .int .i64 337, .int .i64 h.maj, .int .i64 337, .int .i64 345, .int .i64 h.min]
theorem Bcj (h:Hd)(j:Nat)(hj:j<7):(Gg h)[j*3]?=some (.int .i64 (fo j:Nat))∧(Gg h)[j*3+1]?=some (.int .i64 (fo j+fw j:Nat))∧(Gg h)[j*3+2]?=some (.int .i64 (fv h j)):=by
 match j,hj with
 |0,_=>exact⟨rfl,rfl,rfl⟩
 |1,_=>exact⟨rfl,rfl,rfl⟩
 |2,_=>exact⟨rfl,rfl,rfl⟩
 |3,_=>exact⟨rfl,rfl,rfl⟩
 |4,_=>exact⟨rfl,rfl,rfl⟩
 |5,_=>exact⟨rfl,rfl,rfl⟩
 |6,_=>exact⟨rfl,rfl,rfl⟩
structure NumIn (h:Hd):Prop where
 fvs:∀j,j<7→ -9223372036854775808≤fv h j∧fv h j≤9223372036854775807
 ats: -9223372036854775808≤h.ats∧h.ats≤9223372036854775807
 cts: -9223372036854775808≤h.cts∧h.cts≤9223372036854775807
structure NumLoop (w0:World)(C m:Nat)(h:Hd)(rv:Value)(gnu:Bool)(L0:List UInt8)(A j:Nat)(w:World):Prop where
 st:∃L,BlkSt w0 C (m+4*j) h rv L w∧NumsTo gnu h L0 j L
 tbl:w.heap[A]?=some (.cells (Gg h).toArray 222 (0,0))
theorem NumLoop.next {w0 w w':World}{C m:Nat}{h:Hd}{rv:Value}{gnu:Bool}{L0:List UInt8}{A j:Nat}(l:NumLoop w0 C m h rv gnu L0 A j w)(hC:C<w0.heap.size)(hA:w0.heap.size+1<A)(hj:j<7){L f:List UInt8}
  (s:BlkSt w0 C (m+4*j) h rv L w) (n:NumsTo gnu h L0 j L) (hf:NumE gnu (fw j) (stored gnu (fw j) (fv h j)) f) (k:Kp (fun i=>i=w0.heap.size+1∨i=C) w w') (hc:Cho w' C (m+4*j+4)) (r:RowB w' (w0.heap.size+1) (splice L (fo j) f)) :
  NumLoop w0 C m h rv gnu L0 A (j+1) w':=by
 have hb:=K7 j hj;have hl:=hf.len;exact⟨⟨_,s.numTo hC k hc r (by omega),n.step hj hf⟩,k.heap l.tbl (by omega)⟩
theorem NumLoop.grow {w0 w w':World}{C m:Nat}{h:Hd}{rv:Value}{gnu:Bool}{L0:List UInt8}{A j:Nat}(l:NumLoop w0 C m h rv gnu L0 A j w)(k:Kp (fun _=>False) w w'):NumLoop w0 C m h rv gnu L0 A j w':=by
 obtain⟨L,h1,h2⟩:=l.st;exact⟨⟨L,h1.grow k,h2⟩,k.heap l.tbl (fun h=>h)⟩
def Bck (w:World)(l:List Rec)(i:Nat)(v:Value)(wr:World):Prop:=
 ∃o,OwnR 136 wr w.heap.size v o∧LastE (l.take i) o∧Kp (fun _=>False) w wr
set_option maxHeartbeats 1600000 in
theorem Vr (w:World)(C:Nat)(rv:Value)(l:List Rec)(hl:RecsAt w C rv l)(hC:C≤w.heap.size)(hlen:l.length≤2147483648) :
  Calls Tryz.prog 73 #[rv] w fun e w'=>(∃v o,e=.returned v∧OwnR 136 w' w.heap.size v o∧LastE l o)∧Kp (fun _=>False) w w':=by
 obtain⟨A,c,rfl⟩:=hl.shape;have HL:=hid hl;clear hl;go_enter Tryz.func73,Tryz.ntmps73
 go_wp2_with fail
 have LP:Hid (Bck w l 0 (.slice none 0 0) w):=⟨[],OwnR.nil _ _ _,by rw[sE];exact LastE.nil,Kp.refl _ _⟩
 go_loopg [3,8] l.length (fun g s3 s8 wr=>∃(i:Nat),i+g=l.length∧s8=.int .i64 i∧Hid (Bck w l i s3 wr))
 case atStart=>exact⟨0,by omega,rfl,LP⟩
 case round=>
  clear LP;obtain⟨i,hi,rfl,hst⟩:=hrel;by_cases hlt:i<l.length
  ·obtain⟨x,hx⟩:∃x,l[i]?=some x:=⟨_,List.getElem?_eq_getElem hlt⟩;have hLr:RecsAt wr C (.slice A l.length c) l:=by
    obtain⟨o,_,_,hk⟩:=hst.out;exact HL.out.keep hk (fun _ h=>h.elim)
   obtain⟨b,o,c',hA,hbC,x1,x2⟩:=hLr.get hx;(injection hA with hA1 hA2 hA3);subst hA1 hA3;(have hxg:x=l[i]:=by rw[List.getElem?_eq_getElem hlt] at hx;injection hx with hx;exact hx.symm);(have htk:l.take (i+1)=l.take i++[x]:=by rw[List.take_succ_eq_append_getElem hlt,hxg]);have WI:∀O,Hid (Calls Tryz.prog 105 #[u3, .agg #[.string ⟨x.1.toArray⟩, .string ⟨x.2.toArray⟩]] (wr.alloc O) fun e w'=>∃v,e=.returned v∧Hid (Bck w l (i+1) v w')):=fun O=>by
    obtain⟨q,h1,h2,h3⟩:=hst.out;have k1:Kp (fun _=>False) wr (wr.alloc O):=(Kp.refl _ _).alloc _;(refine(Bcf (wr.alloc O) wr.heap.size u3 q x (h1.at_.keep k1 (fun _ h=>h.elim)) k1.size (by have:=h2.len;rw[List.length_take] at this;omega)).mono ?_);rintro e w' ⟨⟨v,o',rfl,ho,hw⟩,hk⟩;refine⟨v,rfl,o',ho.lower (Nat.le_trans h3.size k1.size),by rw[htk];exact h2.step hw,(h3.trans k1).trans hk⟩
   clear hst hA2 hLr hx hxg htk;(go_wp2_with fail);refine(WI _).out.mono ?_;rintro e w2 ⟨v,rfl,NX⟩;clear WI;(go_wp2_with fail);go_roundg (gk-1)
   case measure=>omega
   case rel=>exact⟨i+1,by omega,by simp,NX⟩
  ·(obtain rfl:i=l.length:=by omega);have FIN:Hid ((∃v o,Ending.returned u3=.returned v∧OwnR 136 wr w.heap.size v o∧LastE l o)∧Kp (fun _=>False) w wr):=by
    obtain⟨q,h1,h2,h3⟩:=hst.out;rw[List.take_length] at h2;exact⟨⟨u3,q,rfl,h1,h2⟩,h3⟩
   clear hst;(go_wp2_with fail);(go_ret);exact FIN.out
theorem RecsT.snoc {rs:List Rec}{ts:List UInt8}{r:Rec}{t:List UInt8}(h:RecsT rs ts)(hr:Lt r t):RecsT (rs++[r]) (ts++t):=by
 induction h with
 |nil=>have:=RecsT.cons hr .nil;simpa using this
 |cons h1 h2 ih=>rw[List.cons_append,List.append_assoc];exact .cons h1 ih
def Za (w:World)(C m:Nat)(l:List Rec)(i:Nat)(t:List UInt8)(wr:World):Prop:=
 RecsT (l.take i) t∧Kp (· =C) w wr∧Cho wr C (m+i)
set_option maxHeartbeats 1600000 in
theorem Lh (w:World)(C m D:Nat)(rv:Value)(l:List Rec)(hC:Cho w C m)(hm:m+l.length+10≤1000000000000)(hl:RecsAt w D rv l)(hD:D≤C∨∀b o n c,rv=.slice (some ⟨b,o,none⟩) n c→b≠C)(hw:B9 l≤600000) :
  Calls Tryz.prog 72 #[.pointer (some ⟨C,0,none⟩),rv] w fun e w'=>(∃t,e=.returned (.string ⟨t.toArray⟩)∧RecsT l t)∧Kp (· =C) w w'∧Cho w' C (m+l.length):=by
 obtain⟨A,c,rfl⟩:=hl.shape;have LP:Hid (Za w C m l 0 [] w):=⟨by rw[sE];exact .nil,Kp.refl _ _,hC⟩
 have HL:=hid hl;have HD:=hid hD;clear hl hC hD;go_enter Tryz.func72,Tryz.ntmps72
 go_wp2_with fail
 go_loopg [5,10] l.length (fun g s5 s10 wr=>∃(i:Nat) (t:List UInt8),i+g=l.length∧s10=.int .i64 i∧s5=.string ⟨t.toArray⟩∧t.length≤700000∧Hid (Za w C m l i t wr))
 case atStart=>exact⟨0,[],by omega,rfl,rfl,by simp,LP⟩
 case round=>
  clear LP;obtain⟨i,t,hi,rfl,rfl,htl,hst⟩:=hrel;by_cases hlt:i<l.length
  ·obtain⟨x,hx⟩:∃x,l[i]?=some x:=⟨_,List.getElem?_eq_getElem hlt⟩;obtain⟨b,o,c',hA,hbC,x1,x2⟩:=HL.out.get hx;(injection hA with hA1 hA2 hA3);subst hA1 hA3;have hbC':¬b=C:=by
    rcases HD.out with h|h
    ·omega
    ·exact h _ _ _ _ rfl
   have y1:wr.cell? ⟨b,o+i*2,none⟩=some (.string ⟨x.1.toArray⟩):=hst.out.2.1.cell x1 hbC';have y2:wr.cell? ⟨b,o+i*2+1,none⟩=some (.string ⟨x.2.toArray⟩):=hst.out.2.1.cell x2 hbC';(have hxg:x=l[i]:=by rw[List.getElem?_eq_getElem hlt] at hx;injection hx with hx;exact hx.symm);(have htk:l.take (i+1)=l.take i++[x]:=by rw[List.take_succ_eq_append_getElem hlt,hxg]);clear hA2 x1 x2;(go_wp2_with fail);have hsub:B9 (l.take (i+1))≤600000:=by
    (have e:B9 l=B9 (l.take (i+1))+B9 (l.drop (i+1)):=by rw[←Co,List.take_append_drop]);omega
   have hone:B9 [x]≤600000:=by
    rw[htk,Co] at hsub;omega
   (have hxs:x.1.length+x.2.length≤281474976710656:=by rw[G9] at hone;omega);subst hxg;have hz0:(wr.alloc (.cells #[.string ⟨l[i].1.toArray⟩, .string ⟨l[i].2.toArray⟩] 136)).heap[wr.heap.size]?=some (.cells #[.string ⟨l[i].1.toArray⟩, .string ⟨l[i].2.toArray⟩] 136 (0,0)):=Ba wr _;have ST:Hid (Za w C m l i t (wr.alloc (.cells #[.string ⟨l[i].1.toArray⟩, .string ⟨l[i].2.toArray⟩] 136))):=by
    have k1:Kp (fun _=>False) wr (wr.alloc (.cells #[.string ⟨l[i].1.toArray⟩, .string ⟨l[i].2.toArray⟩] 136)):=(Kp.refl _ _).alloc _;exact⟨hst.out.1,hst.out.2.1.then k1 (fun _ _ h=>h.elim),hst.out.2.2.keep k1 (fun _ h=>h.elim) (Nat.le_refl _)⟩
   (have hCr:C<wr.heap.size:=by obtain⟨nv,a,h1,_⟩:=hst.out.2.2;exact Bv h1);have HTK:=hid htk;have HSUB:=hid hsub;have HONE:=hid hone;clear hst y1 y2 htk hsub hone;generalize wr.alloc (.cells #[.string ⟨l[i].1.toArray⟩, .string ⟨l[i].2.toArray⟩] 136)=wq at hz0 ST ⊢;have z0:wq.cell? ⟨wr.heap.size,0,none⟩=some (.string ⟨l[i].1.toArray⟩):=cell_of hz0 0 rfl;have z1:wq.cell? ⟨wr.heap.size,1,none⟩=some (.string ⟨l[i].2.toArray⟩):=cell_of hz0 1 rfl;have ecat:∀t2:List UInt8,(⟨t.toArray⟩:ByteArray)++⟨t2.toArray⟩=⟨(t++t2).toArray⟩:=fun t2=>E4 _ _;clear hz0
   go_region_held3 (fun w'=>w'.cell? ⟨wr.heap.size,0,none⟩=some (.string ⟨l[i].1.toArray⟩)∧w'.cell? ⟨wr.heap.size,1,none⟩=some (.string ⟨l[i].2.toArray⟩))
    (first|(exact⟨z0,z1⟩)|(exact⟨hk2.cell z0 (by show ¬wr.heap.size=C;omega),hk2.cell z1 (by show ¬wr.heap.size=C;omega)⟩)|(exact⟨hk3.cell (hk2.cell z0 (by show ¬wr.heap.size=C;omega)) (fun h=>h),hk3.cell (hk2.cell z1 (by show ¬wr.heap.size=C;omega)) (fun h=>h)⟩))
    (first
     |(go_at_call 39;refine(Cs _ C (m+i) 2 (ST.out.2.2.keep ((Kp.refl (fun _=>False) _).drew) (fun _ h=>h.elim) (Nat.le_refl _)) (by omega) (by omega)).mono ?_;rintro e w2 ⟨⟨v2,hv2,rfl⟩,hk2,hc2⟩)
     |(go_at_call 117;refine(O8 _ l[i] _ hxs).mono ?_;rintro e w3 ⟨⟨t2,rfl,hrt⟩,hk3⟩;have ht2:t2.length≤600000:=C3 (rs:=[l[i]]) (by have:=RecsT.cons hrt .nil;simpa using this) HONE.out;have hcat1:¬9223372036854775807<t.length+t2.length:=(by omega)))
   (have NX:Hid (Za w C m l (i+1) (t++t2) w3):=⟨by rw[HTK.out];exact ST.out.1.snoc hrt,((ST.out.2.1.drew).trans hk2).then hk3 (fun _ _ h=>h.elim),hc2.keep hk3 (fun _ h=>h.elim) (by omega)⟩);have htl2:(t++t2).length≤700000:=by
    have:=C3 NX.out.1 HSUB.out;omega
   rename_i hHeld;clear hHeld hk2 hc2 hrt hk3 ST z0 z1;(go_wp2_with fail);go_roundg (gk-1)
   case measure=>omega
   case rel=>exact⟨i+1,t++t2,by omega,by simp,rfl,htl2,NX⟩
  ·(obtain rfl:i=l.length:=by omega);have FIN:Hid ((∃t',Ending.returned (.string ⟨t.toArray⟩)=.returned (.string ⟨t'.toArray⟩)∧RecsT l t')∧Kp (· =C) w wr∧Cho wr C (m+l.length)):=by
    obtain⟨h1,h2,h3⟩:=hst.out;rw[List.take_length] at h1;exact⟨⟨t,rfl,h1⟩,h2,h3⟩
   clear hst;(go_wp2_with fail);(go_ret);exact FIN.out
theorem two_cells {w : World} {va vb : Array Value} {T1 T2 : TypeId} : (∀ (i : Nat) (v : Value), va[i]? = some v → ((w.alloc (.cells va T1)).alloc (.cells vb T2)).cell? ⟨w.heap.size, i, none⟩ = some v) ∧ (∀ (i : Nat) (v : Value), vb[i]? = some v → ((w.alloc (.cells va T1)).alloc (.cells vb T2)).cell? ⟨w.heap.size + 1, i, none⟩ = some v) := by
  have hsz : (w.alloc (.cells va T1)).heap.size = w.heap.size + 1 := by show (w.heap.push _).size = _; simp
  refine ⟨fun i v h => ?_, fun i v h => ?_⟩
  · exact cell_of (((Kp.refl (fun _ => False) (w.alloc (.cells va T1))).alloc _).heap (Ba w _) (fun h => h)) i h
  · have := Ba (w.alloc (.cells va T1)) (.cells vb T2)
    rw [hsz] at this
    exact cell_of this i h
set_option maxHeartbeats 12800000 in
theorem Bcl (w : World) (a b : Hd) (rv rv2 : Value) (s : SameH a b) : Calls Tryz.prog 30 #[.agg (Bd a rv).toArray, .agg (Bd b rv2).toArray] w fun e w' => e = .returned (.bool true) ∧ Kp (fun _ => False) w w' := by
  obtain ⟨va, ea⟩ : ∃ va : Array Value, (Bd a rv).toArray = va := ⟨_, rfl⟩
  obtain ⟨vb, eb⟩ : ∃ vb : Array Value, (Bd b rv2).toArray = vb := ⟨_, rfl⟩
  have F := two_cells (w := w) (va := va) (vb := vb) (T1 := 45) (T2 := 45)
  rw [ea, eb]
  rw [← ea, ← eb] at F
  have K : Hid (Kp (fun _ => False) w ((w.alloc (.cells va 45)).alloc (.cells vb 45))) := ((Kp.refl _ _).alloc _).alloc _
  have a0 : ((w.alloc (.cells va 45)).alloc (.cells vb 45)).cell? ⟨w.heap.size, 0, none⟩ = some (.int .u8 (a.typ.toNat : Int)) := by rw [← ea, ← eb]; exact F.1 0 _ rfl
  have b0 : ((w.alloc (.cells va 45)).alloc (.cells vb 45)).cell? ⟨w.heap.size + 1, 0, none⟩ = some (.int .u8 (a.typ.toNat : Int)) := by rw [← ea, ← eb]; exact (by rw [s.typ]; exact F.2 0 _ rfl)
  have a1 : ((w.alloc (.cells va 45)).alloc (.cells vb 45)).cell? ⟨w.heap.size, 1, none⟩ = some (.string ⟨a.name.toArray⟩) := by rw [← ea, ← eb]; exact F.1 1 _ rfl
  have b1 : ((w.alloc (.cells va 45)).alloc (.cells vb 45)).cell? ⟨w.heap.size + 1, 1, none⟩ = some (.string ⟨a.name.toArray⟩) := by rw [← ea, ← eb]; exact (by rw [s.name]; exact F.2 1 _ rfl)
  have a2 : ((w.alloc (.cells va 45)).alloc (.cells vb 45)).cell? ⟨w.heap.size, 2, none⟩ = some (.string ⟨a.link.toArray⟩) := by rw [← ea, ← eb]; exact F.1 2 _ rfl
  have b2 : ((w.alloc (.cells va 45)).alloc (.cells vb 45)).cell? ⟨w.heap.size + 1, 2, none⟩ = some (.string ⟨a.link.toArray⟩) := by rw [← ea, ← eb]; exact (by rw [s.link]; exact F.2 2 _ rfl)
  have a3 : ((w.alloc (.cells va 45)).alloc (.cells vb 45)).cell? ⟨w.heap.size, 3, none⟩ = some (.int .i64 a.size) := by rw [← ea, ← eb]; exact F.1 3 _ rfl
  have b3 : ((w.alloc (.cells va 45)).alloc (.cells vb 45)).cell? ⟨w.heap.size + 1, 3, none⟩ = some (.int .i64 a.size) := by rw [← ea, ← eb]; exact (by rw [s.size]; exact F.2 3 _ rfl)
  have a4 : ((w.alloc (.cells va 45)).alloc (.cells vb 45)).cell? ⟨w.heap.size, 4, none⟩ = some (.int .i64 a.mode) := by rw [← ea, ← eb]; exact F.1 4 _ rfl
  have b4 : ((w.alloc (.cells va 45)).alloc (.cells vb 45)).cell? ⟨w.heap.size + 1, 4, none⟩ = some (.int .i64 a.mode) := by rw [← ea, ← eb]; exact (by rw [s.mode]; exact F.2 4 _ rfl)
  have a5 : ((w.alloc (.cells va 45)).alloc (.cells vb 45)).cell? ⟨w.heap.size, 5, none⟩ = some (.int .i64 a.uid) := by rw [← ea, ← eb]; exact F.1 5 _ rfl
  have b5 : ((w.alloc (.cells va 45)).alloc (.cells vb 45)).cell? ⟨w.heap.size + 1, 5, none⟩ = some (.int .i64 a.uid) := by rw [← ea, ← eb]; exact (by rw [s.uid]; exact F.2 5 _ rfl)
  have a6 : ((w.alloc (.cells va 45)).alloc (.cells vb 45)).cell? ⟨w.heap.size, 6, none⟩ = some (.int .i64 a.gid) := by rw [← ea, ← eb]; exact F.1 6 _ rfl
  have b6 : ((w.alloc (.cells va 45)).alloc (.cells vb 45)).cell? ⟨w.heap.size + 1, 6, none⟩ = some (.int .i64 a.gid) := by rw [← ea, ← eb]; exact (by rw [s.gid]; exact F.2 6 _ rfl)
  have a7 : ((w.alloc (.cells va 45)).alloc (.cells vb 45)).cell? ⟨w.heap.size, 7, none⟩ = some (.string ⟨a.un.toArray⟩) := by rw [← ea, ← eb]; exact F.1 7 _ rfl
  have b7 : ((w.alloc (.cells va 45)).alloc (.cells vb 45)).cell? ⟨w.heap.size + 1, 7, none⟩ = some (.string ⟨a.un.toArray⟩) := by rw [← ea, ← eb]; exact (by rw [s.un]; exact F.2 7 _ rfl)
  have a8 : ((w.alloc (.cells va 45)).alloc (.cells vb 45)).cell? ⟨w.heap.size, 8, none⟩ = some (.string ⟨a.gn.toArray⟩) := by rw [← ea, ← eb]; exact F.1 8 _ rfl
  have b8 : ((w.alloc (.cells va 45)).alloc (.cells vb 45)).cell? ⟨w.heap.size + 1, 8, none⟩ = some (.string ⟨a.gn.toArray⟩) := by rw [← ea, ← eb]; exact (by rw [s.gn]; exact F.2 8 _ rfl)
  have a9 : ((w.alloc (.cells va 45)).alloc (.cells vb 45)).cell? ⟨w.heap.size, 9, none⟩ = some (.int .i64 a.ms) := by rw [← ea, ← eb]; exact F.1 9 _ rfl
  have b9 : ((w.alloc (.cells va 45)).alloc (.cells vb 45)).cell? ⟨w.heap.size + 1, 9, none⟩ = some (.int .i64 a.ms) := by rw [← ea, ← eb]; exact (by rw [s.mod.1]; exact F.2 9 _ rfl)
  have a10 : ((w.alloc (.cells va 45)).alloc (.cells vb 45)).cell? ⟨w.heap.size, 10, none⟩ = some (.int .i64 a.mn) := by rw [← ea, ← eb]; exact F.1 10 _ rfl
  have b10 : ((w.alloc (.cells va 45)).alloc (.cells vb 45)).cell? ⟨w.heap.size + 1, 10, none⟩ = some (.int .i64 a.mn) := by rw [← ea, ← eb]; exact (by rw [s.mod.2]; exact F.2 10 _ rfl)
  have a11 : ((w.alloc (.cells va 45)).alloc (.cells vb 45)).cell? ⟨w.heap.size, 11, none⟩ = some (.bool a.hasA) := by rw [← ea, ← eb]; exact F.1 11 _ rfl
  have b11 : ((w.alloc (.cells va 45)).alloc (.cells vb 45)).cell? ⟨w.heap.size + 1, 11, none⟩ = some (.bool a.hasA) := by rw [← ea, ← eb]; exact (by rw [s.acc.1]; exact F.2 11 _ rfl)
  have a12 : ((w.alloc (.cells va 45)).alloc (.cells vb 45)).cell? ⟨w.heap.size, 12, none⟩ = some (.bool a.hasC) := by rw [← ea, ← eb]; exact F.1 12 _ rfl
  have b12 : ((w.alloc (.cells va 45)).alloc (.cells vb 45)).cell? ⟨w.heap.size + 1, 12, none⟩ = some (.bool a.hasC) := by rw [← ea, ← eb]; exact (by rw [s.chg.1]; exact F.2 12 _ rfl)
  have a17 : ((w.alloc (.cells va 45)).alloc (.cells vb 45)).cell? ⟨w.heap.size, 17, none⟩ = some (.int .i64 a.maj) := by rw [← ea, ← eb]; exact F.1 17 _ rfl
  have b17 : ((w.alloc (.cells va 45)).alloc (.cells vb 45)).cell? ⟨w.heap.size + 1, 17, none⟩ = some (.int .i64 a.maj) := by rw [← ea, ← eb]; exact (by rw [s.maj]; exact F.2 17 _ rfl)
  have a18 : ((w.alloc (.cells va 45)).alloc (.cells vb 45)).cell? ⟨w.heap.size, 18, none⟩ = some (.int .i64 a.min) := by rw [← ea, ← eb]; exact F.1 18 _ rfl
  have b18 : ((w.alloc (.cells va 45)).alloc (.cells vb 45)).cell? ⟨w.heap.size + 1, 18, none⟩ = some (.int .i64 a.min) := by rw [← ea, ← eb]; exact (by rw [s.min]; exact F.2 18 _ rfl)
  have G : Hid (∀ i v, (Bd a rv).toArray[i]? = some v → ((w.alloc (.cells va 45)).alloc (.cells vb 45)).cell? ⟨w.heap.size, i, none⟩ = some v) := by show ∀ i, _; rw [ea]; exact two_cells.1
  have G2 : Hid (∀ i v, (Bd b rv2).toArray[i]? = some v → ((w.alloc (.cells va 45)).alloc (.cells vb 45)).cell? ⟨w.heap.size + 1, i, none⟩ = some v) := by show ∀ i, _; rw [eb]; exact two_cells.2
  have SA := hid s.acc
  have SC := hid s.chg
  clear F ea eb s
  cases eA : a.hasA <;> cases eC : a.hasC
  ·
    simp only [eA] at a11 b11
    simp only [eC] at a12 b12
    clear G G2 SA SC
    go_enter Tryz.func30, Tryz.ntmps30
    go_wp2_with fail
    go_ret
    exact ⟨rfl, K.out⟩
  ·
    simp only [eA] at a11 b11
    simp only [eC] at a12 b12
    have hC := (SC.out.2 (by rw [← SC.out.1, eC]))
    have a15 := G.out 15 (.int .i64 a.cts) rfl
    have a16 := G.out 16 (.int .i64 a.ctn) rfl
    have b15 := G2.out 15 (.int .i64 b.cts) rfl
    have b16 := G2.out 16 (.int .i64 b.ctn) rfl
    rw [← hC.1] at b15
    rw [← hC.2] at b16
    clear hC
    clear G G2 SA SC
    go_enter Tryz.func30, Tryz.ntmps30
    go_wp2_with fail
    go_ret
    exact ⟨rfl, K.out⟩
  ·
    simp only [eA] at a11 b11
    simp only [eC] at a12 b12
    have hA := (SA.out.2 (by rw [← SA.out.1, eA]))
    have a13 := G.out 13 (.int .i64 a.ats) rfl
    have a14 := G.out 14 (.int .i64 a.atn) rfl
    have b13 := G2.out 13 (.int .i64 b.ats) rfl
    have b14 := G2.out 14 (.int .i64 b.atn) rfl
    rw [← hA.1] at b13
    rw [← hA.2] at b14
    clear hA
    clear G G2 SA SC
    go_enter Tryz.func30, Tryz.ntmps30
    go_wp2_with fail
    go_ret
    exact ⟨rfl, K.out⟩
  ·
    simp only [eA] at a11 b11
    simp only [eC] at a12 b12
    have hA := (SA.out.2 (by rw [← SA.out.1, eA]))
    have a13 := G.out 13 (.int .i64 a.ats) rfl
    have a14 := G.out 14 (.int .i64 a.atn) rfl
    have b13 := G2.out 13 (.int .i64 b.ats) rfl
    have b14 := G2.out 14 (.int .i64 b.atn) rfl
    rw [← hA.1] at b13
    rw [← hA.2] at b14
    clear hA
    have hC := (SC.out.2 (by rw [← SC.out.1, eC]))
    have a15 := G.out 15 (.int .i64 a.cts) rfl
    have a16 := G.out 16 (.int .i64 a.ctn) rfl
    have b15 := G2.out 15 (.int .i64 b.cts) rfl
    have b16 := G2.out 16 (.int .i64 b.ctn) rfl
    rw [← hC.1] at b15
    rw [← hC.2] at b16
    clear hC
    clear G G2 SA SC
    go_enter Tryz.func30, Tryz.ntmps30
    go_wp2_with fail
    go_ret
    exact ⟨rfl, K.out⟩
theorem Same.at_ {L L':List UInt8}{o n:Nat}(s:Same L L' o n)(o' n':Nat)(h:o'+n'≤o∨o+n≤o'):fld L' o' n'=fld L o' n':=s.2 o' n' h
theorem Same.refl (L:List UInt8)(o n:Nat):Same L L o n:=⟨rfl,fun _ _ _=>rfl⟩
theorem zer (l:List UInt8)(o n o' n':Nat)(h:fld l o n=List.replicate n 0)(h1:o≤o')(h2:o'+n'≤o+n):fld l o' n'=List.replicate n' 0:=by
 have e:fld l o' n'=((fld l o n).drop (o'-o)).take n':=by
  rw[fld,fld,List.drop_take,List.drop_drop,List.take_take];congr 1
  ·omega
  ·congr 1;omega
 rw[e,h,List.drop_replicate,List.take_replicate];congr 1;omega
structure NameF (h:Hd)(gnu:Bool)(L:List UInt8):Prop where
 len:L.length=512
 z1:fld L 100 245=List.replicate 245 0
 z2:fld L 500 12=List.replicate 12 0
 gz:gnu=true→fld L 345 155=List.replicate 155 0
 name:(fld L 0 100=Kv 100 h.name∧(gnu=false→fld L 345 155=List.replicate 155 0)∧(gnu=false→Ascii h.name→100<h.name.length→¬Dj h.name)) ∨
  gnu=false∧Ascii h.name∧∃pre nm,Parts h.name pre nm∧fld L 0 100=Kv 100 nm∧fld L 345 155=Kv 155 pre
theorem Zb {h:Hd}{gnu:Bool}{L1 L L4 L5 L6 L7 L8 L9 L10 L11 fa fc fs:List UInt8}(hn:NameF h gnu L1)(hnum:NumsTo gnu h L1 7 L)
  (e4:L4=L.set 156 h.typ) (e5:L5=splice L4 157 (h.link.take 100)) (e6:L6=splice L5 257 magicU) (e7:L7=if gnu then splice L6 257 magicG else L6)
  (e8:L8=if gnu&&h.hasA then splice L7 345 fa else L7) (hfa:gnu&&h.hasA→NumE true 12 h.ats fa) (e9:L9=if gnu&&h.hasC then splice L8 357 fc else L8) (hfc:gnu&&h.hasC→NumE true 12 h.cts fc)
  (e10:L10=splice L9 265 (h.un.take 32)) (e11:L11=splice L10 297 (h.gn.take 32)) (hs:NumE false 8 (Bz L11 512) fs):BlkE h gnu (splice L11 148 fs):=by
 have l0:=hnum.len;have s4:Same L L4 156 1:=e4▸Bci L 156 h.typ;have l4:L4.length=512:=by rw[s4.1];exact l0
 have s5:Same L4 L5 157 100:=e5▸D9 L4 h.link 157 100 (by omega)
 have l5:L5.length=512:=by rw[s5.1];exact l4
 have s6:Same L5 L6 257 8:=e6▸Gs L5 magicU 257 8 (by omega) (by decide)
 have l6:L6.length=512:=by rw[s6.1];exact l5
 have s7:Same L6 L7 257 8:=by
  rw[e7];split
  ·exact Gs L6 magicG 257 8 (by omega) (by decide)
  ·exact Same.refl _ _ _
 have l7:L7.length=512:=by rw[s7.1];exact l6
 have s8:Same L7 L8 345 12:=by
  rw[e8];split
  ·rename_i hg;exact Gs L7 fa 345 12 (by omega) (by rw[(hfa hg).len];omega)
  ·exact Same.refl _ _ _
 have l8:L8.length=512:=by rw[s8.1];exact l7
 have s9:Same L8 L9 357 12:=by
  rw[e9];split
  ·rename_i hg;exact Gs L8 fc 357 12 (by omega) (by rw[(hfc hg).len];omega)
  ·exact Same.refl _ _ _
 have l9:L9.length=512:=by rw[s9.1];exact l8
 have s10:Same L9 L10 265 32:=e10▸D9 L9 h.un 265 32 (by omega)
 have l10:L10.length=512:=by rw[s10.1];exact l9
 have s11:Same L10 L11 297 32:=e11▸D9 L10 h.gn 297 32 (by omega)
 have l11:L11.length=512:=by rw[s11.1];exact l10
 have hfl:=hs.len;have s12:Same L11 (splice L11 148 fs) 148 8:=Gs L11 fs 148 8 (by omega) (by omega)
 have nums:∀q,q<7→NumE gnu (fw q) (stored gnu (fw q) (fv h q)) (fld (splice L11 148 fs) (fo q) (fw q)):=fun q hq=>by
  have hb:(fo q+fw q≤148∨329≤fo q∧fo q+fw q≤345):=by
   (have:∀q,q<7→(fo q+fw q≤148∨329≤fo q∧fo q+fw q≤345):=by decide);exact this q hq
  rw[s12.at_ _ _ (by omega),s11.at_ _ _ (by omega),s10.at_ _ _ (by omega),s9.at_ _ _ (by omega),s8.at_ _ _ (by omega),s7.at_ _ _ (by omega),s6.at_ _ _ (by omega),s5.at_ _ _ (by omega),s4.at_ _ _ (by omega)]
  exact hnum.num q hq
 have low:∀o n,o+n≤100→fld (splice L11 148 fs) o n=fld L1 o n:=fun o n hb=>by
  rw[s12.at_ _ _ (by omega),s11.at_ _ _ (by omega),s10.at_ _ _ (by omega),s9.at_ _ _ (by omega),s8.at_ _ _ (by omega),s7.at_ _ _ (by omega),s6.at_ _ _ (by omega),s5.at_ _ _ (by omega),s4.at_ _ _ (by omega)]
  exact hnum.rest o n fun q hq=>by have:=(K7 q hq).2.2.2;omega
 have up7:∀o n,345≤o→fld L7 o n=fld L1 o n:=fun o n hb=>by
  rw[s7.at_ _ _ (by omega),s6.at_ _ _ (by omega),s5.at_ _ _ (by omega),s4.at_ _ _ (by omega)]
  exact hnum.rest o n fun q hq=>by have:=(K7 q hq).1;omega
 have mid:∀o n,156≤o→o+n≤329→fld L o n=fld L1 o n:=fun o n h1 h2=>hnum.rest o n fun q hq=>by
  have:∀q,q<7→(fo q+fw q≤148∨329≤fo q):=by decide
  have:=this q hq;omega
 have up:∀o n,369≤o→fld (splice L11 148 fs) o n=fld L1 o n:=fun o n hb=>by
  rw[s12.at_ _ _ (by omega),s11.at_ _ _ (by omega),s10.at_ _ _ (by omega),s9.at_ _ _ (by omega),s8.at_ _ _ (by omega)]
  exact up7 o n (by omega)
 have z1:∀o n,100≤o→o+n≤345→fld L1 o n=List.replicate n 0:=fun o n h1 h2=>zer _ _ _ _ _ hn.z1 h1 (by omega)
 refine⟨by rw[s12.1];exact l11,?_,nums 0 (by omega),nums 1 (by omega),nums 2 (by omega),nums 3 (by omega),nums 4 (by omega),nums 5 (by omega),nums 6 (by omega),?_,?_,?_,?_,?_,?_,?_,?_,?_,?_⟩
 ·have hup:gnu=false→fld (splice L11 148 fs) 345 155=fld L1 345 155:=fun g=>by
   subst g;(rw[s12.at_ _ _ (by omega),s11.at_ _ _ (by omega),s10.at_ _ _ (by omega)]);simp only[Bool.false_and,Bool.false_eq_true,if_false] at e8 e9;rw[e9,e8];exact up7 _ _ (by omega)
  rw[low 0 100 (by omega)]
  rcases hn.name with ⟨h1,h2,h3⟩|⟨h1,h2,pre,nm,h3,h4,h5⟩
  ·exact .inl ⟨h1,fun g=>by rw[hup g];exact h2 g,h3⟩
  ·exact .inr ⟨h1,h2,pre,nm,h3,h4,by rw[hup h1];exact h5⟩
 ·have e:fld (splice L11 148 fs) 156 1=fld L4 156 1:=by
   rw[s12.at_ _ _ (by omega),s11.at_ _ _ (by omega),s10.at_ _ _ (by omega),s9.at_ _ _ (by omega),s8.at_ _ _ (by omega),s7.at_ _ _ (by omega),s6.at_ _ _ (by omega),s5.at_ _ _ (by omega)]
  have:=congrArg (fun f:List UInt8=>f[0]?) e;simp only[Hy (show 0<1 by omega)] at this
  rw[this,e4,List.getElem?_set,if_pos rfl,if_pos (by omega)]
 ·rw[s12.at_ _ _ (by omega),s11.at_ _ _ (by omega),s10.at_ _ _ (by omega),s9.at_ _ _ (by omega),s8.at_ _ _ (by omega),s7.at_ _ _ (by omega),s6.at_ _ _ (by omega),e5]
  exact Dd L4 h.link 157 100 (by omega) (by rw[s4.at_ _ _ (by omega),mid _ _ (by omega) (by omega)];exact z1 _ _ (by omega) (by omega))
 ·rw[s12.at_ _ _ (by omega),s11.at_ _ _ (by omega),s10.at_ _ _ (by omega),s9.at_ _ _ (by omega),s8.at_ _ _ (by omega),e7]
  cases gnu with
  |true=>exact Df L6 magicG 257 8 (by omega) rfl
  |false=>rw[if_neg (by simp),e6];exact Df L5 magicU 257 8 (by omega) rfl
 ·rw[s12.at_ _ _ (by omega),s11.at_ _ _ (by omega),e10]
  exact Dd L9 h.un 265 32 (by omega) (by rw[s9.at_ _ _ (by omega),s8.at_ _ _ (by omega),s7.at_ _ _ (by omega),s6.at_ _ _ (by omega),s5.at_ _ _ (by omega),s4.at_ _ _ (by omega),mid _ _ (by omega) (by omega)];exact z1 _ _ (by omega) (by omega))
 ·rw[s12.at_ _ _ (by omega),e11]
  exact Dd L10 h.gn 297 32 (by omega) (by rw[s10.at_ _ _ (by omega),s9.at_ _ _ (by omega),s8.at_ _ _ (by omega),s7.at_ _ _ (by omega),s6.at_ _ _ (by omega),s5.at_ _ _ (by omega),s4.at_ _ _ (by omega),mid _ _ (by omega) (by omega)];exact z1 _ _ (by omega) (by omega))
 ·intro g;subst g;have e:fld (splice L11 148 fs) 345 12=fld L8 345 12:=by rw[s12.at_ _ _ (by omega),s11.at_ _ _ (by omega),s10.at_ _ _ (by omega),s9.at_ _ _ (by omega)]
  rw[e,e8];cases hA:h.hasA with
  |true=>
   rw[hA] at hfa;simp only[Bool.and_true,if_true];(rw[Df L7 fa 345 12 (by omega) (hfa rfl).len]);exact hfa rfl
  |false=>
   simp only[Bool.and_false,Bool.false_eq_true,if_false];(rw[up7 _ _ (by omega)]);exact zer _ _ _ _ _ (hn.gz rfl) (by omega) (by omega)
 ·intro g;subst g;have e:fld (splice L11 148 fs) 357 12=fld L9 357 12:=by rw[s12.at_ _ _ (by omega),s11.at_ _ _ (by omega),s10.at_ _ _ (by omega)]
  rw[e,e9];cases hA:h.hasC with
  |true=>
   rw[hA] at hfc;simp only[Bool.and_true,if_true];(rw[Df L8 fc 357 12 (by omega) (hfc rfl).len]);exact hfc rfl
  |false=>
   simp only[Bool.and_false,Bool.false_eq_true,if_false];(rw[s8.at_ _ _ (by omega),up7 _ _ (by omega)]);exact zer _ _ _ _ _ (hn.gz rfl) (by omega) (by omega)
 ·intro g;rw[up _ _ (by omega)]
  have h1:=hn.gz g;have h2:=hn.z2;have e:fld L1 369 143=fld L1 369 131++fld L1 500 12:=by
   rw[fld,fld,fld,show 143=131+12 by omega,List.take_add,List.drop_drop]
  rw[e,h2,zer _ _ _ 369 131 h1 (by omega) (by omega),List.replicate_append_replicate]
 ·rw[up _ _ (by omega)];exact hn.z2
 ·rw[Df L11 fs 148 8 (by omega) hfl,Vo L11 fs l11 hfl]
  exact hs
theorem Bah (h:Hd):NameF h true (splice (List.replicate 512 0) 0 (h.name.take 100)):=by
 have hz:(List.replicate 512 (0:UInt8)).length=512:=List.length_replicate;have s:Same (List.replicate 512 0) (splice (List.replicate 512 0) 0 (h.name.take 100)) 0 100:=D9 _ h.name 0 100 (by omega)
 refine⟨by rw[s.1];exact hz,?_,?_,fun _=>?_, .inl ⟨?_,fun g=>(by cases g),fun g=>(by cases g)⟩⟩
 ·rw[s.at_ _ _ (by omega)];exact C6 _ _ _ (by omega)
 ·rw[s.at_ _ _ (by omega)];exact C6 _ _ _ (by omega)
 ·rw[s.at_ _ _ (by omega)];exact C6 _ _ _ (by omega)
 ·exact Dd _ h.name 0 100 (by omega) (C6 _ _ _ (by omega))
def Bf6 (h:Hd)(L6 L9:List UInt8):Prop:=∃L7 L8 fa fc,L7=splice L6 257 magicG∧L8=(if h.hasA then splice L7 345 fa else L7)∧(h.hasA=true→NumE true 12 h.ats fa)∧L9=(if h.hasC then splice L8 357 fc else L8)∧(h.hasC=true→NumE true 12 h.cts fc)
def Bfe (w0:World)(C m:Nat)(h:Hd)(rv:Value)(L6:List UInt8)(w:World):Prop:=∃L9,Bf6 h L6 L9∧BlkSt w0 C (m+40) h rv L9 w
def Bf7 (w0:World)(C m:Nat)(h:Hd)(rv:Value)(L7:List UInt8)(w:World):Prop:=∃L8 fa,L8=(if h.hasA then splice L7 345 fa else L7)∧(h.hasA=true→NumE true 12 h.ats fa)∧BlkSt w0 C (m+34) h rv L8 w
def M7 (w:World)(C m:Nat)(h:Hd)(gnu:Bool)(e:Ending)(w':World):Prop:=
 ∃l,e=.returned (.slice (some ⟨w.heap.size+1,0,none⟩) 512 512)∧RowB w' (w.heap.size+1) l∧BlkE h gnu l∧Kp (· =C) w w'∧Cho w' C (m+100)
set_option maxHeartbeats 1600000 in
theorem Bai (w:World)(C m:Nat)(h:Hd)(rv:Value)(hC:Cho w C m)(hm:m+200≤1000000000000)(hi:NumIn h) :
  Calls Tryz.prog 76 #[.pointer (some ⟨C,0,none⟩), .agg (Bd h rv).toArray, .int .i64 3] w (M7 w C m h true):=by
 have hCw:C<w.heap.size:=by obtain⟨nv,a,h1,_⟩:=hC;exact Bv h1
 have hk1:∀o,Kp (fun _=>False) w (w.alloc o):=fun o=>(Kp.refl _ _).alloc o;have st0:∀o,o=Obj.cells (Bd h rv).toArray 45→BlkSt w C m h rv (List.replicate 512 0) ((w.alloc o).alloc (.cells (ubs (List.replicate 512 0)).toArray 5)):=by
  rintro o rfl;have k2:=(hk1 (Obj.cells (Bd h rv).toArray 45)).alloc (.cells (ubs (List.replicate 512 0)).toArray 5);have r2:=Ba (w.alloc (.cells (Bd h rv).toArray 45)) (.cells (ubs (List.replicate 512 0)).toArray 5);have hsz:(w.alloc (.cells (Bd h rv).toArray 45)).heap.size=w.heap.size+1:=by show (w.heap.push _).size=_;simp
  rw[hsz] at r2;exact⟨hC.keep k2 (fun _ h=>h.elim) (Nat.le_refl _),r2,heap_alloc (Ba w _) _,k2.mono (fun _ _ h=>h.elim),List.length_replicate⟩
 have hmk:∀w:World,(Instr.makeSlice 27 (.int .i64 512) (.int .i64 512)).run Tryz.prog w=.ok (.slice (some ⟨w.heap.size,0,none⟩) 512 512) (w.alloc (.cells (ubs (List.replicate 512 0)).toArray 5)):=fun w=>Bdw w 512 (by omega)
 have hs1:∀o,(w.alloc o).heap.size=w.heap.size+1:=fun o=>by show (w.heap.push _).size=_;simp
 have ST0:=fun o=>hid (st0 o);clear st0 hC hk1;unfold Bd at ST0 ⊢;unfold B5 at ST0 ⊢;go_enter Tryz.func76,Tryz.ntmps76
 go_upto_region 2 with fail
 refine(show Code.wp _ _ _ _ ((w.alloc (.cells (Bd h rv).toArray 45)).alloc (.cells (ubs (List.replicate 512 0)).toArray 5)) from ?_)
 have S:=(ST0 (.cells (Bd h rv).toArray 45)).out rfl;generalize (w.alloc (.cells (Bd h rv).toArray 45)).alloc (.cells (ubs (List.replicate 512 0)).toArray 5)=w1 at S ⊢;obtain⟨hv,hhv⟩:∃hv:Value,Value.agg #[.int .u8 (h.typ.toNat:Int), .string ⟨h.name.toArray⟩, .string ⟨h.link.toArray⟩, .int .i64 h.size, .int .i64 h.mode, .int .i64 h.uid, .int .i64 h.gid, .string ⟨h.un.toArray⟩, .string ⟨h.gn.toArray⟩, .int .i64 h.ms, .int .i64 h.mn, .bool h.hasA, .bool h.hasC, .int .i64 h.ats, .int .i64 h.atn, .int .i64 h.cts, .int .i64 h.ctn, .int .i64 h.maj, .int .i64 h.min,rv, .int .i64 h.fmt]=hv:=⟨_,rfl⟩;rw[hhv];clear hhv;have c1:w1.cell? ⟨w.heap.size,1,none⟩=some (.string ⟨h.name.toArray⟩):=cell_of S.hdr 1 rfl;clear ST0 hmk hs1;obtain⟨w2,hr2,hk2,hb2⟩:=Cd w1 3 (w.heap.size+1) 0 100 512 h.name _ S.row (by rw[S.len];omega)
 have S2:=S.copyTo hCw hk2 hb2 (by rw[List.length_take];omega)
 go_upto_region 18 with fail
 have d3:w2.cell? ⟨w.heap.size,3,none⟩=some (.int .i64 h.size):=cell_of S2.hdr 3 rfl;have d4:w2.cell? ⟨w.heap.size,4,none⟩=some (.int .i64 h.mode):=cell_of S2.hdr 4 rfl;have d5:w2.cell? ⟨w.heap.size,5,none⟩=some (.int .i64 h.uid):=cell_of S2.hdr 5 rfl;have d6:w2.cell? ⟨w.heap.size,6,none⟩=some (.int .i64 h.gid):=cell_of S2.hdr 6 rfl;have d9:w2.cell? ⟨w.heap.size,9,none⟩=some (.int .i64 h.ms):=cell_of S2.hdr 9 rfl;have d17:w2.cell? ⟨w.heap.size,17,none⟩=some (.int .i64 h.maj):=cell_of S2.hdr 17 rfl;have d18:w2.cell? ⟨w.heap.size,18,none⟩=some (.int .i64 h.min):=cell_of S2.hdr 18 rfl;have SS:=hid S2;clear S S2 hr2 hk2 hb2 c1;go_wp2_with fail
 refine(show Code.wp _ _ _ _ (w2.alloc (.cells (Gg h).toArray 222)) from ?_)
 have LP:Hid (NumLoop w C m h rv true (splice (List.replicate 512 0) 0 (List.take 100 h.name)) w2.heap.size 0 (w2.alloc (.cells (Gg h).toArray 222))):=
  ⟨⟨_,SS.out.grow ((Kp.refl _ _).alloc _),NumsTo.zero _ _ _ SS.out.len⟩,Ba w2 _⟩
 have hA:w.heap.size+1<w2.heap.size:=Bv SS.out.row;clear d3 d4 d5 d6 d9 d17 d18 SS;generalize w2.alloc (.cells (Gg h).toArray 222)=w3 at LP ⊢;go_loopg [15,16,102] 7 (fun g s15 s16 s102 wr=>∃j:Nat,j+g=7∧s102=.int .i64 j∧Hid (NumLoop w C m h rv true (splice (List.replicate 512 0) 0 (List.take 100 h.name)) w2.heap.size j wr))
 case atStart=>exact⟨0,by omega,rfl,LP⟩
 case round=>
  clear LP;obtain⟨j,hj,rfl,hl⟩:=hrel;by_cases hlt:j<7
  ·have hb:=K7 j hlt;have ht:=Bcj h j hlt;(have e0:wr.cell? ⟨w2.heap.size,j*3,none⟩=some (.int .i64 (fo j:Nat)):=cell_of hl.out.tbl _ (by rw[List.getElem?_toArray];exact ht.1));(have e1:wr.cell? ⟨w2.heap.size,j*3+1,none⟩=some (.int .i64 (fo j+fw j:Nat)):=cell_of hl.out.tbl _ (by rw[List.getElem?_toArray];exact ht.2.1));(have e2:wr.cell? ⟨w2.heap.size,j*3+2,none⟩=some (.int .i64 (fv h j)):=cell_of hl.out.tbl _ (by rw[List.getElem?_toArray];exact ht.2.2));clear ht;have hg:∀o,Hid (NumLoop w C m h rv true (splice (List.replicate 512 0) 0 (List.take 100 h.name)) w2.heap.size j (wr.alloc o)):=fun o=>hl.out.grow ((Kp.refl _ _).alloc o);have hfv:=hi.fvs j hlt;clear hl;(go_wp2_with fail);obtain⟨L,hst,hnum⟩:=(hg _).out.st;(refine(E3 _ C (m+4*j) (w.heap.size+1) (fo j) (fw j) (512-fo j) (fv h j) true L hst.cho (by omega) (by omega) ⟨hb.2.1,hb.2.2.1⟩ (by omega) hfv (.inl rfl) hst.row (by rw[hst.len];omega)).mono ?_);rintro e w5 ⟨rfl,hk5,hc5,f,hf,hrow⟩;have NX:Hid (NumLoop w C m h rv true (splice (List.replicate 512 0) 0 (List.take 100 h.name)) w2.heap.size (j+1) w5):=(hg _).out.next hCw hA hlt hst hnum hf hk5 hc5 hrow;clear hg hk5 hc5 hrow hst hnum hf e0 e1 e2;(go_wp2_with fail);go_roundg (gk-1)
   case measure=>omega
   case rel=>exact⟨j+1,by omega,by simp,NX⟩
  ·(obtain rfl:j=7:=by omega);obtain⟨L,hst,hnum⟩:=hl.out.st;clear hl;have hl7:=hid hnum;clear hnum;have c0:wr.cell? ⟨w.heap.size,0,none⟩=some (.int .u8 h.typ.toNat):=cell_of hst.hdr 0 rfl;(obtain⟨x156,b156⟩:=hst.row.at_ 156 (by rw[hst.len];omega));have z156:=Bb hst.row 156;have r4:=hst.row.put 156 h.typ (.int .u8 h.typ.toNat) rfl;have S4:Hid (BlkSt w C (m+28) h rv (L.set 156 h.typ) (wr.setCell ⟨w.heap.size+1,156,none⟩ (.int .u8 h.typ.toNat))):=hst.put hCw 156 h.typ;clear hst;(go_upto_region 27 with fail);generalize wr.setCell ⟨w.heap.size+1,156,none⟩ (.int .u8 h.typ.toNat)=w4 at S4 ⊢;clear c0 b156 z156 r4;obtain⟨L4,hL4⟩:∃L4,L.set 156 h.typ=L4:=⟨_,rfl⟩;rw[hL4] at S4;have H4:=hid hL4;clear hL4;have c2:w4.cell? ⟨w.heap.size,2,none⟩=some (.string ⟨h.link.toArray⟩):=cell_of S4.out.hdr 2 rfl;have S4d:=S4.out.grow ((Kp.refl (fun _=>False) _).drew);(obtain⟨w5,hr5,hk5,hb5⟩:=Cd w4.drew 3 (w.heap.size+1) 157 100 355 h.link _ S4d.row (by rw[S4d.len];omega));(have c2b:w5.cell? ⟨w.heap.size,2,none⟩=some (.string ⟨h.link.toArray⟩):=hk5.cell (show w4.drew.cell? _=_ from c2) (by show ¬(w.heap.size=w.heap.size+1);omega));(have S5:=S4d.copyTo hCw hk5 hb5 (by rw[List.length_take];omega));obtain⟨L5,hL5⟩:∃L5,splice L4 157 (h.link.take 100)=L5:=⟨_,rfl⟩;rw[hL5] at S5;have H5:=hid hL5;clear hL5 S4 S4d hk5 hb5;(go_region_held3 (fun w' => w'.cell? ⟨w.heap.size, 2, none⟩ = some (.string ⟨h.link.toArray⟩)) (first | (exact c2) | (exact c2b)) (first | (fail "none")));rename_i hHeld
   clear hHeld hr5 c2 c2b;(obtain⟨w6,hr6,hk6,hb6⟩:=Cd w5 3 (w.heap.size+1) 257 8 255 magicU _ S5.row (by rw[S5.len];omega));(have S6:=S5.copyTo hCw hk6 hb6 (by decide));obtain⟨L6,hL6⟩:∃L6,splice L5 257 (magicU.take 8)=L6:=⟨_,rfl⟩;rw[hL6] at S6;have H6:=hid hL6;clear hL6 S5 hk6 hb6;unfold magicU at hr6;(go_upto_if 143 with fail);clear hr6;go_cut [] from 144 to 164 (fun wx=>Hid (Bfe w C m h rv L6 wx))
   case first=>
    (obtain⟨w7,hr7,hk7,hb7⟩:=Cd w6 3 (w.heap.size+1) 257 8 255 magicG _ S6.row (by rw[S6.len];omega));(have S7:=S6.copyTo hCw hk7 hb7 (by decide));obtain⟨L7,hL7⟩:∃L7,splice L6 257 (magicG.take 8)=L7:=⟨_,rfl⟩;rw[hL7] at S7;have H7:=hid hL7;clear hL7 S6 hk7 hb7;unfold magicG at hr7;obtain⟨bA,hA⟩:∃bA,h.hasA=bA:=⟨_,rfl⟩;have c10:w7.cell? ⟨w.heap.size,11,none⟩=some (.bool bA):=hA▸cell_of S7.hdr 11 rfl;have HBA:=hid hA;clear hA;have c13:w7.cell? ⟨w.heap.size,13,none⟩=some (.int .i64 h.ats):=cell_of S7.hdr 13 rfl;have SH7:=hid S7;clear S7;(go_upto_if 148 with fail);clear hr7;go_cut [] from 149 to 155 (fun wx=>Hid (Bf7 w C m h rv L7 wx))
    case first=>
     have hA:=HBA.out;clear HBA;cases bA with
     |false=>
      (go_wp2_with fail);go_meet
      case rel=>exact⟨L7,[],by rw[hA];rfl,fun g=>(by rw[hA] at g;cases g),SH7.out.more (by omega)⟩
     |true=>
      (go_wp2_with fail);have S7d:=hid (SH7.out.grow ((Kp.refl (fun _=>False) _).drew))
      go_region_held3 (fun w'=>w'.cell? ⟨w.heap.size,13,none⟩=some (.int .i64 h.ats)) (first|(exact c13)|(exact hk8.cell c13 (by show ¬(w.heap.size=w.heap.size+1∨w.heap.size=C);omega)))
       (first|(go_at_call 123;refine(E3 _ C (m+28) (w.heap.size+1) 345 12 167 h.ats true L7 S7d.out.cho (by omega) (by omega) (by omega) (by omega) hi.ats (.inl rfl) S7d.out.row (by rw[S7d.out.len];omega)).mono ?_;rintro e w8 ⟨rfl,hk8,hc8,fa,hfa,hrow8⟩))
      (have S8:=S7d.out.numTo hCw hk8 hc8 hrow8 (by have:=hfa.len;omega));(have CA:Hid (Bf7 w C m h rv L7 w8):=⟨_,fa,by rw[hA];rfl,fun _=>hfa,S8.more (by omega)⟩);rename_i hHeld;clear hHeld hk8 hc8 hrow8 S8 S7d;(go_wp2_with fail);go_meet
      case rel=>exact CA
    case rest=>
     obtain⟨L8,fa,h8,hfa,st8⟩:=hcut.out;clear hcut c10 c13 HBA SH7;obtain⟨bC,hC⟩:∃bC,h.hasC=bC:=⟨_,rfl⟩;have c12:wc.cell? ⟨w.heap.size,12,none⟩=some (.bool bC):=hC▸cell_of st8.hdr 12 rfl;have c15:wc.cell? ⟨w.heap.size,15,none⟩=some (.int .i64 h.cts):=cell_of st8.hdr 15 rfl;have ST8:=hid st8;have H8:=hid h8;have HFA:=hid hfa;have AF:∀L9 fc,Hid (L9=(if h.hasC then splice L8 357 fc else L8)→(h.hasC=true→NumE true 12 h.cts fc)→Bf6 h L6 L9):=fun L9 fc h1 h2=>⟨L7,L8,fa,fc,H7.out.symm.trans rfl,H8.out,HFA.out,h1,h2⟩;clear st8 h8 hfa;cases bC with
     |false=>
      (have CG:Hid (Bfe w C m h rv L6 wc):=⟨L8,(AF L8 []).out (by rw[hC];rfl) (fun g=>by rw[hC] at g;cases g),ST8.out.more (by omega)⟩);clear AF hC;(go_wp2_with fail);go_meet
      case rel=>exact CG
     |true=>
      (go_wp2_with fail);have S8d:=hid (ST8.out.grow ((Kp.refl (fun _=>False) _).drew))
      go_region_held3 (fun w'=>w'.cell? ⟨w.heap.size,15,none⟩=some (.int .i64 h.cts)) (first|(exact c15)|(exact hk9.cell c15 (by show ¬(w.heap.size=w.heap.size+1∨w.heap.size=C);omega)))
       (first|(go_at_call 123;refine(E3 _ C (m+34) (w.heap.size+1) 357 12 155 h.cts true L8 S8d.out.cho (by omega) (by omega) (by omega) (by omega) hi.cts (.inl rfl) S8d.out.row (by rw[S8d.out.len];omega)).mono ?_;rintro e w9 ⟨rfl,hk9,hc9,fc,hfc,hrow9⟩))
      (have S9:=S8d.out.numTo hCw hk9 hc9 hrow9 (by have:=hfc.len;omega));(have CG:Hid (Bfe w C m h rv L6 w9):=⟨_,(AF _ fc).out (by rw[hC];rfl) (fun _=>hfc),S9.more (by omega)⟩);rename_i hHeld;clear hHeld hk9 hc9 hrow9 S9 S8d hC AF;(go_wp2_with fail);go_meet
      case rel=>exact CG
   case rest=>
    obtain⟨L9,haft,st9⟩:=hcut.out;clear hcut S6;have c7:wc.cell? ⟨w.heap.size,7,none⟩=some (.string ⟨h.un.toArray⟩):=cell_of st9.hdr 7 rfl;have S9d:=st9.grow ((Kp.refl (fun _=>False) _).drew);(obtain⟨wa,hra,hka,hba⟩:=Cd wc.drew 3 (w.heap.size+1) 265 32 247 h.un _ S9d.row (by rw[S9d.len];omega));(have c7b:wa.cell? ⟨w.heap.size,7,none⟩=some (.string ⟨h.un.toArray⟩):=hka.cell (show wc.drew.cell? _=_ from c7) (by show ¬(w.heap.size=w.heap.size+1);omega));(have SA:=S9d.copyTo hCw hka hba (by rw[List.length_take];omega));obtain⟨L10,h10⟩:∃L10,splice L9 265 (h.un.take 32)=L10:=⟨_,rfl⟩;rw[h10] at SA;have H10:=hid h10;have HAFT:=hid haft;clear h10 haft st9 S9d hka hba;(go_wp2_with fail);(go_region_held3 (fun w' => w'.cell? ⟨w.heap.size, 7, none⟩ = some (.string ⟨h.un.toArray⟩)) (first | (exact c7) | (exact c7b)) (first | (fail "none")));rename_i hHeld;clear hHeld hra c7 c7b;have c8:wa.cell? ⟨w.heap.size,8,none⟩=some (.string ⟨h.gn.toArray⟩):=cell_of SA.hdr 8 rfl;have SAd:=SA.grow ((Kp.refl (fun _=>False) _).drew);(obtain⟨wb,hrb,hkb,hbb⟩:=Cd wa.drew 3 (w.heap.size+1) 297 32 215 h.gn _ SAd.row (by rw[SAd.len];omega));(have c8b:wb.cell? ⟨w.heap.size,8,none⟩=some (.string ⟨h.gn.toArray⟩):=hkb.cell (show wa.drew.cell? _=_ from c8) (by show ¬(w.heap.size=w.heap.size+1);omega));(have SB:=SAd.copyTo hCw hkb hbb (by rw[List.length_take];omega));obtain⟨L11,h11⟩:∃L11,splice L10 297 (h.gn.take 32)=L11:=⟨_,rfl⟩;rw[h11] at SB;have H11:=hid h11;clear h11 SA SAd hkb hbb
    (go_wp2_with fail);(go_region_held3 (fun w' => w'.cell? ⟨w.heap.size, 8, none⟩ = some (.string ⟨h.gn.toArray⟩)) (first | (exact c8) | (exact c8b)) (first | (fail "none")));rename_i hHeld;clear hHeld hrb c8 c8b;(go_wp2_with fail);(refine(M4 wb C (m+40) (w.heap.size+1) L11 SB.cho (by omega) (by omega) SB.row SB.len).mono ?_);rintro e wz ⟨rfl,hkz,hcz,fs,hfs,hrz⟩;have FIN:Hid (M7 w C m h true (.returned (.slice (some ⟨w.heap.size+1,0,none⟩) 512 512)) wz):=by
     obtain⟨L7,L8,fa,fc,e7,e8,hfa,e9,hfc⟩:=HAFT.out;have e6:L6=splice L5 257 magicU:=H6.out.symm;refine⟨_,rfl,hrz,Zb (L7:=L7) (L8:=L8) (L9:=L9) (Bah h) hl7.out H4.out.symm H5.out.symm e6 e7 e8 (fun g=>hfa (by simpa using g)) e9 (fun g=>hfc (by simpa using g)) H10.out.symm H11.out.symm hfs,SB.kp.then hkz (fun i hi e=>by omega),hcz.keep (Kp.refl (fun _=>False) _) (fun _ h=>h.elim) (by omega)⟩
    clear hkz hcz hfs hrz SB;(go_wp2_with fail);(go_ret);exact FIN.out
def Bcm (n:Nat):Value:=.int .i64 (n:Int)
def OwnI (w:World)(base:Nat)(v:Value)(l:List Nat):Prop:=w.ownsRow base 3 1 v l.length (l.map Bcm)
theorem OwnI.nil (w:World)(base:Nat):OwnI w base (.slice none 0 0) []:=⟨by simp, .inl ⟨rfl,rfl⟩⟩
theorem info3:∃i,Tryz.prog.info? 3=some i∧i.zero=some (.int .i64 0)∧i.size=1∧i.bytes=8:=by
 have h:(Tryz.prog.info? 3).map (fun i=>(i.zero,i.size,i.bytes))=some (some (.int .i64 0),1,8):=by kernel_rfl
 obtain⟨i,h1,h2⟩:=Option.map_eq_some_iff.1 h;simp only[Prod.mk.injEq] at h2;exact⟨i,h1,h2⟩
theorem OwnI.shape {w:World}{base:Nat}{v:Value}{l:List Nat}(h:OwnI w base v l):∃A c,v=.slice A l.length c:=by
 rcases h.2 with ⟨h1,h2⟩|⟨g,cap,cur,h1,_⟩
 ·exact⟨none,0,by rw[h1,h2]⟩
 ·exact⟨_,cap,h1⟩
theorem OwnI.get {w:World}{base:Nat}{v:Value}{l:List Nat}(h:OwnI w base v l){i x:Nat}(hx:l[i]?=some x):∃g c,v=.slice (some ⟨g,0,none⟩) l.length c∧base≤g∧w.cell? ⟨g,i,none⟩=some (.int .i64 x):=by
 rcases h.2 with ⟨h1,h2⟩|⟨g,cap,cur,rfl,hb,hg,h3,h4,h5,h6⟩
 ·have:l=[]:=List.eq_nil_of_length_eq_zero h2;rw[this] at hx;cases hx
 ·refine⟨g,cap,rfl,hb,?_⟩;have hi:i<l.length:=(List.getElem?_eq_some_iff.1 hx).1;refine cell_of hg i ?_;have:(cur.toList.take (l.length*1))[i]?=some (Bcm x):=by rw[h6,List.getElem?_map,hx];rfl
  rw[List.getElem?_take,if_pos (by omega)] at this
  simpa[Bcm] using this
theorem OwnI.keep {w w':World}{base:Nat}{v:Value}{l:List Nat}{S:Nat→Prop}(h:OwnI w base v l)(k:Kp S w w')(hS:∀b,base≤b→¬S b):OwnI w' base v l:=by
 refine⟨h.1,?_⟩;rcases h.2 with hn|⟨g,cap,cur,rfl,hb,hg,rest⟩
 ·exact .inl hn
 ·exact .inr ⟨g,cap,cur,rfl,hb,k.heap hg (hS g hb),rest⟩
theorem X3 (w:World)(ty:TypeId)(base:Nat)(v:Value)(l:List Nat)(x:Nat)(hown:OwnI w base v l)(hlen:l.length≤281474976710656/16)(hbase:base≤w.heap.size) :
  ∃v' w',(Builtin.append_ #[30,30] ty #[v, .slice (some ⟨w.heap.size,0,none⟩) 1 1]).run Tryz.prog (w.alloc (.cells #[.int .i64 x] 3))=.ok v' w'∧OwnI w' base v' (l++[x])∧Kp (fun k=>base≤k) w w':=by
 obtain⟨i0,hi,hz,hsz,hby⟩:=info3;have hown':OwnI (w.alloc (.cells #[.int .i64 x] 3)) base v l:=hown.keep ((Kp.refl (fun _=>False) w).alloc _) (fun _ _ h=>h);have hc:(w.alloc (.cells #[.int .i64 (x:Int)] 3)).cell? ⟨w.heap.size,0,none⟩=some (.int .i64 x):=cell_of (Ba w _) 0 rfl
 obtain⟨v',w',hr,h2,h3,h4⟩:=run_append_own_wide (P:=Tryz.prog) (w.alloc (.cells #[.int .i64 x] 3)) base 30 ty 3 i0 _ 1 8 Tryz.underlying30 hi hz hsz hby rfl (by omega) v l.length (l.map Bcm) hown' ⟨w.heap.size,0,none⟩ 1 1 [Bcm x] rfl
  (fun j u hu=>by
   match j,hu with
   |0,hu=>injection hu with hu;rw[←hu];exact hc
   |j+1,hu=>cases hu)
  (fun u hu=>by rw[List.mem_singleton.1 hu];rfl) (by simp only[maxLen];omega) (by omega) (by show base≤(w.heap.push _).size;simp;omega)
 refine⟨v',w',hr,?_,?_⟩
 ·unfold OwnI;rw[List.map_append,List.length_append];exact h2
 ·have k1:Kp (fun _=>False) w (w.alloc (.cells #[.int .i64 (x:Int)] 3)):=(Kp.refl _ _).alloc _;exact(k1.mono (fun _ _ h=>h.elim)).trans (Kp.wide h3 fun k hk=>(World.ownsRow.lt hown' k hk).1)
theorem Et {l:List UInt8}{i:Nat}(h:splitB l i=true):Parts l (l.take i) (l.drop (i+1))∧1≤i∧i≤155∧i<l.length:=by
 unfold splitB at h;simp only[Bool.and_eq_true,decide_eq_true_eq] at h;obtain⟨⟨⟨⟨⟨h1,h2⟩,h3⟩,h4⟩,h5⟩,h6⟩:=h;have h4':l[i]=47:=by rw[List.getElem?_eq_getElem h3] at h4;injection h4
 refine⟨⟨?_,by rw[List.length_take];omega,by rw[List.length_take];omega,by rw[List.length_drop];omega,by rw[List.length_drop];omega⟩,h1,h2,h3⟩
 have:=List.take_append_drop i l;rw[List.drop_eq_getElem_cons h3,h4'] at this;exact this.symm
theorem Kd {l pre nm:List UInt8}(h:Parts l pre nm):splitB l pre.length=true:=by
 have e:=h.eq;have h1:=h.pre1;have h2:=h.pre2;have h3:=h.nm1;have h4:=h.nm2;have hl:l.length=pre.length+(nm.length+1):=by rw[e,List.length_append,List.length_cons]
 have hg:l[pre.length]?=some 47:=by rw[e,List.getElem?_append_right (Nat.le_refl _)];simp
 unfold splitB;simp only[Bool.and_eq_true,decide_eq_true_eq];exact⟨⟨⟨⟨⟨h1,h2⟩,by omega⟩,hg⟩,by omega⟩,by omega⟩
theorem Iw (l:List UInt8):l.all okA=true↔Ascii l:=by
 rw[List.all_eq_true];constructor
 ·intro h c hc;have:=h c hc;simp only[okA,Bool.and_eq_true,decide_eq_true_eq,bne_iff_ne] at this;exact⟨this.2,this.1⟩
 ·intro h c hc;have:=h c hc;simp only[okA,Bool.and_eq_true,decide_eq_true_eq,bne_iff_ne];exact⟨this.2,this.1⟩
structure Places (l:List UInt8)(i:Nat)(ps:List Nat):Prop where
 mem:∀p,p∈ps↔p<i∧l.all okA=true∧splitB l p=true
 len:ps.length≤i
theorem Places.zero (l:List UInt8):Places l 0 []:=⟨by simp,by simp⟩
theorem Places.skip {l:List UInt8}{i:Nat}{ps:List Nat}(h:Places l i ps)(hn:¬(l.all okA=true∧splitB l i=true)):Places l (i+1) ps:=by
 refine⟨fun p=>?_,by have:=h.len;omega⟩
 rw[h.mem];constructor
 ·rintro⟨h1,h2⟩;exact⟨by omega,h2⟩
 ·rintro⟨h1,h2⟩;refine⟨?_,h2⟩;rcases Nat.lt_or_ge p i with h3|h3
  ·exact h3
  ·(obtain rfl:p=i:=by omega);exact absurd h2 hn
theorem Places.add {l:List UInt8}{i:Nat}{ps:List Nat}(h:Places l i ps)(h1:l.all okA=true)(h2:splitB l i=true):Places l (i+1) (ps++[i]):=by
 refine⟨fun p=>?_,by rw[List.length_append];have:=h.len;simp;omega⟩
 rw[List.mem_append,h.mem,List.mem_singleton];constructor
 ·rintro(⟨h3,h4⟩|rfl)
  ·exact⟨by omega,h4⟩
  ·exact⟨by omega,h1,h2⟩
 ·rintro⟨h3,h4⟩;rcases Nat.lt_or_ge p i with h5|h5
  ·exact .inl ⟨h5,h4⟩
  ·exact .inr (by omega)
def Bf8 (h:Hd)(nm L1:List UInt8):Prop:=
 nm=h.name∧L1=List.replicate 512 0∧(Ascii h.name→100<h.name.length→¬Dj h.name) ∨
 Ascii h.name∧∃pre,Parts h.name pre nm∧L1=splice (List.replicate 512 0) 345 (pre.take 155)
theorem Vs {h:Hd}{nm L1:List UInt8}(hn:Bf8 h nm L1):NameF h false (splice L1 0 (nm.take 100)):=by
 have hz:(List.replicate 512 (0:UInt8)).length=512:=List.length_replicate;rcases hn with ⟨rfl,rfl,hs⟩|⟨ha,pre,hp,rfl⟩
 ·have s:Same (List.replicate 512 0) (splice (List.replicate 512 0) 0 (h.name.take 100)) 0 100:=D9 _ h.name 0 100 (by omega)
  refine⟨by rw[s.1];exact hz,?_,?_,fun g=>(by cases g), .inl ⟨?_,fun _=>?_,fun _=>hs⟩⟩
  ·rw[s.at_ _ _ (by omega)];exact C6 _ _ _ (by omega)
  ·rw[s.at_ _ _ (by omega)];exact C6 _ _ _ (by omega)
  ·exact Dd _ h.name 0 100 (by omega) (C6 _ _ _ (by omega))
  ·rw[s.at_ _ _ (by omega)];exact C6 _ _ _ (by omega)
 ·have s1:Same (List.replicate 512 0) (splice (List.replicate 512 0) 345 (pre.take 155)) 345 155:=D9 _ pre 345 155 (by omega)
  have l1:(splice (List.replicate 512 0) 345 (pre.take 155)).length=512:=by rw[s1.1];exact hz
  have s:Same (splice (List.replicate 512 0) 345 (pre.take 155)) (splice (splice (List.replicate 512 0) 345 (pre.take 155)) 0 (nm.take 100)) 0 100:=D9 _ nm 0 100 (by omega)
  refine⟨by rw[s.1];exact l1,?_,?_,fun g=>(by cases g), .inr ⟨rfl,ha,pre,nm,hp,?_,?_⟩⟩
  ·rw[s.at_ _ _ (by omega),s1.at_ _ _ (by omega)];exact C6 _ _ _ (by omega)
  ·rw[s.at_ _ _ (by omega),s1.at_ _ _ (by omega)];exact C6 _ _ _ (by omega)
  ·exact Dd _ nm 0 100 (by omega) (by rw[s1.at_ _ _ (by omega)];exact C6 _ _ _ (by omega))
  ·(rw[s.at_ _ _ (by omega)]);exact Dd _ pre 345 155 (by omega) (C6 _ _ _ (by omega))
theorem BlkSt.other {w0 w w':World}{C m base:Nat}{h:Hd}{rv:Value}{L:List UInt8}(s:BlkSt w0 C m h rv L w)(hC:C<w0.heap.size)(hb:w0.heap.size+1<base)(k:Kp (fun i=>base≤i) w w'):BlkSt w0 C m h rv L w':=
 ⟨s.cho.keep k (fun i hi=>by omega) (Nat.le_refl _),k.heap s.row (by omega),k.heap s.hdr (by omega),s.kp.then k (fun i hi e=>by omega),s.len⟩
def spB (l:List UInt8):Bool:=(List.range l.length).any (splitB l)
theorem Zc (l:List UInt8):spB l=true↔Dj l:=by
 unfold spB;rw[List.any_eq_true];constructor
 ·rintro⟨i,_,h⟩;exact⟨_,_,(Et h).1⟩
 ·rintro⟨pre,nm,h⟩;have:=Kd h;exact⟨pre.length,List.mem_range.2 (Et this).2.2.2,this⟩
theorem M8 (w:World)(l:List UInt8)(hl:l.length≤1099511627776):Calls Tryz.prog 86 #[.string ⟨l.toArray⟩] w fun e w'=>e=.returned (.bool (spB l))∧w'=w:=by
 have HS:=fun W i (h:i≤281474976710656)=>hid (Qo W l i (by omega) h)
 unfold B5 at HS;go_enter Tryz.func86,Tryz.ntmps86
 go_wp2_with fail
 go_loopg [3,6] l.length (fun g s3 s6 wr=>∃i:Nat,i+g=l.length∧s6=.int .i64 i∧Hid (∀j,j<i→splitB l j=false)∧wr=w)
 case atStart=>exact⟨0,by omega,rfl,fun j hj=>by omega,rfl⟩
 case round=>
  obtain⟨i,hi,rfl,hno,rfl⟩:=hrel;by_cases hlt:i<l.length
  ·(have HSI:=fun W=>HS W i (by omega));obtain⟨β,hβ⟩:∃β,splitB l i=β:=⟨_,rfl⟩;rw[hβ] at HSI;clear HS;cases β with
   |true=>
    (have FIN:Hid (spB l=true):=by show _=_;exact List.any_eq_true.2 ⟨i,List.mem_range.2 hlt,hβ⟩);clear hno hβ;(go_wp2_with fail);refine(HSI _).out.mono ?_;rintro e w2 ⟨rfl,rfl⟩;(go_wp2_with fail);(go_ret);rw[FIN.out];exact⟨rfl,rfl⟩
   |false=>
    have NX:Hid (∀j,j<i+1→splitB l j=false):=fun j hj=>by
     rcases Nat.lt_or_ge j i with h|h
     ·exact hno.out j h
     ·(obtain rfl:j=i:=by omega);exact hβ
    clear hno hβ;(go_wp2_with fail);refine(HSI _).out.mono ?_;rintro e w2 ⟨rfl,rfl⟩;(go_wp2_with fail);go_roundg (gk-1)
    case measure=>omega
    case rel=>exact⟨i+1,by omega,by simp,NX,rfl⟩
  ·(obtain rfl:i=l.length:=by omega);have FIN:Hid (spB l=false):=by
    show _=_;rw[spB,List.any_eq_false];intro j hj;rw[hno.out j (List.mem_range.1 hj)];simp
   clear hno HS;(go_wp2_with fail);(go_ret);rw[FIN.out];exact⟨rfl,rfl⟩
end Go.Proofs.YtgfcnjfmmjcodaaGreatDoor
