/- chooser.meta of the specification. -/
import Derived.Laws.IdiomStrings
import Derived.Test.YtgfcnjfmmjcodaaGreatDoorN23
set_option linter.all false
set_option maxRecDepth 100000
set_option maxHeartbeats 1000000
open Go.Lib (hid)
namespace Go.Proofs.YtgfcnjfmmjcodaaGreatDoor
open Go Go.RowKit
theorem RowB.own {w:World}{b base:Nat}{l:List UInt8}(h:RowB w b l)(hb:base≤b)(hl:l.length≤maxLen):OwnB w base (.slice (some ⟨b,0,none⟩) l.length l.length) l:=by
 refine⟨by rw[ubs_length,Nat.mul_one], .inr ⟨b,l.length,_,rfl,hb,h,Nat.le_refl _,hl,?_,?_⟩⟩
 ·simp[ubs]
 ·rw[Nat.mul_one,show l.length=(ubs l).length from(ubs_length l).symm,List.take_length]
theorem conv_str_ex (w:World)(l:List UInt8):∃c w',(convert 9 27 (.string ⟨l.toArray⟩)).run Tryz.prog w=.ok (.slice (some ⟨w.heap.size,0,none⟩) l.length c) w'∧BytesAt w' w.heap.size 0 l∧Kp (fun _=>False) w w':=by
 have hr:=run_bytes_of_string (P:=Tryz.prog) w 9 27 5 ⟨l.toArray⟩ Tryz.underlying9 Tryz.underlying27 Tryz.underlying5
 refine⟨_,_,hr,fun j v hv=>?_,(Kp.refl _ _).drew.alloc _⟩
 have hn:=heap_new w.drew (.cells (bytesRow ⟨l.toArray⟩ (grownCap w (⟨l.toArray⟩:ByteArray).size 0 5)) 5 ((bytesRow ⟨l.toArray⟩ (grownCap w (⟨l.toArray⟩:ByteArray).size 0 5)).size,(bytesRow ⟨l.toArray⟩ (grownCap w (⟨l.toArray⟩:ByteArray).size 0 5)).size+1))
 rw[Nat.zero_add]
 refine cell_of (w:=World.alloc _ _) hn j ?_
 have hj:j<l.length:=by
  rcases Nat.lt_or_ge j l.length with h|h
  ·exact h
  ·rw[List.getElem?_eq_none (by rw[ubs_length];exact h)] at hv;cases hv
 rw[ubs_get] at hv
 unfold bytesRow
 rw[Array.getElem?_append_left (by simpa using hj)]
 simpa[ub] using hv
theorem DataAt.of {w:World}{b c:Nat}{l:List UInt8}(h:BytesAt w b 0 l):DataAt w (.slice (some ⟨b,0,none⟩) l.length c) l:=.inr ⟨b,0,c,rfl,h⟩
def MetaEnd (w:World)(C m:Nat)(kind:UInt8)(name data:List UInt8)(gnu:Bool)(e:Ending)(w':World):Prop:=
 ∃v t,e=.returned v∧OwnB w' w.heap.size v t∧MetaE kind name data gnu t∧Kp (· =C) w w'∧Cho w' C (m+100)
theorem numIn_meta (kind:UInt8)(name:List UInt8)(n:Nat)(hn:n≤1099511627776):NumIn (metaH kind name n):=by
 refine⟨fun j hj=>?_,by simp[metaH,hd0],by simp[metaH,hd0]⟩
 match j,hj with
 |0,_=>simp[fv,metaH,hd0]
 |1,_=>simp[fv,metaH,hd0]
 |2,_=>simp[fv,metaH,hd0]
 |3,_=>simp[fv,metaH,hd0];omega
 |4,_=>simp[fv,metaH,hd0]
 |5,_=>simp[fv,metaH,hd0]
 |6,_=>simp[fv,metaH,hd0]
theorem block_any (w:World)(C m:Nat)(h:Hd)(rv:Value)(fm:Int)(gnu:Bool)(hf:if gnu then fm=3 else fm=1∨fm=2)(hC:Cho w C m)(hm:m+200≤1000000000000)(hi:NumIn h)(hnl:h.name.length≤1099511627776) :
  Calls Tryz.prog 76 #[.pointer (some ⟨C,0,none⟩), .agg (sRow h rv).toArray, .int .i64 fm] w (BlkEnd w C m h gnu):=by
 cases gnu with
 |true=>rw[if_pos rfl] at hf;subst hf;exact block_gnu w C m h rv hC hm hi
 |false=>rw[if_neg (by simp)] at hf;exact block_ustar w C m h rv fm hf hC hm hi hnl
theorem meta_any (w:World)(C m:Nat)(kind:UInt8)(name data:List UInt8)(fm:Int)(gnu:Bool)(hf:if gnu then fm=3 else fm=1∨fm=2)(hC:Cho w C m)(hm:m+200≤1000000000000)(hd:data.length≤1099511627776)(hnl:name.length≤1099511627776) :
  Calls Tryz.prog 71 #[.pointer (some ⟨C,0,none⟩), .int .u8 kind.toNat, .string ⟨name.toArray⟩, .string ⟨data.toArray⟩, .int .i64 fm] w (MetaEnd w C m kind name data gnu):=by
 have HB:=hid (block_any w C m (metaH kind name data.length) (.slice none 0 0) fm gnu hf hC hm (numIn_meta kind name _ hd) hnl)
 have hCw:C<w.heap.size:=by obtain⟨nv,a,h1,_⟩:=hC;exact lt_of h1
 clear hC hf
 go_enter Tryz.func71,Tryz.ntmps71
 go_wp2_with fail
 refine HB.out.mono ?_
 rintro e w1 ⟨l,rfl,hrow,hblk,hk1,hc1⟩
 have hl:=hblk.len
 obtain⟨c2,w2,hr2,hb2,hk2⟩:=conv_str_ex w1 data
 have hrow2:=hk2.heap hrow (fun h=>h)
 have HF:=hid (filled_any w2 (.slice (some ⟨w1.heap.size,0,none⟩) data.length c2) data (DataAt.of hb2) hd)
 have HROW:=hid hrow2
 have HBLK:=hid hblk
 have HK:=hid (hk1.then hk2 (fun _ _ h=>h.elim))
 have HC:=hid (hc1.keep hk2 (fun _ h=>h.elim) (Nat.le_refl _))
 clear hrow hblk hk1 hc1 hb2 hrow2 hk2 HB
 go_wp2_with fail
 refine HF.out.mono ?_
 rintro e w3 ⟨v3,rfl,hown3,hk3⟩
 have hown1:OwnB w3 w.heap.size (.slice (some ⟨w.heap.size+1,0,none⟩) 512 512) l:=by
  have:=RowB.own (base:=w.heap.size) (hk3.heap HROW.out (fun h=>h)) (by omega) (by rw[hl];decide)
  rwa[hl] at this
 obtain⟨A3,c3,rfl⟩:=hown3.shape
 have hda:DataAt w3 (.slice A3 (filledL data).length c3) (filledL data):=by
  rcases hown3.2 with ⟨h1,h2⟩|⟨g,cap,cur,h1,h2,h3,h4,h5,h6,h7⟩
  ·exact .inl ⟨.inl h1,List.eq_nil_of_length_eq_zero h2⟩
  ·refine .inr ⟨g,0,cap,h1,fun j u hu=>?_⟩
   rw[Nat.zero_add]
   refine cell_of h3 j ?_
   rw[←h7,Nat.mul_one,List.getElem?_take] at hu
   split at hu
   ·simpa using hu
   ·cases hu
 have hfl:(filledL data).length≤1099511628800:=by rw[filledL_len];have:=padN_lt data.length;omega
 have hsz3:w.heap.size≤w3.heap.size:=Nat.le_trans HK.out.size hk3.size
 obtain⟨v4,w4,hr4,hown4,hk4,hx4⟩:=app_data_ex w3 27 w.heap.size _ _ l (filledL data) hown1 hda (by rw[hl];omega) hsz3
 have FIN:Hid (MetaEnd w C m kind name data gnu (.returned v4) w4):=by
  have hc3:=HC.out.keep hk3 (fun _ h=>h.elim) (Nat.le_refl _)
  exact⟨v4,_,rfl,hown4, .mk l HBLK.out,(HK.out.then hk3 (fun _ _ h=>h.elim)).then hk4 (fun i hi e=>by have e:some i=some (w.heap.size+1):=e;injection e with e;omega),hc3.keep hk4 (fun i e=>by have e:some i=some (w.heap.size+1):=e;injection e with e;omega) (Nat.le_refl _)⟩
 have HR4:=hid hr4
 clear hr4 hown4 hk4 hx4 hda hown1 hown3 hk3
 dsimp only
 rename_i K h
 refine h _ _ ?_
 clear h
 go_wp2_with (at_builtin;refine Lib.wpList_append_run _ rfl _ _ _ _ rfl _ _ rfl rfl _ _ HR4.out ?_)
 go_ret
 exact FIN.out
def spB (l:List UInt8):Bool:=(List.range l.length).any (splitB l)
theorem spB_iff (l:List UInt8):spB l=true↔Splits l:=by
 unfold spB
 rw[List.any_eq_true]
 constructor
 ·rintro⟨i,_,h⟩;exact⟨_,_,(splitB_parts h).1⟩
 ·rintro⟨pre,nm,h⟩
  have:=parts_splitB h
  exact⟨pre.length,List.mem_range.2 (splitB_parts this).2.2.2,this⟩
theorem splits_any (w:World)(l:List UInt8)(hl:l.length≤1099511627776):Calls Tryz.prog 86 #[.string ⟨l.toArray⟩] w fun e w'=>e=.returned (.bool (spB l))∧w'=w:=by
 have HS:=fun W i (h:i≤281474976710656)=>hid (split_any W l i (by omega) h)
 unfold strv at HS
 go_enter Tryz.func86,Tryz.ntmps86
 go_wp2_with fail
 go_loopg [3,6] l.length (fun g s3 s6 wr=>∃i:Nat,i+g=l.length∧s6=.int .i64 i∧Hid (∀j,j<i→splitB l j=false)∧wr=w)
 case atStart=>exact⟨0,by omega,rfl,fun j hj=>by omega,rfl⟩
 case round=>
  obtain⟨i,hi,rfl,hno,rfl⟩:=hrel
  by_cases hlt:i<l.length
  ·have HSI:=fun W=>HS W i (by omega)
   obtain⟨β,hβ⟩:∃β,splitB l i=β:=⟨_,rfl⟩
   rw[hβ] at HSI
   clear HS
   cases β with
   |true=>
    have FIN:Hid (spB l=true):=by show _=_;exact List.any_eq_true.2 ⟨i,List.mem_range.2 hlt,hβ⟩
    clear hno hβ
    go_wp2_with fail
    refine(HSI _).out.mono ?_
    rintro e w2 ⟨rfl,rfl⟩
    go_wp2_with fail
    go_ret
    rw[FIN.out]
    exact⟨rfl,rfl⟩
   |false=>
    have NX:Hid (∀j,j<i+1→splitB l j=false):=fun j hj=>by
     rcases Nat.lt_or_ge j i with h|h
     ·exact hno.out j h
     ·obtain rfl:j=i:=by omega
      exact hβ
    clear hno hβ
    go_wp2_with fail
    refine(HSI _).out.mono ?_
    rintro e w2 ⟨rfl,rfl⟩
    go_wp2_with fail
    go_roundg (gk-1)
    case measure=>omega
    case rel=>exact⟨i+1,by omega,by simp,NX,rfl⟩
  ·obtain rfl:i=l.length:=by omega
   have FIN:Hid (spB l=false):=by
    show _=_
    rw[spB,List.any_eq_false]
    intro j hj
    rw[hno.out j (List.mem_range.1 hj)]
    simp
   clear hno HS
   go_wp2_with fail
   go_ret
   rw[FIN.out]
   exact⟨rfl,rfl⟩
structure TldL (w0:World)(C m:Nat)(h:Hd)(rv:Value)(l:List Rec)(g cap:Nat)(w:World):Prop where
 st:TldSt w0 C m h rv l w
 lv:w.heap[w0.heap.size+2]?=some (.cells #[.slice (some ⟨g,0,none⟩) l.length cap] 43 (0,0))
 own:OwnR 136 w (w0.heap.size+3) (.slice (some ⟨g,0,none⟩) l.length cap) l
theorem TldSt.open {w0 w:World}{C m:Nat}{h:Hd}{rv:Value}{l:List Rec}(s:TldSt w0 C m h rv l w)(hl:l≠[]):∃g cap,TldL w0 C m h rv l g cap w:=by
 obtain⟨v,h1,h2⟩:=s.lv
 rcases h2.shape with ⟨_,e⟩|⟨g,cap,rfl,_⟩
 ·exact absurd e hl
 ·exact⟨g,cap,s,h1,h2⟩
theorem TldL.set {w0 w:World}{C m g cap i:Nat}{h:Hd}{rv:Value}{l:List Rec}(s:TldL w0 C m h rv l g cap w)(hC:C<w0.heap.size)(hi:i<l.length)(r:Rec) :
  TldL w0 C m h rv (l.set i r) g cap ((w.setCell ⟨g,i*2,none⟩ (.string ⟨r.1.toArray⟩)).setCell ⟨g,i*2+1,none⟩ (.string ⟨r.2.toArray⟩)):=by
 have hb:=s.own.block (b:=g) rfl
 have k:Kp (· =g) w ((w.setCell ⟨g,i*2,none⟩ (.string ⟨r.1.toArray⟩)).setCell ⟨g,i*2+1,none⟩ (.string ⟨r.2.toArray⟩)):=
  Kp.setCell (S:=(· =g)) (p:=⟨g,i*2+1,none⟩) (Kp.setCell (S:=(· =g)) (p:=⟨g,i*2,none⟩) (Kp.refl _ w) (.inl rfl) _) (.inl rfl) _
 have o:=s.own.set hi r
 have hl:(l.set i r).length=l.length:=List.length_set
 have lv':=k.heap s.lv (by omega)
 rw[←hl] at o lv'
 exact⟨⟨s.st.cho.keep k (fun j hj=>by omega) (Nat.le_refl _),k.heap s.st.cp (by omega),k.heap s.st.hdr (by omega),⟨_,lv',o⟩,s.st.kp.then k (fun j hj e=>by omega)⟩,lv',o⟩
theorem TldL.c0 {w0 w:World}{C m g cap i:Nat}{h:Hd}{rv:Value}{l:List Rec}{r:Rec}(s:TldL w0 C m h rv l g cap w)(hr:l[i]?=some r):w.cell? ⟨g,i*2,none⟩=some (.string ⟨r.1.toArray⟩):=s.own.cell0 hr
theorem TldL.c1 {w0 w:World}{C m g cap i:Nat}{h:Hd}{rv:Value}{l:List Rec}{r:Rec}(s:TldL w0 C m h rv l g cap w)(hr:l[i]?=some r):w.cell? ⟨g,i*2+1,none⟩=some (.string ⟨r.2.toArray⟩):=s.own.cell1 hr
theorem swap_perm (l:List Rec)(i k:Nat)(hi:i<l.length)(hk:k<l.length):((l.set i l[k]).set k l[i]).Perm l:=List.set_set_perm hi hk
theorem when_any (w:World)(b:Bool):Calls Tryz.prog 85 #[.bool b] w fun e w'=>e=.returned (.int .i64 (if b then 1 else 2))∧w'=w:=by
 cases b
 ·go_enter Tryz.func85,Tryz.ntmps85
  go_wp2_with fail
  go_ret
  exact⟨rfl,rfl⟩
 ·go_enter Tryz.func85,Tryz.ntmps85
  go_wp2_with fail
  go_ret
  exact⟨rfl,rfl⟩
def slashB (l:List UInt8):Bool:=l.getLast?==some 47
theorem slashed_any (w:World)(l:List UInt8)(hl:l.length≤1099511627776):Calls Tryz.prog 83 #[.string ⟨l.toArray⟩] w fun e w'=>e=.returned (.bool (slashB l))∧w'=w:=by
 rcases List.eq_nil_or_concat l with rfl|⟨p,c,e0⟩
 ·go_enter Tryz.func83,Tryz.ntmps83
  go_wp2_with fail
  go_ret
  exact⟨rfl,rfl⟩
 ·rw[List.concat_eq_append] at e0
  subst e0
  have hs:Hid (slashB (p++[c])=(c==47)):=by show _=_;unfold slashB;rw[List.getLast?_concat];rfl
  have hlt:p.length<(p++[c]).length:=by simp
  have hg:(p++[c])[p.length]=c:=by simp
  have e:((p++[c]).length:Int)-1=(p.length:Int):=by simp
  have hE:(p++[c]).isEmpty=false:=by cases p<;>rfl
  rw[hs.out]
  generalize p++[c]=l at *
  clear hs
  revert hg hlt e
  generalize p.length=k
  intro hlt hg e
  have h0:(0:Int)≤(k:Int):=by omega
  have h1:(k:Int)<(l.length:Int):=by omega
  by_cases hc:c=47
  ·have h2':((((⟨l.toArray⟩:ByteArray)[k]'hlt).toNat:Int)==47)=true:=by show ((l[k].toNat:Int)==47)=true;rw[hg,hc];rfl
   subst hc
   clear hg
   go_enter Tryz.func83,Tryz.ntmps83
   go_wp2_with fail
   go_ret
   exact⟨rfl,rfl⟩
  ·have h2':((((⟨l.toArray⟩:ByteArray)[k]'hlt).toNat:Int)==47)=false:=by
    show ((l[k].toNat:Int)==47)=false
    rw[hg,beq_eq_false_iff_ne]
    intro e
    exact hc (UInt8.toNat_inj.mp (by show c.toNat=47;omega))
   have hcb:(c==47)=false:=by rw[beq_eq_false_iff_ne];exact hc
   rw[hcb]
   clear hg hc hcb
   go_enter Tryz.func83,Tryz.ntmps83
   go_wp2_with fail
   go_ret
   exact⟨rfl,rfl⟩
theorem odd_any (w:World)(s n:Int):Calls Tryz.prog 106 #[.agg #[.int .i64 s, .int .i64 n]] w fun e w'=>(∃b,e=.returned (.bool b)∧(b=false→¬odd s n))∧Kp (fun _=>False) w w':=by
 obtain⟨b1,h1⟩:∃b,(s== -62135596800)=b:=⟨_,rfl⟩
 obtain⟨b2,h2⟩:∃b,(n==0)=b:=⟨_,rfl⟩
 obtain⟨b3,h3⟩:∃b,decide (n<0)=b:=⟨_,rfl⟩
 obtain⟨b4,h4⟩:∃b,decide ((999999999:Int)<n)=b:=⟨_,rfl⟩
 have F:Hid ((b1&&b2||b3||b4)=false→¬odd s n):=by
  show _→_
  subst h1 h2 h3 h4
  intro hf ho
  simp only[Bool.or_eq_false_iff,Bool.and_eq_false_iff,beq_eq_false_iff_ne,decide_eq_false_iff_not] at hf
  unfold odd at ho
  omega
 cases b1<;>cases b2<;>cases b3<;>cases b4<;>(
  go_enter Tryz.func106,Tryz.ntmps106
  go_wp2_with fail
  go_ret
  exact⟨⟨_,rfl,fun h=>by first|exact F.out rfl|exact absurd h (by decide)⟩,(Kp.refl _ _).alloc _⟩)
def nulB (l:List UInt8):Bool:=l.any (· ==0)
theorem nulB_no {l:List UInt8}(h:nulB l=false):NoNul l:=fun c hc e=>by
 subst e
 have:=List.any_eq_false.1 h _ hc
 simp at this
theorem hasNul_any (w:World)(l:List UInt8)(hl:l.length≤281474976710656):Calls Tryz.prog 104 #[.string ⟨l.toArray⟩] w fun e w'=>e=.returned (.bool (nulB l))∧w'=w:=by
 go_enter Tryz.func104,Tryz.ntmps104
 go_wp2_with fail
 go_loopg [3,6] l.length (fun g s3 s6 wr=>∃(i:Nat),i+g=l.length∧s6=.int .i64 i∧Hid (nulB (l.take i)=false)∧wr=w)
 case atStart=>exact⟨0,by omega,rfl,rfl,rfl⟩
 case round=>
  obtain⟨i,hi,rfl,ha,rfl⟩:=hrel
  by_cases hlt:i<l.length
  ·by_cases h2:l[i]=0
   ·have hbad:Hid (nulB l=true):=by
     show _=_
     exact List.any_eq_true.2 ⟨_,List.getElem_mem hlt,by rw[h2];rfl⟩
    have h2':((((⟨l.toArray⟩:ByteArray)[i]'hlt).toNat:Int)==0)=true:=by show ((l[i].toNat:Int)==0)=true;rw[h2];rfl
    clear h2
    go_wp2_with fail
    go_ret
    rw[hbad.out]
    exact⟨rfl,rfl⟩
   ·have hok:Hid (nulB (l.take (i+1))=false):=by
     show _=_
     unfold nulB
     rw[List.take_succ_eq_append_getElem hlt,List.any_append,show (l.take i).any (· ==0)=false from ha.out]
     simp[h2]
    have h2':((((⟨l.toArray⟩:ByteArray)[i]'hlt).toNat:Int)==0)=false:=by
     show ((l[i].toNat:Int)==0)=false
     rw[beq_eq_false_iff_ne]
     intro e
     exact h2 (UInt8.toNat_inj.mp (by simpa using e))
    clear h2
    go_wp2_with fail
    go_roundg (gk-1)
    case measure=>omega
    case rel=>exact⟨i+1,by omega,by simp,hok,rfl⟩
  ·obtain rfl:i=l.length:=by omega
   go_wp2_with fail
   go_ret
   have:=ha.out
   rw[List.take_length] at this
   rw[this]
   exact⟨rfl,rfl⟩
theorem ext_list (l:List UInt8)(a b:Nat):(⟨l.toArray⟩:ByteArray).extract a b=⟨((l.drop a).take (b-a)).toArray⟩:=by
 rw[Lib.extract_eq]
theorem sparseKey_any (w:World)(l:List UInt8)(hl:l.length≤281474976710656):Calls Tryz.prog 103 #[.string ⟨l.toArray⟩] w fun e w'=>(∃b,e=.returned (.bool b)∧(b=false→¬kSparse <+: l))∧w'=w:=by
 by_cases hd:11≤l.length
 ·have hd1:(11:Int)≤(l.length:Int):=by omega
  have hd2:decide ((11:Int)≤(l.length:Int))=true:=decide_eq_true hd1
  have he:(⟨l.toArray⟩:ByteArray).extract 0 11=⟨(l.take 11).toArray⟩:=by rw[ext_list];rfl
  obtain⟨β,hβ⟩:∃β,(l.take 11==[71,78,85,46,115,112,97,114,115,101,46])=β:=⟨_,rfl⟩
  have F:Hid (β=false→¬kSparse <+: l):=by
   show _→_
   rintro rfl ⟨t,rfl⟩
   rw[show (kSparse++t).take 11=kSparse from by rw[List.take_append_of_le_length (by decide)];rfl] at hβ
   exact absurd hβ (by decide)
  obtain⟨q,hq⟩:∃q,l.take 11=q:=⟨_,rfl⟩
  rw[hq] at he hβ
  clear hq
  go_enter Tryz.func103,Tryz.ntmps103
  go_wp2_with fail
  go_ret
  exact⟨⟨_,rfl,F.out⟩,rfl⟩
 ·have hd2:decide ((11:Int)≤(l.length:Int))=false:=decide_eq_false (by omega)
  have F:Hid (¬kSparse <+: l):=by
   show ¬_
   rintro⟨t,rfl⟩
   apply hd
   rw[List.length_append]
   show 11≤11+_
   omega
  clear hd
  go_enter Tryz.func103,Tryz.ntmps103
  go_wp2_with fail
  go_ret
  exact⟨⟨_,rfl,fun _=>F.out⟩,rfl⟩
theorem cutS_any (w:World)(l:List UInt8)(c:UInt8)(hl:l.length≤281474976710656):Calls Tryz.prog 138 #[.string ⟨l.toArray⟩, .int .u8 c.toNat] w fun e w'=>
  ((∃a b,l=a++c::b∧e=.returned (.tuple #[.string ⟨a.toArray⟩, .string ⟨b.toArray⟩, .bool true]))∨e=.returned (.tuple #[.string ⟨l.toArray⟩, .string ⟨#[]⟩, .bool false]))∧Kp (fun _=>False) w w':=by
 go_enter Tryz.func138,Tryz.ntmps138
 go_wp2_with fail
 go_loopg [7,10] l.length (fun g s7 s10 wr=>∃(i:Nat),i+g=l.length∧s10=.int .i64 i∧wr=w)
 case atStart=>exact⟨0,by omega,rfl,rfl⟩
 case round=>
  obtain⟨i,hi,rfl,rfl⟩:=hrel
  by_cases hlt:i<l.length
  ·by_cases h2:l[i]=c
   ·have h2':((((⟨l.toArray⟩:ByteArray)[i]'hlt).toNat:Int)==(c.toNat:Int))=true:=by show ((l[i].toNat:Int)==_)=true;rw[h2];simp
    have e1:(⟨l.toArray⟩:ByteArray).extract 0 i=⟨(l.take i).toArray⟩:=by rw[ext_list];rfl
    have e2:(⟨l.toArray⟩:ByteArray).extract (i+1) l.length=⟨(l.drop (i+1)).toArray⟩:=by
     rw[ext_list,List.take_of_length_le (by rw[List.length_drop];omega)]
    have FIN:Hid (l=l.take i++c::l.drop (i+1)):=by
     show _=_
     rw[←h2,←List.drop_eq_getElem_cons hlt,List.take_append_drop]
    have h3:(0:Int)≤(i:Int):=by omega
    have h4:(i:Int)≤(l.length:Int):=by omega
    have h5:(0:Int)≤(i:Int)+1:=by omega
    have h6:(i:Int)+1≤(l.length:Int):=by omega
    clear h2
    go_wp2_with fail
    go_quiet (fail)
    go_wp2_with fail
    go_ret3
    refine⟨.inl ⟨_,_,FIN.out,?_⟩,(Kp.refl _ _).drewN _⟩
    first
     |rfl
     |(rw[e1,e2])
   ·have h2':((((⟨l.toArray⟩:ByteArray)[i]'hlt).toNat:Int)==(c.toNat:Int))=false:=by
     show ((l[i].toNat:Int)==_)=false
     rw[beq_eq_false_iff_ne]
     intro e
     exact h2 (UInt8.toNat_inj.mp (by omega))
    clear h2
    go_wp2_with fail
    go_roundg (gk-1)
    case measure=>omega
    case rel=>exact⟨i+1,by omega,by simp,rfl⟩
  ·obtain rfl:i=l.length:=by omega
   go_wp2_with fail
   go_ret3
   exact⟨.inr rfl,Kp.refl _ _⟩
def setT (h:Hd)(t:UInt8):Hd:={h with typ:=t}
theorem sRow_setT (h:Hd)(rv:Value)(t:UInt8):(sRow h rv).toArray.setIfInBounds 0 (.int .u8 (t.toNat:Int))=(sRow (setT h t) rv).toArray:=rfl
def promH (h:Hd):Hd:=if h.typ=0 then setT h (if slashB h.name then 53 else 48) else h
theorem two_new (w:World)(x z:Array Value)(T U:TypeId):∃wB,(w.alloc (.cells x T)).alloc (.cells z U)=wB∧wB.heap[w.heap.size]?=some (.cells x T (0,0))∧wB.heap[w.heap.size+1]?=some (.cells z U (0,0))∧Kp (fun _=>False) w wB∧wB.heap.size=w.heap.size+2:=by
 have s1:(w.alloc (.cells x T)).heap.size=w.heap.size+1:=by show (w.heap.push _).size=_;simp
 have h1:=heap_new (w.alloc (.cells x T)) (.cells z U)
 rw[s1] at h1
 refine⟨_,rfl,heap_alloc (heap_new w _) _,h1,((Kp.refl _ _).alloc _).alloc _,?_⟩
 show ((w.alloc _).heap.push _).size=_
 rw[Array.size_push,s1]
theorem code_two {P:Program}{c:Code}{Q:Exit→Act→World→Prop}{a:Act}{w:World}{x z:Array Value}{T U:TypeId}
  (H:∀wB,wB.heap[w.heap.size]?=some (.cells x T (0,0))→wB.heap[w.heap.size+1]?=some (.cells z U (0,0))→Kp (fun _=>False) w wB→wB.heap.size=w.heap.size+2→Code.wp P c Q a wB):Code.wp P c Q a ((w.alloc (.cells x T)).alloc (.cells z U)):=by
 obtain⟨wB,e,h1,h2,h3,h4⟩:=two_new w x z T U
 rw[e]
 exact H wB h1 h2 h3 h4
theorem code_one {P:Program}{c:Code}{Q:Exit→Act→World→Prop}{a:Act}{w:World}{x:Array Value}{T:TypeId}
  (H:∀wB,wB.heap[w.heap.size]?=some (.cells x T (0,0))→Kp (fun _=>False) w wB→wB.heap.size=w.heap.size+1→Code.wp P c Q a wB):Code.wp P c Q a (w.alloc (.cells x T)):=
 H _ (heap_new w _) ((Kp.refl _ _).alloc _) (by show (w.heap.push _).size=_;simp)
theorem one_sRow {h:Hd}{rv:Value}(hr:rv.oneCell'=true):((sRow h rv).toArray.all fun x=>x.oneCell')=true:=by
 simp[sRow,strv,Value.oneCell']
 exact hr
theorem one_recs {w:World}{C:Nat}{rv:Value}{l:List Rec}(h:RecsAt w C rv l):rv.oneCell'=true:=by
 obtain⟨A,c,rfl⟩:=h.shape
 rfl
set_option maxHeartbeats 1600000 in
theorem promoted_any (w:World)(q:Hd)(rv:Value)(hr:rv.oneCell'=true)(hnl:q.name.length≤1099511627776) :
  Calls Tryz.prog 60 #[.agg (sRow q rv).toArray] w fun e w'=>e=.returned (.agg (sRow (promH q) rv).toArray)∧Kp (fun _=>False) w w':=by
 have HSL:=fun W=>hid (slashed_any W q.name hnl)
 have fin:∀(h':Hd) (wC:World) (z:Array Value),wC.heap[w.heap.size]?=some (.cells (sRow h' rv).toArray 45 (0,0))→wC.heap[w.heap.size+1]?=some (.cells z 45 (0,0))→Kp (fun _=>False) w wC →
   (wC.setRow (w.heap.size+1) (sRow h' rv).toArray).heap[w.heap.size+1]?=some (.cells (sRow h' rv).toArray 45 (0,0))∧Kp (fun _=>False) w (wC.setRow (w.heap.size+1) (sRow h' rv).toArray):=fun h' wC z h1 h2 k=>by
  refine⟨?_,k.setRow (.inr (by omega)) _⟩
  unfold World.setRow
  simp only[Array.getElem?_modify,h2,if_pos rfl]
  rfl
 have FN:=hid fin
 clear fin
 obtain⟨hv,hhv⟩:∃hv:Array Value,(sRow q rv).toArray=hv:=⟨_,rfl⟩
 rw[hhv]
 by_cases ht:q.typ=0
 ·obtain⟨β,hβ⟩:∃β,slashB q.name=β:=⟨_,rfl⟩
  rw[hβ] at HSL
  have hp:promH q=setT q (if β then 53 else 48):=by unfold promH;rw[if_pos ht,hβ]
  rw[hp]
  go_enter Tryz.func60,Tryz.ntmps60
  go_upto_region 1 with fail
  refine code_two ?_
  rintro wB g1 g2 kB sB
  rw[←hhv] at g1
  have c0:wB.cell? ⟨w.heap.size,0,none⟩=some (.int .u8 0):=by
   have:=cell_of g1 0 (v:=.int .u8 (q.typ.toNat:Int)) rfl
   rw[ht] at this
   exact this
  have z0:=free_of g1 0
  have g3:=heap_set g1 0 (.int .u8 ((48:UInt8).toNat:Int))
  rw[sRow_setT] at g3
  have g4:=heap_set_ne g2 ⟨w.heap.size,0,none⟩ (.int .u8 ((48:UInt8).toNat:Int)) (by show ¬w.heap.size+1=w.heap.size;omega)
  have k4:Kp (fun _=>False) w (wB.setCell ⟨w.heap.size,0,none⟩ (.int .u8 ((48:UInt8).toNat:Int))):=kB.setCell (.inr (Nat.le_refl _)) _
  have G3:=hid g3
  have G4:=hid g4
  have K4:=hid k4
  clear hhv ht g1 g3 g2 g4 k4 kB hβ
  go_upto_region 3 with fail
  refine(show Code.wp _ _ _ _ (wB.setCell ⟨w.heap.size,0,none⟩ (.int .u8 ((48:UInt8).toNat:Int))) from ?_)
  generalize wB.setCell ⟨w.heap.size,0,none⟩ (.int .u8 ((48:UInt8).toNat:Int))=wC at G3 G4 K4 ⊢
  have n1:wC.cell? ⟨w.heap.size,1,none⟩=some (.string ⟨q.name.toArray⟩):=cell_of G3.out 1 rfl
  have z1:=free_of G3.out 0
  clear c0 z0
  go_wp2_with fail
  refine(HSL wC).out.mono ?_
  rintro e w1 ⟨rfl,rfl⟩
  cases β with
  |false=>
   go_upto_region 5 with fail
   go_step;refine wpList_load_row rfl 45 (.tmp 1) rfl w.heap.size rfl 45 (sRow (setT q 48) rv).toArray (0,0) _ G3.out Tryz.underlying45 rfl (by kernel_rfl) ?_
   have FIN:=hid (FN.out (setT q 48) w1 _ G3.out G4.out K4.out)
   refine wpList_store_row rfl 45 (.tmp 2) (.tmp 11) rfl (w.heap.size+1) (sRow (setT q 48) rv).toArray rfl rfl 45 _ G4.out (by kernel_rfl) (by rfl) (one_sRow hr) ?_
   clear G3 G4 K4 FN
   go_wp2_with fail
   exact bodyPost_ret (results_cell_row rfl _ _ (w.heap.size+1) 45 (sRow (setT q 48) rv).toArray (0,0) _ rfl FIN.out.1 Tryz.underlying45 rfl (by kernel_rfl)) rfl ⟨rfl,FIN.out.2⟩
  |true=>
   have g3:=heap_set G3.out 0 (.int .u8 ((53:UInt8).toNat:Int))
   rw[sRow_setT] at g3
   have g4:=heap_set_ne G4.out ⟨w.heap.size,0,none⟩ (.int .u8 ((53:UInt8).toNat:Int)) (by show ¬w.heap.size+1=w.heap.size;omega)
   have k4:Kp (fun _=>False) w (w1.setCell ⟨w.heap.size,0,none⟩ (.int .u8 ((53:UInt8).toNat:Int))):=K4.out.setCell (.inr (Nat.le_refl _)) _
   have c0:w1.cell? ⟨w.heap.size,0,none⟩=some (.int .u8 48):=cell_of G3.out 0 rfl
   clear G3 G4 K4 n1
   have G3:Hid ((w1.setCell ⟨w.heap.size,0,none⟩ (.int .u8 ((53:UInt8).toNat:Int))).heap[w.heap.size]?=some (.cells (sRow (setT q 53) rv).toArray 45 (0,0))):=g3
   have G4:=hid g4
   have K4:=hid k4
   clear g3 g4 k4
   go_upto_region 5 with fail
   refine(show Code.wp _ _ _ _ (w1.setCell ⟨w.heap.size,0,none⟩ (.int .u8 ((53:UInt8).toNat:Int))) from ?_)
   generalize w1.setCell ⟨w.heap.size,0,none⟩ (.int .u8 ((53:UInt8).toNat:Int))=wD at G3 G4 K4 ⊢
   clear c0 z1
   go_step;refine wpList_load_row rfl 45 (.tmp 1) rfl w.heap.size rfl 45 (sRow (setT q 53) rv).toArray (0,0) _ G3.out Tryz.underlying45 rfl (by kernel_rfl) ?_
   have FIN:=hid (FN.out (setT q 53) wD _ G3.out G4.out K4.out)
   refine wpList_store_row rfl 45 (.tmp 2) (.tmp 11) rfl (w.heap.size+1) (sRow (setT q 53) rv).toArray rfl rfl 45 _ G4.out (by kernel_rfl) (by rfl) (one_sRow hr) ?_
   clear G3 G4 K4 FN
   go_wp2_with fail
   exact bodyPost_ret (results_cell_row rfl _ _ (w.heap.size+1) 45 (sRow (setT q 53) rv).toArray (0,0) _ rfl FIN.out.1 Tryz.underlying45 rfl (by kernel_rfl)) rfl ⟨rfl,FIN.out.2⟩
 ·have hp:promH q=q:=if_neg ht
  rw[hp]
  have hne:((q.typ.toNat:Int)==0)=false:=by
   rw[beq_eq_false_iff_ne]
   intro e
   exact ht (UInt8.toNat_inj.1 (by show q.typ.toNat=0;omega))
  go_enter Tryz.func60,Tryz.ntmps60
  go_upto_region 1 with fail
  refine code_two ?_
  rintro wB g1 g2 kB sB
  rw[←hhv] at g1
  have c0:wB.cell? ⟨w.heap.size,0,none⟩=some (.int .u8 (q.typ.toNat:Int)):=cell_of g1 0 rfl
  have G3:=hid g1
  have G4:=hid g2
  have K4:=hid kB
  clear hp hhv ht g1 g2 kB HSL
  go_upto_region 5 with fail
  go_step;refine wpList_load_row rfl 45 (.tmp 1) rfl w.heap.size rfl 45 (sRow q rv).toArray (0,0) _ G3.out Tryz.underlying45 rfl (by kernel_rfl) ?_
  have FIN:=hid (FN.out (q) wB _ G3.out G4.out K4.out)
  refine wpList_store_row rfl 45 (.tmp 2) (.tmp 11) rfl (w.heap.size+1) (sRow q rv).toArray rfl rfl 45 _ G4.out (by kernel_rfl) (by rfl) (one_sRow hr) ?_
  clear G3 G4 K4 FN
  go_wp2_with fail
  exact bodyPost_ret (results_cell_row rfl _ _ (w.heap.size+1) 45 (sRow q rv).toArray (0,0) _ rfl FIN.out.1 Tryz.underlying45 rfl (by kernel_rfl)) rfl ⟨rfl,FIN.out.2⟩
structure SaneP (h:Hd):Prop where
 wt:weight h≤524288
 lo:0≤h.fmt
 hi:h.fmt≤3
 mod:¬odd h.ms h.mn
 acc:h.hasA=true→¬odd h.ats h.atn
 chg:h.hasC=true→¬odd h.cts h.ctn
def wsum (l:List Rec):Nat:=(l.map fun r=>r.1.length+r.2.length+24).sum
theorem wsum_snoc (l:List Rec)(r:Rec):wsum (l++[r])=wsum l+(r.1.length+r.2.length+24):=by unfold wsum;simp
theorem wsum_take (l:List Rec)(i:Nat):wsum (l.take i)≤wsum l:=by
 have:wsum l=wsum (l.take i)+wsum (l.drop i):=by
  unfold wsum
  rw[←List.sum_append,←List.map_append,List.take_append_drop]
 omega
def FalseEnd (P:Prop)(e:Ending):Prop:=∃b,e=.returned (.bool b)∧(b=false→P)
set_option maxHeartbeats 1600000 in
theorem strange_any (w:World)(h:Hd)(B:Nat)(rv:Value)(hra:RecsAt w B rv h.recs)(hB:B≤w.heap.size)(hw:weight h≤1099511627776) :
  Calls Tryz.prog 59 #[.agg (sRow h rv).toArray] w fun e w'=>Hid (FalseEnd (SaneP h) e)∧Kp (fun _=>False) w w':=by
 obtain⟨A,c,rfl⟩:=hra.shape
 have HRA:=hid hra
 obtain⟨n0,hn0⟩:∃n0,h.name.length+h.link.length+h.un.length+h.gn.length=n0:=⟨_,rfl⟩
 have hwt:weight h=n0+wsum h.recs:=by unfold weight wsum;rw[←hn0]
 have HWT:=hid hwt
 have l1:h.name.length≤1099511627776:=by omega
 have l2:h.link.length≤1099511627776:=by omega
 have l3:h.un.length≤1099511627776:=by omega
 have l4:h.gn.length≤1099511627776:=by omega
 have hsum:(h.name.length:Int)+(h.link.length:Int)+(h.un.length:Int)+(h.gn.length:Int)=(n0:Int):=by omega
 have hnb:n0≤1099511627776:=by omega
 have HN0:=hid hn0
 have hrl:h.recs.length≤1099511627776:=by
  have h1:∀l:List Rec,l.length≤wsum l:=fun l=>by
   induction l with
   |nil=>exact Nat.zero_le _
   |cons r l ih=>unfold wsum at ih ⊢;simp only[List.length_cons,List.map_cons,List.sum_cons];omega
  have:=h1 h.recs
  omega
 have HW:=hid hw
 obtain⟨hv,hhv⟩:∃hv:Array Value,(sRow h (.slice A h.recs.length c)).toArray=hv:=⟨_,rfl⟩
 rw[hhv]
 clear hra hwt hn0 hw
 go_enter Tryz.func59,Tryz.ntmps59
 go_upto_region 1 with fail
 refine code_one ?_
 intro wA gA kA sA
 rw[←hhv] at gA
 have c1:wA.cell? ⟨w.heap.size,1,none⟩=some (.string ⟨h.name.toArray⟩):=cell_of gA 1 rfl
 have c2:wA.cell? ⟨w.heap.size,2,none⟩=some (.string ⟨h.link.toArray⟩):=cell_of gA 2 rfl
 have c7:wA.cell? ⟨w.heap.size,7,none⟩=some (.string ⟨h.un.toArray⟩):=cell_of gA 7 rfl
 have c8:wA.cell? ⟨w.heap.size,8,none⟩=some (.string ⟨h.gn.toArray⟩):=cell_of gA 8 rfl
 have c19:wA.cell? ⟨w.heap.size,19,none⟩=some (.slice A h.recs.length c):=cell_of gA 19 rfl
 have LP:Hid (wA.heap[w.heap.size]?=some (.cells (sRow h (.slice A h.recs.length c)).toArray 45 (0,0))∧Kp (fun _=>False) w wA):=⟨gA,kA⟩
 clear hhv gA kA
 go_wp2_with fail
 clear c1 c2 c7 c8 c19 l1 l2 l3 l4
 go_loopg [3,5,24] h.recs.length (fun g s3 s5 s24 wr=>∃(i n:Nat),i+g=h.recs.length∧s24=.int .i64 i∧s3=.int .i64 n∧n≤2199023255552∧Hid (n=n0+wsum (h.recs.take i))∧Hid (wr.heap[w.heap.size]?=some (.cells (sRow h (.slice A h.recs.length c)).toArray 45 (0,0))∧Kp (fun _=>False) w wr))
 case atStart=>exact⟨0,n0,by omega,rfl,by first|rfl|(rw[hsum]),by omega,by rw[sE];rfl,LP⟩
 case round=>
  clear LP hsum
  obtain⟨i,n,hi,rfl,rfl,hnn,hne,hst⟩:=hrel
  by_cases hlt:i<h.recs.length
  ·obtain⟨x,hx⟩:∃x,h.recs[i]?=some x:=⟨_,List.getElem?_eq_getElem hlt⟩
   have hLr:RecsAt wr B (.slice A h.recs.length c) h.recs:=HRA.out.keep hst.out.2 (fun _ h=>h.elim)
   obtain⟨b,o,c',hA,hbC,x1,x2⟩:=hLr.get hx
   injection hA with hA1 hA2 hA3
   subst hA1 hA3
   have hxg:x=h.recs[i]:=by rw[List.getElem?_eq_getElem hlt] at hx;injection hx with hx;exact hx.symm
   have htk:h.recs.take (i+1)=h.recs.take i++[x]:=by rw[List.take_succ_eq_append_getElem hlt,hxg]
   have hsn:wsum (h.recs.take (i+1))=wsum (h.recs.take i)+(x.1.length+x.2.length+24):=by rw[htk,wsum_snoc]
   have hle:=wsum_take h.recs (i+1)
   have hb2:x.1.length+x.2.length≤1099511627776:=by have:=HWT.out;have:=HW.out;omega
   obtain⟨p,hp⟩:∃p,x.1.length=p:=⟨_,rfl⟩
   obtain⟨q,hq⟩:∃q,x.2.length=q:=⟨_,rfl⟩
   have NX:Hid (∃m:Nat,(n:Int)+((p:Int)+(q:Int)+24)=(m:Int)∧m≤2199023255552∧Hid (m=n0+wsum (h.recs.take (i+1)))):=⟨n+(p+q+24),by omega,by have:=HWT.out;have:=HW.out;have:=hne.out;omega,by show _=_;have:=hne.out;omega⟩
   have NW:∀O,Hid ((wr.alloc O).heap[w.heap.size]?=some (.cells (sRow h (.slice (some ⟨b,o,none⟩) h.recs.length c)).toArray 45 (0,0))∧Kp (fun _=>False) w (wr.alloc O)):=fun O=>⟨heap_alloc hst.out.1 O,hst.out.2.alloc O⟩
   rw[hp,hq] at hb2
   clear hA2 hLr hx hxg htk hst hsn hle hne
   go_wp2_with fail
   go_roundg (gk-1)
   case measure=>omega
   case rel=>
    obtain⟨m,h1,h2,h3⟩:=NX.out
    exact⟨i+1,m,by omega,by simp,by first|exact congrArg (Value.int .i64) h1|(simp only[hp,hq];exact congrArg (Value.int .i64) h1),h2,h3,NW _⟩
  ·obtain rfl:i=h.recs.length:=by omega
   have hnw:n=weight h:=by
    have h1:=hne.out
    rw[List.take_length] at h1
    have:=HWT.out
    omega
   have K:=hid hst.out.2
   have c20:wr.cell? ⟨w.heap.size,20,none⟩=some (.int .i64 h.fmt):=cell_of hst.out.1 20 rfl
   have c9:wr.cell? ⟨w.heap.size,9,none⟩=some (.int .i64 h.ms):=cell_of hst.out.1 9 rfl
   have c10:wr.cell? ⟨w.heap.size,10,none⟩=some (.int .i64 h.mn):=cell_of hst.out.1 10 rfl
   obtain⟨ba,ea⟩:∃b,h.hasA=b:=⟨_,rfl⟩
   obtain⟨bc,ec⟩:∃b,h.hasC=b:=⟨_,rfl⟩
   have c11:wr.cell? ⟨w.heap.size,11,none⟩=some (.bool ba):=ea▸cell_of hst.out.1 11 rfl
   have c12:wr.cell? ⟨w.heap.size,12,none⟩=some (.bool bc):=ec▸cell_of hst.out.1 12 rfl
   have ROW:=hid hst.out.1
   obtain⟨b1,e1⟩:∃b,decide ((524288:Int)<(n:Int))=b:=⟨_,rfl⟩
   obtain⟨b2,e2⟩:∃b,decide (h.fmt<0)=b:=⟨_,rfl⟩
   obtain⟨b3,e3⟩:∃b,decide ((3:Int)<h.fmt)=b:=⟨_,rfl⟩
   have F:Hid (b1=false→b2=false→b3=false→¬odd h.ms h.mn→(ba=true→¬odd h.ats h.atn)→(bc=true→¬odd h.cts h.ctn)→SaneP h):=by
    show _→_→_→_→_→_→_
    intro f1 f2 f3 f4 f5 f6
    subst f1 f2 f3
    simp only[decide_eq_false_iff_not] at e1 e2 e3
    exact⟨by omega,by omega,by omega,f4,fun e=>f5 (ea.symm.trans e),fun e=>f6 (ec.symm.trans e)⟩
   clear hst ea ec hne hnw
   cases b1 with
   |true=>
    go_wp2_with fail
    go_ret
    exact⟨⟨_,rfl,fun e=>by cases e⟩,K.out⟩
   |false=>
   cases b2 with
   |true=>
    go_wp2_with fail
    go_ret
    exact⟨⟨_,rfl,fun e=>by cases e⟩,K.out⟩
   |false=>
   cases b3 with
   |true=>
    go_wp2_with fail
    go_ret
    exact⟨⟨_,rfl,fun e=>by cases e⟩,K.out⟩
   |false=>
   go_wp2_with fail
   refine(odd_any wr h.ms h.mn).mono ?_
   rintro e w1 ⟨⟨o1,rfl,ho1⟩,k1⟩
   have K1:=hid (K.out.trans k1)
   cases o1 with
   |true=>
    go_wp2_with fail
    go_ret
    exact⟨⟨_,rfl,fun e=>by cases e⟩,K1.out⟩
   |false=>
   have F:=fun a b=>F.out (by first|rfl|trivial) (by first|rfl|trivial) (by first|rfl|trivial) (ho1 rfl) a b
   have R1:=hid (k1.heap ROW.out (fun h=>h))
   have d11:w1.cell? ⟨w.heap.size,11,none⟩=some (.bool ba):=k1.cell c11 (fun h=>h)
   have d12:w1.cell? ⟨w.heap.size,12,none⟩=some (.bool bc):=k1.cell c12 (fun h=>h)
   have d13:w1.cell? ⟨w.heap.size,13,none⟩=some (.int .i64 h.ats):=cell_of R1.out 13 rfl
   have d14:w1.cell? ⟨w.heap.size,14,none⟩=some (.int .i64 h.atn):=cell_of R1.out 14 rfl
   have d15:w1.cell? ⟨w.heap.size,15,none⟩=some (.int .i64 h.cts):=cell_of R1.out 15 rfl
   have d16:w1.cell? ⟨w.heap.size,16,none⟩=some (.int .i64 h.ctn):=cell_of R1.out 16 rfl
   have FH:=hid F
   clear F ho1 k1 c20 c9 c10 c11 c12 e1 e2 e3 ROW
   cases ba with
   |false=>
    cases bc with
    |false=>
     have F2:=hid (FH.out (fun e=>by cases e) (fun e=>by cases e))
     go_wp2_with fail
     go_ret
     exact⟨⟨_,rfl,fun _=>F2.out⟩,K1.out⟩
    |true=>
     go_wp2_with fail
     refine(odd_any w1 h.cts h.ctn).mono ?_
     rintro e w3 ⟨⟨o3,rfl,ho3⟩,k3⟩
     have K3:=hid (K1.out.trans k3)
     have F2:=hid (fun e=>FH.out (fun e=>by cases e) (fun _=>ho3 e))
     clear ho3 k3
     go_wp2_with fail
     go_ret
     exact⟨⟨_,rfl,F2.out⟩,K3.out⟩
   |true=>
    go_wp2_with fail
    refine(odd_any w1 h.ats h.atn).mono ?_
    rintro e w2 ⟨⟨o2,rfl,ho2⟩,k2⟩
    have K2:=hid (K1.out.trans k2)
    cases o2 with
    |true=>
     go_wp2_with fail
     go_ret
     exact⟨⟨_,rfl,fun e=>by cases e⟩,K2.out⟩
    |false=>
    have hA:=ho2 rfl
    have f12:w2.cell? ⟨w.heap.size,12,none⟩=some (.bool bc):=k2.cell d12 (fun h=>h)
    have f15:w2.cell? ⟨w.heap.size,15,none⟩=some (.int .i64 h.cts):=k2.cell d15 (fun h=>h)
    have f16:w2.cell? ⟨w.heap.size,16,none⟩=some (.int .i64 h.ctn):=k2.cell d16 (fun h=>h)
    have HA:=hid hA
    clear hA ho2 k2
    cases bc with
    |false=>
     have F2:=hid (FH.out (fun _=>HA.out) (fun e=>by cases e))
     go_wp2_with fail
     go_ret
     exact⟨⟨_,rfl,fun _=>F2.out⟩,K2.out⟩
    |true=>
     go_wp2_with fail
     refine(odd_any w2 h.cts h.ctn).mono ?_
     rintro e w3 ⟨⟨o3,rfl,ho3⟩,k3⟩
     have K3:=hid (K2.out.trans k3)
     have F2:=hid (fun e=>FH.out (fun _=>HA.out) (fun _=>ho3 e))
     clear ho3 k3
     go_wp2_with fail
     go_ret
     exact⟨⟨_,rfl,F2.out⟩,K3.out⟩
end Go.Proofs.YtgfcnjfmmjcodaaGreatDoor
