/- chooser.block of the specification, in GNU format. -/
import Derived.Test.YtgfcnjfmmjcodaaGreatDoorN22
set_option linter.all false
set_option maxRecDepth 100000
set_option maxHeartbeats 1000000
open Go.Lib (hid)
namespace Go.Proofs.YtgfcnjfmmjcodaaGreatDoor
open Go Go.RowKit
def AftG (h:Hd)(L6 L9:List UInt8):Prop:=∃L7 L8 fa fc,L7=splice L6 257 magicG∧L8=(if h.hasA then splice L7 345 fa else L7)∧(h.hasA=true→NumE true 12 h.ats fa)∧L9=(if h.hasC then splice L8 357 fc else L8)∧(h.hasC=true→NumE true 12 h.cts fc)
def CutG (w0:World)(C m:Nat)(h:Hd)(rv:Value)(L6:List UInt8)(w:World):Prop:=∃L9,AftG h L6 L9∧BlkSt w0 C (m+40) h rv L9 w
def CutA (w0:World)(C m:Nat)(h:Hd)(rv:Value)(L7:List UInt8)(w:World):Prop:=∃L8 fa,L8=(if h.hasA then splice L7 345 fa else L7)∧(h.hasA=true→NumE true 12 h.ats fa)∧BlkSt w0 C (m+34) h rv L8 w
def BlkEnd (w:World)(C m:Nat)(h:Hd)(gnu:Bool)(e:Ending)(w':World):Prop:=
 ∃l,e=.returned (.slice (some ⟨w.heap.size+1,0,none⟩) 512 512)∧RowB w' (w.heap.size+1) l∧BlkE h gnu l∧Kp (· =C) w w'∧Cho w' C (m+100)
set_option maxHeartbeats 1600000 in
theorem block_gnu (w:World)(C m:Nat)(h:Hd)(rv:Value)(hC:Cho w C m)(hm:m+200≤1000000000000)(hi:NumIn h) :
  Calls Tryz.prog 76 #[.pointer (some ⟨C,0,none⟩), .agg (sRow h rv).toArray, .int .i64 3] w (BlkEnd w C m h true):=by
 have hCw:C<w.heap.size:=by obtain⟨nv,a,h1,_⟩:=hC;exact lt_of h1
 have hk1:∀o,Kp (fun _=>False) w (w.alloc o):=fun o=>(Kp.refl _ _).alloc o
 have st0:∀o,o=Obj.cells (sRow h rv).toArray 45→BlkSt w C m h rv (List.replicate 512 0) ((w.alloc o).alloc (.cells (ubs (List.replicate 512 0)).toArray 5)):=by
  rintro o rfl
  have k2:=(hk1 (Obj.cells (sRow h rv).toArray 45)).alloc (.cells (ubs (List.replicate 512 0)).toArray 5)
  have r2:=heap_new (w.alloc (.cells (sRow h rv).toArray 45)) (.cells (ubs (List.replicate 512 0)).toArray 5)
  have hsz:(w.alloc (.cells (sRow h rv).toArray 45)).heap.size=w.heap.size+1:=by show (w.heap.push _).size=_;simp
  rw[hsz] at r2
  exact⟨hC.keep k2 (fun _ h=>h.elim) (Nat.le_refl _),r2,heap_alloc (heap_new w _) _,k2.mono (fun _ _ h=>h.elim),List.length_replicate⟩
 have hmk:∀w:World,(Instr.makeSlice 27 (.int .i64 512) (.int .i64 512)).run Tryz.prog w=.ok (.slice (some ⟨w.heap.size,0,none⟩) 512 512) (w.alloc (.cells (ubs (List.replicate 512 0)).toArray 5)):=fun w=>mk27 w 512 (by omega)
 have hs1:∀o,(w.alloc o).heap.size=w.heap.size+1:=fun o=>by show (w.heap.push _).size=_;simp
 have ST0:=fun o=>hid (st0 o)
 clear st0 hC hk1
 unfold sRow at ST0 ⊢
 unfold strv at ST0 ⊢
 go_enter Tryz.func76,Tryz.ntmps76
 go_upto_region 2 with fail
 refine(show Code.wp _ _ _ _ ((w.alloc (.cells (sRow h rv).toArray 45)).alloc (.cells (ubs (List.replicate 512 0)).toArray 5)) from ?_)
 have S:=(ST0 (.cells (sRow h rv).toArray 45)).out rfl
 generalize (w.alloc (.cells (sRow h rv).toArray 45)).alloc (.cells (ubs (List.replicate 512 0)).toArray 5)=w1 at S ⊢
 obtain⟨hv,hhv⟩:∃hv:Value,Value.agg #[.int .u8 (h.typ.toNat:Int), .string ⟨h.name.toArray⟩, .string ⟨h.link.toArray⟩, .int .i64 h.size, .int .i64 h.mode, .int .i64 h.uid, .int .i64 h.gid, .string ⟨h.un.toArray⟩, .string ⟨h.gn.toArray⟩, .int .i64 h.ms, .int .i64 h.mn, .bool h.hasA, .bool h.hasC, .int .i64 h.ats, .int .i64 h.atn, .int .i64 h.cts, .int .i64 h.ctn, .int .i64 h.maj, .int .i64 h.min,rv, .int .i64 h.fmt]=hv:=⟨_,rfl⟩
 rw[hhv]
 clear hhv
 have c1:w1.cell? ⟨w.heap.size,1,none⟩=some (.string ⟨h.name.toArray⟩):=cell_of S.hdr 1 rfl
 clear ST0 hmk hs1
 obtain⟨w2,hr2,hk2,hb2⟩:=copy_str_ex w1 3 (w.heap.size+1) 0 100 512 h.name _ S.row (by rw[S.len];omega)
 have S2:=S.copyTo hCw hk2 hb2 (by rw[List.length_take];omega)
 go_upto_region 18 with fail
 have d3:w2.cell? ⟨w.heap.size,3,none⟩=some (.int .i64 h.size):=cell_of S2.hdr 3 rfl
 have d4:w2.cell? ⟨w.heap.size,4,none⟩=some (.int .i64 h.mode):=cell_of S2.hdr 4 rfl
 have d5:w2.cell? ⟨w.heap.size,5,none⟩=some (.int .i64 h.uid):=cell_of S2.hdr 5 rfl
 have d6:w2.cell? ⟨w.heap.size,6,none⟩=some (.int .i64 h.gid):=cell_of S2.hdr 6 rfl
 have d9:w2.cell? ⟨w.heap.size,9,none⟩=some (.int .i64 h.ms):=cell_of S2.hdr 9 rfl
 have d17:w2.cell? ⟨w.heap.size,17,none⟩=some (.int .i64 h.maj):=cell_of S2.hdr 17 rfl
 have d18:w2.cell? ⟨w.heap.size,18,none⟩=some (.int .i64 h.min):=cell_of S2.hdr 18 rfl
 have SS:=hid S2
 clear S S2 hr2 hk2 hb2 c1
 go_wp2_with fail
 refine(show Code.wp _ _ _ _ (w2.alloc (.cells (tblRow h).toArray 222)) from ?_)
 have LP:Hid (NumLoop w C m h rv true (splice (List.replicate 512 0) 0 (List.take 100 h.name)) w2.heap.size 0 (w2.alloc (.cells (tblRow h).toArray 222))):=
  ⟨⟨_,SS.out.grow ((Kp.refl _ _).alloc _),NumsTo.zero _ _ _ SS.out.len⟩,heap_new w2 _⟩
 have hA:w.heap.size+1<w2.heap.size:=lt_of SS.out.row
 clear d3 d4 d5 d6 d9 d17 d18 SS
 generalize w2.alloc (.cells (tblRow h).toArray 222)=w3 at LP ⊢
 go_loopg [15,16,102] 7 (fun g s15 s16 s102 wr=>∃j:Nat,j+g=7∧s102=.int .i64 j∧Hid (NumLoop w C m h rv true (splice (List.replicate 512 0) 0 (List.take 100 h.name)) w2.heap.size j wr))
 case atStart=>exact⟨0,by omega,rfl,LP⟩
 case round=>
  clear LP
  obtain⟨j,hj,rfl,hl⟩:=hrel
  by_cases hlt:j<7
  ·have hb:=fo_fit j hlt
   have ht:=tbl_at h j hlt
   have e0:wr.cell? ⟨w2.heap.size,j*3,none⟩=some (.int .i64 (fo j:Nat)):=cell_of hl.out.tbl _ (by rw[List.getElem?_toArray];exact ht.1)
   have e1:wr.cell? ⟨w2.heap.size,j*3+1,none⟩=some (.int .i64 (fo j+fw j:Nat)):=cell_of hl.out.tbl _ (by rw[List.getElem?_toArray];exact ht.2.1)
   have e2:wr.cell? ⟨w2.heap.size,j*3+2,none⟩=some (.int .i64 (fv h j)):=cell_of hl.out.tbl _ (by rw[List.getElem?_toArray];exact ht.2.2)
   clear ht
   have hg:∀o,Hid (NumLoop w C m h rv true (splice (List.replicate 512 0) 0 (List.take 100 h.name)) w2.heap.size j (wr.alloc o)):=fun o=>hl.out.grow ((Kp.refl _ _).alloc o)
   have hfv:=hi.fvs j hlt
   clear hl
   go_wp2_with fail
   obtain⟨L,hst,hnum⟩:=(hg _).out.st
   refine(number_row _ C (m+4*j) (w.heap.size+1) (fo j) (fw j) (512-fo j) (fv h j) true L hst.cho (by omega) (by omega) ⟨hb.2.1,hb.2.2.1⟩ (by omega) hfv (.inl rfl) hst.row (by rw[hst.len];omega)).mono ?_
   rintro e w5 ⟨rfl,hk5,hc5,f,hf,hrow⟩
   have NX:Hid (NumLoop w C m h rv true (splice (List.replicate 512 0) 0 (List.take 100 h.name)) w2.heap.size (j+1) w5):=(hg _).out.next hCw hA hlt hst hnum hf hk5 hc5 hrow
   clear hg hk5 hc5 hrow hst hnum hf e0 e1 e2
   go_wp2_with fail
   go_roundg (gk-1)
   case measure=>omega
   case rel=>exact⟨j+1,by omega,by simp,NX⟩
  ·obtain rfl:j=7:=by omega
   obtain⟨L,hst,hnum⟩:=hl.out.st
   clear hl
   have hl7:=hid hnum
   clear hnum
   have c0:wr.cell? ⟨w.heap.size,0,none⟩=some (.int .u8 h.typ.toNat):=cell_of hst.hdr 0 rfl
   obtain⟨x156,b156⟩:=hst.row.at_ 156 (by rw[hst.len];omega)
   have z156:=free_of hst.row 156
   have r4:=hst.row.put 156 h.typ (.int .u8 h.typ.toNat) rfl
   have S4:Hid (BlkSt w C (m+28) h rv (L.set 156 h.typ) (wr.setCell ⟨w.heap.size+1,156,none⟩ (.int .u8 h.typ.toNat))):=hst.put hCw 156 h.typ
   clear hst
   go_upto_region 27 with fail
   generalize wr.setCell ⟨w.heap.size+1,156,none⟩ (.int .u8 h.typ.toNat)=w4 at S4 ⊢
   clear c0 b156 z156 r4
   obtain⟨L4,hL4⟩:∃L4,L.set 156 h.typ=L4:=⟨_,rfl⟩
   rw[hL4] at S4
   have H4:=hid hL4
   clear hL4
   have c2:w4.cell? ⟨w.heap.size,2,none⟩=some (.string ⟨h.link.toArray⟩):=cell_of S4.out.hdr 2 rfl
   have S4d:=S4.out.grow ((Kp.refl (fun _=>False) _).drew)
   obtain⟨w5,hr5,hk5,hb5⟩:=copy_str_ex w4.drew 3 (w.heap.size+1) 157 100 355 h.link _ S4d.row (by rw[S4d.len];omega)
   have c2b:w5.cell? ⟨w.heap.size,2,none⟩=some (.string ⟨h.link.toArray⟩):=hk5.cell (show w4.drew.cell? _=_ from c2) (by show ¬(w.heap.size=w.heap.size+1);omega)
   have S5:=S4d.copyTo hCw hk5 hb5 (by rw[List.length_take];omega)
   obtain⟨L5,hL5⟩:∃L5,splice L4 157 (h.link.take 100)=L5:=⟨_,rfl⟩
   rw[hL5] at S5
   have H5:=hid hL5
   clear hL5 S4 S4d hk5 hb5
   go_region_held3 (fun w' => w'.cell? ⟨w.heap.size, 2, none⟩ = some (.string ⟨h.link.toArray⟩)) (first | (exact c2) | (exact c2b)) (first | (fail "none"))
   rename_i hHeld
   clear hHeld hr5 c2 c2b
   obtain⟨w6,hr6,hk6,hb6⟩:=copy_str_ex w5 3 (w.heap.size+1) 257 8 255 magicU _ S5.row (by rw[S5.len];omega)
   have S6:=S5.copyTo hCw hk6 hb6 (by decide)
   obtain⟨L6,hL6⟩:∃L6,splice L5 257 (magicU.take 8)=L6:=⟨_,rfl⟩
   rw[hL6] at S6
   have H6:=hid hL6
   clear hL6 S5 hk6 hb6
   unfold magicU at hr6
   go_upto_if 143 with fail
   clear hr6
   go_cut [] from 144 to 164 (fun wx=>Hid (CutG w C m h rv L6 wx))
   case first=>
    obtain⟨w7,hr7,hk7,hb7⟩:=copy_str_ex w6 3 (w.heap.size+1) 257 8 255 magicG _ S6.row (by rw[S6.len];omega)
    have S7:=S6.copyTo hCw hk7 hb7 (by decide)
    obtain⟨L7,hL7⟩:∃L7,splice L6 257 (magicG.take 8)=L7:=⟨_,rfl⟩
    rw[hL7] at S7
    have H7:=hid hL7
    clear hL7 S6 hk7 hb7
    unfold magicG at hr7
    obtain⟨bA,hA⟩:∃bA,h.hasA=bA:=⟨_,rfl⟩
    have c10:w7.cell? ⟨w.heap.size,11,none⟩=some (.bool bA):=hA▸cell_of S7.hdr 11 rfl
    have HBA:=hid hA
    clear hA
    have c13:w7.cell? ⟨w.heap.size,13,none⟩=some (.int .i64 h.ats):=cell_of S7.hdr 13 rfl
    have SH7:=hid S7
    clear S7
    go_upto_if 148 with fail
    clear hr7
    go_cut [] from 149 to 155 (fun wx=>Hid (CutA w C m h rv L7 wx))
    case first=>
     have hA:=HBA.out
     clear HBA
     cases bA with
     |false=>
      go_wp2_with fail
      go_meet
      case rel=>exact⟨L7,[],by rw[hA];rfl,fun g=>(by rw[hA] at g;cases g),SH7.out.more (by omega)⟩
     |true=>
      go_wp2_with fail
      have S7d:=hid (SH7.out.grow ((Kp.refl (fun _=>False) _).drew))
      go_region_held3 (fun w'=>w'.cell? ⟨w.heap.size,13,none⟩=some (.int .i64 h.ats)) (first|(exact c13)|(exact hk8.cell c13 (by show ¬(w.heap.size=w.heap.size+1∨w.heap.size=C);omega)))
       (first|(go_at_call 123;refine(number_row _ C (m+28) (w.heap.size+1) 345 12 167 h.ats true L7 S7d.out.cho (by omega) (by omega) (by omega) (by omega) hi.ats (.inl rfl) S7d.out.row (by rw[S7d.out.len];omega)).mono ?_;rintro e w8 ⟨rfl,hk8,hc8,fa,hfa,hrow8⟩))
      have S8:=S7d.out.numTo hCw hk8 hc8 hrow8 (by have:=hfa.len;omega)
      have CA:Hid (CutA w C m h rv L7 w8):=⟨_,fa,by rw[hA];rfl,fun _=>hfa,S8.more (by omega)⟩
      rename_i hHeld
      clear hHeld hk8 hc8 hrow8 S8 S7d
      go_wp2_with fail
      go_meet
      case rel=>exact CA
    case rest=>
     obtain⟨L8,fa,h8,hfa,st8⟩:=hcut.out
     clear hcut c10 c13 HBA SH7
     obtain⟨bC,hC⟩:∃bC,h.hasC=bC:=⟨_,rfl⟩
     have c12:wc.cell? ⟨w.heap.size,12,none⟩=some (.bool bC):=hC▸cell_of st8.hdr 12 rfl
     have c15:wc.cell? ⟨w.heap.size,15,none⟩=some (.int .i64 h.cts):=cell_of st8.hdr 15 rfl
     have ST8:=hid st8
     have H8:=hid h8
     have HFA:=hid hfa
     have AF:∀L9 fc,Hid (L9=(if h.hasC then splice L8 357 fc else L8)→(h.hasC=true→NumE true 12 h.cts fc)→AftG h L6 L9):=fun L9 fc h1 h2=>⟨L7,L8,fa,fc,H7.out.symm.trans rfl,H8.out,HFA.out,h1,h2⟩
     clear st8 h8 hfa
     cases bC with
     |false=>
      have CG:Hid (CutG w C m h rv L6 wc):=⟨L8,(AF L8 []).out (by rw[hC];rfl) (fun g=>by rw[hC] at g;cases g),ST8.out.more (by omega)⟩
      clear AF hC
      go_wp2_with fail
      go_meet
      case rel=>exact CG
     |true=>
      go_wp2_with fail
      have S8d:=hid (ST8.out.grow ((Kp.refl (fun _=>False) _).drew))
      go_region_held3 (fun w'=>w'.cell? ⟨w.heap.size,15,none⟩=some (.int .i64 h.cts)) (first|(exact c15)|(exact hk9.cell c15 (by show ¬(w.heap.size=w.heap.size+1∨w.heap.size=C);omega)))
       (first|(go_at_call 123;refine(number_row _ C (m+34) (w.heap.size+1) 357 12 155 h.cts true L8 S8d.out.cho (by omega) (by omega) (by omega) (by omega) hi.cts (.inl rfl) S8d.out.row (by rw[S8d.out.len];omega)).mono ?_;rintro e w9 ⟨rfl,hk9,hc9,fc,hfc,hrow9⟩))
      have S9:=S8d.out.numTo hCw hk9 hc9 hrow9 (by have:=hfc.len;omega)
      have CG:Hid (CutG w C m h rv L6 w9):=⟨_,(AF _ fc).out (by rw[hC];rfl) (fun _=>hfc),S9.more (by omega)⟩
      rename_i hHeld
      clear hHeld hk9 hc9 hrow9 S9 S8d hC AF
      go_wp2_with fail
      go_meet
      case rel=>exact CG
   case rest=>
    obtain⟨L9,haft,st9⟩:=hcut.out
    clear hcut S6
    have c7:wc.cell? ⟨w.heap.size,7,none⟩=some (.string ⟨h.un.toArray⟩):=cell_of st9.hdr 7 rfl
    have S9d:=st9.grow ((Kp.refl (fun _=>False) _).drew)
    obtain⟨wa,hra,hka,hba⟩:=copy_str_ex wc.drew 3 (w.heap.size+1) 265 32 247 h.un _ S9d.row (by rw[S9d.len];omega)
    have c7b:wa.cell? ⟨w.heap.size,7,none⟩=some (.string ⟨h.un.toArray⟩):=hka.cell (show wc.drew.cell? _=_ from c7) (by show ¬(w.heap.size=w.heap.size+1);omega)
    have SA:=S9d.copyTo hCw hka hba (by rw[List.length_take];omega)
    obtain⟨L10,h10⟩:∃L10,splice L9 265 (h.un.take 32)=L10:=⟨_,rfl⟩
    rw[h10] at SA
    have H10:=hid h10
    have HAFT:=hid haft
    clear h10 haft st9 S9d hka hba
    go_wp2_with fail
    go_region_held3 (fun w' => w'.cell? ⟨w.heap.size, 7, none⟩ = some (.string ⟨h.un.toArray⟩)) (first | (exact c7) | (exact c7b)) (first | (fail "none"))
    rename_i hHeld
    clear hHeld hra c7 c7b
    have c8:wa.cell? ⟨w.heap.size,8,none⟩=some (.string ⟨h.gn.toArray⟩):=cell_of SA.hdr 8 rfl
    have SAd:=SA.grow ((Kp.refl (fun _=>False) _).drew)
    obtain⟨wb,hrb,hkb,hbb⟩:=copy_str_ex wa.drew 3 (w.heap.size+1) 297 32 215 h.gn _ SAd.row (by rw[SAd.len];omega)
    have c8b:wb.cell? ⟨w.heap.size,8,none⟩=some (.string ⟨h.gn.toArray⟩):=hkb.cell (show wa.drew.cell? _=_ from c8) (by show ¬(w.heap.size=w.heap.size+1);omega)
    have SB:=SAd.copyTo hCw hkb hbb (by rw[List.length_take];omega)
    obtain⟨L11,h11⟩:∃L11,splice L10 297 (h.gn.take 32)=L11:=⟨_,rfl⟩
    rw[h11] at SB
    have H11:=hid h11
    clear h11 SA SAd hkb hbb
    go_wp2_with fail
    go_region_held3 (fun w' => w'.cell? ⟨w.heap.size, 8, none⟩ = some (.string ⟨h.gn.toArray⟩)) (first | (exact c8) | (exact c8b)) (first | (fail "none"))
    rename_i hHeld
    clear hHeld hrb c8 c8b
    go_wp2_with fail
    refine(summed_any wb C (m+40) (w.heap.size+1) L11 SB.cho (by omega) (by omega) SB.row SB.len).mono ?_
    rintro e wz ⟨rfl,hkz,hcz,fs,hfs,hrz⟩
    have FIN:Hid (BlkEnd w C m h true (.returned (.slice (some ⟨w.heap.size+1,0,none⟩) 512 512)) wz):=by
     obtain⟨L7,L8,fa,fc,e7,e8,hfa,e9,hfc⟩:=HAFT.out
     have e6:L6=splice L5 257 magicU:=H6.out.symm
     refine⟨_,rfl,hrz,blkE_of (L7:=L7) (L8:=L8) (L9:=L9) (nameF_gnu h) hl7.out H4.out.symm H5.out.symm e6 e7 e8 (fun g=>hfa (by simpa using g)) e9 (fun g=>hfc (by simpa using g)) H10.out.symm H11.out.symm hfs,SB.kp.then hkz (fun i hi e=>by omega),hcz.keep (Kp.refl (fun _=>False) _) (fun _ h=>h.elim) (by omega)⟩
    clear hkz hcz hfs hrz SB
    go_wp2_with fail
    go_ret
    exact FIN.out
def CutN (w0:World)(C m:Nat)(h:Hd)(rv:Value)(nm:List UInt8)(w:World):Prop:=∃L1,NmOk h nm L1∧BlkSt w0 C (m+1) h rv L1 w
def PlcSt (w0:World)(C m:Nat)(h:Hd)(rv:Value)(base:Nat)(v:Value)(i:Nat)(w:World):Prop:=
 ∃ps,Places h.name i ps∧OwnI w base v ps∧BlkSt w0 C m h rv (List.replicate 512 0) w∧base≤w.heap.size
set_option maxHeartbeats 1600000 in
theorem block_ustar (w:World)(C m:Nat)(h:Hd)(rv:Value)(fm:Int)(hf:fm=1∨fm=2)(hC:Cho w C m)(hm:m+200≤1000000000000)(hi:NumIn h)(hnl:h.name.length≤1099511627776) :
  Calls Tryz.prog 76 #[.pointer (some ⟨C,0,none⟩), .agg (sRow h rv).toArray, .int .i64 fm] w (BlkEnd w C m h false):=by
 have hCw:C<w.heap.size:=by obtain⟨nv,a,h1,_⟩:=hC;exact lt_of h1
 have hk1:∀o,Kp (fun _=>False) w (w.alloc o):=fun o=>(Kp.refl _ _).alloc o
 have st0:∀o,o=Obj.cells (sRow h rv).toArray 45→BlkSt w C m h rv (List.replicate 512 0) ((w.alloc o).alloc (.cells (ubs (List.replicate 512 0)).toArray 5)):=by
  rintro o rfl
  have k2:=(hk1 (Obj.cells (sRow h rv).toArray 45)).alloc (.cells (ubs (List.replicate 512 0)).toArray 5)
  have r2:=heap_new (w.alloc (.cells (sRow h rv).toArray 45)) (.cells (ubs (List.replicate 512 0)).toArray 5)
  have hsz:(w.alloc (.cells (sRow h rv).toArray 45)).heap.size=w.heap.size+1:=by show (w.heap.push _).size=_;simp
  rw[hsz] at r2
  exact⟨hC.keep k2 (fun _ h=>h.elim) (Nat.le_refl _),r2,heap_alloc (heap_new w _) _,k2.mono (fun _ _ h=>h.elim),List.length_replicate⟩
 have hmk:∀w:World,(Instr.makeSlice 27 (.int .i64 512) (.int .i64 512)).run Tryz.prog w=.ok (.slice (some ⟨w.heap.size,0,none⟩) 512 512) (w.alloc (.cells (ubs (List.replicate 512 0)).toArray 5)):=fun w=>mk27 w 512 (by omega)
 have hs1:∀o,(w.alloc o).heap.size=w.heap.size+1:=fun o=>by show (w.heap.push _).size=_;simp
 have hf3:(fm==3)=false:=by rw[beq_eq_false_iff_ne];omega
 have hf3':(fm != 3)=true:=by rw[bne_iff_ne];omega
 have ST0:=fun o=>hid (st0 o)
 clear st0 hC hk1 hf
 unfold sRow at ST0 ⊢
 unfold strv at ST0 ⊢
 go_enter Tryz.func76,Tryz.ntmps76
 go_upto_region 2 with fail
 refine(show Code.wp _ _ _ _ ((w.alloc (.cells (sRow h rv).toArray 45)).alloc (.cells (ubs (List.replicate 512 0)).toArray 5)) from ?_)
 have S:=(ST0 (.cells (sRow h rv).toArray 45)).out rfl
 generalize (w.alloc (.cells (sRow h rv).toArray 45)).alloc (.cells (ubs (List.replicate 512 0)).toArray 5)=w1 at S ⊢
 obtain⟨hv,hhv⟩:∃hv:Value,Value.agg #[.int .u8 (h.typ.toNat:Int), .string ⟨h.name.toArray⟩, .string ⟨h.link.toArray⟩, .int .i64 h.size, .int .i64 h.mode, .int .i64 h.uid, .int .i64 h.gid, .string ⟨h.un.toArray⟩, .string ⟨h.gn.toArray⟩, .int .i64 h.ms, .int .i64 h.mn, .bool h.hasA, .bool h.hasC, .int .i64 h.ats, .int .i64 h.atn, .int .i64 h.cts, .int .i64 h.ctn, .int .i64 h.maj, .int .i64 h.min,rv, .int .i64 h.fmt]=hv:=⟨_,rfl⟩
 rw[hhv]
 clear hhv
 have c1:w1.cell? ⟨w.heap.size,1,none⟩=some (.string ⟨h.name.toArray⟩):=cell_of S.hdr 1 rfl
 clear ST0 hmk hs1
 have hb1:w.heap.size+1<w1.heap.size:=lt_of S.row
 have SS:=hid S
 clear S
 go_upto_if 23 with fail
 go_cut [9] from 9 to 73 (fun s9 wx=>∃nm:List UInt8,s9=.string ⟨nm.toArray⟩∧Hid (CutN w C m h rv nm wx))
 case first=>
  have HASC:=fun W=>hid (ascii_any W h.name (by omega))
  have HSPL:=fun W i (hi:i≤281474976710656)=>hid (split_any W h.name i (by omega) hi)
  unfold strv at HASC HSPL
  have LP:Hid (PlcSt w C m h rv w1.heap.size (.slice none 0 0) 0 w1):=⟨[],Places.zero _,OwnI.nil _ _,SS.out,Nat.le_refl _⟩
  clear SS c1
  go_upto_region 7 with fail
  go_loopg [10,11,26] h.name.length (fun g s10 s11 s26 wr=>∃i:Nat,i+g=h.name.length∧s26=.int .i64 i∧Hid (PlcSt w C m h rv w1.heap.size s10 i wr))
  case atStart=>exact⟨0,by omega,rfl,LP⟩
  case round=>
   clear LP
   obtain⟨i,hig,rfl,hst⟩:=hrel
   by_cases hlt:i<h.name.length
   ·obtain⟨β,hβ⟩:∃β,h.name.all okA=β:=⟨_,rfl⟩
    obtain⟨γ,hγ⟩:∃γ,splitB h.name i=γ:=⟨_,rfl⟩
    rw[hβ] at HASC
    have HS:=fun W=>HSPL W i (by omega)
    rw[hγ] at HS
    clear HSPL
    have HBT:=hid (And.intro hβ hγ)
    clear hβ hγ
    cases β with
    |false=>
     have NX:Hid (PlcSt w C m h rv w1.heap.size u10 (i+1) wr):=by
      obtain⟨ps,h1,h2,h3,h4⟩:=hst.out
      exact⟨ps,h1.skip (fun e=>by rw[HBT.out.1] at e;cases e.1),h2,h3,h4⟩
     clear hst
     go_wp2_with (go_at_call 119;refine(HASC _).out.mono ?_;rintro e wx ⟨rfl,rfl⟩)
     go_roundg (gk-1)
     case measure=>omega
     case rel=>exact⟨i+1,by omega,by simp,NX⟩
    |true=>
     cases γ with
     |false=>
      have NX:Hid (PlcSt w C m h rv w1.heap.size u10 (i+1) wr):=by
       obtain⟨ps,h1,h2,h3,h4⟩:=hst.out
       exact⟨ps,h1.skip (fun e=>by rw[HBT.out.2] at e;cases e.2),h2,h3,h4⟩
      clear hst
      go_wp2_with (first|(go_at_call 119;refine(HASC _).out.mono ?_;rintro e wx ⟨rfl,rfl⟩)|(go_at_call 122;refine(HS _).out.mono ?_;rintro e wx ⟨rfl,rfl⟩))
      go_roundg (gk-1)
      case measure=>omega
      case rel=>exact⟨i+1,by omega,by simp,NX⟩
     |true=>
      obtain⟨v2,w2,hr2,NX⟩:∃v2 w2,(Builtin.append_ #[30,30] 30 #[u10, .slice (some ⟨wr.heap.size,0,none⟩) 1 1]).run Tryz.prog (wr.alloc (.cells #[.int .i64 i] 3))=.ok v2 w2∧Hid (PlcSt w C m h rv w1.heap.size v2 (i+1) w2):=by
       obtain⟨ps,h1,h2,h3,h4⟩:=hst.out
       obtain⟨v2,w2,hr,hown,hk⟩:=app_int_ex wr 30 w1.heap.size u10 ps i h2 (by have:=h1.len;omega) h4
       exact⟨v2,w2,hr,ps++[i],h1.add HBT.out.1 HBT.out.2,hown,h3.other hCw hb1 hk,Nat.le_trans h4 hk.size⟩
      clear hst
      have HR2:=hid hr2
      clear hr2
      go_wp2_with (first|(go_at_call 119;refine(HASC _).out.mono ?_;rintro e wx ⟨rfl,rfl⟩)|(go_at_call 122;refine(HS _).out.mono ?_;rintro e wx ⟨rfl,rfl⟩)|(at_builtin;refine Lib.wpList_append_run _ rfl _ _ _ _ rfl _ _ rfl rfl _ _ HR2.out ?_))
      go_roundg (gk-1)
      case measure=>omega
      case rel=>exact⟨i+1,by omega,by simp,NX⟩
   ·obtain rfl:i=h.name.length:=by omega
    obtain⟨ps,hpl,hown,hst2,hbs⟩:=hst.out
    clear hst HASC HSPL
    obtain⟨A,cc,rfl⟩:=hown.shape
    have HPL:=hid hpl
    have HOWN:=hid hown
    have HST:=hid hst2
    have hpn:=hpl.len
    clear hpl hown hst2
    go_wp2_with fail
    refine(of_any wr C m (ps.length+1) HST.out.cho (by omega) (by omega)).mono ?_
    rintro e w2 ⟨⟨k,hkk,rfl⟩,hk2,hc2⟩
    have st2:BlkSt w C (m+1) h rv (List.replicate 512 0) w2:=⟨hc2,hk2.heap HST.out.row (by omega),hk2.heap HST.out.hdr (by omega),HST.out.kp.trans hk2,HST.out.len⟩
    have ST2:=hid st2
    have HOW2:=hid (HOWN.out.keep hk2 (fun b hb e=>by omega))
    clear st2 hk2 hc2 HST HOWN
    have skip:Hid (ps=[]∨h.name.length≤100→CutN w C m h rv h.name w2):=fun hor=>by
     refine⟨_, .inl ⟨rfl,rfl,fun ha hl hsp=>?_⟩,ST2.out⟩
     rcases hor with rfl|h1
     ·obtain⟨pre,nm,hp⟩:=hsp
      have hsb:=parts_splitB hp
      have:=(HPL.out.mem pre.length).2 ⟨(splitB_parts hsb).2.2.2,(ascii_iff _).2 ha,hsb⟩
      cases this
     ·omega
    by_cases hps:ps=[]
    ·have SK:Hid (CutN w C m h rv h.name w2):=skip.out (.inl hps)
     have hl0:(ps.length:Int)=0:=by rw[hps];rfl
     clear skip HPL HOW2 ST2 hps
     go_wp2_with fail
     go_meet
     case rel=>exact⟨h.name,rfl,SK⟩
    ·have hl0:(0:Int)<(ps.length:Int):=by
      have:=List.length_pos_iff.2 hps
      omega
     by_cases hgo:h.name.length≤100∧k=0
     ·obtain⟨hg1,rfl⟩:=hgo
      have SK:Hid (CutN w C m h rv h.name w2):=skip.out (.inr hg1)
      clear skip HPL HOW2 ST2 hps
      have hd1:decide ((100:Int)<(h.name.length:Int))=false:=decide_eq_false (by omega)
      have hd0:decide ((0:Int)<(ps.length:Int))=true:=decide_eq_true hl0
      go_wp2_with fail
      go_meet
      case rel=>exact⟨h.name,rfl,SK⟩
     ·have hq:k-1<ps.length:=by omega
      obtain⟨p,hp⟩:∃p,ps[k-1]?=some p:=⟨_,List.getElem?_eq_getElem hq⟩
      obtain⟨g,c3,hA3,hbg,cp⟩:=HOW2.out.get hp
      injection hA3 with hA1 hA2 hA3
      subst hA1 hA3
      clear hA2
      have hpm:=(HPL.out.mem p).1 (List.mem_of_getElem? hp)
      have hpl:p<h.name.length:=hpm.1
      have hpp:=splitB_parts hpm.2.2
      have hasc:=(ascii_iff _).1 hpm.2.1
      have hmax:max ((k:Int)-1) 0=((k-1:Nat):Int):=by omega
      have hp0:(0:Int)≤(p:Int):=by omega
      have hp1:(p:Int)≤(h.name.length:Int):=by omega
      have hp2:(p:Int)+1≤(h.name.length:Int):=by omega
      have hd0:decide ((0:Int)<(ps.length:Int))=true:=decide_eq_true hl0
      obtain⟨q,hqq⟩:∃q,k-1=q:=⟨_,rfl⟩
      rw[hqq] at hmax hq cp
      have st2d:=ST2.out.grow ((Kp.refl (fun _=>False) w2).drew)
      obtain⟨w3,hr3,hk3,hb3⟩:=copy_str_ex w2.drew 3 (w.heap.size+1) 345 155 167 (h.name.take p) _ st2d.row (by rw[st2d.len];omega)
      have e3:(⟨h.name.toArray⟩:ByteArray).extract 0 p=⟨(h.name.take p).toArray⟩:=by
       apply ByteArray.ext
       simp[ByteArray.data_extract,List.extract_toArray,List.extract]
      have e4:(⟨h.name.toArray⟩:ByteArray).extract (p+1) h.name.length=⟨(h.name.drop (p+1)).toArray⟩:=by
       apply ByteArray.ext
       simp[ByteArray.data_extract,List.extract_toArray,List.extract]
       rw[List.take_of_length_le (by rw[List.length_drop];omega)]
      have S3:=st2d.copyTo hCw hk3 hb3 (by rw[List.length_take];omega)
      have CN:Hid (CutN w C m h rv (h.name.drop (p+1)) w3):=⟨_, .inr ⟨hasc,_,hpp.1,rfl⟩,S3⟩
      clear skip HPL HOW2 hps hpm hpp hasc st2d hk3 hb3 S3 hp ST2
      by_cases hlen:100<h.name.length
      ·have hd1:decide ((100:Int)<(h.name.length:Int))=true:=decide_eq_true (by omega)
       go_wp2_with fail
       go_region_held3 (fun _ => True) (trivial) (first | (fail "none"))
       rename_i hHeld
       clear hHeld hr3
       go_wp2_with fail
       go_meet
       case rel=>exact⟨_,rfl,CN⟩
      ·have hk0:¬k=0:=fun e=>hgo ⟨by omega,e⟩
       have hd1:decide ((100:Int)<(h.name.length:Int))=false:=decide_eq_false (by omega)
       have hd2:decide ((0:Int)<(k:Int))=true:=decide_eq_true (by omega)
       go_wp2_with fail
       go_region_held3 (fun _ => True) (trivial) (first | (fail "none"))
       rename_i hHeld
       clear hHeld hr3
       go_wp2_with fail
       go_meet
       case rel=>exact⟨_,rfl,CN⟩
 case rest=>
  obtain⟨nm,rfl,hcn⟩:=hcut
  obtain⟨L1,hnm,S1⟩:=hcn.out
  clear hcn SS c1
  obtain⟨w2,hr2,hk2,hb2⟩:=copy_str_ex wc 3 (w.heap.size+1) 0 100 512 nm _ S1.row (by rw[S1.len];omega)
  have S2:=S1.copyTo hCw hk2 hb2 (by rw[List.length_take];omega)
  obtain⟨LN,hLN⟩:∃LN,splice L1 0 (nm.take 100)=LN:=⟨_,rfl⟩
  rw[hLN] at S2
  have NF:Hid (NameF h false LN):=hLN▸nameF_ustar hnm
  clear hLN hnm hk2 hb2 S1
  go_upto_region 18 with fail
  have d3:w2.cell? ⟨w.heap.size,3,none⟩=some (.int .i64 h.size):=cell_of S2.hdr 3 rfl
  have d4:w2.cell? ⟨w.heap.size,4,none⟩=some (.int .i64 h.mode):=cell_of S2.hdr 4 rfl
  have d5:w2.cell? ⟨w.heap.size,5,none⟩=some (.int .i64 h.uid):=cell_of S2.hdr 5 rfl
  have d6:w2.cell? ⟨w.heap.size,6,none⟩=some (.int .i64 h.gid):=cell_of S2.hdr 6 rfl
  have d9:w2.cell? ⟨w.heap.size,9,none⟩=some (.int .i64 h.ms):=cell_of S2.hdr 9 rfl
  have d17:w2.cell? ⟨w.heap.size,17,none⟩=some (.int .i64 h.maj):=cell_of S2.hdr 17 rfl
  have d18:w2.cell? ⟨w.heap.size,18,none⟩=some (.int .i64 h.min):=cell_of S2.hdr 18 rfl
  have SS:=hid S2
  clear S2 hr2
  go_wp2_with fail
  refine(show Code.wp _ _ _ _ (w2.alloc (.cells (tblRow h).toArray 222)) from ?_)
  have LP:Hid (NumLoop w C (m+1) h rv false LN w2.heap.size 0 (w2.alloc (.cells (tblRow h).toArray 222))):=
   ⟨⟨_,SS.out.grow ((Kp.refl _ _).alloc _),NumsTo.zero _ _ _ SS.out.len⟩,heap_new w2 _⟩
  have hA:w.heap.size+1<w2.heap.size:=lt_of SS.out.row
  clear d3 d4 d5 d6 d9 d17 d18 SS
  generalize w2.alloc (.cells (tblRow h).toArray 222)=w3 at LP ⊢
  go_loopg [15,16,102] 7 (fun g s15 s16 s102 wr=>∃j:Nat,j+g=7∧s102=.int .i64 j∧Hid (NumLoop w C (m+1) h rv false LN w2.heap.size j wr))
  case atStart=>exact⟨0,by omega,rfl,LP⟩
  case round=>
   clear LP
   obtain⟨j,hj,rfl,hl⟩:=hrel
   by_cases hlt:j<7
   ·have hb:=fo_fit j hlt
    have ht:=tbl_at h j hlt
    have e0:wr.cell? ⟨w2.heap.size,j*3,none⟩=some (.int .i64 (fo j:Nat)):=cell_of hl.out.tbl _ (by rw[List.getElem?_toArray];exact ht.1)
    have e1:wr.cell? ⟨w2.heap.size,j*3+1,none⟩=some (.int .i64 (fo j+fw j:Nat)):=cell_of hl.out.tbl _ (by rw[List.getElem?_toArray];exact ht.2.1)
    have e2:wr.cell? ⟨w2.heap.size,j*3+2,none⟩=some (.int .i64 (fv h j)):=cell_of hl.out.tbl _ (by rw[List.getElem?_toArray];exact ht.2.2)
    clear ht
    have hg:∀o,Hid (NumLoop w C (m+1) h rv false LN w2.heap.size j (wr.alloc o)):=fun o=>hl.out.grow ((Kp.refl _ _).alloc _)
    have hfv:=hi.fvs j hlt
    have HF:=fun W=>hid (fitsOctal_any W (fw j) (fv h j) (by omega) hfv)
    obtain⟨β,hβ⟩:∃β,(decide (0≤fv h j)&&decide (fv h j<8 ^ (fw j-1)))=β:=⟨_,rfl⟩
    rw[hβ] at HF
    have hsto:Hid (stored false (fw j) (fv h j)=if β then fv h j else 0):=by show _=_;rw[←hβ];rfl
    have hfit:Hid (β=true→0≤fv h j∧fv h j<8 ^ (fw j-1)):=fun e=>by rw[e,Bool.and_eq_true] at hβ;exact⟨of_decide_eq_true hβ.1,of_decide_eq_true hβ.2⟩
    have hsub:((fo j:Int)+(fw j:Int))-(fo j:Int)=(fw j:Int):=by omega
    clear hl hβ
    cases β with
    |true=>
     go_wp2_with (go_at_call 120;refine(HF _).out.mono ?_;rintro e wx ⟨rfl,rfl⟩)
     obtain⟨L,hst,hnum⟩:=(hg _).out.st
     refine(number_row _ C (m+1+4*j) (w.heap.size+1) (fo j) (fw j) (512-fo j) (fv h j) false L hst.cho (by omega) (by omega) ⟨hb.2.1,hb.2.2.1⟩ (by omega) hfv (.inr (hfit.out (by trivial))) hst.row (by rw[hst.len];omega)).mono ?_
     rintro e w5 ⟨rfl,hk5,hc5,f,hf,hrow⟩
     have NX:Hid (NumLoop w C (m+1) h rv false LN w2.heap.size (j+1) w5):=(hg _).out.next hCw hA hlt hst hnum (by rw[hsto.out];exact hf) hk5 hc5 hrow
     clear hg hk5 hc5 hrow hst hnum hf e0 e1 e2 HF
     go_wp2_with fail
     go_roundg (gk-1)
     case measure=>omega
     case rel=>exact⟨j+1,by omega,by simp,NX⟩
    |false=>
     go_wp2_with (go_at_call 120;refine(HF _).out.mono ?_;rintro e wx ⟨rfl,rfl⟩)
     obtain⟨L,hst,hnum⟩:=(hg _).out.st
     refine(number_row _ C (m+1+4*j) (w.heap.size+1) (fo j) (fw j) (512-fo j) 0 false L hst.cho (by omega) (by omega) ⟨hb.2.1,hb.2.2.1⟩ (by omega) (by omega) (.inr ⟨by omega,by have:(0:Int)<(8:Int) ^ (fw j-1):=Int.pow_pos (by omega);exact this⟩) hst.row (by rw[hst.len];omega)).mono ?_
     rintro e w5 ⟨rfl,hk5,hc5,f,hf,hrow⟩
     have NX:Hid (NumLoop w C (m+1) h rv false LN w2.heap.size (j+1) w5):=(hg _).out.next hCw hA hlt hst hnum (by rw[hsto.out];exact hf) hk5 hc5 hrow
     clear hg hk5 hc5 hrow hst hnum hf e0 e1 e2 HF
     go_wp2_with fail
     go_roundg (gk-1)
     case measure=>omega
     case rel=>exact⟨j+1,by omega,by simp,NX⟩
   ·obtain rfl:j=7:=by omega
    obtain⟨L,hst,hnum⟩:=hl.out.st
    clear hl
    have hl7:=hid hnum
    clear hnum
    have c0:wr.cell? ⟨w.heap.size,0,none⟩=some (.int .u8 h.typ.toNat):=cell_of hst.hdr 0 rfl
    obtain⟨x156,b156⟩:=hst.row.at_ 156 (by rw[hst.len];omega)
    have z156:=free_of hst.row 156
    have r4:=hst.row.put 156 h.typ (.int .u8 h.typ.toNat) rfl
    have S4:Hid (BlkSt w C (m+1+28) h rv (L.set 156 h.typ) (wr.setCell ⟨w.heap.size+1,156,none⟩ (.int .u8 h.typ.toNat))):=hst.put hCw 156 h.typ
    clear hst
    go_upto_region 27 with fail
    generalize wr.setCell ⟨w.heap.size+1,156,none⟩ (.int .u8 h.typ.toNat)=w4 at S4 ⊢
    clear c0 b156 z156 r4
    obtain⟨L4,hL4⟩:∃L4,L.set 156 h.typ=L4:=⟨_,rfl⟩
    rw[hL4] at S4
    have H4:=hid hL4
    clear hL4
    have c2:w4.cell? ⟨w.heap.size,2,none⟩=some (.string ⟨h.link.toArray⟩):=cell_of S4.out.hdr 2 rfl
    have S4d:=S4.out.grow ((Kp.refl (fun _=>False) _).drew)
    obtain⟨w5,hr5,hk5,hb5⟩:=copy_str_ex w4.drew 3 (w.heap.size+1) 157 100 355 h.link _ S4d.row (by rw[S4d.len];omega)
    have c2b:w5.cell? ⟨w.heap.size,2,none⟩=some (.string ⟨h.link.toArray⟩):=hk5.cell (show w4.drew.cell? _=_ from c2) (by show ¬(w.heap.size=w.heap.size+1);omega)
    have S5:=S4d.copyTo hCw hk5 hb5 (by rw[List.length_take];omega)
    obtain⟨L5,hL5⟩:∃L5,splice L4 157 (h.link.take 100)=L5:=⟨_,rfl⟩
    rw[hL5] at S5
    have H5:=hid hL5
    clear hL5 S4 S4d hk5 hb5
    go_region_held3 (fun w' => w'.cell? ⟨w.heap.size, 2, none⟩ = some (.string ⟨h.link.toArray⟩)) (first | (exact c2) | (exact c2b)) (first | (fail "none"))
    rename_i hHeld
    clear hHeld hr5 c2 c2b
    obtain⟨w6,hr6,hk6,hb6⟩:=copy_str_ex w5 3 (w.heap.size+1) 257 8 255 magicU _ S5.row (by rw[S5.len];omega)
    have S6:=S5.copyTo hCw hk6 hb6 (by decide)
    obtain⟨L6,hL6⟩:∃L6,splice L5 257 (magicU.take 8)=L6:=⟨_,rfl⟩
    rw[hL6] at S6
    have H6:=hid hL6
    clear hL6 S5 hk6 hb6
    unfold magicU at hr6
    have c7:w6.cell? ⟨w.heap.size,7,none⟩=some (.string ⟨h.un.toArray⟩):=cell_of S6.hdr 7 rfl
    have S9d:=S6.grow ((Kp.refl (fun _=>False) _).drew)
    obtain⟨wa,hra,hka,hba⟩:=copy_str_ex w6.drew 3 (w.heap.size+1) 265 32 247 h.un _ S9d.row (by rw[S9d.len];omega)
    have c7b:wa.cell? ⟨w.heap.size,7,none⟩=some (.string ⟨h.un.toArray⟩):=hka.cell (show w6.drew.cell? _=_ from c7) (by show ¬(w.heap.size=w.heap.size+1);omega)
    have SA:=S9d.copyTo hCw hka hba (by rw[List.length_take];omega)
    obtain⟨L10,h10⟩:∃L10,splice L6 265 (h.un.take 32)=L10:=⟨_,rfl⟩
    rw[h10] at SA
    have H10:=hid h10
    clear h10 S6 S9d hka hba
    go_wp2_with fail
    clear hr6
    go_region_held3 (fun w' => w'.cell? ⟨w.heap.size, 7, none⟩ = some (.string ⟨h.un.toArray⟩)) (first | (exact c7) | (exact c7b)) (first | (fail "none"))
    rename_i hHeld
    clear hHeld hra c7 c7b
    have c8:wa.cell? ⟨w.heap.size,8,none⟩=some (.string ⟨h.gn.toArray⟩):=cell_of SA.hdr 8 rfl
    have SAd:=SA.grow ((Kp.refl (fun _=>False) _).drew)
    obtain⟨wb,hrb,hkb,hbb⟩:=copy_str_ex wa.drew 3 (w.heap.size+1) 297 32 215 h.gn _ SAd.row (by rw[SAd.len];omega)
    have c8b:wb.cell? ⟨w.heap.size,8,none⟩=some (.string ⟨h.gn.toArray⟩):=hkb.cell (show wa.drew.cell? _=_ from c8) (by show ¬(w.heap.size=w.heap.size+1);omega)
    have SB:=SAd.copyTo hCw hkb hbb (by rw[List.length_take];omega)
    obtain⟨L11,h11⟩:∃L11,splice L10 297 (h.gn.take 32)=L11:=⟨_,rfl⟩
    rw[h11] at SB
    have H11:=hid h11
    clear h11 SA SAd hkb hbb
    go_wp2_with fail
    go_region_held3 (fun w' => w'.cell? ⟨w.heap.size, 8, none⟩ = some (.string ⟨h.gn.toArray⟩)) (first | (exact c8) | (exact c8b)) (first | (fail "none"))
    rename_i hHeld
    clear hHeld hrb c8 c8b
    go_wp2_with fail
    refine(summed_any wb C (m+1+28) (w.heap.size+1) L11 SB.cho (by omega) (by omega) SB.row SB.len).mono ?_
    rintro e wz ⟨rfl,hkz,hcz,fs,hfs,hrz⟩
    have FIN:Hid (BlkEnd w C m h false (.returned (.slice (some ⟨w.heap.size+1,0,none⟩) 512 512)) wz):=by
     have e6:L6=splice L5 257 magicU:=H6.out.symm
     exact⟨_,rfl,hrz,blkE_of (L7:=L6) (L8:=L6) (L9:=L6) (fa:=[]) (fc:=[]) NF.out hl7.out H4.out.symm H5.out.symm e6 rfl rfl (fun g=>by cases g) rfl (fun g=>by cases g) H10.out.symm H11.out.symm hfs,SB.kp.then hkz (fun i hi e=>by omega),hcz.keep (Kp.refl (fun _=>False) _) (fun _ h=>h.elim) (by omega)⟩
    clear hkz hcz hfs hrz SB
    go_wp2_with fail
    go_ret
    exact FIN.out
structure TldSt (w0:World)(C m:Nat)(h:Hd)(rv:Value)(l:List Rec)(w:World):Prop where
 cho:Cho w C m
 cp:w.heap[w0.heap.size]?=some (.cells #[.pointer (some ⟨C,0,none⟩)] 83 (0,0))
 hdr:w.heap[w0.heap.size+1]?=some (.cells (sRow h rv).toArray 45 (0,0))
 lv:∃v,w.heap[w0.heap.size+2]?=some (.cells #[v] 43 (0,0))∧OwnR 136 w (w0.heap.size+3) v l
 kp:Kp (· =C) w0 w
theorem TldSt.grow {w0 w w':World}{C m:Nat}{h:Hd}{rv:Value}{l:List Rec}(s:TldSt w0 C m h rv l w)(k:Kp (fun _=>False) w w'):TldSt w0 C m h rv l w':=by
 obtain⟨v,h1,h2⟩:=s.lv
 exact⟨s.cho.keep k (fun _ h=>h.elim) (Nat.le_refl _),k.heap s.cp (fun h=>h),k.heap s.hdr (fun h=>h),⟨v,k.heap h1 (fun h=>h),h2.keep k (fun _ _ h=>h)⟩,s.kp.then k (fun _ _ h=>h.elim)⟩
theorem TldSt.chose {w0 w w':World}{C m m':Nat}{h:Hd}{rv:Value}{l:List Rec}(s:TldSt w0 C m h rv l w)(hC:C<w0.heap.size)(k:Kp (· =C) w w')(hc:Cho w' C m'):TldSt w0 C m' h rv l w':=by
 obtain⟨v,h1,h2⟩:=s.lv
 exact⟨hc,k.heap s.cp (by omega),k.heap s.hdr (by omega),⟨v,k.heap h1 (by omega),h2.keep k (fun b hb e=>by have:=(h2.block hb).1;omega)⟩,s.kp.trans k⟩
theorem TldSt.more {w0 w:World}{C m m':Nat}{h:Hd}{rv:Value}{l:List Rec}(s:TldSt w0 C m h rv l w)(hm:m≤m'):TldSt w0 C m' h rv l w:=
 ⟨s.cho.keep (Kp.refl (fun _=>False) _) (fun _ h=>h.elim) hm,s.cp,s.hdr,s.lv,s.kp⟩
def AddOk (l:List Rec)(k v:List UInt8)(must:Bool)(l':List Rec):Prop:=l'=l++[(k,v)]∧v≠[]∨l'=l∧(v=[]∨must=false)
theorem TldSt.add {w0 w:World}{C m:Nat}{h:Hd}{rv:Value}{l:List Rec}(s:TldSt w0 C m h rv l w)(hC:C<w0.heap.size)(r:Rec)(hl:l.length≤4294967295)(lv:Value)(hlv:w.cell? ⟨w0.heap.size+2,0,none⟩=some lv) :
  ∃A2 n2 q2 w2,(Builtin.append_ #[43,43] 43 #[lv, .slice (some ⟨w.heap.size,0,none⟩) 1 1]).run Tryz.prog (w.alloc (.cells #[.string ⟨r.1.toArray⟩, .string ⟨r.2.toArray⟩] 136))=.ok (.slice A2 n2 q2) w2 ∧
   w2.cell? ⟨w0.heap.size+2,0,none⟩=some lv∧w2.frozen? ⟨w0.heap.size+2,0,none⟩=false∧TldSt w0 C m h rv (l++[r]) (w2.setCell ⟨w0.heap.size+2,0,none⟩ (.slice A2 n2 q2)):=by
 obtain⟨v,h1,h2⟩:=s.lv
 have e:v=lv:=by
  have:=cell_of h1 0 (v:=v) rfl
  rw[hlv] at this
  injection this with this
  exact this.symm
 subst e
 have hH:w0.heap.size+3≤w.heap.size:=by have:=lt_of h1;omega
 obtain⟨v2,w2,hr,ho,hk⟩:=app_rec_ex (ty:=43) w infoS (w0.heap.size+3) v l r h2 (by omega) hH
 obtain⟨A2,q2,rfl⟩:=ho.at_.shape
 have kw:=h2.wide hk
 have g1:=kw.heap h1 (by omega)
 have ks:Kp (· =w0.heap.size+2) w2 (w2.setCell ⟨w0.heap.size+2,0,none⟩ (.slice A2 (l++[r]).length q2)):=Kp.setCell (S:=(· =w0.heap.size+2)) (p:=⟨w0.heap.size+2,0,none⟩) (Kp.refl _ w2) (.inl rfl) _
 refine⟨A2,_,q2,w2,hr,cell_of g1 0 rfl,free_of g1 0,(s.cho.keep kw (fun i hi=>by omega) (Nat.le_refl _)).keep ks (fun i hi=>by omega) (Nat.le_refl _),ks.heap (kw.heap s.cp (by omega)) (by omega),ks.heap (kw.heap s.hdr (by omega)) (by omega),⟨_,?_,ho.keep ks (fun b hb e=>by have:=(ho.block hb).1;omega)⟩,(s.kp.then kw (fun i hi e=>by omega)).then ks (fun i hi e=>by omega)⟩
 have:=heap_set g1 0 (.slice A2 (l++[r]).length q2)
 simpa using this
set_option maxHeartbeats 1600000 in
theorem add_any (w0 w:World)(C m:Nat)(h:Hd)(rv:Value)(l:List Rec)(k v:List UInt8)(must:Bool)(hC:C<w0.heap.size)(hs:TldSt w0 C m h rv l w)(hm:m+10≤1000000000000)(hl:l.length≤4294967295) :
  Calls Tryz.prog 118 #[.string ⟨k.toArray⟩, .string ⟨v.toArray⟩, .bool must, .pointer (some ⟨w0.heap.size,0,none⟩), .pointer (some ⟨w0.heap.size+2,0,none⟩)] w fun e w'=>
   e=.returned (.tuple #[])∧Hid (∃l',AddOk l k v must l'∧TldSt w0 C (m+1) h rv l' w'):=by
 have HS:=hid hs
 have c0:w.cell? ⟨w0.heap.size,0,none⟩=some (.pointer (some ⟨C,0,none⟩)):=cell_of hs.cp 0 rfl
 obtain⟨lv,hlv,hown⟩:=hs.lv
 have c1:w.cell? ⟨w0.heap.size+2,0,none⟩=some lv:=cell_of hlv 0 rfl
 have HOWN:=hid hown
 have HLV:=hid hlv
 clear hs hlv hown
 cases v with
 |nil=>
  have FIN:Hid (∃l',AddOk l k [] must l'∧TldSt w0 C (m+1) h rv l' w):=⟨l, .inr ⟨rfl, .inl rfl⟩,HS.out.more (by omega)⟩
  clear HS
  go_enter Tryz.func118,Tryz.ntmps118
  go_wp2_with fail
  go_end0
  exact⟨rfl,FIN.out⟩
 |cons x xs=>
  cases must with
  |true=>
   obtain⟨A2,n2,q2,w2,hr2,y1,y2,hst⟩:=HS.out.add hC (k,x::xs) hl lv c1
   have HR2:=hid hr2
   have FIN:Hid (∃l',AddOk l k (x::xs) true l'∧TldSt w0 C (m+1) h rv l' (w2.setCell ⟨w0.heap.size+2,0,none⟩ (.slice A2 n2 q2))):=⟨_, .inl ⟨rfl,by simp⟩,hst.more (by omega)⟩
   clear HS HOWN HLV hr2 hst
   go_enter Tryz.func118,Tryz.ntmps118
   go_wp2_with (at_builtin;refine Lib.wpList_append_run _ rfl _ _ _ _ rfl _ _ rfl rfl _ _ HR2.out ?_)
   go_end0
   exact⟨rfl,FIN.out⟩
  |false=>
   go_enter Tryz.func118,Tryz.ntmps118
   go_wp2_with fail
   refine(of_any w C m 3 HS.out.cho (by omega) (by omega)).mono ?_
   rintro e w1 ⟨⟨n,hn,rfl⟩,hk1,hc1⟩
   have S1:=HS.out.chose hC hk1 hc1
   have c1':w1.cell? ⟨w0.heap.size+2,0,none⟩=some lv:=hk1.cell c1 (by show ¬w0.heap.size+2=C;omega)
   by_cases hn0:n=0
   ·subst hn0
    obtain⟨A2,n2,q2,w2,hr2,y1,y2,hst⟩:=S1.add hC (k,x::xs) hl lv c1'
    have HR2:=hid hr2
    have FIN:Hid (∃l',AddOk l k (x::xs) false l'∧TldSt w0 C (m+1) h rv l' (w2.setCell ⟨w0.heap.size+2,0,none⟩ (.slice A2 n2 q2))):=⟨_, .inl ⟨rfl,by simp⟩,hst⟩
    clear HS HOWN HLV hr2 hst S1 hk1 hc1
    dsimp only
    rename_i K hK
    refine hK _ _ ?_
    clear hK
    go_wp2_with (at_builtin;refine Lib.wpList_append_run _ rfl _ _ _ _ rfl _ _ rfl rfl _ _ HR2.out ?_)
    go_end0
    exact⟨rfl,FIN.out⟩
   ·have hd:((n:Int)==0)=false:=by rw[beq_eq_false_iff_ne];omega
    have FIN:Hid (∃l',AddOk l k (x::xs) false l'∧TldSt w0 C (m+1) h rv l' w1):=⟨l, .inr ⟨rfl, .inr rfl⟩,S1⟩
    clear HS HOWN HLV S1 hk1 hc1
    go_wp2_with fail
    go_end0
    exact⟨rfl,FIN.out⟩
end Go.Proofs.YtgfcnjfmmjcodaaGreatDoor
