/- told of the specification. -/
import Derived.Test.YtgfcnjfmmjcodaaGreatDoorP21
set_option linter.all false
set_option maxRecDepth 100000
set_option maxHeartbeats 1000000
open Go.Lib (hid)
namespace Go.Proofs.YtgfcnjfmmjcodaaGreatDoor
open Go Go.RowKit
set_option maxHeartbeats 40000000 in
theorem Bcu (w:World)(C m:Nat)(h:Hd)(rv:Value)(hC:Cho w C m)(hm:m+100000≤1000000000000)(hpos:TldIn h)(hra:RecsAt w C rv h.recs)(hrl:h.recs.length≤30000) :
  Calls Tryz.prog 74 #[.pointer (some ⟨C,0,none⟩), .agg (Bd h rv).toArray] w fun e w'=>Hid (Bct w C m h e w'):=by
 have hnl:h.name.length≤1099511627776:=by have:=hpos.name;omega
 have hll:h.link.length≤1048576:=hpos.link;have hul:h.un.length≤1048576:=hpos.un;have hgl:h.gn.length≤1048576:=hpos.gn;have hCw:C<w.heap.size:=by obtain⟨nv,a,h1,_⟩:=hC;exact Bv h1
 obtain⟨Ar,cr,hrv⟩:=hra.shape;subst hrv;have HRA:=hid hra;clear hra;have S0:=Ya w C m h (.slice Ar h.recs.length cr) hC;clear hC;unfold Bd;unfold B5;go_enter Tryz.func74,Tryz.ntmps74
 go_upto_region 3 with fail
 refine(show Code.wp _ _ _ _ (((w.alloc (.cells #[.pointer (some ⟨C,0,none⟩)] 83)).alloc (.cells (Bd h (.slice Ar h.recs.length cr)).toArray 45)).alloc (.cells #[.slice none 0 0] 43)) from ?_)
 generalize ((w.alloc (.cells #[.pointer (some ⟨C,0,none⟩)] 83)).alloc (.cells (Bd h (.slice Ar h.recs.length cr)).toArray 45)).alloc (.cells #[.slice none 0 0] 43)=w1 at S0 ⊢;obtain⟨hv,hhv⟩:∃hv:Value,Value.agg #[.int .u8 (h.typ.toNat:Int), .string ⟨h.name.toArray⟩, .string ⟨h.link.toArray⟩, .int .i64 h.size, .int .i64 h.mode, .int .i64 h.uid, .int .i64 h.gid, .string ⟨h.un.toArray⟩, .string ⟨h.gn.toArray⟩, .int .i64 h.ms, .int .i64 h.mn, .bool h.hasA, .bool h.hasC, .int .i64 h.ats, .int .i64 h.atn, .int .i64 h.cts, .int .i64 h.ctn, .int .i64 h.maj, .int .i64 h.min, .slice Ar h.recs.length cr, .int .i64 h.fmt]=hv:=⟨_,rfl⟩;rw[hhv];clear hhv;go_cut [] from 13 to 32 (fun wx=>Hid (AdSt w C (m+1) h (.slice Ar h.recs.length cr) [(Bo,h.name,Ca h.name)] wx))
 case first=>
  have n1:w1.cell? ⟨w.heap.size+1,1,none⟩=some (.string ⟨h.name.toArray⟩):=S0.out.cell 1 rfl;have HASC:=fun W=>hid (Ew W h.name (by omega))
  have HSP:=fun W=>hid (M8 W h.name hnl);unfold B5 at HASC;have AD:=fun must=>hid (Ja (S0.out.grow ((Kp.refl (fun _=>False) w1).drew)) Bo h.name must hCw (by omega) (by simp))
  unfold Bo at AD;obtain⟨β,hβ⟩:∃β,h.name.all okA=β:=⟨_,rfl⟩;rw[hβ] at HASC;cases β with
  |false=>
   (have hmu:Ca h.name=true:=by unfold Ca;rw[hβ];rfl);have HM:=hid hmu;clear hmu hβ;(refine Bh [19] (by kernel_rfl) ?_);simp only[Ce,sD,sE,sF,sG];(iterate 5 (with_reducible refine wpStill_step (fun K hK=>?_);go_simp;with_reducible refine hK _ ?_;clear hK K));(with_reducible refine wpStill_step (fun K hK=>?_));go_simp;(with_reducible refine⟨.bool false,(HASC w1.drew).out,hK _ ?_⟩);(iterate 2 (clear hK K;with_reducible refine wpStill_step (fun K hK=>?_);go_simp;with_reducible refine hK _ ?_));clear hK K;with_reducible refine Bc ?hh ?_
   case hh=>kernel_rfl
   simp only[Act.put,sA,sB,sC];with_reducible refine Bc ?hh ?_
   case hh=>kernel_rfl
   simp only[Act.put,sA,sB,sC];with_reducible refine Bc ?hh ?_
   case hh=>kernel_rfl
   simp only[Act.put,sA,sB,sC];with_reducible refine Bc ?hh ?_
   case hh=>kernel_rfl
   simp only[Act.put,sA,sB,sC];with_reducible refine Bc ?hh ?_
   case hh=>kernel_rfl
   simp only[Act.put,sA,sB,sC];with_reducible refine Bc ?hh ?_
   case hh=>kernel_rfl
   simp only[Act.put,sA,sB,sC];with_reducible refine Bc ?hh ?_
   case hh=>kernel_rfl
   simp only[Act.put,sA,sB,sC];with_reducible refine Bc ?hh ?_
   case hh=>kernel_rfl
   simp only[Act.put,sA,sB,sC];with_reducible refine Bc ?hh ?_
   case hh=>kernel_rfl
   simp only[Act.put,sA,sB,sC];with_reducible refine Bc ?hh ?_
   case hh=>kernel_rfl
   simp only[Act.put,sA,sB,sC];(with_reducible refine wpStill_step (fun K hK=>?_));go_simp;(with_reducible refine hK _ ?_);clear hK K;(with_reducible refine wpStill_nil ?_);(go_wp2_with fail);refine(AD true).out.mono ?_;rintro e w2 ⟨rfl,hst⟩;(have NX:Hid (AdSt w C (m+1) h (.slice Ar h.recs.length cr) [(Bo,h.name,Ca h.name)] w2):=by rw[HM.out];exact hst.out);clear hst AD HASC HSP S0;(go_wp2_with fail);(with_reducible refine wpStill_nil ?_);(go_wp2_with fail);go_meet
   case rel=>exact NX
  |true=>
   by_cases hlen:100<h.name.length
   ·(have hd:decide ((100:Int)<(h.name.length:Int))=true:=decide_eq_true (by omega));obtain⟨γ,hγ⟩:∃γ,spB h.name=γ:=⟨_,rfl⟩;rw[hγ] at HSP;cases γ with
    |false=>
     (have hmu:Ca h.name=true:=by unfold Ca;rw[hβ,hγ,decide_eq_true hlen];rfl);have HM:=hid hmu;clear hmu hβ hγ;(refine Bh [19] (by kernel_rfl) ?_);simp only[Ce,sD,sE,sF,sG];(iterate 5 (with_reducible refine wpStill_step (fun K hK=>?_);go_simp;with_reducible refine hK _ ?_;clear hK K));(with_reducible refine wpStill_step (fun K hK=>?_));go_simp;(with_reducible refine⟨.bool true,(HASC w1.drew).out,hK _ ?_⟩);(iterate 9 (clear hK K;with_reducible refine wpStill_step (fun K hK=>?_);go_simp;with_reducible refine hK _ ?_));clear hK K;(with_reducible refine wpStill_step (fun K hK=>?_));go_simp;(with_reducible refine⟨.bool false,(HSP w1.drew).out,hK _ ?_⟩);(iterate 3 (clear hK K;with_reducible refine wpStill_step (fun K hK=>?_);go_simp;with_reducible refine hK _ ?_));clear hK K;(with_reducible refine wpStill_nil ?_);(go_wp2_with fail);refine(AD true).out.mono ?_;rintro e w2 ⟨rfl,hst⟩;(have NX:Hid (AdSt w C (m+1) h (.slice Ar h.recs.length cr) [(Bo,h.name,Ca h.name)] w2):=by rw[HM.out];exact hst.out);clear hst AD HASC HSP S0;(go_wp2_with fail);(with_reducible refine wpStill_nil ?_);(go_wp2_with fail);go_meet
     case rel=>exact NX
    |true=>
     (have hmu:Ca h.name=false:=by unfold Ca;rw[hβ,hγ,decide_eq_true hlen];rfl);have HM:=hid hmu;clear hmu hβ hγ;(refine Bh [19] (by kernel_rfl) ?_);simp only[Ce,sD,sE,sF,sG];(iterate 5 (with_reducible refine wpStill_step (fun K hK=>?_);go_simp;with_reducible refine hK _ ?_;clear hK K));(with_reducible refine wpStill_step (fun K hK=>?_));go_simp;(with_reducible refine⟨.bool true,(HASC w1.drew).out,hK _ ?_⟩);(iterate 9 (clear hK K;with_reducible refine wpStill_step (fun K hK=>?_);go_simp;with_reducible refine hK _ ?_));clear hK K;(with_reducible refine wpStill_step (fun K hK=>?_));go_simp;(with_reducible refine⟨.bool true,(HSP w1.drew).out,hK _ ?_⟩);(iterate 3 (clear hK K;with_reducible refine wpStill_step (fun K hK=>?_);go_simp;with_reducible refine hK _ ?_));clear hK K;(with_reducible refine wpStill_nil ?_);(go_wp2_with fail);refine(AD false).out.mono ?_;rintro e w2 ⟨rfl,hst⟩;(have NX:Hid (AdSt w C (m+1) h (.slice Ar h.recs.length cr) [(Bo,h.name,Ca h.name)] w2):=by rw[HM.out];exact hst.out);clear hst AD HASC HSP S0;(go_wp2_with fail);(with_reducible refine wpStill_nil ?_);(go_wp2_with fail);go_meet
     case rel=>exact NX
   ·(have hd:decide ((100:Int)<(h.name.length:Int))=false:=decide_eq_false (by omega));(have hmu:Ca h.name=false:=by unfold Ca;rw[hβ,decide_eq_false hlen];rfl);have HM:=hid hmu;clear hmu hβ;(refine Bh [19] (by kernel_rfl) ?_);simp only[Ce,sD,sE,sF,sG];(iterate 5 (with_reducible refine wpStill_step (fun K hK=>?_);go_simp;with_reducible refine hK _ ?_;clear hK K));(with_reducible refine wpStill_step (fun K hK=>?_));go_simp;(with_reducible refine⟨.bool true,(HASC w1.drew).out,hK _ ?_⟩);(iterate 7 (clear hK K;with_reducible refine wpStill_step (fun K hK=>?_);go_simp;with_reducible refine hK _ ?_));clear hK K;with_reducible refine Bc ?hh ?_
    case hh=>kernel_rfl
    simp only[Act.put,sA,sB,sC];with_reducible refine Bc ?hh ?_
    case hh=>kernel_rfl
    simp only[Act.put,sA,sB,sC];with_reducible refine Bc ?hh ?_
    case hh=>kernel_rfl
    simp only[Act.put,sA,sB,sC];with_reducible refine Bc ?hh ?_
    case hh=>kernel_rfl
    simp only[Act.put,sA,sB,sC];(iterate 2 (with_reducible refine wpStill_step (fun K hK=>?_);go_simp;with_reducible refine hK _ ?_;clear hK K));(with_reducible refine wpStill_nil ?_);(go_wp2_with fail);refine(AD false).out.mono ?_;rintro e w2 ⟨rfl,hst⟩;(have NX:Hid (AdSt w C (m+1) h (.slice Ar h.recs.length cr) [(Bo,h.name,Ca h.name)] w2):=by rw[HM.out];exact hst.out);clear hst AD HASC HSP S0;(go_wp2_with fail);(with_reducible refine wpStill_nil ?_);(go_wp2_with fail);go_meet
    case rel=>exact NX
 case rest=>
 have S1:=hcut;clear hcut;go_upto_region 4 with fail
 go_cut [] from 33 to 46 (fun wx=>Hid (AdSt w C (m+2) h (.slice Ar h.recs.length cr) [(Bo,h.name,Ca h.name),(Br,h.link,Bl 100 h.link)] wx))
 case first=>
  have n1:wc.cell? ⟨w.heap.size+1,2,none⟩=some (.string ⟨h.link.toArray⟩):=S1.out.cell 2 rfl;have HASC:=fun W=>hid (Ew W h.link (by omega))
  unfold B5 at HASC;have AD:=fun must=>hid (Ja (S1.out.grow ((Kp.refl (fun _=>False) wc).drew)) Br h.link must hCw (by omega) (by simp))
  unfold Br at AD;obtain⟨β,hβ⟩:∃β,h.link.all okA=β:=⟨_,rfl⟩;rw[hβ] at HASC;cases β with
  |false=>
   (have hmu:Bl 100 h.link=true:=by unfold Bl;rw[hβ];rfl);have HM:=hid hmu;clear hmu hβ;(refine Bh [13] (by kernel_rfl) ?_);simp only[Ce,sD,sE,sF,sG];(iterate 5 (with_reducible refine wpStill_step (fun K hK=>?_);go_simp;with_reducible refine hK _ ?_;clear hK K));(with_reducible refine wpStill_step (fun K hK=>?_));go_simp;(with_reducible refine⟨.bool false,(HASC wc.drew).out,hK _ ?_⟩);(iterate 2 (clear hK K;with_reducible refine wpStill_step (fun K hK=>?_);go_simp;with_reducible refine hK _ ?_));clear hK K;with_reducible refine Bc ?hh ?_
   case hh=>kernel_rfl
   simp only[Act.put,sA,sB,sC];with_reducible refine Bc ?hh ?_
   case hh=>kernel_rfl
   simp only[Act.put,sA,sB,sC];with_reducible refine Bc ?hh ?_
   case hh=>kernel_rfl
   simp only[Act.put,sA,sB,sC];with_reducible refine Bc ?hh ?_
   case hh=>kernel_rfl
   simp only[Act.put,sA,sB,sC];(with_reducible refine wpStill_step (fun K hK=>?_));go_simp;(with_reducible refine hK _ ?_);clear hK K;(with_reducible refine wpStill_nil ?_);(go_wp2_with fail);refine(AD true).out.mono ?_;rintro e w2 ⟨rfl,hst⟩;(have NX:Hid (AdSt w C (m+2) h (.slice Ar h.recs.length cr) [(Bo,h.name,Ca h.name),(Br,h.link,Bl 100 h.link)] w2):=by rw[HM.out];exact hst.out);clear hst AD HASC S1;(go_wp2_with fail);(with_reducible refine wpStill_nil ?_);(go_wp2_with fail);go_meet
   case rel=>exact NX
  |true=>
   obtain⟨γ,hγ⟩:∃γ,decide ((100:Int)<(h.link.length:Int))=γ:=⟨_,rfl⟩;have hmu:Bl 100 h.link=γ:=by
    unfold Bl;rw[hβ,←hγ];show (false||decide (100<h.link.length))=_;rw[Bool.false_or];exact decide_eq_decide.2 (by omega)
   have HM:=hid hmu;clear hmu hβ;(refine Bh [13] (by kernel_rfl) ?_);simp only[Ce,sD,sE,sF,sG];(iterate 5 (with_reducible refine wpStill_step (fun K hK=>?_);go_simp;with_reducible refine hK _ ?_;clear hK K));(with_reducible refine wpStill_step (fun K hK=>?_));go_simp;(with_reducible refine⟨.bool true,(HASC wc.drew).out,hK _ ?_⟩);(iterate 7 (clear hK K;with_reducible refine wpStill_step (fun K hK=>?_);go_simp;with_reducible refine hK _ ?_));clear hK K;(with_reducible refine wpStill_nil ?_);(go_wp2_with fail);refine(AD γ).out.mono ?_;rintro e w2 ⟨rfl,hst⟩;(have NX:Hid (AdSt w C (m+2) h (.slice Ar h.recs.length cr) [(Bo,h.name,Ca h.name),(Br,h.link,Bl 100 h.link)] w2):=by rw[HM.out];exact hst.out);clear hst AD HASC S1;(go_wp2_with fail);(with_reducible refine wpStill_nil ?_);(go_wp2_with fail);go_meet
   case rel=>exact NX
 case rest=>
 have S1:=hcut;clear hcut;go_upto_region 5 with fail
 go_cut [] from 47 to 60 (fun wx=>Hid (AdSt w C (m+3) h (.slice Ar h.recs.length cr) [(Bo,h.name,Ca h.name),(Br,h.link,Bl 100 h.link),(Bj,h.un,Bl 31 h.un)] wx))
 case first=>
  have n1:wc.cell? ⟨w.heap.size+1,7,none⟩=some (.string ⟨h.un.toArray⟩):=S1.out.cell 7 rfl;have HASC:=fun W=>hid (Ew W h.un (by omega))
  unfold B5 at HASC;have AD:=fun must=>hid (Ja (S1.out.grow ((Kp.refl (fun _=>False) wc).drew)) Bj h.un must hCw (by omega) (by simp))
  unfold Bj at AD;obtain⟨β,hβ⟩:∃β,h.un.all okA=β:=⟨_,rfl⟩;rw[hβ] at HASC;cases β with
  |false=>
   (have hmu:Bl 31 h.un=true:=by unfold Bl;rw[hβ];rfl);have HM:=hid hmu;clear hmu hβ;(refine Bh [13] (by kernel_rfl) ?_);simp only[Ce,sD,sE,sF,sG];(iterate 5 (with_reducible refine wpStill_step (fun K hK=>?_);go_simp;with_reducible refine hK _ ?_;clear hK K));(with_reducible refine wpStill_step (fun K hK=>?_));go_simp;(with_reducible refine⟨.bool false,(HASC wc.drew).out,hK _ ?_⟩);(iterate 2 (clear hK K;with_reducible refine wpStill_step (fun K hK=>?_);go_simp;with_reducible refine hK _ ?_));clear hK K;with_reducible refine Bc ?hh ?_
   case hh=>kernel_rfl
   simp only[Act.put,sA,sB,sC];with_reducible refine Bc ?hh ?_
   case hh=>kernel_rfl
   simp only[Act.put,sA,sB,sC];with_reducible refine Bc ?hh ?_
   case hh=>kernel_rfl
   simp only[Act.put,sA,sB,sC];with_reducible refine Bc ?hh ?_
   case hh=>kernel_rfl
   simp only[Act.put,sA,sB,sC];(with_reducible refine wpStill_step (fun K hK=>?_));go_simp;(with_reducible refine hK _ ?_);clear hK K;(with_reducible refine wpStill_nil ?_);(go_wp2_with fail);refine(AD true).out.mono ?_;rintro e w2 ⟨rfl,hst⟩;(have NX:Hid (AdSt w C (m+3) h (.slice Ar h.recs.length cr) [(Bo,h.name,Ca h.name),(Br,h.link,Bl 100 h.link),(Bj,h.un,Bl 31 h.un)] w2):=by rw[HM.out];exact hst.out);clear hst AD HASC S1;(go_wp2_with fail);(with_reducible refine wpStill_nil ?_);(go_wp2_with fail);go_meet
   case rel=>exact NX
  |true=>
   obtain⟨γ,hγ⟩:∃γ,decide ((31:Int)<(h.un.length:Int))=γ:=⟨_,rfl⟩;have hmu:Bl 31 h.un=γ:=by
    unfold Bl;rw[hβ,←hγ];show (false||decide (31<h.un.length))=_;rw[Bool.false_or];exact decide_eq_decide.2 (by omega)
   have HM:=hid hmu;clear hmu hβ;(refine Bh [13] (by kernel_rfl) ?_);simp only[Ce,sD,sE,sF,sG];(iterate 5 (with_reducible refine wpStill_step (fun K hK=>?_);go_simp;with_reducible refine hK _ ?_;clear hK K));(with_reducible refine wpStill_step (fun K hK=>?_));go_simp;(with_reducible refine⟨.bool true,(HASC wc.drew).out,hK _ ?_⟩);(iterate 7 (clear hK K;with_reducible refine wpStill_step (fun K hK=>?_);go_simp;with_reducible refine hK _ ?_));clear hK K;(with_reducible refine wpStill_nil ?_);(go_wp2_with fail);refine(AD γ).out.mono ?_;rintro e w2 ⟨rfl,hst⟩;(have NX:Hid (AdSt w C (m+3) h (.slice Ar h.recs.length cr) [(Bo,h.name,Ca h.name),(Br,h.link,Bl 100 h.link),(Bj,h.un,Bl 31 h.un)] w2):=by rw[HM.out];exact hst.out);clear hst AD HASC S1;(go_wp2_with fail);(with_reducible refine wpStill_nil ?_);(go_wp2_with fail);go_meet
   case rel=>exact NX
 case rest=>
 have S1:=hcut;clear hcut;go_upto_region 6 with fail
 go_cut [] from 61 to 74 (fun wx=>Hid (AdSt w C (m+4) h (.slice Ar h.recs.length cr) [(Bo,h.name,Ca h.name),(Br,h.link,Bl 100 h.link),(Bj,h.un,Bl 31 h.un),(Bm,h.gn,Bl 31 h.gn)] wx))
 case first=>
  have n1:wc.cell? ⟨w.heap.size+1,8,none⟩=some (.string ⟨h.gn.toArray⟩):=S1.out.cell 8 rfl;have HASC:=fun W=>hid (Ew W h.gn (by omega))
  unfold B5 at HASC;have AD:=fun must=>hid (Ja (S1.out.grow ((Kp.refl (fun _=>False) wc).drew)) Bm h.gn must hCw (by omega) (by simp))
  unfold Bm at AD;obtain⟨β,hβ⟩:∃β,h.gn.all okA=β:=⟨_,rfl⟩;rw[hβ] at HASC;cases β with
  |false=>
   (have hmu:Bl 31 h.gn=true:=by unfold Bl;rw[hβ];rfl);have HM:=hid hmu;clear hmu hβ;(refine Bh [13] (by kernel_rfl) ?_);simp only[Ce,sD,sE,sF,sG];(iterate 5 (with_reducible refine wpStill_step (fun K hK=>?_);go_simp;with_reducible refine hK _ ?_;clear hK K));(with_reducible refine wpStill_step (fun K hK=>?_));go_simp;(with_reducible refine⟨.bool false,(HASC wc.drew).out,hK _ ?_⟩);(iterate 2 (clear hK K;with_reducible refine wpStill_step (fun K hK=>?_);go_simp;with_reducible refine hK _ ?_));clear hK K;with_reducible refine Bc ?hh ?_
   case hh=>kernel_rfl
   simp only[Act.put,sA,sB,sC];with_reducible refine Bc ?hh ?_
   case hh=>kernel_rfl
   simp only[Act.put,sA,sB,sC];with_reducible refine Bc ?hh ?_
   case hh=>kernel_rfl
   simp only[Act.put,sA,sB,sC];with_reducible refine Bc ?hh ?_
   case hh=>kernel_rfl
   simp only[Act.put,sA,sB,sC];(with_reducible refine wpStill_step (fun K hK=>?_));go_simp;(with_reducible refine hK _ ?_);clear hK K;(with_reducible refine wpStill_nil ?_);(go_wp2_with fail);refine(AD true).out.mono ?_;rintro e w2 ⟨rfl,hst⟩;(have NX:Hid (AdSt w C (m+4) h (.slice Ar h.recs.length cr) [(Bo,h.name,Ca h.name),(Br,h.link,Bl 100 h.link),(Bj,h.un,Bl 31 h.un),(Bm,h.gn,Bl 31 h.gn)] w2):=by rw[HM.out];exact hst.out);clear hst AD HASC S1;(go_wp2_with fail);(with_reducible refine wpStill_nil ?_);(go_wp2_with fail);go_meet
   case rel=>exact NX
  |true=>
   obtain⟨γ,hγ⟩:∃γ,decide ((31:Int)<(h.gn.length:Int))=γ:=⟨_,rfl⟩;have hmu:Bl 31 h.gn=γ:=by
    unfold Bl;rw[hβ,←hγ];show (false||decide (31<h.gn.length))=_;rw[Bool.false_or];exact decide_eq_decide.2 (by omega)
   have HM:=hid hmu;clear hmu hβ;(refine Bh [13] (by kernel_rfl) ?_);simp only[Ce,sD,sE,sF,sG];(iterate 5 (with_reducible refine wpStill_step (fun K hK=>?_);go_simp;with_reducible refine hK _ ?_;clear hK K));(with_reducible refine wpStill_step (fun K hK=>?_));go_simp;(with_reducible refine⟨.bool true,(HASC wc.drew).out,hK _ ?_⟩);(iterate 7 (clear hK K;with_reducible refine wpStill_step (fun K hK=>?_);go_simp;with_reducible refine hK _ ?_));clear hK K;(with_reducible refine wpStill_nil ?_);(go_wp2_with fail);refine(AD γ).out.mono ?_;rintro e w2 ⟨rfl,hst⟩;(have NX:Hid (AdSt w C (m+4) h (.slice Ar h.recs.length cr) [(Bo,h.name,Ca h.name),(Br,h.link,Bl 100 h.link),(Bj,h.un,Bl 31 h.un),(Bm,h.gn,Bl 31 h.gn)] w2):=by rw[HM.out];exact hst.out);clear hst AD HASC S1;(go_wp2_with fail);(with_reducible refine wpStill_nil ?_);(go_wp2_with fail);go_meet
   case rel=>exact NX
 case rest=>
 have S1:=hcut;clear hcut;go_upto_region 7 with fail
 go_cut [] from 75 to 83 (fun wx=>Hid (AdSt w C (m+5) h (.slice Ar h.recs.length cr) [(Bo,h.name,Ca h.name),(Br,h.link,Bl 100 h.link),(Bj,h.un,Bl 31 h.un),(Bm,h.gn,Bl 31 h.gn),(B1,Lib.decDigits h.size.toNat,!Bn 12 h.size)] wx))
 case first=>
  obtain⟨q,hq⟩:∃q:Nat,h.size=(q:Int):=⟨h.size.toNat,by have:=hpos.size;omega⟩
  have hq2:q<9223372036854775808:=by have:=hpos.i.size;omega
  have n1:wc.cell? ⟨w.heap.size+1,3,none⟩=some (.int .i64 (q:Int)):=hq▸S1.out.cell 3 rfl;have HN:=fun W=>hid (E5 W q hq2);have HF:=fun W=>hid (Cx W 12 (q:Int) (by omega) (by omega))
  have AD:=fun w2 (hk:Kp (fun _=>False) wc.drew w2) must=>hid (Ja ((S1.out.grow ((Kp.refl (fun _=>False) wc).drew)).grow hk) B1 (Lib.decDigits q) must hCw (by omega) (by simp))
  unfold B1 at AD;obtain⟨β,hβ⟩:∃β,(decide (0≤(q:Int))&&decide ((q:Int)<8 ^ (12-1)))=β:=⟨_,rfl⟩;rw[hβ] at HF;have hmu:Hid (Bn 12 h.size=β∧h.size.toNat=q):=⟨by rw[hq,←hβ];rfl,by rw[hq];rfl⟩
  clear hβ hq
  go_region_held3 (fun w'=>w'.cell? ⟨w.heap.size+1,3,none⟩=some (.int .i64 (q:Int))) (first|(exact n1)|(exact hk2.cell n1 (fun h=>h))|(exact n3))
   (first
    |(go_at_call 94;refine(HN _).out.mono ?_;rintro e w2 ⟨rfl,hk2⟩)
    |(go_at_call 120;refine(HF _).out.mono ?_;rintro e wx ⟨rfl,rfl⟩)
    |(go_at_call 118;refine(AD _ hk2 (!β)).out.mono ?_;rintro e w3 ⟨rfl,hst⟩;have n3:w3.cell? ⟨w.heap.size+1,3,none⟩=some (.int .i64 (q:Int)):=by(have:=hst.out.cell (v:=.int .i64 h.size) 3 rfl;rw[show h.size=(q:Int) by have:=hmu.out.2;have:=hpos.size;omega] at this;exact this)))
  have NX:Hid (AdSt w C (m+5) h (.slice Ar h.recs.length cr) [(Bo,h.name,Ca h.name),(Br,h.link,Bl 100 h.link),(Bj,h.un,Bl 31 h.un),(Bm,h.gn,Bl 31 h.gn),(B1,Lib.decDigits h.size.toNat,!Bn 12 h.size)] w3):=by rw[hmu.out.1,hmu.out.2];exact hst.out
  rename_i hHeld;clear hHeld hst n3 hk2 n1 AD HN HF S1;go_wp2_with fail
  go_meet
  case rel=>exact NX
 case rest=>
 have S1:=hcut;clear hcut;go_upto_region 8 with fail
 go_cut [] from 84 to 92 (fun wx=>Hid (AdSt w C (m+6) h (.slice Ar h.recs.length cr) [(Bo,h.name,Ca h.name),(Br,h.link,Bl 100 h.link),(Bj,h.un,Bl 31 h.un),(Bm,h.gn,Bl 31 h.gn),(B1,Lib.decDigits h.size.toNat,!Bn 12 h.size),(Ck,Lib.decDigits h.uid.toNat,!Bn 8 h.uid)] wx))
 case first=>
  obtain⟨q,hq⟩:∃q:Nat,h.uid=(q:Int):=⟨h.uid.toNat,by have:=hpos.uid;omega⟩
  have hq2:q<9223372036854775808:=by have:=hpos.i.uid;omega
  have n1:wc.cell? ⟨w.heap.size+1,5,none⟩=some (.int .i64 (q:Int)):=hq▸S1.out.cell 5 rfl;have HN:=fun W=>hid (E5 W q hq2);have HF:=fun W=>hid (Cx W 8 (q:Int) (by omega) (by omega))
  have AD:=fun w2 (hk:Kp (fun _=>False) wc.drew w2) must=>hid (Ja ((S1.out.grow ((Kp.refl (fun _=>False) wc).drew)).grow hk) Ck (Lib.decDigits q) must hCw (by omega) (by simp))
  unfold Ck at AD;obtain⟨β,hβ⟩:∃β,(decide (0≤(q:Int))&&decide ((q:Int)<8 ^ (8-1)))=β:=⟨_,rfl⟩;rw[hβ] at HF;have hmu:Hid (Bn 8 h.uid=β∧h.uid.toNat=q):=⟨by rw[hq,←hβ];rfl,by rw[hq];rfl⟩
  clear hβ hq
  go_region_held3 (fun w'=>w'.cell? ⟨w.heap.size+1,5,none⟩=some (.int .i64 (q:Int))) (first|(exact n1)|(exact hk2.cell n1 (fun h=>h))|(exact n3))
   (first
    |(go_at_call 94;refine(HN _).out.mono ?_;rintro e w2 ⟨rfl,hk2⟩)
    |(go_at_call 120;refine(HF _).out.mono ?_;rintro e wx ⟨rfl,rfl⟩)
    |(go_at_call 118;refine(AD _ hk2 (!β)).out.mono ?_;rintro e w3 ⟨rfl,hst⟩;have n3:w3.cell? ⟨w.heap.size+1,5,none⟩=some (.int .i64 (q:Int)):=by(have:=hst.out.cell (v:=.int .i64 h.uid) 5 rfl;rw[show h.uid=(q:Int) by have:=hmu.out.2;have:=hpos.uid;omega] at this;exact this)))
  have NX:Hid (AdSt w C (m+6) h (.slice Ar h.recs.length cr) [(Bo,h.name,Ca h.name),(Br,h.link,Bl 100 h.link),(Bj,h.un,Bl 31 h.un),(Bm,h.gn,Bl 31 h.gn),(B1,Lib.decDigits h.size.toNat,!Bn 12 h.size),(Ck,Lib.decDigits h.uid.toNat,!Bn 8 h.uid)] w3):=by rw[hmu.out.1,hmu.out.2];exact hst.out
  rename_i hHeld;clear hHeld hst n3 hk2 n1 AD HN HF S1;go_wp2_with fail
  go_meet
  case rel=>exact NX
 case rest=>
 have S1:=hcut;clear hcut;go_upto_region 9 with fail
 go_cut [] from 93 to 101 (fun wx=>Hid (AdSt w C (m+7) h (.slice Ar h.recs.length cr) [(Bo,h.name,Ca h.name),(Br,h.link,Bl 100 h.link),(Bj,h.un,Bl 31 h.un),(Bm,h.gn,Bl 31 h.gn),(B1,Lib.decDigits h.size.toNat,!Bn 12 h.size),(Ck,Lib.decDigits h.uid.toNat,!Bn 8 h.uid),(Cn,Lib.decDigits h.gid.toNat,!Bn 8 h.gid)] wx))
 case first=>
  obtain⟨q,hq⟩:∃q:Nat,h.gid=(q:Int):=⟨h.gid.toNat,by have:=hpos.gid;omega⟩
  have hq2:q<9223372036854775808:=by have:=hpos.i.gid;omega
  have n1:wc.cell? ⟨w.heap.size+1,6,none⟩=some (.int .i64 (q:Int)):=hq▸S1.out.cell 6 rfl;have HN:=fun W=>hid (E5 W q hq2);have HF:=fun W=>hid (Cx W 8 (q:Int) (by omega) (by omega))
  have AD:=fun w2 (hk:Kp (fun _=>False) wc.drew w2) must=>hid (Ja ((S1.out.grow ((Kp.refl (fun _=>False) wc).drew)).grow hk) Cn (Lib.decDigits q) must hCw (by omega) (by simp))
  unfold Cn at AD;obtain⟨β,hβ⟩:∃β,(decide (0≤(q:Int))&&decide ((q:Int)<8 ^ (8-1)))=β:=⟨_,rfl⟩;rw[hβ] at HF;have hmu:Hid (Bn 8 h.gid=β∧h.gid.toNat=q):=⟨by rw[hq,←hβ];rfl,by rw[hq];rfl⟩
  clear hβ hq
  go_region_held3 (fun w'=>w'.cell? ⟨w.heap.size+1,6,none⟩=some (.int .i64 (q:Int))) (first|(exact n1)|(exact hk2.cell n1 (fun h=>h))|(exact n3))
   (first
    |(go_at_call 94;refine(HN _).out.mono ?_;rintro e w2 ⟨rfl,hk2⟩)
    |(go_at_call 120;refine(HF _).out.mono ?_;rintro e wx ⟨rfl,rfl⟩)
    |(go_at_call 118;refine(AD _ hk2 (!β)).out.mono ?_;rintro e w3 ⟨rfl,hst⟩;have n3:w3.cell? ⟨w.heap.size+1,6,none⟩=some (.int .i64 (q:Int)):=by(have:=hst.out.cell (v:=.int .i64 h.gid) 6 rfl;rw[show h.gid=(q:Int) by have:=hmu.out.2;have:=hpos.gid;omega] at this;exact this)))
  have NX:Hid (AdSt w C (m+7) h (.slice Ar h.recs.length cr) [(Bo,h.name,Ca h.name),(Br,h.link,Bl 100 h.link),(Bj,h.un,Bl 31 h.un),(Bm,h.gn,Bl 31 h.gn),(B1,Lib.decDigits h.size.toNat,!Bn 12 h.size),(Ck,Lib.decDigits h.uid.toNat,!Bn 8 h.uid),(Cn,Lib.decDigits h.gid.toNat,!Bn 8 h.gid)] w3):=by rw[hmu.out.1,hmu.out.2];exact hst.out
  rename_i hHeld;clear hHeld hst n3 hk2 n1 AD HN HF S1;go_wp2_with fail
  go_meet
  case rel=>exact NX
 case rest=>
 have S1:=hcut;clear hcut;go_upto_region 10 with fail
 go_cut [] from 102 to 119 (fun wx=>Hid (∃z,z≤1∧AdSt w C (m+9) h (.slice Ar h.recs.length cr) ([(Bo,h.name,Ca h.name),(Br,h.link,Bl 100 h.link),(Bj,h.un,Bl 31 h.un),(Bm,h.gn,Bl 31 h.gn),(B1,Lib.decDigits h.size.toNat,!Bn 12 h.size),(Ck,Lib.decDigits h.uid.toNat,!Bn 8 h.uid),(Cn,Lib.decDigits h.gid.toNat,!Bn 8 h.gid)]++[(kMtime,Bg h.ms h.mn z,!decide (h.mn=0)|| !Bn 12 h.ms)]) wx))
 case first=>
  obtain⟨n,hnn⟩:∃n,h.mn=n:=⟨_,rfl⟩;have cp:wc.cell? ⟨w.heap.size,0,none⟩=some (.pointer (some ⟨C,0,none⟩)):=S1.out.cptr;have n9:wc.cell? ⟨w.heap.size+1,9,none⟩=some (.int .i64 h.ms):=S1.out.cell 9 rfl;have n10:wc.cell? ⟨w.heap.size+1,10,none⟩=some (.int .i64 n):=hnn▸S1.out.cell 10 rfl;have hms:=hpos.ms;have hmn:=hpos.mn;have S1d:=hid (S1.out.grow ((Kp.refl (fun _=>False) wc).drew));have HO:Hid (Calls Tryz.prog 39 #[.pointer (some ⟨C,0,none⟩), .int .i64 2] wc.drew fun e w'=>∃v:Nat,v<2∧e=.returned (.int .i64 v)∧Hid (AdSt w C (m+8) h (.slice Ar h.recs.length cr) [(Bo,h.name,Ca h.name),(Br,h.link,Bl 100 h.link),(Bj,h.un,Bl 31 h.un),(Bm,h.gn,Bl 31 h.gn),(B1,Lib.decDigits h.size.toNat,!Bn 12 h.size),(Ck,Lib.decDigits h.uid.toNat,!Bn 8 h.uid),(Cn,Lib.decDigits h.gid.toNat,!Bn 8 h.gid)] w')∧(w'.cell? ⟨w.heap.size,0,none⟩=some (.pointer (some ⟨C,0,none⟩))∧w'.cell? ⟨w.heap.size+1,9,none⟩=some (.int .i64 h.ms)∧w'.cell? ⟨w.heap.size+1,10,none⟩=some (.int .i64 n))):=by
   obtain⟨l,_,hst⟩:=S1d.out;(refine(Cs wc.drew C (m+7) 2 hst.cho (by omega) (by omega)).mono ?_);rintro e w' ⟨⟨v,hv,rfl⟩,hk,hc⟩;have sx:=S1d.out.chose hCw hk hc;exact⟨v,hv,rfl,sx,sx.cptr,sx.cell 9 rfl,hnn▸sx.cell 10 rfl⟩
  have HT:∀W v,v<2→Hid (AdSt w C (m+8) h (.slice Ar h.recs.length cr) [(Bo,h.name,Ca h.name),(Br,h.link,Bl 100 h.link),(Bj,h.un,Bl 31 h.un),(Bm,h.gn,Bl 31 h.gn),(B1,Lib.decDigits h.size.toNat,!Bn 12 h.size),(Ck,Lib.decDigits h.uid.toNat,!Bn 8 h.uid),(Cn,Lib.decDigits h.gid.toNat,!Bn 8 h.gid)] W)→Hid (Calls Tryz.prog 121 #[.agg #[.int .i64 h.ms, .int .i64 n], .int .i64 ((v:Nat):Int)] W fun e w'=>e=.returned (.string ⟨(Bg h.ms n v).toArray⟩)∧Hid (AdSt w C (m+8) h (.slice Ar h.recs.length cr) [(Bo,h.name,Ca h.name),(Br,h.link,Bl 100 h.link),(Bj,h.un,Bl 31 h.un),(Bm,h.gn,Bl 31 h.gn),(B1,Lib.decDigits h.size.toNat,!Bn 12 h.size),(Ck,Lib.decDigits h.uid.toNat,!Bn 8 h.uid),(Cn,Lib.decDigits h.gid.toNat,!Bn 8 h.gid)] w')∧(w'.cell? ⟨w.heap.size,0,none⟩=some (.pointer (some ⟨C,0,none⟩))∧w'.cell? ⟨w.heap.size+1,9,none⟩=some (.int .i64 h.ms)∧w'.cell? ⟨w.heap.size+1,10,none⟩=some (.int .i64 n))):=fun W v hv hs=>by
   (refine(Ic W h.ms n v hms (hnn▸hmn) (by omega)).mono ?_);rintro e w' ⟨rfl,hk⟩;have sx:=hs.out.grow hk;exact⟨rfl,sx,sx.cptr,sx.cell 9 rfl,hnn▸sx.cell 10 rfl⟩
  have HF:=fun W=>hid (Cx W 12 h.ms (by omega) (by omega))
  have AD:∀W v must,Hid (AdSt w C (m+8) h (.slice Ar h.recs.length cr) [(Bo,h.name,Ca h.name),(Br,h.link,Bl 100 h.link),(Bj,h.un,Bl 31 h.un),(Bm,h.gn,Bl 31 h.gn),(B1,Lib.decDigits h.size.toNat,!Bn 12 h.size),(Ck,Lib.decDigits h.uid.toNat,!Bn 8 h.uid),(Cn,Lib.decDigits h.gid.toNat,!Bn 8 h.gid)] W)→Hid (Calls Tryz.prog 118 #[.string ⟨kMtime.toArray⟩, .string ⟨(Bg h.ms n v).toArray⟩, .bool must, .pointer (some ⟨w.heap.size,0,none⟩), .pointer (some ⟨w.heap.size+2,0,none⟩)] W fun e w'=>e=.returned (.tuple #[])∧Hid (AdSt w C (m+9) h (.slice Ar h.recs.length cr) ([(Bo,h.name,Ca h.name),(Br,h.link,Bl 100 h.link),(Bj,h.un,Bl 31 h.un),(Bm,h.gn,Bl 31 h.gn),(B1,Lib.decDigits h.size.toNat,!Bn 12 h.size),(Ck,Lib.decDigits h.uid.toNat,!Bn 8 h.uid),(Cn,Lib.decDigits h.gid.toNat,!Bn 8 h.gid)]++[(kMtime,Bg h.ms n v,must)]) w')∧(w'.cell? ⟨w.heap.size,0,none⟩=some (.pointer (some ⟨C,0,none⟩))∧w'.cell? ⟨w.heap.size+1,9,none⟩=some (.int .i64 h.ms)∧w'.cell? ⟨w.heap.size+1,10,none⟩=some (.int .i64 n))):=fun W v must hs=>by
   (refine(Ja hs.out kMtime (Bg h.ms n v) must hCw (by omega) (by simp)).mono ?_);rintro e w' ⟨rfl,hx⟩;exact⟨rfl,hx,hx.out.cptr,hx.out.cell 9 rfl,hnn▸hx.out.cell 10 rfl⟩
  unfold kMtime at AD;by_cases hn0:n=0
  ·subst hn0;obtain⟨β,hβ⟩:∃β,(decide (0≤h.ms)&&decide (h.ms<8 ^ (12-1)))=β:=⟨_,rfl⟩;rw[hβ] at HF;(have hmu:Hid ((!decide (h.mn=0)|| !Bn 12 h.ms)= !β):=by show _=_;rw[hnn,←hβ];rfl);clear hβ
   go_region_held3 (fun w'=>w'.cell? ⟨w.heap.size,0,none⟩=some (.pointer (some ⟨C,0,none⟩))∧w'.cell? ⟨w.heap.size+1,9,none⟩=some (.int .i64 h.ms)∧w'.cell? ⟨w.heap.size+1,10,none⟩=some (.int .i64 0)) (first|(exact⟨cp,n9,n10⟩)|(exact hf2)|(exact hf3)|(exact hf4))
    (first
     |(go_at_call 39;refine HO.out.mono ?_;rintro e w2 ⟨v,hv,rfl,hs2,hf2⟩)
     |(go_at_call 121;refine(HT _ v hv hs2).out.mono ?_;rintro e w3 ⟨rfl,hs3,hf3⟩)
     |(go_at_call 120;refine(HF _).out.mono ?_;rintro e wx ⟨rfl,rfl⟩)
     |(go_at_call 118;refine(AD _ v (!β) hs3).out.mono ?_;rintro e w4 ⟨rfl,hs4,hf4⟩))
   (have NX:Hid (∃z,z≤1∧AdSt w C (m+9) h (.slice Ar h.recs.length cr) ([(Bo,h.name,Ca h.name),(Br,h.link,Bl 100 h.link),(Bj,h.un,Bl 31 h.un),(Bm,h.gn,Bl 31 h.gn),(B1,Lib.decDigits h.size.toNat,!Bn 12 h.size),(Ck,Lib.decDigits h.uid.toNat,!Bn 8 h.uid),(Cn,Lib.decDigits h.gid.toNat,!Bn 8 h.gid)]++[(kMtime,Bg h.ms h.mn z,!decide (h.mn=0)|| !Bn 12 h.ms)]) w4):=⟨v,by omega,by rw[hmu.out,hnn];exact hs4.out⟩);rename_i hHeld;clear hHeld hf2 hf3 hf4 hs2 hs3 hs4 S1 S1d AD HT HO HF;(go_wp2_with fail);go_meet
   case rel=>exact NX
  ·(have hmu:Hid ((!decide (h.mn=0)|| !Bn 12 h.ms)=true):=by show _=_;rw[hnn,decide_eq_false hn0];rfl);(have hnb:(n != 0)=true:=by rw[bne_iff_ne];exact hn0);refine wp_region_held_drew (S:=(fun w'=>w'.cell? ⟨w.heap.size,0,none⟩=some (.pointer (some ⟨C,0,none⟩))∧w'.cell? ⟨w.heap.size+1,9,none⟩=some (.int .i64 h.ms)∧w'.cell? ⟨w.heap.size+1,10,none⟩=some (.int .i64 n))) (by kernel_rfl) ?_ (fun hHeld=>?_)
   ·exact⟨cp,n9,n10⟩
   (refine wpAnyH_take (i:=0) (v:=?_) rfl (by kernel_rfl) (by kernel_rfl) (by kernel_rfl) (fun _ _ _ h=>h) (Or.inl ⟨by rfl,?_⟩) (by assumption) ?_);rotate_left 1
   ·intro W hSw;(try dsimp only at hSw);go_simp;(try with_reducible rfl)
   (try simp only[Act.put,sA,sB,sC]);(refine wpAnyH_take (i:=1) (v:=?_) rfl (by kernel_rfl) (by kernel_rfl) (by kernel_rfl) (fun _ _ _ h=>h) (Or.inl ⟨by rfl,?_⟩) (by assumption) ?_);rotate_left 1
   ·intro W hSw;(try dsimp only at hSw);go_simp;(try with_reducible rfl)
   (try simp only[Act.put,sA,sB,sC]);(refine wpAnyH_take (i:=2) (v:=?_) rfl (by kernel_rfl) (by kernel_rfl) (by kernel_rfl) (fun _ _ _ h=>h) (Or.inl ⟨by rfl,?_⟩) (by assumption) ?_);rotate_left 1
   ·intro W hSw;(try dsimp only at hSw);go_simp;(try with_reducible rfl)
   (try simp only[Act.put,sA,sB,sC]);(refine wpAnyH_take (i:=3) (v:=?_) rfl (by kernel_rfl) (by kernel_rfl) (by kernel_rfl) (fun _ _ _ h=>h) (Or.inl ⟨by rfl,?_⟩) (by assumption) ?_);rotate_left 1
   ·intro W hSw;(try dsimp only at hSw);go_simp;(try with_reducible rfl)
   (try simp only[Act.put,sA,sB,sC]);(refine wpAnyH_take (i:=6) (v:=?_) rfl (by kernel_rfl) (by kernel_rfl) (by kernel_rfl) (fun _ _ _ h=>h) (Or.inl ⟨by rfl,?_⟩) (by assumption) ?_);rotate_left 1
   ·intro W hSw;(try dsimp only at hSw);go_simp;(try with_reducible rfl)
   (try simp only[Act.put,sA,sB,sC]);(refine wpAnyH_take (i:=7) (v:=?_) rfl (by kernel_rfl) (by kernel_rfl) (by kernel_rfl) (fun _ _ _ h=>h) (Or.inl ⟨by rfl,?_⟩) (by assumption) ?_);rotate_left 1
   ·intro W hSw;(try dsimp only at hSw);go_simp;(try with_reducible rfl)
   (try simp only[Act.put,sA,sB,sC]);(refine wpAnyH_take (i:=8) (v:=?_) rfl (by kernel_rfl) (by kernel_rfl) (by kernel_rfl) (fun _ _ _ h=>h) (Or.inl ⟨by rfl,?_⟩) (by assumption) ?_);rotate_left 1
   ·intro W hSw;(try dsimp only at hSw);go_simp;(try with_reducible rfl)
   (try simp only[Act.put,sA,sB,sC]);(refine wpAnyH_take (i:=9) (v:=?_) rfl (by kernel_rfl) (by kernel_rfl) (by kernel_rfl) (fun _ _ _ h=>h) (Or.inl ⟨by rfl,?_⟩) (by assumption) ?_);rotate_left 1
   ·intro W hSw;(try dsimp only at hSw);go_simp;(try with_reducible rfl)
   (try simp only[Act.put,sA,sB,sC]);(try rw[hnb]);(refine wpAnyH_ready (rs:=[4]) (by kernel_rfl) (by simp) ?_);refine AllReadyH.cons (o:=_) rfl (fun K hK=>?_) AllReadyH.nil;go_simp;(go_at_call 39);refine HO.out.mono ?_;rintro e w2 ⟨v,hv,rfl,hs2,hf2⟩;(go_wp2_with fail);refine hK.out _ _ ?_ (fun hHeld=>?_)
   ·exact hf2
   clear hK K;(try simp only[Act.put,sA,sB,sC]);(refine wpAnyH_ready (rs:=[5]) (by kernel_rfl) (by simp) ?_);refine AllReadyH.cons (o:=_) rfl (fun K hK=>?_) AllReadyH.nil;go_simp;(go_at_call 121);refine(HT _ v hv hs2).out.mono ?_;rintro e w3 ⟨rfl,hs3,hf3⟩;(go_wp2_with fail);refine hK.out _ _ ?_ (fun hHeld=>?_)
   ·exact hf3
   clear hK K;(try simp only[Act.put,sA,sB,sC]);(refine wpAnyH_take (i:=10) (v:=?_) rfl (by kernel_rfl) (by kernel_rfl) (by kernel_rfl) (fun _ _ _ h=>h) (Or.inl ⟨by rfl,?_⟩) (by assumption) ?_);rotate_left 1
   ·intro W hSw;(try dsimp only at hSw);go_simp;(try with_reducible rfl)
   (try simp only[Act.put,sA,sB,sC]);(try rw[hnb]);(refine wpAnyH_take (i:=11) (v:=undef) rfl (by kernel_rfl) (by kernel_rfl) (by kernel_rfl) (fun _ _ _ h=>h) (Or.inr ⟨by kernel_rfl,rfl⟩) (by assumption) ?_);(try simp only[Act.put,sA,sB,sC]);(refine wpAnyH_take (i:=12) (v:=undef) rfl (by kernel_rfl) (by kernel_rfl) (by kernel_rfl) (fun _ _ _ h=>h) (Or.inr ⟨by kernel_rfl,rfl⟩) (by assumption) ?_);(try simp only[Act.put,sA,sB,sC]);(refine wpAnyH_take (i:=13) (v:=undef) rfl (by kernel_rfl) (by kernel_rfl) (by kernel_rfl) (fun _ _ _ h=>h) (Or.inr ⟨by kernel_rfl,rfl⟩) (by assumption) ?_);(try simp only[Act.put,sA,sB,sC]);(refine wpAnyH_ready (rs:=[14]) (by kernel_rfl) (by simp) ?_);refine AllReadyH.cons (o:=_) rfl (fun K hK=>?_) AllReadyH.nil;go_simp;refine hK.out _ _ hf3 (fun hHeld=>?_);clear hK K;(try simp only[Act.put,sA,sB,sC]);(refine wpAnyH_take (i:=15) (v:=undef) rfl (by kernel_rfl) (by kernel_rfl) (by kernel_rfl) (fun _ _ _ h=>h) (Or.inr ⟨by kernel_rfl,rfl⟩) (by assumption) ?_);try simp only[Act.put,sA,sB,sC]
   (refine wpAnyH_take (i:=16) (v:=?_) rfl (by kernel_rfl) (by kernel_rfl) (by kernel_rfl) (fun _ _ _ h=>h) (Or.inl ⟨by rfl,?_⟩) (by assumption) ?_);rotate_left 1
   ·intro W hSw;(try dsimp only at hSw);go_simp;(try with_reducible rfl)
   (try simp only[Act.put,sA,sB,sC]);(refine wpAnyH_ready (rs:=[17]) (by kernel_rfl) (by simp) ?_);refine AllReadyH.cons (o:=_) rfl (fun K hK=>?_) AllReadyH.nil;go_simp;(go_at_call 118);refine(AD _ v true hs3).out.mono ?_;rintro e w4 ⟨rfl,hs4,hf4⟩;(go_wp2_with fail);refine hK.out _ _ ?_ (fun hHeld=>?_)
   ·exact hf4
   clear hK K;(try simp only[Act.put,sA,sB,sC]);(refine wpAnyH_done (by kernel_rfl) ?_ _);(have NX:Hid (∃z,z≤1∧AdSt w C (m+9) h (.slice Ar h.recs.length cr) ([(Bo,h.name,Ca h.name),(Br,h.link,Bl 100 h.link),(Bj,h.un,Bl 31 h.un),(Bm,h.gn,Bl 31 h.gn),(B1,Lib.decDigits h.size.toNat,!Bn 12 h.size),(Ck,Lib.decDigits h.uid.toNat,!Bn 8 h.uid),(Cn,Lib.decDigits h.gid.toNat,!Bn 8 h.gid)]++[(kMtime,Bg h.ms h.mn z,!decide (h.mn=0)|| !Bn 12 h.ms)]) w4):=⟨v,by omega,by rw[hmu.out,hnn];exact hs4.out⟩);clear hHeld hf2 hf3 hf4 hs2 hs3 hs4 S1 S1d AD HT HO HF;(go_wp2_with fail);go_meet
   case rel=>exact NX
 case rest=>
 obtain⟨z0,hz0,S1⟩:=hcut.out;clear hcut;obtain⟨ad,had⟩:∃ad,[(Bo,h.name,Ca h.name),(Br,h.link,Bl 100 h.link),(Bj,h.un,Bl 31 h.un),(Bm,h.gn,Bl 31 h.gn),(B1,Lib.decDigits h.size.toNat,!Bn 12 h.size),(Ck,Lib.decDigits h.uid.toNat,!Bn 8 h.uid),(Cn,Lib.decDigits h.gid.toNat,!Bn 8 h.gid)]++[(kMtime,Bg h.ms h.mn z0,!decide (h.mn=0)|| !Bn 12 h.ms)]=ad:=⟨_,rfl⟩;have hadl:ad.length≤50:=by rw[←had];simp
 rw[had] at S1;have HADz0:=hid had;clear had;obtain⟨bb,hbb⟩:∃bb,h.hasA=bb:=⟨_,rfl⟩;have nb:wc.cell? ⟨w.heap.size+1,11,none⟩=some (.bool bb):=hbb▸S1.cell 11 rfl;have HBB:=hid hbb;have HS1:=hid S1;clear S1 hbb;go_upto_if 121 with fail
 go_cut [] from 122 to 128 (fun wx=>Hid (∃z,z≤1∧AdSt w C (m+11) h (.slice Ar h.recs.length cr) (ad++(if h.hasA then [(kAtime,Bg h.ats h.atn z,true)] else [])) wx))
 case first=>
  cases bb with
  |false=>
   have NX:Hid (∃z,z≤1∧AdSt w C (m+11) h (.slice Ar h.recs.length cr) (ad++(if h.hasA then [(kAtime,Bg h.ats h.atn z,true)] else [])) wc):=by
    obtain⟨l,h1,h2⟩:=HS1.out;(refine⟨0,by omega,l,?_,h2.more (by omega)⟩);rw[HBB.out];simpa using h1
   clear HS1 nb;(go_wp2_with fail);go_meet
   case rel=>exact NX
  |true=>
   have hb:=hpos.acc HBB.out;have cp:wc.cell? ⟨w.heap.size,0,none⟩=some (.pointer (some ⟨C,0,none⟩)):=HS1.out.cptr;have n1:wc.cell? ⟨w.heap.size+1,13,none⟩=some (.int .i64 h.ats):=HS1.out.cell 13 rfl;have n2:wc.cell? ⟨w.heap.size+1,14,none⟩=some (.int .i64 h.atn):=HS1.out.cell 14 rfl;have S1d:=hid (HS1.out.grow ((Kp.refl (fun _=>False) wc).drew));have HO:Hid (Calls Tryz.prog 39 #[.pointer (some ⟨C,0,none⟩), .int .i64 2] wc.drew fun e w'=>∃v:Nat,v<2∧e=.returned (.int .i64 v)∧Hid (AdSt w C (m+10) h (.slice Ar h.recs.length cr) ad w')∧(w'.cell? ⟨w.heap.size,0,none⟩=some (.pointer (some ⟨C,0,none⟩))∧w'.cell? ⟨w.heap.size+1,13,none⟩=some (.int .i64 h.ats)∧w'.cell? ⟨w.heap.size+1,14,none⟩=some (.int .i64 h.atn))):=by
    obtain⟨l,_,hst⟩:=S1d.out;(refine(Cs wc.drew C (m+9) 2 hst.cho (by omega) (by omega)).mono ?_);rintro e w' ⟨⟨v,hv,rfl⟩,hk,hc⟩;have sx:=S1d.out.chose hCw hk hc;exact⟨v,hv,rfl,sx,sx.cptr,sx.cell 13 rfl,sx.cell 14 rfl⟩
   have HT:∀W v,v<2→Hid (AdSt w C (m+10) h (.slice Ar h.recs.length cr) ad W)→Hid (Calls Tryz.prog 121 #[.agg #[.int .i64 h.ats, .int .i64 h.atn], .int .i64 ((v:Nat):Int)] W fun e w'=>e=.returned (.string ⟨(Bg h.ats h.atn v).toArray⟩)∧Hid (AdSt w C (m+10) h (.slice Ar h.recs.length cr) ad w')∧(w'.cell? ⟨w.heap.size,0,none⟩=some (.pointer (some ⟨C,0,none⟩))∧w'.cell? ⟨w.heap.size+1,13,none⟩=some (.int .i64 h.ats)∧w'.cell? ⟨w.heap.size+1,14,none⟩=some (.int .i64 h.atn))):=fun W v hv hs=>by
    (refine(Ic W h.ats h.atn v hb.1 hb.2 (by omega)).mono ?_);rintro e w' ⟨rfl,hk⟩;have sx:=hs.out.grow hk;exact⟨rfl,sx,sx.cptr,sx.cell 13 rfl,sx.cell 14 rfl⟩
   have AD:∀W v,Hid (AdSt w C (m+10) h (.slice Ar h.recs.length cr) ad W)→Hid (Calls Tryz.prog 118 #[.string ⟨kAtime.toArray⟩, .string ⟨(Bg h.ats h.atn v).toArray⟩, .bool true, .pointer (some ⟨w.heap.size,0,none⟩), .pointer (some ⟨w.heap.size+2,0,none⟩)] W fun e w'=>e=.returned (.tuple #[])∧Hid (AdSt w C (m+11) h (.slice Ar h.recs.length cr) (ad++[(kAtime,Bg h.ats h.atn v,true)]) w')∧(w'.cell? ⟨w.heap.size,0,none⟩=some (.pointer (some ⟨C,0,none⟩))∧w'.cell? ⟨w.heap.size+1,13,none⟩=some (.int .i64 h.ats)∧w'.cell? ⟨w.heap.size+1,14,none⟩=some (.int .i64 h.atn))):=fun W v hs=>by
    (refine(Ja hs.out kAtime (Bg h.ats h.atn v) true hCw (by omega) (by omega)).mono ?_);rintro e w' ⟨rfl,hx⟩;exact⟨rfl,hx,hx.out.cptr,hx.out.cell 13 rfl,hx.out.cell 14 rfl⟩
   unfold kAtime at AD;clear HS1;go_wp2_with fail
   go_region_held3 (fun w'=>(w'.cell? ⟨w.heap.size,0,none⟩=some (.pointer (some ⟨C,0,none⟩))∧w'.cell? ⟨w.heap.size+1,13,none⟩=some (.int .i64 h.ats)∧w'.cell? ⟨w.heap.size+1,14,none⟩=some (.int .i64 h.atn))) (first|(exact⟨cp,n1,n2⟩)|(exact hf2)|(exact hf3)|(exact hf4))
    (first
     |(go_at_call 39;refine HO.out.mono ?_;rintro e w2 ⟨v,hv,rfl,hs2,hf2⟩)
     |(go_at_call 121;refine(HT _ v hv hs2).out.mono ?_;rintro e w3 ⟨rfl,hs3,hf3⟩)
     |(go_at_call 118;refine(AD _ v hs3).out.mono ?_;rintro e w4 ⟨rfl,hs4,hf4⟩))
   (have NX:Hid (∃z,z≤1∧AdSt w C (m+11) h (.slice Ar h.recs.length cr) (ad++(if h.hasA then [(kAtime,Bg h.ats h.atn z,true)] else [])) w4):=⟨v,by omega,by rw[HBB.out];exact hs4.out⟩);rename_i hHeld;clear hHeld hf2 hf3 hf4 hs2 hs3 hs4 S1d AD HT HO;(go_wp2_with fail);go_meet
   case rel=>exact NX
 case rest=>
 obtain⟨ad0,had0⟩:∃ad0,ad=ad0:=⟨_,rfl⟩;rw[had0] at hcut HADz0 hadl;have hadl0:ad0.length≤20:=by rw[←HADz0.out];simp
 clear had0;obtain⟨z1,hz1,S1⟩:=hcut.out;clear hcut;obtain⟨ad,had⟩:∃ad,ad0++(if h.hasA then [(kAtime,Bg h.ats h.atn z1,true)] else [])=ad:=⟨_,rfl⟩;have hadl':ad.length≤50:=by rw[←had];split<;>simp<;>omega
 rw[had] at S1;have HADz1:=hid had;clear had;obtain⟨bb,hbb⟩:∃bb,h.hasC=bb:=⟨_,rfl⟩;have nb:wc.cell? ⟨w.heap.size+1,12,none⟩=some (.bool bb):=hbb▸S1.cell 12 rfl;have HBB:=hid hbb;have HS1:=hid S1;clear S1 hbb;go_upto_if 130 with fail
 go_cut [] from 131 to 137 (fun wx=>Hid (∃z,z≤1∧AdSt w C (m+13) h (.slice Ar h.recs.length cr) (ad++(if h.hasC then [(kCtime,Bg h.cts h.ctn z,true)] else [])) wx))
 case first=>
  cases bb with
  |false=>
   have NX:Hid (∃z,z≤1∧AdSt w C (m+13) h (.slice Ar h.recs.length cr) (ad++(if h.hasC then [(kCtime,Bg h.cts h.ctn z,true)] else [])) wc):=by
    obtain⟨l,h1,h2⟩:=HS1.out;(refine⟨0,by omega,l,?_,h2.more (by omega)⟩);rw[HBB.out];simpa using h1
   clear HS1 nb;(go_wp2_with fail);go_meet
   case rel=>exact NX
  |true=>
   have hb:=hpos.chg HBB.out;have cp:wc.cell? ⟨w.heap.size,0,none⟩=some (.pointer (some ⟨C,0,none⟩)):=HS1.out.cptr;have n1:wc.cell? ⟨w.heap.size+1,15,none⟩=some (.int .i64 h.cts):=HS1.out.cell 15 rfl;have n2:wc.cell? ⟨w.heap.size+1,16,none⟩=some (.int .i64 h.ctn):=HS1.out.cell 16 rfl;have S1d:=hid (HS1.out.grow ((Kp.refl (fun _=>False) wc).drew));have HO:Hid (Calls Tryz.prog 39 #[.pointer (some ⟨C,0,none⟩), .int .i64 2] wc.drew fun e w'=>∃v:Nat,v<2∧e=.returned (.int .i64 v)∧Hid (AdSt w C (m+12) h (.slice Ar h.recs.length cr) ad w')∧(w'.cell? ⟨w.heap.size,0,none⟩=some (.pointer (some ⟨C,0,none⟩))∧w'.cell? ⟨w.heap.size+1,15,none⟩=some (.int .i64 h.cts)∧w'.cell? ⟨w.heap.size+1,16,none⟩=some (.int .i64 h.ctn))):=by
    obtain⟨l,_,hst⟩:=S1d.out;(refine(Cs wc.drew C (m+11) 2 hst.cho (by omega) (by omega)).mono ?_);rintro e w' ⟨⟨v,hv,rfl⟩,hk,hc⟩;have sx:=S1d.out.chose hCw hk hc;exact⟨v,hv,rfl,sx,sx.cptr,sx.cell 15 rfl,sx.cell 16 rfl⟩
   have HT:∀W v,v<2→Hid (AdSt w C (m+12) h (.slice Ar h.recs.length cr) ad W)→Hid (Calls Tryz.prog 121 #[.agg #[.int .i64 h.cts, .int .i64 h.ctn], .int .i64 ((v:Nat):Int)] W fun e w'=>e=.returned (.string ⟨(Bg h.cts h.ctn v).toArray⟩)∧Hid (AdSt w C (m+12) h (.slice Ar h.recs.length cr) ad w')∧(w'.cell? ⟨w.heap.size,0,none⟩=some (.pointer (some ⟨C,0,none⟩))∧w'.cell? ⟨w.heap.size+1,15,none⟩=some (.int .i64 h.cts)∧w'.cell? ⟨w.heap.size+1,16,none⟩=some (.int .i64 h.ctn))):=fun W v hv hs=>by
    (refine(Ic W h.cts h.ctn v hb.1 hb.2 (by omega)).mono ?_);rintro e w' ⟨rfl,hk⟩;have sx:=hs.out.grow hk;exact⟨rfl,sx,sx.cptr,sx.cell 15 rfl,sx.cell 16 rfl⟩
   have AD:∀W v,Hid (AdSt w C (m+12) h (.slice Ar h.recs.length cr) ad W)→Hid (Calls Tryz.prog 118 #[.string ⟨kCtime.toArray⟩, .string ⟨(Bg h.cts h.ctn v).toArray⟩, .bool true, .pointer (some ⟨w.heap.size,0,none⟩), .pointer (some ⟨w.heap.size+2,0,none⟩)] W fun e w'=>e=.returned (.tuple #[])∧Hid (AdSt w C (m+13) h (.slice Ar h.recs.length cr) (ad++[(kCtime,Bg h.cts h.ctn v,true)]) w')∧(w'.cell? ⟨w.heap.size,0,none⟩=some (.pointer (some ⟨C,0,none⟩))∧w'.cell? ⟨w.heap.size+1,15,none⟩=some (.int .i64 h.cts)∧w'.cell? ⟨w.heap.size+1,16,none⟩=some (.int .i64 h.ctn))):=fun W v hs=>by
    (refine(Ja hs.out kCtime (Bg h.cts h.ctn v) true hCw (by omega) (by omega)).mono ?_);rintro e w' ⟨rfl,hx⟩;exact⟨rfl,hx,hx.out.cptr,hx.out.cell 15 rfl,hx.out.cell 16 rfl⟩
   unfold kCtime at AD;clear HS1;go_wp2_with fail
   go_region_held3 (fun w'=>(w'.cell? ⟨w.heap.size,0,none⟩=some (.pointer (some ⟨C,0,none⟩))∧w'.cell? ⟨w.heap.size+1,15,none⟩=some (.int .i64 h.cts)∧w'.cell? ⟨w.heap.size+1,16,none⟩=some (.int .i64 h.ctn))) (first|(exact⟨cp,n1,n2⟩)|(exact hf2)|(exact hf3)|(exact hf4))
    (first
     |(go_at_call 39;refine HO.out.mono ?_;rintro e w2 ⟨v,hv,rfl,hs2,hf2⟩)
     |(go_at_call 121;refine(HT _ v hv hs2).out.mono ?_;rintro e w3 ⟨rfl,hs3,hf3⟩)
     |(go_at_call 118;refine(AD _ v hs3).out.mono ?_;rintro e w4 ⟨rfl,hs4,hf4⟩))
   (have NX:Hid (∃z,z≤1∧AdSt w C (m+13) h (.slice Ar h.recs.length cr) (ad++(if h.hasC then [(kCtime,Bg h.cts h.ctn z,true)] else [])) w4):=⟨v,by omega,by rw[HBB.out];exact hs4.out⟩);rename_i hHeld;clear hHeld hf2 hf3 hf4 hs2 hs3 hs4 S1d AD HT HO;(go_wp2_with fail);go_meet
   case rel=>exact NX
 case rest=>
 obtain⟨z2,hz2,S1⟩:=hcut.out;clear hcut;obtain⟨l,hadds,hst⟩:=S1;have HADDS:=hid hadds;have hll2:l.length≤60:=by have:=hadds.len;rw[List.length_append] at this;split at this<;>simp at this<;>omega
 obtain⟨A5,c5,h5⟩:∃A5 c5,wc.cell? ⟨w.heap.size+2,0,none⟩=some (.slice A5 l.length c5):=by
  obtain⟨v,h1,h2⟩:=hst.lv;obtain⟨A,c,rfl⟩:=h2.at_.shape;exact⟨A,c,cell_of h1 0 rfl⟩
 have LP:Hid (l.Perm l∧TldSt w C (m+50) h (.slice Ar h.recs.length cr) l wc):=⟨List.Perm.refl _,hst.more (by omega)⟩
 clear hst hadds;go_upto_block 0 with fail
 go_cut [] from 7 to 162 (fun wx=>∃l':List Rec,l'.length=l.length∧Hid (l'.Perm l∧TldSt w C (m+200) h (.slice Ar h.recs.length cr) l' wx))
 case first=>
  go_wp2_with fail
  go_loopg [7,8] l.length (fun g s7 s8 wr=>∃(l':List Rec) (j:Nat),j+g=l.length∧l'.length=l.length∧s7=.int .i64 ((g:Int)-1)∧Hid (l'.Perm l∧TldSt w C (m+50+j) h (.slice Ar h.recs.length cr) l' wr))
  case atStart=>exact⟨l,0,by omega,rfl,rfl,LP⟩
  case round=>
   clear LP h5;obtain⟨l',j,hj,hl',rfl,hst⟩:=hrel;by_cases hg:gk≤1
   ·(have hd:decide ((0:Int)<(gk:Int)-1)=false:=decide_eq_false (by omega));(have NX:Hid (l'.Perm l∧TldSt w C (m+200) h (.slice Ar h.recs.length cr) l' wr):=⟨hst.out.1,hst.out.2.more (by omega)⟩);clear hst;(go_wp2_with fail);go_meet
    case rel=>exact⟨l',hl',NX⟩
   ·(obtain⟨p,rfl⟩:∃p,gk=p+2:=⟨gk-2,by omega⟩);(have e:((p+2:Nat):Int)-1=((p+1:Nat):Int):=by omega);rw[e];(have hd:decide ((0:Int)<((p+1:Nat):Int))=true:=decide_eq_true (by omega));have cp:wr.cell? ⟨w.heap.size,0,none⟩=some (.pointer (some ⟨C,0,none⟩)):=cell_of hst.out.2.cp 0 rfl;obtain⟨i,hi⟩:∃i,p+1=i:=⟨_,rfl⟩;rw[hi] at hd ⊢;(go_wp2_with fail);(refine(Cs wr C (m+50+j) (i+1) hst.out.2.cho (by omega) (by omega)).mono ?_);rintro e w2 ⟨⟨k,hk,rfl⟩,hk2,hc2⟩;have st2:=hst.out.2.chose hCw hk2 hc2;(obtain⟨g,cap,tl⟩:=st2.open (by intro e;rw[e] at hl';simp at hl';omega));(have hil:i<l'.length:=by omega);(have hkl:k<l'.length:=by omega);have cl:w2.cell? ⟨w.heap.size+2,0,none⟩=some (.slice (some ⟨g,0,none⟩) l'.length cap):=cell_of tl.lv 0 rfl;have a0:=tl.c0 (List.getElem?_eq_getElem hil);have a1:=tl.c1 (List.getElem?_eq_getElem hil);have b0:=tl.c0 (List.getElem?_eq_getElem hkl);have b1:=tl.c1 (List.getElem?_eq_getElem hkl);have fz:=tl.own.free;have PRM:=hid hst.out.1;have TL:=hid tl;(have hI1:(0:Int)≤(i:Int):=by omega);(have hI2:(i:Int)<(l'.length:Int):=by omega);(have hK1:(0:Int)≤(k:Int):=by omega);(have hK2:(k:Int)<(l'.length:Int):=by omega);clear hst hk2 hc2 st2 tl cp
    (have SW:Hid (TldL w C (m+50+j+1) h (.slice Ar h.recs.length cr) ((l'.set i l'[k]).set k l'[i]) g cap (((((w2.setCell ⟨g,i*2,none⟩ (.string ⟨l'[k].1.toArray⟩)).setCell ⟨g,i*2+1,none⟩ (.string ⟨l'[k].2.toArray⟩)).setCell ⟨g,k*2,none⟩ (.string ⟨l'[i].1.toArray⟩)).setCell ⟨g,k*2+1,none⟩ (.string ⟨l'[i].2.toArray⟩))))  :=(TL.out.set hCw hil l'[k]).set hCw (by rw[List.length_set];exact hkl) l'[i]);have PM2:Hid (((l'.set i l'[k]).set k l'[i]).Perm l):=(Bak l' i k hil hkl).trans PRM.out;(have HIL:Hid (((l'.set i l'[k]).set k l'[i]).length=l.length):=by show _=_;rw[List.length_set,List.length_set];exact hl');clear TL PRM;by_cases hik:i=k
    ·subst hik;(go_wp2_with fail);(go_region);(go_wp2_with fail);go_roundg (p+1)
     case measure=>omega
     case rel=>exact⟨_,j+1,by omega,HIL.out,by rw[←hi],PM2.out,SW.out.st.grow ((Kp.refl (fun _=>False) _).drew)⟩
    ·(go_wp2_with fail);(go_region);(go_wp2_with fail);go_roundg (p+1)
     case measure=>omega
     case rel=>exact⟨_,j+1,by omega,HIL.out,by rw[←hi],PM2.out,SW.out.st.grow ((Kp.refl (fun _=>False) _).drew)⟩
 case rest=>
 obtain⟨l1,hl1,hsh⟩:=hcut;skip
 have rvc:wc.cell? ⟨w.heap.size+1,19,none⟩=some (.slice Ar h.recs.length cr):=cell_of hsh.out.2.hdr 19 rfl;have HRW:RecsAt wc C (.slice Ar h.recs.length cr) h.recs:=HRA.out.keep hsh.out.2.kp (fun i e=>by omega)
 have hCc:C≤wc.heap.size:=by have:=hsh.out.2.kp.size;omega
 have HLS:=hid (Vr wc C _ h.recs HRW hCc (by omega))
 clear HRW;go_upto_region 20 with fail
 go_wp2_with fail
 refine HLS.out.mono ?_;rintro e w2 ⟨⟨v,o,rfl,hov,hle⟩,hk2⟩;have hol:o.length≤30000:=Nat.le_trans hle.len hrl;obtain⟨Ao,co,rfl⟩:=hov.at_.shape;have HLE:=hid hle;have LP2:Hid (∃F:Nat→Prop,(∀b,(Value.slice Ao o.length co).ownBlock=some b→F b)∧TldG w C (m+200) h (.slice Ar h.recs.length cr) l1 F w2∧OwnR 136 w2 wc.heap.size (.slice Ao o.length co) o):=by
  refine⟨fun b=>(Value.slice Ao o.length co).ownBlock=some b,fun b hb=>hb,⟨hsh.out.2.grow hk2,fun u hu b hb e=>?_,fun b hb=>(hov.block hb).2,fun b hb=>?_⟩,hov⟩
  ·obtain⟨v1,h1,h2⟩:=hsh.out.2.lv;rw[Vw hu (hk2.heap h1 (fun h=>h))] at e;have:=(h2.block e).2;have:=(hov.block hb).1;omega
  ·obtain⟨v1,h1,h2⟩:=hsh.out.2.lv;have:=Bv h1;have:=(hov.block hb).1;omega
 have PRM:=hid hsh.out.1;have HHB:wc.heap.size≤w2.heap.size:=hk2.size;have HWC:w.heap.size≤wc.heap.size:=hsh.out.2.kp.size;clear HLS hk2 hov hle hsh rvc hCc;go_wp2_with fail
 go_loopg [10,11,167] o.length (fun g s10 s11 s167 wr=>∃(l':List Rec) (i:Nat),i+g=o.length∧s167=.int .i64 (i:Int)∧l'.length=l1.length+i∧Hid (l'.Perm (o.take i++l1)∧∃F:Nat→Prop,(∀b,(Value.slice Ao o.length co).ownBlock=some b→F b)∧TldG w C (m+200+i) h (.slice Ar h.recs.length cr) l' F wr∧OwnR 136 wr wc.heap.size (.slice Ao o.length co) o))
 case atStart=>exact⟨l1,0,by omega,rfl,rfl,List.Perm.refl _,LP2.out⟩
 case round=>
  clear LP2;obtain⟨l',i,hi,rfl,hl',hst⟩:=hrel;by_cases hg:gk=0
  ·(have hd:decide ((i:Int)<(o.length:Int))=false:=decide_eq_false (by omega));(have hio:i=o.length:=by omega);have ST:=hid hst.out;clear hst;obtain⟨v5,hv5,FIN⟩:∃v5,wr.cell? ⟨w.heap.size+2,0,none⟩=some v5∧Hid (Bct w C m h (.returned v5) wr):=by
    obtain⟨hpm,F,_,s,_⟩:=ST.out;obtain⟨v,h1,h2⟩:=s.st.lv;have hpl:l'.Perm (o++l):=by
     rw[hio,List.take_length] at hpm;exact hpm.trans (List.Perm.append_left o PRM.out)
    (refine⟨v,cell_of h1 0 rfl,v,l',rfl,⟨z0,z1,z2,l,o,hz0,hz1,hz2,?_,HLE.out,hpl⟩,h2.lower (by omega),s.st.cho.keep (Kp.refl (fun _=>False) _) (fun _ h=>h.elim) (by omega),s.st.kp⟩);have h:=HADDS.out;rw[←HADz1.out,←HADz0.out] at h;exact h
   (go_wp2_with fail);(go_ret);exact FIN
  ·(obtain⟨p,rfl⟩:∃p,gk=p+1:=⟨gk-1,by omega⟩);(have hd:decide ((i:Int)<(o.length:Int))=true:=decide_eq_true (by omega));(have hio:i<o.length:=by omega);obtain⟨hpm,F,hF,hsg,hoo⟩:=hst.out;clear hst;rcases hoo.shape with ⟨_,e⟩|⟨ob,oc,e,hob,_⟩
   ·rw[e] at hio;cases hio
   (injection e with e1 e2 e3);subst e1;subst e3;have hFo:F ob:=hF ob rfl;have o0:wr.cell? ⟨ob,i*2,none⟩=some (.string ⟨o[i].1.toArray⟩):=hoo.cell0 (List.getElem?_eq_getElem hio);have o1:wr.cell? ⟨ob,i*2+1,none⟩=some (.string ⟨o[i].2.toArray⟩):=hoo.cell1 (List.getElem?_eq_getElem hio);have HPM:=hid hpm;have HFF:=hid hF;have HSG:=hid hsg;have HOO:=hid hoo;(have hI1:(0:Int)≤(i:Int):=by omega);(have hI2:(i:Int)<(o.length:Int):=by omega);have HSGl:Hid (w.heap.size+3≤wr.heap.size):=by
    obtain⟨v,h1,h2⟩:=hsg.st.lv;have:=Bv h1;show _≤_;omega
   clear hpm hF hsg hoo;have XA:=Ba wr (.cells #[.string ⟨o[i].1.toArray⟩, .string ⟨o[i].2.toArray⟩] 136);have kA:Kp (fun _=>False) wr (wr.alloc (.cells #[.string ⟨o[i].1.toArray⟩, .string ⟨o[i].2.toArray⟩] 136)):=(Kp.refl _ _).alloc _;have SG1:=hid (HSG.out.new (.cells #[.string ⟨o[i].1.toArray⟩, .string ⟨o[i].2.toArray⟩] 136));have OO1:=hid (HOO.out.keep kA (fun _ _ h=>h));(go_upto_region 23 with fail);clear HSG HOO o0 o1;have hHX:w.heap.size+3≤wr.heap.size:=by
    have:=HSGl.out;omega
   clear kA;obtain⟨X,hX⟩:∃X,wr.heap.size=X:=⟨_,rfl⟩;rw[hX] at XA SG1 hHX ⊢;generalize wr.alloc (.cells #[.string ⟨o[i].1.toArray⟩, .string ⟨o[i].2.toArray⟩] 136)=wA at XA SG1 OO1 ⊢;have cp:wA.cell? ⟨w.heap.size,0,none⟩=some (.pointer (some ⟨C,0,none⟩)):=cell_of SG1.out.st.cp 0 rfl;obtain⟨n,hn⟩:∃n,l'.length=n:=⟨_,rfl⟩;(have hn6:n≤40000:=by omega);obtain⟨A5,c5,h5⟩:∃A5 c5,wA.cell? ⟨w.heap.size+2,0,none⟩=some (.slice A5 n c5):=by
    obtain⟨v,h1,h2⟩:=SG1.out.st.lv;obtain⟨A,c,rfl⟩:=h2.at_.shape;rw[hn] at h1;exact⟨A,c,cell_of h1 0 rfl⟩
   have HN:=hid hn;have HNL:=hid hl';clear hn hl';(have HOF:=hid (Cs wA C (m+200+i) (n+1) SG1.out.st.cho (by omega) (by omega)));(go_wp2_with fail);refine HOF.out.mono ?_;rintro e w2 ⟨⟨k,hk,rfl⟩,hk2,hc2⟩;have SG2:=SG1.out.chose hCw hk2 hc2;(have XB:=hk2.heap XA (by omega));(have OO2:=hid (OO1.out.keep hk2 (fun b hb e=>by have:=(OO1.out.block hb).1;omega)));(have h6:=hk2.cell h5 (by show ¬(w.heap.size+2=C);omega));(obtain⟨A2,q2,w3,hr3,y1,y2,SG3,kD⟩:=SG2.add hCw ([],[]) (by rw[HN.out];omega) _ h6);rw[HN.out] at hr3 SG3 kD;have OO3:=hid (OO2.out.keep kD (fun b hb e=>e.1 (Or.inl (HFF.out b hb))));have XD:=kD.heap XB (fun e=>e.1 (Or.inr rfl));have HR3:=hid hr3;have HS3:=hid SG3;have hXX:=hid (And.intro XB XD);clear SG1 OO1 HOF XA hk2 hc2 SG2 XB OO2 hr3 SG3 kD XD h5 cp;(go_wp2_with (at_builtin;refine Lib.wpList_append_run _ rfl _ _ _ _ rfl _ _ rfl rfl _ _ HR3.out ?_));(refine(show Code.wp _ _ _ _ (w3.setCell ⟨w.heap.size+2,0,none⟩ (.slice A2 (n+1) q2)) from ?_));have XD:=hXX.out.2;clear hXX HR3 y1 y2 h6;generalize w3.setCell ⟨w.heap.size+2,0,none⟩ (.slice A2 (n+1) q2)=wD at HS3 OO3 XD ⊢;(obtain⟨g,cap,hv2,own,hg2,hgF,hlc,hcm⟩:=HS3.out.own (by simp));(have en:(l'++[(([]:List UInt8),([]:List UInt8))]).length=n+1:=by rw[List.length_append,HN.out];rfl);rw[en] at hv2 own hlc;have cl:wD.drew.cell? ⟨w.heap.size+2,0,none⟩=some (.slice (some ⟨g,0,none⟩) (n+1) cap):=cell_of hv2 0 rfl;have own':=own.keep ((Kp.refl (fun _=>False) wD).drew) (fun _ _ h=>h)
   rw[←HN.out] at own';(have hk1:(0:Int)≤(k:Int):=by omega);(have hk2:(k:Int)+1≤(n:Int)+1:=by omega);(have hk3:(k:Int)≤(n:Int)+1:=by omega);(have hk4:¬cap=k:=by omega);(have hk5:k≤n:=by omega);(have hk6:n<cap:=by omega);(have hk7:(0:Int)≤(k:Int)+1:=by omega);(have hk8:(n:Int)+1≤(cap:Int):=by omega);(have hk9:(k:Int)≤(n:Int):=by omega);have hwr:IntKind.i64.wrap ((k:Int)+1)=(k:Int)+1:=by
    rw[IntKind.wrap_i64];omega
   (have hka:k+1≤n+1:=by omega);(have hkb:k≤n+1:=by omega);have sl1:∀W:World,(Instr.slice 43 (.slice (some ⟨g,0,none⟩) (n+1) cap) (some (.int .i64 (k:Int))) none none).run Tryz.prog W=.ok (.slice (some ⟨g,k*2,none⟩) (n+1-k) (cap-k)) W:=fun W=>X9 W g (n+1) cap _ k rfl hkb hk4;by_cases hck:cap=k+1
   ·subst hck;(have hkn:n=k:=by omega);subst hkn;clear sl1 hk4 hk6 hk8 hka hkb hk9 hk5 hk2 hk3;(have hk5:(n:Int)+1≤(n:Int)+1:=by omega);(have hk6:(n:Int)≤(n:Int)+1:=by omega);(have hk4:¬n+1=n:=by omega);obtain⟨w4,hr4,own4,k4⟩:=Kg (ty:=3) wD.drew infoS (w.heap.size+3) g (n+1) n l' ([],[]) own' HN.out.symm ⟨g,0,none⟩ 0 1;obtain⟨L,hL⟩:∃L,(l'++[(([]:List UInt8),([]:List UInt8))]).take (n+1)++l'.drop n=L:=⟨_,rfl⟩;(have hip:=Kf l' ([],[]) o[i] n (by rw[HN.out];omega));rw[hL] at own4 hip;have hLn:L.length=n+1:=by
     have:=hip.length_eq;rw[List.length_set,List.length_cons,HN.out] at this;exact this
    rw[HN.out] at hr4 own4;simp only[Nat.sub_self,Nat.add_sub_cancel_left] at hr4;(have ow4:OwnR 136 w4 (w.heap.size+3) (.slice (some ⟨g,0,none⟩) (l'++[(([]:List UInt8),([]:List UInt8))]).length (n+1)) L:=by rw[en];exact own4);(have hv5:wD.drew.heap[w.heap.size+2]?=some (.cells #[.slice (some ⟨g,0,none⟩) (l'++[(([]:List UInt8),([]:List UInt8))]).length (n+1)] 43 (0,0)):=by rw[en];exact hv2);(have t4:=(HS3.out.grow ((Kp.refl (fun _=>False) wD).drew)).row hCw hv5 k4 ow4 (by rw[en,hLn]) hg2);(have hkL:n<L.length:=by omega);have own5:=own4.set hkL o[i];have k5:Kp (· =g) w4 ((w4.setCell ⟨g,n*2,none⟩ (.string ⟨o[i].1.toArray⟩)).setCell ⟨g,n*2+1,none⟩ (.string ⟨o[i].2.toArray⟩)):=
     Kp.setCell (S:=(· =g)) (p:=⟨g,n*2+1,none⟩) (Kp.setCell (S:=(· =g)) (p:=⟨g,n*2,none⟩) (Kp.refl _ w4) (.inl rfl) _) (.inl rfl) _
    (have hv6:w4.heap[w.heap.size+2]?=some (.cells #[.slice (some ⟨g,0,none⟩) L.length (n+1)] 43 (0,0)):=by rw[hLn];exact k4.heap hv2 (by omega));(have T5:=hid (t4.row hCw hv6 k5 (by rw[hLn];exact own5) (by rw[List.length_set]) hg2));have hbg:ob≠g:=fun e=>hgF (Or.inl (e▸HFF.out ob rfl));have kk:Kp (· =g) wD ((w4.setCell ⟨g,n*2,none⟩ (.string ⟨o[i].1.toArray⟩)).setCell ⟨g,n*2+1,none⟩ (.string ⟨o[i].2.toArray⟩)):=((((Kp.refl (fun _=>False) wD).drew).mono (fun _ _ h=>h.elim)).trans k4).trans k5;(have O5:=hid (OO3.out.keep kk (fun b hb e=>hbg ((Option.some.inj (show some ob=some b from hb)).trans e))));have hxg:X≠g:=fun e=>hgF (Or.inr e.symm);have xx0:w4.cell? ⟨X,0,none⟩=some (.string ⟨o[i].1.toArray⟩):=k4.cell (cell_of XD 0 rfl) hxg;have xx1:w4.cell? ⟨X,1,none⟩=some (.string ⟨o[i].2.toArray⟩):=k4.cell (cell_of XD 1 rfl) hxg;have fz:∀j,w4.frozen? ⟨g,j,none⟩=false:=own4.free;(have cl4:w4.cell? ⟨w.heap.size+2,0,none⟩=some (.slice (some ⟨g,0,none⟩) (n+1) (n+1)):=k4.cell cl (by show ¬(w.heap.size+2=g);omega));have gc0:w4.cell? ⟨g,n*2,none⟩=some (.string ⟨L[n].1.toArray⟩):=own4.cell0 (List.getElem?_eq_getElem hkL);have gc1:w4.cell? ⟨g,n*2+1,none⟩=some (.string ⟨L[n].2.toArray⟩):=own4.cell1 (List.getElem?_eq_getElem hkL);have PM5:Hid ((L.set n o[i]).Perm (o.take (i+1)++l1)):=by
     show List.Perm _ _;refine hip.trans ?_;rw[List.take_succ_eq_append_getElem hio,List.append_assoc];exact(List.Perm.cons _ HPM.out).trans List.perm_middle.symm
    have LN5:Hid ((L.set n o[i]).length=l1.length+(i+1)):=by
     show _=_;have:=HNL.out;have:=HN.out;rw[List.length_set,hLn];omega
    (have hk0:(n:Int)<(n:Int)+1:=by omega);clear own own' own4 k4 XD hv2 hgF en ow4 hv5 t4 own5 k5 hv6 kk hip hLn hL;(go_region_held3 (fun w' => w'.cell? ⟨w.heap.size + 2, 0, none⟩ = some (.slice (some ⟨g, 0, none⟩) (n + 1) (n + 1))) (first | (exact cl) | (exact cl4)) (first | (fail "none")));(go_wp2_with fail);go_roundg p
    case measure=>omega
    case rel=>exact⟨_,i+1,by omega,rfl,LN5.out,PM5.out,_,fun b hb=>Or.inl (HFF.out b hb),T5.out,O5.out⟩
   ·(obtain⟨w4,hr4,own4,k4⟩:=I9 (ty:=3) wD.drew infoS (w.heap.size+3) g cap k l' ([],[]) own' (by rw[HN.out];omega) (cap-(k+1)) (cap-k));obtain⟨L,hL⟩:∃L,(l'++[(([]:List UInt8),([]:List UInt8))]).take (k+1)++l'.drop k=L:=⟨_,rfl⟩;(have hip:=Kf l' ([],[]) o[i] k (by rw[HN.out];omega));rw[hL] at own4 hip;have hLn:L.length=n+1:=by
     have:=hip.length_eq;rw[List.length_set,List.length_cons,HN.out] at this;exact this
    rw[HN.out] at hr4 own4;(have ow4:OwnR 136 w4 (w.heap.size+3) (.slice (some ⟨g,0,none⟩) (l'++[(([]:List UInt8),([]:List UInt8))]).length cap) L:=by rw[en];exact own4);(have hv5:wD.drew.heap[w.heap.size+2]?=some (.cells #[.slice (some ⟨g,0,none⟩) (l'++[(([]:List UInt8),([]:List UInt8))]).length cap] 43 (0,0)):=by rw[en];exact hv2);(have t4:=(HS3.out.grow ((Kp.refl (fun _=>False) wD).drew)).row hCw hv5 k4 ow4 (by rw[en,hLn]) hg2);(have hkL:k<L.length:=by omega);have own5:=own4.set hkL o[i];have k5:Kp (· =g) w4 ((w4.setCell ⟨g,k*2,none⟩ (.string ⟨o[i].1.toArray⟩)).setCell ⟨g,k*2+1,none⟩ (.string ⟨o[i].2.toArray⟩)):=
     Kp.setCell (S:=(· =g)) (p:=⟨g,k*2+1,none⟩) (Kp.setCell (S:=(· =g)) (p:=⟨g,k*2,none⟩) (Kp.refl _ w4) (.inl rfl) _) (.inl rfl) _
    (have hv6:w4.heap[w.heap.size+2]?=some (.cells #[.slice (some ⟨g,0,none⟩) L.length cap] 43 (0,0)):=by rw[hLn];exact k4.heap hv2 (by omega));(have T5:=hid (t4.row hCw hv6 k5 (by rw[hLn];exact own5) (by rw[List.length_set]) hg2));have hbg:ob≠g:=fun e=>hgF (Or.inl (e▸HFF.out ob rfl));have kk:Kp (· =g) wD ((w4.setCell ⟨g,k*2,none⟩ (.string ⟨o[i].1.toArray⟩)).setCell ⟨g,k*2+1,none⟩ (.string ⟨o[i].2.toArray⟩)):=((((Kp.refl (fun _=>False) wD).drew).mono (fun _ _ h=>h.elim)).trans k4).trans k5;(have O5:=hid (OO3.out.keep kk (fun b hb e=>hbg ((Option.some.inj (show some ob=some b from hb)).trans e))));have hxg:X≠g:=fun e=>hgF (Or.inr e.symm);have xx0:w4.cell? ⟨X,0,none⟩=some (.string ⟨o[i].1.toArray⟩):=k4.cell (cell_of XD 0 rfl) hxg;have xx1:w4.cell? ⟨X,1,none⟩=some (.string ⟨o[i].2.toArray⟩):=k4.cell (cell_of XD 1 rfl) hxg;have fz:∀j,w4.frozen? ⟨g,j,none⟩=false:=own4.free;(have cl4:w4.cell? ⟨w.heap.size+2,0,none⟩=some (.slice (some ⟨g,0,none⟩) (n+1) cap):=k4.cell cl (by show ¬(w.heap.size+2=g);omega));have gc0:w4.cell? ⟨g,k*2,none⟩=some (.string ⟨L[k].1.toArray⟩):=own4.cell0 (List.getElem?_eq_getElem hkL);have gc1:w4.cell? ⟨g,k*2+1,none⟩=some (.string ⟨L[k].2.toArray⟩):=own4.cell1 (List.getElem?_eq_getElem hkL);have PM5:Hid ((L.set k o[i]).Perm (o.take (i+1)++l1)):=by
     show List.Perm _ _;refine hip.trans ?_;rw[List.take_succ_eq_append_getElem hio,List.append_assoc];exact(List.Perm.cons _ HPM.out).trans List.perm_middle.symm
    have LN5:Hid ((L.set k o[i]).length=l1.length+(i+1)):=by
     show _=_;have:=HNL.out;have:=HN.out;rw[List.length_set,hLn];omega
    (have hk0:(k:Int)<(n:Int)+1:=by omega);clear own own' own4 k4 XD hv2 hgF en ow4 hv5 t4 own5 k5 hv6 kk hip hLn hL;(go_region_held3 (fun w' => w'.cell? ⟨w.heap.size + 2, 0, none⟩ = some (.slice (some ⟨g, 0, none⟩) (n + 1) cap)) (first | (exact cl) | (exact cl4)) (first | (fail "none")));(go_wp2_with fail);go_roundg p
    case measure=>omega
    case rel=>exact⟨_,i+1,by omega,rfl,LN5.out,PM5.out,_,fun b hb=>Or.inl (HFF.out b hb),T5.out,O5.out⟩
end Go.Proofs.YtgfcnjfmmjcodaaGreatDoor
