/- Read and Slow of package impl, over an archive that may be c. -/
import Derived.Test.YtgfcnjfmmjcodaaGreatDoorP39
set_option linter.all false
set_option maxRecDepth 100000
set_option maxHeartbeats 1000000
open Go.Lib (hid)
namespace Go.Proofs.YtgfcnjfmmjcodaaGreatDoor
open Go Go.RowKit
set_option maxHeartbeats 1600000 in
theorem Bia {E:Nat→Addr}{B:Nat}(w:World)(hG:Glob E B w)(ht:Lib.Utf8Tabs 14 15 w)(h16:16≤B)(b off c:Nat)(l:List UInt8)(hl:BytesAt w b off l)(hlen:l.length≤140737488355328)
  (L:Nat) (rs:List Bgt) (ge:Nat) (hf:FilesP L 0 0 l rs ge) (hL:L≤1048577) (hrl:rs.length≤1048576) :
  Calls Tryz.prog 25 #[.slice (some ⟨b,off,none⟩) l.length c, .int .i64 L] w fun e w'=>Hid (Bgx (fun _=>False) w L rs ge e w'):=by
 go_enter Tryz.func25,Tryz.ntmps25
 go_wp2_with fail
 refine(Bfl w b off c l hl hlen).mono ?_;rintro e w1 ⟨v1,rfl,hown,hv1,hk1⟩;obtain⟨D,c1,rfl,hD1,hD2,hbr⟩:=Bd6 hown hv1 (by omega)
 have hk02:∀o,Kp (fun _=>False) w (w1.alloc o):=fun o=>hk1.alloc o;have hsz1:=hk1.size;have hB0:=hG.size;have hBs:B≤w1.heap.size:=by omega
 have hBD:B≤D:=by omega
 have HB:=hid hbr;have HK02:=hid hk02;have HG:=hid hG;have HT:=hid ht;have HA:=hid hf;clear hbr hk02 hown hk1 hv1 hl hG ht hf;go_wp2_with fail
 refine(Bcb _ _ _ _).mono ?_;rintro e w2 ⟨rfl,rfl⟩;obtain⟨w2,hw2⟩:∃w2,w1.alloc (.cells #[.slice (some ⟨D,0,none⟩) l.length c1, .int .i64 0, .int .i64 (-1)] 160)=w2:=⟨_,rfl⟩;have hbr2:Qa w1.heap.size D w2 0 l:=hw2▸HB.out;have hk2:Kp (fun _=>False) w w2:=hw2▸HK02.out _;have hsz2:w2.heap.size=w1.heap.size+1:=by rw[←hw2];show (w1.heap.push _).size=_;simp
 rw[hw2];clear HB HK02 hw2;have HBR:=hid hbr2;have HK2:=hid hk2;clear hbr2 hk2;go_wp2_with fail
 refine(Bdk (Mg hBs hBD) w2 l (HG.out.keep HK2.out (fun _ h=>h.elim)) (Utf8Tabs.keep HT.out HK2.out (fun h=>h) (fun h=>h)) h16 HBR.out).mono ?_;rintro e w3 ⟨R,rfl,hR3,hk3,hi3⟩;have HK3:=hid (HK2.out.trans hk3);have HI3:=hid hi3;clear hi3 hk3 HK2 HBR;have HFL:=hid (Bhg (Bes hBs hBD) w3 R 0 0 l L rs ge HI3.out HA.out hL hrl);go_wp2_with fail
 refine HFL.out.mono ?_;rintro e w4 hx;obtain⟨vo,gs,rfl,h1,h2,h3⟩:=hx.out;have FIN:Hid (Bgx (fun _=>False) w L rs ge (.returned (.tuple #[vo, .int .i64 (Bg1 ge)])) w4):=
  ⟨vo,gs,rfl,h1,h2,HK3.out.then h3 (by rintro i hi ((h|h)|h)<;>omega)⟩
 obtain⟨A,c2,rfl⟩:=h1.shape;clear h1 h2 h3 hx HFL HI3 HK3;go_wp2_with fail
 go_ret2
 exact FIN
theorem Bh1 {w:World}{base:Nat}{v zv:Value}{l:List UInt8}{ss:List Int}(h:OwnB w base v l)(hv:v.ownBlock≠none)(hl:l.length≤281474976710656)(hz:OwnZ w base zv ss)(hzl:ss.length≤4194304)(hzr:∀x∈ss,-9223372036854775808≤x∧x≤9223372036854775807) :
  ∃D Z c,v=.slice (some ⟨D,0,none⟩) l.length c∧base≤D∧D<w.heap.size∧base≤Z∧Z<w.heap.size∧SoInv w.heap.size D Z (w.alloc (.cells #[v,zv] 121)) 0 l:=by
 have hc:=fun g hg=>World.ownsRow.cells h (g:=g) hg;rcases h.2 with ⟨rfl,h0⟩|⟨g,cap,cur,rfl,hg,hh,h3,h4,h5⟩
 ·exact absurd rfl hv
 ·have hgs:=Bv hh;have ka:Kp (fun _=>False) w (w.alloc (.cells #[.slice (some ⟨g,0,none⟩) l.length cap,zv] 121)):=(Kp.refl _ _).alloc _;have hsz:(w.alloc (.cells #[.slice (some ⟨g,0,none⟩) l.length cap,zv] 121)).heap.size=w.heap.size+1:=by show (w.heap.push _).size=_;simp
  have hby:BytesAt (w.alloc (.cells #[.slice (some ⟨g,0,none⟩) l.length cap,zv] 121)) g 0 l:=by
   intro j u hu;have:=hc g rfl j u hu;rw[add_plain'] at this;exact ka.cell this (fun h=>h)
  obtain⟨hzi,hzb⟩:=hz.intsAt;rcases hzi with ⟨hz0,hze⟩|⟨b,o,c,hz0,hz1,hz2,hz3⟩
  ·(refine⟨g,g,cap,rfl,hg,hgs,hg,hgs,rfl,by omega,by omega,_,_,_,Ba w _,by omega,by omega,h3,hl,fun _=>⟨0,rfl,hby⟩, .inl ?_⟩);obtain⟨A,c,e⟩:=hz0.shape;exact⟨A,c,e⟩
  ·by_cases hs0:ss.length=0
   ·(refine⟨g,g,cap,rfl,hg,hgs,hg,hgs,rfl,by omega,by omega,_,_,_,Ba w _,by omega,by omega,h3,hl,fun _=>⟨0,rfl,hby⟩, .inl ?_⟩);exact⟨_,_,by rw[hz0,hs0]⟩
   ·have hbb:=hzb b (by
     rcases hz.2 with ⟨e,_⟩|⟨g',cap',cur',e,_⟩
     ·rw[hz0] at e;cases e
     ·rw[hz0] at e;(injection e with e _ _);(injection e with e);(injection e with e1 e2 _);rw[hz0,e1,e2];rfl)
    (refine⟨g,b,cap,rfl,hg,hgs,hbb.1,hbb.2,rfl,by omega,by omega,_,_,_,Ba w _,by omega,by omega,h3,hl,fun _=>⟨0,rfl,hby⟩, .inr ⟨o,ss.length,c,hz0,by omega,hz1,hzl,fun i hi=>?_⟩⟩);obtain⟨x,hx⟩:∃x,ss[i]?=some x:=⟨_,List.getElem?_eq_getElem hi⟩;have hr:=hzr x (List.mem_of_getElem? hx);exact⟨x,hr.1,hr.2,ka.cell (hz3 i x hx) (fun h=>h)⟩
theorem Bhl (W:World)(A A2:Option Addr)(n c n2 c2:Nat):(Instr.build 121 #[(0, .slice A n c),(1, .slice A2 n2 c2)]).run Tryz.prog W=.ok (.agg #[.slice A n c, .slice A2 n2 c2]) W:=
 run_build W 121 _ _ (by kernel_rfl)
set_option maxHeartbeats 1600000 in
theorem Bib {E:Nat→Addr}{B:Nat}(w:World)(hG:Glob E B w)(ht:Lib.Utf8Tabs 14 15 w)(h16:16≤B)(b off c:Nat)(l:List UInt8)(hl:BytesAt w b off l)(hlen:l.length≤140737488355328)
  (L:Nat) (rs:List Bgt) (ge:Nat) (hf:FilesP L 0 0 l rs ge) (hL:L≤1048577) (hrl:rs.length≤1048576) (sv:Value) (ss:List Int) (hsv:IntsAt w w.heap.size sv ss) (hsl:ss.length≤1048576) (hsr:∀x∈ss,-9223372036854775808≤x∧x≤9223372036854775807) :
  Calls Tryz.prog 29 #[.slice (some ⟨b,off,none⟩) l.length c, .int .i64 L,sv] w fun e w'=>Hid (Bgx (fun _=>False) w L rs ge e w'):=by
 obtain⟨As,cs,hsh⟩:=hsv.shape;subst hsh;have HSV:=hid hsv;clear hsv;go_enter Tryz.func29,Tryz.ntmps29
 go_wp2_with fail
 refine(Bfl w b off c l hl hlen).mono ?_;rintro e w1 ⟨v1,rfl,hown,hv1,hk1⟩;obtain⟨v2,w2,hrun,hown2,hk2,hv2⟩:=Beu w1 30 w.heap.size (.slice none 0 0) (.slice As ss.length cs) [] ss (OwnZ.nil _ _) ((HSV.out).keep hk1 (fun _ h=>h.elim)) (by simp;omega) hk1.size
 rw[List.nil_append] at hown2;have hk2':Kp (fun _=>False) w1 w2:=hk2.mono (fun b _ h=>by cases h)
 have hownb:=hown.keep hk2' (fun _ _ h=>h);obtain⟨D,Z,c1,rfl,hD1,hD2,hZ1,hZ2,hso⟩:=Bh1 hownb hv1 (by omega) hown2 (by omega) hsr
 obtain⟨A2,c2,hv2s⟩:∃A c,v2=.slice A ss.length c:=hown2.intsAt.1.shape;subst hv2s;have hk02:∀o,Kp (fun _=>False) w (w2.alloc o):=fun o=>(hk1.trans hk2').alloc o;have hsz1:=(hk1.trans hk2').size;have hB0:=hG.size;have hBs:B≤w2.heap.size:=by omega
 have hBD:B≤D:=by omega
 have hBZ:B≤Z:=by omega
 have HB:=hid hso;have HK02:=hid hk02;have HG:=hid hG;have HT:=hid ht;have HA:=hid hf;have HRUN:=hid hrun;have hb121:=fun W=>Bhl W (some ⟨D,0,none⟩) A2 l.length c1 ss.length c2;clear hso hk02 hown hownb hown2 hk1 hk2 hk2' hv1 hv2 hl hG ht hf hrun;go_wp2_with (at_builtin;refine Lib.wpList_append_run _ rfl _ _ _ _ rfl _ _ rfl rfl _ _ HRUN.out ?_)
 obtain⟨w3,hw3⟩:∃w3,w2.alloc (.cells #[.slice (some ⟨D,0,none⟩) l.length c1, .slice A2 ss.length c2] 121)=w3:=⟨_,rfl⟩;have hso3:SoInv w2.heap.size D Z w3 0 l:=hw3▸HB.out;have hk3:Kp (fun _=>False) w w3:=hw3▸HK02.out _;have hsz3:w3.heap.size=w2.heap.size+1:=by rw[←hw3];show (w2.heap.push _).size=_;simp
 rw[hw3];clear HB HK02 hw3 hb121;have HSO:=hid hso3;have HK2:=hid hk3;clear hso3 hk3;refine(Bdk (Bhj hBs hBD hBZ) w3 l (HG.out.keep HK2.out (fun _ h=>h.elim)) (Utf8Tabs.keep HT.out HK2.out (fun h=>h) (fun h=>h)) h16 HSO.out).mono ?_;rintro e w4 ⟨R,rfl,hR3,hk3,hi3⟩;have HK3:=hid (HK2.out.trans hk3);have HI3:=hid hi3;clear hi3 hk3 HK2 HSO;have HFL:=hid (Bhg (Bh8 hBs hBD hBZ) w4 R 0 0 l L rs ge HI3.out HA.out hL hrl);go_wp2_with fail
 refine HFL.out.mono ?_;rintro e w5 hx;obtain⟨vo,gs,rfl,h1,h2,h3⟩:=hx.out;have FIN:Hid (Bgx (fun _=>False) w L rs ge (.returned (.tuple #[vo, .int .i64 (Bg1 ge)])) w5):=
  ⟨vo,gs,rfl,h1,h2,HK3.out.then h3 (by rintro i hi ((h|h|h)|h)<;>omega)⟩
 obtain⟨A,c2,rfl⟩:=h1.shape;clear h1 h2 h3 hx HFL HI3 HK3;go_wp2_with fail
 go_ret2
 exact FIN
end Go.Proofs.YtgfcnjfmmjcodaaGreatDoor
