/- FnBehindTheEnd. -/
import Derived.Test.YtgfcnjfmmjcodaaGreatDoorN39
set_option linter.all false
set_option maxRecDepth 100000
set_option maxHeartbeats 1000000
open Go.Lib (hid)
namespace Go.Proofs.YtgfcnjfmmjcodaaGreatDoor
open Go Go.RowKit
set_option maxHeartbeats 6400000 in
theorem behind_walk {E:Nat→Addr}{B:Nat}(w:World)(hG:Glob E B w)(hut:Lib.Utf8Tabs 14 15 w)(h16:16≤B)(fs:List IFile)(fv nv bv:Value)(bl:List UInt8)(hfs:IFilesAt w w.heap.size fv fs)(hnv:NumsAt w w.heap.size nv)(hbd:DataQ w (fun b=>b<w.heap.size) bv bl)(hbll:bl.length≤1048576)(ho:InpOk fs) :
  Calls Tryz.prog 6 #[fv,nv,bv] w fun e w'=>e=.returned (.bool true)∧Kp (fun _=>False) w w':=by
 obtain⟨A,c,rfl⟩:=hfs.shape
 obtain⟨An,ln,cn,rfl⟩:∃A n c,nv=.slice A n c:=by
  rcases hnv with h|⟨nb,no,nl,nc,h,_⟩
  ·exact⟨_,_,_,h⟩
  ·exact⟨_,_,_,h⟩
 have HZ:=hid (zz1_any w w.heap.size _ fs hfs (fun f hf=>by have h1:=(ho.ok f hf).2.wt;have h2:=wsum_len f.1.recs;rw[weight_eq] at h1;omega) (by have:=ho.len;omega))
 have HTO:=fun W (k:Kp (fun _=>False) w W)=>hid (told_law W _ fs (hfs.up k k.size) (fun f hf=>(ho.ok f hf).2) ho.len)
 obtain⟨Ab,cb0,hbv⟩:=hbd.shape'
 subst hbv
 have HBD:=hid hbd
 have HNV:=hid hnv
 have HO:=hid ho
 have HUT:=hid hut
 have HG:=hid hG
 clear hfs hnv ho hut hG hbd
 have hbz:decide ((2147483647:Int)<(bl.length:Int))=false:=decide_eq_false (by omega)
 obtain⟨bl,ebl⟩:∃b,decide ((2147483647:Int)<(ln:Int))=b:=⟨_,rfl⟩
 go_enter Tryz.func6,Tryz.ntmps6
 go_wp2_with fail
 refine HZ.out.mono ?_
 rintro e w1 ⟨⟨b1,rfl⟩,k1⟩
 clear HZ
 cases b1 with
 |false=>
  go_wp2_with fail
  go_ret
  exact⟨rfl,k1⟩
 |true=>
 cases bl with
 |true=>
  go_wp2_with fail
  go_ret
  exact⟨rfl,k1⟩
 |false=>
 have HT:=HTO w1 k1
 clear HTO
 go_wp2_with fail
 refine HT.out.mono ?_
 rintro e w3 hx
 obtain⟨v3,b3,rfl,hto,k3⟩:=hx.out
 have K3:=hid (k1.trans k3)
 have HT3:=hid hto
 clear hx hto k3 k1 HT
 cases b3 with
 |false=>
  go_wp2_with fail
  go_ret
  exact⟨rfl,K3.out⟩
 |true=>
 obtain⟨out,hfa,hta,hds⟩:=HT3.out rfl
 obtain⟨hgood,hfin,hol⟩:=told_good hta HO.out hds
 obtain⟨A3,c3,rfl⟩:=hfa.shape
 have HEN:=hid (encode_any w3 _ (.slice An ln cn) out hfa (HNV.out.up K3.out K3.out.size) hfin hol (by omega))
 have HFA:=hid hfa
 have HGD:=hid hgood
 have HFI:=hid hfin
 clear hfa hta hds HT3 HNV hgood hfin HO
 go_wp2_with fail
 refine HEN.out.mono ?_
 rintro e w4 hx
 obtain⟨v4,bb,rfl,ho4,hn4,he4,hl4,k4⟩:=hx.out
 have hd4:DataAt w4 (.slice Ab bl.length cb0) bl:=((HBD.out.keep (K3.out.trans k4) (fun _ _ h=>h) (fun _ h=>h))).dataAt
 obtain⟨v5,w5,hrun5,ho5,hk5,hv5⟩:=app_data_ex w4 27 w3.heap.size v4 (.slice Ab bl.length cb0) bb bl ho4 hd4 (by omega) k4.size
 have hn5:v5.ownBlock≠none:=by
  rcases hv5 with h|h
  ·rw[h];exact hn4
  ·rw[h];exact fun e=>by cases e
 have k5:Kp (fun _=>False) w3 w5:=k4.then hk5 (fun i hi e=>by have:=(ho4.block e.symm).1;omega)
 have HRUN:=hid hrun5
 obtain⟨gb,cb,hv6,hcb⟩:∃gb cb,v5=.slice (some ⟨gb,0,none⟩) (bb++bl).length cb∧BytesAt w5 gb 0 (bb++bl):=by
  rcases ho5.bytes with ⟨e2,_⟩|⟨g2,c2,e2,hg2,_,_,_,hb2⟩
  ·rw[e2] at hn5;exact absurd rfl hn5
  ·exact⟨g2,c2,e2,hb2⟩
 subst hv6
 obtain⟨A4,c4,hv4⟩:=ho4.shape
 subst hv4
 have K4:=hid (K3.out.trans k5)
 have harc:ArcS 0 0 (bb++bl) out:=ArcS.start he4 bl
 have hll:(bb++bl).length≤140737488355328:=by rw[List.length_append];omega
 have HRD:=hid (read_any w5 (HG.out.keep K4.out (fun _ h=>h.elim)) (Utf8Tabs.keep HUT.out K4.out (fun h=>h) (fun h=>h)) h16 gb 0 cb (bb++bl) hcb hll out harc HGD.out hol)
 have HFA4:Hid (FilesAt w5 w3.heap.size (.slice A3 out.length c3) out):=HFA.out.keep k5 (fun _ h=>h.elim)
 have HS34:=hid k5.size
 obtain⟨bc,hbc⟩:∃bc,bb++bl=bc:=⟨_,rfl⟩
 rw[hbc] at HRD HRUN
 clear hx ho4 hn4 he4 k4 hcb harc HEN HFA HG HUT hd4 hrun5 ho5 hk5 hv5 hn5 k5 hll hbc HBD hl4
 go_wp2_with (at_builtin;refine Lib.wpList_append_run _ rfl _ _ _ _ rfl _ _ rfl rfl _ _ HRUN.out ?_)
 refine HRD.out.mono ?_
 rintro e w6 hx
 obtain⟨vo,gs,rfl,h1,h2,k6⟩:=hx.out
 obtain⟨Ao,co,rfl⟩:=h1.shape
 have HAR:=hid (are_any w6 w6.heap.size _ _ gs out h1 (HFA4.out.up k6 (Nat.le_trans HS34.out k6.size)) h2 (by rw[h2.len];omega) (fun g hg=>by have:=h2.mem g hg;omega) (fun f hf=>by have h1:=(HFI.out f hf).rl;have h2:=(HFI.out f hf).dl;omega))
 have K5:=hid (K4.out.trans k6)
 clear hx h1 h2 k6 HRD HRUN HFA4 HGD HFI K4
 go_wp2_with fail
 refine HAR.out.mono ?_
 rintro e w7 ⟨rfl,k7⟩
 go_wp2_with fail
 go_ret
 exact⟨rfl,K5.out.trans k7⟩
end Go.Proofs.YtgfcnjfmmjcodaaGreatDoor
