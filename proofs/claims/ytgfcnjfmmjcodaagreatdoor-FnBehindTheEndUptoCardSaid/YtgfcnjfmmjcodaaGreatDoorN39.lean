/- Read of package impl, of an archive by the documents. -/
import Derived.Test.YtgfcnjfmmjcodaaGreatDoorN38
set_option linter.all false
set_option maxRecDepth 100000
set_option maxHeartbeats 1000000
open Go.Lib (hid)
namespace Go.Proofs.YtgfcnjfmmjcodaaGreatDoor
open Go Go.RowKit
set_option maxHeartbeats 1600000 in
theorem read_any {E:Nat→Addr}{B:Nat}(w:World)(hG:Glob E B w)(ht:Lib.Utf8Tabs 14 15 w)(h16:16≤B)(b off c:Nat)(l:List UInt8)(hl:BytesAt w b off l)(hlen:l.length≤140737488355328)
  (fs:List File) (ha:ArcS 0 0 l fs) (hg:∀f∈fs,GoodF f) (hfl:fs.length≤1048576) :
  Calls Tryz.prog 25 #[.slice (some ⟨b,off,none⟩) l.length c, .int .i64 1048577] w fun e w'=>Hid (FlsEnd (fun _=>False) w fs e w'):=by
 go_enter Tryz.func25,Tryz.ntmps25
 go_wp2_with fail
 refine(clone_any w b off c l hl hlen).mono ?_
 rintro e w1 ⟨v1,rfl,hown,hv1,hk1⟩
 obtain⟨D,c1,rfl,hD1,hD2,hbr⟩:=source_bytes hown hv1 (by omega)
 have hk02:∀o,Kp (fun _=>False) w (w1.alloc o):=fun o=>hk1.alloc o
 have hsz1:=hk1.size
 have hB0:=hG.size
 have hBs:B≤w1.heap.size:=by omega
 have hBD:B≤D:=by omega
 have HB:=hid hbr
 have HK02:=hid hk02
 have HG:=hid hG
 have HT:=hid ht
 have HA:=hid ha
 have HGF:=hid hg
 clear hbr hk02 hown hk1 hv1 hl hG ht ha hg
 go_wp2_with fail
 refine(bytesNewReader _ _ _ _).mono ?_
 rintro e w2 ⟨rfl,rfl⟩
 obtain⟨w2,hw2⟩:∃w2,w1.alloc (.cells #[.slice (some ⟨D,0,none⟩) l.length c1, .int .i64 0, .int .i64 (-1)] 160)=w2:=⟨_,rfl⟩
 have hbr2:BrInv w1.heap.size D w2 0 l:=hw2▸HB.out
 have hk2:Kp (fun _=>False) w w2:=hw2▸HK02.out _
 have hsz2:w2.heap.size=w1.heap.size+1:=by rw[←hw2];show (w1.heap.push _).size=_;simp
 rw[hw2]
 clear HB HK02 hw2
 have HBR:=hid hbr2
 have HK2:=hid hk2
 clear hbr2 hk2
 go_wp2_with fail
 refine(newReader_any (isRd_bytes hBs hBD) w2 l (HG.out.keep HK2.out (fun _ h=>h.elim)) (Utf8Tabs.keep HT.out HK2.out (fun h=>h) (fun h=>h)) h16 HBR.out).mono ?_
 rintro e w3 ⟨R,rfl,hR3,hk3,hi3⟩
 have HK3:=hid (HK2.out.trans hk3)
 have HI3:=hid hi3
 clear hi3 hk3 HK2 HBR
 have HFL:=hid (files_any (isSrc_bytes hBs hBD) w3 R 0 0 l fs HI3.out HA.out HGF.out hfl)
 go_wp2_with fail
 refine HFL.out.mono ?_
 rintro e w4 hx
 obtain⟨vo,gs,rfl,h1,h2,h3⟩:=hx.out
 have FIN:Hid (FlsEnd (fun _=>False) w fs (.returned (.tuple #[vo, .int .i64 1])) w4):=
  ⟨vo,gs,rfl,h1,h2,HK3.out.then h3 (by rintro i hi ((h|h)|h)<;>omega)⟩
 obtain⟨A,c2,rfl⟩:=h1.shape
 clear h1 h2 h3 hx HFL HI3 HK3
 go_wp2_with fail
 go_ret2
 exact FIN
theorem NumsAt.up {w w':World}{C C':Nat}{nv:Value}(h:NumsAt w C nv)(k:Kp (fun _=>False) w w')(hC:C≤C'):NumsAt w' C' nv:=by
 rcases h.keep k (fun _ h=>h.elim) with h|⟨nb,no,nl,nc,h1,h2,h3,h4,h5⟩
 ·exact .inl h
 ·exact .inr ⟨nb,no,nl,nc,h1,h2,h3,Nat.lt_of_lt_of_le h4 hC,h5⟩
theorem IFilesAt.up {w w':World}{B B':Nat}{fv:Value}{fs:List IFile}(h:IFilesAt w B fv fs)(k:Kp (fun _=>False) w w')(hB:B≤B'):IFilesAt w' B' fv fs:=by
 rcases h.keep k (fun _ h=>h.elim) with h|⟨b,o,c,h1,h2,h3⟩
 ·exact .inl h
 ·refine .inr ⟨b,o,c,h1,Nat.lt_of_lt_of_le h2 hB,fun i f hf=>?_⟩
  obtain⟨rv,dv,q1,q2,q3⟩:=h3 i f hf
  exact⟨rv,dv,q1,q2.mono hB,q3.keep (Kp.refl (fun _=>False) _) (fun _ _ h=>h) (fun b hb=>Nat.lt_of_lt_of_le hb hB)⟩
theorem FilesAt.up {w w':World}{B B':Nat}{fv:Value}{fs:List File}(h:FilesAt w B fv fs)(k:Kp (fun _=>False) w w')(hB:B≤B'):FilesAt w' B' fv fs:=by
 rcases h.keep k (fun _ h=>h.elim) with h|⟨b,o,c,h1,h2,h3⟩
 ·exact .inl h
 ·refine .inr ⟨b,o,c,h1,Nat.lt_of_lt_of_le h2 hB,fun i f hf=>?_⟩
  obtain⟨rv,dv,q1,q2,q3,q4,q5⟩:=h3 i f hf
  exact⟨rv,dv,q1,q2.mono hB,q3,fun b' o' c' e hp=>Nat.lt_of_lt_of_le (q4 b' o' c' e hp) hB,q5⟩
theorem dsum_mem {fs:List File}{f:File}(h:f∈fs):f.2.length≤dsum fs:=by
 unfold dsum
 induction fs with
 |nil=>cases h
 |cons x r ih=>
  simp only[List.map_cons,List.sum_cons]
  rcases List.mem_cons.1 h with rfl|h
  ·omega
  ·have:=ih h;omega
structure InpOk (fs:List IFile):Prop where
 ok:∀f∈fs,Rng f.1∧IFileOk f
 len:fs.length≤1048576
theorem told_get {fs:List IFile}{gs:List File}(h:ToldAll fs gs):∀g∈gs,∃f∈fs,ToldOk f g:=by
 induction h with
 |nil=>intro g hg;cases hg
 |cons h1 h2 ih=>
  intro g hg
  rcases List.mem_cons.1 hg with rfl|hg
  ·exact⟨_,List.mem_cons_self ..,h1⟩
  ·obtain⟨f,hf,ht⟩:=ih g hg
   exact⟨f,List.mem_cons_of_mem _ hf,ht⟩
theorem told_good {fs:List IFile}{gs:List File}(h:ToldAll fs gs)(ho:InpOk fs)(hd:dsum gs≤1048576):(∀g∈gs,GoodF g)∧(∀g∈gs,FileIn g)∧gs.length≤1048576:=by
 refine⟨fun g hg=>?_,fun g hg=>?_,?_⟩
 ·obtain⟨f,hf,ht⟩:=told_get h g hg
  obtain⟨hr,hok⟩:=ho.ok f hf
  exact⟨ht.fileP,(ht.fileIn hr hok.dl).ti.1,Nat.le_trans (dsum_mem hg) hd⟩
 ·obtain⟨f,hf,ht⟩:=told_get h g hg
  obtain⟨hr,hok⟩:=ho.ok f hf
  exact ht.fileIn hr hok.dl
 ·have:∀ {fs:List IFile} {gs:List File},ToldAll fs gs→gs.length=fs.length:=by
   intro fs gs h
   induction h with
   |nil=>rfl
   |cons _ _ ih=>rw[List.length_cons,List.length_cons,ih]
  rw[this h]
  exact ho.len
set_option maxHeartbeats 6400000 in
theorem enc_walk {E:Nat→Addr}{B:Nat}(w:World)(hG:Glob E B w)(hut:Lib.Utf8Tabs 14 15 w)(h16:16≤B)(fs:List IFile)(fv nv:Value)(hfs:IFilesAt w w.heap.size fv fs)(hnv:NumsAt w w.heap.size nv)(ho:InpOk fs) :
  Calls Tryz.prog 8 #[fv,nv] w fun e w'=>e=.returned (.bool true)∧Kp (fun _=>False) w w':=by
 obtain⟨A,c,rfl⟩:=hfs.shape
 obtain⟨An,ln,cn,rfl⟩:∃A n c,nv=.slice A n c:=by
  rcases hnv with h|⟨nb,no,nl,nc,h,_⟩
  ·exact⟨_,_,_,h⟩
  ·exact⟨_,_,_,h⟩
 have HZ:=hid (zz1_any w w.heap.size _ fs hfs (fun f hf=>by have h1:=(ho.ok f hf).2.wt;have h2:=wsum_len f.1.recs;rw[weight_eq] at h1;omega) (by have:=ho.len;omega))
 have HTO:=fun W (k:Kp (fun _=>False) w W)=>hid (told_law W _ fs (hfs.up k k.size) (fun f hf=>(ho.ok f hf).2) ho.len)
 have HNV:=hid hnv
 have HO:=hid ho
 have HUT:=hid hut
 have HG:=hid hG
 clear hfs hnv ho hut hG
 obtain⟨bl,ebl⟩:∃b,decide ((2147483647:Int)<(ln:Int))=b:=⟨_,rfl⟩
 go_enter Tryz.func8,Tryz.ntmps8
 go_wp2_with fail
 refine HZ.out.mono ?_
 rintro e w1 ⟨⟨b1,rfl⟩,k1⟩
 clear HZ
 cases b1 with
 |false=>
  go_wp2_with fail
  go_ret
  exact⟨rfl,k1⟩
 |true=>
 cases bl with
 |true=>
  go_wp2_with fail
  go_ret
  exact⟨rfl,k1⟩
 |false=>
 have HT:=HTO w1 k1
 clear HTO
 go_wp2_with fail
 refine HT.out.mono ?_
 rintro e w3 hx
 obtain⟨v3,b3,rfl,hto,k3⟩:=hx.out
 have K3:=hid (k1.trans k3)
 have HT3:=hid hto
 clear hx hto k3 k1 HT
 cases b3 with
 |false=>
  go_wp2_with fail
  go_ret
  exact⟨rfl,K3.out⟩
 |true=>
 obtain⟨out,hfa,hta,hds⟩:=HT3.out rfl
 obtain⟨hgood,hfin,hol⟩:=told_good hta HO.out hds
 obtain⟨A3,c3,rfl⟩:=hfa.shape
 have HEN:=hid (encode_any w3 _ (.slice An ln cn) out hfa (HNV.out.up K3.out K3.out.size) hfin hol (by omega))
 have HFA:=hid hfa
 have HGD:=hid hgood
 have HFI:=hid hfin
 clear hfa hta hds HT3 HNV hgood hfin HO
 go_wp2_with fail
 refine HEN.out.mono ?_
 rintro e w4 hx
 obtain⟨v4,bb,rfl,ho4,hn4,he4,hl4,k4⟩:=hx.out
 obtain⟨gb,cb,hv4,hcb⟩:∃gb cb,v4=.slice (some ⟨gb,0,none⟩) bb.length cb∧BytesAt w4 gb 0 bb:=by
  rcases ho4.bytes with ⟨e2,_⟩|⟨g2,c2,e2,hg2,_,_,_,hb2⟩
  ·rw[e2] at hn4;exact absurd rfl hn4
  ·exact⟨g2,c2,e2,hb2⟩
 subst hv4
 have K4:=hid (K3.out.trans k4)
 have harc:ArcS 0 0 bb out:=by have:=ArcS.start he4 [];rwa[List.append_nil] at this
 have HRD:=hid (read_any w4 (HG.out.keep K4.out (fun _ h=>h.elim)) (Utf8Tabs.keep HUT.out K4.out (fun h=>h) (fun h=>h)) h16 gb 0 cb bb hcb (by omega) out harc HGD.out hol)
 have HFA4:Hid (FilesAt w4 w3.heap.size (.slice A3 out.length c3) out):=HFA.out.keep k4 (fun _ h=>h.elim)
 have HS34:=hid k4.size
 clear hx ho4 hn4 he4 k4 hcb harc HEN HFA HG HUT
 go_wp2_with fail
 refine HRD.out.mono ?_
 rintro e w5 hx
 obtain⟨vo,gs,rfl,h1,h2,k5⟩:=hx.out
 obtain⟨Ao,co,rfl⟩:=h1.shape
 have HAR:=hid (are_any w5 w5.heap.size _ _ gs out h1 (HFA4.out.up k5 (Nat.le_trans HS34.out k5.size)) h2 (by rw[h2.len];omega) (fun g hg=>by have:=h2.mem g hg;omega) (fun f hf=>by have h1:=(HFI.out f hf).rl;have h2:=(HFI.out f hf).dl;omega))
 have K5:=hid (K4.out.trans k5)
 clear hx h1 h2 k5 HRD HFA4 HGD HFI K4
 go_wp2_with fail
 refine HAR.out.mono ?_
 rintro e w6 ⟨rfl,k6⟩
 go_wp2_with fail
 go_ret
 exact⟨rfl,K5.out.trans k6⟩
end Go.Proofs.YtgfcnjfmmjcodaaGreatDoor
