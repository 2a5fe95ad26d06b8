/- told. -/
import Derived.Test.YtgfcnjfmmjcodaaGreatDoorN26
set_option linter.all false
set_option maxRecDepth 100000
set_option maxHeartbeats 1000000
open Go.Lib (hid)
namespace Go.Proofs.YtgfcnjfmmjcodaaGreatDoor
open Go Go.RowKit
theorem Adds.mem {ad:List Add}{l:List Rec}(h:Adds ad l):∀r∈l,∃a∈ad,r=(a.1,a.2.1)∧r.2≠[]:=by
 induction h with
 |nil=>intro r hr;cases hr
 |snoc a h hk ih=>
  intro r hr
  rcases hk with ⟨rfl,hv⟩|⟨rfl,_⟩
  ·rw[List.mem_append,List.mem_singleton] at hr
   rcases hr with hr|rfl
   ·obtain⟨b,hb,h1⟩:=ih r hr
    exact⟨b,List.mem_append_left _ hb,h1⟩
   ·exact⟨a,List.mem_append_right _ (List.mem_singleton.2 rfl),rfl,hv⟩
  ·obtain⟨b,hb,h1⟩:=ih r hr
   exact⟨b,List.mem_append_left _ hb,h1⟩
theorem Adds.has {ad:List Add}{l:List Rec}(h:Adds ad l):∀a∈ad,a.2.2=true→a.2.1≠[]→(a.1,a.2.1)∈l:=by
 induction h with
 |nil=>intro a ha;cases ha
 |snoc a h hk ih=>
  intro b hb hm hv
  rw[List.mem_append,List.mem_singleton] at hb
  rcases hb with hb|rfl
  ·have:=ih b hb hm hv
   rcases hk with ⟨rfl,_⟩|⟨rfl,_⟩
   ·exact List.mem_append_left _ this
   ·exact this
  ·rcases hk with ⟨rfl,_⟩|⟨rfl,h1|h1⟩
   ·exact List.mem_append_right _ (List.mem_singleton.2 rfl)
   ·exact absurd h1 hv
   ·rw[hm] at h1;cases h1
def addsW (ad:List Add):Nat:=(ad.map fun a=>a.1.length+a.2.1.length+10).sum
theorem addsW_snoc (ad:List Add)(a:Add):addsW (ad++[a])=addsW ad+(a.1.length+a.2.1.length+10):=by
 unfold addsW;rw[List.map_append,List.sum_append];simp
theorem Adds.wt {ad:List Add}{l:List Rec}(h:Adds ad l):recsW l≤addsW ad:=by
 induction h with
 |nil=>exact Nat.le_refl _
 |snoc a h hk ih=>
  rw[addsW_snoc]
  rcases hk with ⟨rfl,_⟩|⟨rfl,_⟩
  ·rw[recsW_append]
   have:recsW [(a.1,a.2.1)]=a.1.length+a.2.1.length+10:=by simp[recsW]
   omega
  ·omega
theorem recsW_perm {a b:List Rec}(h:a.Perm b):recsW a=recsW b:=by
 unfold recsW
 exact(h.map _).sum_nat
theorem time_len (s n:Int)(z:Nat)(hn:0≤n∧n<1000000000)(hs: -100000000000000000≤s∧s≤100000000000000000)(hz:z≤1):(timeText s n z).length≤40:=by
 have h1:∀a:Nat,(Lib.decDigits (if s<0 then (if 0<n then (-s-1).toNat else (-s).toNat) else s.toNat)).length≤18:=fun _=>dec_len_le _ 18 (by omega) (by split<;>(try split)<;>omega)
 have h2:∀a:Nat,a<1000000000→(trimZ (dec9 a)).length≤9:=fun a ha=>by
  have:=trimZ_len (dec9 a)
  rw[dec9_len a ha] at this
  exact this
 unfold timeText
 simp only
 have h3:=h1 0
 have h4:=h2 (if s<0∧0<n then (1000000000-n).toNat else n.toNat) (by split<;>omega)
 rw[List.length_append,List.length_append]
 have h5:(if s<0 then [(45:UInt8)] else []).length≤1:=by split<;>simp
 have h6:∀p:List UInt8,p.length≤10→(if p=[] then ([]:List UInt8) else 46::p).length≤11:=fun p hp=>by split<;>simp<;>omega
 have h7:=h6 (trimZ (dec9 (if s<0∧0<n then (1000000000-n).toNat else n.toNat))++List.replicate z 48) (by rw[List.length_append,List.length_replicate];omega)
 omega
theorem must_ascii {k:Nat}{l:List UInt8}(h:¬Ascii l∨k<l.length):mustF k l=true:=by
 unfold mustF
 rcases h with h|h
 ·have:l.all okA=false:=by
   rw[←Bool.not_eq_true]
   exact fun e=>h ((ascii_iff l).1 e)
  rw[this];rfl
 ·rw[decide_eq_true h,Bool.or_true]
theorem must_name {l:List UInt8}(h:¬Ascii l∨100<l.length∧¬Splits l):mustN l=true:=by
 unfold mustN
 rcases h with h|⟨h,h2⟩
 ·have:l.all okA=false:=by
   rw[←Bool.not_eq_true]
   exact fun e=>h ((ascii_iff l).1 e)
  rw[this];rfl
 ·have:spB l=false:=by
   rw[←Bool.not_eq_true]
   exact fun e=>h2 ((spB_iff l).1 e)
  rw[decide_eq_true h,this,Bool.true_and,Bool.not_false,Bool.or_true]
theorem decDigits_ne (n:Nat):Lib.decDigits n≠[]:=by
 have:=dec_pos n
 intro e
 rw[e] at this
 simp at this
theorem time_ne (s n:Int)(z:Nat):timeText s n z≠[]:=by
 unfold timeText
 simp only
 intro e
 rw[List.append_eq_nil_iff,List.append_eq_nil_iff] at e
 exact decDigits_ne _ e.1.2
structure TldW (h:Hd):Prop where
 w:weight h≤524288
 size:h.size≤9223372036854775807
 uid:h.uid≤9223372036854775807
 gid:h.gid≤9223372036854775807
 mn:0≤h.mn∧h.mn<1000000000
 ms: -100000000000000000≤h.ms∧h.ms≤100000000000000000
 acc:h.hasA=true→(-100000000000000000≤h.ats∧h.ats≤100000000000000000)∧0≤h.atn∧h.atn<1000000000
 chg:h.hasC=true→(-100000000000000000≤h.cts∧h.cts≤100000000000000000)∧0≤h.ctn∧h.ctn<1000000000
 own:∀r∈h.recs,r.2≠[]
theorem recs_weight (l:List Rec):recsW l≤(l.map fun r=>r.1.length+r.2.length+24).sum:=by
 induction l with
 |nil=>exact Nat.le_refl _
 |cons r l ih=>
  unfold recsW at ih ⊢
  simp only[List.map_cons,List.sum_cons]
  omega
theorem told_plain (h:Hd)(hc:TldW h)(l:List Rec)(hr:TldRaw h l):ToldE h l:=by
 obtain⟨z0,z1,z2,l0,o,hz0,hz1,hz2,ha,hle,hp⟩:=hr
 have hin:∀r,r∈l0→r∈l:=fun r hr=>hp.mem_iff.2 (List.mem_append_right _ hr)
 have key:∀a∈adsOf h z0 z1 z2,a.2.2=true→a.2.1≠[]→HasKey l a.1:=fun a h1 h2 h3=>⟨_,hin _ (ha.has a h1 h2 h3),rfl⟩
 refine⟨?_,?_,?_,?_,?_,?_,?_,?_,?_,?_,?_,?_,?_⟩
 ·intro r hr
  rw[hp.mem_iff,List.mem_append] at hr
  rcases hr with hr|hr
  ·have:=(hle.mem r.1 r.2).1 hr
   exact⟨by unfold RecOk;simp only[this,or_true],hc.own _ (findL_mem _ _ _ this)⟩
  ·obtain⟨a,ham,rfl,hv⟩:=ha.mem r hr
   refine⟨?_,hv⟩
   unfold adsOf at ham
   rw[List.mem_append,List.mem_append,List.mem_append] at ham
   unfold RecOk
   rcases ham with ((ham|ham)|ham)|ham
   ·simp only[List.mem_cons,List.not_mem_nil,or_false] at ham
    rcases ham with rfl|rfl|rfl|rfl|rfl|rfl|rfl<;>simp
   ·rw[List.mem_singleton] at ham
    subst ham
    exact .inr (.inr (.inr (.inr (.inr (.inr (.inr (.inl ⟨rfl,z0,hz0,rfl⟩)))))))
   ·split at ham
    ·rename_i hA
     rw[List.mem_singleton] at ham
     subst ham
     exact .inr (.inr (.inr (.inr (.inr (.inr (.inr (.inr (.inl ⟨rfl,hA,z1,hz1,rfl⟩))))))))
    ·cases ham
   ·split at ham
    ·rename_i hA
     rw[List.mem_singleton] at ham
     subst ham
     exact .inr (.inr (.inr (.inr (.inr (.inr (.inr (.inr (.inr (.inl ⟨rfl,hA,z2,hz2,rfl⟩)))))))))
    ·cases ham
 ·intro h1 h2;exact key (kPath,h.name,mustN h.name) (by simp[adsOf]) (must_name h1) h2
 ·intro h1 h2;exact key (kLink,h.link,mustF 100 h.link) (by simp[adsOf]) (must_ascii h1) h2
 ·intro h1 h2;exact key (kUname,h.un,mustF 31 h.un) (by simp[adsOf]) (must_ascii h1) h2
 ·intro h1 h2;exact key (kGname,h.gn,mustF 31 h.gn) (by simp[adsOf]) (must_ascii h1) h2
 ·intro h1;exact key (kSize,Lib.decDigits h.size.toNat,!fitsO 12 h.size) (by simp[adsOf]) (by simpa using h1) (decDigits_ne _)
 ·intro h1;exact key (kUid,Lib.decDigits h.uid.toNat,!fitsO 8 h.uid) (by simp[adsOf]) (by simpa using h1) (decDigits_ne _)
 ·intro h1;exact key (kGid,Lib.decDigits h.gid.toNat,!fitsO 8 h.gid) (by simp[adsOf]) (by simpa using h1) (decDigits_ne _)
 ·intro h1
  exact key (kMtime,timeText h.ms h.mn z0,!decide (h.mn=0)|| !fitsO 12 h.ms) (by simp[adsOf]) (by
   rcases h1 with h1|h1
   ·simp[h1]
   ·simp only[Bool.not_eq_true] at h1
    simp[h1]) (time_ne _ _ _)
 ·intro h1;exact key (kAtime,timeText h.ats h.atn z1,true) (by simp[adsOf,h1]) rfl (time_ne _ _ _)
 ·intro h1;exact key (kCtime,timeText h.cts h.ctn z2,true) (by simp[adsOf,h1]) rfl (time_ne _ _ _)
 ·intro k v hf
  exact hp.mem_iff.2 (List.mem_append_left _ ((hle.mem k v).2 hf))
 ·rw[recsW_perm hp,recsW_append]
  have h1:=hle.wt
  have h2:=recs_weight h.recs
  have h3:=ha.wt
  have h4:addsW (adsOf h z0 z1 z2)≤h.name.length+h.link.length+h.un.length+h.gn.length+1000:=by
   have d1:=dec_len_le h.size.toNat 20 (by omega) (by have:=hc.size;omega)
   have d2:=dec_len_le h.uid.toNat 20 (by omega) (by have:=hc.uid;omega)
   have d3:=dec_len_le h.gid.toNat 20 (by omega) (by have:=hc.gid;omega)
   have d4:=time_len h.ms h.mn z0 hc.mn hc.ms hz0
   have eA:addsW (if h.hasA then [(kAtime,timeText h.ats h.atn z1,true)] else [])≤100:=by
    split
    ·rename_i hA
     have:=time_len h.ats h.atn z1 (hc.acc hA).2 (hc.acc hA).1 hz1
     simp[addsW,kAtime];omega
    ·simp[addsW]
   have eC:addsW (if h.hasC then [(kCtime,timeText h.cts h.ctn z2,true)] else [])≤100:=by
    split
    ·rename_i hA
     have:=time_len h.cts h.ctn z2 (hc.chg hA).2 (hc.chg hA).1 hz2
     simp[addsW,kCtime];omega
    ·simp[addsW]
   have ap:∀a b:List Add,addsW (a++b)=addsW a+addsW b:=fun a b=>by unfold addsW;rw[List.map_append,List.sum_append]
   unfold adsOf
   rw[ap,ap,ap]
   have e1:addsW [(kPath,h.name,mustN h.name),(kLink,h.link,mustF 100 h.link),(kUname,h.un,mustF 31 h.un),(kGname,h.gn,mustF 31 h.gn),(kSize,Lib.decDigits h.size.toNat,!fitsO 12 h.size),(kUid,Lib.decDigits h.uid.toNat,!fitsO 8 h.uid),(kGid,Lib.decDigits h.gid.toNat,!fitsO 8 h.gid)]≤h.name.length+h.link.length+h.un.length+h.gn.length+300:=by
    simp[addsW,kPath,kLink,kUname,kGname,kSize,kUid,kGid];omega
   have e2:addsW [(kMtime,timeText h.ms h.mn z0,!decide (h.mn=0)|| !fitsO 12 h.ms)]≤100:=by simp[addsW,kMtime];omega
   omega
  have h5:=hc.w
  have h6:h.name.length+h.link.length+h.un.length+h.gn.length+recsW h.recs≤weight h:=Nat.add_le_add_left h2 _
  omega
theorem step_append_run {P:Program}{ops:Array Oper}{o:Oper}{a:Act}{w:World}{K:Act→World→Prop}{Q:Exit→Act→World→Prop}{E:Prop}(hgd:o.guard=none)(s x:Operand)(t tn:TypeId)
  (ho:o.op=.call {callee:=.builtin .append,args:= #[s,x],argTypes:= #[t,tn]}) (vs vx:Value) (hs:a.eval s=vs) (hx:a.eval x=vx) (v':Value) (w':World)
  (hr:(Builtin.append_ #[t,tn] o.type #[vs,vx]).run P w=.ok v' w') (h:K (a.put o.dst v') w'):if Region.wanted o (yielded ops a.tmps)=true then Oper.wp P o a w K Q else E:=by
 have hw:Region.wanted o (yielded ops a.tmps)=true:=by simp[Region.wanted,hgd]
 rw[if_pos hw]
 exact Lib.wp_append_run w s x t tn ho vs vx hs hx v' w' hr h
structure FlSt (w0:World)(C m:Nat)(h:Hd)(rv dv:Value)(out:List UInt8)(w:World):Prop where
 cho:Cho w C m
 cp:w.heap[w0.heap.size]?=some (.cells #[.pointer (some ⟨C,0,none⟩)] 83 (0,0))
 fr:w.heap[w0.heap.size+1]?=some (.cells (sRow h rv++[dv]).toArray 47 (0,0))
 hd:w.heap[w0.heap.size+2]?=some (.cells (sRow h rv).toArray 45 (0,0))
 ov:∃v,w.heap[w0.heap.size+3]?=some (.cells #[v] 27 (0,0))∧OwnB w (w0.heap.size+4) v out
 kp:Kp (· =C) w0 w
theorem FlSt.grow {w0 w w':World}{C m:Nat}{h:Hd}{rv dv:Value}{out:List UInt8}(s:FlSt w0 C m h rv dv out w)(k:Kp (fun _=>False) w w'):FlSt w0 C m h rv dv out w':=by
 obtain⟨v,h1,h2⟩:=s.ov
 exact⟨s.cho.keep k (fun _ h=>h.elim) (Nat.le_refl _),k.heap s.cp (fun h=>h),k.heap s.fr (fun h=>h),k.heap s.hd (fun h=>h),⟨v,k.heap h1 (fun h=>h),h2.keep k (fun _ _ h=>h)⟩,s.kp.then k (fun _ _ h=>h.elim)⟩
theorem FlSt.chose {w0 w w':World}{C m m':Nat}{h:Hd}{rv dv:Value}{out:List UInt8}(s:FlSt w0 C m h rv dv out w)(hC:C<w0.heap.size)(k:Kp (· =C) w w')(hc:Cho w' C m'):FlSt w0 C m' h rv dv out w':=by
 obtain⟨v,h1,h2⟩:=s.ov
 exact⟨hc,k.heap s.cp (by omega),k.heap s.fr (by omega),k.heap s.hd (by omega),⟨v,k.heap h1 (by omega),h2.keep k (fun b hb e=>by have:=(h2.block hb).1;omega)⟩,s.kp.then k (fun i hi e=>by omega)⟩
theorem FlSt.more {w0 w:World}{C m m':Nat}{h:Hd}{rv dv:Value}{out:List UInt8}(s:FlSt w0 C m h rv dv out w)(hm:m≤m'):FlSt w0 C m' h rv dv out w:=
 ⟨s.cho.keep (Kp.refl (fun _=>False) _) (fun _ h=>h.elim) hm,s.cp,s.fr,s.hd,s.ov,s.kp⟩
theorem FlSt.app {w0 w:World}{C m:Nat}{h:Hd}{rv dv:Value}{out:List UInt8}(s:FlSt w0 C m h rv dv out w)(hC:C<w0.heap.size)(x:Value)(t:List UInt8)(hx:DataAt w x t)(hlen:out.length+t.length≤140737488355328)(ty:TypeId)
  (lv:Value) (hlv:w.cell? ⟨w0.heap.size+3,0,none⟩=some lv) :
  ∃A n c w',(Builtin.append_ #[27,27] ty #[lv,x]).run Tryz.prog w=.ok (.slice A n c) w'∧w'.cell? ⟨w0.heap.size+3,0,none⟩=some lv∧w'.frozen? ⟨w0.heap.size+3,0,none⟩=false ∧
   FlSt w0 C m h rv dv (out++t) (w'.setCell ⟨w0.heap.size+3,0,none⟩ (.slice A n c))∧Kp (fun i=>w0.heap.size+4≤i) w w':=by
 obtain⟨v,h1,h2⟩:=s.ov
 have e:v=lv:=by
  have:=cell_of h1 0 (v:=v) rfl
  rw[hlv] at this
  injection this with this
  exact this.symm
 subst e
 have hH:w0.heap.size+4≤w.heap.size:=by have:=lt_of h1;omega
 obtain⟨v2,w2,hr,ho,hk,hb⟩:=app_data_ex w ty (w0.heap.size+4) v x out t h2 hx hlen hH
 obtain⟨A,c,rfl⟩:=ho.shape
 have kw:Kp (fun i=>w0.heap.size+4≤i) w w2:=hk.mono fun i _ hi=>(h2.block hi.symm).1
 have g1:=kw.heap h1 (by omega)
 have ks:Kp (· =w0.heap.size+3) w2 (w2.setCell ⟨w0.heap.size+3,0,none⟩ (.slice A (out++t).length c)):=Kp.setCell (S:=(· =w0.heap.size+3)) (p:=⟨w0.heap.size+3,0,none⟩) (Kp.refl _ w2) (.inl rfl) _
 have g2:=heap_set g1 0 (.slice A (out++t).length c)
 refine⟨A,(out++t).length,c,w2,hr,cell_of g1 0 rfl,free_of g1 0,⟨(s.cho.keep kw (fun i hi=>by omega) (Nat.le_refl _)).keep ks (fun i hi=>by omega) (Nat.le_refl _),ks.heap (kw.heap s.cp (by omega)) (by omega),ks.heap (kw.heap s.fr (by omega)) (by omega),ks.heap (kw.heap s.hd (by omega)) (by omega),⟨.slice A (out++t).length c,by simpa using g2,ho.keep ks (fun b hb e=>by have:=(ho.block hb).1;omega)⟩,(s.kp.then kw (fun i hi e=>by omega)).then ks (fun i hi e=>by omega)⟩,kw⟩
theorem OwnB.dataAt {w:World}{base:Nat}{v:Value}{t:List UInt8}(ho:OwnB w base v t):DataAt w v t:=by
 obtain⟨A3,c3,rfl⟩:=ho.shape
 rcases ho.2 with ⟨h1,h2⟩|⟨g,cap,cur,h1,h2,h3,h4,h5,h6,h7⟩
 ·exact .inl ⟨.inl h1,List.eq_nil_of_length_eq_zero h2⟩
 ·refine .inr ⟨g,0,cap,h1,fun j u hu=>?_⟩
  rw[Nat.zero_add]
  refine cell_of h3 j ?_
  rw[←h7,Nat.mul_one,List.getElem?_take] at hu
  split at hu
  ·simpa using hu
  ·cases hu
structure TextP (s:List UInt8)(size f:Int):Prop where
 nul:NoNul s
 one:f=1→Ascii s∧(s.length:Int)≤size
def TxEnd (s:List UInt8)(size f:Int)(e:Ending):Prop:=∃v,e=.returned (.int .i64 v)∧V3 v∧(v=1→TextP s size f)
theorem ascii_of {l:List UInt8}(h:l.all okA=true):Ascii l:=fun c hc=>by
 have:=List.all_eq_true.1 h c hc
 unfold okA at this
 simp only[Bool.and_eq_true,decide_eq_true_eq,bne_iff_ne] at this
 exact⟨this.2,this.1⟩
set_option maxHeartbeats 1600000 in
theorem text_any (w:World)(s:List UInt8)(size f:Int)(hf:f=1∨f=2∨f=3)(hl:s.length≤1099511627776):Calls Tryz.prog 84 #[.string ⟨s.toArray⟩, .int .i64 size, .int .i64 f] w fun e w'=>Hid (TxEnd s size f e)∧w'=w:=by
 have END0:Hid (TxEnd s size f (.returned (.int .i64 0))):=⟨0,rfl, .inl rfl,fun h=>absurd h (by decide)⟩
 have HN:=fun W=>hid (hasNul_any W s (by omega))
 have HA:=fun W=>hid (ascii_any W s (by omega))
 have HU:=fun W=>hid (utf8_any W s (by omega))
 unfold strv at HA
 obtain⟨n,hn⟩:∃n,nulB s=n:=⟨_,rfl⟩
 rw[hn] at HN
 cases n with
 |true=>
  go_enter Tryz.func84,Tryz.ntmps84
  go_wp2_with fail
  refine(HN _).out.mono ?_
  rintro e w1 ⟨rfl,rfl⟩
  go_wp2_with fail
  go_ret
  exact⟨END0,rfl⟩
 |false=>
  have hz:=hid (nulB_no hn)
  clear hn
  rcases hf with rfl|rfl|rfl
  ·obtain⟨a,ha⟩:∃a,s.all okA=a:=⟨_,rfl⟩
   rw[ha] at HA
   cases a with
   |false=>
    have FIN:Hid (TxEnd s size 1 (.returned (.int .i64 2))):=⟨2,rfl, .inr (.inr rfl),fun h=>absurd h (by decide)⟩
    clear HU ha
    go_enter Tryz.func84,Tryz.ntmps84
    go_wp2_with fail
    refine(HN _).out.mono ?_
    rintro e w1 ⟨rfl,rfl⟩
    go_wp2_with fail
    refine(HA _).out.mono ?_
    rintro e w1 ⟨rfl,rfl⟩
    go_wp2_with fail
    refine(when_any _ _).mono ?_
    rintro e w1 ⟨rfl,rfl⟩
    go_wp2_with fail
    go_ret
    exact⟨FIN,rfl⟩
   |true=>
    obtain⟨b,hb⟩:∃b,decide ((s.length:Int)≤size)=b:=⟨_,rfl⟩
    have FIN:Hid (TxEnd s size 1 (.returned (.int .i64 (if b then 1 else 2)))):=⟨_,rfl,v3_when b,fun h=>by
     cases b with
     |false=>exact absurd h (by decide)
     |true=>exact⟨hz.out,fun _=>⟨ascii_of ha,of_decide_eq_true hb⟩⟩⟩
    clear HU ha
    cases b<;>(
     go_enter Tryz.func84,Tryz.ntmps84
     go_wp2_with fail
     refine(HN _).out.mono ?_
     rintro e w1 ⟨rfl,rfl⟩
     go_wp2_with fail
     refine(HA _).out.mono ?_
     rintro e w1 ⟨rfl,rfl⟩
     go_wp2_with fail
     refine(when_any _ _).mono ?_
     rintro e w1 ⟨rfl,rfl⟩
     go_wp2_with fail
     go_ret
     exact⟨FIN,rfl⟩)
  ·have FIN:Hid (TxEnd s size 2 (.returned (.int .i64 1))):=⟨1,rfl, .inr (.inl rfl),fun _=>⟨hz.out,fun h=>absurd h (by decide)⟩⟩
   clear HA
   go_enter Tryz.func84,Tryz.ntmps84
   go_wp2_with fail
   refine(HN _).out.mono ?_
   rintro e w1 ⟨rfl,rfl⟩
   go_wp2_with fail
   refine(HU _).out.mono ?_
   rintro e w1 ⟨⟨b,rfl,_⟩,rfl⟩
   cases b
   ·go_wp2_with fail
    go_ret
    exact⟨END0,rfl⟩
   ·go_wp2_with fail
    go_ret
    exact⟨FIN,rfl⟩
  ·have FIN:Hid (TxEnd s size 3 (.returned (.int .i64 1))):=⟨1,rfl, .inr (.inl rfl),fun _=>⟨hz.out,fun h=>absurd h (by decide)⟩⟩
   clear HA HU
   go_enter Tryz.func84,Tryz.ntmps84
   go_wp2_with fail
   refine(HN _).out.mono ?_
   rintro e w1 ⟨rfl,rfl⟩
   go_wp2_with fail
   go_ret
   exact⟨FIN,rfl⟩
structure OwnerP (s:List UInt8)(f:Int):Prop where
 nul:NoNul s
 one:f=1→Ascii s
 len:f≠2→s.length≤31
def OwEnd (s:List UInt8)(f:Int)(e:Ending):Prop:=∃v,e=.returned (.int .i64 v)∧V3 v∧(v=1→OwnerP s f)
set_option maxHeartbeats 1600000 in
theorem owner_any (w:World)(s:List UInt8)(f:Int)(hf:f=1∨f=2∨f=3)(hl:s.length≤1099511627776):Calls Tryz.prog 88 #[.string ⟨s.toArray⟩, .int .i64 f] w fun e w'=>Hid (OwEnd s f e)∧Kp (fun _=>False) w w':=by
 have HT:=hid (text_any w s 32 f hf hl)
 have HALL:=fun v hv=>hid (all_any (w.alloc (.cells #[.int .i64 v, .int .i64 0] 3)) w.heap.size [v,0] hv (heap_new w _) (by simp))
 have TWO:Hid (OwEnd s f (.returned (.int .i64 2))):=⟨2,rfl, .inr (.inr rfl),fun h=>absurd h (by decide)⟩
 have key:∀(e0:Ending),(f≠2→s.length≠32)→(f=3→s.length≤32)→Hid (TxEnd s 32 f e0)→Hid (OwEnd s f e0):=fun e0 h1 h2 hx=>by
  obtain⟨v,rfl,hv,hp⟩:=hx.out
  refine⟨v,rfl,hv,fun h=>?_⟩
  have:=hp h
  refine⟨this.nul,fun h=>(this.one h).1,fun h=>?_⟩
  have h3:=h1 h
  rcases hf with rfl|rfl|rfl
  ·have:=(this.one rfl).2
   omega
  ·exact absurd rfl h
  ·have:=h2 rfl
   omega
 have KEY:=hid key
 clear key
 by_cases h32:s.length=32
 ·have t1:((s.length:Int)==32)=true:=by rw[h32];rfl
  have t2:decide ((32:Int)<(s.length:Int))=false:=decide_eq_false (by omega)
  by_cases f2:f=2
  ·subst f2
   have KEY:=fun e0=>KEY.out e0 (fun h=>absurd rfl h) (fun h=>absurd h (by decide))
   clear h32 HALL
   go_enter Tryz.func88,Tryz.ntmps88
   go_wp2_with fail
   refine HT.out.mono ?_
   rintro e w1 ⟨hx,rfl⟩
   have FIN:=KEY _ hx
   obtain⟨v,rfl,hv,hp⟩:=hx.out
   clear HT hp KEY
   go_wp2_with fail
   go_ret
   exact⟨FIN,Kp.refl _ _⟩
  ·have t3:(f != 2)=true:=by simpa using f2
   have t4:f=3∨f=1:=by omega
   have FINV:∀v x,V3 x→(x=1→∀u∈[v,(0:Int)],u=1)→Hid (OwEnd s f (.returned (.int .i64 x))):=fun v x hx hxx=>⟨x,rfl,hx,fun h=>absurd (hxx h 0 (by simp)) (by decide)⟩
   clear h32 KEY f2 hf
   rcases t4 with rfl|rfl<;>(
    go_enter Tryz.func88,Tryz.ntmps88
    go_wp2_with fail
    refine HT.out.mono ?_
    rintro e w1 ⟨hx,rfl⟩
    obtain⟨v,rfl,hv,hp⟩:=hx.out
    clear HT hp hx
    have HALL:=HALL v (fun u hu=>by rcases List.mem_cons.1 hu with rfl|hu;exact hv;rw[List.mem_singleton] at hu;exact .inl hu)
    go_wp2_with fail
    refine HALL.out.mono ?_
    rintro e w2 ⟨⟨x,rfl,hx,hxx⟩,rfl⟩
    have FIN:=FINV v x hx hxx
    clear HALL hxx hx
    go_wp2_with fail
    go_ret
    exact⟨FIN,(Kp.refl _ _).alloc _⟩)
 ·have t1:((s.length:Int)==32)=false:=by rw[beq_eq_false_iff_ne];omega
  by_cases hgt:f=3∧32<s.length
  ·obtain⟨rfl,hgt⟩:=hgt
   have t2:decide ((32:Int)<(s.length:Int))=true:=decide_eq_true (by omega)
   clear h32 HALL KEY
   go_enter Tryz.func88,Tryz.ntmps88
   go_wp2_with fail
   refine HT.out.mono ?_
   rintro e w1 ⟨hx,rfl⟩
   obtain⟨v,rfl,hv,hp⟩:=hx.out
   clear HT hp hx
   go_wp2_with fail
   go_ret
   exact⟨TWO,Kp.refl _ _⟩
  ·have KEY2:=fun e0=>KEY.out e0 (fun _=>h32) (fun h=>by omega)
   clear h32 HALL
   rcases hf with rfl|rfl|rfl
   ·go_enter Tryz.func88,Tryz.ntmps88
    go_wp2_with fail
    refine HT.out.mono ?_
    rintro e w1 ⟨hx,rfl⟩
    have FIN:=KEY2 _ hx
    obtain⟨v,rfl,hv,hp⟩:=hx.out
    clear HT hp KEY2
    go_wp2_with fail
    go_ret
    exact⟨FIN,Kp.refl _ _⟩
   ·go_enter Tryz.func88,Tryz.ntmps88
    go_wp2_with fail
    refine HT.out.mono ?_
    rintro e w1 ⟨hx,rfl⟩
    have FIN:=KEY2 _ hx
    obtain⟨v,rfl,hv,hp⟩:=hx.out
    clear HT hp KEY2
    go_wp2_with fail
    go_ret
    exact⟨FIN,Kp.refl _ _⟩
   ·have t2:decide ((32:Int)<(s.length:Int))=false:=decide_eq_false (by omega)
    go_enter Tryz.func88,Tryz.ntmps88
    go_wp2_with fail
    refine HT.out.mono ?_
    rintro e w1 ⟨hx,rfl⟩
    have FIN:=KEY2 _ hx
    obtain⟨v,rfl,hv,hp⟩:=hx.out
    clear HT hp KEY2
    go_wp2_with fail
    go_ret
    exact⟨FIN,Kp.refl _ _⟩
theorem metaE_len {kind:UInt8}{name data:List UInt8}{gnu:Bool}{t:List UInt8}(h:MetaE kind name data gnu t):t.length≤data.length+1024:=by
 obtain⟨l,hl⟩:=h
 rw[List.length_append,hl.len,filledL_len]
 have:=padN_lt data.length
 omega
set_option maxHeartbeats 3200000 in
theorem long_any (w0 w:World)(C m:Nat)(h:Hd)(rv dv:Value)(out:List UInt8)(hC:C<w0.heap.size)(s:FlSt w0 C m h rv dv out w)(hm:m+1000≤1000000000000)(hn:h.name.length≤1048576)(hne:h.name≠[])(hlen:out.length≤1099511627776) :
  Calls Tryz.prog 75 #[.pointer (some ⟨w0.heap.size+2,0,none⟩), .pointer (some ⟨w0.heap.size,0,none⟩), .pointer (some ⟨w0.heap.size+3,0,none⟩)] w fun e w'=>
   e=.returned (.tuple #[])∧Hid (∃t,LongE 76 h.name t∧t.length≤2097152∧FlSt w0 C (m+200) h rv dv (out++t) w'):=by
 have HS:=hid s
 have cp:w.cell? ⟨w0.heap.size,0,none⟩=some (.pointer (some ⟨C,0,none⟩)):=cell_of s.cp 0 rfl
 have nm:w.cell? ⟨w0.heap.size+2,1,none⟩=some (.string ⟨h.name.toArray⟩):=cell_of s.hd 1 rfl
 have hCw:C<w.heap.size:=by have:=s.kp.size;omega
 clear s
 by_cases hl:100<h.name.length
 ·have hd:decide ((100:Int)<(h.name.length:Int))=true:=decide_eq_true (by omega)
  go_enter Tryz.func75,Tryz.ntmps75
  go_upto_region 1 with fail
  clear hl hd
  have kD:=(Kp.refl (fun _=>False) w).drew
  have SD:=hid (HS.out.grow kD)
  obtain⟨lv,hlv⟩:∃lv,w.drew.cell? ⟨w0.heap.size+3,0,none⟩=some lv:=by
   obtain⟨v,h1,_⟩:=SD.out.ov
   exact⟨v,cell_of h1 0 rfl⟩
  have cp1:w.drew.cell? ⟨w0.heap.size,0,none⟩=some (.pointer (some ⟨C,0,none⟩)):=cell_of SD.out.cp 0 rfl
  have nm1:w.drew.cell? ⟨w0.heap.size+2,1,none⟩=some (.string ⟨h.name.toArray⟩):=cell_of SD.out.hd 1 rfl
  have hcat:(⟨h.name.toArray⟩:ByteArray)++⟨#[0]⟩=⟨(h.name++[0]).toArray⟩:=ba_app h.name [0]
  obtain⟨nl,hnl⟩:∃nl,h.name++[(0:UInt8)]=nl:=⟨_,rfl⟩
  have hnll:nl.length≤1048577:=by rw[←hnl,List.length_append,List.length_singleton];omega
  rw[hnl] at hcat
  have HNL:=hid hnl
  have hq1:h.name.length<9223372036854775807:=by omega
  have hq2:¬9223372036854775807<h.name.length+1:=by omega
  have hq3:¬9223372036854775807≤h.name.length:=by omega
  clear hnl
  have hsz0:w0.heap.size+4≤w.drew.heap.size:=by
   obtain⟨v,h1,_⟩:=SD.out.ov
   have:=lt_of h1
   omega
  have HME:=fun W hc=>hid (meta_any W C (m) 76 longName nl 3 true rfl hc (by omega) (by omega) (by decide))
  unfold longName at HME
  have hC0:C≠w0.heap.size+3:=by omega
  refine wp_region_held_drew (S:=(fun w'=>w'.cell? ⟨w0.heap.size,0,none⟩=some (.pointer (some ⟨C,0,none⟩))∧w'.cell? ⟨w0.heap.size+2,1,none⟩=some (.string ⟨h.name.toArray⟩))) (by kernel_rfl) ?_ (fun hHeld=>?_)
  ·(try dsimp only);(first|(exact⟨cp1,nm1⟩)|(exact hS2)|(exact hS3)|(exact hS4))
  refine wpAnyH_take (i:=1) (v:=?_) rfl (by kernel_rfl) (by kernel_rfl) (by kernel_rfl) (fun _ _ _ h=>h) (Or.inl ⟨by rfl,?_⟩) (by assumption) ?_
  rotate_left 1
  ·intro W hSw;(try dsimp only at hSw);go_simp;(try with_reducible rfl)
  refine wpAnyH_take (i:=2) (v:=?_) rfl (by kernel_rfl) (by kernel_rfl) (by kernel_rfl) (fun _ _ _ h=>h) (Or.inl ⟨by rfl,?_⟩) (by assumption) ?_
  rotate_left 1
  ·intro W hSw;(try dsimp only at hSw);go_simp;(try with_reducible rfl)
  refine wpAnyH_take (i:=3) (v:=?_) rfl (by kernel_rfl) (by kernel_rfl) (by kernel_rfl) (fun _ _ _ h=>h) (Or.inl ⟨by rfl,?_⟩) (by assumption) ?_
  rotate_left 1
  ·intro W hSw;(try dsimp only at hSw);go_simp;(try with_reducible rfl)
  refine wpAnyH_take (i:=4) (v:=?_) rfl (by kernel_rfl) (by kernel_rfl) (by kernel_rfl) (fun _ _ _ h=>h) (Or.inl ⟨by rfl,?_⟩) (by assumption) ?_
  rotate_left 1
  ·intro W hSw;(try dsimp only at hSw);go_simp;(try with_reducible rfl)
  try simp only[Act.put,List.getElem_toArray,List.getElem_cons_succ,List.getElem_cons_zero,sA,sB,sC]
  refine wpAnyH_ready (rs:=[0,5]) (by kernel_rfl) (by simp) ?_
  refine AllReadyH.cons (o:=_) rfl (fun K hK=>?_) (AllReadyH.cons (o:=_) rfl (fun K hK=>?_) AllReadyH.nil)
  go_simp
  refine hK.out _ _ ?_ (fun hNew=>?_)
  ·(first|(exact⟨cp1,nm1⟩)|(exact hS2)|(exact hS3)|(exact hS4))
  clear hK K
  refine wpAnyH_ready (rs:=[5]) (by kernel_rfl) (by simp) ?_
  refine AllReadyH.cons (o:=_) rfl (fun K hK=>?_) AllReadyH.nil
  go_simp
  go_at_call 71;refine(HME _ SD.out.cho).out.mono ?_;rintro e w5 ⟨v5,t5,rfl,ho5,hme5,hk5,hc5⟩;have hlv5:w5.cell? ⟨w0.heap.size+3,0,none⟩=some lv:=hk5.cell hlv (by show ¬(w0.heap.size+3=C);omega);have hS2:w5.cell? ⟨w0.heap.size,0,none⟩=some (.pointer (some ⟨C,0,none⟩))∧w5.cell? ⟨w0.heap.size+2,1,none⟩=some (.string ⟨h.name.toArray⟩):=⟨hk5.cell cp1 (by show ¬(w0.heap.size=C);omega),hk5.cell nm1 (by show ¬(w0.heap.size+2=C);omega)⟩;have S5:=SD.out.chose hC hk5 hc5;have hlen5:=metaE_len hme5;obtain⟨A6,n6,c6,w6,hr6,y1,y2,S6,k6⟩:=S5.app hC v5 t5 ho5.dataAt (by omega) 27 lv hlv5;have HR6:=hid hr6;have hS3:w6.cell? ⟨w0.heap.size,0,none⟩=some (.pointer (some ⟨C,0,none⟩))∧w6.cell? ⟨w0.heap.size+2,1,none⟩=some (.string ⟨h.name.toArray⟩):=⟨k6.cell hS2.1 (by show ¬(w0.heap.size+4≤w0.heap.size);omega),k6.cell hS2.2 (by show ¬(w0.heap.size+4≤w0.heap.size+2);omega)⟩;have hS4:(w6.setCell ⟨w0.heap.size+3,0,none⟩ (.slice A6 n6 c6)).cell? ⟨w0.heap.size,0,none⟩=some (.pointer (some ⟨C,0,none⟩))∧(w6.setCell ⟨w0.heap.size+3,0,none⟩ (.slice A6 n6 c6)).cell? ⟨w0.heap.size+2,1,none⟩=some (.string ⟨h.name.toArray⟩):=⟨cell_of S6.cp 0 rfl,cell_of S6.hd 1 rfl⟩;have FIN:Hid (∃t,LongE 76 h.name t∧t.length≤2097152∧FlSt w0 C (m+200) h rv dv (out++t) (w6.setCell ⟨w0.heap.size+3,0,none⟩ (.slice A6 n6 c6))):=⟨t5, .inr ⟨hne,by rw[HNL.out];exact hme5⟩,by omega,S6.more (by omega)⟩;clear hr6 S6 S5 hme5 ho5 hk5 hc5 hlen5 k6
  go_wp2_with fail
  refine hK.out _ _ ?_ (fun hNew=>?_)
  ·(first|(exact⟨cp1,nm1⟩)|(exact hS2)|(exact hS3)|(exact hS4))
  clear hK K
  refine wpAnyH_ready (rs:=[6]) (by kernel_rfl) (by simp) ?_
  refine AllReadyH.cons (o:=_) rfl (fun K hK=>?_) AllReadyH.nil
  refine step_append_run rfl _ _ _ _ rfl _ _ rfl rfl _ _ HR6.out ?_
  refine hK.out _ _ ?_ (fun hNew=>?_)
  ·(first|(exact⟨cp1,nm1⟩)|(exact hS2)|(exact hS3)|(exact hS4))
  clear hK K
  refine wpAnyH_ready (rs:=[7]) (by kernel_rfl) (by simp) ?_
  refine AllReadyH.cons (o:=_) rfl (fun K hK=>?_) AllReadyH.nil
  go_simp
  refine hK.out _ _ ?_ (fun hNew=>?_)
  ·(first|(exact⟨cp1,nm1⟩)|(exact hS2)|(exact hS3)|(exact hS4))
  clear hK K
  clear hHeld
  refine wpAnyH_done (by kernel_rfl) ?_ _
  rotate_left 1
  go_simp
  go_at_call 71;refine(HME _ SD.out.cho).out.mono ?_;rintro e w5 ⟨v5,t5,rfl,ho5,hme5,hk5,hc5⟩;have hlv5:w5.cell? ⟨w0.heap.size+3,0,none⟩=some lv:=hk5.cell hlv (by show ¬(w0.heap.size+3=C);omega);have hS2:w5.cell? ⟨w0.heap.size,0,none⟩=some (.pointer (some ⟨C,0,none⟩))∧w5.cell? ⟨w0.heap.size+2,1,none⟩=some (.string ⟨h.name.toArray⟩):=⟨hk5.cell cp1 (by show ¬(w0.heap.size=C);omega),hk5.cell nm1 (by show ¬(w0.heap.size+2=C);omega)⟩;have S5:=SD.out.chose hC hk5 hc5;have hlen5:=metaE_len hme5;obtain⟨A6,n6,c6,w6,hr6,y1,y2,S6,k6⟩:=S5.app hC v5 t5 ho5.dataAt (by omega) 27 lv hlv5;have HR6:=hid hr6;have hS3:w6.cell? ⟨w0.heap.size,0,none⟩=some (.pointer (some ⟨C,0,none⟩))∧w6.cell? ⟨w0.heap.size+2,1,none⟩=some (.string ⟨h.name.toArray⟩):=⟨k6.cell hS2.1 (by show ¬(w0.heap.size+4≤w0.heap.size);omega),k6.cell hS2.2 (by show ¬(w0.heap.size+4≤w0.heap.size+2);omega)⟩;have hS4:(w6.setCell ⟨w0.heap.size+3,0,none⟩ (.slice A6 n6 c6)).cell? ⟨w0.heap.size,0,none⟩=some (.pointer (some ⟨C,0,none⟩))∧(w6.setCell ⟨w0.heap.size+3,0,none⟩ (.slice A6 n6 c6)).cell? ⟨w0.heap.size+2,1,none⟩=some (.string ⟨h.name.toArray⟩):=⟨cell_of S6.cp 0 rfl,cell_of S6.hd 1 rfl⟩;have FIN:Hid (∃t,LongE 76 h.name t∧t.length≤2097152∧FlSt w0 C (m+200) h rv dv (out++t) (w6.setCell ⟨w0.heap.size+3,0,none⟩ (.slice A6 n6 c6))):=⟨t5, .inr ⟨hne,by rw[HNL.out];exact hme5⟩,by omega,S6.more (by omega)⟩;clear hr6 S6 S5 hme5 ho5 hk5 hc5 hlen5 k6
  go_wp2_with fail
  refine hK.out _ _ ?_ (fun hNew=>?_)
  ·(first|(exact⟨cp1,nm1⟩)|(exact hS2)|(exact hS3)|(exact hS4))
  clear hK K
  refine wpAnyH_ready (rs:=[0]) (by kernel_rfl) (by simp) ?_
  refine AllReadyH.cons (o:=_) rfl (fun K hK=>?_) AllReadyH.nil
  go_simp
  refine hK.out _ _ ?_ (fun hNew=>?_)
  ·(first|(exact⟨cp1,nm1⟩)|(exact hS2)|(exact hS3)|(exact hS4))
  clear hK K
  refine wpAnyH_ready (rs:=[6]) (by kernel_rfl) (by simp) ?_
  refine AllReadyH.cons (o:=_) rfl (fun K hK=>?_) AllReadyH.nil
  refine step_append_run rfl _ _ _ _ rfl _ _ rfl rfl _ _ HR6.out ?_
  refine hK.out _ _ ?_ (fun hNew=>?_)
  ·(first|(exact⟨cp1,nm1⟩)|(exact hS2)|(exact hS3)|(exact hS4))
  clear hK K
  refine wpAnyH_ready (rs:=[7]) (by kernel_rfl) (by simp) ?_
  refine AllReadyH.cons (o:=_) rfl (fun K hK=>?_) AllReadyH.nil
  go_simp
  refine hK.out _ _ ?_ (fun hNew=>?_)
  ·(first|(exact⟨cp1,nm1⟩)|(exact hS2)|(exact hS3)|(exact hS4))
  clear hK K
  clear hHeld
  refine wpAnyH_done (by kernel_rfl) ?_ _
  all_goals (go_wp2_with fail;go_end0;exact⟨rfl,FIN.out⟩)
 ·have hd:decide ((100:Int)<(h.name.length:Int))=false:=decide_eq_false (by omega)
  go_enter Tryz.func75,Tryz.ntmps75
  go_wp2_with fail
  refine(of_any w C m 4 HS.out.cho (by omega) (by omega)).mono ?_
  rintro e w1 ⟨⟨n,hn4,rfl⟩,hk1,hc1⟩
  have S1:=hid (HS.out.chose hC hk1 hc1)
  by_cases h0:n=0
  ·subst h0
   go_upto_region 1 with fail
   clear hl hd
   have kD:=(Kp.refl (fun _=>False) w1).drew
   have SD:=hid (S1.out.grow kD)
   obtain⟨lv,hlv⟩:∃lv,w1.drew.cell? ⟨w0.heap.size+3,0,none⟩=some lv:=by
    obtain⟨v,h1,_⟩:=SD.out.ov
    exact⟨v,cell_of h1 0 rfl⟩
   have cp1:w1.drew.cell? ⟨w0.heap.size,0,none⟩=some (.pointer (some ⟨C,0,none⟩)):=cell_of SD.out.cp 0 rfl
   have nm1:w1.drew.cell? ⟨w0.heap.size+2,1,none⟩=some (.string ⟨h.name.toArray⟩):=cell_of SD.out.hd 1 rfl
   have hcat:(⟨h.name.toArray⟩:ByteArray)++⟨#[0]⟩=⟨(h.name++[0]).toArray⟩:=ba_app h.name [0]
   obtain⟨nl,hnl⟩:∃nl,h.name++[(0:UInt8)]=nl:=⟨_,rfl⟩
   have hnll:nl.length≤1048577:=by rw[←hnl,List.length_append,List.length_singleton];omega
   rw[hnl] at hcat
   have HNL:=hid hnl
   have hq1:h.name.length<9223372036854775807:=by omega
   have hq2:¬9223372036854775807<h.name.length+1:=by omega
   have hq3:¬9223372036854775807≤h.name.length:=by omega
   clear hnl
   have hsz0:w0.heap.size+4≤w1.drew.heap.size:=by
    obtain⟨v,h1,_⟩:=SD.out.ov
    have:=lt_of h1
    omega
   have HME:=fun W hc=>hid (meta_any W C (m+1) 76 longName nl 3 true rfl hc (by omega) (by omega) (by decide))
   unfold longName at HME
   have hC0:C≠w0.heap.size+3:=by omega
   refine wp_region_held_drew (S:=(fun w'=>w'.cell? ⟨w0.heap.size,0,none⟩=some (.pointer (some ⟨C,0,none⟩))∧w'.cell? ⟨w0.heap.size+2,1,none⟩=some (.string ⟨h.name.toArray⟩))) (by kernel_rfl) ?_ (fun hHeld=>?_)
   ·(try dsimp only);(first|(exact⟨cp1,nm1⟩)|(exact hS2)|(exact hS3)|(exact hS4))
   refine wpAnyH_take (i:=1) (v:=?_) rfl (by kernel_rfl) (by kernel_rfl) (by kernel_rfl) (fun _ _ _ h=>h) (Or.inl ⟨by rfl,?_⟩) (by assumption) ?_
   rotate_left 1
   ·intro W hSw;(try dsimp only at hSw);go_simp;(try with_reducible rfl)
   refine wpAnyH_take (i:=2) (v:=?_) rfl (by kernel_rfl) (by kernel_rfl) (by kernel_rfl) (fun _ _ _ h=>h) (Or.inl ⟨by rfl,?_⟩) (by assumption) ?_
   rotate_left 1
   ·intro W hSw;(try dsimp only at hSw);go_simp;(try with_reducible rfl)
   refine wpAnyH_take (i:=3) (v:=?_) rfl (by kernel_rfl) (by kernel_rfl) (by kernel_rfl) (fun _ _ _ h=>h) (Or.inl ⟨by rfl,?_⟩) (by assumption) ?_
   rotate_left 1
   ·intro W hSw;(try dsimp only at hSw);go_simp;(try with_reducible rfl)
   refine wpAnyH_take (i:=4) (v:=?_) rfl (by kernel_rfl) (by kernel_rfl) (by kernel_rfl) (fun _ _ _ h=>h) (Or.inl ⟨by rfl,?_⟩) (by assumption) ?_
   rotate_left 1
   ·intro W hSw;(try dsimp only at hSw);go_simp;(try with_reducible rfl)
   try simp only[Act.put,List.getElem_toArray,List.getElem_cons_succ,List.getElem_cons_zero,sA,sB,sC]
   refine wpAnyH_ready (rs:=[0,5]) (by kernel_rfl) (by simp) ?_
   refine AllReadyH.cons (o:=_) rfl (fun K hK=>?_) (AllReadyH.cons (o:=_) rfl (fun K hK=>?_) AllReadyH.nil)
   go_simp
   refine hK.out _ _ ?_ (fun hNew=>?_)
   ·(first|(exact⟨cp1,nm1⟩)|(exact hS2)|(exact hS3)|(exact hS4))
   clear hK K
   refine wpAnyH_ready (rs:=[5]) (by kernel_rfl) (by simp) ?_
   refine AllReadyH.cons (o:=_) rfl (fun K hK=>?_) AllReadyH.nil
   go_simp
   go_at_call 71;refine(HME _ SD.out.cho).out.mono ?_;rintro e w5 ⟨v5,t5,rfl,ho5,hme5,hk5,hc5⟩;have hlv5:w5.cell? ⟨w0.heap.size+3,0,none⟩=some lv:=hk5.cell hlv (by show ¬(w0.heap.size+3=C);omega);have hS2:w5.cell? ⟨w0.heap.size,0,none⟩=some (.pointer (some ⟨C,0,none⟩))∧w5.cell? ⟨w0.heap.size+2,1,none⟩=some (.string ⟨h.name.toArray⟩):=⟨hk5.cell cp1 (by show ¬(w0.heap.size=C);omega),hk5.cell nm1 (by show ¬(w0.heap.size+2=C);omega)⟩;have S5:=SD.out.chose hC hk5 hc5;have hlen5:=metaE_len hme5;obtain⟨A6,n6,c6,w6,hr6,y1,y2,S6,k6⟩:=S5.app hC v5 t5 ho5.dataAt (by omega) 27 lv hlv5;have HR6:=hid hr6;have hS3:w6.cell? ⟨w0.heap.size,0,none⟩=some (.pointer (some ⟨C,0,none⟩))∧w6.cell? ⟨w0.heap.size+2,1,none⟩=some (.string ⟨h.name.toArray⟩):=⟨k6.cell hS2.1 (by show ¬(w0.heap.size+4≤w0.heap.size);omega),k6.cell hS2.2 (by show ¬(w0.heap.size+4≤w0.heap.size+2);omega)⟩;have hS4:(w6.setCell ⟨w0.heap.size+3,0,none⟩ (.slice A6 n6 c6)).cell? ⟨w0.heap.size,0,none⟩=some (.pointer (some ⟨C,0,none⟩))∧(w6.setCell ⟨w0.heap.size+3,0,none⟩ (.slice A6 n6 c6)).cell? ⟨w0.heap.size+2,1,none⟩=some (.string ⟨h.name.toArray⟩):=⟨cell_of S6.cp 0 rfl,cell_of S6.hd 1 rfl⟩;have FIN:Hid (∃t,LongE 76 h.name t∧t.length≤2097152∧FlSt w0 C (m+200) h rv dv (out++t) (w6.setCell ⟨w0.heap.size+3,0,none⟩ (.slice A6 n6 c6))):=⟨t5, .inr ⟨hne,by rw[HNL.out];exact hme5⟩,by omega,S6.more (by omega)⟩;clear hr6 S6 S5 hme5 ho5 hk5 hc5 hlen5 k6
   go_wp2_with fail
   refine hK.out _ _ ?_ (fun hNew=>?_)
   ·(first|(exact⟨cp1,nm1⟩)|(exact hS2)|(exact hS3)|(exact hS4))
   clear hK K
   refine wpAnyH_ready (rs:=[6]) (by kernel_rfl) (by simp) ?_
   refine AllReadyH.cons (o:=_) rfl (fun K hK=>?_) AllReadyH.nil
   refine step_append_run rfl _ _ _ _ rfl _ _ rfl rfl _ _ HR6.out ?_
   refine hK.out _ _ ?_ (fun hNew=>?_)
   ·(first|(exact⟨cp1,nm1⟩)|(exact hS2)|(exact hS3)|(exact hS4))
   clear hK K
   refine wpAnyH_ready (rs:=[7]) (by kernel_rfl) (by simp) ?_
   refine AllReadyH.cons (o:=_) rfl (fun K hK=>?_) AllReadyH.nil
   go_simp
   refine hK.out _ _ ?_ (fun hNew=>?_)
   ·(first|(exact⟨cp1,nm1⟩)|(exact hS2)|(exact hS3)|(exact hS4))
   clear hK K
   clear hHeld
   refine wpAnyH_done (by kernel_rfl) ?_ _
   rotate_left 1
   go_simp
   go_at_call 71;refine(HME _ SD.out.cho).out.mono ?_;rintro e w5 ⟨v5,t5,rfl,ho5,hme5,hk5,hc5⟩;have hlv5:w5.cell? ⟨w0.heap.size+3,0,none⟩=some lv:=hk5.cell hlv (by show ¬(w0.heap.size+3=C);omega);have hS2:w5.cell? ⟨w0.heap.size,0,none⟩=some (.pointer (some ⟨C,0,none⟩))∧w5.cell? ⟨w0.heap.size+2,1,none⟩=some (.string ⟨h.name.toArray⟩):=⟨hk5.cell cp1 (by show ¬(w0.heap.size=C);omega),hk5.cell nm1 (by show ¬(w0.heap.size+2=C);omega)⟩;have S5:=SD.out.chose hC hk5 hc5;have hlen5:=metaE_len hme5;obtain⟨A6,n6,c6,w6,hr6,y1,y2,S6,k6⟩:=S5.app hC v5 t5 ho5.dataAt (by omega) 27 lv hlv5;have HR6:=hid hr6;have hS3:w6.cell? ⟨w0.heap.size,0,none⟩=some (.pointer (some ⟨C,0,none⟩))∧w6.cell? ⟨w0.heap.size+2,1,none⟩=some (.string ⟨h.name.toArray⟩):=⟨k6.cell hS2.1 (by show ¬(w0.heap.size+4≤w0.heap.size);omega),k6.cell hS2.2 (by show ¬(w0.heap.size+4≤w0.heap.size+2);omega)⟩;have hS4:(w6.setCell ⟨w0.heap.size+3,0,none⟩ (.slice A6 n6 c6)).cell? ⟨w0.heap.size,0,none⟩=some (.pointer (some ⟨C,0,none⟩))∧(w6.setCell ⟨w0.heap.size+3,0,none⟩ (.slice A6 n6 c6)).cell? ⟨w0.heap.size+2,1,none⟩=some (.string ⟨h.name.toArray⟩):=⟨cell_of S6.cp 0 rfl,cell_of S6.hd 1 rfl⟩;have FIN:Hid (∃t,LongE 76 h.name t∧t.length≤2097152∧FlSt w0 C (m+200) h rv dv (out++t) (w6.setCell ⟨w0.heap.size+3,0,none⟩ (.slice A6 n6 c6))):=⟨t5, .inr ⟨hne,by rw[HNL.out];exact hme5⟩,by omega,S6.more (by omega)⟩;clear hr6 S6 S5 hme5 ho5 hk5 hc5 hlen5 k6
   go_wp2_with fail
   refine hK.out _ _ ?_ (fun hNew=>?_)
   ·(first|(exact⟨cp1,nm1⟩)|(exact hS2)|(exact hS3)|(exact hS4))
   clear hK K
   refine wpAnyH_ready (rs:=[0]) (by kernel_rfl) (by simp) ?_
   refine AllReadyH.cons (o:=_) rfl (fun K hK=>?_) AllReadyH.nil
   go_simp
   refine hK.out _ _ ?_ (fun hNew=>?_)
   ·(first|(exact⟨cp1,nm1⟩)|(exact hS2)|(exact hS3)|(exact hS4))
   clear hK K
   refine wpAnyH_ready (rs:=[6]) (by kernel_rfl) (by simp) ?_
   refine AllReadyH.cons (o:=_) rfl (fun K hK=>?_) AllReadyH.nil
   refine step_append_run rfl _ _ _ _ rfl _ _ rfl rfl _ _ HR6.out ?_
   refine hK.out _ _ ?_ (fun hNew=>?_)
   ·(first|(exact⟨cp1,nm1⟩)|(exact hS2)|(exact hS3)|(exact hS4))
   clear hK K
   refine wpAnyH_ready (rs:=[7]) (by kernel_rfl) (by simp) ?_
   refine AllReadyH.cons (o:=_) rfl (fun K hK=>?_) AllReadyH.nil
   go_simp
   refine hK.out _ _ ?_ (fun hNew=>?_)
   ·(first|(exact⟨cp1,nm1⟩)|(exact hS2)|(exact hS3)|(exact hS4))
   clear hK K
   clear hHeld
   refine wpAnyH_done (by kernel_rfl) ?_ _
   all_goals (go_wp2_with fail;go_end0;exact⟨rfl,FIN.out⟩)
  ·have hd0:((n:Int)==0)=false:=by rw[beq_eq_false_iff_ne];omega
   have FIN:Hid (∃t,LongE 76 h.name t∧t.length≤2097152∧FlSt w0 C (m+200) h rv dv (out++t) w1):=⟨[], .inl ⟨rfl,by omega⟩,by simp,by rw[List.append_nil];exact S1.out.more (by omega)⟩
   clear HS S1 hk1 hc1
   go_wp2_with fail
   go_end0
   exact⟨rfl,FIN.out⟩
end Go.Proofs.YtgfcnjfmmjcodaaGreatDoor
