/- Rows of wide elements that a call appends to. -/
import Derived.Test.YtgfcnjfmmjcodaaGreatDoorN29
set_option linter.all false
set_option maxRecDepth 100000
set_option maxHeartbeats 1000000
open Go.Lib (hid)
namespace Go.Proofs.YtgfcnjfmmjcodaaGreatDoor
open Go Go.RowKit
structure InfoX (T ST:TypeId)(k bt:Nat):Prop where
 und:Tryz.prog.underlying ST=some (.slice T)
 info:∃i z,Tryz.prog.info? T=some i∧i.zero=some z∧i.size=k∧i.bytes=bt∧z.cells.size=k
theorem infoX_of {T ST:TypeId}{k bt:Nat}(hu:Tryz.prog.underlying ST=some (.slice T))(h:(Tryz.prog.info? T).map (fun i=>(i.zero.map (·.cells.size),i.size,i.bytes))=some (some k,k,bt)):InfoX T ST k bt:=by
 refine⟨hu,?_⟩
 obtain⟨i,h1,h2⟩:=Option.map_eq_some_iff.1 h
 simp only[Prod.mk.injEq] at h2
 obtain⟨z,h3,h4⟩:=Option.map_eq_some_iff.1 h2.1
 exact⟨i,z,h1,h3,h2.2.1,h2.2.2,h4⟩
theorem app_x_ex (w:World){T ST ty:TypeId}{k bt:Nat}(I:InfoX T ST k bt)(hk:0<k)(hbt:bt≤4096)(base:Nat)(v:Value)(n:Nat)(cells row:List Value)(hown:w.ownsRow base T k v n cells)(hrow:row.length=k)(hone:∀u∈row,u.oneCell'=true)
  (hn:n≤16777216) (hbase:base≤w.heap.size) :
  ∃v' w',(Builtin.append_ #[ST,ST] ty #[v, .slice (some ⟨w.heap.size,0,none⟩) 1 1]).run Tryz.prog (w.alloc (.cells row.toArray T))=.ok v' w'∧w'.ownsRow base T k v' (n+1) (cells++row)∧Kp (fun j=>some j=v.ownBlock) w w' ∧
   (v'.ownBlock=v.ownBlock∨v'.ownBlock=some (w.heap.size+1)):=by
 obtain⟨i0,z,hi,hz,hsz,hby,hzs⟩:=I.info
 have k1:Kp (fun _=>False) w (w.alloc (.cells row.toArray T)):=(Kp.refl _ _).alloc _
 have hs1:(w.alloc (.cells row.toArray T)).heap.size=w.heap.size+1:=by show (w.heap.push _).size=_;simp
 have hown':(w.alloc (.cells row.toArray T)).ownsRow base T k v n cells:=hown.alloc _
 have hle:(n+1)*bt≤140737488355328:=by
  have:(n+1)*bt≤16777217*4096:=Nat.mul_le_mul (by omega) hbt
  omega
 obtain⟨v',w',hr,h2,h3,h4,h5⟩:=run_append_own_at (P:=Tryz.prog) (w.alloc (.cells row.toArray T)) base ST ty T i0 z k bt I.und hi hz hsz hby hzs hk v n cells hown' ⟨w.heap.size,0,none⟩ 1 1 row (by rw[hrow,Nat.one_mul])
  (fun j u hu=>by
   rw[add_plain',Nat.zero_add]
   exact cell_of (heap_new w _) j (by rw[List.getElem?_toArray];exact hu))
  hone (by simp only[maxLen];omega) hle (by rw[hs1];omega)
 rw[hs1] at h5
 exact⟨v',w',hr,h2,(k1.mono (fun _ _ h=>h.elim)).trans (Kp.of_grownBy h3),h5⟩
def RecsQ (w:World)(Q:Nat→Prop)(rv:Value)(l:List Rec):Prop:=
 Nil0 rv∧l=[]∨∃b o c,rv=.slice (some ⟨b,o,none⟩) l.length c∧Q b∧l.length≤c∧∀i r,l[i]?=some r→w.cell? ⟨b,o+i*2,none⟩=some (.string ⟨r.1.toArray⟩)∧w.cell? ⟨b,o+i*2+1,none⟩=some (.string ⟨r.2.toArray⟩)
theorem RecsQ.keep {w w':World}{Q Q':Nat→Prop}{rv:Value}{l:List Rec}{S:Nat→Prop}(h:RecsQ w Q rv l)(k:Kp S w w')(hS:∀b,Q b→¬S b)(hQ:∀b,Q b→Q' b):RecsQ w' Q' rv l:=by
 rcases h with h|⟨b,o,c,h1,h2,hc,h3⟩
 ·exact .inl h
 ·exact .inr ⟨b,o,c,h1,hQ _ h2,hc,fun i r hr=>⟨k.cell (h3 i r hr).1 (hS _ h2),k.cell (h3 i r hr).2 (hS _ h2)⟩⟩
theorem RecsQ.at_ {w:World}{Q:Nat→Prop}{rv:Value}{l:List Rec}{B:Nat}(h:RecsQ w Q rv l)(hQ:∀b,Q b→b<B):RecsAt w B rv l:=by
 rcases h with h|⟨b,o,c,h1,h2,_,h3⟩
 ·exact .inl h
 ·exact .inr ⟨b,o,c,h1,hQ _ h2,h3⟩
theorem RecsQ.cap {w:World}{Q:Nat→Prop}{rv:Value}{l:List Rec}(h:RecsQ w Q rv l):CapOk rv:=by
 intro A n c e
 rcases h with ⟨h|⟨a,c',h⟩,_⟩|⟨b,o,c',h,_,hc,_⟩
 ·rw[h] at e
  injection e with _ e1 e2
  omega
 ·rw[h] at e
  injection e with _ e1 e2
  omega
 ·rw[h] at e
  injection e with _ e1 e2
  omega
theorem OwnR.cap {T:TypeId}{w:World}{base:Nat}{v:Value}{l:List Rec}(h:OwnR T w base v l):CapOk v:=by
 intro A n c e
 rcases h.shape with ⟨h,_⟩|⟨g,c',h,_,hc,_⟩
 ·rw[h] at e
  injection e with _ e1 e2
  omega
 ·rw[h] at e
  injection e with _ e1 e2
  omega
theorem recsQ_of {w:World}{Q:Nat→Prop}{rv:Value}{l:List Rec}{B:Nat}(h:RecsAt w B rv l)(hc:CapOk rv)(hQ:∀b o c,rv=.slice (some ⟨b,o,none⟩) l.length c→Q b):RecsQ w Q rv l:=by
 rcases h with h|⟨b,o,c,h1,h2,h3⟩
 ·exact .inl h
 ·exact .inr ⟨b,o,c,h1,hQ b o c h1,hc _ _ _ h1,h3⟩
def DataQ (w:World)(Q:Nat→Prop)(dv:Value)(l:List UInt8):Prop:=Nil0 dv∧l=[]∨∃b o c,dv=.slice (some ⟨b,o,none⟩) l.length c∧Q b∧BytesAt w b o l
theorem DataQ.keep {w w':World}{Q Q':Nat→Prop}{dv:Value}{l:List UInt8}{S:Nat→Prop}(h:DataQ w Q dv l)(k:Kp S w w')(hS:∀b,Q b→¬S b)(hQ:∀b,Q b→Q' b):DataQ w' Q' dv l:=by
 rcases h with h|⟨b,o,c,h1,h2,h3⟩
 ·exact .inl h
 ·exact .inr ⟨b,o,c,h1,hQ _ h2,fun j u hu=>k.cell (h3 j u hu) (hS _ h2)⟩
theorem DataQ.one {w:World}{Q:Nat→Prop}{dv:Value}{l:List UInt8}(h:DataQ w Q dv l):dv.oneCell'=true:=by
 rcases h with ⟨h,_⟩|⟨b,o,c,rfl,_⟩
 ·exact h.one
 ·rfl
theorem RecsQ.one {w:World}{Q:Nat→Prop}{rv:Value}{l:List Rec}(h:RecsQ w Q rv l):rv.oneCell'=true:=by
 rcases h with ⟨h,_⟩|⟨b,o,c,rfl,_⟩
 ·exact h.one
 ·rfl
def FCells (w:World)(Q:Nat→Prop):List File→List Value→Prop
 |[],cs=>cs=[]
 |f::fs,cs=>∃rv dv rest,cs=(sRow f.1 rv++[dv])++rest∧RecsQ w Q rv f.1.recs∧DataQ w Q dv f.2∧FCells w Q fs rest
theorem FCells.keep {w w':World}{Q Q':Nat→Prop}{S:Nat→Prop}(k:Kp S w w')(hS:∀b,Q b→¬S b)(hQ:∀b,Q b→Q' b):∀ {fs:List File} {cs:List Value},FCells w Q fs cs→FCells w' Q' fs cs
 |[],cs,h=>h
 |f::fs,cs,⟨rv,dv,rest,h1,h2,h3,h4⟩=>⟨rv,dv,rest,h1,h2.keep k hS hQ,h3.keep k hS hQ,FCells.keep k hS hQ h4⟩
theorem FCells.snoc {w:World}{Q:Nat→Prop}{f:File}{rv dv:Value}(h1:RecsQ w Q rv f.1.recs)(h2:DataQ w Q dv f.2):∀ {fs:List File} {cs:List Value},FCells w Q fs cs→FCells w Q (fs++[f]) (cs++(sRow f.1 rv++[dv]))
 |[],cs,h=>by
  have h:cs=[]:=h
  subst h
  exact⟨rv,dv,[],by simp,h1,h2,rfl⟩
 |g::fs,cs,⟨rv',dv',rest,g1,g2,g3,g4⟩=>by
  subst g1
  exact⟨rv',dv',rest++(sRow f.1 rv++[dv]),by simp,g2,g3,FCells.snoc h1 h2 g4⟩
theorem sRow_len (h:Hd)(rv:Value):(sRow h rv).length=21:=rfl
theorem FCells.get {w:World}{Q:Nat→Prop}{B:Nat}(hQ:∀b,Q b→b<B):∀ {fs:List File} {cs:List Value},FCells w Q fs cs→∀ {i:Nat} {f:File},fs[i]?=some f →
  ∃rv dv,(∀j v,(sRow f.1 rv++[dv])[j]?=some v→cs[i*22+j]?=some v)∧RecsAt w B rv f.1.recs∧DataAt w dv f.2∧(∀b' o' c',dv=.slice (some ⟨b',o',none⟩) f.2.length c'→0<f.2.length→b'<B)∧CapOk rv
 |[],cs,h,i,f,hf=>by cases hf
 |g::fs,cs,⟨rv,dv,rest,g1,g2,g3,g4⟩,i,f,hf=>by
  subst g1
  have hl:(sRow g.1 rv++[dv]).length=22:=by rw[List.length_append,sRow_len];rfl
  cases i with
  |zero=>
   injection hf with hf
   subst hf
   refine⟨rv,dv,fun j v hv=>?_,g2.at_ hQ,?_,?_,g2.cap⟩
   ·rw[Nat.zero_mul,Nat.zero_add,List.getElem?_append_left (by exact(List.getElem?_eq_some_iff.1 hv).1)]
    exact hv
   ·rcases g3 with h|⟨b,o,c,h1,h2,h3⟩
    ·exact .inl h
    ·exact .inr ⟨b,o,c,h1,h3⟩
   ·intro b' o' c' e hpos
    rcases g3 with ⟨_,h⟩|⟨b,o,c,h1,h2,h3⟩
    ·rw[h] at hpos;exact absurd hpos (Nat.lt_irrefl 0)
    ·rw[h1] at e
     injection e with e
     injection e with e
     injection e with e
     exact e▸hQ _ h2
  |succ i=>
   rw[List.getElem?_cons_succ] at hf
   obtain⟨rv2,dv2,k1,k2⟩:=FCells.get hQ g4 hf
   refine⟨rv2,dv2,fun j v hv=>?_,k2⟩
   rw[List.getElem?_append_right (by rw[hl];omega),hl,show (i+1)*22+j-22=i*22+j by omega]
   exact k1 j v hv
structure OwnF (w:World)(base:Nat)(Q:Nat→Prop)(v:Value)(fs:List File):Prop where
 own:∃cs,w.ownsRow base 47 22 v fs.length cs∧FCells w Q fs cs
theorem OwnF.filesAt {w:World}{base:Nat}{Q:Nat→Prop}{v:Value}{fs:List File}{B:Nat}(h:OwnF w base Q v fs)(hQ:∀b,Q b→b<B)(hB:w.heap.size≤B):FilesAt w B v fs:=by
 obtain⟨cs,h1,h2⟩:=h.own
 rcases h1.2 with ⟨e1,e2⟩|⟨g,cap,cur,e,hg,hh,h3,h4,h5,h6⟩
 ·exact .inl ⟨e1,List.eq_nil_of_length_eq_zero e2⟩
 ·subst e
  refine .inr ⟨g,0,cap,rfl,by have:=lt_of hh;omega,fun i f hf=>?_⟩
  obtain⟨rv,dv,k1,k2,k3,k4⟩:=h2.get hQ hf
  refine⟨rv,dv,fun j u hu=>?_,k2,k3,k4⟩
  have hc:=World.ownsRow.cells h1 (g:=g) rfl (i*22+j) u (k1 j u hu)
  rw[add_plain',Nat.zero_add] at hc
  rw[Nat.zero_add]
  exact hc
theorem slice_from24 (W:World)(g n cap:Nat)(l:Int)(k:Nat)(hlk:l=(k:Int))(hl:k≤n)(hc:cap≠k) :
  (Instr.slice 24 (.slice (some ⟨g,0,none⟩) n cap) (some (.int .i64 l)) none none).run Tryz.prog W=.ok (.slice (some ⟨g,k*2,none⟩) (n-k) (cap-k)) W:=by
 subst hlk
 obtain⟨i0,hi,hz,hsz,hby⟩:=infoI.info
 have hu:Tryz.prog.underlying 24=some (.slice (Tryz.prog.elem 24)):=by kernel_rfl
 have he:Tryz.prog.elem 24=171:=by kernel_rfl
 rw[run_slice_l W 24 _ _ _ hu .i64 (k:Int) (by omega) (by omega),he]
 have hs:(sizeOf 171).run Tryz.prog W=.ok 2 W:=by simp[sizeOf,typeInfo,hi,hsz]
 rw[hs]
 simp only[Result.andThen,sliced,Int.toNat_natCast,if_neg hc,Option.map]
 have e:Addr.add ⟨g,0,none⟩ (k*2)=⟨g,k*2,none⟩:=by simp[Addr.add];intro h;rw[h]
 rw[e]
theorem slice_end24 (W:World)(g n:Nat)(l:Int)(hlk:l=(n:Int)) :
  (Instr.slice 24 (.slice (some ⟨g,0,none⟩) n n) (some (.int .i64 l)) none none).run Tryz.prog W=.ok (.slice (some ⟨g,0,none⟩) 0 0) W:=by
 subst hlk
 obtain⟨i0,hi,hz,hsz,hby⟩:=infoI.info
 have hu:Tryz.prog.underlying 24=some (.slice (Tryz.prog.elem 24)):=by kernel_rfl
 have he:Tryz.prog.elem 24=171:=by kernel_rfl
 rw[run_slice_l W 24 _ _ _ hu .i64 (n:Int) (by omega) (by omega),he]
 have hs:(sizeOf 171).run Tryz.prog W=.ok 2 W:=by simp[sizeOf,typeInfo,hi,hsz]
 rw[hs]
 simp[Result.andThen,sliced]
def gotH (h:Hd)(f:Int)(a c:Bool):Hd:=
 {h with ats:=if a&&h.hasA then h.ats else 0,atn:=if a&&h.hasA then h.atn else 0,cts:=if c&&h.hasC then h.cts else 0,ctn:=if c&&h.hasC then h.ctn else 0,fmt:=fmtN f}
theorem gotH_a {h:Hd}{f:Int}{c:Bool}(e:h.hasA=false):gotH h f true c=gotH h f false c:=by unfold gotH;rw[e];rfl
theorem gotH_c {h:Hd}{f:Int}{a:Bool}(e:h.hasC=false):gotH h f a true=gotH h f a false:=by unfold gotH;rw[e];rfl
structure TimesOk (h:Hd):Prop where
 mod:(0≤h.mn∧h.mn<1000000000)∧ -100000000000000003≤h.ms∧h.ms≤100000000000000003
 acc:h.hasA=true→(0≤h.atn∧h.atn<1000000000)∧(-100000000000000003≤h.ats∧h.ats≤100000000000000003)∧¬(h.ats= -62135596800∧h.atn=0)
 chg:h.hasC=true→(0≤h.ctn∧h.ctn<1000000000)∧(-100000000000000003≤h.cts∧h.cts≤100000000000000003)∧¬(h.cts= -62135596800∧h.ctn=0)
structure HfSt (w:World)(P:Nat)(hh:Hd)(l:List Rec)(wx:World):Prop where
 row:∃v,wx.heap[P]?=some (.cells (iRowH hh v).toArray 26 (0,0))∧OwnR 171 wx (w.heap.size+1) v l∧v.ownBlock≠some P
 res:wx.heap[w.heap.size]?=some (.cells iZero.toArray 26 (0,0))
 kp:Kp (fun _=>False) w wx
 lt:w.heap.size+1≤P
theorem HfSt.grow {w wx wy:World}{P:Nat}{hh:Hd}{l:List Rec}(s:HfSt w P hh l wx)(k:Kp (fun _=>False) wx wy):HfSt w P hh l wy:=by
 obtain⟨v,h1,h2,h3⟩:=s.row
 exact⟨⟨v,k.heap h1 (fun h=>h),h2.keep k (fun _ _ h=>h),h3⟩,k.heap s.res (fun h=>h),s.kp.trans k,s.lt⟩
theorem HfSt.iter {w wx wy:World}{P r:Nat}{hh:Hd}{l:List Rec}(s:HfSt w P hh l wx)(k:Kp (· =r) wx wy)(hr:w.heap.size<r)(hP:P≠r)(hv:∀v,wx.heap[P]?=some (.cells (iRowH hh v).toArray 26 (0,0))→v.ownBlock≠some r):HfSt w P hh l wy:=by
 obtain⟨v,h1,h2,h3⟩:=s.row
 exact⟨⟨v,k.heap h1 hP,h2.keep k (fun b hb e=>by have e:b=r:=e;subst e;exact hv v h1 hb),h3⟩,k.heap s.res (by omega),s.kp.then k (fun i hi e=>by omega),s.lt⟩
theorem iRowH_set19 (h:Hd)(v u:Value):(iRowH h v).toArray.setIfInBounds 19 u=(iRowH h u).toArray:=rfl
theorem HfSt.app {w wx:World}{P:Nat}{hh:Hd}{l:List Rec}(s:HfSt w P hh l wx)(hl:l.length≤4294967295)(lv:Value)(hlv:wx.cell? ⟨P,19,none⟩=some lv) :
  ∃g cap w2,(Builtin.append_ #[24,24] 24 #[lv, .slice (some ⟨wx.heap.size,0,none⟩) 1 1]).run Tryz.prog (wx.alloc (.cells #[.string ⟨#[]⟩, .string ⟨#[]⟩] 171))=.ok (.slice (some ⟨g,0,none⟩) (l.length+1) cap) w2 ∧
   w2.cell? ⟨P,19,none⟩=some lv∧w2.frozen? ⟨P,19,none⟩=false ∧
   (w2.setCell ⟨P,19,none⟩ (.slice (some ⟨g,0,none⟩) (l.length+1) cap)).heap[P]?=some (.cells (iRowH hh (.slice (some ⟨g,0,none⟩) (l.length+1) cap)).toArray 26 (0,0)) ∧
   OwnR 171 (w2.setCell ⟨P,19,none⟩ (.slice (some ⟨g,0,none⟩) (l.length+1) cap)) (w.heap.size+1) (.slice (some ⟨g,0,none⟩) (l.length+1) cap) (l++[([],[])])∧g≠P∧w.heap.size+1≤g ∧
   Kp (fun i=>i=P∨lv.ownBlock=some i) wx (w2.setCell ⟨P,19,none⟩ (.slice (some ⟨g,0,none⟩) (l.length+1) cap))∧(g<wx.heap.size→lv.ownBlock=some g)∧l.length+1≤cap∧cap≤maxLen:=by
 obtain⟨v,h1,h2,h3⟩:=s.row
 have e:v=lv:=by
  have:=cell_of h1 19 (v:=v) rfl
  rw[hlv] at this
  injection this with this
  exact this.symm
 subst e
 have hP:=lt_of h1
 have hlt:=s.lt
 obtain⟨v2,w2,hr,ho,hk,hb⟩:=app_rec_at (ty:=24) wx infoI (w.heap.size+1) v l ([],[]) h2 (by omega) (by omega)
 rcases ho.shape with ⟨_,e⟩|⟨g,cap,rfl,hg,hc1,hc2⟩
 ·simp at e
 rw[List.length_append,List.length_singleton] at hr ho hc1
 have gP:g≠P:=by
  rcases hb with hb|hb
  ·intro e;exact h3 (by rw[←hb,e];rfl)
  ·have hb:some g=some (wx.heap.size+1):=hb
   injection hb with hb
   omega
 have g1:=hk.heap h1 (fun e=>h3 e.symm)
 have ks:Kp (· =P) w2 (w2.setCell ⟨P,19,none⟩ (.slice (some ⟨g,0,none⟩) (l.length+1) cap)):=Kp.setCell (S:=(· =P)) (p:=⟨P,19,none⟩) (Kp.refl _ w2) (.inl rfl) _
 have g2:=heap_set g1 19 (.slice (some ⟨g,0,none⟩) (l.length+1) cap)
 rw[iRowH_set19] at g2
 refine⟨g,cap,w2,hr,cell_of g1 19 rfl,free_of g1 19,g2,ho.keep ks (fun b hb e=>by have hb:some g=some b:=hb;injection hb with hb;exact gP (hb.trans e)),gP,hg,?_,?_,hc1,hc2⟩
 ·exact(hk.mono (S':=fun i=>i=P∨v.ownBlock=some i) (fun i _ e=>.inr e.symm)).then ks (fun i _ e=>.inl e)
 ·intro hi
  rcases hb with hb|hb
  ·exact hb.symm
  ·have hb2:=Option.some.inj (show some g=some (wx.heap.size+1) from hb)
   omega
theorem HfSt.of_row {w wx:World}{P g n cap:Nat}{hh:Hd}{l:List Rec}(h:wx.heap[P]?=some (.cells (iRowH hh (.slice (some ⟨g,0,none⟩) n cap)).toArray 26 (0,0)))(o:OwnR 171 wx (w.heap.size+1) (.slice (some ⟨g,0,none⟩) n cap) l)(hg:g≠P)
  (hr:wx.heap[w.heap.size]?=some (.cells iZero.toArray 26 (0,0))) (k:Kp (fun _=>False) w wx) (hl:w.heap.size+1≤P):HfSt w P hh l wx:=
 ⟨⟨_,h,o,fun e=>hg (by have e:some g=some P:=e;injection e)⟩,hr,k,hl⟩
structure RecsIs (M:List UInt8→Option (List UInt8))(left:List UInt8→Bool)(l:List Rec):Prop where
 mem:∀k v,(k,v)∈l↔M k=some v∧left k=false
 nodup:(l.map Prod.fst).Nodup
theorem RecsIs.start (M:List UInt8→Option (List UInt8)):RecsIs M (fun k=>(M k).isSome) []:=
 ⟨fun k v=>⟨fun h=>(by cases h),fun h=>(by have h2:=h.2;rw[h.1] at h2;cases h2)⟩,List.nodup_nil⟩
theorem RecsIs.step {M:List UInt8→Option (List UInt8)}{left:List UInt8→Bool}{l l':List Rec}{k v:List UInt8}(s:RecsIs M left l)(hM:M k=some v)(hl:left k=true)(hp:l'.Perm ((k,v)::l)):RecsIs M (fun z=>left z&& !(z==k)) l':=by
 refine⟨fun z u=>?_,?_⟩
 ·rw[hp.mem_iff,List.mem_cons,s.mem]
  by_cases e:z=k
  ·subst e
   have e1:(left z&& !(z==z))=false:=by simp
   rw[e1,hl]
   constructor
   ·rintro(h|⟨h,h2⟩)
    ·injection h with _ h;subst h;exact⟨hM,rfl⟩
    ·cases h2
   ·rintro⟨h,_⟩
    rw[hM] at h
    injection h with h
    subst h
    exact .inl rfl
  ·have e1:(z==k)=false:=by rw[beq_eq_false_iff_ne];exact e
   rw[e1]
   simp only[Bool.not_false,Bool.and_true]
   constructor
   ·rintro(h|h)
    ·injection h with h _;exact absurd h e
    ·exact h
   ·exact .inr
 ·rw[(hp.map Prod.fst).nodup_iff,List.map_cons,List.nodup_cons]
  refine⟨fun h=>?_,s.nodup⟩
  obtain⟨r,hr,e⟩:=List.mem_map.1 h
  have:=(s.mem r.1 r.2).1 hr
  rw[e,hl] at this
  cases this.2
theorem nodup_len:∀(a b:List (List UInt8)),a.Nodup→(∀x∈a,x∈b)→a.length≤b.length
 |[],b,_,_=>Nat.zero_le _
 |x::a,b,hn,hs=>by
  have hx:=hs x (List.mem_cons_self ..)
  rw[List.nodup_cons] at hn
  have h1:=nodup_len a (b.erase x) hn.2 (fun y hy=>by
   have hne:y≠x:=fun e=>hn.1 (e▸hy)
   exact(List.mem_erase_of_ne hne).2 (hs y (List.mem_cons_of_mem _ hy)))
  rw[List.length_erase_of_mem hx] at h1
  have:=List.length_pos_of_mem hx
  rw[List.length_cons]
  omega
theorem RecsIs.len {M:List UInt8→Option (List UInt8)}{left:List UInt8→Bool}{l:List Rec}{ks:List (List UInt8)}(s:RecsIs M left l)(h:∀k,(M k).isSome=true→k∈ks):l.length≤ks.length:=by
 have:=nodup_len (l.map Prod.fst) ks s.nodup (fun x hx=>by
  obtain⟨r,hr,e⟩:=List.mem_map.1 hx
  subst e
  have:=(s.mem r.1 r.2).1 hr
  exact h _ (by rw[this.1];rfl))
 rwa[List.length_map] at this
theorem Rg.not_cells {w:World}{b r k:Nat}{M:List UInt8→Option (List UInt8)}{left:List UInt8→Bool}{cs:Array Value}{T:TypeId}{fr:Nat × Nat}(h:Rg w b r M left)(hc:w.heap[k]?=some (.cells cs T fr)):b≠k∧r≠k:=by
 obtain⟨D,n,L,cnt,⟨es,clock,since,seen,c0,h1,F,hs,hD,h2,rest⟩,h3⟩:=h
 constructor
 ·rintro rfl
  rw[h1] at hc
  cases hc
 ·rintro rfl
  rw[h2] at hc
  cases hc
def RecSt (w:World)(l:List Rec)(i:Nat)(v:Value)(wr:World):Prop:=OwnR 136 wr w.heap.size v (l.take i)∧Kp (fun _=>False) w wr
set_option maxHeartbeats 1600000 in
theorem records_of (w:World)(B:Nat)(rv:Value)(l:List Rec)(hra:RecsAt w B rv l)(hl:l.length≤2147483648) :
  Calls Tryz.prog 58 #[rv] w fun e w'=>(∃v,e=.returned v∧Hid (OwnR 136 w' w.heap.size v l))∧Kp (fun _=>False) w w':=by
 obtain⟨A,c,rfl⟩:=hra.shape
 have HRA:=hid hra
 clear hra
 have LP:Hid (RecSt w l 0 (.slice none 0 0) w):=⟨by rw[sE];exact OwnR.nil _ _ _,Kp.refl _ _⟩
 go_enter Tryz.func58,Tryz.ntmps58
 go_wp2_with fail
 go_loopg [3,5,8] l.length (fun g s3 s5 s8 wr=>∃(i:Nat),i+g=l.length∧s8=.int .i64 i∧Hid (RecSt w l i s3 wr))
 case atStart=>exact⟨0,by omega,rfl,LP⟩
 case round=>
  clear LP
  obtain⟨i,hi,rfl,hst⟩:=hrel
  by_cases hlt:i<l.length
  ·obtain⟨x,hx⟩:∃x,l[i]?=some x:=⟨_,List.getElem?_eq_getElem hlt⟩
   have hLr:RecsAt wr B (.slice A l.length c) l:=HRA.out.keep hst.out.2 (fun _ h=>h.elim)
   obtain⟨b,o,c',hA,hbC,x1,x2⟩:=hLr.get hx
   injection hA with hA1 hA2 hA3
   subst hA1 hA3
   have hxg:x=l[i]:=by rw[List.getElem?_eq_getElem hlt] at hx;injection hx with hx;exact hx.symm
   have htk:l.take (i+1)=l.take i++[x]:=by rw[List.take_succ_eq_append_getElem hlt,hxg]
   have hsz:∀o,(wr.alloc o).heap.size=wr.heap.size+1:=fun o=>by show (wr.heap.push _).size=_;simp
   have APX:∀XO YO,XO=Obj.cells #[.string ⟨x.1.toArray⟩, .string ⟨x.2.toArray⟩] 171→YO=Obj.cells #[.string ⟨x.1.toArray⟩, .string ⟨x.2.toArray⟩] 136→∃v2 w2,(Builtin.append_ #[43,43] 43 #[u3, .slice (some ⟨wr.heap.size+1,0,none⟩) 1 1]).run Tryz.prog ((wr.alloc XO).alloc YO)=.ok v2 w2∧Hid (RecSt w l (i+1) v2 w2):=by
    rintro XO YO rfl rfl
    obtain⟨h1,h3⟩:=hst.out
    have k1:Kp (fun _=>False) wr (wr.alloc (.cells #[.string ⟨x.1.toArray⟩, .string ⟨x.2.toArray⟩] 171)):=(Kp.refl _ _).alloc _
    have h1':=h1.keep k1 (fun _ _ h=>h)
    have hs1:=k1.size
    have hs0:=h3.size
    obtain⟨v2,w2,e1,e2,e3⟩:=app_rec_ex (ty:=43) (wr.alloc (.cells #[.string ⟨x.1.toArray⟩, .string ⟨x.2.toArray⟩] 171)) infoS w.heap.size u3 (l.take i) x h1' (by rw[List.length_take];omega) (by omega)
    rw[hsz] at e1
    have kw:=h1'.wide e3
    exact⟨v2,w2,e1,by rw[htk];exact e2,(h3.trans k1).then kw (fun i hi e=>by omega)⟩
   obtain⟨v2,w2,hr2,NX⟩:=APX _ _ rfl rfl
   have HR2:=hid hr2
   clear APX hr2 hA2 hLr hx hxg htk hst hsz
   go_wp2_with (at_builtin;refine Lib.wpList_append_run _ rfl _ _ _ _ rfl _ _ rfl rfl _ _ HR2.out ?_)
   go_roundg (gk-1)
   case measure=>omega
   case rel=>exact⟨i+1,by omega,by simp,NX⟩
  ·obtain rfl:i=l.length:=by omega
   have FIN:Hid ((∃v,Ending.returned u3=.returned v∧Hid (OwnR 136 wr w.heap.size v l))∧Kp (fun _=>False) w wr):=by
    obtain⟨h1,h2⟩:=hst.out
    rw[List.take_length] at h1
    exact⟨⟨u3,rfl,h1⟩,h2⟩
   clear hst
   go_wp2_with fail
   go_ret
   exact FIN.out
theorem plain_one {h:Hd}{rv:Value}(hr:rv.oneCell'=true):∀v∈sRow h rv,v.oneCell'=true:=fun v hv=>by
 have:=one_sRow (h:=h) hr
 rw[Array.all_eq_true_iff_forall_mem] at this
 exact this v (by simpa using hv)
structure PlS (w:World)(h:Hd)(rv:Value)(W:World):Prop where
 row:W.heap[w.heap.size]?=some (.cells (iRowH h rv).toArray 26 (0,0))
 own:∃cs,cs.size=21∧W.heap[w.heap.size+1]?=some (.cells cs 45 (0,0))
 kp:Kp (fun _=>False) w W
theorem PlS.cell {w:World}{h:Hd}{rv:Value}{W:World}(s:PlS w h rv W)(i:Nat){v:Value}(hv:(iRowH h rv)[i]?=some v):W.cell? ⟨w.heap.size,i,none⟩=some v:=
 cell_of s.row i (by rw[List.getElem?_toArray];exact hv)
theorem PlS.size {w:World}{h:Hd}{rv:Value}{W:World}(s:PlS w h rv W):w.heap.size+2≤W.heap.size:=by
 obtain⟨cs,_,h2⟩:=s.own
 have:=(Array.getElem?_eq_some_iff.1 h2).1
 omega
theorem PlS.store {w:World}{h:Hd}{rv rv':Value}{W:World}(s:PlS w h rv W)(ho:OwnR 136 W (w.heap.size+2) rv' h.recs) :
  PlS w h rv (W.setCells (w.heap.size+1) 0 (sRow h rv'))∧((W.setCells (w.heap.size+1) 0 (sRow h rv')).heap[w.heap.size+1]?=some (.cells (sRow h rv').toArray 45 (0,0))∧(OwnR 136 (W.setCells (w.heap.size+1) 0 (sRow h rv')) w.heap.size rv' h.recs∧Kp (fun _=>False) w (W.setCells (w.heap.size+1) 0 (sRow h rv')))):=by
 obtain⟨cs,h1,h2⟩:=s.own
 have k:Kp (· =w.heap.size+1) W (W.setCells (w.heap.size+1) 0 (sRow h rv')):=kp_setCells (S:=(· =w.heap.size+1)) _ (.inl rfl) _ _ _ (Kp.refl _ _)
 have kw:Kp (fun _=>False) w (W.setCells (w.heap.size+1) 0 (sRow h rv')):=kp_setCells _ (.inr (by omega)) _ _ _ s.kp
 have g:=heap_setCells_all (vs:=sRow h rv') h2 (by rw[h1];rfl)
 refine⟨⟨k.heap s.row (by omega),⟨_,by rfl,g⟩,kw⟩,g,?_,kw⟩
 exact(ho.keep k (fun b hb e=>by have:=(ho.block hb).1;omega)).lower (by omega)
theorem OwnR.one {T:TypeId}{w:World}{base:Nat}{v:Value}{l:List Rec}(h:OwnR T w base v l):v.oneCell'=true:=by
 rcases h.shape with ⟨rfl,_⟩|⟨g,cap,rfl,_⟩<;>rfl
theorem PlS.grow {w:World}{h:Hd}{rv:Value}{W W':World}(s:PlS w h rv W)(k:Kp (fun _=>False) W W'):PlS w h rv W':=
 ⟨k.heap s.row (fun h=>h),(let ⟨cs,h1,h2⟩:=s.own;⟨cs,h1,k.heap h2 (fun h=>h)⟩),s.kp.trans k⟩
set_option maxHeartbeats 6400000 in
theorem plain_any (w:World)(B:Nat)(h:Hd)(rv:Value)(hra:RecsAt w B rv h.recs)(hl:h.recs.length≤2147483648) :
  Calls Tryz.prog 31 #[.agg (iRowH h rv).toArray] w fun e w'=>(∃rv',e=.returned (.agg (sRow h rv').toArray)∧Hid (OwnR 136 w' w.heap.size rv' h.recs))∧Kp (fun _=>False) w w':=by
 have HRO:=fun W (k:Kp (fun _=>False) w W)=>hid (records_of W B rv h.recs (hra.keep k (fun _ h=>h.elim)) hl)
 obtain⟨A,c,rfl⟩:=hra.shape
 obtain⟨hv,hhv⟩:∃hv:Array Value,(iRowH h (.slice A h.recs.length c)).toArray=hv:=⟨_,rfl⟩
 rw[hhv]
 clear hra
 go_enter Tryz.func31,Tryz.ntmps31
 go_upto_region 1 with fail
 refine code_two ?_
 intro wB g1 g2 kB sB
 rw[←hhv] at g1
 clear hhv
 have S0:PlS w h (.slice A h.recs.length c) wB.drew:=⟨g1,⟨_,by rfl,g2⟩,kB.drew⟩
 clear g1 g2 kB sB
 refine wp_region_held_drew (S:=PlS w h (.slice A h.recs.length c)) (by kernel_rfl) ?_ (fun hHeld=>?_)
 ·exact S0
 clear S0
 refine wpAnyH_take (i:=0) (v:=?_) rfl (by kernel_rfl) (by kernel_rfl) (by kernel_rfl) (fun _ _ _ h=>h) (Or.inl ⟨by rfl,?_⟩) (by assumption) ?_
 rotate_left 1
 ·intro W hSw;go_simp;(try with_reducible rfl)
 try simp only[Act.put,sA,sB,sC]
 refine wpAnyH_take (i:=1) (v:=?_) rfl (by kernel_rfl) (by kernel_rfl) (by kernel_rfl) (fun _ _ _ h=>h) (Or.inl ⟨by rfl,?_⟩) (by assumption) ?_
 rotate_left 1
 ·intro W hSw;have c0:W.cell? ⟨w.heap.size,0,none⟩=some (.int .u8 (h.typ.toNat:Int)):=hSw.cell 0 rfl;clear hSw;go_simp;(try with_reducible rfl)
 try simp only[Act.put,sA,sB,sC]
 refine wpAnyH_take (i:=2) (v:=?_) rfl (by kernel_rfl) (by kernel_rfl) (by kernel_rfl) (fun _ _ _ h=>h) (Or.inl ⟨by rfl,?_⟩) (by assumption) ?_
 rotate_left 1
 ·intro W hSw;go_simp;(try with_reducible rfl)
 try simp only[Act.put,sA,sB,sC]
 refine wpAnyH_take (i:=3) (v:=?_) rfl (by kernel_rfl) (by kernel_rfl) (by kernel_rfl) (fun _ _ _ h=>h) (Or.inl ⟨by rfl,?_⟩) (by assumption) ?_
 rotate_left 1
 ·intro W hSw;have c1:W.cell? ⟨w.heap.size,1,none⟩=some (.string ⟨h.name.toArray⟩):=hSw.cell 1 rfl;clear hSw;go_simp;(try with_reducible rfl)
 try simp only[Act.put,sA,sB,sC]
 refine wpAnyH_take (i:=4) (v:=?_) rfl (by kernel_rfl) (by kernel_rfl) (by kernel_rfl) (fun _ _ _ h=>h) (Or.inl ⟨by rfl,?_⟩) (by assumption) ?_
 rotate_left 1
 ·intro W hSw;go_simp;(try with_reducible rfl)
 try simp only[Act.put,sA,sB,sC]
 refine wpAnyH_take (i:=5) (v:=?_) rfl (by kernel_rfl) (by kernel_rfl) (by kernel_rfl) (fun _ _ _ h=>h) (Or.inl ⟨by rfl,?_⟩) (by assumption) ?_
 rotate_left 1
 ·intro W hSw;have c2:W.cell? ⟨w.heap.size,2,none⟩=some (.string ⟨h.link.toArray⟩):=hSw.cell 2 rfl;clear hSw;go_simp;(try with_reducible rfl)
 try simp only[Act.put,sA,sB,sC]
 refine wpAnyH_take (i:=6) (v:=?_) rfl (by kernel_rfl) (by kernel_rfl) (by kernel_rfl) (fun _ _ _ h=>h) (Or.inl ⟨by rfl,?_⟩) (by assumption) ?_
 rotate_left 1
 ·intro W hSw;go_simp;(try with_reducible rfl)
 try simp only[Act.put,sA,sB,sC]
 refine wpAnyH_take (i:=7) (v:=?_) rfl (by kernel_rfl) (by kernel_rfl) (by kernel_rfl) (fun _ _ _ h=>h) (Or.inl ⟨by rfl,?_⟩) (by assumption) ?_
 rotate_left 1
 ·intro W hSw;have c3:W.cell? ⟨w.heap.size,3,none⟩=some (.int .i64 h.size):=hSw.cell 3 rfl;clear hSw;go_simp;(try with_reducible rfl)
 try simp only[Act.put,sA,sB,sC]
 refine wpAnyH_take (i:=8) (v:=?_) rfl (by kernel_rfl) (by kernel_rfl) (by kernel_rfl) (fun _ _ _ h=>h) (Or.inl ⟨by rfl,?_⟩) (by assumption) ?_
 rotate_left 1
 ·intro W hSw;go_simp;(try with_reducible rfl)
 try simp only[Act.put,sA,sB,sC]
 refine wpAnyH_take (i:=9) (v:=?_) rfl (by kernel_rfl) (by kernel_rfl) (by kernel_rfl) (fun _ _ _ h=>h) (Or.inl ⟨by rfl,?_⟩) (by assumption) ?_
 rotate_left 1
 ·intro W hSw;have c4:W.cell? ⟨w.heap.size,4,none⟩=some (.int .i64 h.mode):=hSw.cell 4 rfl;clear hSw;go_simp;(try with_reducible rfl)
 try simp only[Act.put,sA,sB,sC]
 refine wpAnyH_take (i:=10) (v:=?_) rfl (by kernel_rfl) (by kernel_rfl) (by kernel_rfl) (fun _ _ _ h=>h) (Or.inl ⟨by rfl,?_⟩) (by assumption) ?_
 rotate_left 1
 ·intro W hSw;go_simp;(try with_reducible rfl)
 try simp only[Act.put,sA,sB,sC]
 refine wpAnyH_take (i:=11) (v:=?_) rfl (by kernel_rfl) (by kernel_rfl) (by kernel_rfl) (fun _ _ _ h=>h) (Or.inl ⟨by rfl,?_⟩) (by assumption) ?_
 rotate_left 1
 ·intro W hSw;have c5:W.cell? ⟨w.heap.size,5,none⟩=some (.int .i64 h.uid):=hSw.cell 5 rfl;clear hSw;go_simp;(try with_reducible rfl)
 try simp only[Act.put,sA,sB,sC]
 refine wpAnyH_take (i:=12) (v:=?_) rfl (by kernel_rfl) (by kernel_rfl) (by kernel_rfl) (fun _ _ _ h=>h) (Or.inl ⟨by rfl,?_⟩) (by assumption) ?_
 rotate_left 1
 ·intro W hSw;go_simp;(try with_reducible rfl)
 try simp only[Act.put,sA,sB,sC]
 refine wpAnyH_take (i:=13) (v:=?_) rfl (by kernel_rfl) (by kernel_rfl) (by kernel_rfl) (fun _ _ _ h=>h) (Or.inl ⟨by rfl,?_⟩) (by assumption) ?_
 rotate_left 1
 ·intro W hSw;have c6:W.cell? ⟨w.heap.size,6,none⟩=some (.int .i64 h.gid):=hSw.cell 6 rfl;clear hSw;go_simp;(try with_reducible rfl)
 try simp only[Act.put,sA,sB,sC]
 refine wpAnyH_take (i:=14) (v:=?_) rfl (by kernel_rfl) (by kernel_rfl) (by kernel_rfl) (fun _ _ _ h=>h) (Or.inl ⟨by rfl,?_⟩) (by assumption) ?_
 rotate_left 1
 ·intro W hSw;go_simp;(try with_reducible rfl)
 try simp only[Act.put,sA,sB,sC]
 refine wpAnyH_take (i:=15) (v:=?_) rfl (by kernel_rfl) (by kernel_rfl) (by kernel_rfl) (fun _ _ _ h=>h) (Or.inl ⟨by rfl,?_⟩) (by assumption) ?_
 rotate_left 1
 ·intro W hSw;have c7:W.cell? ⟨w.heap.size,7,none⟩=some (.string ⟨h.un.toArray⟩):=hSw.cell 7 rfl;clear hSw;go_simp;(try with_reducible rfl)
 try simp only[Act.put,sA,sB,sC]
 refine wpAnyH_take (i:=16) (v:=?_) rfl (by kernel_rfl) (by kernel_rfl) (by kernel_rfl) (fun _ _ _ h=>h) (Or.inl ⟨by rfl,?_⟩) (by assumption) ?_
 rotate_left 1
 ·intro W hSw;go_simp;(try with_reducible rfl)
 try simp only[Act.put,sA,sB,sC]
 refine wpAnyH_take (i:=17) (v:=?_) rfl (by kernel_rfl) (by kernel_rfl) (by kernel_rfl) (fun _ _ _ h=>h) (Or.inl ⟨by rfl,?_⟩) (by assumption) ?_
 rotate_left 1
 ·intro W hSw;have c8:W.cell? ⟨w.heap.size,8,none⟩=some (.string ⟨h.gn.toArray⟩):=hSw.cell 8 rfl;clear hSw;go_simp;(try with_reducible rfl)
 try simp only[Act.put,sA,sB,sC]
 refine wpAnyH_take (i:=18) (v:=?_) rfl (by kernel_rfl) (by kernel_rfl) (by kernel_rfl) (fun _ _ _ h=>h) (Or.inl ⟨by rfl,?_⟩) (by assumption) ?_
 rotate_left 1
 ·intro W hSw;go_simp;(try with_reducible rfl)
 try simp only[Act.put,sA,sB,sC]
 refine wpAnyH_take (i:=19) (v:=?_) rfl (by kernel_rfl) (by kernel_rfl) (by kernel_rfl) (fun _ _ _ h=>h) (Or.inl ⟨by rfl,?_⟩) (by assumption) ?_
 rotate_left 1
 ·intro W hSw;have c9:W.cell? ⟨w.heap.size,9,none⟩=some (.int .i64 h.ms):=hSw.cell 9 rfl;have c10:W.cell? ⟨w.heap.size,10,none⟩=some (.int .i64 h.mn):=hSw.cell 10 rfl;clear hSw;go_simp;(try with_reducible rfl)
 try simp only[Act.put,sA,sB,sC]
 refine wpAnyH_take (i:=20) (v:=?_) rfl (by kernel_rfl) (by kernel_rfl) (by kernel_rfl) (fun _ _ _ h=>h) (Or.inl ⟨by rfl,?_⟩) (by assumption) ?_
 rotate_left 1
 ·intro W hSw;go_simp;(try with_reducible rfl)
 try simp only[Act.put,sA,sB,sC]
 refine wpAnyH_take (i:=21) (v:=?_) rfl (by kernel_rfl) (by kernel_rfl) (by kernel_rfl) (fun _ _ _ h=>h) (Or.inl ⟨by rfl,?_⟩) (by assumption) ?_
 rotate_left 1
 ·intro W hSw;have c11:W.cell? ⟨w.heap.size,11,none⟩=some (.bool h.hasA):=hSw.cell 11 rfl;clear hSw;go_simp;(try with_reducible rfl)
 try simp only[Act.put,sA,sB,sC]
 refine wpAnyH_take (i:=22) (v:=?_) rfl (by kernel_rfl) (by kernel_rfl) (by kernel_rfl) (fun _ _ _ h=>h) (Or.inl ⟨by rfl,?_⟩) (by assumption) ?_
 rotate_left 1
 ·intro W hSw;go_simp;(try with_reducible rfl)
 try simp only[Act.put,sA,sB,sC]
 refine wpAnyH_take (i:=23) (v:=?_) rfl (by kernel_rfl) (by kernel_rfl) (by kernel_rfl) (fun _ _ _ h=>h) (Or.inl ⟨by rfl,?_⟩) (by assumption) ?_
 rotate_left 1
 ·intro W hSw;have c12:W.cell? ⟨w.heap.size,12,none⟩=some (.int .i64 h.ats):=hSw.cell 12 rfl;have c13:W.cell? ⟨w.heap.size,13,none⟩=some (.int .i64 h.atn):=hSw.cell 13 rfl;clear hSw;go_simp;(try with_reducible rfl)
 try simp only[Act.put,sA,sB,sC]
 refine wpAnyH_take (i:=24) (v:=?_) rfl (by kernel_rfl) (by kernel_rfl) (by kernel_rfl) (fun _ _ _ h=>h) (Or.inl ⟨by rfl,?_⟩) (by assumption) ?_
 rotate_left 1
 ·intro W hSw;go_simp;(try with_reducible rfl)
 try simp only[Act.put,sA,sB,sC]
 refine wpAnyH_take (i:=25) (v:=?_) rfl (by kernel_rfl) (by kernel_rfl) (by kernel_rfl) (fun _ _ _ h=>h) (Or.inl ⟨by rfl,?_⟩) (by assumption) ?_
 rotate_left 1
 ·intro W hSw;have c14:W.cell? ⟨w.heap.size,14,none⟩=some (.bool h.hasC):=hSw.cell 14 rfl;clear hSw;go_simp;(try with_reducible rfl)
 try simp only[Act.put,sA,sB,sC]
 refine wpAnyH_take (i:=26) (v:=?_) rfl (by kernel_rfl) (by kernel_rfl) (by kernel_rfl) (fun _ _ _ h=>h) (Or.inl ⟨by rfl,?_⟩) (by assumption) ?_
 rotate_left 1
 ·intro W hSw;go_simp;(try with_reducible rfl)
 try simp only[Act.put,sA,sB,sC]
 refine wpAnyH_take (i:=27) (v:=?_) rfl (by kernel_rfl) (by kernel_rfl) (by kernel_rfl) (fun _ _ _ h=>h) (Or.inl ⟨by rfl,?_⟩) (by assumption) ?_
 rotate_left 1
 ·intro W hSw;have c15:W.cell? ⟨w.heap.size,15,none⟩=some (.int .i64 h.cts):=hSw.cell 15 rfl;have c16:W.cell? ⟨w.heap.size,16,none⟩=some (.int .i64 h.ctn):=hSw.cell 16 rfl;clear hSw;go_simp;(try with_reducible rfl)
 try simp only[Act.put,sA,sB,sC]
 refine wpAnyH_take (i:=28) (v:=?_) rfl (by kernel_rfl) (by kernel_rfl) (by kernel_rfl) (fun _ _ _ h=>h) (Or.inl ⟨by rfl,?_⟩) (by assumption) ?_
 rotate_left 1
 ·intro W hSw;go_simp;(try with_reducible rfl)
 try simp only[Act.put,sA,sB,sC]
 refine wpAnyH_take (i:=29) (v:=?_) rfl (by kernel_rfl) (by kernel_rfl) (by kernel_rfl) (fun _ _ _ h=>h) (Or.inl ⟨by rfl,?_⟩) (by assumption) ?_
 rotate_left 1
 ·intro W hSw;have c17:W.cell? ⟨w.heap.size,17,none⟩=some (.int .i64 h.maj):=hSw.cell 17 rfl;clear hSw;go_simp;(try with_reducible rfl)
 try simp only[Act.put,sA,sB,sC]
 refine wpAnyH_take (i:=30) (v:=?_) rfl (by kernel_rfl) (by kernel_rfl) (by kernel_rfl) (fun _ _ _ h=>h) (Or.inl ⟨by rfl,?_⟩) (by assumption) ?_
 rotate_left 1
 ·intro W hSw;go_simp;(try with_reducible rfl)
 try simp only[Act.put,sA,sB,sC]
 refine wpAnyH_take (i:=31) (v:=?_) rfl (by kernel_rfl) (by kernel_rfl) (by kernel_rfl) (fun _ _ _ h=>h) (Or.inl ⟨by rfl,?_⟩) (by assumption) ?_
 rotate_left 1
 ·intro W hSw;have c18:W.cell? ⟨w.heap.size,18,none⟩=some (.int .i64 h.min):=hSw.cell 18 rfl;clear hSw;go_simp;(try with_reducible rfl)
 try simp only[Act.put,sA,sB,sC]
 refine wpAnyH_take (i:=32) (v:=?_) rfl (by kernel_rfl) (by kernel_rfl) (by kernel_rfl) (fun _ _ _ h=>h) (Or.inl ⟨by rfl,?_⟩) (by assumption) ?_
 rotate_left 1
 ·intro W hSw;go_simp;(try with_reducible rfl)
 try simp only[Act.put,sA,sB,sC]
 refine wpAnyH_take (i:=33) (v:=?_) rfl (by kernel_rfl) (by kernel_rfl) (by kernel_rfl) (fun _ _ _ h=>h) (Or.inl ⟨by rfl,?_⟩) (by assumption) ?_
 rotate_left 1
 ·intro W hSw;have c19:W.cell? ⟨w.heap.size,19,none⟩=some (.slice A h.recs.length c):=hSw.cell 19 rfl;clear hSw;go_simp;(try with_reducible rfl)
 try simp only[Act.put,sA,sB,sC]
 refine wpAnyH_take (i:=35) (v:=?_) rfl (by kernel_rfl) (by kernel_rfl) (by kernel_rfl) (fun _ _ _ h=>h) (Or.inl ⟨by rfl,?_⟩) (by assumption) ?_
 rotate_left 1
 ·intro W hSw;go_simp;(try with_reducible rfl)
 try simp only[Act.put,sA,sB,sC]
 refine wpAnyH_take (i:=36) (v:=?_) rfl (by kernel_rfl) (by kernel_rfl) (by kernel_rfl) (fun _ _ _ h=>h) (Or.inl ⟨by rfl,?_⟩) (by assumption) ?_
 rotate_left 1
 ·intro W hSw;have c20:W.cell? ⟨w.heap.size,20,none⟩=some (.int .i64 h.fmt):=hSw.cell 20 rfl;clear hSw;go_simp;(try with_reducible rfl)
 try simp only[Act.put,sA,sB,sC]
 refine wpAnyH_ready (rs:=[34]) (by decide +kernel) (by simp) ?_
 refine AllReadyH.cons (o:=_) rfl (fun K hK=>?_) AllReadyH.nil
 go_simp
 go_at_call 58
 refine(HRO _ hHeld.kp).out.mono ?_
 rintro e w1 ⟨⟨rv',rfl,ho⟩,k1⟩
 replace ho:=hid (ho.out.lower hHeld.size)
 go_wp2_with fail
 refine hK.out _ _ ?_ (fun hHeld=>?_)
 ·exact hHeld.grow k1
 clear hK K
 try simp only[Act.put,sA,sB,sC]
 obtain⟨A',c',rfl⟩:=ho.out.at_.shape
 refine wpAnyH_ready (rs:=[37]) (by decide +kernel) (by simp) ?_
 refine AllReadyH.cons (o:=_) rfl (fun K hK=>?_) AllReadyH.nil
 go_simp
 refine hK.out _ _ ?_ (fun hHeld=>?_)
 ·exact hHeld
 clear hK K
 try simp only[Act.put,sA,sB,sC]
 have ONE:=hid (plain_one (h:=h) (rv:=.slice A' h.recs.length c') ho.out.one)
 refine wpAnyH_ready (rs:=[38]) (by decide +kernel) (by simp) ?_
 refine AllReadyH.cons (o:=_) rfl (fun K hK=>?_) AllReadyH.nil
 rw[if_pos (by rfl)]
 obtain⟨cs,hcs,hg2⟩:=hHeld.own
 have T:=there_of hg2 (n:=21) (by omega)
 have ⟨S9,FIN⟩:=hHeld.store ho.out
 replace FIN:=hid FIN
 clear hg2 hcs k1 ho HRO
 refine wp_store_mid 45 (.tmp 2) (.tmp 40) rfl (w.heap.size+1) 0 (sRow h (.slice A' h.recs.length c')).toArray rfl rfl T (by kernel_rfl) (all_oneCell_toArray ONE.out) ?_
 refine hK.out _ _ ?_ (fun hHeld=>?_)
 ·exact S9
 clear hK K S9 T
 try simp only[Act.put,sA,sB,sC]
 refine wpAnyH_done (by decide +kernel) ?_ _
 clear hHeld
 go_wp2_with fail
 exact bodyPost_ret (results_cell_row rfl _ _ (w.heap.size+1) 45 (sRow h (.slice A' h.recs.length c')).toArray (0,0) _ rfl FIN.out.1 Tryz.underlying45 rfl (by kernel_rfl)) rfl ⟨⟨(.slice A' h.recs.length c'),rfl,FIN.out.2.1⟩,FIN.out.2.2⟩
end Go.Proofs.YtgfcnjfmmjcodaaGreatDoor
