/- The arguments of the laws, opened. -/
import Derived.Test.YtgfcnjfmmjcodaaGreatDoorRows
import Derived.Deep.Slices
import Derived.Deep.Fields
import Derived.ChangeSame
import Derived.Test.YtgfcnjfmmjcodaaGreatDoorP29
set_option linter.all false
set_option maxRecDepth 100000
set_option maxHeartbeats 1000000
open Go.Lib (hid)
namespace Go.Proofs.YtgfcnjfmmjcodaaGreatDoor
open Go Go.ChangeShapes Go.WideShapes Go.RowKit Go.Deep
section
section
variable {H:Type} {enc:TypeId × Value→H} {W:World} {base:Nat} {sp:Nat→Bool} {hd:Bool}
theorem Un {t:TypeId}{fs:Array Field}{fuel:Nat}{cs:List Value}{x:DataW H × List MemPlace}(he:Tryz.prog.underlying t=some (.struct fs))(h:DataW.trod enc Tryz.prog W base sp hd fuel t cs=some x) :
  ∃(n:Nat) (xs:List (DataW H × List MemPlace)),x.1=.agg (xs.map (·.1))∧cs.length=Tryz.prog.cellsOf t∧∀(i:Nat) (ty:TypeId) (off k:Nat),(fs[i]?).map (fun f=>(f.type,f.offset))=some (ty,off)→Tryz.prog.cellsOf ty=k→∃y,y∈xs∧DataW.trod enc Tryz.prog W base sp hd n ty ((cs.drop off).take k)=some y:=by
 obtain⟨xs,n,_,hx,hl,hlen,hf⟩:=DataW.trod_struct he h;refine⟨n,xs,by rw[hx],hl,fun i ty off k hm hk=>?_⟩
 obtain⟨f,hi,hm⟩:=Option.map_eq_some_iff.1 hm;injection hm with e1 e2
 have h1:=hf i f hi;rw[e1,e2,hk] at h1;have hlt:i<xs.length:=by rw[hlen];exact(Array.getElem?_eq_some_iff.1 hi).1
 rw[List.getElem?_eq_getElem hlt] at h1;exact⟨_,List.getElem_mem hlt,h1⟩
theorem Xf (d:DataW H):1≤Rows.uptoBulk d:=by
 cases d with
 |lit l=>cases l<;>simp[Rows.uptoBulk]
 |nil=>simp[Rows.uptoBulk]
 |ptr d=>simp[Rows.uptoBulk]
 |slice elems spare=>simp[Rows.uptoBulk]
 |agg parts=>simp[Rows.uptoBulk]
 |iface t d=>simp[Rows.uptoBulk]
 |map entries=>simp[Rows.uptoBulk]
 |held h=>simp[Rows.uptoBulk]
theorem Xg {d:DataW H}{l:List (DataW H)}(h:d∈l):Rows.uptoBulk d≤Rows.uptoBulkAll l:=by
 induction l with
 |nil=>cases h
 |cons x r ih=>
  simp only[Rows.uptoBulkAll];cases List.mem_cons.1 h with
  |inl e=>subst e;omega
  |inr e=>have:=ih e;omega
theorem Ij (l r:List (DataW H)):Rows.uptoBulkAll (l++r)=Rows.uptoBulkAll l+Rows.uptoBulkAll r:=by
 induction l with
 |nil=>simp[Rows.uptoBulkAll]
 |cons x l ih=>simp only[List.cons_append,Rows.uptoBulkAll,ih];omega
theorem D1 {x:DataW H × List MemPlace}{xs:List (DataW H × List MemPlace)}{y:DataW H × List MemPlace}(hx:x.1=.agg (xs.map (·.1)))(hy:y∈xs):Rows.uptoBulk y.1+1≤Rows.uptoBulk x.1:=by
 rw[hx];have:=Xg (List.mem_map.2 ⟨y,hy,rfl⟩:y.1∈xs.map (·.1));simp only[Rows.uptoBulk];omega
theorem C1 {k:IntKind}{t:TypeId}{n:Nat}{c:Value}{y:DataW H × List MemPlace}(hu:Tryz.prog.underlying t=some (.int k))(h:DataW.trod enc Tryz.prog W base sp hd n t [c]=some y):∃z,c=.int k z∧(Lit.int k z).wf=true:=by
 obtain⟨z,h1,_,h3⟩:=DataW.trod_int hu h;injection h1 with h1
 exact⟨z,h1,h3⟩
theorem Q8 {t:TypeId}{n:Nat}{c:Value}{y:DataW H × List MemPlace}(hu:Tryz.prog.underlying t=some .bool)(h:DataW.trod enc Tryz.prog W base sp hd n t [c]=some y):∃z,c=.bool z:=by
 obtain⟨z,h1,_⟩:=DataW.trod_bool hu h;injection h1 with h1
 exact⟨z,h1⟩
theorem Gx {t:TypeId}{n:Nat}{c:Value}{y:DataW H × List MemPlace}(hu:Tryz.prog.underlying t=some .string)(h:DataW.trod enc Tryz.prog W base sp hd n t [c]=some y):∃l:List UInt8,c=.string ⟨l.toArray⟩∧l.length+1≤Rows.uptoBulk y.1:=by
 obtain⟨s,h1,h2,_⟩:=DataW.trod_string hu h;injection h1 with h1
 refine⟨s.data.toList,?_,?_⟩
 ·rw[h1]
 ·rw[h2];simp[Rows.uptoBulk]
theorem Be0 {z:Int}(h:(Lit.int .u8 z).wf=true):∃b:UInt8,z=(b.toNat:Int):=by
 have hx:0≤z∧z≤255:=by simpa[Lit.wf,IntKind.min,IntKind.max,IntKind.signed,IntKind.bits] using h
 exact⟨UInt8.ofNat z.toNat,by rw[UInt8.toNat_ofNat'];omega⟩
theorem Ik {z:Int}(h:(Lit.int .i64 z).wf=true): -9223372036854775808≤z∧z≤9223372036854775807:=by
 simpa[Lit.wf,IntKind.min,IntKind.max,IntKind.signed,IntKind.bits] using h
theorem c9:Tryz.prog.cellsOf 9=1:=by kernel_rfl
theorem c2:Tryz.prog.cellsOf 2=1:=by kernel_rfl
theorem c3:Tryz.prog.cellsOf 3=1:=by kernel_rfl
theorem c4:Tryz.prog.cellsOf 4=1:=by kernel_rfl
theorem c5:Tryz.prog.cellsOf 5=1:=by kernel_rfl
theorem c23:Tryz.prog.cellsOf 23=2:=by kernel_rfl
theorem c24:Tryz.prog.cellsOf 24=1:=by kernel_rfl
theorem c26:Tryz.prog.cellsOf 26=21:=by kernel_rfl
theorem c27:Tryz.prog.cellsOf 27=1:=by kernel_rfl
theorem c29:Tryz.prog.cellsOf 29=23:=by kernel_rfl
theorem c171:Tryz.prog.cellsOf 171=2:=by kernel_rfl
theorem K9 {n:Nat}{c d:Value}{y:DataW H × List MemPlace}(h:DataW.trod enc Tryz.prog W base sp hd n 23 [c,d]=some y):∃a b,c=.int .i64 a∧d=.int .i64 b∧(-9223372036854775808≤a∧a≤9223372036854775807):=by
 obtain⟨m,xs,_,_,hf⟩:=Un Tryz.underlying23 h;obtain⟨y0,_,h0⟩:=hf 0 2 0 1 rfl c2;obtain⟨y1,_,h1⟩:=hf 1 2 1 1 rfl c2;obtain⟨a,ea,wa⟩:=C1 Tryz.underlying2 h0;obtain⟨b,eb,_⟩:=C1 Tryz.underlying2 h1;exact⟨a,b,ea,eb,Ik wa⟩
theorem Ln {t e:TypeId}{b0:Nat}{a:Addr}{n c:Nat}(hu:Tryz.prog.underlying t=some (.slice e))(h:Cell.okWide Tryz.prog W .any b0 t (.slice (some a) n c)):∃b o,a=⟨b,o,none⟩∧b<W.heap.size:=by
 simp only[Cell.okWide,Cell.ok,hu] at h;obtain⟨_,_,_,hs,row,cells,hsh,_⟩:=h;obtain⟨b,o,s⟩:=a;simp only at hs hsh;subst hs;refine⟨b,o,rfl,?_⟩;rcases Nat.lt_or_ge b W.heap.size with h|h
 ·exact h
 ·simp[World.shape?,Array.getElem?_eq_none h] at hsh
theorem Kk {b o k n:Nat}{cs:List Value}(h:W.cells? base ((⟨b,o,none⟩:Addr).add k) n=some cs):cs.length=n∧∀i,i<n→W.cell? ⟨b,o+k+i,none⟩=cs[i]?:=by
 obtain⟨_,h1,h2⟩:=World.cells?_some h;refine⟨h1,fun i hi=>?_⟩;have:=h2 i hi;rw[add_plain',add_plain'] at this;exact this
theorem Oo {a:Addr}{n:Nat}{cs:List Value}(h:W.cells? base a n=some cs)(hn:0<n):∃b o,a=⟨b,o,none⟩∧b<W.heap.size:=by
 obtain⟨_,h1,h2⟩:=World.cells?_some h;have h0:=h2 0 hn;obtain⟨c,hc⟩:∃c,cs[0]?=some c:=⟨_,List.getElem?_eq_getElem (by omega)⟩
 rw[hc] at h0;have e:a.add 0=a:=rfl;rw[e] at h0;obtain⟨b,o,s⟩:=a;obtain rfl:s=none:=World.cell?_spot h0;exact⟨b,o,rfl,World.block_lt_of_cell? W _ h0⟩
theorem Jo (D:Nat→DataW H)(k:Nat):(List.range (k+1)).map D=(List.range k).map D++[D k]:=by rw[List.range_succ,List.map_append];rfl
theorem Yu {c:Value}{n:Nat}{y:DataW H × List MemPlace}(h:DataW.trod enc Tryz.prog W base sp hd n 27 [c]=some y) :
  ∃(A:Option Addr) (l:List UInt8) (k:Nat),c=.slice A l.length k∧DataQ W (fun b=>b<W.heap.size) c l∧l.length≤Rows.uptoBulk y.1:=by
 rcases open_slice Tryz.underlying27 h with ⟨h1,h2⟩|⟨a,len,cap,m,n',D,Pl,hcs,_,hl,_,hm,hx,hi⟩
 ·injection h1 with h1
  exact⟨none,[],0,h1, .inl ⟨.inl h1,rfl⟩,Nat.zero_le _⟩
 ·injection hcs with hcs
  subst hcs;by_cases h0:len=0
  ·subst h0;exact⟨some a,[],cap,rfl, .inl ⟨.inr ⟨a,cap,rfl⟩,rfl⟩,Nat.zero_le _⟩
  obtain⟨b,o,rfl,hb⟩:∃b o,a=⟨b,o,none⟩∧b<W.heap.size:=by
   (obtain⟨cs',g1,_⟩:=hi 0 (by rw[hm];split<;>omega));rw[Nat.zero_mul,c5] at g1;exact Oo (a:=a) g1 (by omega)
  have hlm:len≤m:=by rw[hm];split<;>omega
  have key:∀k,k≤len→∃l:List UInt8,l.length=k∧(∀i x,l[i]?=some x→W.cell? ⟨b,o+i,none⟩=some (ub x)):=by
   intro k;induction k with
   |zero=>exact fun _=>⟨[],rfl,fun i x hx=>by cases hx⟩
   |succ k ih=>
    intro hk;(obtain⟨l,hl1,hl2⟩:=ih (by omega));(obtain⟨cs',g1,g2⟩:=hi k (by omega));rw[c5,Nat.mul_one] at g1;obtain⟨g3,g4⟩:=Kk g1
    match cs',g3 with
    |[u],_=>
     obtain⟨z,rfl,hz⟩:=C1 Tryz.underlying5 g2;obtain⟨x,rfl⟩:=Be0 hz;(refine⟨l++[x],by rw[List.length_append,hl1];rfl,fun i w hw=>?_⟩);rcases Nat.lt_or_ge i l.length with h|h
     ·rw[List.getElem?_append_left h] at hw;exact hl2 i w hw
     ·rw[List.getElem?_append_right h] at hw;have e:i=k:=by
       have:=(List.getElem?_eq_some_iff.1 hw).1;simp at this;omega
      subst e;rw[hl1,Nat.sub_self] at hw;(injection hw with hw);subst hw;exact g4 0 (by omega)
  obtain⟨l,hl1,hl2⟩:=key len (Nat.le_refl _);refine⟨some ⟨b,o,none⟩,l,cap,by rw[hl1], .inr ⟨b,o,cap,by rw[hl1],hb,fun j u hu=>?_,by omega⟩,?_⟩
  ·rw[Cy] at hu;cases hj:l[j]? with
   |none=>rw[hj] at hu;cases hu
   |some x=>
    rw[hj] at hu;(injection hu with hu);subst hu;exact hl2 j x hj
  ·rw[hx,hl1];have:∀k,k≤Rows.uptoBulkAll ((List.range k).map D):=by
    intro k;induction k with
    |zero=>exact Nat.zero_le _
    |succ k ih=>
     rw[Jo,Ij];have:=Xf (D k);simp only[Rows.uptoBulkAll];omega
   have:=this len;simp only[Rows.uptoBulk];omega
theorem Ba0 {c:Value}{n:Nat}{y:DataW H × List MemPlace}(h:DataW.trod enc Tryz.prog W base sp hd n 24 [c]=some y) :
  ∃l:List Rec,RecsAt W W.heap.size c l∧Dg l≤24*Rows.uptoBulk y.1:=by
 rcases open_slice Tryz.underlying24 h with ⟨h1,h2⟩|⟨a,len,cap,m,n',D,Pl,hcs,_,hl,_,hm,hx,hi⟩
 ·injection h1 with h1
  exact⟨[], .inl ⟨.inl h1,rfl⟩,Nat.zero_le _⟩
 ·injection hcs with hcs
  subst hcs;by_cases h0:len=0
  ·subst h0;exact⟨[], .inl ⟨.inr ⟨a,cap,rfl⟩,rfl⟩,Nat.zero_le _⟩
  obtain⟨b,o,rfl,hb⟩:∃b o,a=⟨b,o,none⟩∧b<W.heap.size:=by
   (obtain⟨cs',g1,_⟩:=hi 0 (by rw[hm];split<;>omega));rw[Nat.zero_mul,c171] at g1;exact Oo (a:=a) g1 (by omega)
  have hlm:len≤m:=by rw[hm];split<;>omega
  have key:∀k,k≤len→∃l:List Rec,l.length=k∧(∀(i:Nat) (r:Rec),l[i]?=some r→W.cell? ⟨b,o+i*2,none⟩=some (.string ⟨r.1.toArray⟩)∧W.cell? ⟨b,o+i*2+1,none⟩=some (.string ⟨r.2.toArray⟩)) ∧
    Dg l≤24*Rows.uptoBulkAll ((List.range k).map D):=by
   intro k;induction k with
   |zero=>exact fun _=>⟨[],rfl,(fun i x hx=>by cases hx),Nat.zero_le _⟩
   |succ k ih=>
    intro hk;(obtain⟨l,hl1,hl2,hl3⟩:=ih (by omega));(obtain⟨cs',g1,g2⟩:=hi k (by omega));rw[c171] at g1;obtain⟨g3,g4⟩:=Kk g1
    match cs',g3 with
    |[u,v],_=>
     obtain⟨m2,xs,hxs,_,hf⟩:=Un Tryz.underlying171 g2;obtain⟨y0,m0,t0⟩:=hf 0 9 0 1 rfl c9;obtain⟨y1,m1,t1⟩:=hf 1 9 1 1 rfl c9;obtain⟨r1,rfl,q1⟩:=Gx Tryz.underlying9 t0;obtain⟨r2,rfl,q2⟩:=Gx Tryz.underlying9 t1;have p0:=D1 (x:=(D k,Pl k)) hxs m0;have p1:=D1 (x:=(D k,Pl k)) hxs m1;refine⟨l++[(r1,r2)],by rw[List.length_append,hl1];rfl,fun i w hw=>?_,?_⟩
     ·rcases Nat.lt_or_ge i l.length with h|h
      ·rw[List.getElem?_append_left h] at hw;exact hl2 i w hw
      ·rw[List.getElem?_append_right h] at hw;have e:i=k:=by
        have:=(List.getElem?_eq_some_iff.1 hw).1;simp at this;omega
       subst e;rw[hl1,Nat.sub_self] at hw;(injection hw with hw);subst hw;exact⟨g4 0 (by omega),g4 1 (by omega)⟩
     ·rw[Qu,Jo,Ij];simp only[Rows.uptoBulkAll];have p0:Rows.uptoBulk y0.1+1≤Rows.uptoBulk (D k):=p0;have p1:Rows.uptoBulk y1.1+1≤Rows.uptoBulk (D k):=p1;show Dg l+(r1.length+r2.length+24)≤_;omega
  obtain⟨l,hl1,hl2,hl3⟩:=key len (Nat.le_refl _);refine⟨l, .inr ⟨b,o,cap,by rw[hl1],hb,hl2⟩,?_⟩
  rw[hx];simp only[Rows.uptoBulk];omega
end
end
section
section
variable {H:Type} {enc:TypeId × Value→H} {W:World} {base:Nat} {sp:Nat→Bool} {hd:Bool}
set_option maxHeartbeats 1600000 in
theorem Uo {cs:List Value}{x:DataW H × List MemPlace}{n:Nat}(hf:DataW.trod enc Tryz.prog W base sp hd n 29 cs=some x) :
  ∃(f:Bt) (rv:Value) (A:Option Addr) (c:Nat),cs=Cf f.1 rv (.slice A f.2.1.length c) f.2.2∧RecsAt W W.heap.size rv f.1.recs∧DataQ W (fun b=>b<W.heap.size) (.slice A f.2.1.length c) f.2.1∧Rng f.1 ∧
   weight f.1≤28*Rows.uptoBulk x.1∧f.2.1.length≤Rows.uptoBulk x.1:=by
 obtain⟨n1,xs,hxs,hsz,hfl⟩:=Un Tryz.underlying29 hf;rw[c29] at hsz
 match cs,hsz with
 |[v0,v1,v2,v3,v4,v5,v6,v7,v8,v9,v10,v11,v12,v13,v14,v15,v16,v17,v18,v19,v20,v21,v22],_=>
  obtain⟨yh,mh,th⟩:=hfl 0 26 0 21 rfl c26;obtain⟨yd,md,td⟩:=hfl 1 27 21 1 rfl c27;obtain⟨ye,_,te⟩:=hfl 2 3 22 1 rfl c3;have bh:=D1 (x:=x) hxs mh;have bd:=D1 (x:=x) hxs md;obtain⟨en,rfl,_⟩:=C1 Tryz.underlying3 te;obtain⟨A,data,c,hdv,hda,hdl⟩:=Yu td;obtain⟨n2,zs,hzs,_,hfh⟩:=Un Tryz.underlying26 th;obtain⟨y0,_,t0⟩:=hfh 0 5 0 1 rfl c5;obtain⟨y1,m1,t1⟩:=hfh 1 9 1 1 rfl c9;obtain⟨y2,m2,t2⟩:=hfh 2 9 2 1 rfl c9;obtain⟨y3,_,t3⟩:=hfh 3 2 3 1 rfl c2;obtain⟨y4,_,t4⟩:=hfh 4 2 4 1 rfl c2;obtain⟨y5,_,t5⟩:=hfh 5 3 5 1 rfl c3;obtain⟨y6,_,t6⟩:=hfh 6 3 6 1 rfl c3;obtain⟨y7,m7,t7⟩:=hfh 7 9 7 1 rfl c9;obtain⟨y8,m8,t8⟩:=hfh 8 9 8 1 rfl c9;obtain⟨y9,_,t9⟩:=hfh 9 23 9 2 rfl c23;obtain⟨y10,_,t10⟩:=hfh 10 4 11 1 rfl c4;obtain⟨y11,_,t11⟩:=hfh 11 23 12 2 rfl c23;obtain⟨y12,_,t12⟩:=hfh 12 4 14 1 rfl c4;obtain⟨y13,_,t13⟩:=hfh 13 23 15 2 rfl c23;obtain⟨y14,_,t14⟩:=hfh 14 2 17 1 rfl c2;obtain⟨y15,_,t15⟩:=hfh 15 2 18 1 rfl c2;obtain⟨y16,m16,t16⟩:=hfh 16 24 19 1 rfl c24;obtain⟨y17,_,t17⟩:=hfh 17 3 20 1 rfl c3;obtain⟨z0,rfl,w0⟩:=C1 Tryz.underlying5 t0;obtain⟨typ,rfl⟩:=Be0 w0;obtain⟨name,rfl,b1⟩:=Gx Tryz.underlying9 t1;obtain⟨link,rfl,b2⟩:=Gx Tryz.underlying9 t2;obtain⟨size,rfl,w3⟩:=C1 Tryz.underlying2 t3;obtain⟨mode,rfl,w4⟩:=C1 Tryz.underlying2 t4;obtain⟨uid,rfl,w5⟩:=C1 Tryz.underlying3 t5;obtain⟨gid,rfl,w6⟩:=C1 Tryz.underlying3 t6;obtain⟨un,rfl,b7⟩:=Gx Tryz.underlying9 t7;obtain⟨gn,rfl,b8⟩:=Gx Tryz.underlying9 t8
  obtain⟨ms,mn,rfl,rfl,w9⟩:=K9 t9;obtain⟨hA,rfl⟩:=Q8 Tryz.underlying4 t10;obtain⟨as_,an,rfl,rfl,w11⟩:=K9 t11;obtain⟨hC,rfl⟩:=Q8 Tryz.underlying4 t12;obtain⟨cs_,cn,rfl,rfl,w13⟩:=K9 t13;obtain⟨maj,rfl,w14⟩:=C1 Tryz.underlying2 t14;obtain⟨min,rfl,w15⟩:=C1 Tryz.underlying2 t15;obtain⟨recs,hra,b16⟩:=Ba0 t16;obtain⟨fmt,rfl,w17⟩:=C1 Tryz.underlying3 t17;subst hdv;have q1:=D1 hzs m1;have q2:=D1 hzs m2;have q7:=D1 hzs m7;have q8:=D1 hzs m8;have q16:=D1 hzs m16;have bh:Rows.uptoBulk yh.1+1≤Rows.uptoBulk x.1:=bh;have bd:Rows.uptoBulk yd.1+1≤Rows.uptoBulk x.1:=bd;refine⟨(⟨typ,name,link,size,mode,uid,gid,un,gn,ms,mn,hA,hC,as_,an,cs_,cn,maj,min,recs,fmt⟩,data,en),v19,A,c,rfl,hra,hda,⟨Ik w3,Ik w4,Ik w5,Ik w6,w9,Ik w14,Ik w15,w11,w13⟩,?_,?_⟩
  ·rw[C9];show name.length+link.length+un.length+gn.length+Dg recs≤_;omega
  ·show data.length≤_;omega
theorem Hg (D:Nat→DataW H):∀(g:Nat→Nat) (k:Nat),k≤Rows.uptoBulkAll ((List.range k).map fun j=>D (g j))
 |g,0=>Nat.zero_le _
 |g,k+1=>by
  have h:=Hg D g k
  rw[Jo (fun j=>D (g j)),Ij]
  have:=Xf (D (g k))
  simp only[Rows.uptoBulkAll]
  omega
theorem Bfq {v:Value}{d:DataW H}{b0:Nat}{p:List MemPlace}(hv:Value.okWide Tryz.prog W .any b0 30 v)(h:DataW.Trod enc Tryz.prog W base (fun _=>true) hd 30 v d p)(hb:Rows.uptoBulk d≤1048576) :
  NumsAt W W.heap.size v:=by
 obtain⟨A,ln,cn,rfl⟩:=okWide_slice Tryz.underlying30 hv;simp only[Value.okWide,Tryz.underlying30] at hv;obtain⟨fuel,hf⟩:=h;rcases open_slice Tryz.underlying30 hf with ⟨h1,h2⟩|⟨a,len,cap,m,n',D,Pl,hcs,_,hl,hcm,hm,hx,hi⟩
 ·left;simpa[Value.cells] using h1
 ·have hcs:[Value.slice A ln cn]=[Value.slice (some a) len cap]:=hcs;injection hcs with hcs
  injection hcs with e1 e2 e3
  subst e1 e2 e3;obtain⟨b,o,rfl,hbb⟩:=Ln Tryz.underlying30 hv;rw[if_pos rfl] at hm;have hd1:=congrArg Prod.fst hx;simp only at hd1;have r1:ln≤Rows.uptoBulkAll ((List.range ln).map D):=Hg D (fun j=>j) ln;have r2:=Hg D (fun j=>ln+j) (m-ln);rw[hd1] at hb;simp only[Rows.uptoBulk] at hb;refine .inr ⟨b,o,ln,cn,rfl,hl,by omega,hbb,fun i hi2=>?_⟩
  obtain⟨cs',g1,g2⟩:=hi i (by omega)
  rw[c3,Nat.mul_one] at g1;obtain⟨g3,g4⟩:=Kk g1
  match cs',g3 with
  |[u],_=>
   obtain⟨z,rfl,hz⟩:=C1 Tryz.underlying3 g2;have hz2:=Ik hz;exact⟨z,hz2.1,hz2.2,g4 0 (by omega)⟩
end
end
section
section
variable {H : Type} {enc : TypeId × Value → H} {W : World} {base : Nat} {sp : Nat → Bool} {hd : Bool}
theorem Bfk {v : Value} {d : DataW H} {b0 : Nat} {p : List MemPlace} (hv : Value.okWide Tryz.prog W .any b0 35 v) (h : DataW.Trod enc Tryz.prog W base sp hd 35 v d p) (hb : Rows.uptoBulk d ≤ 1048576) :
    ∃ fs : List Bt, IFilesAt W W.heap.size v fs ∧ (∀ f ∈ fs, Rng f.1 ∧ IFileOk f) ∧ fs.length ≤ 1048576 := by
  obtain ⟨A, ln, cn, rfl⟩ := okWide_slice Tryz.underlying35 hv
  simp only [Value.okWide, Tryz.underlying35] at hv
  obtain ⟨fuel, hf⟩ := h
  rcases open_slice Tryz.underlying35 hf with ⟨h1, h2⟩ | ⟨a, len, cap, m, n', D, Pl, hcs, _, hl, hcm, hm, hx, hi⟩
  · exact ⟨[], .inl ⟨by simpa [Value.cells] using h1, rfl⟩, (fun f hf => by cases hf), Nat.zero_le _⟩
  · have hcs : [Value.slice A ln cn] = [Value.slice (some a) len cap] := hcs
    injection hcs with hcs
    injection hcs with e1 e2 e3
    subst e1 e2 e3
    obtain ⟨b, o, rfl, hbb⟩ := Ln Tryz.underlying35 hv
    have hd1 := congrArg Prod.fst hx
    simp only at hd1
    have r1 : ln ≤ Rows.uptoBulkAll ((List.range ln).map D) := Hg D (fun j => j) ln
    rw [hd1] at hb
    simp only [Rows.uptoBulk] at hb
    have hlm : ln ≤ m := by rw [hm]; split <;> omega
    have key : ∀ k, k ≤ ln → ∃ l : List Bt, l.length = k ∧ (∀ (i : Nat) (f : Bt), l[i]? = some f → IFileAt W W.heap.size b (o + i * 23) f) ∧ ∀ f ∈ l, Rng f.1 ∧ IFileOk f := by
      intro k
      induction k with
      | zero => exact fun _ => ⟨[], rfl, (fun i x hx => by cases hx), fun f hf => by cases hf⟩
      | succ k ih =>
        intro hk
        obtain ⟨l, hl1, hl2, hl3⟩ := ih (by omega)
        obtain ⟨cs', g1, g2⟩ := hi k (by omega)
        rw [c29] at g1
        obtain ⟨g3, g4⟩ := Kk g1
        obtain ⟨f, rv, A2, c2, rfl, q1, q2, q3, q4, q5⟩ := Uo g2
        have hD : Rows.uptoBulk (D k) ≤ Rows.uptoBulkAll ((List.range ln).map D) := Xg (List.mem_map.2 ⟨k, List.mem_range.2 (by omega), rfl⟩)
        have hD2 : Rows.uptoBulk (D k) ≤ 1048576 := by omega
        have q4 : weight f.1 ≤ 28 * Rows.uptoBulk (D k) := q4
        have q5 : f.2.1.length ≤ Rows.uptoBulk (D k) := q5
        refine ⟨l ++ [f], by rw [List.length_append, hl1]; rfl, fun i w hw => ?_, fun f' hf' => ?_⟩
        · rcases Nat.lt_or_ge i l.length with h | h
          · rw [List.getElem?_append_left h] at hw; exact hl2 i w hw
          · rw [List.getElem?_append_right h] at hw
            have e : i = k := by
              have := (List.getElem?_eq_some_iff.1 hw).1
              simp at this
              omega
            subst e
            rw [hl1, Nat.sub_self] at hw
            injection hw with hw
            subst hw
            refine ⟨rv, _, fun j u hu => ?_, q1, q2⟩
            have hj : j < 23 := (List.getElem?_eq_some_iff.1 hu).1
            rw [g4 j hj, hu]
        · rcases List.mem_append.1 hf' with h | h
          · exact hl3 f' h
          · obtain rfl := List.mem_singleton.1 h
            exact ⟨q3, ⟨by omega, by omega⟩⟩
    obtain ⟨l, hl1, hl2, hl3⟩ := key ln (Nat.le_refl _)
    exact ⟨l, .inr ⟨b, o, cn, by rw [hl1], hbb, hl2⟩, hl3, by omega⟩
end
end
end Go.Proofs.YtgfcnjfmmjcodaaGreatDoor
