/- Header blocks as the reference writes them, and what a reade. -/
import Derived.Test.YtgfcnjfmmjcodaaGreatDoorP05
import Derived.Test.YtgfcnjfmmjcodaaGreatDoorP06
set_option linter.all false
set_option maxRecDepth 100000
set_option maxHeartbeats 1000000
open Go.Lib (hid)
namespace Go.Proofs.YtgfcnjfmmjcodaaGreatDoor
section
open Go.RowKit
theorem Ma {α:Type}(l xs:List α)(o:Nat)(h:o+xs.length≤l.length):(splice l o xs).length=l.length:=length_splice _ _ _ h
theorem Rw {α:Type}(l xs:List α)(o j:Nat)(h:o+xs.length≤l.length):(splice l o xs)[j]?=if o≤j∧j<o+xs.length then xs[j-o]? else l[j]?:=by
 unfold splice;have h1:(l.take o).length=o:=by rw[List.length_take];omega
 by_cases hj:j<o
 ·rw[if_neg (by omega),List.getElem?_append_left (by omega),List.getElem?_take,if_pos hj]
 ·rw[List.getElem?_append_right (by omega),h1]
  by_cases hk:j<o+xs.length
  ·rw[if_pos ⟨by omega,hk⟩,List.getElem?_append_left (by omega)]
  ·(rw[if_neg (by omega),List.getElem?_append_right (by omega),List.getElem?_drop]);congr 1;omega
theorem Gc (l:List UInt8)(o n j:Nat):(fld l o n)[j]?=if j<n then l[o+j]? else none:=by
 rw[fld,List.getElem?_take,List.getElem?_drop]
theorem Hw (l xs:List UInt8)(o o' n:Nat)(h:o+xs.length≤l.length)(hd:o'+n≤o∨o+xs.length≤o'):fld (splice l o xs) o' n=fld l o' n:=by
 apply List.ext_getElem?;intro j;rw[Gc,Gc];by_cases hj:j<n
 ·rw[if_pos hj,if_pos hj,Rw _ _ _ _ h,if_neg (by omega)]
 ·rw[if_neg hj,if_neg hj]
theorem Mu (l xs:List UInt8)(o n:Nat)(h:o+n≤l.length)(hn:xs.length≤n):fld (splice l o xs) o n=xs++fld l (o+xs.length) (n-xs.length):=by
 apply List.ext_getElem?;intro j;rw[Gc,Rw _ _ _ _ (by omega)]
 by_cases hj:j<n
 ·rw[if_pos hj];by_cases hx:j<xs.length
  ·rw[if_pos ⟨by omega,by omega⟩,List.getElem?_append_left hx];congr 1;omega
  ·rw[if_neg (by omega),List.getElem?_append_right (by omega),Gc,if_pos (by omega)];congr 1;omega
 ·rw[if_neg hj,List.getElem?_append_right (by omega),Gc,if_neg (by omega)]
theorem Df (l xs:List UInt8)(o n:Nat)(h:o+n≤l.length)(hn:xs.length=n):fld (splice l o xs) o n=xs:=by
 rw[Mu l xs o n h (by omega),hn,Nat.sub_self]
 simp[fld]
theorem C6 (k o n:Nat)(h:o+n≤k):fld (List.replicate k (0:UInt8)) o n=List.replicate n 0:=by
 rw[fld,List.drop_replicate,List.take_replicate];congr 1;omega
theorem Rx (l xs:List UInt8)(o:Nat):splice (ubs l) o (ubs xs)=ubs (splice l o xs):=by
 simp[splice,ubs,List.map_take,List.map_drop]
def Kv (n:Nat)(s:List UInt8):List UInt8:=s.take n++List.replicate (n-s.length) 0
def NoNul (s:List UInt8):Prop:=∀c∈s,c≠0
theorem NoNul.take {s:List UInt8}(h:NoNul s)(n:Nat):NoNul (s.take n):=fun c hc=>h c (List.mem_of_mem_take hc)
theorem Jg (s t:List UInt8)(h:NoNul s):textOf (s++0::t)=s:=by
 induction s with
 |nil=>rfl
 |cons c s ih=>
  have hc:=h c (List.mem_cons_self ..);rw[textOf,List.cons_append,List.takeWhile_cons_of_pos (by simp[hc])]
  exact congrArg (c:: ·) (ih fun x hx=>h x (List.mem_cons_of_mem _ hx))
theorem Xr (s:List UInt8)(h:NoNul s):textOf s=s:=by
 induction s with
 |nil=>rfl
 |cons c s ih=>
  have hc:=h c (List.mem_cons_self ..);rw[textOf,List.takeWhile_cons_of_pos (by simp[hc])]
  exact congrArg (c:: ·) (ih fun x hx=>h x (List.mem_cons_of_mem _ hx))
theorem Di (n:Nat)(s:List UInt8)(h:NoNul s):textOf (Kv n s)=s.take n:=by
 unfold Kv;cases hk:n-s.length with
 |zero=>rw[List.replicate_zero,List.append_nil];exact Xr _ (h.take n)
 |succ k=>rw[List.replicate_succ];exact Jg _ _ (h.take n)
theorem Dd (l s:List UInt8)(o n:Nat)(h:o+n≤l.length)(hz:fld l o n=List.replicate n 0):fld (splice l o (s.take n)) o n=Kv n s:=by
 rw[Mu l _ o n h (by rw[List.length_take];omega),Kv]
 congr 1
 have hl:(s.take n).length=min n s.length:=List.length_take ..;have e:fld l (o+(s.take n).length) (n-(s.take n).length)=(fld l o n).drop (s.take n).length:=by
  rw[fld,fld,List.drop_take,List.drop_drop]
 rw[e,hz,List.drop_replicate];congr 1;omega
def Bn (k:Nat)(n:Int):Bool:=decide (0≤n)&&decide (n<8 ^ (k-1))
inductive NumE (gnu:Bool) (k:Nat) (n:Int):List UInt8→Prop
 |oct (m tail:Nat) (k0 k1:Bool) (hn:n=m) (h1:1≤tail) (h2:tail≤2) (hk:tail<k) (hm:m<8 ^ (k-tail)):NumE gnu k n (Db (k-tail) m++tails k0 k1 tail)
 |bin (hg:gnu=true) (hk:1≤k):NumE gnu k n (Hn (k-1) n)
theorem NumE.len {gnu:Bool}{k:Nat}{n:Int}{f:List UInt8}(h:NumE gnu k n f):f.length=k:=by
 cases h with
 |oct m tail k0 k1 hn h1 h2 hk hm=>rw[List.length_append,Dc,tails,List.length_take];simp only[List.length_cons,List.length_nil];omega
 |bin hg hk=>rw[Hn,List.length_cons,Hu];omega
theorem NumE.at_ {gnu:Bool}{k:Nat}{n:Int}{f:List UInt8}(h:NumE gnu k n f)(hk:2≤k)(hm: -9223372036854775808≤n)(hM:n<9223372036854775808)
  (hb:gnu=true→ -(256:Int) ^ (k-1)≤n∧n<(256:Int) ^ (k-1)):Dp f n:=by
 cases h with
 |oct m tail k0 k1 hn h1 h2 hk hm=>exact .inl ⟨m,hn,Y2 _ _ _ _ _ (by omega) hm (by omega)⟩
 |bin hg hk=>exact Bdp _ _ (hb hg).1 (hb hg).2 hm hM
def stored (gnu:Bool)(k:Nat)(n:Int):Int:=if gnu||Bn k n then n else 0
structure Hd where
 typ:UInt8
 name:List UInt8
 link:List UInt8
 size:Int
 mode:Int
 uid:Int
 gid:Int
 un:List UInt8
 gn:List UInt8
 ms:Int
 mn:Int
 hasA:Bool
 hasC:Bool
 ats:Int
 atn:Int
 cts:Int
 ctn:Int
 maj:Int
 min:Int
 recs:List (List UInt8 × List UInt8)
 fmt:Int
def magicU:List UInt8:=[117,115,116,97,114,0,48,48]
def magicG:List UInt8:=[117,115,116,97,114,32,32,0]
def Ascii (s:List UInt8):Prop:=∀c∈s,c≠0∧c.toNat<128
theorem Ascii.noNul {s:List UInt8}(h:Ascii s):NoNul s:=fun c hc=>(h c hc).1
structure Parts (p pre nm:List UInt8):Prop where
 eq:p=pre++47::nm
 pre1:1≤pre.length
 pre2:pre.length≤155
 nm1:1≤nm.length
 nm2:nm.length≤100
def Dj (p:List UInt8):Prop:=∃pre nm,Parts p pre nm
structure BlkE (h:Hd)(gnu:Bool)(l:List UInt8):Prop where
 len:l.length=512
 name:(fld l 0 100=Kv 100 h.name∧(gnu=false→fld l 345 155=List.replicate 155 0)∧(gnu=false→Ascii h.name→100<h.name.length→¬Dj h.name)) ∨
  gnu=false∧Ascii h.name∧∃pre nm,Parts h.name pre nm∧fld l 0 100=Kv 100 nm∧fld l 345 155=Kv 155 pre
 mode:NumE gnu 8 (stored gnu 8 h.mode) (fld l 100 8)
 uid:NumE gnu 8 (stored gnu 8 h.uid) (fld l 108 8)
 gid:NumE gnu 8 (stored gnu 8 h.gid) (fld l 116 8)
 size:NumE gnu 12 (stored gnu 12 h.size) (fld l 124 12)
 mod:NumE gnu 12 (stored gnu 12 h.ms) (fld l 136 12)
 maj:NumE gnu 8 (stored gnu 8 h.maj) (fld l 329 8)
 min:NumE gnu 8 (stored gnu 8 h.min) (fld l 337 8)
 typ:l[156]?=some h.typ
 link:fld l 157 100=Kv 100 h.link
 magic:fld l 257 8=if gnu then magicG else magicU
 un:fld l 265 32=Kv 32 h.un
 gn:fld l 297 32=Kv 32 h.gn
 acc:gnu=true→(if h.hasA then NumE true 12 h.ats (fld l 345 12) else fld l 345 12=List.replicate 12 0)
 chg:gnu=true→(if h.hasC then NumE true 12 h.cts (fld l 357 12) else fld l 357 12=List.replicate 12 0)
 rest:gnu=true→fld l 369 143=List.replicate 143 0
 tail:fld l 500 12=List.replicate 12 0
 sum:NumE false 8 (Bz l 512) (fld l 148 8)
theorem NumE.oct_of {k:Nat}{n:Nat}{f:List UInt8}(h:NumE false k (n:Int) f)(hM:(n:Int)<9223372036854775808):Nonempty (OctAt f n):=by
 cases h with
 |oct m tail k0 k1 hn h1 h2 hk hm=>
  have:n=m:=by omega
  subst this;exact Y2 _ _ _ _ _ (by omega) hm (by omega)
 |bin hg hk=>cases hg
theorem Mv (k:Nat)(n:Int):stored true k n=n:=rfl
theorem B6 {k:Nat}{n:Int}{gnu:Bool}(h:Bn k n=true):stored gnu k n=n:=by simp[stored,h]
theorem Iu (k:Nat)(n:Int)(hk:k≤12):0≤stored false k n∧stored false k n<8589934592:=by
 unfold stored Bn;simp only[Bool.false_or,Bool.and_eq_true,decide_eq_true_eq];split
 ·rename_i h;refine⟨h.1,Int.lt_of_lt_of_le h.2 ?_⟩;have h1:8 ^ (k-1)≤8 ^ 11:=Nat.pow_le_pow_right (by omega) (by omega)
  have h2:(8:Int) ^ (k-1)=((8 ^ (k-1):Nat):Int):=by rw[Int.natCast_pow];rfl
  omega
 ·omega
theorem BlkE.fmt {h:Hd}{gnu:Bool}{l:List UInt8}(b:BlkE h gnu l):Ld l=if gnu then 8 else 6:=by
 have e6:fld l 257 6=(fld l 257 8).take 6:=by simp[fld,List.take_take]
 have e2:fld l 263 2=(fld l 257 8).drop 6:=by simp[fld,List.drop_take,List.drop_drop]
 have e4:fld l 508 4=List.replicate 4 0:=by
  have:fld l 508 4=(fld l 500 12).drop 8:=by simp[fld,List.drop_take,List.drop_drop]
  rw[this,b.tail];rfl
 rw[Ld,e6,e2,e4,b.magic];cases gnu<;>rfl
theorem BlkE.hd {h:Hd}{gnu:Bool}{l:List UInt8}(b:BlkE h gnu l)
  (hg:gnu=true→(∀n∈[h.mode,h.uid,h.gid,h.maj,h.min],-72057594037927936≤n∧n<72057594037927936)∧ -9223372036854775808≤h.size∧h.size<9223372036854775808∧ -100000000000000001≤h.ms∧h.ms≤100000000000000001) :
  HdBlk l (Bz l 512) h.typ (stored gnu 12 h.size) (stored gnu 8 h.mode) (stored gnu 8 h.uid) (stored gnu 8 h.gid) (stored gnu 12 h.ms) (stored gnu 8 h.maj) (stored gnu 8 h.min):=by
 have hs:=Ks l 512;have n8:∀(n:Int) (f:List UInt8),(gnu=true→ -72057594037927936≤n∧n<72057594037927936)→NumE gnu 8 (stored gnu 8 n) f→Dp f (stored gnu 8 n):=fun n f hn hf=>by
  cases gnu with
  |false=>have:=Iu 8 n (by omega);exact hf.at_ (by omega) (by omega) (by omega) (fun h=>by cases h)
  |true=>rw[Mv] at hf ⊢;have:=hn rfl;exact hf.at_ (by omega) (by omega) (by omega) (fun _=>⟨by omega,by omega⟩)
 have n12:∀(n:Int) (f:List UInt8),(gnu=true→ -9223372036854775808≤n∧n<9223372036854775808)→NumE gnu 12 (stored gnu 12 n) f→Dp f (stored gnu 12 n):=fun n f hn hf=>by
  cases gnu with
  |false=>have:=Iu 12 n (by omega);exact hf.at_ (by omega) (by omega) (by omega) (fun h=>by cases h)
  |true=>rw[Mv] at hf ⊢;have:=hn rfl;exact hf.at_ (by omega) (by omega) (by omega) (fun _=>⟨by omega,by omega⟩)
 refine⟨b.len,b.sum.oct_of (by omega), .inl rfl,b.typ,?_,?_,?_,?_,?_,?_,?_,?_⟩
 ·exact n12 _ _ (fun g=>⟨(hg g).2.1,(hg g).2.2.1⟩) b.size
 ·exact n8 _ _ (fun g=>(hg g).1 _ (by simp)) b.mode
 ·exact n8 _ _ (fun g=>(hg g).1 _ (by simp)) b.uid
 ·exact n8 _ _ (fun g=>(hg g).1 _ (by simp)) b.gid
 ·exact n12 _ _ (fun g=>by have:=(hg g).2.2.2;omega) b.mod
 ·exact n8 _ _ (fun g=>(hg g).1 _ (by simp)) b.maj
 ·exact n8 _ _ (fun g=>(hg g).1 _ (by simp)) b.min
 ·cases gnu with
  |false=>have:=Iu 12 h.ms (by omega);omega
  |true=>exact(hg rfl).2.2.2
end
section
open Go.RowKit
abbrev Rec:=List UInt8 × List UInt8
def Kw (n:Nat):Nat:=(n+511)/512*512
def Cv (n:Nat):Nat:=Kw n-n
def Cb (d:List UInt8):List UInt8:=d++List.replicate (Cv d.length) 0
theorem Y4 (n:Nat):n≤Kw n:=by unfold Kw;omega
theorem G7 (n:Nat):Kw n<n+512:=by unfold Kw;omega
theorem Ry (n:Nat):Cv n<512:=by unfold Cv Kw;omega
theorem Ef (d:List UInt8):(Cb d).length=Kw d.length:=by
 have:=Y4 d.length;simp[Cb,Cv];omega
def Bo:List UInt8:=[112,97,116,104]
def Br:List UInt8:=[108,105,110,107,112,97,116,104]
def B1:List UInt8:=[115,105,122,101]
def Ck:List UInt8:=[117,105,100]
def Cn:List UInt8:=[103,105,100]
def Bj:List UInt8:=[117,110,97,109,101]
def Bm:List UInt8:=[103,110,97,109,101]
def kMtime:List UInt8:=[109,116,105,109,101]
def kAtime:List UInt8:=[97,116,105,109,101]
def kCtime:List UInt8:=[99,116,105,109,101]
def Cl:List (List UInt8):=[Bo,Br,B1,Ck,Cn,Bj,Bm,kMtime,kAtime,kCtime]
def En:List UInt8:=[83,67,72,73,76,89,46]
def Ct:List UInt8:=[71,78,85,46,115,112,97,114,115,101,46]
def Iv:List UInt8:=[80,97,120,72,101,97,100,101,114,115,47,120]
def Cq:List UInt8:=[46,47,46,47,64,76,111,110,103,76,105,110,107]
structure KeyOk (k:List UInt8):Prop where
 noEq:(61:UInt8)∉k
 noNul:NoNul k
 vendor:∃v r,k=v++46::r∧v≠[]∧r≠[]∧∀c∈v,65≤c.toNat∧c.toNat≤90
 noSparse:¬Ct <+: k
 noSchily:¬En <+: k
structure OwnOk (r:Rec):Prop where
 key:KeyOk r.1
 some:r.2≠[]
 noNul:NoNul r.2
theorem KeyOk.ne {k:List UInt8}(h:KeyOk k):k≠[]:=by
 obtain⟨v,r,rfl,_⟩:=h.vendor;simp
theorem KeyOk.not_field {k:List UInt8}(h:KeyOk k):k∉Cl:=by
 obtain⟨v,r,e,_⟩:=h.vendor;intro hk;have h46:(46:UInt8)∈k:=by rw[e];simp
 revert h46
 simp only[Cl,List.mem_cons,List.not_mem_nil,or_false] at hk;rcases hk with rfl|rfl|rfl|rfl|rfl|rfl|rfl|rfl|rfl|rfl<;>decide
def Bf:List Rec→List UInt8→Option (List UInt8)
 |[],_=>none
 |r::l,k=>(Bf l k).or (if r.1=k then some r.2 else none)
def B9 (rs:List Rec):Nat:=(rs.map fun r=>r.1.length+r.2.length+10).sum
def Lt (r:Rec)(t:List UInt8):Prop:=t=Lib.decDigits t.length++32::(r.1++61::(r.2++[10]))
inductive RecsT:List Rec→List UInt8→Prop
 |nil:RecsT [] []
 |cons {r rs t ts} (h:Lt r t) (hs:RecsT rs ts):RecsT (r::rs) (t++ts)
def hd0:Hd:=⟨0,[],[],0,0,0,0,[],[],0,0,false,false,0,0,0,0,0,0,[],0⟩
def El (kind:UInt8)(name:List UInt8)(n:Nat):Hd:={hd0 with typ:=kind,name:=name,size:=n,mode:=420}
inductive MetaE (kind:UInt8) (name data:List UInt8) (gnu:Bool):List UInt8→Prop
 |mk (l:List UInt8) (h:BlkE (El kind name data.length) gnu l):MetaE kind name data gnu (l++Cb data)
def Ql (h:Hd)(r:Rec):Prop:=
 r.1=Bo∧r.2=h.name∨r.1=Br∧r.2=h.link∨r.1=Bj∧r.2=h.un∨r.1=Bm∧r.2=h.gn ∨
 r.1=B1∧r.2=Lib.decDigits h.size.toNat∨r.1=Ck∧r.2=Lib.decDigits h.uid.toNat∨r.1=Cn∧r.2=Lib.decDigits h.gid.toNat ∨
 r.1=kMtime∧(∃z,z≤1∧r.2=Bg h.ms h.mn z)∨r.1=kAtime∧h.hasA=true∧(∃z,z≤1∧r.2=Bg h.ats h.atn z)∨r.1=kCtime∧h.hasC=true∧(∃z,z≤1∧r.2=Bg h.cts h.ctn z) ∨
 Bf h.recs r.1=some r.2
def D6 (rs:List Rec)(k:List UInt8):Prop:=∃r∈rs,r.1=k
structure ToldE (h:Hd)(rs:List Rec):Prop where
 ok:∀r∈rs,Ql h r∧r.2≠[]
 name:(¬Ascii h.name∨100<h.name.length∧¬Dj h.name)→h.name≠[]→D6 rs Bo
 link:(¬Ascii h.link∨100<h.link.length)→h.link≠[]→D6 rs Br
 un:(¬Ascii h.un∨31<h.un.length)→h.un≠[]→D6 rs Bj
 gn:(¬Ascii h.gn∨31<h.gn.length)→h.gn≠[]→D6 rs Bm
 size:¬Bn 12 h.size=true→D6 rs B1
 uid:¬Bn 8 h.uid=true→D6 rs Ck
 gid:¬Bn 8 h.gid=true→D6 rs Cn
 mtime:(h.mn≠0∨¬Bn 12 h.ms=true)→D6 rs kMtime
 atime:h.hasA=true→D6 rs kAtime
 ctime:h.hasC=true→D6 rs kCtime
 own:∀k v,Bf h.recs k=some v→(k,v)∈rs
 small:B9 rs≤600000
def B8 (t:UInt8):Bool:=decide (t.toNat<49)||decide (54<t.toNat)
def De (h:Hd)(data:List UInt8):List UInt8:=if B8 h.typ then Cb data else []
def C7 (kind:UInt8)(s:List UInt8)(m:List UInt8):Prop:=m=[]∧s.length≤100∨s≠[]∧MetaE kind Cq (s++[0]) true m
inductive FileE (h:Hd) (data:List UInt8):List UInt8→Prop
 |glob (ht:h.typ=103) (rs:List Rec) (t m:List UInt8) (hrs:∀k v,Bf rs k=some v↔Bf h.recs k=some v) (hin:∀r∈rs,r∈h.recs) (hw:B9 rs≤600000) (hr:RecsT rs t) (hm:MetaE 103 h.name t false m):FileE h data m
 |ustar (ht:h.typ≠103) (hf:h.fmt=1) (l:List UInt8) (hl:BlkE h false l):FileE h data (l++De h data)
 |pax0 (ht:h.typ≠103) (hf:h.fmt=2) (h0:ToldE h []) (l:List UInt8) (hl:BlkE h false l):FileE h data (l++De h data)
 |pax (ht:h.typ≠103) (hf:h.fmt=2) (rs:List Rec) (hr:ToldE h rs) (t m:List UInt8) (hrt:RecsT rs t) (hm:MetaE 120 Iv t false m) (l:List UInt8) (hl:BlkE h false l):FileE h data (m++(l++De h data))
 |gnu (ht:h.typ≠103) (hf:h.fmt=3) (first:Bool) (m k:List UInt8) (hm:C7 76 h.name m) (hk:C7 75 h.link k) (l:List UInt8) (hl:BlkE h true l) :
   FileE h data ((if first then m++k else k++m)++(l++De h data))
abbrev B4:=Hd × List UInt8
inductive FilesE:List B4→List UInt8→Prop
 |nil:FilesE [] []
 |cons {f fs b bs} (h:FileE f.1 f.2 b) (hs:FilesE fs bs):FilesE (f::fs) (b++bs)
def Bfy (fs:List B4)(b:List UInt8):Prop:=∃bs k,FilesE fs bs∧2≤k∧k≤4∧b=bs++List.replicate (512*k) 0
def weight (h:Hd):Nat:=h.name.length+h.link.length+h.un.length+h.gn.length+(h.recs.map fun r=>r.1.length+r.2.length+24).sum
def odd (s n:Int):Prop:=s= -62135596800∧n=0∨n<0∨999999999<n
structure Sane (h:Hd):Prop where
 small:weight h≤524288
 mod:¬odd h.ms h.mn
 acc:h.hasA=true→¬odd h.ats h.atn
 chg:h.hasC=true→¬odd h.cts h.ctn
structure CanP (h:Hd)(f:Int):Prop where
 sane:Sane h
 typ:48≤h.typ.toNat∧h.typ.toNat≤55
 name:h.name≠[]∧NoNul h.name∧(f=1→Ascii h.name∧(h.name.length≤100∨Dj h.name))
 link:NoNul h.link∧(f=1→Ascii h.link∧h.link.length≤100)
 un:NoNul h.un∧(f=1→Ascii h.un)∧(f≠2→h.un.length≤31)
 gn:NoNul h.gn∧(f=1→Ascii h.gn)∧(f≠2→h.gn.length≤31)
 mode:0≤h.mode∧(f≠3→h.mode<2097152)∧(f=3→h.mode<72057594037927936)
 uid:0≤h.uid∧(f=1→h.uid<2097152)∧(f=3→h.uid<72057594037927936)
 gid:0≤h.gid∧(f=1→h.gid<2097152)∧(f=3→h.gid<72057594037927936)
 maj:0≤h.maj∧(f≠3→h.maj<2097152)∧(f=3→h.maj<72057594037927936)
 min:0≤h.min∧(f≠3→h.min<2097152)∧(f=3→h.min<72057594037927936)
 dev:h.typ≠51→h.typ≠52→h.maj=0∧h.min=0
 size:0≤h.size∧(f=1→h.size<8589934592)
 mod: -100000000000000000≤h.ms∧h.ms≤100000000000000000∧(f≠2→h.mn=0)∧(f=1→0≤h.ms∧h.ms<8589934592)
 acc:h.hasA=true→f≠1∧ -100000000000000000≤h.ats∧h.ats≤100000000000000000∧(f≠2→h.atn=0)
 chg:h.hasC=true→f≠1∧ -100000000000000000≤h.cts∧h.cts≤100000000000000000∧(f≠2→h.ctn=0)
 recs:h.recs≠[]→f=2
 own:∀r∈h.recs,OwnOk r
structure GlobP (h:Hd):Prop where
 typ:h.typ=103
 name:h.name=[]
 size:h.size=0
 recs:h.recs≠[]
 small:weight h≤524288
 own:∀r∈h.recs,OwnOk r
def Qm (f:B4):Prop:=GlobP f.1∧f.2=[]∨f.1.typ≠103∧(f.1.fmt=1∨f.1.fmt=2∨f.1.fmt=3)∧CanP f.1 f.1.fmt∧(if B8 f.1.typ then (f.2.length:Int)=f.1.size else f.2=[])
end
section
open Go.RowKit
structure BlkRd (h:Hd)(fm:Int)(l:List UInt8):Prop where
 blk:∃n,HdBlk l n h.typ h.size h.mode h.uid h.gid h.ms h.maj h.min
 fmt:Ld l=fm
 fm6:fm=6∨fm=8
 name:fm=6→joined (textOf (fld l 345 155)) (textOf (fld l 0 100))=h.name
 name8:fm=8→textOf (fld l 0 100)=h.name
 link:textOf (fld l 157 100)=h.link
 un:textOf (fld l 265 32)=h.un
 gn:textOf (fld l 297 32)=h.gn
 mn:h.mn=0
 no6:fm=6→h.hasA=false∧h.hasC=false
 acc:fm=8→if h.hasA then Dp (fld l 345 12) h.ats∧(∃x,l[345]?=some x∧x≠0)∧ -100000000000000001≤h.ats∧h.ats≤100000000000000001∧h.atn=0 else l[345]?=some 0
 chg:fm=8→if h.hasC then Dp (fld l 357 12) h.cts∧(∃x,l[357]?=some x∧x≠0)∧ -100000000000000001≤h.cts∧h.cts≤100000000000000001∧h.ctn=0 else l[357]?=some 0
def Xs (v:List UInt8)(s n:Int):Prop:=(∃z,z≤1∧v=Bg s n z)∧ -100000000000000000≤s∧s≤100000000000000000∧0≤n∧n<1000000000
def Rz (o:Option (List UInt8))(a b:Int):Prop:=match o with|none=>b=a|some v=>Lib.parseIntB 64 v=.ok b
structure Merged (a b:Hd)(M:List UInt8→Option (List UInt8)):Prop where
 vals:∀k v,M k=some v→v≠[]
 noSchily:∀k v,M k=some v→¬En <+: k
 noSparse:∀k v,M k=some v→¬Ct <+: k
 typ:b.typ=a.typ
 name:b.name=(M Bo).getD a.name
 link:b.link=(M Br).getD a.link
 un:b.un=(M Bj).getD a.un
 gn:b.gn=(M Bm).getD a.gn
 size:Rz (M B1) a.size b.size
 uid:Rz (M Ck) a.uid b.uid
 gid:Rz (M Cn) a.gid b.gid
 mode:b.mode=a.mode
 maj:b.maj=a.maj
 min:b.min=a.min
 mod:match M kMtime with|none=>b.ms=a.ms∧b.mn=a.mn|some v=>Xs v b.ms b.mn
 acc:match M kAtime with|none=>b.hasA=a.hasA∧b.ats=a.ats∧b.atn=a.atn|some v=>b.hasA=true∧Xs v b.ats b.atn
 chg:match M kCtime with|none=>b.hasC=a.hasC∧b.cts=a.cts∧b.ctn=a.ctn|some v=>b.hasC=true∧Xs v b.cts b.ctn
inductive Out
 |file (h:Hd) (pax:Option (List Rec)) (src:List UInt8)
 |glob (name:List UInt8) (rs:List Rec) (pad:Nat) (src:List UInt8)
 |fail (g:Nat)
def over (s d:List UInt8):List UInt8:=if s=[] then d else s
def Cm (h:Hd):Nat:=if B8 h.typ then h.size.toNat else 0
inductive HeadP:Nat→Nat→Option (List Rec)→List UInt8→List UInt8→List UInt8→Out→Prop
 |file {nb pad pax ln ll} (d p l rest:List UInt8) (h0 h1 h2:Hd) (fm:Int) (hd:d.length=nb) (hp:p.length=pad) (hl:l.length=512) (hb:BlkRd h0 fm l)
   (ht:h0.typ.toNat≠0∧h0.typ≠120∧h0.typ≠103∧h0.typ≠76∧h0.typ≠75∧h0.typ≠83) (hs:0≤h0.size∧h0.size≤4611686018427387904∨B8 h0.typ=false)
   (hm:match pax with|none=>h1=h0|some rs=>Merged h0 h1 (Bf rs)) (hn:h2={h1 with name:=over ln h1.name,link:=over ll h1.link}) (hs2:0≤h2.size∧h2.size≤4611686018427387904∨B8 h2.typ=false) :
   HeadP nb pad pax ln ll (d++p++(l++rest)) (.file h2 pax rest)
 |glob {nb pad pax ln ll} (d p l t rest:List UInt8) (h0:Hd) (fm:Int) (rs:List Rec) (hd:d.length=nb) (hp:p.length=pad) (hl:l.length=512) (hb:BlkRd h0 fm l)
   (ht:h0.typ=103) (hs:h0.size=t.length) (hr:RecsT rs t) (hk:∀r∈rs,OwnOk r) (htl:t.length≤1048576) :
   HeadP nb pad pax ln ll (d++p++(l++(t++rest))) (.glob h0.name rs (Cv t.length) rest)
 |pax {nb pad pax ln ll out} (d p l t rest:List UInt8) (h0:Hd) (fm:Int) (rs:List Rec) (hd:d.length=nb) (hp:p.length=pad) (hl:l.length=512) (hb:BlkRd h0 fm l)
   (ht:h0.typ=120) (hs:h0.size=t.length) (hr:RecsT rs t) (htl:t.length≤1048576) (hk:∀r∈rs,(61:UInt8)∉r.1∧r.1≠[]∧NoNul r.1∧(r.1=Bo∨r.1=Br∨r.1=Bj∨r.1=Bm→NoNul r.2)∧¬Ct <+: r.1∧r.2≠[])
   (h:HeadP 0 (Cv t.length) (some rs) ln ll rest out):HeadP nb pad pax ln ll (d++p++(l++(t++rest))) out
 |name {nb pad pax ln ll out} (d p l s rest:List UInt8) (h0:Hd) (fm:Int) (hd:d.length=nb) (hp:p.length=pad) (hl:l.length=512) (hb:BlkRd h0 fm l)
   (ht:h0.typ=76) (hs:h0.size=s.length+1) (hz:NoNul s) (htl:s.length<1048576)
   (h:HeadP 0 (Cv (s.length+1)) pax s ll rest out):HeadP nb pad pax ln ll (d++p++(l++(s++0::rest))) out
 |link {nb pad pax ln ll out} (d p l s rest:List UInt8) (h0:Hd) (fm:Int) (hd:d.length=nb) (hp:p.length=pad) (hl:l.length=512) (hb:BlkRd h0 fm l)
   (ht:h0.typ=75) (hs:h0.size=s.length+1) (hz:NoNul s) (htl:s.length<1048576)
   (h:HeadP 0 (Cv (s.length+1)) pax ln s rest out):HeadP nb pad pax ln ll (d++p++(l++(s++0::rest))) out
 |end_ {nb pad pax ln ll} (d p rest:List UInt8) (hd:d.length=nb) (hp:p.length=pad) :
   HeadP nb pad pax ln ll (d++p++(List.replicate 1024 0++rest)) (.fail 0)
 |bad {nb pad pax ln ll} (d p l rest:List UInt8) (n:Nat) (hd:d.length=nb) (hp:p.length=pad) (hl:l.length=512) (ho:Nonempty (OctAt (fld l 148 8) n))
   (hb:¬((n:Int)=Bz l 512∨(n:Int)=C5 l 512)) (hz:¬l=zblk) :
   HeadP nb pad pax ln ll (d++p++(l++rest)) (.fail 1)
 |cutData {nb pad pax ln ll} (src:List UInt8) (h:src.length<nb):HeadP nb pad pax ln ll src (.fail 5)
 |cutPad {nb pad pax ln ll} (d p:List UInt8) (hd:d.length=nb) (hp:p.length<pad):HeadP nb pad pax ln ll (d++p) (.fail 0)
 |cutNone {nb pad pax ln ll} (d p:List UInt8) (hd:d.length=nb) (hp:p.length=pad):HeadP nb pad pax ln ll (d++p) (.fail 0)
 |cutBlk {nb pad pax ln ll} (d p l:List UInt8) (hd:d.length=nb) (hp:p.length=pad) (h0:0<l.length) (h1:l.length<512):HeadP nb pad pax ln ll (d++p++l) (.fail 5)
 |cutEnd {nb pad pax ln ll} (d p:List UInt8) (k:Nat) (hd:d.length=nb) (hp:p.length=pad) (h0:512≤k) (h1:k<1024):HeadP nb pad pax ln ll (d++p++List.replicate k 0) (.fail (if k=512 then 0 else 5))
 |cutMeta {nb pad pax ln ll} (d p l t:List UInt8) (h0:Hd) (fm:Int) (hd:d.length=nb) (hp:p.length=pad) (hl:l.length=512) (hb:BlkRd h0 fm l)
   (ht:h0.typ=120∨h0.typ=103∨h0.typ=76∨h0.typ=75) (hs:(t.length:Int)<h0.size) (htl:t.length≤1048576) (hsm:h0.size≤4611686018427387904):HeadP nb pad pax ln ll (d++p++(l++t)) (.fail 5)
def Jz (h:Hd)(gnu:Bool)(name:List UInt8):Hd:=
 {h with name:=name,link:=h.link.take 100,size:=stored gnu 12 h.size,mode:=stored gnu 8 h.mode,uid:=stored gnu 8 h.uid,gid:=stored gnu 8 h.gid,un:=h.un.take 32,gn:=h.gn.take 32,
         ms:=stored gnu 12 h.ms,mn:=0,hasA:=gnu&&h.hasA,hasC:=gnu&&h.hasC,atn:=0,ctn:=0,maj:=stored gnu 8 h.maj,min:=stored gnu 8 h.min}
structure BlkIn (h:Hd)(gnu:Bool):Prop where
 name:NoNul h.name
 link:NoNul h.link
 un:NoNul h.un
 gn:NoNul h.gn
 nums:gnu=true→(∀n∈[h.mode,h.uid,h.gid,h.maj,h.min],-72057594037927936≤n∧n<72057594037927936)∧ -9223372036854775808≤h.size∧h.size<9223372036854775808∧ -100000000000000001≤h.ms∧h.ms≤100000000000000001
 acc:gnu=true→h.hasA=true→ -100000000000000001≤h.ats∧h.ats≤100000000000000001
 chg:gnu=true→h.hasC=true→ -100000000000000001≤h.cts∧h.cts≤100000000000000001
theorem NumE.head {k:Nat}{n:Int}{f:List UInt8}(h:NumE true k n f):∃x,f[0]?=some x∧x≠0:=by
 cases h with
 |oct m tail k0 k1 hn h1 h2 hk hm=>
  obtain⟨j,hj⟩:∃j,k-tail=j+1:=⟨k-tail-1,by omega⟩
  rw[hj,Db];refine⟨_,rfl,fun e=>?_⟩;have:=Mr (j+1) m _ (by rw[Db];exact List.mem_cons_self ..)
  rw[e] at this;simp at this
 |bin hg hk=>exact⟨_,rfl,by split<;>decide⟩
theorem Hy {l:List UInt8}{o n:Nat}(h:0<n):(fld l o n)[0]?=l[o]?:=by rw[Gc,if_pos h];rfl
theorem BlkE.rd {h:Hd}{gnu:Bool}{l:List UInt8}(b:BlkE h gnu l)(i:BlkIn h gnu) :
  ∃name,BlkRd (Jz h gnu name) (if gnu then 8 else 6) l∧(name=h.name.take 100∧(gnu=false→Ascii h.name→100<h.name.length→¬Dj h.name)∨gnu=false∧Ascii h.name∧name=h.name):=by
 have hh:=b.hd i.nums;have base:∀name,(gnu=false→joined (textOf (fld l 345 155)) (textOf (fld l 0 100))=name)→(gnu=true→textOf (fld l 0 100)=name)→BlkRd (Jz h gnu name) (if gnu then 8 else 6) l:=fun name h6 h8=>by
  refine⟨⟨_,hh⟩,b.fmt,by cases gnu<;>simp,?_,?_,?_,?_,?_,rfl,?_,?_,?_⟩
  ·intro e;cases gnu with
   |false=>exact h6 rfl
   |true=>simp at e
  ·intro e;cases gnu with
   |false=>simp at e
   |true=>exact h8 rfl
  ·rw[b.link,Di _ _ i.link];rfl
  ·rw[b.un,Di _ _ i.un];rfl
  ·rw[b.gn,Di _ _ i.gn];rfl
  ·intro e;cases gnu with
   |false=>exact⟨rfl,rfl⟩
   |true=>simp at e
  ·intro e;cases gnu with
   |false=>simp at e
   |true=>
    have ha:=b.acc rfl;show if (true&&h.hasA)=true then _ else _;cases hA:h.hasA with
    |false=>
     rw[hA] at ha;simp only[Bool.and_false,Bool.false_eq_true,if_false] at ha ⊢;have:=congrArg (fun f:List UInt8=>f[0]?) ha;(simp only[Hy (show 0<12 by omega)] at this);exact this
    |true=>
     rw[hA] at ha;simp only[Bool.and_true,if_true] at ha ⊢;have hx:=ha.head;(rw[Hy (by omega)] at hx);have hbd:=i.acc rfl hA;exact⟨ha.at_ (by omega) (by omega) (by omega) (fun _=>⟨by omega,by omega⟩),hx,hbd.1,hbd.2,rfl⟩
  ·intro e;cases gnu with
   |false=>simp at e
   |true=>
    have ha:=b.chg rfl;show if (true&&h.hasC)=true then _ else _;cases hA:h.hasC with
    |false=>
     rw[hA] at ha;simp only[Bool.and_false,Bool.false_eq_true,if_false] at ha ⊢;have:=congrArg (fun f:List UInt8=>f[0]?) ha;(simp only[Hy (show 0<12 by omega)] at this);exact this
    |true=>
     rw[hA] at ha;simp only[Bool.and_true,if_true] at ha ⊢;have hx:=ha.head;(rw[Hy (by omega)] at hx);have hbd:=i.chg rfl hA;exact⟨ha.at_ (by omega) (by omega) (by omega) (fun _=>⟨by omega,by omega⟩),hx,hbd.1,hbd.2,rfl⟩
 rcases b.name with ⟨hn,hp,hs⟩|⟨hg,ha,pre,nm,hs,hn,hp⟩
 ·refine⟨h.name.take 100,base _ (fun g=>?_) (fun g=>?_), .inl ⟨rfl,hs⟩⟩
  ·rw[hn,hp g,Di _ _ i.name];exact Jf (by simp[textOf])
  ·rw[hn,Di _ _ i.name]
 ·refine⟨h.name,base _ (fun g=>?_) (fun g=>by rw[hg] at g;cases g), .inr ⟨hg,ha,rfl⟩⟩
  have hz:NoNul pre∧NoNul nm:=by
   have:=ha.noNul;rw[hs.eq] at this;exact⟨fun c hc=>this c (by simp[hc]),fun c hc=>this c (by simp[hc])⟩
  rw[hn,hp,Di _ _ hz.1,Di _ _ hz.2,List.take_of_length_le hs.pre2,List.take_of_length_le hs.nm2,Je hs.pre1,hs.eq]
end
section
open Go.RowKit
theorem Cc:∀(l:List Rec) (k v:List UInt8),Bf l k=some v→(k,v)∈l:=by
 intro l;induction l with
 |nil=>intro k v h;cases h
 |cons r l ih=>
  intro k v h;rw[Bf] at h;cases hl:Bf l k with
  |some u=>rw[hl] at h;simp only[Option.some_or,Option.some.injEq] at h;subst h;exact List.mem_cons_of_mem _ (ih k u hl)
  |none=>
   rw[hl,Option.none_or] at h;split at h
   ·rename_i e;simp only[Option.some.injEq] at h;have:r=(k,v):=Prod.ext e h;rw[this];exact List.mem_cons_self ..
   ·cases h
theorem G8 (l:List Rec)(k v:List UInt8)(h:(k,v)∈l):∃u,Bf l k=some u:=by
 induction l with
 |nil=>cases h
 |cons r l ih=>
  rw[Bf];rcases List.mem_cons.1 h with rfl|h
  ·cases Bf l k<;>simp
  ·obtain⟨u,hu⟩:=ih h;exact⟨u,by rw[hu];rfl⟩
theorem Zy {rs:List Rec}{k:List UInt8}(h:D6 rs k):∃v,Bf rs k=some v:=by
 obtain⟨r,hr,rfl⟩:=h;exact G8 rs r.1 r.2 hr
structure SameH (a b:Hd):Prop where
 typ:a.typ=b.typ
 name:a.name=b.name
 link:a.link=b.link
 size:a.size=b.size
 mode:a.mode=b.mode
 uid:a.uid=b.uid
 gid:a.gid=b.gid
 un:a.un=b.un
 gn:a.gn=b.gn
 mod:a.ms=b.ms∧a.mn=b.mn
 maj:a.maj=b.maj
 min:a.min=b.min
 acc:a.hasA=b.hasA∧(b.hasA=true→a.ats=b.ats∧a.atn=b.atn)
 chg:a.hasC=b.hasC∧(b.hasC=true→a.cts=b.cts∧a.ctn=b.ctn)
theorem Dt {h:Hd}(ho:∀r∈h.recs,OwnOk r){k v:List UInt8}(hf:Bf h.recs k=some v):k∉Cl:=(ho _ (Cc _ _ _ hf)).key.not_field
section
variable {h:Hd} (ho:∀r∈h.recs,OwnOk r) {r:Rec} (hr:Ql h r)
include ho hr
theorem U8 (e:r.1=Bo):r.2=h.name:=by
 rcases hr with ⟨h1,h2⟩|⟨h1,h2⟩|⟨h1,h2⟩|⟨h1,h2⟩|⟨h1,h2⟩|⟨h1,h2⟩|⟨h1,h2⟩|⟨h1,h2⟩|⟨h1,h2⟩|⟨h1,h2⟩|h1
 all_goals first|exact h2|exact absurd (h1.symm.trans e) (by decide)|exact absurd (by rw[e];decide) (Dt ho h1)
theorem U9 (e:r.1=Br):r.2=h.link:=by
 rcases hr with ⟨h1,h2⟩|⟨h1,h2⟩|⟨h1,h2⟩|⟨h1,h2⟩|⟨h1,h2⟩|⟨h1,h2⟩|⟨h1,h2⟩|⟨h1,h2⟩|⟨h1,h2⟩|⟨h1,h2⟩|h1
 all_goals first|exact h2|exact absurd (h1.symm.trans e) (by decide)|exact absurd (by rw[e];decide) (Dt ho h1)
theorem Bbl (e:r.1=Bj):r.2=h.un:=by
 rcases hr with ⟨h1,h2⟩|⟨h1,h2⟩|⟨h1,h2⟩|⟨h1,h2⟩|⟨h1,h2⟩|⟨h1,h2⟩|⟨h1,h2⟩|⟨h1,h2⟩|⟨h1,h2⟩|⟨h1,h2⟩|h1
 all_goals first|exact h2|exact absurd (h1.symm.trans e) (by decide)|exact absurd (by rw[e];decide) (Dt ho h1)
theorem Bbm (e:r.1=Bm):r.2=h.gn:=by
 rcases hr with ⟨h1,h2⟩|⟨h1,h2⟩|⟨h1,h2⟩|⟨h1,h2⟩|⟨h1,h2⟩|⟨h1,h2⟩|⟨h1,h2⟩|⟨h1,h2⟩|⟨h1,h2⟩|⟨h1,h2⟩|h1
 all_goals first|exact h2|exact absurd (h1.symm.trans e) (by decide)|exact absurd (by rw[e];decide) (Dt ho h1)
theorem Bbn (e:r.1=B1):r.2=Lib.decDigits h.size.toNat:=by
 rcases hr with ⟨h1,h2⟩|⟨h1,h2⟩|⟨h1,h2⟩|⟨h1,h2⟩|⟨h1,h2⟩|⟨h1,h2⟩|⟨h1,h2⟩|⟨h1,h2⟩|⟨h1,h2⟩|⟨h1,h2⟩|h1
 all_goals first|exact h2|exact absurd (h1.symm.trans e) (by decide)|exact absurd (by rw[e];decide) (Dt ho h1)
theorem Bdr (e:r.1=Ck):r.2=Lib.decDigits h.uid.toNat:=by
 rcases hr with ⟨h1,h2⟩|⟨h1,h2⟩|⟨h1,h2⟩|⟨h1,h2⟩|⟨h1,h2⟩|⟨h1,h2⟩|⟨h1,h2⟩|⟨h1,h2⟩|⟨h1,h2⟩|⟨h1,h2⟩|h1
 all_goals first|exact h2|exact absurd (h1.symm.trans e) (by decide)|exact absurd (by rw[e];decide) (Dt ho h1)
theorem Bds (e:r.1=Cn):r.2=Lib.decDigits h.gid.toNat:=by
 rcases hr with ⟨h1,h2⟩|⟨h1,h2⟩|⟨h1,h2⟩|⟨h1,h2⟩|⟨h1,h2⟩|⟨h1,h2⟩|⟨h1,h2⟩|⟨h1,h2⟩|⟨h1,h2⟩|⟨h1,h2⟩|h1
 all_goals first|exact h2|exact absurd (h1.symm.trans e) (by decide)|exact absurd (by rw[e];decide) (Dt ho h1)
theorem Zz (e:r.1=kMtime):∃z,z≤1∧r.2=Bg h.ms h.mn z:=by
 rcases hr with ⟨h1,h2⟩|⟨h1,h2⟩|⟨h1,h2⟩|⟨h1,h2⟩|⟨h1,h2⟩|⟨h1,h2⟩|⟨h1,h2⟩|⟨h1,h2⟩|⟨h1,h2⟩|⟨h1,h2⟩|h1
 all_goals first|exact h2|exact absurd (h1.symm.trans e) (by decide)|exact absurd (by rw[e];decide) (Dt ho h1)
theorem Z1 (e:r.1=kAtime):h.hasA=true∧∃z,z≤1∧r.2=Bg h.ats h.atn z:=by
 rcases hr with ⟨h1,h2⟩|⟨h1,h2⟩|⟨h1,h2⟩|⟨h1,h2⟩|⟨h1,h2⟩|⟨h1,h2⟩|⟨h1,h2⟩|⟨h1,h2⟩|⟨h1,h2⟩|⟨h1,h2⟩|h1
 all_goals first|exact h2|exact absurd (h1.symm.trans e) (by decide)|exact absurd (by rw[e];decide) (Dt ho h1)
theorem Z3 (e:r.1=kCtime):h.hasC=true∧∃z,z≤1∧r.2=Bg h.cts h.ctn z:=by
 rcases hr with ⟨h1,h2⟩|⟨h1,h2⟩|⟨h1,h2⟩|⟨h1,h2⟩|⟨h1,h2⟩|⟨h1,h2⟩|⟨h1,h2⟩|⟨h1,h2⟩|⟨h1,h2⟩|⟨h1,h2⟩|h1
 all_goals first|exact h2|exact absurd (h1.symm.trans e) (by decide)|exact absurd (by rw[e];decide) (Dt ho h1)
end
theorem D7 {p k:List UInt8}(hk:k∈Cl)(hp:p=En∨p=Ct):¬p <+: k:=by
 simp only[Cl,List.mem_cons,List.not_mem_nil,or_false] at hk;rcases hp with rfl|rfl<;>rcases hk with rfl|rfl|rfl|rfl|rfl|rfl|rfl|rfl|rfl|rfl<;>decide
theorem Kx {h:Hd}(ho:∀r∈h.recs,OwnOk r){r:Rec}(hr:Ql h r):r.1∈Cl∨KeyOk r.1∧NoNul r.2:=by
 rcases hr with ⟨h1,h2⟩|⟨h1,h2⟩|⟨h1,h2⟩|⟨h1,h2⟩|⟨h1,h2⟩|⟨h1,h2⟩|⟨h1,h2⟩|⟨h1,h2⟩|⟨h1,h2⟩|⟨h1,h2⟩|h1
 all_goals first|exact .inl (by rw[h1];decide)|exact .inr ⟨(ho _ (Cc _ _ _ h1)).key,(ho _ (Cc _ _ _ h1)).noNul⟩
theorem Qn {h:Hd}{rs:List Rec}{name:List UInt8}(hc:CanP h 2)(ht:ToldE h rs)
  (hn:name=h.name.take 100∧(Ascii h.name→100<h.name.length→¬Dj h.name)∨Ascii h.name∧name=h.name)
  (hi:h.size<9223372036854775808∧h.uid<9223372036854775808∧h.gid<9223372036854775808) :
  ∃h1,Merged (Jz h false name) h1 (Bf rs)∧SameH h1 h:=by
 have ho:=hc.own;have hk:∀k v,Bf rs k=some v→Ql h (k,v)∧v≠[]:=fun k v e=>ht.ok _ (Cc _ _ _ e);have hno:∀k,D6 rs k→Bf rs k≠none:=fun k hk e=>by obtain⟨v,hv⟩:=Zy hk;rw[hv] at e;cases e
 have hodd:=hc.sane.mod;unfold odd at hodd;refine⟨{h with atn:=if h.hasA then h.atn else 0,ctn:=if h.hasC then h.ctn else 0},?_,?_⟩
 ·refine⟨fun k v e=>(hk k v e).2,?_,?_,rfl,?_,?_,?_,?_,?_,?_,?_,?_,?_,?_,?_,?_,?_⟩
  ·intro k v e;rcases Kx ho (hk k v e).1 with h1|h1
   ·exact D7 h1 (.inl rfl)
   ·exact h1.1.noSchily
  ·intro k v e;rcases Kx ho (hk k v e).1 with h1|h1
   ·exact D7 h1 (.inr rfl)
   ·exact h1.1.noSparse
  ·cases e:Bf rs Bo with
   |some v=>exact(U8 ho (hk _ _ e).1 rfl).symm
   |none=>
    show h.name=name;have hm:¬(¬Ascii h.name∨100<h.name.length∧¬Dj h.name):=fun hh=>hno _ (ht.name hh hc.name.1) e;have ha:Ascii h.name:=Classical.byContradiction fun ha=>hm (.inl ha);rcases hn with ⟨rfl,hs⟩|⟨_,rfl⟩
    ·rw[List.take_of_length_le];exact Nat.not_lt.1 fun hl=>hm (.inr ⟨hl,hs ha hl⟩)
    ·rfl
  ·cases e:Bf rs Br with
   |some v=>exact(U9 ho (hk _ _ e).1 rfl).symm
   |none=>
    show h.link=h.link.take 100;rw[List.take_of_length_le];exact Nat.not_lt.1 fun hl=>hno _ (ht.link (.inr hl) (by intro e;rw[e] at hl;simp at hl)) e
  ·cases e:Bf rs Bj with
   |some v=>exact(Bbl ho (hk _ _ e).1 rfl).symm
   |none=>
    show h.un=h.un.take 32;rw[List.take_of_length_le];exact Nat.not_lt.1 fun hl=>hno _ (ht.un (.inr (by omega)) (by intro e;rw[e] at hl;simp at hl)) e
  ·cases e:Bf rs Bm with
   |some v=>exact(Bbm ho (hk _ _ e).1 rfl).symm
   |none=>
    show h.gn=h.gn.take 32;rw[List.take_of_length_le];exact Nat.not_lt.1 fun hl=>hno _ (ht.gn (.inr (by omega)) (by intro e;rw[e] at hl;simp at hl)) e
  ·cases e:Bf rs B1 with
   |some v=>
    have:=Bbn ho (hk _ _ e).1 rfl;simp only at this;subst this;show Lib.parseIntB 64 _=.ok h.size;rw[Gm _ (by omega),Int.toNat_of_nonneg hc.size.1]
   |none=>exact(B6 (Classical.byContradiction fun hf=>hno _ (ht.size hf) e)).symm
  ·cases e:Bf rs Ck with
   |some v=>
    have:=Bdr ho (hk _ _ e).1 rfl;simp only at this;subst this;show Lib.parseIntB 64 _=.ok h.uid;rw[Gm _ (by omega),Int.toNat_of_nonneg hc.uid.1]
   |none=>exact(B6 (Classical.byContradiction fun hf=>hno _ (ht.uid hf) e)).symm
  ·cases e:Bf rs Cn with
   |some v=>
    have:=Bds ho (hk _ _ e).1 rfl;simp only at this;subst this;show Lib.parseIntB 64 _=.ok h.gid;rw[Gm _ (by omega),Int.toNat_of_nonneg hc.gid.1]
   |none=>exact(B6 (Classical.byContradiction fun hf=>hno _ (ht.gid hf) e)).symm
  ·exact(B6 (by have:=hc.mode;simp[Bn];omega)).symm
  ·exact(B6 (by have:=hc.maj;simp[Bn];omega)).symm
  ·exact(B6 (by have:=hc.min;simp[Bn];omega)).symm
  ·cases e:Bf rs kMtime with
   |some v=>exact⟨Zz ho (hk _ _ e).1 rfl,hc.mod.1,hc.mod.2.1,by show 0≤h.mn;omega,by show h.mn<1000000000;omega⟩
   |none=>
    have hm:¬(h.mn≠0∨¬Bn 12 h.ms=true):=fun hh=>hno _ (ht.mtime hh) e;refine⟨(B6 (Classical.byContradiction fun hf=>hm (.inr hf))).symm,?_⟩;exact Classical.byContradiction fun hf=>hm (.inl hf)
  ·cases e:Bf rs kAtime with
   |some v=>
    obtain⟨hA,hz⟩:=Z1 ho (hk _ _ e).1 rfl;have h1:=hc.acc hA;have h2:=hc.sane.acc hA;unfold odd at h2;refine⟨hA,?_⟩;simp only[hA,if_true];exact⟨hz,h1.2.1,h1.2.2.1,by omega,by omega⟩
   |none=>
    have hA:h.hasA=false:=by
     cases hA:h.hasA with
     |false=>rfl
     |true=>exact absurd e (hno _ (ht.atime hA))
    simp[hA,Jz]
  ·cases e:Bf rs kCtime with
   |some v=>
    obtain⟨hA,hz⟩:=Z3 ho (hk _ _ e).1 rfl;have h1:=hc.chg hA;have h2:=hc.sane.chg hA;unfold odd at h2;refine⟨hA,?_⟩;simp only[hA,if_true];exact⟨hz,h1.2.1,h1.2.2.1,by omega,by omega⟩
   |none=>
    have hA:h.hasC=false:=by
     cases hA:h.hasC with
     |false=>rfl
     |true=>exact absurd e (hno _ (ht.ctime hA))
    simp[hA,Jz]
 ·exact⟨rfl,rfl,rfl,rfl,rfl,rfl,rfl,rfl,rfl,⟨rfl,rfl⟩,rfl,rfl,⟨rfl,fun e=>⟨rfl,by show (if h.hasA then _ else _)=_;rw[e];rfl⟩⟩,⟨rfl,fun e=>⟨rfl,by show (if h.hasC then _ else _)=_;rw[e];rfl⟩⟩⟩
end
section
open Go.RowKit
theorem Gn {r:Rec}{t:List UInt8}(h:Lt r t):t.length=(Lib.decDigits t.length).length+r.1.length+r.2.length+3:=by
 have:=congrArg List.length h;simp at this;omega
theorem Jh (n k:Nat)(hk:1≤k)(h:n<10 ^ k):Lib.nDigits n≤k:=by
 rcases Nat.lt_or_ge k (Lib.nDigits n) with hl|hl
 ·exfalso;induction k generalizing n with
  |zero=>omega
  |succ k ih=>
   by_cases hn:n<10
   ·rw[Lib.nDigits_small hn] at hl;omega
   ·rw[Lib.nDigits_big hn] at hl;by_cases h0:k=0
    ·subst h0;omega
    ·exact ih (n/10) (by omega) (by rw[Nat.pow_succ] at h;omega) (by omega)
 ·exact hl
theorem Bdt {r:Rec}{t:List UInt8}(h:Lt r t)(hs:t.length<10000000):t.length≤r.1.length+r.2.length+10:=by
 have h1:=Gn h;rw[Lib.decDigits_length] at h1;have:=Jh t.length 7 (by omega) (by omega)
 omega
theorem Xt {r:Rec}{t:List UInt8}(h:Lt r t)(hs:r.1.length+r.2.length≤1048576):t.length<10000000:=by
 have h1:=Gn h;rw[Lib.decDigits_length] at h1;rcases Nat.lt_or_ge t.length 10000000 with h2|h2
 ·exact h2
 ·exfalso;have hlt:=Lib.lt_pow_nDigits t.length;have hk:∀n:Nat,10000000≤n→Lib.nDigits n≤n/1000000+6:=by
   intro n;induction n using Nat.strongRecOn with
   |ind n ih=>
    intro hn;(rw[Lib.nDigits_big (by omega)]);by_cases h3:n/10<10000000
    ·have:=Jh (n/10) 7 (by omega) (by omega);omega
    ·have:=ih (n/10) (by omega) (by omega);omega
  have:=hk _ h2;omega
theorem Bbo {rs:List Rec}{t:List UInt8}(h:RecsT rs t)(hs:∀r∈rs,r.1.length+r.2.length≤1048576):t.length≤B9 rs:=by
 induction h with
 |nil=>exact Nat.zero_le _
 |cons h hr ih=>
  rename_i r rs t ts;have h1:=Bdt h (Xt h (hs r (List.mem_cons_self ..)));have h2:=ih fun x hx=>hs x (List.mem_cons_of_mem _ hx);simp only[B9,List.map_cons,List.sum_cons,List.length_append] at h2 ⊢;omega
def OutOk (h:Hd)(data tail:List UInt8)(out:Out):Prop:=
 (∃h2 pax,out=.file h2 pax (De h data++tail)∧h.typ≠103∧SameH h2 h∧(∀k v,Bf h.recs k=some v→∃rs,pax=some rs∧Bf rs k=some v)) ∨
 (∃rs n,h.typ=103∧out=.glob h.name rs (Cv n) (List.replicate (Cv n) 0++tail)∧∀k v,Bf rs k=some v↔Bf h.recs k=some v)
theorem Z4 {rs:List Rec}{r:Rec}(h:r∈rs):r.1.length+r.2.length≤B9 rs:=by
 induction rs with
 |nil=>cases h
 |cons x rs ih=>
  simp only[B9,List.map_cons,List.sum_cons] at ih ⊢;rcases List.mem_cons.1 h with rfl|h
  ·omega
  ·have:=ih h;omega
theorem C3 {rs:List Rec}{t:List UInt8}(h:RecsT rs t)(hw:B9 rs≤600000):t.length≤600000:=
 Nat.le_trans (Bbo h fun r hr=>by have:=Z4 hr;omega) hw
theorem Bdu (kind:UInt8)(name:List UInt8)(n:Nat)(gnu:Bool)(hz:NoNul name)(hn:n≤4611686018427387904):BlkIn (El kind name n) gnu:=by
 refine⟨hz,(fun c hc=>by cases hc),(fun c hc=>by cases hc),(fun c hc=>by cases hc),fun _=>⟨?_,?_⟩,(fun _ h=>by cases h),(fun _ h=>by cases h)⟩
 ·intro x hx;simp only[El,hd0,List.mem_cons,List.not_mem_nil,or_false] at hx;omega
 ·simp only[El,hd0];omega
theorem Mb {kind:UInt8}{name:List UInt8}{n:Nat}{gnu:Bool}{l:List UInt8}(b:BlkE (El kind name n) gnu l)(hz:NoNul name)(hn:n<8589934592) :
  ∃h0,BlkRd h0 (if gnu then 8 else 6) l∧h0.typ=kind∧h0.size=n∧(name.length≤100→h0.name=name):=by
 obtain⟨nm,hr,hx⟩:=b.rd (Bdu kind name n gnu hz (by omega))
 have hs:stored gnu 12 (n:Int)=n:=B6 (by simp[Bn];omega)
 refine⟨_,hr,rfl,hs,fun hl=>?_⟩;rcases hx with ⟨rfl,_⟩|⟨_,_,rfl⟩
 ·exact List.take_of_length_le hl
 ·rfl
theorem Be6:NoNul Iv:=by show ∀c∈Iv,c≠0;decide
theorem Y5:NoNul Cq:=by show ∀c∈Cq,c≠0;decide
theorem R3 {t:UInt8}(h:48≤t.toNat∧t.toNat≤55):t.toNat≠0∧t≠120∧t≠103∧t≠76∧t≠75∧t≠83:=by
 refine⟨by omega,?_,?_,?_,?_,?_⟩<;>(rintro rfl;simp at h)
structure Int64s (h:Hd):Prop where
 size:h.size<9223372036854775808
 uid:h.uid<9223372036854775808
 gid:h.gid<9223372036854775808
theorem R4 {h:Hd}{f:Int}(hc:CanP h f)(gnu:Bool)(hg:gnu=true→f=3)(hi:Int64s h):BlkIn h gnu:=by
 have:=hi.size;refine⟨hc.name.2.1,hc.link.1,hc.un.1,hc.gn.1,fun g=>⟨?_,?_⟩,fun g a=>?_,fun g a=>?_⟩
 ·have hf:=hg g;have h1:=hc.mode;have h2:=hc.uid;have h3:=hc.gid;have h4:=hc.maj;have h5:=hc.min;intro x hx;simp only[List.mem_cons,List.not_mem_nil,or_false] at hx;rcases hx with rfl|rfl|rfl|rfl|rfl<;>omega
 ·have h1:=hc.size;have h2:=hc.mod;omega
 ·have:=hc.acc a;omega
 ·have:=hc.chg a;omega
theorem Be7 {s m:List UInt8}(hm:C7 76 s m)(hz:NoNul s)(hl:s.length<1000000)(ln:List UInt8) :
  ∃ln',(ln'=ln∧s.length≤100∨ln'=s∧s≠[])∧∀(pax:Option (List Rec)) (ll rest:List UInt8) (out:Out),(∀(d p:List UInt8) (nb pad:Nat),d.length=nb→p.length=pad→HeadP nb pad pax ln' ll (d++p++rest) out) →
   ∀(d p:List UInt8) (nb pad:Nat),d.length=nb→p.length=pad→HeadP nb pad pax ln ll (d++p++(m++rest)) out:=by
 rcases hm with ⟨rfl,h1⟩|⟨hne,hm⟩
 ·exact⟨ln, .inl ⟨rfl,h1⟩,fun pax ll rest out h d p nb pad hd hp=>h d p nb pad hd hp⟩
 ·refine⟨s, .inr ⟨rfl,hne⟩,fun pax ll rest out h d p nb pad hd hp=>?_⟩;obtain⟨l,hb⟩:=hm;obtain⟨h0,hrd,e1,e2,_⟩:=Mb hb Y5 (by simp;omega)
  have hlen:(s++[0]).length=s.length+1:=by simp
  have:=HeadP.name (nb:=nb) (pad:=pad) (pax:=pax) (ln:=ln) (ll:=ll) d p l s _ h0 _ hd hp hb.len hrd e1 (by rw[e2,hlen];rfl) hz (by omega) (h [] (List.replicate (Cv (s.length+1)) 0) 0 (Cv (s.length+1)) rfl (by simp))
  have e:d++p++(l++(s++0::([]++List.replicate (Cv (s.length+1)) 0++rest)))=d++p++(l++Cb (s++[0])++rest):=by simp[Cb]
  rw[e] at this;exact this
theorem Be8 {s m:List UInt8}(hm:C7 75 s m)(hz:NoNul s)(hl:s.length<1000000)(ll:List UInt8) :
  ∃ll',(ll'=ll∧s.length≤100∨ll'=s∧s≠[])∧∀(pax:Option (List Rec)) (ln rest:List UInt8) (out:Out),(∀(d p:List UInt8) (nb pad:Nat),d.length=nb→p.length=pad→HeadP nb pad pax ln ll' (d++p++rest) out) →
   ∀(d p:List UInt8) (nb pad:Nat),d.length=nb→p.length=pad→HeadP nb pad pax ln ll (d++p++(m++rest)) out:=by
 rcases hm with ⟨rfl,h1⟩|⟨hne,hm⟩
 ·exact⟨ll, .inl ⟨rfl,h1⟩,fun pax ln rest out h d p nb pad hd hp=>h d p nb pad hd hp⟩
 ·refine⟨s, .inr ⟨rfl,hne⟩,fun pax ln rest out h d p nb pad hd hp=>?_⟩;obtain⟨l,hb⟩:=hm;obtain⟨h0,hrd,e1,e2,_⟩:=Mb hb Y5 (by simp;omega)
  have hlen:(s++[0]).length=s.length+1:=by simp
  have:=HeadP.link (nb:=nb) (pad:=pad) (pax:=pax) (ln:=ln) (ll:=ll) d p l s _ h0 _ hd hp hb.len hrd e1 (by rw[e2,hlen];rfl) hz (by omega) (h [] (List.replicate (Cv (s.length+1)) 0) 0 (Cv (s.length+1)) rfl (by simp))
  have e:d++p++(l++(s++0::([]++List.replicate (Cv (s.length+1)) 0++rest)))=d++p++(l++Cb (s++[0])++rest):=by simp[Cb]
  rw[e] at this;exact this
theorem Y6 {s t x:List UInt8}(h:t=[]∧s.length≤100∨t=s∧s≠[])(hx:x=s.take 100):over t x=s:=by
 rcases h with ⟨rfl,h1⟩|⟨rfl,h1⟩
 ·rw[over,if_pos rfl,hx,List.take_of_length_le h1]
 ·rw[over,if_neg h1]
theorem R5 {h:Hd}{data b tail:List UInt8}(he:FileE h data b)(hp:Qm (h,data))(hi:Int64s h)(hdl:data.length≤4611686018427387904){d p:List UInt8}{nb pad:Nat}(hd:d.length=nb)(hpad:p.length=pad) :
  ∃out,HeadP nb pad none [] [] (d++p++(b++tail)) out∧OutOk h data tail out:=by
 have hsz:∀h2:Hd,SameH h2 h→h.typ≠103→0≤h2.size∧h2.size≤4611686018427387904∨B8 h2.typ=false:=fun h2 hs ht=>by
  rcases hp with ⟨hg,_⟩|⟨_,hf,hc,hdat⟩
  ·exact absurd hg.typ ht
  ·simp only at hdat;rw[hs.size,hs.typ];cases e:B8 h.typ with
   |false=>exact .inr rfl
   |true=>rw[if_pos e] at hdat;exact .inl ⟨by omega,by omega⟩
 cases he with
 |glob ht rs t m hrs hin hw hr hm=>
  rcases hp with ⟨hg,_⟩|⟨hne,_⟩
  ·obtain⟨l,hb⟩:=hm;have htl:=C3 hr hw;(obtain⟨h0,hrd,h1,h2,h3⟩:=Mb hb (by rw[hg.name];intro c hc;cases hc) (by omega));(have h3':=h3 (by rw[hg.name];simp));refine⟨_,?_, .inr ⟨rs,t.length,ht,rfl,hrs⟩⟩;(have:=HeadP.glob (nb:=nb) (pad:=pad) (pax:=none) (ln:=[]) (ll:=[]) d p l t (List.replicate (Cv t.length) 0++tail) h0 _ rs hd hpad hb.len hrd h1 h2 hr (fun r hr=>hg.own r (hin r hr)) (by omega));rw[h3'] at this;(have e:d++p++(l++(t++(List.replicate (Cv t.length) 0++tail)))=d++p++(l++Cb t++tail):=by simp[Cb]);rw[e] at this;exact this
  ·exact absurd ht hne
 |ustar ht hf l hl=>
  rcases hp with ⟨hg,_⟩|⟨_,_,hc,hdat⟩
  ·exact absurd hg.typ ht
  ·simp only[hf] at hc;(obtain⟨nm,hrd,hx⟩:=hl.rd (R4 hc false (fun g=>by cases g) hi));have hnm:nm=h.name:=by
    rcases hx with ⟨rfl,hs⟩|⟨_,_,rfl⟩
    ·rw[List.take_of_length_le];have:=hc.name.2.2 rfl;exact Nat.not_lt.1 fun hl=>this.2.elim (by omega) (hs rfl this.1 hl)
    ·rfl
   subst hnm;have h1:=hc.mode;have h2:=hc.uid;have h3:=hc.gid;have h4:=hc.maj;have h5:=hc.min;have h6:=hc.size;have h7:=hc.mod;have hA:h.hasA=false:=by cases e:h.hasA with
    |false=>rfl
    |true=>exact absurd rfl (hc.acc e).1
   have hC:h.hasC=false:=by cases e:h.hasC with
    |false=>rfl
    |true=>exact absurd rfl (hc.chg e).1
   have hsame:SameH (Jz h false h.name) h:=by
    refine⟨rfl,rfl,?_,?_,?_,?_,?_,?_,?_,⟨?_,?_⟩,?_,?_,⟨by simp[Jz,hA],(fun e=>by rw[hA] at e;cases e)⟩,⟨by simp[Jz,hC],(fun e=>by rw[hC] at e;cases e)⟩⟩
    ·exact List.take_of_length_le (hc.link.2 rfl).2
    ·exact B6 (by simp[Bn];omega)
    ·exact B6 (by simp[Bn];omega)
    ·exact B6 (by simp[Bn];omega)
    ·exact B6 (by simp[Bn];omega)
    ·exact List.take_of_length_le (by have:=hc.un.2.2 (by omega);omega)
    ·exact List.take_of_length_le (by have:=hc.gn.2.2 (by omega);omega)
    ·exact B6 (by simp[Bn];omega)
    ·show 0=h.mn;have:=h7.2.2.1 (by omega);omega
    ·exact B6 (by simp[Bn];omega)
    ·exact B6 (by simp[Bn];omega)
   refine⟨_,?_, .inl ⟨_,none,rfl,ht,hsame,?_⟩⟩
   ·have:=HeadP.file (nb:=nb) (pad:=pad) (pax:=none) (ln:=[]) (ll:=[]) d p l (De h data++tail) _ _ _ _ hd hpad hl.len hrd (R3 hc.typ) (hsz _ hsame ht) rfl rfl (hsz _ hsame ht);rw[List.append_assoc l];exact this
   ·intro k v e;(have:h.recs=[]:=Classical.byContradiction fun e=>by have:=hc.recs e;omega);rw[this] at e;cases e
 |pax0 ht hf h0 l hl=>
  rcases hp with ⟨hg,_⟩|⟨_,_,hc,hdat⟩
  ·exact absurd hg.typ ht
  ·simp only[hf] at hc;(obtain⟨nm,hrd,hx⟩:=hl.rd (R4 hc false (fun g=>by cases g) hi));(obtain⟨h1,hm,hsame⟩:=Qn hc h0 (by rcases hx with ⟨e,hs⟩|⟨_,ha,e⟩;exact .inl ⟨e,hs rfl⟩;exact .inr ⟨ha,e⟩) ⟨hi.size,hi.uid,hi.gid⟩);have hb1:SameH (Jz h false nm) h:=by
    have hA:h.hasA=false:=by cases e:h.hasA with
     |false=>rfl
     |true=>have:=h0.atime e;obtain⟨r,hr,_⟩:=this;cases hr
    have hC:h.hasC=false:=by cases e:h.hasC with
     |false=>rfl
     |true=>have:=h0.ctime e;obtain⟨r,hr,_⟩:=this;cases hr
    have e1:=hm.name;have e2:=hm.link;have e3:=hm.un;have e4:=hm.gn;have e5:h1.size=_:=hm.size;have e6:h1.uid=_:=hm.uid;have e7:h1.gid=_:=hm.gid;have e8:h1.ms=_∧h1.mn=_:=hm.mod;refine⟨rfl,e1.symm.trans hsame.name,e2.symm.trans hsame.link,e5.symm.trans hsame.size,hm.mode.symm.trans hsame.mode,e6.symm.trans hsame.uid,e7.symm.trans hsame.gid,e3.symm.trans hsame.un,e4.symm.trans hsame.gn,
     ⟨e8.1.symm.trans hsame.mod.1,e8.2.symm.trans hsame.mod.2⟩,hm.maj.symm.trans hsame.maj,hm.min.symm.trans hsame.min,⟨by simp[Jz,hA],(fun e=>by rw[hA] at e;cases e)⟩,⟨by simp[Jz,hC],(fun e=>by rw[hC] at e;cases e)⟩⟩
   refine⟨_,?_, .inl ⟨_,none,rfl,ht,hb1,?_⟩⟩
   ·have:=HeadP.file (nb:=nb) (pad:=pad) (pax:=none) (ln:=[]) (ll:=[]) d p l (De h data++tail) _ _ _ _ hd hpad hl.len hrd (R3 hc.typ) (hsz _ hb1 ht) rfl rfl (hsz _ hb1 ht);rw[List.append_assoc l];exact this
   ·intro k v e;have:=h0.own k v e;cases this
 |pax ht hf rs hr t m hrt hm l hl=>
  rcases hp with ⟨hg,_⟩|⟨_,_,hc,hdat⟩
  ·exact absurd hg.typ ht
  ·simp only[hf] at hc;(obtain⟨nm,hrd,hx⟩:=hl.rd (R4 hc false (fun g=>by cases g) hi));(obtain⟨h1,hmg,hsame⟩:=Qn hc hr (by rcases hx with ⟨e,hs⟩|⟨_,ha,e⟩;exact .inl ⟨e,hs rfl⟩;exact .inr ⟨ha,e⟩) ⟨hi.size,hi.uid,hi.gid⟩);obtain⟨l0,hb0⟩:=hm;have htl:=C3 hrt hr.small;(obtain⟨h0,hrd0,e1,e2,e3⟩:=Mb hb0 Be6 (by omega));refine⟨_,?_, .inl ⟨h1,some rs,rfl,ht,hsame,fun k v e=>⟨rs,rfl,?_⟩⟩⟩
   ·have h2:=HeadP.file (nb:=0) (pad:=Cv t.length) (pax:=some rs) (ln:=[]) (ll:=[]) [] (List.replicate (Cv t.length) 0) l (De h data++tail) _ h1 h1 _ rfl (by simp) hl.len hrd (R3 hc.typ)
     (.inl (by have:=Iu 12 h.size (by omega);exact⟨this.1,by show stored false 12 h.size≤_;omega⟩)) hmg rfl (hsz _ hsame ht)
    have:=HeadP.pax (nb:=nb) (pad:=pad) (pax:=none) d p l0 t _ h0 _ rs hd hpad hb0.len hrd0 e1 e2 hrt (by omega) ?_ h2
    ·(have e:d++p++(l0++(t++([]++List.replicate (Cv t.length) 0++(l++(De h data++tail)))))=d++p++(l0++Cb t++(l++De h data)++tail):=by simp[Cb]);rw[e] at this;exact this
    ·intro r hrm;have h1:=Kx hc.own (hr.ok r hrm).1;rcases h1 with h1|⟨h1,h2⟩
     ·refine⟨?_,?_,?_,?_,D7 h1 (.inr rfl),(hr.ok r hrm).2⟩
      ·simp only[Cl,List.mem_cons,List.not_mem_nil,or_false] at h1;rcases h1 with e|e|e|e|e|e|e|e|e|e<;>(rw[e];decide)
      ·simp only[Cl,List.mem_cons,List.not_mem_nil,or_false] at h1;rcases h1 with e|e|e|e|e|e|e|e|e|e<;>(rw[e];decide)
      ·simp only[Cl,List.mem_cons,List.not_mem_nil,or_false] at h1;rcases h1 with e|e|e|e|e|e|e|e|e|e<;>(rw[e];unfold NoNul;decide)
      ·have ho:=(hr.ok r hrm).1;rintro(e|e|e|e)
       ·rw[U8 hc.own ho e];exact hc.name.2.1
       ·rw[U9 hc.own ho e];exact hc.link.1
       ·rw[Bbl hc.own ho e];exact hc.un.1
       ·rw[Bbm hc.own ho e];exact hc.gn.1
     ·exact⟨h1.noEq,h1.ne,h1.noNul,fun _=>h2,h1.noSparse,(hr.ok r hrm).2⟩
   ·obtain⟨u,hu⟩:=G8 rs k v (hr.own k v e);have hm:=Cc _ _ _ hu;have:=(hr.ok _ hm).1;have hk:=Dt hc.own e;rcases this with ⟨h1,_⟩|⟨h1,_⟩|⟨h1,_⟩|⟨h1,_⟩|⟨h1,_⟩|⟨h1,_⟩|⟨h1,_⟩|⟨h1,_⟩|⟨h1,_⟩|⟨h1,_⟩|h1
    all_goals first
     |exact absurd (by rw[show k=_ from h1];decide) hk
     |(have h1':Bf h.recs k=some u:=h1;rw[hu,←h1',e])
 |gnu ht hf first m k hm hk l hl=>
  rcases hp with ⟨hg,_⟩|⟨_,_,hc,hdat⟩
  ·exact absurd hg.typ ht
  ·simp only[hf] at hc;obtain⟨nm,hrd,hx⟩:=hl.rd (R4 hc true (fun _=>rfl) hi);have hnm:nm=h.name.take 100:=by
    rcases hx with ⟨e,_⟩|⟨e,_⟩
    ·exact e
    ·cases e
   subst hnm;have hw:=hc.sane.small;unfold weight at hw;(obtain⟨ln,hln,hL⟩:=Be7 hm hc.name.2.1 (by omega) []);(obtain⟨ll,hll,hK⟩:=Be8 hk hc.link.1 (by omega) []);have hsame:SameH {Jz h true (h.name.take 100) with name:=over ln (h.name.take 100),link:=over ll (h.link.take 100)} h:=by
    refine⟨rfl,Y6 hln rfl,Y6 hll rfl,rfl,rfl,rfl,rfl,?_,?_,⟨rfl,?_⟩,rfl,rfl,⟨by simp[Jz],fun e=>⟨rfl,?_⟩⟩,⟨by simp[Jz],fun e=>⟨rfl,?_⟩⟩⟩
    ·exact List.take_of_length_le (by have:=hc.un.2.2 (by omega);omega)
    ·exact List.take_of_length_le (by have:=hc.gn.2.2 (by omega);omega)
    ·show 0=h.mn;have:=hc.mod.2.2.1 (by omega);omega
    ·show 0=h.atn;have:=(hc.acc e).2.2.2 (by omega);omega
    ·show 0=h.ctn;have:=(hc.chg e).2.2.2 (by omega);omega
   have hfile:∀(d p:List UInt8) (nb pad:Nat),d.length=nb→p.length=pad→HeadP nb pad none ln ll (d++p++(l++De h data++tail)) (.file _ none (De h data++tail)):=fun d p nb pad hd hp=>by
    (have:=HeadP.file (nb:=nb) (pad:=pad) (pax:=none) (ln:=ln) (ll:=ll) d p l (De h data++tail) _ _ _ _ hd hp hl.len hrd (R3 hc.typ) (by have:=hsz _ hsame ht;exact this) rfl rfl (hsz _ hsame ht));rw[List.append_assoc l];exact this
   refine⟨_,?_, .inl ⟨_,none,rfl,ht,hsame,?_⟩⟩
   ·cases first with
    |true=>
     have:=hL none [] (k++(l++De h data++tail)) _ (hK none ln (l++De h data++tail) _ hfile) d p nb pad hd hpad;simp only[if_true,List.append_assoc] at this ⊢;exact this
    |false=>
     have:=hK none [] (m++(l++De h data++tail)) _ (hL none ll (l++De h data++tail) _ hfile) d p nb pad hd hpad;simp only[Bool.false_eq_true,if_false,List.append_assoc] at this ⊢;exact this
   ·intro k v e;(have:h.recs=[]:=Classical.byContradiction fun e=>by have:=hc.recs e;omega);rw[this] at e;cases e
end
section
open Go Go.RowKit
theorem Va (a:Int)(k:Nat)(hk:k≤62):bits .and .i64 a ((2 ^ k-1:Nat):Int)=a%((2 ^ k:Nat):Int):=by
 show IntKind.i64.wrap ((BitVec.ofInt 64 a &&& BitVec.ofInt 64 ((2 ^ k-1:Nat):Int)).toNat:Int)=_;have h2:2 ^ k≤2 ^ 62:=Nat.pow_le_pow_right (by omega) hk
 have hp:1≤2 ^ k:=Nat.one_le_two_pow;have e1:(BitVec.ofInt 64 ((2 ^ k-1:Nat):Int)).toNat=2 ^ k-1:=by
  rw[BitVec.ofInt_natCast,BitVec.toNat_ofNat,Nat.mod_eq_of_lt (by omega)]
 rw[BitVec.toNat_and,e1,Nat.and_two_pow_sub_one_eq_mod,BitVec.toNat_ofInt];have hd:((2 ^ k:Nat):Int)∣((2 ^ 64:Nat):Int):=by
  rw[Int.natCast_dvd_natCast];exact Nat.pow_dvd_pow 2 (by omega)
 have h3:(a%((2 ^ 64:Nat):Int))%((2 ^ k:Nat):Int)=a%((2 ^ k:Nat):Int):=Int.emod_emod_of_dvd a hd;have h4:=Int.emod_nonneg a (show ((2 ^ 64:Nat):Int)≠0 by decide)
 have h5:=Int.emod_nonneg a (show ((2 ^ k:Nat):Int)≠0 by omega)
 have h6:=Int.emod_lt_of_pos a (show (0:Int)<((2 ^ k:Nat):Int) by omega)
 have e2:(((a%((2 ^ 64:Nat):Int)).toNat%2 ^ k:Nat):Int)=a%((2 ^ k:Nat):Int):=by
  rw[Int.natCast_emod,Int.toNat_of_nonneg h4,h3]
 rw[e2];exact IntWalk.i64_in _ (by omega)
theorem Be9 (n:Nat):bits .and .i64 (-(n:Int)) 511=((Cv n:Nat):Int):=by
 have:=Va (-(n:Int)) 9 (by omega)
 have e:bits .and .i64 (-(n:Int)) 511= -(n:Int)%512:=this;rw[e];unfold Cv Kw;omega
theorem Gp (w:World)(n:Nat)(hn:n≤4611686018427387904) :
  Calls Tryz.prog 214 #[.int .i64 n] w fun e w'=>e=.returned (.int .i64 (Cv n))∧w'=w:=by
 have h:=Be9 n;have H:=hid h;clear h;go_enter Tryz.func214,Tryz.ntmps214
 go_wp2_with fail
 rw[H.out];go_ret
 exact⟨rfl,rfl⟩
theorem Gr (w:World)(t:UInt8) :
  Calls Tryz.prog 176 #[.int .u8 t.toNat] w fun e w'=>e=.returned (.bool (!B8 t))∧w'=w:=by
 have hH:(!B8 t)=decide (49≤t.toNat∧t.toNat≤54):=by
  unfold B8;rw[Bool.eq_iff_iff];simp
 rw[hH];have h0:=t.toNat_lt;generalize t.toNat=n at h0;clear hH;by_cases hc:49≤n∧n≤54
 ·have hc':n=49∨n=50∨n=51∨n=52∨n=53∨n=54:=by omega
  clear hc;rcases hc' with rfl|rfl|rfl|rfl|rfl|rfl
  all_goals
   (go_enter Tryz.func176,Tryz.ntmps176);(go_wp2_with fail);(go_ret);exact⟨rfl,rfl⟩
 ·have h1:((n:Int)==49)=false:=by rw[beq_eq_false_iff_ne];omega
  have h2:((n:Int)==50)=false:=by rw[beq_eq_false_iff_ne];omega
  have h3:((n:Int)==51)=false:=by rw[beq_eq_false_iff_ne];omega
  have h4:((n:Int)==52)=false:=by rw[beq_eq_false_iff_ne];omega
  have h5:((n:Int)==53)=false:=by rw[beq_eq_false_iff_ne];omega
  have h6:((n:Int)==54)=false:=by rw[beq_eq_false_iff_ne];omega
  have hd:decide (49≤n∧n≤54)=false:=by simpa using hc
  rw[hd];clear hc hd;go_enter Tryz.func176,Tryz.ntmps176
  go_wp2_with fail
  go_ret
  exact⟨rfl,rfl⟩
theorem O4 (w:World)(b:Nat)(f g:Int)(t:TypeId)(h:w.heap[b]?=some (.cells #[.int .i64 f] t (0,0))) :
  Calls Tryz.prog 129 #[.pointer (some ⟨b,0,none⟩), .int .i64 g] w fun e w'=>e=.returned (.tuple #[])∧w'=w.setCell ⟨b,0,none⟩ (.int .i64 (bits .and .i64 f g)):=by
 have c0:=cell_of h 0 rfl;have f0:=Bb h 0;clear h;go_enter Tryz.func129,Tryz.ntmps129
 go_wp2_with fail
 go_end0
 exact⟨rfl,rfl⟩
theorem Bdv : ∃ i m, Tryz.prog.info? 150 = some i ∧ i.methods.find? (·.name == "tapearchives/pub/gotar.physicalRemaining") = some m ∧ m.path = #[] ∧ m.func = some (382, false) := by
 have h : (Tryz.prog.info? 150).bind (fun i => (i.methods.find? (·.name == "tapearchives/pub/gotar.physicalRemaining")).map fun m => (m.path.toList.isEmpty, m.func)) = some (true, some (382, false)) := by kernel_rfl
 obtain⟨i,h1,h2⟩:=Option.bind_eq_some_iff.1 h;obtain⟨m,h3,h4⟩:=Option.map_eq_some_iff.1 h2;simp only[Prod.mk.injEq] at h4;exact⟨i,m,h1,h3,by have:=h4.1;rw[List.isEmpty_iff] at this;exact Array.toList_eq_nil_iff.1 this,h4.2⟩
theorem Vb (w:World)(t u:TypeId)(a:Addr)(s m:String):(Builtin.ssaWrapNilChk_ #[t] u #[.pointer (some a),strVal s,strVal m]).run Tryz.prog w=.ok (.pointer (some a)) w:=by
 rfl
theorem Z5 (w:World)(b:Nat)(r:Value)(nb:Int)(h:w.heap[b]?=some (.cells #[r, .int .i64 nb] 152 (0,0))) :
  (method 560 150 (.pointer (some ⟨b, 0, none⟩)) "tapearchives/pub/gotar.physicalRemaining").run Tryz.prog w = .ok (382, .agg #[r, .int .i64 nb]) w := by
 obtain⟨i,m,h1,h2,h3,h4⟩:=Bdv;have hl:=run_loadVar_row (P:=Tryz.prog) w b 152 152 #[r, .int .i64 nb] (0,0) _ h Tryz.underlying152 rfl (by kernel_rfl)
 unfold method;simp[typeInfo,h1,h2,h3,h4,follow,receiverAt,run_underlying Tryz.underlying150,Place.get,Vb,asAddr,hl]
theorem Bbp (w:World)(r:Value)(nb:Int) :
  Calls Tryz.prog 382 #[.agg #[r, .int .i64 nb]] w fun e w'=>e=.returned (.int .i64 nb)∧w'=w.alloc (.cells #[r, .int .i64 nb] 152):=by
 go_enter Tryz.func382,Tryz.ntmps382
 go_wp2_with fail
 go_ret
 exact⟨rfl,rfl⟩
end
end Go.Proofs.YtgfcnjfmmjcodaaGreatDoor
