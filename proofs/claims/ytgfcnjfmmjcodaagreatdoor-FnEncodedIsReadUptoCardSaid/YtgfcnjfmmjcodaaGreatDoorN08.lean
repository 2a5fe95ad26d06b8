/- Header blocks as the reference writes them, and what a reade. -/
import Derived.Test.YtgfcnjfmmjcodaaGreatDoorN06
import Derived.Test.YtgfcnjfmmjcodaaGreatDoorN07
set_option linter.all false
set_option maxRecDepth 100000
set_option maxHeartbeats 1000000
open Go.Lib (hid)
namespace Go.Proofs.YtgfcnjfmmjcodaaGreatDoor
open Go.RowKit
theorem spl_len {α:Type}(l xs:List α)(o:Nat)(h:o+xs.length≤l.length):(splice l o xs).length=l.length:=length_splice _ _ _ h
theorem spl_get {α:Type}(l xs:List α)(o j:Nat)(h:o+xs.length≤l.length):(splice l o xs)[j]?=if o≤j∧j<o+xs.length then xs[j-o]? else l[j]?:=by
 unfold splice
 have h1:(l.take o).length=o:=by rw[List.length_take];omega
 by_cases hj:j<o
 ·rw[if_neg (by omega),List.getElem?_append_left (by omega),List.getElem?_take,if_pos hj]
 ·rw[List.getElem?_append_right (by omega),h1]
  by_cases hk:j<o+xs.length
  ·rw[if_pos ⟨by omega,hk⟩,List.getElem?_append_left (by omega)]
  ·rw[if_neg (by omega),List.getElem?_append_right (by omega),List.getElem?_drop]
   congr 1;omega
theorem fld_get (l:List UInt8)(o n j:Nat):(fld l o n)[j]?=if j<n then l[o+j]? else none:=by
 rw[fld,List.getElem?_take,List.getElem?_drop]
theorem fld_spl_out (l xs:List UInt8)(o o' n:Nat)(h:o+xs.length≤l.length)(hd:o'+n≤o∨o+xs.length≤o'):fld (splice l o xs) o' n=fld l o' n:=by
 apply List.ext_getElem?
 intro j
 rw[fld_get,fld_get]
 by_cases hj:j<n
 ·rw[if_pos hj,if_pos hj,spl_get _ _ _ _ h,if_neg (by omega)]
 ·rw[if_neg hj,if_neg hj]
theorem fld_spl_in (l xs:List UInt8)(o n:Nat)(h:o+n≤l.length)(hn:xs.length≤n):fld (splice l o xs) o n=xs++fld l (o+xs.length) (n-xs.length):=by
 apply List.ext_getElem?
 intro j
 rw[fld_get,spl_get _ _ _ _ (by omega)]
 by_cases hj:j<n
 ·rw[if_pos hj]
  by_cases hx:j<xs.length
  ·rw[if_pos ⟨by omega,by omega⟩,List.getElem?_append_left hx];congr 1;omega
  ·rw[if_neg (by omega),List.getElem?_append_right (by omega),fld_get,if_pos (by omega)];congr 1;omega
 ·rw[if_neg hj,List.getElem?_append_right (by omega),fld_get,if_neg (by omega)]
theorem fld_spl_same (l xs:List UInt8)(o n:Nat)(h:o+n≤l.length)(hn:xs.length=n):fld (splice l o xs) o n=xs:=by
 rw[fld_spl_in l xs o n h (by omega),hn,Nat.sub_self]
 simp[fld]
theorem fld_zero (k o n:Nat)(h:o+n≤k):fld (List.replicate k (0:UInt8)) o n=List.replicate n 0:=by
 rw[fld,List.drop_replicate,List.take_replicate];congr 1;omega
theorem spl_ubs (l xs:List UInt8)(o:Nat):splice (ubs l) o (ubs xs)=ubs (splice l o xs):=by
 simp[splice,ubs,List.map_take,List.map_drop]
def padF (n:Nat)(s:List UInt8):List UInt8:=s.take n++List.replicate (n-s.length) 0
def NoNul (s:List UInt8):Prop:=∀c∈s,c≠0
theorem NoNul.take {s:List UInt8}(h:NoNul s)(n:Nat):NoNul (s.take n):=fun c hc=>h c (List.mem_of_mem_take hc)
theorem textOf_app (s t:List UInt8)(h:NoNul s):textOf (s++0::t)=s:=by
 induction s with
 |nil=>rfl
 |cons c s ih=>
  have hc:=h c (List.mem_cons_self ..)
  rw[textOf,List.cons_append,List.takeWhile_cons_of_pos (by simp[hc])]
  exact congrArg (c:: ·) (ih fun x hx=>h x (List.mem_cons_of_mem _ hx))
theorem textOf_all (s:List UInt8)(h:NoNul s):textOf s=s:=by
 induction s with
 |nil=>rfl
 |cons c s ih=>
  have hc:=h c (List.mem_cons_self ..)
  rw[textOf,List.takeWhile_cons_of_pos (by simp[hc])]
  exact congrArg (c:: ·) (ih fun x hx=>h x (List.mem_cons_of_mem _ hx))
theorem textOf_pad (n:Nat)(s:List UInt8)(h:NoNul s):textOf (padF n s)=s.take n:=by
 unfold padF
 cases hk:n-s.length with
 |zero=>rw[List.replicate_zero,List.append_nil];exact textOf_all _ (h.take n)
 |succ k=>rw[List.replicate_succ];exact textOf_app _ _ (h.take n)
theorem fld_spl_pad (l s:List UInt8)(o n:Nat)(h:o+n≤l.length)(hz:fld l o n=List.replicate n 0):fld (splice l o (s.take n)) o n=padF n s:=by
 rw[fld_spl_in l _ o n h (by rw[List.length_take];omega),padF]
 congr 1
 have hl:(s.take n).length=min n s.length:=List.length_take ..
 have e:fld l (o+(s.take n).length) (n-(s.take n).length)=(fld l o n).drop (s.take n).length:=by
  rw[fld,fld,List.drop_take,List.drop_drop]
 rw[e,hz,List.drop_replicate]
 congr 1;omega
def fitsO (k:Nat)(n:Int):Bool:=decide (0≤n)&&decide (n<8 ^ (k-1))
inductive NumE (gnu:Bool) (k:Nat) (n:Int):List UInt8→Prop
 |oct (m tail:Nat) (k0 k1:Bool) (hn:n=m) (h1:1≤tail) (h2:tail≤2) (hk:tail<k) (hm:m<8 ^ (k-tail)):NumE gnu k n (octL (k-tail) m++tails k0 k1 tail)
 |bin (hg:gnu=true) (hk:1≤k):NumE gnu k n (binF (k-1) n)
theorem NumE.len {gnu:Bool}{k:Nat}{n:Int}{f:List UInt8}(h:NumE gnu k n f):f.length=k:=by
 cases h with
 |oct m tail k0 k1 hn h1 h2 hk hm=>rw[List.length_append,octL_len,tails,List.length_take];simp only[List.length_cons,List.length_nil];omega
 |bin hg hk=>rw[binF,List.length_cons,binL_len];omega
theorem NumE.at_ {gnu:Bool}{k:Nat}{n:Int}{f:List UInt8}(h:NumE gnu k n f)(hk:2≤k)(hm: -9223372036854775808≤n)(hM:n<9223372036854775808)
  (hb:gnu=true→ -(256:Int) ^ (k-1)≤n∧n<(256:Int) ^ (k-1)):NumAt f n:=by
 cases h with
 |oct m tail k0 k1 hn h1 h2 hk hm=>exact .inl ⟨m,hn,octF_at _ _ _ _ _ (by omega) hm (by omega)⟩
 |bin hg hk=>exact binF_at _ _ (hb hg).1 (hb hg).2 hm hM
def stored (gnu:Bool)(k:Nat)(n:Int):Int:=if gnu||fitsO k n then n else 0
structure Hd where
 typ:UInt8
 name:List UInt8
 link:List UInt8
 size:Int
 mode:Int
 uid:Int
 gid:Int
 un:List UInt8
 gn:List UInt8
 ms:Int
 mn:Int
 hasA:Bool
 hasC:Bool
 ats:Int
 atn:Int
 cts:Int
 ctn:Int
 maj:Int
 min:Int
 recs:List (List UInt8 × List UInt8)
 fmt:Int
def magicU:List UInt8:=[117,115,116,97,114,0,48,48]
def magicG:List UInt8:=[117,115,116,97,114,32,32,0]
def Ascii (s:List UInt8):Prop:=∀c∈s,c≠0∧c.toNat<128
theorem Ascii.noNul {s:List UInt8}(h:Ascii s):NoNul s:=fun c hc=>(h c hc).1
structure Parts (p pre nm:List UInt8):Prop where
 eq:p=pre++47::nm
 pre1:1≤pre.length
 pre2:pre.length≤155
 nm1:1≤nm.length
 nm2:nm.length≤100
def Splits (p:List UInt8):Prop:=∃pre nm,Parts p pre nm
structure BlkE (h:Hd)(gnu:Bool)(l:List UInt8):Prop where
 len:l.length=512
 name:(fld l 0 100=padF 100 h.name∧(gnu=false→fld l 345 155=List.replicate 155 0)∧(gnu=false→Ascii h.name→100<h.name.length→¬Splits h.name)) ∨
  gnu=false∧Ascii h.name∧∃pre nm,Parts h.name pre nm∧fld l 0 100=padF 100 nm∧fld l 345 155=padF 155 pre
 mode:NumE gnu 8 (stored gnu 8 h.mode) (fld l 100 8)
 uid:NumE gnu 8 (stored gnu 8 h.uid) (fld l 108 8)
 gid:NumE gnu 8 (stored gnu 8 h.gid) (fld l 116 8)
 size:NumE gnu 12 (stored gnu 12 h.size) (fld l 124 12)
 mod:NumE gnu 12 (stored gnu 12 h.ms) (fld l 136 12)
 maj:NumE gnu 8 (stored gnu 8 h.maj) (fld l 329 8)
 min:NumE gnu 8 (stored gnu 8 h.min) (fld l 337 8)
 typ:l[156]?=some h.typ
 link:fld l 157 100=padF 100 h.link
 magic:fld l 257 8=if gnu then magicG else magicU
 un:fld l 265 32=padF 32 h.un
 gn:fld l 297 32=padF 32 h.gn
 acc:gnu=true→(if h.hasA then NumE true 12 h.ats (fld l 345 12) else fld l 345 12=List.replicate 12 0)
 chg:gnu=true→(if h.hasC then NumE true 12 h.cts (fld l 357 12) else fld l 357 12=List.replicate 12 0)
 rest:gnu=true→fld l 369 143=List.replicate 143 0
 tail:fld l 500 12=List.replicate 12 0
 sum:NumE false 8 (usumTo l 512) (fld l 148 8)
theorem NumE.oct_of {k:Nat}{n:Nat}{f:List UInt8}(h:NumE false k (n:Int) f)(hM:(n:Int)<9223372036854775808):Nonempty (OctAt f n):=by
 cases h with
 |oct m tail k0 k1 hn h1 h2 hk hm=>
  have:n=m:=by omega
  subst this
  exact octF_at _ _ _ _ _ (by omega) hm (by omega)
 |bin hg hk=>cases hg
theorem stored_gnu (k:Nat)(n:Int):stored true k n=n:=rfl
theorem stored_fits {k:Nat}{n:Int}{gnu:Bool}(h:fitsO k n=true):stored gnu k n=n:=by simp[stored,h]
theorem stored_bd (k:Nat)(n:Int)(hk:k≤12):0≤stored false k n∧stored false k n<8589934592:=by
 unfold stored fitsO
 simp only[Bool.false_or,Bool.and_eq_true,decide_eq_true_eq]
 split
 ·rename_i h
  refine⟨h.1,Int.lt_of_lt_of_le h.2 ?_⟩
  have h1:8 ^ (k-1)≤8 ^ 11:=Nat.pow_le_pow_right (by omega) (by omega)
  have h2:(8:Int) ^ (k-1)=((8 ^ (k-1):Nat):Int):=by rw[Int.natCast_pow];rfl
  omega
 ·omega
theorem BlkE.fmt {h:Hd}{gnu:Bool}{l:List UInt8}(b:BlkE h gnu l):fmtOf l=if gnu then 8 else 6:=by
 have e6:fld l 257 6=(fld l 257 8).take 6:=by simp[fld,List.take_take]
 have e2:fld l 263 2=(fld l 257 8).drop 6:=by simp[fld,List.drop_take,List.drop_drop]
 have e4:fld l 508 4=List.replicate 4 0:=by
  have:fld l 508 4=(fld l 500 12).drop 8:=by simp[fld,List.drop_take,List.drop_drop]
  rw[this,b.tail];rfl
 rw[fmtOf,e6,e2,e4,b.magic]
 cases gnu<;>rfl
theorem BlkE.hd {h:Hd}{gnu:Bool}{l:List UInt8}(b:BlkE h gnu l)
  (hg:gnu=true→(∀n∈[h.mode,h.uid,h.gid,h.maj,h.min],-72057594037927936≤n∧n<72057594037927936)∧ -9223372036854775808≤h.size∧h.size<9223372036854775808∧ -100000000000000001≤h.ms∧h.ms≤100000000000000001) :
  HdBlk l (usumTo l 512) h.typ (stored gnu 12 h.size) (stored gnu 8 h.mode) (stored gnu 8 h.uid) (stored gnu 8 h.gid) (stored gnu 12 h.ms) (stored gnu 8 h.maj) (stored gnu 8 h.min):=by
 have hs:=usumTo_le l 512
 have n8:∀(n:Int) (f:List UInt8),(gnu=true→ -72057594037927936≤n∧n<72057594037927936)→NumE gnu 8 (stored gnu 8 n) f→NumAt f (stored gnu 8 n):=fun n f hn hf=>by
  cases gnu with
  |false=>have:=stored_bd 8 n (by omega);exact hf.at_ (by omega) (by omega) (by omega) (fun h=>by cases h)
  |true=>rw[stored_gnu] at hf ⊢;have:=hn rfl;exact hf.at_ (by omega) (by omega) (by omega) (fun _=>⟨by omega,by omega⟩)
 have n12:∀(n:Int) (f:List UInt8),(gnu=true→ -9223372036854775808≤n∧n<9223372036854775808)→NumE gnu 12 (stored gnu 12 n) f→NumAt f (stored gnu 12 n):=fun n f hn hf=>by
  cases gnu with
  |false=>have:=stored_bd 12 n (by omega);exact hf.at_ (by omega) (by omega) (by omega) (fun h=>by cases h)
  |true=>rw[stored_gnu] at hf ⊢;have:=hn rfl;exact hf.at_ (by omega) (by omega) (by omega) (fun _=>⟨by omega,by omega⟩)
 refine⟨b.len,b.sum.oct_of (by omega), .inl rfl,b.typ,?_,?_,?_,?_,?_,?_,?_,?_⟩
 ·exact n12 _ _ (fun g=>⟨(hg g).2.1,(hg g).2.2.1⟩) b.size
 ·exact n8 _ _ (fun g=>(hg g).1 _ (by simp)) b.mode
 ·exact n8 _ _ (fun g=>(hg g).1 _ (by simp)) b.uid
 ·exact n8 _ _ (fun g=>(hg g).1 _ (by simp)) b.gid
 ·exact n12 _ _ (fun g=>by have:=(hg g).2.2.2;omega) b.mod
 ·exact n8 _ _ (fun g=>(hg g).1 _ (by simp)) b.maj
 ·exact n8 _ _ (fun g=>(hg g).1 _ (by simp)) b.min
 ·cases gnu with
  |false=>have:=stored_bd 12 h.ms (by omega);omega
  |true=>exact(hg rfl).2.2.2
abbrev Rec:=List UInt8 × List UInt8
def padN (n:Nat):Nat:=(n+511)/512*512
def zpad (n:Nat):Nat:=padN n-n
def filledL (d:List UInt8):List UInt8:=d++List.replicate (zpad d.length) 0
theorem padN_ge (n:Nat):n≤padN n:=by unfold padN;omega
theorem padN_lt (n:Nat):padN n<n+512:=by unfold padN;omega
theorem zpad_lt (n:Nat):zpad n<512:=by unfold zpad padN;omega
theorem filledL_len (d:List UInt8):(filledL d).length=padN d.length:=by
 have:=padN_ge d.length
 simp[filledL,zpad];omega
def kPath:List UInt8:=[112,97,116,104]
def kLink:List UInt8:=[108,105,110,107,112,97,116,104]
def kSize:List UInt8:=[115,105,122,101]
def kUid:List UInt8:=[117,105,100]
def kGid:List UInt8:=[103,105,100]
def kUname:List UInt8:=[117,110,97,109,101]
def kGname:List UInt8:=[103,110,97,109,101]
def kMtime:List UInt8:=[109,116,105,109,101]
def kAtime:List UInt8:=[97,116,105,109,101]
def kCtime:List UInt8:=[99,116,105,109,101]
def fieldKeys:List (List UInt8):=[kPath,kLink,kSize,kUid,kGid,kUname,kGname,kMtime,kAtime,kCtime]
def kSchily:List UInt8:=[83,67,72,73,76,89,46]
def kSparse:List UInt8:=[71,78,85,46,115,112,97,114,115,101,46]
def paxName:List UInt8:=[80,97,120,72,101,97,100,101,114,115,47,120]
def longName:List UInt8:=[46,47,46,47,64,76,111,110,103,76,105,110,107]
structure KeyOk (k:List UInt8):Prop where
 noEq:(61:UInt8)∉k
 noNul:NoNul k
 vendor:∃v r,k=v++46::r∧v≠[]∧r≠[]∧∀c∈v,65≤c.toNat∧c.toNat≤90
 noSparse:¬kSparse <+: k
 noSchily:¬kSchily <+: k
structure OwnOk (r:Rec):Prop where
 key:KeyOk r.1
 some:r.2≠[]
 noNul:NoNul r.2
theorem KeyOk.ne {k:List UInt8}(h:KeyOk k):k≠[]:=by
 obtain⟨v,r,rfl,_⟩:=h.vendor
 simp
theorem KeyOk.not_field {k:List UInt8}(h:KeyOk k):k∉fieldKeys:=by
 obtain⟨v,r,e,_⟩:=h.vendor
 intro hk
 have h46:(46:UInt8)∈k:=by rw[e];simp
 revert h46
 simp only[fieldKeys,List.mem_cons,List.not_mem_nil,or_false] at hk
 rcases hk with rfl|rfl|rfl|rfl|rfl|rfl|rfl|rfl|rfl|rfl<;>decide
def findL:List Rec→List UInt8→Option (List UInt8)
 |[],_=>none
 |r::l,k=>(findL l k).or (if r.1=k then some r.2 else none)
def recsW (rs:List Rec):Nat:=(rs.map fun r=>r.1.length+r.2.length+10).sum
def RecT (r:Rec)(t:List UInt8):Prop:=t=Lib.decDigits t.length++32::(r.1++61::(r.2++[10]))
inductive RecsT:List Rec→List UInt8→Prop
 |nil:RecsT [] []
 |cons {r rs t ts} (h:RecT r t) (hs:RecsT rs ts):RecsT (r::rs) (t++ts)
def hd0:Hd:=⟨0,[],[],0,0,0,0,[],[],0,0,false,false,0,0,0,0,0,0,[],0⟩
def metaH (kind:UInt8)(name:List UInt8)(n:Nat):Hd:={hd0 with typ:=kind,name:=name,size:=n,mode:=420}
inductive MetaE (kind:UInt8) (name data:List UInt8) (gnu:Bool):List UInt8→Prop
 |mk (l:List UInt8) (h:BlkE (metaH kind name data.length) gnu l):MetaE kind name data gnu (l++filledL data)
def RecOk (h:Hd)(r:Rec):Prop:=
 r.1=kPath∧r.2=h.name∨r.1=kLink∧r.2=h.link∨r.1=kUname∧r.2=h.un∨r.1=kGname∧r.2=h.gn ∨
 r.1=kSize∧r.2=Lib.decDigits h.size.toNat∨r.1=kUid∧r.2=Lib.decDigits h.uid.toNat∨r.1=kGid∧r.2=Lib.decDigits h.gid.toNat ∨
 r.1=kMtime∧(∃z,z≤1∧r.2=timeText h.ms h.mn z)∨r.1=kAtime∧h.hasA=true∧(∃z,z≤1∧r.2=timeText h.ats h.atn z)∨r.1=kCtime∧h.hasC=true∧(∃z,z≤1∧r.2=timeText h.cts h.ctn z) ∨
 findL h.recs r.1=some r.2
def HasKey (rs:List Rec)(k:List UInt8):Prop:=∃r∈rs,r.1=k
structure ToldE (h:Hd)(rs:List Rec):Prop where
 ok:∀r∈rs,RecOk h r∧r.2≠[]
 name:(¬Ascii h.name∨100<h.name.length∧¬Splits h.name)→h.name≠[]→HasKey rs kPath
 link:(¬Ascii h.link∨100<h.link.length)→h.link≠[]→HasKey rs kLink
 un:(¬Ascii h.un∨31<h.un.length)→h.un≠[]→HasKey rs kUname
 gn:(¬Ascii h.gn∨31<h.gn.length)→h.gn≠[]→HasKey rs kGname
 size:¬fitsO 12 h.size=true→HasKey rs kSize
 uid:¬fitsO 8 h.uid=true→HasKey rs kUid
 gid:¬fitsO 8 h.gid=true→HasKey rs kGid
 mtime:(h.mn≠0∨¬fitsO 12 h.ms=true)→HasKey rs kMtime
 atime:h.hasA=true→HasKey rs kAtime
 ctime:h.hasC=true→HasKey rs kCtime
 own:∀k v,findL h.recs k=some v→(k,v)∈rs
 small:recsW rs≤600000
def hasData (t:UInt8):Bool:=decide (t.toNat<49)||decide (54<t.toNat)
def bodyE (h:Hd)(data:List UInt8):List UInt8:=if hasData h.typ then filledL data else []
def LongE (kind:UInt8)(s:List UInt8)(m:List UInt8):Prop:=m=[]∧s.length≤100∨s≠[]∧MetaE kind longName (s++[0]) true m
inductive FileE (h:Hd) (data:List UInt8):List UInt8→Prop
 |glob (ht:h.typ=103) (rs:List Rec) (t m:List UInt8) (hrs:∀k v,findL rs k=some v↔findL h.recs k=some v) (hin:∀r∈rs,r∈h.recs) (hw:recsW rs≤600000) (hr:RecsT rs t) (hm:MetaE 103 h.name t false m):FileE h data m
 |ustar (ht:h.typ≠103) (hf:h.fmt=1) (l:List UInt8) (hl:BlkE h false l):FileE h data (l++bodyE h data)
 |pax0 (ht:h.typ≠103) (hf:h.fmt=2) (h0:ToldE h []) (l:List UInt8) (hl:BlkE h false l):FileE h data (l++bodyE h data)
 |pax (ht:h.typ≠103) (hf:h.fmt=2) (rs:List Rec) (hr:ToldE h rs) (t m:List UInt8) (hrt:RecsT rs t) (hm:MetaE 120 paxName t false m) (l:List UInt8) (hl:BlkE h false l):FileE h data (m++(l++bodyE h data))
 |gnu (ht:h.typ≠103) (hf:h.fmt=3) (first:Bool) (m k:List UInt8) (hm:LongE 76 h.name m) (hk:LongE 75 h.link k) (l:List UInt8) (hl:BlkE h true l) :
   FileE h data ((if first then m++k else k++m)++(l++bodyE h data))
abbrev File:=Hd × List UInt8
inductive FilesE:List File→List UInt8→Prop
 |nil:FilesE [] []
 |cons {f fs b bs} (h:FileE f.1 f.2 b) (hs:FilesE fs bs):FilesE (f::fs) (b++bs)
def EncE (fs:List File)(b:List UInt8):Prop:=∃bs k,FilesE fs bs∧2≤k∧k≤4∧b=bs++List.replicate (512*k) 0
def weight (h:Hd):Nat:=h.name.length+h.link.length+h.un.length+h.gn.length+(h.recs.map fun r=>r.1.length+r.2.length+24).sum
def odd (s n:Int):Prop:=s= -62135596800∧n=0∨n<0∨999999999<n
structure Sane (h:Hd):Prop where
 small:weight h≤524288
 mod:¬odd h.ms h.mn
 acc:h.hasA=true→¬odd h.ats h.atn
 chg:h.hasC=true→¬odd h.cts h.ctn
structure CanP (h:Hd)(f:Int):Prop where
 sane:Sane h
 typ:48≤h.typ.toNat∧h.typ.toNat≤55
 name:h.name≠[]∧NoNul h.name∧(f=1→Ascii h.name∧(h.name.length≤100∨Splits h.name))
 link:NoNul h.link∧(f=1→Ascii h.link∧h.link.length≤100)
 un:NoNul h.un∧(f=1→Ascii h.un)∧(f≠2→h.un.length≤31)
 gn:NoNul h.gn∧(f=1→Ascii h.gn)∧(f≠2→h.gn.length≤31)
 mode:0≤h.mode∧(f≠3→h.mode<2097152)∧(f=3→h.mode<72057594037927936)
 uid:0≤h.uid∧(f=1→h.uid<2097152)∧(f=3→h.uid<72057594037927936)
 gid:0≤h.gid∧(f=1→h.gid<2097152)∧(f=3→h.gid<72057594037927936)
 maj:0≤h.maj∧(f≠3→h.maj<2097152)∧(f=3→h.maj<72057594037927936)
 min:0≤h.min∧(f≠3→h.min<2097152)∧(f=3→h.min<72057594037927936)
 dev:h.typ≠51→h.typ≠52→h.maj=0∧h.min=0
 size:0≤h.size∧(f=1→h.size<8589934592)
 mod: -100000000000000000≤h.ms∧h.ms≤100000000000000000∧(f≠2→h.mn=0)∧(f=1→0≤h.ms∧h.ms<8589934592)
 acc:h.hasA=true→f≠1∧ -100000000000000000≤h.ats∧h.ats≤100000000000000000∧(f≠2→h.atn=0)
 chg:h.hasC=true→f≠1∧ -100000000000000000≤h.cts∧h.cts≤100000000000000000∧(f≠2→h.ctn=0)
 recs:h.recs≠[]→f=2
 own:∀r∈h.recs,OwnOk r
structure GlobP (h:Hd):Prop where
 typ:h.typ=103
 name:h.name=[]
 size:h.size=0
 recs:h.recs≠[]
 small:weight h≤524288
 own:∀r∈h.recs,OwnOk r
def FileP (f:File):Prop:=GlobP f.1∧f.2=[]∨f.1.typ≠103∧(f.1.fmt=1∨f.1.fmt=2∨f.1.fmt=3)∧CanP f.1 f.1.fmt∧(if hasData f.1.typ then (f.2.length:Int)=f.1.size else f.2=[])
structure BlkRd (h:Hd)(fm:Int)(l:List UInt8):Prop where
 blk:∃n,HdBlk l n h.typ h.size h.mode h.uid h.gid h.ms h.maj h.min
 fmt:fmtOf l=fm
 fm6:fm=6∨fm=8
 name:fm=6→joined (textOf (fld l 345 155)) (textOf (fld l 0 100))=h.name
 name8:fm=8→textOf (fld l 0 100)=h.name
 link:textOf (fld l 157 100)=h.link
 un:textOf (fld l 265 32)=h.un
 gn:textOf (fld l 297 32)=h.gn
 mn:h.mn=0
 no6:fm=6→h.hasA=false∧h.hasC=false
 acc:fm=8→if h.hasA then NumAt (fld l 345 12) h.ats∧(∃x,l[345]?=some x∧x≠0)∧ -100000000000000001≤h.ats∧h.ats≤100000000000000001∧h.atn=0 else l[345]?=some 0
 chg:fm=8→if h.hasC then NumAt (fld l 357 12) h.cts∧(∃x,l[357]?=some x∧x≠0)∧ -100000000000000001≤h.cts∧h.cts≤100000000000000001∧h.ctn=0 else l[357]?=some 0
def PaxT (v:List UInt8)(s n:Int):Prop:=(∃z,z≤1∧v=timeText s n z)∧ -100000000000000000≤s∧s≤100000000000000000∧0≤n∧n<1000000000
def numRec (o:Option (List UInt8))(a b:Int):Prop:=match o with|none=>b=a|some v=>Lib.parseIntB 64 v=.ok b
structure Merged (a b:Hd)(M:List UInt8→Option (List UInt8)):Prop where
 vals:∀k v,M k=some v→v≠[]
 noSchily:∀k v,M k=some v→¬kSchily <+: k
 noSparse:∀k v,M k=some v→¬kSparse <+: k
 typ:b.typ=a.typ
 name:b.name=(M kPath).getD a.name
 link:b.link=(M kLink).getD a.link
 un:b.un=(M kUname).getD a.un
 gn:b.gn=(M kGname).getD a.gn
 size:numRec (M kSize) a.size b.size
 uid:numRec (M kUid) a.uid b.uid
 gid:numRec (M kGid) a.gid b.gid
 mode:b.mode=a.mode
 maj:b.maj=a.maj
 min:b.min=a.min
 mod:match M kMtime with|none=>b.ms=a.ms∧b.mn=a.mn|some v=>PaxT v b.ms b.mn
 acc:match M kAtime with|none=>b.hasA=a.hasA∧b.ats=a.ats∧b.atn=a.atn|some v=>b.hasA=true∧PaxT v b.ats b.atn
 chg:match M kCtime with|none=>b.hasC=a.hasC∧b.cts=a.cts∧b.ctn=a.ctn|some v=>b.hasC=true∧PaxT v b.cts b.ctn
inductive Out
 |file (h:Hd) (pax:Option (List Rec)) (src:List UInt8)
 |glob (name:List UInt8) (rs:List Rec) (pad:Nat) (src:List UInt8)
 |fail (g:Nat)
def over (s d:List UInt8):List UInt8:=if s=[] then d else s
def datLen (h:Hd):Nat:=if hasData h.typ then h.size.toNat else 0
inductive HeadP:Nat→Nat→Option (List Rec)→List UInt8→List UInt8→List UInt8→Out→Prop
 |file {nb pad pax ln ll} (d p l rest:List UInt8) (h0 h1 h2:Hd) (fm:Int) (hd:d.length=nb) (hp:p.length=pad) (hl:l.length=512) (hb:BlkRd h0 fm l)
   (ht:h0.typ.toNat≠0∧h0.typ≠120∧h0.typ≠103∧h0.typ≠76∧h0.typ≠75∧h0.typ≠83) (hs:0≤h0.size∧h0.size≤4611686018427387904∨hasData h0.typ=false)
   (hm:match pax with|none=>h1=h0|some rs=>Merged h0 h1 (findL rs)) (hn:h2={h1 with name:=over ln h1.name,link:=over ll h1.link}) (hs2:0≤h2.size∧h2.size≤4611686018427387904∨hasData h2.typ=false) :
   HeadP nb pad pax ln ll (d++p++(l++rest)) (.file h2 pax rest)
 |glob {nb pad pax ln ll} (d p l t rest:List UInt8) (h0:Hd) (fm:Int) (rs:List Rec) (hd:d.length=nb) (hp:p.length=pad) (hl:l.length=512) (hb:BlkRd h0 fm l)
   (ht:h0.typ=103) (hs:h0.size=t.length) (hr:RecsT rs t) (hk:∀r∈rs,OwnOk r) (htl:t.length≤1048576) :
   HeadP nb pad pax ln ll (d++p++(l++(t++rest))) (.glob h0.name rs (zpad t.length) rest)
 |pax {nb pad pax ln ll out} (d p l t rest:List UInt8) (h0:Hd) (fm:Int) (rs:List Rec) (hd:d.length=nb) (hp:p.length=pad) (hl:l.length=512) (hb:BlkRd h0 fm l)
   (ht:h0.typ=120) (hs:h0.size=t.length) (hr:RecsT rs t) (htl:t.length≤1048576) (hk:∀r∈rs,(61:UInt8)∉r.1∧r.1≠[]∧NoNul r.1∧(r.1=kPath∨r.1=kLink∨r.1=kUname∨r.1=kGname→NoNul r.2)∧¬kSparse <+: r.1∧r.2≠[])
   (h:HeadP 0 (zpad t.length) (some rs) ln ll rest out):HeadP nb pad pax ln ll (d++p++(l++(t++rest))) out
 |name {nb pad pax ln ll out} (d p l s rest:List UInt8) (h0:Hd) (fm:Int) (hd:d.length=nb) (hp:p.length=pad) (hl:l.length=512) (hb:BlkRd h0 fm l)
   (ht:h0.typ=76) (hs:h0.size=s.length+1) (hz:NoNul s) (htl:s.length<1048576)
   (h:HeadP 0 (zpad (s.length+1)) pax s ll rest out):HeadP nb pad pax ln ll (d++p++(l++(s++0::rest))) out
 |link {nb pad pax ln ll out} (d p l s rest:List UInt8) (h0:Hd) (fm:Int) (hd:d.length=nb) (hp:p.length=pad) (hl:l.length=512) (hb:BlkRd h0 fm l)
   (ht:h0.typ=75) (hs:h0.size=s.length+1) (hz:NoNul s) (htl:s.length<1048576)
   (h:HeadP 0 (zpad (s.length+1)) pax ln s rest out):HeadP nb pad pax ln ll (d++p++(l++(s++0::rest))) out
 |end_ {nb pad pax ln ll} (d p rest:List UInt8) (hd:d.length=nb) (hp:p.length=pad) :
   HeadP nb pad pax ln ll (d++p++(List.replicate 1024 0++rest)) (.fail 0)
 |bad {nb pad pax ln ll} (d p l rest:List UInt8) (n:Nat) (hd:d.length=nb) (hp:p.length=pad) (hl:l.length=512) (ho:Nonempty (OctAt (fld l 148 8) n))
   (hb:¬((n:Int)=usumTo l 512∨(n:Int)=ssumTo l 512)) (hz:¬l=zblk) :
   HeadP nb pad pax ln ll (d++p++(l++rest)) (.fail 1)
 |cutData {nb pad pax ln ll} (src:List UInt8) (h:src.length<nb):HeadP nb pad pax ln ll src (.fail 5)
 |cutPad {nb pad pax ln ll} (d p:List UInt8) (hd:d.length=nb) (hp:p.length<pad):HeadP nb pad pax ln ll (d++p) (.fail 0)
 |cutNone {nb pad pax ln ll} (d p:List UInt8) (hd:d.length=nb) (hp:p.length=pad):HeadP nb pad pax ln ll (d++p) (.fail 0)
 |cutBlk {nb pad pax ln ll} (d p l:List UInt8) (hd:d.length=nb) (hp:p.length=pad) (h0:0<l.length) (h1:l.length<512):HeadP nb pad pax ln ll (d++p++l) (.fail 5)
 |cutEnd {nb pad pax ln ll} (d p:List UInt8) (k:Nat) (hd:d.length=nb) (hp:p.length=pad) (h0:512≤k) (h1:k<1024):HeadP nb pad pax ln ll (d++p++List.replicate k 0) (.fail (if k=512 then 0 else 5))
 |cutMeta {nb pad pax ln ll} (d p l t:List UInt8) (h0:Hd) (fm:Int) (hd:d.length=nb) (hp:p.length=pad) (hl:l.length=512) (hb:BlkRd h0 fm l)
   (ht:h0.typ=120∨h0.typ=103∨h0.typ=76∨h0.typ=75) (hs:(t.length:Int)<h0.size) (htl:t.length≤1048576) (hsm:h0.size≤4611686018427387904):HeadP nb pad pax ln ll (d++p++(l++t)) (.fail 5)
def blkH (h:Hd)(gnu:Bool)(name:List UInt8):Hd:=
 {h with name:=name,link:=h.link.take 100,size:=stored gnu 12 h.size,mode:=stored gnu 8 h.mode,uid:=stored gnu 8 h.uid,gid:=stored gnu 8 h.gid,un:=h.un.take 32,gn:=h.gn.take 32,
         ms:=stored gnu 12 h.ms,mn:=0,hasA:=gnu&&h.hasA,hasC:=gnu&&h.hasC,atn:=0,ctn:=0,maj:=stored gnu 8 h.maj,min:=stored gnu 8 h.min}
structure BlkIn (h:Hd)(gnu:Bool):Prop where
 name:NoNul h.name
 link:NoNul h.link
 un:NoNul h.un
 gn:NoNul h.gn
 nums:gnu=true→(∀n∈[h.mode,h.uid,h.gid,h.maj,h.min],-72057594037927936≤n∧n<72057594037927936)∧ -9223372036854775808≤h.size∧h.size<9223372036854775808∧ -100000000000000001≤h.ms∧h.ms≤100000000000000001
 acc:gnu=true→h.hasA=true→ -100000000000000001≤h.ats∧h.ats≤100000000000000001
 chg:gnu=true→h.hasC=true→ -100000000000000001≤h.cts∧h.cts≤100000000000000001
theorem NumE.head {k:Nat}{n:Int}{f:List UInt8}(h:NumE true k n f):∃x,f[0]?=some x∧x≠0:=by
 cases h with
 |oct m tail k0 k1 hn h1 h2 hk hm=>
  obtain⟨j,hj⟩:∃j,k-tail=j+1:=⟨k-tail-1,by omega⟩
  rw[hj,octL]
  refine⟨_,rfl,fun e=>?_⟩
  have:=octL_digit (j+1) m _ (by rw[octL];exact List.mem_cons_self ..)
  rw[e] at this
  simp at this
 |bin hg hk=>exact⟨_,rfl,by split<;>decide⟩
theorem fld_head {l:List UInt8}{o n:Nat}(h:0<n):(fld l o n)[0]?=l[o]?:=by rw[fld_get,if_pos h];rfl
theorem BlkE.rd {h:Hd}{gnu:Bool}{l:List UInt8}(b:BlkE h gnu l)(i:BlkIn h gnu) :
  ∃name,BlkRd (blkH h gnu name) (if gnu then 8 else 6) l∧(name=h.name.take 100∧(gnu=false→Ascii h.name→100<h.name.length→¬Splits h.name)∨gnu=false∧Ascii h.name∧name=h.name):=by
 have hh:=b.hd i.nums
 have base:∀name,(gnu=false→joined (textOf (fld l 345 155)) (textOf (fld l 0 100))=name)→(gnu=true→textOf (fld l 0 100)=name)→BlkRd (blkH h gnu name) (if gnu then 8 else 6) l:=fun name h6 h8=>by
  refine⟨⟨_,hh⟩,b.fmt,by cases gnu<;>simp,?_,?_,?_,?_,?_,rfl,?_,?_,?_⟩
  ·intro e;cases gnu with
   |false=>exact h6 rfl
   |true=>simp at e
  ·intro e;cases gnu with
   |false=>simp at e
   |true=>exact h8 rfl
  ·rw[b.link,textOf_pad _ _ i.link];rfl
  ·rw[b.un,textOf_pad _ _ i.un];rfl
  ·rw[b.gn,textOf_pad _ _ i.gn];rfl
  ·intro e;cases gnu with
   |false=>exact⟨rfl,rfl⟩
   |true=>simp at e
  ·intro e
   cases gnu with
   |false=>simp at e
   |true=>
    have ha:=b.acc rfl
    show if (true&&h.hasA)=true then _ else _
    cases hA:h.hasA with
    |false=>
     rw[hA] at ha
     simp only[Bool.and_false,Bool.false_eq_true,if_false] at ha ⊢
     have:=congrArg (fun f:List UInt8=>f[0]?) ha
     simp only[fld_head (show 0<12 by omega)] at this
     exact this
    |true=>
     rw[hA] at ha
     simp only[Bool.and_true,if_true] at ha ⊢
     have hx:=ha.head
     rw[fld_head (by omega)] at hx
     have hbd:=i.acc rfl hA
     exact⟨ha.at_ (by omega) (by omega) (by omega) (fun _=>⟨by omega,by omega⟩),hx,hbd.1,hbd.2,rfl⟩
  ·intro e
   cases gnu with
   |false=>simp at e
   |true=>
    have ha:=b.chg rfl
    show if (true&&h.hasC)=true then _ else _
    cases hA:h.hasC with
    |false=>
     rw[hA] at ha
     simp only[Bool.and_false,Bool.false_eq_true,if_false] at ha ⊢
     have:=congrArg (fun f:List UInt8=>f[0]?) ha
     simp only[fld_head (show 0<12 by omega)] at this
     exact this
    |true=>
     rw[hA] at ha
     simp only[Bool.and_true,if_true] at ha ⊢
     have hx:=ha.head
     rw[fld_head (by omega)] at hx
     have hbd:=i.chg rfl hA
     exact⟨ha.at_ (by omega) (by omega) (by omega) (fun _=>⟨by omega,by omega⟩),hx,hbd.1,hbd.2,rfl⟩
 rcases b.name with ⟨hn,hp,hs⟩|⟨hg,ha,pre,nm,hs,hn,hp⟩
 ·refine⟨h.name.take 100,base _ (fun g=>?_) (fun g=>?_), .inl ⟨rfl,hs⟩⟩
  ·rw[hn,hp g,textOf_pad _ _ i.name]
   exact joined_nil (by simp[textOf])
  ·rw[hn,textOf_pad _ _ i.name]
 ·refine⟨h.name,base _ (fun g=>?_) (fun g=>by rw[hg] at g;cases g), .inr ⟨hg,ha,rfl⟩⟩
  have hz:NoNul pre∧NoNul nm:=by
   have:=ha.noNul
   rw[hs.eq] at this
   exact⟨fun c hc=>this c (by simp[hc]),fun c hc=>this c (by simp[hc])⟩
  rw[hn,hp,textOf_pad _ _ hz.1,textOf_pad _ _ hz.2,List.take_of_length_le hs.pre2,List.take_of_length_le hs.nm2,joined_pos hs.pre1,hs.eq]
section
theorem findL_mem:∀(l:List Rec) (k v:List UInt8),findL l k=some v→(k,v)∈l:=by
 intro l
 induction l with
 |nil=>intro k v h;cases h
 |cons r l ih=>
  intro k v h
  rw[findL] at h
  cases hl:findL l k with
  |some u=>rw[hl] at h;simp only[Option.some_or,Option.some.injEq] at h;subst h;exact List.mem_cons_of_mem _ (ih k u hl)
  |none=>
   rw[hl,Option.none_or] at h
   split at h
   ·rename_i e
    simp only[Option.some.injEq] at h
    have:r=(k,v):=Prod.ext e h
    rw[this];exact List.mem_cons_self ..
   ·cases h
theorem findL_some (l:List Rec)(k v:List UInt8)(h:(k,v)∈l):∃u,findL l k=some u:=by
 induction l with
 |nil=>cases h
 |cons r l ih=>
  rw[findL]
  rcases List.mem_cons.1 h with rfl|h
  ·cases findL l k<;>simp
  ·obtain⟨u,hu⟩:=ih h
   exact⟨u,by rw[hu];rfl⟩
theorem findL_key {rs:List Rec}{k:List UInt8}(h:HasKey rs k):∃v,findL rs k=some v:=by
 obtain⟨r,hr,rfl⟩:=h
 exact findL_some rs r.1 r.2 hr
structure SameH (a b:Hd):Prop where
 typ:a.typ=b.typ
 name:a.name=b.name
 link:a.link=b.link
 size:a.size=b.size
 mode:a.mode=b.mode
 uid:a.uid=b.uid
 gid:a.gid=b.gid
 un:a.un=b.un
 gn:a.gn=b.gn
 mod:a.ms=b.ms∧a.mn=b.mn
 maj:a.maj=b.maj
 min:a.min=b.min
 acc:a.hasA=b.hasA∧(b.hasA=true→a.ats=b.ats∧a.atn=b.atn)
 chg:a.hasC=b.hasC∧(b.hasC=true→a.cts=b.cts∧a.ctn=b.ctn)
theorem own_key {h:Hd}(ho:∀r∈h.recs,OwnOk r){k v:List UInt8}(hf:findL h.recs k=some v):k∉fieldKeys:=(ho _ (findL_mem _ _ _ hf)).key.not_field
section
variable {h:Hd} (ho:∀r∈h.recs,OwnOk r) {r:Rec} (hr:RecOk h r)
include ho hr
theorem rec_path (e:r.1=kPath):r.2=h.name:=by
 rcases hr with ⟨h1,h2⟩|⟨h1,h2⟩|⟨h1,h2⟩|⟨h1,h2⟩|⟨h1,h2⟩|⟨h1,h2⟩|⟨h1,h2⟩|⟨h1,h2⟩|⟨h1,h2⟩|⟨h1,h2⟩|h1
 all_goals first|exact h2|exact absurd (h1.symm.trans e) (by decide)|exact absurd (by rw[e];decide) (own_key ho h1)
theorem rec_link (e:r.1=kLink):r.2=h.link:=by
 rcases hr with ⟨h1,h2⟩|⟨h1,h2⟩|⟨h1,h2⟩|⟨h1,h2⟩|⟨h1,h2⟩|⟨h1,h2⟩|⟨h1,h2⟩|⟨h1,h2⟩|⟨h1,h2⟩|⟨h1,h2⟩|h1
 all_goals first|exact h2|exact absurd (h1.symm.trans e) (by decide)|exact absurd (by rw[e];decide) (own_key ho h1)
theorem rec_un (e:r.1=kUname):r.2=h.un:=by
 rcases hr with ⟨h1,h2⟩|⟨h1,h2⟩|⟨h1,h2⟩|⟨h1,h2⟩|⟨h1,h2⟩|⟨h1,h2⟩|⟨h1,h2⟩|⟨h1,h2⟩|⟨h1,h2⟩|⟨h1,h2⟩|h1
 all_goals first|exact h2|exact absurd (h1.symm.trans e) (by decide)|exact absurd (by rw[e];decide) (own_key ho h1)
theorem rec_gn (e:r.1=kGname):r.2=h.gn:=by
 rcases hr with ⟨h1,h2⟩|⟨h1,h2⟩|⟨h1,h2⟩|⟨h1,h2⟩|⟨h1,h2⟩|⟨h1,h2⟩|⟨h1,h2⟩|⟨h1,h2⟩|⟨h1,h2⟩|⟨h1,h2⟩|h1
 all_goals first|exact h2|exact absurd (h1.symm.trans e) (by decide)|exact absurd (by rw[e];decide) (own_key ho h1)
theorem rec_size (e:r.1=kSize):r.2=Lib.decDigits h.size.toNat:=by
 rcases hr with ⟨h1,h2⟩|⟨h1,h2⟩|⟨h1,h2⟩|⟨h1,h2⟩|⟨h1,h2⟩|⟨h1,h2⟩|⟨h1,h2⟩|⟨h1,h2⟩|⟨h1,h2⟩|⟨h1,h2⟩|h1
 all_goals first|exact h2|exact absurd (h1.symm.trans e) (by decide)|exact absurd (by rw[e];decide) (own_key ho h1)
theorem rec_uid (e:r.1=kUid):r.2=Lib.decDigits h.uid.toNat:=by
 rcases hr with ⟨h1,h2⟩|⟨h1,h2⟩|⟨h1,h2⟩|⟨h1,h2⟩|⟨h1,h2⟩|⟨h1,h2⟩|⟨h1,h2⟩|⟨h1,h2⟩|⟨h1,h2⟩|⟨h1,h2⟩|h1
 all_goals first|exact h2|exact absurd (h1.symm.trans e) (by decide)|exact absurd (by rw[e];decide) (own_key ho h1)
theorem rec_gid (e:r.1=kGid):r.2=Lib.decDigits h.gid.toNat:=by
 rcases hr with ⟨h1,h2⟩|⟨h1,h2⟩|⟨h1,h2⟩|⟨h1,h2⟩|⟨h1,h2⟩|⟨h1,h2⟩|⟨h1,h2⟩|⟨h1,h2⟩|⟨h1,h2⟩|⟨h1,h2⟩|h1
 all_goals first|exact h2|exact absurd (h1.symm.trans e) (by decide)|exact absurd (by rw[e];decide) (own_key ho h1)
theorem rec_mtime (e:r.1=kMtime):∃z,z≤1∧r.2=timeText h.ms h.mn z:=by
 rcases hr with ⟨h1,h2⟩|⟨h1,h2⟩|⟨h1,h2⟩|⟨h1,h2⟩|⟨h1,h2⟩|⟨h1,h2⟩|⟨h1,h2⟩|⟨h1,h2⟩|⟨h1,h2⟩|⟨h1,h2⟩|h1
 all_goals first|exact h2|exact absurd (h1.symm.trans e) (by decide)|exact absurd (by rw[e];decide) (own_key ho h1)
theorem rec_atime (e:r.1=kAtime):h.hasA=true∧∃z,z≤1∧r.2=timeText h.ats h.atn z:=by
 rcases hr with ⟨h1,h2⟩|⟨h1,h2⟩|⟨h1,h2⟩|⟨h1,h2⟩|⟨h1,h2⟩|⟨h1,h2⟩|⟨h1,h2⟩|⟨h1,h2⟩|⟨h1,h2⟩|⟨h1,h2⟩|h1
 all_goals first|exact h2|exact absurd (h1.symm.trans e) (by decide)|exact absurd (by rw[e];decide) (own_key ho h1)
theorem rec_ctime (e:r.1=kCtime):h.hasC=true∧∃z,z≤1∧r.2=timeText h.cts h.ctn z:=by
 rcases hr with ⟨h1,h2⟩|⟨h1,h2⟩|⟨h1,h2⟩|⟨h1,h2⟩|⟨h1,h2⟩|⟨h1,h2⟩|⟨h1,h2⟩|⟨h1,h2⟩|⟨h1,h2⟩|⟨h1,h2⟩|h1
 all_goals first|exact h2|exact absurd (h1.symm.trans e) (by decide)|exact absurd (by rw[e];decide) (own_key ho h1)
end
theorem not_prefix_field {p k:List UInt8}(hk:k∈fieldKeys)(hp:p=kSchily∨p=kSparse):¬p <+: k:=by
 simp only[fieldKeys,List.mem_cons,List.not_mem_nil,or_false] at hk
 rcases hp with rfl|rfl<;>rcases hk with rfl|rfl|rfl|rfl|rfl|rfl|rfl|rfl|rfl|rfl<;>decide
theorem recOk_key {h:Hd}(ho:∀r∈h.recs,OwnOk r){r:Rec}(hr:RecOk h r):r.1∈fieldKeys∨KeyOk r.1∧NoNul r.2:=by
 rcases hr with ⟨h1,h2⟩|⟨h1,h2⟩|⟨h1,h2⟩|⟨h1,h2⟩|⟨h1,h2⟩|⟨h1,h2⟩|⟨h1,h2⟩|⟨h1,h2⟩|⟨h1,h2⟩|⟨h1,h2⟩|h1
 all_goals first|exact .inl (by rw[h1];decide)|exact .inr ⟨(ho _ (findL_mem _ _ _ h1)).key,(ho _ (findL_mem _ _ _ h1)).noNul⟩
theorem merged_of {h:Hd}{rs:List Rec}{name:List UInt8}(hc:CanP h 2)(ht:ToldE h rs)
  (hn:name=h.name.take 100∧(Ascii h.name→100<h.name.length→¬Splits h.name)∨Ascii h.name∧name=h.name)
  (hi:h.size<9223372036854775808∧h.uid<9223372036854775808∧h.gid<9223372036854775808) :
  ∃h1,Merged (blkH h false name) h1 (findL rs)∧SameH h1 h:=by
 have ho:=hc.own
 have hk:∀k v,findL rs k=some v→RecOk h (k,v)∧v≠[]:=fun k v e=>ht.ok _ (findL_mem _ _ _ e)
 have hno:∀k,HasKey rs k→findL rs k≠none:=fun k hk e=>by obtain⟨v,hv⟩:=findL_key hk;rw[hv] at e;cases e
 have hodd:=hc.sane.mod
 unfold odd at hodd
 refine⟨{h with atn:=if h.hasA then h.atn else 0,ctn:=if h.hasC then h.ctn else 0},?_,?_⟩
 ·refine⟨fun k v e=>(hk k v e).2,?_,?_,rfl,?_,?_,?_,?_,?_,?_,?_,?_,?_,?_,?_,?_,?_⟩
  ·intro k v e
   rcases recOk_key ho (hk k v e).1 with h1|h1
   ·exact not_prefix_field h1 (.inl rfl)
   ·exact h1.1.noSchily
  ·intro k v e
   rcases recOk_key ho (hk k v e).1 with h1|h1
   ·exact not_prefix_field h1 (.inr rfl)
   ·exact h1.1.noSparse
  ·cases e:findL rs kPath with
   |some v=>exact(rec_path ho (hk _ _ e).1 rfl).symm
   |none=>
    show h.name=name
    have hm:¬(¬Ascii h.name∨100<h.name.length∧¬Splits h.name):=fun hh=>hno _ (ht.name hh hc.name.1) e
    have ha:Ascii h.name:=Classical.byContradiction fun ha=>hm (.inl ha)
    rcases hn with ⟨rfl,hs⟩|⟨_,rfl⟩
    ·rw[List.take_of_length_le]
     exact Nat.not_lt.1 fun hl=>hm (.inr ⟨hl,hs ha hl⟩)
    ·rfl
  ·cases e:findL rs kLink with
   |some v=>exact(rec_link ho (hk _ _ e).1 rfl).symm
   |none=>
    show h.link=h.link.take 100
    rw[List.take_of_length_le]
    exact Nat.not_lt.1 fun hl=>hno _ (ht.link (.inr hl) (by intro e;rw[e] at hl;simp at hl)) e
  ·cases e:findL rs kUname with
   |some v=>exact(rec_un ho (hk _ _ e).1 rfl).symm
   |none=>
    show h.un=h.un.take 32
    rw[List.take_of_length_le]
    exact Nat.not_lt.1 fun hl=>hno _ (ht.un (.inr (by omega)) (by intro e;rw[e] at hl;simp at hl)) e
  ·cases e:findL rs kGname with
   |some v=>exact(rec_gn ho (hk _ _ e).1 rfl).symm
   |none=>
    show h.gn=h.gn.take 32
    rw[List.take_of_length_le]
    exact Nat.not_lt.1 fun hl=>hno _ (ht.gn (.inr (by omega)) (by intro e;rw[e] at hl;simp at hl)) e
  ·cases e:findL rs kSize with
   |some v=>
    have:=rec_size ho (hk _ _ e).1 rfl
    simp only at this
    subst this
    show Lib.parseIntB 64 _=.ok h.size
    rw[parse_dec _ (by omega),Int.toNat_of_nonneg hc.size.1]
   |none=>exact(stored_fits (Classical.byContradiction fun hf=>hno _ (ht.size hf) e)).symm
  ·cases e:findL rs kUid with
   |some v=>
    have:=rec_uid ho (hk _ _ e).1 rfl
    simp only at this
    subst this
    show Lib.parseIntB 64 _=.ok h.uid
    rw[parse_dec _ (by omega),Int.toNat_of_nonneg hc.uid.1]
   |none=>exact(stored_fits (Classical.byContradiction fun hf=>hno _ (ht.uid hf) e)).symm
  ·cases e:findL rs kGid with
   |some v=>
    have:=rec_gid ho (hk _ _ e).1 rfl
    simp only at this
    subst this
    show Lib.parseIntB 64 _=.ok h.gid
    rw[parse_dec _ (by omega),Int.toNat_of_nonneg hc.gid.1]
   |none=>exact(stored_fits (Classical.byContradiction fun hf=>hno _ (ht.gid hf) e)).symm
  ·exact(stored_fits (by have:=hc.mode;simp[fitsO];omega)).symm
  ·exact(stored_fits (by have:=hc.maj;simp[fitsO];omega)).symm
  ·exact(stored_fits (by have:=hc.min;simp[fitsO];omega)).symm
  ·cases e:findL rs kMtime with
   |some v=>exact⟨rec_mtime ho (hk _ _ e).1 rfl,hc.mod.1,hc.mod.2.1,by show 0≤h.mn;omega,by show h.mn<1000000000;omega⟩
   |none=>
    have hm:¬(h.mn≠0∨¬fitsO 12 h.ms=true):=fun hh=>hno _ (ht.mtime hh) e
    refine⟨(stored_fits (Classical.byContradiction fun hf=>hm (.inr hf))).symm,?_⟩
    exact Classical.byContradiction fun hf=>hm (.inl hf)
  ·cases e:findL rs kAtime with
   |some v=>
    obtain⟨hA,hz⟩:=rec_atime ho (hk _ _ e).1 rfl
    have h1:=hc.acc hA
    have h2:=hc.sane.acc hA
    unfold odd at h2
    refine⟨hA,?_⟩
    simp only[hA,if_true]
    exact⟨hz,h1.2.1,h1.2.2.1,by omega,by omega⟩
   |none=>
    have hA:h.hasA=false:=by
     cases hA:h.hasA with
     |false=>rfl
     |true=>exact absurd e (hno _ (ht.atime hA))
    simp[hA,blkH]
  ·cases e:findL rs kCtime with
   |some v=>
    obtain⟨hA,hz⟩:=rec_ctime ho (hk _ _ e).1 rfl
    have h1:=hc.chg hA
    have h2:=hc.sane.chg hA
    unfold odd at h2
    refine⟨hA,?_⟩
    simp only[hA,if_true]
    exact⟨hz,h1.2.1,h1.2.2.1,by omega,by omega⟩
   |none=>
    have hA:h.hasC=false:=by
     cases hA:h.hasC with
     |false=>rfl
     |true=>exact absurd e (hno _ (ht.ctime hA))
    simp[hA,blkH]
 ·exact⟨rfl,rfl,rfl,rfl,rfl,rfl,rfl,rfl,rfl,⟨rfl,rfl⟩,rfl,rfl,⟨rfl,fun e=>⟨rfl,by show (if h.hasA then _ else _)=_;rw[e];rfl⟩⟩,⟨rfl,fun e=>⟨rfl,by show (if h.hasC then _ else _)=_;rw[e];rfl⟩⟩⟩
end
end Go.Proofs.YtgfcnjfmmjcodaaGreatDoor
