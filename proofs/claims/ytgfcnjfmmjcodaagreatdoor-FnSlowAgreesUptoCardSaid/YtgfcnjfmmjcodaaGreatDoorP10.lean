/- Searches in strings for one byte. -/
import Derived.Lib.IndexBytes
import Derived.Lib.Split
import Derived.Test.YtgfcnjfmmjcodaaGreatDoorP08
set_option linter.all false
set_option maxRecDepth 100000
set_option maxHeartbeats 1000000
open Go.Lib (hid)
namespace Go.Proofs.YtgfcnjfmmjcodaaGreatDoor
open Go Go.RowKit
theorem Y8 (s:ByteArray)(l:List UInt8)(hs:s.data.toList=l)(c:UInt8)(k:Nat)(hk:k<l.length):((s.extract k (k+1)).toList==[c])=(l[k]==c):=by
 have e:(s.extract k (k+1)).toList=[l[k]]:=by
  rw[ByteArray.toList_eq,Lib.extract_data,hs,show k+1-k=1 by omega,List.drop_eq_getElem_cons hk]
  rfl
 rw[e];simp
theorem Vf (w:World)(s:ByteArray)(c:UInt8)(a b:List UInt8)(hs:s.data.toList=a++c::b)(ha:c∉a)(hl:s.size≤281474976710656) :
  Calls Tryz.prog 260 #[.string s, .string ⟨#[c]⟩] w fun e w'=>e=.returned (.int .i64 a.length)∧w'=w:=by
 have hz:s.size=a.length+b.length+1:=by rw[Lib.size_eq,hs];simp;omega
 have HS:=hid hs;have hza:a.length+1≤s.size:=by omega
 clear hs hz;go_enter Tryz.func260,Tryz.ntmps260
 go_wp2_with fail
 go_loop [5] (fun i=>∃k:Nat,k≤a.length∧i=.int .i64 k) (fun i=>a.length-(intOf i).toNat)
 case atStart=>exact⟨0,by omega,rfl⟩
 case round=>
  obtain⟨k,hk,rfl⟩:=hrel;have hT:=Y8 s _ HS.out c k (by simp;omega)
  by_cases hlt:k<a.length
  ·have hne:((a++c::b)[k]'(by simp;omega)==c)=false:=by
    rw[List.getElem_append_left hlt,beq_eq_false_iff_ne];intro e;exact ha (e▸List.getElem_mem _)
   rw[hne] at hT;clear hne;(have h1:k+1≤s.size:=by omega);(go_wp2_with fail);go_round
   case rel=>exact⟨k+1,by omega,by go_num⟩
   case measure=>simp[intOf];omega
  ·(obtain rfl:k=a.length:=by omega);(have hne:((a++c::b)[a.length]'(by simp)==c)=true:=by simp);rw[hne] at hT;clear hne;(go_wp2_with fail);(go_ret);exact⟨rfl,rfl⟩
theorem J3 (w:World)(s:ByteArray)(c:UInt8)(l:List UInt8)(hs:s.data.toList=l)(ha:c∉l)(hl:s.size≤281474976710656) :
  Calls Tryz.prog 260 #[.string s, .string ⟨#[c]⟩] w fun e w'=>e=.returned (.int .i64 (-1))∧w'=w:=by
 have hz:s.size=l.length:=by rw[Lib.size_eq,hs]
 have HS:=hid hs;have HZ:=hid hz;clear hs hz;go_enter Tryz.func260,Tryz.ntmps260
 go_wp2_with fail
 go_loop [5] (fun i=>∃k:Nat,k≤s.size∧i=.int .i64 k) (fun i=>s.size-(intOf i).toNat)
 case atStart=>exact⟨0,by omega,rfl⟩
 case round=>
  obtain⟨k,hk,rfl⟩:=hrel;by_cases hlt:k<s.size
  ·(have hT:=Y8 s _ HS.out c k (by rw[←HZ.out];exact hlt));have hne:(l[k]'(by rw[←HZ.out];exact hlt)==c)=false:=by
    rw[beq_eq_false_iff_ne];intro e;exact ha (e▸List.getElem_mem _)
   rw[hne] at hT;clear hne;(have h1:k+1≤s.size:=by omega);(go_wp2_with fail);go_round
   case rel=>exact⟨k+1,by omega,by go_num⟩
   case measure=>simp[intOf];omega
  ·(go_wp2_with fail);(go_ret);exact⟨rfl,rfl⟩
theorem Vg (s:ByteArray)(a b:List UInt8)(hs:s.data.toList=a++b):s.extract 0 a.length=⟨a.toArray⟩:=by
 rw[Lib.extract_eq,hs];simp
theorem Vh (s:ByteArray)(a b:List UInt8)(hs:s.data.toList=a++b):s.extract a.length s.size=⟨b.toArray⟩:=by
 rw[Lib.extract_eq,hs,Lib.size_eq,hs];simp
theorem Kz (w:World)(s:ByteArray)(c:UInt8)(a b:List UInt8)(hs:s.data.toList=a++c::b)(ha:c∉a)(hl:s.size≤281474976710656) :
  Calls Tryz.prog 259 #[.string s, .string ⟨#[c]⟩] w fun e w'=>e=.returned (.tuple #[.string ⟨a.toArray⟩, .string ⟨b.toArray⟩, .bool true])∧∃n,w'=w.drewN n:=by
 have hz:s.size=a.length+b.length+1:=by rw[Lib.size_eq,hs];simp;omega
 have e1:=Vg s a _ hs;have e2:s.extract (a.length+1) s.size=⟨b.toArray⟩:=by
  have:=Vh s (a++[c]) b (by rw[hs];simp)
  rwa[List.length_append] at this
 have H:=hid (Vf w s c a b hs ha hl);have HE1:=hid e1;have HE2:=hid e2;have hza:a.length+1≤s.size:=by omega
 have h0:(0:Int)≤(a.length:Int):=by omega
 have h1:(a.length:Int)≤(s.size:Int):=by omega
 clear hs hz e1 e2;go_enter Tryz.func259,Tryz.ntmps259
 go_wp2_with fail
 refine H.out.mono ?_;rintro e w1 ⟨rfl,rfl⟩;go_wp2_with fail
 go_quiet (fail)
 go_wp2_with fail
 go_ret3
 rw[HE1.out,HE2.out];exact⟨rfl,_,rfl⟩
theorem Xx (w:World)(s:ByteArray)(c:UInt8)(l:List UInt8)(hs:s.data.toList=l)(ha:c∉l)(hl:s.size≤281474976710656) :
  Calls Tryz.prog 259 #[.string s, .string ⟨#[c]⟩] w fun e w'=>e=.returned (.tuple #[.string s, .string ⟨#[]⟩, .bool false])∧∃n,w'=w.drewN n:=by
 have H:=hid (J3 w s c l hs ha hl);clear hs;go_enter Tryz.func259,Tryz.ntmps259
 go_wp2_with fail
 refine H.out.mono ?_;rintro e w1 ⟨rfl,rfl⟩;go_wp2_with fail
 go_ret3
 exact⟨rfl,0,rfl⟩
theorem I4 (w:World)(s:ByteArray)(c:UInt8)(l:List UInt8)(hs:s.data.toList=l)(ha:c∉l)(hl:s.size≤281474976710656) :
  Calls Tryz.prog 216 #[.string s, .string ⟨#[c]⟩] w fun e w'=>e=.returned (.bool false)∧w'=w:=by
 have H:=hid (J3 w s c l hs ha hl);clear hs;go_enter Tryz.func216,Tryz.ntmps216
 go_wp2_with fail
 refine H.out.mono ?_;rintro e w1 ⟨rfl,rfl⟩;go_wp2_with fail
 go_ret
 exact⟨rfl,rfl⟩
theorem Qq (w:World)(s:ByteArray)(l:List UInt8)(hs:s.data.toList=l)(ha:NoNul l)(hl:s.size≤281474976710656) :
  Calls Tryz.prog 149 #[.string s] w fun e w'=>e=.returned (.bool false)∧w'=w:=by
 have H:=hid (I4 w s 0 l hs (fun h=>ha 0 h rfl) hl);clear hs;go_enter Tryz.func149,Tryz.ntmps149
 go_wp2_with fail
 refine H.out.mono ?_;rintro e w1 ⟨rfl,rfl⟩;go_wp2_with fail
 go_ret
 exact⟨rfl,rfl⟩
end Go.Proofs.YtgfcnjfmmjcodaaGreatDoor
