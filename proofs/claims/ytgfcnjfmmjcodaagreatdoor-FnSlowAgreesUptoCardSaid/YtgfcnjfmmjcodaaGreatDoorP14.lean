/- readHeader in one law. -/
import Derived.Test.YtgfcnjfmmjcodaaGreatDoorP12
import Derived.Test.YtgfcnjfmmjcodaaGreatDoorP13
set_option linter.all false
set_option maxRecDepth 100000
set_option maxHeartbeats 1000000
open Go.Lib (hid)
namespace Go.Proofs.YtgfcnjfmmjcodaaGreatDoor
open Go Go.RowKit
section
variable {E:Nat→Addr} {B:Nat} {T:TypeId} {v:Value} {S:Nat→Prop} {inv:World→Nat→List UInt8→Prop} (hR:IsRd E B T v S inv)
include hR
theorem Lu (w:World)(R:Nat)(pad:Int)(curr:Value)(blk:List Value)(err:Value)(rest:List UInt8)(hi:RhIn E B T v S inv R pad curr blk err rest w)(g:Nat)(h:RhFail rest g) :
  Calls Tryz.prog 127 #[.pointer (some ⟨R,0,none⟩)] w (U3 S R (By (E g)) w):=by
 cases h with
 |none=>exact Gj hR w R pad curr blk err [] hi (by simp)
 |short l h0 h1=>
  have:=Gj hR w R pad curr blk err _ hi h1;rwa[if_neg (by omega)] at this
 |zshort k h0 h1=>
  have:=Jw hR w R pad curr blk err _ hi (by simpa using h0) (by rw[List.take_replicate];congr 1;omega) (by simpa using h1)
  rw[List.length_replicate] at this;by_cases e:k=512
  ·rw[if_pos e] at this;rw[if_pos e];exact this
  ·rw[if_neg e] at this;rw[if_neg e];exact this
 |zz r=>
  have hl:(List.replicate 1024 (0:UInt8)).length=1024:=List.length_replicate;refine O0 hR w R pad curr blk err _ hi (by rw[List.length_append,hl];omega) ?_ ?_
  ·rw[List.take_append_of_le_length (by rw[hl];omega),List.take_replicate];rfl
  ·rw[List.drop_append_of_le_length (by rw[hl];omega),List.drop_replicate,List.take_append_of_le_length (by rw[List.length_replicate];omega),List.take_replicate];rfl
 |bad l r n hl ho hb hz=>
  obtain⟨o⟩:=ho;have e:(l++r).take 512=l:=by rw[←hl,List.take_left'];rfl
  refine Mp hR w R pad curr blk err _ hi (by rw[List.length_append];omega) (by rw[e,beq_eq_false_iff_ne];exact hz) n (by rw[e];exact o) (by rw[e];exact hb)
theorem O7 (w:World)(R:Nat)(pad:Int)(curr:Value)(blk:List Value)(err:Value)(l rest:List UInt8)(hl:l.length=512)(hi:RhIn E B T v S inv R pad curr blk err (l++rest) w)(h:Hd)(fm:Int)(hb:BlkRd h fm l) :
  Calls Tryz.prog 127 #[.pointer (some ⟨R,0,none⟩)] w (Rr E B T v S inv R pad curr l err rest w (B2 h (.map none) (.map none))):=by
 obtain⟨n,hh⟩:=hb.blk;have e:(l++rest).take 512=l:=by rw[←hl,List.take_left'];rfl
 have e2:(l++rest).drop 512=rest:=by rw[←hl,List.drop_left'];rfl
 have hs:512≤(l++rest).length:=by rw[List.length_append];omega
 have hz:((l++rest).take 512==zblk)=false:=by rw[e];exact hh.not_zero
 rcases hb.fm6 with rfl|rfl
 ·have:=Kt hR w R pad curr blk err _ hi hs hz n h.typ h.size h.mode h.uid h.gid h.ms h.maj h.min (by rw[e];exact hh) (by rw[e];exact hb.fmt)
  rw[e,e2,hb.name rfl,hb.link,hb.un,hb.gn] at this;have hrow:∀f,Ek h.typ.toNat h.name h.link h.size h.mode h.uid h.gid h.un h.gn h.ms 0 0 0 0 h.maj h.min f=B2 h (.map none) (.map none) f:=fun f=>by
   have hn:=hb.no6 rfl;simp only[B2,Ek,hb.mn,tc0,tc1,hn.1,hn.2];rfl
  rwa[show Ek h.typ.toNat h.name h.link h.size h.mode h.uid h.gid h.un h.gn h.ms 0 0 0 0 h.maj h.min=B2 h (.map none) (.map none) from funext hrow] at this
 ·have ha:=hb.acc rfl;have hc:=hb.chg rfl
  have:=K5 hR w R pad curr blk err _ hi hs hz n h.typ h.size h.mode h.uid h.gid h.ms h.maj h.min (by rw[e];exact hh) (by rw[e];exact hb.fmt) (if h.hasA then some h.ats else none) (if h.hasC then some h.cts else none)
   (by rw[e];cases hA:h.hasA with
       |false=>rw[hA] at ha;exact ha
       |true=>rw[hA] at ha;exact⟨ha.1,ha.2.1,ha.2.2.1,ha.2.2.2.1⟩)
   (by rw[e];cases hA:h.hasC with
       |false=>rw[hA] at hc;exact hc
       |true=>rw[hA] at hc;exact⟨hc.1,hc.2.1,hc.2.2.1,hc.2.2.2.1⟩)
  rw[e,e2,hb.name8 rfl,hb.link,hb.un,hb.gn] at this;have hrow:∀f,Ek h.typ.toNat h.name h.link h.size h.mode h.uid h.gid h.un h.gn h.ms 0 (gtv (if h.hasA then some h.ats else none)) 0 (gtv (if h.hasC then some h.cts else none)) h.maj h.min f=B2 h (.map none) (.map none) f:=fun f=>by
   simp only[B2,Ek,hb.mn,tc0,tc1];cases hA:h.hasA<;>cases hC:h.hasC<;>rw[hA] at ha<;>rw[hC] at hc
   ·rfl
   ·have:=hc.2.2.2.2;simp[gtv,this,B5]
   ·have:=ha.2.2.2.2;simp[gtv,this,B5]
   ·have h1:=ha.2.2.2.2;have h2:=hc.2.2.2.2;simp[gtv,h1,h2,B5]
  rwa[show Ek h.typ.toNat h.name h.link h.size h.mode h.uid h.gid h.un h.gn h.ms 0 (gtv (if h.hasA then some h.ats else none)) 0 (gtv (if h.hasC then some h.cts else none)) h.maj h.min=B2 h (.map none) (.map none) from funext hrow] at this
end
end Go.Proofs.YtgfcnjfmmjcodaaGreatDoor
