/- readHeader in one law. -/
import Derived.Test.YtgfcnjfmmjcodaaGreatDoorN13
import Derived.Test.YtgfcnjfmmjcodaaGreatDoorN14
set_option linter.all false
set_option maxRecDepth 100000
set_option maxHeartbeats 1000000
open Go.Lib (hid)
namespace Go.Proofs.YtgfcnjfmmjcodaaGreatDoor
open Go Go.RowKit
section
variable {E:Nat→Addr} {B:Nat} {T:TypeId} {v:Value} {S:Nat→Prop} {inv:World→Nat→List UInt8→Prop} (hR:IsRd E B T v S inv)
include hR
theorem readHeader_fail (w:World)(R:Nat)(pad:Int)(curr:Value)(blk:List Value)(err:Value)(rest:List UInt8)(hi:RhIn E B T v S inv R pad curr blk err rest w)(g:Nat)(h:RhFail rest g) :
  Calls Tryz.prog 127 #[.pointer (some ⟨R,0,none⟩)] w (RhErr S R (errv (E g)) w):=by
 cases h with
 |none=>exact readHeader_short hR w R pad curr blk err [] hi (by simp)
 |short l h0 h1=>
  have:=readHeader_short hR w R pad curr blk err _ hi h1
  rwa[if_neg (by omega)] at this
 |zshort k h0 h1=>
  have:=readHeader_zshort hR w R pad curr blk err _ hi (by simpa using h0) (by rw[List.take_replicate];congr 1;omega) (by simpa using h1)
  rw[List.length_replicate] at this
  by_cases e:k=512
  ·rw[if_pos e] at this;rw[if_pos e];exact this
  ·rw[if_neg e] at this;rw[if_neg e];exact this
 |zz r=>
  have hl:(List.replicate 1024 (0:UInt8)).length=1024:=List.length_replicate
  refine readHeader_zz hR w R pad curr blk err _ hi (by rw[List.length_append,hl];omega) ?_ ?_
  ·rw[List.take_append_of_le_length (by rw[hl];omega),List.take_replicate];rfl
  ·rw[List.drop_append_of_le_length (by rw[hl];omega),List.drop_replicate,List.take_append_of_le_length (by rw[List.length_replicate];omega),List.take_replicate];rfl
 |bad l r n hl ho hb hz=>
  obtain⟨o⟩:=ho
  have e:(l++r).take 512=l:=by rw[←hl,List.take_left'];rfl
  refine readHeader_bad hR w R pad curr blk err _ hi (by rw[List.length_append];omega) (by rw[e,beq_eq_false_iff_ne];exact hz) n (by rw[e];exact o) (by rw[e];exact hb)
theorem readHeader_rd (w:World)(R:Nat)(pad:Int)(curr:Value)(blk:List Value)(err:Value)(l rest:List UInt8)(hl:l.length=512)(hi:RhIn E B T v S inv R pad curr blk err (l++rest) w)(h:Hd)(fm:Int)(hb:BlkRd h fm l) :
  Calls Tryz.prog 127 #[.pointer (some ⟨R,0,none⟩)] w (RhGood E B T v S inv R pad curr l err rest w (hRow h (.map none) (.map none))):=by
 obtain⟨n,hh⟩:=hb.blk
 have e:(l++rest).take 512=l:=by rw[←hl,List.take_left'];rfl
 have e2:(l++rest).drop 512=rest:=by rw[←hl,List.drop_left'];rfl
 have hs:512≤(l++rest).length:=by rw[List.length_append];omega
 have hz:((l++rest).take 512==zblk)=false:=by rw[e];exact hh.not_zero
 rcases hb.fm6 with rfl|rfl
 ·have:=readHeader_good6 hR w R pad curr blk err _ hi hs hz n h.typ h.size h.mode h.uid h.gid h.ms h.maj h.min (by rw[e];exact hh) (by rw[e];exact hb.fmt)
  rw[e,e2,hb.name rfl,hb.link,hb.un,hb.gn] at this
  have hrow:∀f,hdRow h.typ.toNat h.name h.link h.size h.mode h.uid h.gid h.un h.gn h.ms 0 0 0 0 h.maj h.min f=hRow h (.map none) (.map none) f:=fun f=>by
   have hn:=hb.no6 rfl
   simp only[hRow,hdRow,hb.mn,tc0,tc1,hn.1,hn.2]
   rfl
  rwa[show hdRow h.typ.toNat h.name h.link h.size h.mode h.uid h.gid h.un h.gn h.ms 0 0 0 0 h.maj h.min=hRow h (.map none) (.map none) from funext hrow] at this
 ·have ha:=hb.acc rfl
  have hc:=hb.chg rfl
  have:=readHeader_good8 hR w R pad curr blk err _ hi hs hz n h.typ h.size h.mode h.uid h.gid h.ms h.maj h.min (by rw[e];exact hh) (by rw[e];exact hb.fmt) (if h.hasA then some h.ats else none) (if h.hasC then some h.cts else none)
   (by rw[e];cases hA:h.hasA with
       |false=>rw[hA] at ha;exact ha
       |true=>rw[hA] at ha;exact⟨ha.1,ha.2.1,ha.2.2.1,ha.2.2.2.1⟩)
   (by rw[e];cases hA:h.hasC with
       |false=>rw[hA] at hc;exact hc
       |true=>rw[hA] at hc;exact⟨hc.1,hc.2.1,hc.2.2.1,hc.2.2.2.1⟩)
  rw[e,e2,hb.name8 rfl,hb.link,hb.un,hb.gn] at this
  have hrow:∀f,hdRow h.typ.toNat h.name h.link h.size h.mode h.uid h.gid h.un h.gn h.ms 0 (gtv (if h.hasA then some h.ats else none)) 0 (gtv (if h.hasC then some h.cts else none)) h.maj h.min f=hRow h (.map none) (.map none) f:=fun f=>by
   simp only[hRow,hdRow,hb.mn,tc0,tc1]
   cases hA:h.hasA<;>cases hC:h.hasC<;>rw[hA] at ha<;>rw[hC] at hc
   ·rfl
   ·have:=hc.2.2.2.2;simp[gtv,this,strv]
   ·have:=ha.2.2.2.2;simp[gtv,this,strv]
   ·have h1:=ha.2.2.2.2;have h2:=hc.2.2.2.2;simp[gtv,h1,h2,strv]
  rwa[show hdRow h.typ.toNat h.name h.link h.size h.mode h.uid h.gid h.un h.gn h.ms 0 (gtv (if h.hasA then some h.ats else none)) 0 (gtv (if h.hasC then some h.cts else none)) h.maj h.min=hRow h (.map none) (.map none) from funext hrow] at this
end
end Go.Proofs.YtgfcnjfmmjcodaaGreatDoor
