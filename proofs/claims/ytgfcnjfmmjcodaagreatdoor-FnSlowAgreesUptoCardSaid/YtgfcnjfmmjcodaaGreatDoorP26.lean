/- One operation of a drawn region that is the only one to come. -/
import Derived.Deep.RegionHeld3
import Derived.Test.YtgfcnjfmmjcodaaGreatDoorP01
set_option linter.all false
set_option maxRecDepth 100000
set_option maxHeartbeats 1000000
open Go.Lib (hid)
namespace Go.Proofs.YtgfcnjfmmjcodaaGreatDoor
open Go
theorem Yl {P:Program}{ops:Array Oper}{Q:Exit→Act→World→Prop}{md:Region.Mode}{S:World→Prop}{i:Nat}{v:Value}{o:Oper}{fuel:Nat}{listed:Array Bool}{a:Act}{w:World}
  (ho:ops[i]?=some o) (hr:Region.ready md ops listed=[i]) (hS:S w)
  (h:(Region.wanted o (yielded ops a.tmps)=false∧v=undef)∨(Region.wanted o (yielded ops a.tmps)=true∧∀K:Act→World→Prop,Shut (∀w',S w'→K (a.put o.dst v) w')→Oper.wp P o a w K Q))
  (hrest:∀w',S w'→wpAnyH P md ops Q S fuel (listed.setIfInBounds i true) (a.put o.dst v) w'):wpAnyH P md ops Q S (fuel+1) listed a w:=
 wpAnyH_ready hr (by simp) (AllReadyH.cons ho (fun K hK=>by
  have HK:∀w',S w'→K (a.put o.dst v) w':=fun w' h=>hK _ _ h (fun _=>hrest w' h)
  rcases h with ⟨h1,rfl⟩|⟨h1,h2⟩
  ·rw[if_neg (by rw[h1];simp)];exact HK w hS
  ·rw[if_pos h1];exact h2 K HK) AllReadyH.nil)
theorem Bc8 {K:Act→World→Prop}{a b:Act}{w:World}(h:K a w)(e:a=b):K b w:=e▸h
end Go.Proofs.YtgfcnjfmmjcodaaGreatDoor
