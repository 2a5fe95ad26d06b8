/- Contracts of Go's library out of the shelf, laid at this dum. -/
import Derived.Shelf.LaysC
import Derived.Shelf.Strconv.ParseIntPublic10
import Derived.Shelf.Strings.Prefix
import Derived.Lib.ParseIntB
import Derived.Test.YtgfcnjfmmjcodaaGreatDoorP02
set_option linter.all false
set_option maxRecDepth 100000
set_option maxHeartbeats 1000000
open Go.Lib (hid)
section
namespace Go.Proofs
open Go.Shelf
def Tryz.laysC174_ren:Go.Shelf.Ren:=⟨fun|174=>218|247=>262|245=>263|287=>297|279=>298|280=>299|281=>300|282=>301|321=>334|322=>335|316=>336|171=>251|205=>142|243=>288|246=>233|283=>279|284=>280|285=>281|286=>282|129=>309|317=>308|318=>310|319=>311|320=>312|337=>340|338=>341|n=>n,fun|9=>9|3=>3|2=>2|75=>90|85=>297|4=>4|167=>385|5=>5|53=>161|175=>381|46=>243|168=>386|37=>27|0=>0|210=>421|21=>21|127=>342|145=>329|143=>327|171=>361|173=>364|212=>395|51=>392|20=>20|213=>396|232=>436|233=>437|80=>282|n=>n,fun|15=>12|16=>13|17=>11|18=>17|19=>18|n=>n⟩
theorem Tryz.laysC174:Go.Proofs.LaysC.n174 Tryz.prog Tryz.laysC174_ren:={
 mixed:=by kernel_rfl
 f129:=Tryz.func309.trans (congrArg some (by kernel_rfl))
 f171:=Tryz.func251.trans (congrArg some (by kernel_rfl))
 f174:=Tryz.func218.trans (congrArg some (by kernel_rfl))
 f205:=Tryz.func142.trans (congrArg some (by kernel_rfl))
 f243:=Tryz.func288.trans (congrArg some (by kernel_rfl))
 f245:=Tryz.func263.trans (congrArg some (by kernel_rfl))
 f246:=Tryz.func233.trans (congrArg some (by kernel_rfl))
 f247:=Tryz.func262.trans (congrArg some (by kernel_rfl))
 f279:=Tryz.func298.trans (congrArg some (by kernel_rfl))
 f280:=Tryz.func299.trans (congrArg some (by kernel_rfl))
 f281:=Tryz.func300.trans (congrArg some (by kernel_rfl))
 f282:=Tryz.func301.trans (congrArg some (by kernel_rfl))
 f283:=Tryz.func279.trans (congrArg some (by kernel_rfl))
 f284:=Tryz.func280.trans (congrArg some (by kernel_rfl))
 f285:=Tryz.func281.trans (congrArg some (by kernel_rfl))
 f286:=Tryz.func282.trans (congrArg some (by kernel_rfl))
 f287:=Tryz.func297.trans (congrArg some (by kernel_rfl))
 f316:=Tryz.func336.trans (congrArg some (by kernel_rfl))
 f317:=Tryz.func308.trans (congrArg some (by kernel_rfl))
 f318:=Tryz.func310.trans (congrArg some (by kernel_rfl))
 f319:=Tryz.func311.trans (congrArg some (by kernel_rfl))
 f320:=Tryz.func312.trans (congrArg some (by kernel_rfl))
 f321:=Tryz.func334.trans (congrArg some (by kernel_rfl))
 f322:=Tryz.func335.trans (congrArg some (by kernel_rfl))
 f337:=Tryz.func340.trans (congrArg some (by kernel_rfl))
 f338:=Tryz.func341.trans (congrArg some (by kernel_rfl))
 t0:=Tryz.underlying0
 a0:=Tryz.isAgg0
 z0:=Tryz.sizeOf0
 v0:=Tryz.zeroValue0
 t2:=Tryz.underlying2
 a2:=Tryz.isAgg2
 z2:=Tryz.sizeOf2
 v2:=Tryz.zeroValue2
 t3:=Tryz.underlying3
 a3:=Tryz.isAgg3
 z3:=Tryz.sizeOf3
 v3:=Tryz.zeroValue3
 t4:=Tryz.underlying4
 a4:=Tryz.isAgg4
 z4:=Tryz.sizeOf4
 v4:=Tryz.zeroValue4
 t5:=Tryz.underlying5
 a5:=Tryz.isAgg5
 z5:=Tryz.sizeOf5
 v5:=Tryz.zeroValue5
 t9:=Tryz.underlying9
 a9:=Tryz.isAgg9
 z9:=Tryz.sizeOf9
 v9:=Tryz.zeroValue9
 t20:=Tryz.underlying20
 a20:=Tryz.isAgg20
 z20:=Tryz.sizeOf20
 v20:=Tryz.zeroValue20
 t21:=Tryz.underlying21
 a21:=Tryz.isAgg21
 z21:=Tryz.sizeOf21
 v21:=Tryz.zeroValue21
 t37:=Tryz.underlying27
 a37:=Tryz.isAgg27
 z37:=Tryz.sizeOf27
 v37:=Tryz.zeroValue27
 t46:=Tryz.underlying243
 a46:=Tryz.isAgg243
 z46:=Tryz.sizeOf243
 v46:=Tryz.zeroValue243
 t51:=Tryz.underlying392
 a51:=Tryz.isAgg392
 z51:=Tryz.sizeOf392
 v51:=Tryz.zeroValue392
 t53:=Tryz.underlying161
 a53:=Tryz.isAgg161
 z53:=Tryz.sizeOf161
 v53:=Tryz.zeroValue161
 t75:=Tryz.underlying90
 a75:=Tryz.isAgg90
 z75:=Tryz.sizeOf90
 v75:=Tryz.zeroValue90
 t85:=Tryz.underlying297
 a85:=Tryz.isAgg297
 z85:=Tryz.sizeOf297
 v85:=Tryz.zeroValue297
 t127:=Tryz.underlying342
 a127:=Tryz.isAgg342
 z127:=Tryz.sizeOf342
 v127:=Tryz.zeroValue342
 t143:=Tryz.underlying327
 a143:=Tryz.isAgg327
 z143:=Tryz.sizeOf327
 v143:=Tryz.zeroValue327
 t145:=Tryz.underlying329
 a145:=Tryz.isAgg329
 z145:=Tryz.sizeOf329
 v145:=Tryz.zeroValue329
 t167:=Tryz.underlying385
 a167:=Tryz.isAgg385
 z167:=Tryz.sizeOf385
 v167:=Tryz.zeroValue385
 t168:=Tryz.underlying386
 a168:=Tryz.isAgg386
 z168:=Tryz.sizeOf386
 v168:=Tryz.zeroValue386
 t171:=Tryz.underlying361
 a171:=Tryz.isAgg361
 z171:=Tryz.sizeOf361
 v171:=Tryz.zeroValue361
 t173:=Tryz.underlying364
 a173:=Tryz.isAgg364
 z173:=Tryz.sizeOf364
 v173:=Tryz.zeroValue364
 t175:=Tryz.underlying381
 a175:=Tryz.isAgg381
 z175:=Tryz.sizeOf381
 v175:=Tryz.zeroValue381
 t210:=Tryz.underlying421
 a210:=Tryz.isAgg421
 z210:=Tryz.sizeOf421
 v210:=Tryz.zeroValue421
 t212:=Tryz.underlying395
 a212:=Tryz.isAgg395
 z212:=Tryz.sizeOf395
 v212:=Tryz.zeroValue395
 t213:=Tryz.underlying396
 a213:=Tryz.isAgg396
 z213:=Tryz.sizeOf396
 t232:=Tryz.underlying436
 a232:=Tryz.isAgg436
 z232:=Tryz.sizeOf436
 v232:=Tryz.zeroValue436
 t233:=Tryz.underlying437
 a233:=Tryz.isAgg437
 z233:=Tryz.sizeOf437
 v233:=Tryz.zeroValue437
 g15:=by kernel_rfl
 g16:=by kernel_rfl
 g17:=by kernel_rfl
 g18:=by kernel_rfl
 g19:=by kernel_rfl
 t80:=Tryz.underlying282
 a80:=Tryz.isAgg282
 z80:=Tryz.sizeOf282
 v80:=Tryz.zeroValue282
 i0:=by kernel_rfl
 i2:=by kernel_rfl
 i3:=by kernel_rfl
 i4:=by kernel_rfl
 i5:=by kernel_rfl
 i9:=by kernel_rfl
 i20:=by kernel_rfl
 i21:=by kernel_rfl
 i37:=by kernel_rfl
 i46:=by kernel_rfl
 i51:=by kernel_rfl
 i53:=by kernel_rfl
 i75:=by kernel_rfl
 i80:=by kernel_rfl
 i85:=by kernel_rfl
 i127:=by kernel_rfl
 i143:=by kernel_rfl
 i145:=by kernel_rfl
 i167:=by kernel_rfl
 i168:=by kernel_rfl
 i171:=by kernel_rfl
 i173:=by kernel_rfl
 i175:=by kernel_rfl
 i210:=by kernel_rfl
 i212:=by kernel_rfl
 i232:=by kernel_rfl
 i233:=by kernel_rfl
 m15:=by kernel_rfl
 m16:=by kernel_rfl
 m17:=by kernel_rfl
 m18:=by kernel_rfl
 m19:=by kernel_rfl
 c0:=by kernel_rfl
 c2:=by kernel_rfl
 c3:=by kernel_rfl
 c4:=by kernel_rfl
 c5:=by kernel_rfl
 c9:=by kernel_rfl
 c20:=by kernel_rfl
 c21:=by kernel_rfl
 c37:=by kernel_rfl
 c46:=by kernel_rfl
 c51:=by kernel_rfl
 c53:=by kernel_rfl
 c75:=by kernel_rfl
 c80:=by kernel_rfl
 c85:=by kernel_rfl
 c127:=by kernel_rfl
 c143:=by kernel_rfl
 c145:=by kernel_rfl
 c167:=by kernel_rfl
 c168:=by kernel_rfl
 c171:=by kernel_rfl
 c173:=by kernel_rfl
 c175:=by kernel_rfl
 c210:=by kernel_rfl
 c212:=by kernel_rfl
 c213:=by kernel_rfl
 c232:=by kernel_rfl
 c233:=by kernel_rfl}
open Go.RowKit in
theorem Tryz.strconv_ParseInt_10_at0_ok (s:ByteArray)(hmax:s.size≤9223372036854775806)(v:Int)(h:Lib.parseIntB 64 s.data.toList=.ok v)(w:World) :
  Calls Tryz.prog 218 #[.string s, .int .i64 10, .int .i64 0] w fun e w'=>e=.returned (.tuple #[.int .i64 v, .nilIface])∧(w'=w∨∃t,w'=Lib.bytesWorld w 5 t):=Any.strconv_ParseInt_10_at0_ok Tryz.laysC174 s hmax v h w
open Go.RowKit in
theorem Tryz.strconv_ParseInt_10_at64_ok (s:ByteArray)(hmax:s.size≤9223372036854775806)(v:Int)(h:Lib.parseIntB 64 s.data.toList=.ok v)(w:World) :
  Calls Tryz.prog 218 #[.string s, .int .i64 10, .int .i64 64] w fun e w'=>e=.returned (.tuple #[.int .i64 v, .nilIface])∧(w'=w∨∃t,w'=Lib.bytesWorld w 5 t):=Any.strconv_ParseInt_10_at64_ok Tryz.laysC174 s hmax v h w
def Tryz.lays99_ren:Go.Shelf.Ren:=⟨fun|99=>177|206=>236|n=>n,fun|9=>9|4=>4|3=>3|n=>n,fun|n=>n⟩
theorem Tryz.lays99:Go.Proofs.Lays.n99 Tryz.prog Tryz.lays99_ren:={
 mixed:=by kernel_rfl
 f99:=Tryz.func177.trans (congrArg some (by kernel_rfl))
 f206:=Tryz.func236.trans (congrArg some (by kernel_rfl))
 t3:=Tryz.underlying3
 a3:=Tryz.isAgg3
 z3:=Tryz.sizeOf3
 v3:=Tryz.zeroValue3
 t4:=Tryz.underlying4
 a4:=Tryz.isAgg4
 z4:=Tryz.sizeOf4
 v4:=Tryz.zeroValue4
 t9:=Tryz.underlying9
 a9:=Tryz.isAgg9
 z9:=Tryz.sizeOf9
 v9:=Tryz.zeroValue9}
open Go.RowKit Go.Lib in
theorem Tryz.strings_HasPrefix (s p:ByteArray)(w:World) :
  Calls Tryz.prog 177 #[.string s, .string p] w fun e w'=>e=.returned (.bool (Lib.hasPrefix s.data.toList p.data.toList))∧w'=w:=Any.strings_HasPrefix Tryz.lays99 s p w
end Go.Proofs
namespace Go.Proofs.YtgfcnjfmmjcodaaGreatDoor
open Go Go.RowKit
theorem Xw (w:World)(s:ByteArray)(v:Int)(hs:s.size≤281474976710656)(h:Lib.parseIntB 64 s.data.toList=.ok v) :
  Calls Tryz.prog 218 #[.string s, .int .i64 10, .int .i64 0] w fun e w'=>e=.returned (.tuple #[.int .i64 v, .nilIface])∧Kp (fun _=>False) w w':=
 (Tryz.strconv_ParseInt_10_at0_ok s (by omega) v h w).mono fun e w' ⟨h1,h2⟩=>⟨h1,by
  rcases h2 with rfl|⟨t,rfl⟩
  ·exact Kp.refl _ _
  ·exact Kp.bytes w t⟩
theorem Dm (w:World)(s:ByteArray)(v:Int)(hs:s.size≤281474976710656)(h:Lib.parseIntB 64 s.data.toList=.ok v) :
  Calls Tryz.prog 218 #[.string s, .int .i64 10, .int .i64 64] w fun e w'=>e=.returned (.tuple #[.int .i64 v, .nilIface])∧Kp (fun _=>False) w w':=
 (Tryz.strconv_ParseInt_10_at64_ok s (by omega) v h w).mono fun e w' ⟨h1,h2⟩=>⟨h1,by
  rcases h2 with rfl|⟨t,rfl⟩
  ·exact Kp.refl _ _
  ·exact Kp.bytes w t⟩
end Go.Proofs.YtgfcnjfmmjcodaaGreatDoor
end
