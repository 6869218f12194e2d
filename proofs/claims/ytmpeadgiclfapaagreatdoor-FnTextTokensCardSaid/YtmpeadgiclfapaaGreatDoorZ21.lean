/- Part 19 of the proof (ShP, ShT, ShJ). Conditions: each theorem's own. -/
import Derived.Test.YtmpeadgiclfapaaGreatDoorZ1
import Derived.Shelf.Strings.Builder1
import Derived.Shelf.Strings.Builder2
import Derived.Shelf.Strings.OnBuilder
import Derived.Shelf.Strings.BuilderF
import Derived.Shelf.Strconv.ParseIntEmpty
import Derived.Shelf.LaysM
import Derived.Shelf.Strconv.Clone
import Derived.Shelf.Strconv.SyntaxError
import Derived.Shelf.LaysC
import Derived.Shelf.Strconv.ToError
import Derived.Shelf.Strconv.Lower
import Derived.Shelf.Strconv.ParseUint10
import Derived.Shelf.Strconv.ParseUint10Empty
import Derived.Shelf.Strconv.ParseUint10Any
import Derived.Shelf.Strconv.ParseInt10
import Derived.Shelf.Strconv.RangeError
import Derived.Shelf.Strconv.ToErrorRange
import Derived.Shelf.Strconv.ParseUintEmpty
import Derived.Shelf.Strconv.ParseUint10b64
import Derived.Shelf.Strconv.ParseUint10b32
import Derived.Shelf.Strconv.ParseUint10b16
import Derived.Shelf.Strconv.ParseUint10b8
import Derived.Shelf.Strconv.ParseUint10At
import Derived.Shelf.Strconv.ParseInt10At64
import Derived.Shelf.Strconv.ParseInt10At32
import Derived.Shelf.Strconv.ParseInt10At16
import Derived.Shelf.Strconv.ParseInt10At8
import Derived.Shelf.Strconv.ParseInt10All
import Derived.Shelf.Strconv.ParseIntPublic10
import Derived.Shelf.Strconv.ErrVarParseInt
import Derived.Shelf.Bytes.SlIndexAt
import Derived.Shelf.Bytes.SlSearch0
import Derived.Shelf.Bytes.IndexByte
set_option linter.all false
set_option maxHeartbeats 0
set_option maxRecDepth 100000
namespace Go.Proofs.YtmpeadgiclfapaaGreatDoor
section
open Shelf
def Tryz.adZ:Go.Shelf.Ren:=⟨fun|245=>85|279=>96|280=>97|281=>98|282=>99|316=>113|171=>115|205=>114|243=>126|246=>131|283=>132|284=>133|285=>134|286=>135|129=>137|317=>136|318=>138|319=>139|320=>140|337=>141|338=>142|n=>n,fun|9=>9|3=>3|75=>49|167=>104|4=>4|168=>109|210=>125|37=>22|0=>0|127=>139|145=>143|143=>141|2=>2|171=>148|53=>105|5=>5|173=>151|212=>155|51=>156|20=>20|213=>157|46=>108|232=>161|233=>162|80=>60|n=>n,fun|15=>2|16=>3|17=>6|18=>7|19=>8|n=>n⟩
theorem Tryz.U1:Go.Proofs.LaysC.n245 Tryz.prog Tryz.adZ:={
 mixed:=by kernel_rfl
 f129:=Tryz.func137.trans (congrArg some aM)
 f171:=Tryz.func115.trans (congrArg some aM)
 f205:=Tryz.func114.trans (congrArg some aM)
 f243:=Tryz.func126.trans (congrArg some aM)
 f245:=Tryz.func85.trans (congrArg some aM)
 f246:=Tryz.func131.trans (congrArg some aM)
 f279:=Tryz.func96.trans (congrArg some aM)
 f280:=Tryz.func97.trans (congrArg some aM)
 f281:=Tryz.func98.trans (congrArg some aM)
 f282:=Tryz.func99.trans (congrArg some aM)
 f283:=Tryz.func132.trans (congrArg some aM)
 f284:=Tryz.func133.trans (congrArg some aM)
 f285:=Tryz.func134.trans (congrArg some aM)
 f286:=Tryz.func135.trans (congrArg some aM)
 f316:=Tryz.func113.trans (congrArg some aM)
 f317:=Tryz.func136.trans (congrArg some aM)
 f318:=Tryz.func138.trans (congrArg some aM)
 f319:=Tryz.func139.trans (congrArg some aM)
 f320:=Tryz.func140.trans (congrArg some aM)
 f337:=Tryz.func141.trans (congrArg some aM)
 f338:=Tryz.func142.trans (congrArg some aM)
 t0:=Tryz.underlying0
 a0:=Tryz.isAgg0
 z0:=Tryz.sizeOf0
 v0:=Tryz.zeroValue0
 t2:=Tryz.underlying2
 a2:=Tryz.isAgg2
 z2:=Tryz.sizeOf2
 v2:=Tryz.zeroValue2
 t3:=Tryz.underlying3
 a3:=Tryz.isAgg3
 z3:=Tryz.sizeOf3
 v3:=Tryz.zeroValue3
 t4:=Tryz.underlying4
 a4:=Tryz.isAgg4
 z4:=Tryz.sizeOf4
 v4:=Tryz.zeroValue4
 t5:=Tryz.underlying5
 a5:=Tryz.isAgg5
 z5:=Tryz.sizeOf5
 v5:=Tryz.zeroValue5
 t9:=Tryz.underlying9
 a9:=Tryz.isAgg9
 z9:=Tryz.sizeOf9
 v9:=Tryz.zeroValue9
 t20:=Tryz.underlying20
 a20:=Tryz.isAgg20
 z20:=Tryz.sizeOf20
 v20:=Tryz.zeroValue20
 t37:=Tryz.underlying22
 a37:=Tryz.isAgg22
 z37:=Tryz.sizeOf22
 v37:=Tryz.zeroValue22
 t46:=Tryz.underlying108
 a46:=Tryz.isAgg108
 z46:=Tryz.sizeOf108
 v46:=Tryz.zeroValue108
 t51:=Tryz.underlying156
 a51:=Tryz.isAgg156
 z51:=Tryz.sizeOf156
 v51:=Tryz.zeroValue156
 t53:=Tryz.underlying105
 a53:=Tryz.isAgg105
 z53:=Tryz.sizeOf105
 v53:=Tryz.zeroValue105
 t75:=Tryz.underlying49
 a75:=Tryz.isAgg49
 z75:=Tryz.sizeOf49
 v75:=Tryz.zeroValue49
 t127:=Tryz.underlying139
 a127:=Tryz.isAgg139
 z127:=Tryz.sizeOf139
 v127:=Tryz.zeroValue139
 t143:=Tryz.underlying141
 a143:=Tryz.isAgg141
 z143:=Tryz.sizeOf141
 v143:=Tryz.zeroValue141
 t145:=Tryz.underlying143
 a145:=Tryz.isAgg143
 z145:=Tryz.sizeOf143
 v145:=Tryz.zeroValue143
 t167:=Tryz.underlying104
 a167:=Tryz.isAgg104
 z167:=Tryz.sizeOf104
 v167:=Tryz.zeroValue104
 t168:=Tryz.underlying109
 a168:=Tryz.isAgg109
 z168:=Tryz.sizeOf109
 v168:=Tryz.zeroValue109
 t171:=Tryz.underlying148
 a171:=Tryz.isAgg148
 z171:=Tryz.sizeOf148
 v171:=Tryz.zeroValue148
 t173:=Tryz.underlying151
 a173:=Tryz.isAgg151
 z173:=Tryz.sizeOf151
 v173:=Tryz.zeroValue151
 t210:=Tryz.underlying125
 a210:=Tryz.isAgg125
 z210:=Tryz.sizeOf125
 v210:=Tryz.zeroValue125
 t212:=Tryz.underlying155
 a212:=Tryz.isAgg155
 z212:=Tryz.sizeOf155
 v212:=Tryz.zeroValue155
 t213:=Tryz.underlying157
 a213:=Tryz.isAgg157
 z213:=Tryz.sizeOf157
 t232:=Tryz.underlying161
 a232:=Tryz.isAgg161
 z232:=Tryz.sizeOf161
 v232:=Tryz.zeroValue161
 t233:=Tryz.underlying162
 a233:=Tryz.isAgg162
 z233:=Tryz.sizeOf162
 v233:=Tryz.zeroValue162
 g15:=by kernel_rfl
 g16:=by kernel_rfl
 g17:=by kernel_rfl
 g18:=by kernel_rfl
 g19:=by kernel_rfl
 t80:=Tryz.underlying60
 a80:=Tryz.isAgg60
 z80:=Tryz.sizeOf60
 v80:=Tryz.zeroValue60
 i0:=by kernel_rfl
 i2:=by kernel_rfl
 i3:=by kernel_rfl
 i4:=by kernel_rfl
 i5:=by kernel_rfl
 i9:=by kernel_rfl
 i20:=by kernel_rfl
 i37:=by kernel_rfl
 i46:=by kernel_rfl
 i51:=by kernel_rfl
 i53:=by kernel_rfl
 i75:=by kernel_rfl
 i80:=by kernel_rfl
 i127:=by kernel_rfl
 i143:=by kernel_rfl
 i145:=by kernel_rfl
 i167:=by kernel_rfl
 i168:=by kernel_rfl
 i171:=by kernel_rfl
 i173:=by kernel_rfl
 i210:=by kernel_rfl
 i212:=by kernel_rfl
 i232:=by kernel_rfl
 i233:=by kernel_rfl
 m15:=by kernel_rfl
 m16:=by kernel_rfl
 m17:=by kernel_rfl
 m18:=by kernel_rfl
 m19:=by kernel_rfl
 c0:=by kernel_rfl
 c2:=by kernel_rfl
 c3:=by kernel_rfl
 c4:=by kernel_rfl
 c5:=by kernel_rfl
 c9:=by kernel_rfl
 c20:=by kernel_rfl
 c37:=by kernel_rfl
 c46:=by kernel_rfl
 c51:=by kernel_rfl
 c53:=by kernel_rfl
 c75:=by kernel_rfl
 c80:=by kernel_rfl
 c127:=by kernel_rfl
 c143:=by kernel_rfl
 c145:=by kernel_rfl
 c167:=by kernel_rfl
 c168:=by kernel_rfl
 c171:=by kernel_rfl
 c173:=by kernel_rfl
 c210:=by kernel_rfl
 c212:=by kernel_rfl
 c213:=by kernel_rfl
 c232:=by kernel_rfl
 c233:=by kernel_rfl}
open Go.RowKit in
theorem Tryz.strconv_toError_syntax(fn s:ByteArray)(base bits:Int)(oO:Value)(w:World)(Dw:s.size≤281474976710656)(aZ:w.cell? ⟨2,0,none⟩=some oO)(Dx:oO=.nilIface∨∃yZ j5,oO=.iface yZ j5):
 Calls Tryz.prog 85 #[.string fn,.string s,.int .i64 base,.int .i64 bits,.iface 104 (.int .i64 2)] w fun e w'=>∃N,e=.returned (.iface 109 (.pointer (some ⟨N,0,none⟩)))∧w.heap.size≤N∧w'.heap[N]?=some (.cells #[.string fn,.string s,oO] 125 (0,0))∧Below w.heap.size w w':=Any.strconv_toError_syntax Tryz.U1 fn s base bits oO w Dw aZ Dx
def Tryz.ad0:Go.Shelf.Ren:=⟨fun|321=>111|n=>n,fun|5=>5|n=>n,fun|n=>n⟩
theorem Tryz.ad1:Go.Proofs.Lays.n321 Tryz.prog Tryz.ad0:={
 mixed:=by kernel_rfl
 f321:=Tryz.func111.trans (congrArg some aM)
 t5:=Tryz.underlying5
 a5:=Tryz.isAgg5
 z5:=Tryz.sizeOf5
 v5:=Tryz.zeroValue5}
open Go.RowKit in
theorem Tryz.internal_strconv_lower(c:Int)(w:World):
 Calls Tryz.prog 111 #[.int .u8 c] w fun e w'=>e=.returned (.int .u8 (bits .or .u8 c 32))∧w'=w:=Any.internal_strconv_lower Tryz.ad1 c w
def Tryz.ad2:Go.Shelf.Ren:=⟨fun|287=>95|321=>111|322=>112|n=>n,fun|9=>9|3=>3|53=>105|75=>49|4=>4|167=>104|5=>5|46=>108|37=>22|0=>0|21=>21|80=>60|n=>n,fun|n=>n⟩
theorem Tryz.ad3:Go.Proofs.Lays.n287 Tryz.prog Tryz.ad2:={
 mixed:=by kernel_rfl
 f287:=Tryz.func95.trans (congrArg some aM)
 f321:=Tryz.func111.trans (congrArg some aM)
 f322:=Tryz.func112.trans (congrArg some aM)
 t0:=Tryz.underlying0
 a0:=Tryz.isAgg0
 z0:=Tryz.sizeOf0
 v0:=Tryz.zeroValue0
 t3:=Tryz.underlying3
 a3:=Tryz.isAgg3
 z3:=Tryz.sizeOf3
 v3:=Tryz.zeroValue3
 t4:=Tryz.underlying4
 a4:=Tryz.isAgg4
 z4:=Tryz.sizeOf4
 v4:=Tryz.zeroValue4
 t5:=Tryz.underlying5
 a5:=Tryz.isAgg5
 z5:=Tryz.sizeOf5
 v5:=Tryz.zeroValue5
 t9:=Tryz.underlying9
 a9:=Tryz.isAgg9
 z9:=Tryz.sizeOf9
 v9:=Tryz.zeroValue9
 t21:=Tryz.underlying21
 a21:=Tryz.isAgg21
 z21:=Tryz.sizeOf21
 v21:=Tryz.zeroValue21
 t37:=Tryz.underlying22
 a37:=Tryz.isAgg22
 z37:=Tryz.sizeOf22
 v37:=Tryz.zeroValue22
 t46:=Tryz.underlying108
 a46:=Tryz.isAgg108
 z46:=Tryz.sizeOf108
 v46:=Tryz.zeroValue108
 t53:=Tryz.underlying105
 a53:=Tryz.isAgg105
 z53:=Tryz.sizeOf105
 v53:=Tryz.zeroValue105
 t75:=Tryz.underlying49
 a75:=Tryz.isAgg49
 z75:=Tryz.sizeOf49
 v75:=Tryz.zeroValue49
 t167:=Tryz.underlying104
 a167:=Tryz.isAgg104
 z167:=Tryz.sizeOf104
 v167:=Tryz.zeroValue104}
open Go.RowKit in
theorem Tryz.strconv_toError_range(fn s:ByteArray)(base bits:Int)(oO:Value)(w:World)(Dw:s.size≤281474976710656)(aZ:w.cell? ⟨3,0,none⟩=some oO)(Dx:oO=.nilIface∨∃yZ j5,oO=.iface yZ j5):
 Calls Tryz.prog 85 #[.string fn,.string s,.int .i64 base,.int .i64 bits,.iface 104 (.int .i64 1)] w fun e w'=>∃N,e=.returned (.iface 109 (.pointer (some ⟨N,0,none⟩)))∧w.heap.size≤N∧w'.heap[N]?=some (.cells #[.string fn,.string s,oO] 125 (0,0))∧Below w.heap.size w w':=Any.strconv_toError_range Tryz.U1 fn s base bits oO w Dw aZ Dx
open Go.RowKit in
theorem Tryz.internal_strconv_ParseUint_empty(base bits:Int)(w:World):
 Calls Tryz.prog 95 #[.string ⟨#[]⟩,.int .i64 base,.int .i64 bits] w fun e w'=>e=.returned (.tuple #[.int .u64 0,.iface 104 (.int .i64 2)])∧w'=w:=Any.internal_strconv_ParseUint_empty Tryz.ad3 base bits w
def Tryz.ad4:Go.Shelf.Ren:=⟨fun|174=>63|247=>84|245=>85|287=>95|279=>96|280=>97|281=>98|282=>99|321=>111|322=>112|316=>113|171=>115|205=>114|243=>126|246=>131|283=>132|284=>133|285=>134|286=>135|129=>137|317=>136|318=>138|319=>139|320=>140|337=>141|338=>142|n=>n,fun|9=>9|3=>3|2=>2|75=>49|85=>78|4=>4|167=>104|5=>5|53=>105|175=>106|46=>108|168=>109|37=>22|0=>0|210=>125|21=>21|127=>139|145=>143|143=>141|171=>148|173=>151|212=>155|51=>156|20=>20|213=>157|232=>161|233=>162|80=>60|n=>n,fun|15=>2|16=>3|17=>6|18=>7|19=>8|n=>n⟩
theorem Tryz.U2:Go.Proofs.LaysC.n174 Tryz.prog Tryz.ad4:={
 mixed:=by kernel_rfl
 f129:=Tryz.func137.trans (congrArg some aM)
 f171:=Tryz.func115.trans (congrArg some aM)
 f174:=Tryz.func63.trans (congrArg some aM)
 f205:=Tryz.func114.trans (congrArg some aM)
 f243:=Tryz.func126.trans (congrArg some aM)
 f245:=Tryz.func85.trans (congrArg some aM)
 f246:=Tryz.func131.trans (congrArg some aM)
 f247:=Tryz.func84.trans (congrArg some aM)
 f279:=Tryz.func96.trans (congrArg some aM)
 f280:=Tryz.func97.trans (congrArg some aM)
 f281:=Tryz.func98.trans (congrArg some aM)
 f282:=Tryz.func99.trans (congrArg some aM)
 f283:=Tryz.func132.trans (congrArg some aM)
 f284:=Tryz.func133.trans (congrArg some aM)
 f285:=Tryz.func134.trans (congrArg some aM)
 f286:=Tryz.func135.trans (congrArg some aM)
 f287:=Tryz.func95.trans (congrArg some aM)
 f316:=Tryz.func113.trans (congrArg some aM)
 f317:=Tryz.func136.trans (congrArg some aM)
 f318:=Tryz.func138.trans (congrArg some aM)
 f319:=Tryz.func139.trans (congrArg some aM)
 f320:=Tryz.func140.trans (congrArg some aM)
 f321:=Tryz.func111.trans (congrArg some aM)
 f322:=Tryz.func112.trans (congrArg some aM)
 f337:=Tryz.func141.trans (congrArg some aM)
 f338:=Tryz.func142.trans (congrArg some aM)
 t0:=Tryz.underlying0
 a0:=Tryz.isAgg0
 z0:=Tryz.sizeOf0
 v0:=Tryz.zeroValue0
 t2:=Tryz.underlying2
 a2:=Tryz.isAgg2
 z2:=Tryz.sizeOf2
 v2:=Tryz.zeroValue2
 t3:=Tryz.underlying3
 a3:=Tryz.isAgg3
 z3:=Tryz.sizeOf3
 v3:=Tryz.zeroValue3
 t4:=Tryz.underlying4
 a4:=Tryz.isAgg4
 z4:=Tryz.sizeOf4
 v4:=Tryz.zeroValue4
 t5:=Tryz.underlying5
 a5:=Tryz.isAgg5
 z5:=Tryz.sizeOf5
 v5:=Tryz.zeroValue5
 t9:=Tryz.underlying9
 a9:=Tryz.isAgg9
 z9:=Tryz.sizeOf9
 v9:=Tryz.zeroValue9
 t20:=Tryz.underlying20
 a20:=Tryz.isAgg20
 z20:=Tryz.sizeOf20
 v20:=Tryz.zeroValue20
 t21:=Tryz.underlying21
 a21:=Tryz.isAgg21
 z21:=Tryz.sizeOf21
 v21:=Tryz.zeroValue21
 t37:=Tryz.underlying22
 a37:=Tryz.isAgg22
 z37:=Tryz.sizeOf22
 v37:=Tryz.zeroValue22
 t46:=Tryz.underlying108
 a46:=Tryz.isAgg108
 z46:=Tryz.sizeOf108
 v46:=Tryz.zeroValue108
 t51:=Tryz.underlying156
 a51:=Tryz.isAgg156
 z51:=Tryz.sizeOf156
 v51:=Tryz.zeroValue156
 t53:=Tryz.underlying105
 a53:=Tryz.isAgg105
 z53:=Tryz.sizeOf105
 v53:=Tryz.zeroValue105
 t75:=Tryz.underlying49
 a75:=Tryz.isAgg49
 z75:=Tryz.sizeOf49
 v75:=Tryz.zeroValue49
 t85:=Tryz.underlying78
 a85:=Tryz.isAgg78
 z85:=Tryz.sizeOf78
 v85:=Tryz.zeroValue78
 t127:=Tryz.underlying139
 a127:=Tryz.isAgg139
 z127:=Tryz.sizeOf139
 v127:=Tryz.zeroValue139
 t143:=Tryz.underlying141
 a143:=Tryz.isAgg141
 z143:=Tryz.sizeOf141
 v143:=Tryz.zeroValue141
 t145:=Tryz.underlying143
 a145:=Tryz.isAgg143
 z145:=Tryz.sizeOf143
 v145:=Tryz.zeroValue143
 t167:=Tryz.underlying104
 a167:=Tryz.isAgg104
 z167:=Tryz.sizeOf104
 v167:=Tryz.zeroValue104
 t168:=Tryz.underlying109
 a168:=Tryz.isAgg109
 z168:=Tryz.sizeOf109
 v168:=Tryz.zeroValue109
 t171:=Tryz.underlying148
 a171:=Tryz.isAgg148
 z171:=Tryz.sizeOf148
 v171:=Tryz.zeroValue148
 t173:=Tryz.underlying151
 a173:=Tryz.isAgg151
 z173:=Tryz.sizeOf151
 v173:=Tryz.zeroValue151
 t175:=Tryz.underlying106
 a175:=Tryz.isAgg106
 z175:=Tryz.sizeOf106
 v175:=Tryz.zeroValue106
 t210:=Tryz.underlying125
 a210:=Tryz.isAgg125
 z210:=Tryz.sizeOf125
 v210:=Tryz.zeroValue125
 t212:=Tryz.underlying155
 a212:=Tryz.isAgg155
 z212:=Tryz.sizeOf155
 v212:=Tryz.zeroValue155
 t213:=Tryz.underlying157
 a213:=Tryz.isAgg157
 z213:=Tryz.sizeOf157
 t232:=Tryz.underlying161
 a232:=Tryz.isAgg161
 z232:=Tryz.sizeOf161
 v232:=Tryz.zeroValue161
 t233:=Tryz.underlying162
 a233:=Tryz.isAgg162
 z233:=Tryz.sizeOf162
 v233:=Tryz.zeroValue162
 g15:=by kernel_rfl
 g16:=by kernel_rfl
 g17:=by kernel_rfl
 g18:=by kernel_rfl
 g19:=by kernel_rfl
 t80:=Tryz.underlying60
 a80:=Tryz.isAgg60
 z80:=Tryz.sizeOf60
 v80:=Tryz.zeroValue60
 i0:=by kernel_rfl
 i2:=by kernel_rfl
 i3:=by kernel_rfl
 i4:=by kernel_rfl
 i5:=by kernel_rfl
 i9:=by kernel_rfl
 i20:=by kernel_rfl
 i21:=by kernel_rfl
 i37:=by kernel_rfl
 i46:=by kernel_rfl
 i51:=by kernel_rfl
 i53:=by kernel_rfl
 i75:=by kernel_rfl
 i80:=by kernel_rfl
 i85:=by kernel_rfl
 i127:=by kernel_rfl
 i143:=by kernel_rfl
 i145:=by kernel_rfl
 i167:=by kernel_rfl
 i168:=by kernel_rfl
 i171:=by kernel_rfl
 i173:=by kernel_rfl
 i175:=by kernel_rfl
 i210:=by kernel_rfl
 i212:=by kernel_rfl
 i232:=by kernel_rfl
 i233:=by kernel_rfl
 m15:=by kernel_rfl
 m16:=by kernel_rfl
 m17:=by kernel_rfl
 m18:=by kernel_rfl
 m19:=by kernel_rfl
 c0:=by kernel_rfl
 c2:=by kernel_rfl
 c3:=by kernel_rfl
 c4:=by kernel_rfl
 c5:=by kernel_rfl
 c9:=by kernel_rfl
 c20:=by kernel_rfl
 c21:=by kernel_rfl
 c37:=by kernel_rfl
 c46:=by kernel_rfl
 c51:=by kernel_rfl
 c53:=by kernel_rfl
 c75:=by kernel_rfl
 c80:=by kernel_rfl
 c85:=by kernel_rfl
 c127:=by kernel_rfl
 c143:=by kernel_rfl
 c145:=by kernel_rfl
 c167:=by kernel_rfl
 c168:=by kernel_rfl
 c171:=by kernel_rfl
 c173:=by kernel_rfl
 c175:=by kernel_rfl
 c210:=by kernel_rfl
 c212:=by kernel_rfl
 c213:=by kernel_rfl
 c232:=by kernel_rfl
 c233:=by kernel_rfl}
open Go.RowKit in
theorem Tryz.strconv_ParseInt_10_at32_ok(s:ByteArray)(rr:s.size≤9223372036854775806)(v:Int)(h:Lib.parseIntB 32 s.data.toList=.ok v)(w:World):
 Calls Tryz.prog 63 #[.string s,.int .i64 10,.int .i64 32] w fun e w'=>e=.returned (.tuple #[.int .i64 v,.nilIface])∧(w'=w∨∃t,w'=Lib.bytesWorld w 5 t):=Any.strconv_ParseInt_10_at32_ok Tryz.U2 s rr v h w
open Go.RowKit in
open Go.RowKit in
theorem Tryz.strconv_ParseInt_10_at32_range(s:ByteArray)(Dw:s.size≤281474976710656)(h:Lib.parseIntB 32 s.data.toList=.range)(oO:Value)(w:World)(aZ:w.cell? ⟨3,0,none⟩=some oO)(Dx:oO=.nilIface∨∃yZ j5,oO=.iface yZ j5):
 Calls Tryz.prog 63 #[.string s,.int .i64 10,.int .i64 32] w fun e w'=>∃N,e=.returned (.tuple #[.int .i64 (Lib.intSat 32 s.data.toList),.iface 109 (.pointer (some ⟨N,0,none⟩))])∧w.heap.size≤N∧w'.heap[N]?=some (.cells #[.string ⟨#[80,97,114,115,101,73,110,116]⟩,.string s,oO] 125 (0,0))∧Below w.heap.size w w':=Any.strconv_ParseInt_10_at32_range Tryz.U2 s Dw h oO w aZ Dx
def Tryz.ad5:Go.Shelf.Ren:=⟨fun|187=>76|255=>93|n=>n,fun|37=>22|5=>5|3=>3|n=>n,fun|n=>n⟩
theorem Tryz.ad6:Go.Proofs.Lays.n187 Tryz.prog Tryz.ad5:={
 mixed:=by kernel_rfl
 f187:=Tryz.func76.trans (congrArg some aM)
 f255:=Tryz.func93.trans (congrArg some aM)
 t3:=Tryz.underlying3
 a3:=Tryz.isAgg3
 z3:=Tryz.sizeOf3
 v3:=Tryz.zeroValue3
 t5:=Tryz.underlying5
 a5:=Tryz.isAgg5
 z5:=Tryz.sizeOf5
 v5:=Tryz.zeroValue5
 t37:=Tryz.underlying22
 a37:=Tryz.isAgg22
 z37:=Tryz.sizeOf22
 v37:=Tryz.zeroValue22}
theorem Tryz.bytes_IndexByte(b o n c:Nat)(xs:List Int)(Md:Int)(w:World)(ae:xs.length=n)(ai:∀i,i<n→w.cell? ⟨b,o+i,none⟩=some (.int .u8 (xs.getD i 0))):
 Calls Tryz.prog 76 #[.slice (some ⟨b,o,none⟩) n c,.int .u8 Md] w fun e w'=>e=.returned (.int .i64 (Lib.indexByte (Lib.bytesOf xs) Md.toNat.toUInt8))∧w'=w:=Any.bytes_IndexByte Tryz.ad6 b o n c xs Md w ae ai
def Tryz.U3:Go.Shelf.Ren:=⟨fun|156=>88|165=>106|166=>107|169=>108|240=>122|241=>123|276=>129|277=>130|n=>n,fun|31=>96|9=>9|3=>3|4=>4|0=>0|20=>20|72=>118|76=>119|70=>116|37=>22|75=>49|127=>139|164=>145|5=>5|80=>60|n=>n,fun|n=>n⟩
theorem Tryz.ad7:Go.Proofs.Lays.n156 Tryz.prog Tryz.U3:={
 mixed:=by kernel_rfl
 f156:=Tryz.func88.trans (congrArg some aM)
 f165:=Tryz.func106.trans (congrArg some aM)
 f166:=Tryz.func107.trans (congrArg some aM)
 f169:=Tryz.func108.trans (congrArg some aM)
 f240:=Tryz.func122.trans (congrArg some aM)
 f241:=Tryz.func123.trans (congrArg some aM)
 f276:=Tryz.func129.trans (congrArg some aM)
 f277:=Tryz.func130.trans (congrArg some aM)
 t0:=Tryz.underlying0
 a0:=Tryz.isAgg0
 z0:=Tryz.sizeOf0
 v0:=Tryz.zeroValue0
 t3:=Tryz.underlying3
 a3:=Tryz.isAgg3
 z3:=Tryz.sizeOf3
 v3:=Tryz.zeroValue3
 t4:=Tryz.underlying4
 a4:=Tryz.isAgg4
 z4:=Tryz.sizeOf4
 v4:=Tryz.zeroValue4
 t9:=Tryz.underlying9
 a9:=Tryz.isAgg9
 z9:=Tryz.sizeOf9
 v9:=Tryz.zeroValue9
 t20:=Tryz.underlying20
 a20:=Tryz.isAgg20
 z20:=Tryz.sizeOf20
 v20:=Tryz.zeroValue20
 t31:=Tryz.underlying96
 a31:=Tryz.isAgg96
 z31:=Tryz.sizeOf96
 v31:=Tryz.zeroValue96
 t37:=Tryz.underlying22
 a37:=Tryz.isAgg22
 z37:=Tryz.sizeOf22
 v37:=Tryz.zeroValue22
 t70:=Tryz.underlying116
 a70:=Tryz.isAgg116
 z70:=Tryz.sizeOf116
 v70:=Tryz.zeroValue116
 t72:=Tryz.underlying118
 a72:=Tryz.isAgg118
 z72:=Tryz.sizeOf118
 v72:=Tryz.zeroValue118
 t75:=Tryz.underlying49
 a75:=Tryz.isAgg49
 z75:=Tryz.sizeOf49
 v75:=Tryz.zeroValue49
 t76:=Tryz.underlying119
 a76:=Tryz.isAgg119
 z76:=Tryz.sizeOf119
 v76:=Tryz.zeroValue119
 t127:=Tryz.underlying139
 a127:=Tryz.isAgg139
 z127:=Tryz.sizeOf139
 v127:=Tryz.zeroValue139
 t164:=Tryz.underlying145
 a164:=Tryz.isAgg145
 z164:=Tryz.sizeOf145
 v164:=Tryz.zeroValue145}
theorem Tryz.ad8:Builder.Extra Tryz.prog Tryz.U3:={
 sizeBuilder:=by kernel_rfl
 liesBuilder:=by kernel_rfl
 t5:=Tryz.underlying5
 a5:=Tryz.isAgg5
 z5:=Tryz.sizeOf5
 v5:=Tryz.zeroValue5
 infoByte:=by kernel_rfl
 cellsByte:=by kernel_rfl
 sizeByte:=by kernel_rfl
 neB5:=by decide}
open Go.RowKit in
theorem Tryz.strings_Join(Hn o c:Nat)(xs:List ByteArray)(sep:ByteArray)(w:World)(ad9:∀(j:Nat) x,xs[j]?=some x→w.cell? ⟨Hn,o+j,none⟩=some (.string x))(A5:Hn<w.heap.size)(eD:xs.length≤140737488355328)(pN:xs.length≤c)(hlen:(Lib.join (xs.map (·.data.toList)) sep.data.toList).length≤140737488355328):
 Calls Tryz.prog 88 #[.slice (some ⟨Hn,o,none⟩) xs.length c,.string sep] w fun e w'=>e=.returned (.string ⟨(Lib.join (xs.map (·.data.toList)) sep.data.toList).toArray⟩)∧Below w.heap.size w w':=Any.strings_Join Tryz.ad7 Tryz.ad8 Hn o c xs sep w ad9 A5 eD pN hlen
end
