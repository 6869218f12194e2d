/- Part 0 of the proof (ShD0, ShL). Conditions: each theorem's own. -/
import Derived.Test.YtmpeadgiclfapaaGreatDoorZ1
import Derived.Shelf.Spec.DecodeRune
import Derived.Shelf.Bytes.SlTrim
set_option linter.all false
set_option maxHeartbeats 0
set_option maxRecDepth 100000
namespace Go.Proofs.YtmpeadgiclfapaaGreatDoor
section
open Shelf Go RowKit
def Tryz.abf:Go.Shelf.Ren:=⟨fun|32=>86|49=>100|n=>n,fun|25=>108|30=>22|33=>94|66=>128|68=>130|69=>131|n=>n,fun|2=>4|3=>5|n=>n⟩
theorem Tryz.abg:Go.Proofs.Lays7.n32 Tryz.prog Tryz.abf:={
 mixed:=by kernel_rfl
 f32:=Tryz.func86.trans (congrArg some aM)
 f49:=Tryz.func100.trans (congrArg some aM)
 t0:=Tryz.underlying0
 a0:=Tryz.isAgg0
 z0:=Tryz.sizeOf0
 v0:=Tryz.zeroValue0
 i0:=by kernel_rfl
 t3:=Tryz.underlying3
 a3:=Tryz.isAgg3
 z3:=Tryz.sizeOf3
 v3:=Tryz.zeroValue3
 i3:=by kernel_rfl
 t4:=Tryz.underlying4
 a4:=Tryz.isAgg4
 z4:=Tryz.sizeOf4
 v4:=Tryz.zeroValue4
 i4:=by kernel_rfl
 t5:=Tryz.underlying5
 a5:=Tryz.isAgg5
 z5:=Tryz.sizeOf5
 v5:=Tryz.zeroValue5
 i5:=by kernel_rfl
 t21:=Tryz.underlying21
 a21:=Tryz.isAgg21
 z21:=Tryz.sizeOf21
 v21:=Tryz.zeroValue21
 i21:=by kernel_rfl
 t25:=Tryz.underlying108
 a25:=Tryz.isAgg108
 z25:=Tryz.sizeOf108
 v25:=Tryz.zeroValue108
 i25:=by kernel_rfl
 t30:=Tryz.underlying22
 a30:=Tryz.isAgg22
 z30:=Tryz.sizeOf22
 v30:=Tryz.zeroValue22
 i30:=by kernel_rfl
 t33:=Tryz.underlying94
 a33:=Tryz.isAgg94
 z33:=Tryz.sizeOf94
 v33:=Tryz.zeroValue94
 i33:=by kernel_rfl
 t66:=Tryz.underlying128
 a66:=Tryz.isAgg128
 z66:=Tryz.sizeOf128
 t68:=Tryz.underlying130
 a68:=Tryz.isAgg130
 z68:=Tryz.sizeOf130
 v68:=Tryz.zeroValue130
 i68:=by kernel_rfl
 t69:=Tryz.underlying131
 a69:=Tryz.isAgg131
 z69:=Tryz.sizeOf131
 v69:=Tryz.zeroValue131
 i69:=by kernel_rfl
 g2:=by kernel_rfl
 g3:=by kernel_rfl}
theorem Tryz.utf8_DecodeRune(s:ByteArray)(b off cap:Nat)(w:World)(cV:Lib.Utf8Tabs 4 5 w)(hp:∀j,j<s.size→w.cell? ⟨b,off+j,none⟩=some (.int .u8 (s.get! j).toNat)):
 Calls Tryz.prog 86 #[.slice (some ⟨b,off,none⟩) s.size cap] w fun e w'=>e=.returned (.tuple #[.int .i32 (Lib.decodeGo s).1,.int .i64 (Lib.decodeGo s).2])∧Below w.heap.size w w':=Any7.utf8_DecodeRune Tryz.abg s b off cap w cV hp
def Tryz.Lr:Go.Shelf.Ren:=⟨fun|8=>102|9=>118|11=>119|12=>120|14=>121|16=>127|17=>86|18=>128|20=>100|n=>n,fun|22=>22|9=>9|3=>3|4=>4|5=>5|28=>135|27=>134|0=>0|31=>138|33=>94|21=>21|36=>128|37=>108|40=>131|39=>130|n=>n,fun|0=>4|1=>5|n=>n⟩
theorem Tryz.TT:Go.Proofs.SlLaysV.n8 Tryz.prog Tryz.Lr:={
 mixed:=by kernel_rfl
 f8:=Tryz.func102.trans (congrArg some aM)
 f9:=Tryz.func118.trans (congrArg some aM)
 f11:=Tryz.func119.trans (congrArg some aM)
 f12:=Tryz.func120.trans (congrArg some aM)
 f14:=Tryz.func121.trans (congrArg some aM)
 f16:=Tryz.func127.trans (congrArg some aM)
 f17:=Tryz.func86.trans (congrArg some aM)
 f18:=Tryz.func128.trans (congrArg some aM)
 f20:=Tryz.func100.trans (congrArg some aM)
 t0:=Tryz.underlying0
 a0:=Tryz.isAgg0
 z0:=Tryz.sizeOf0
 v0:=Tryz.zeroValue0
 t3:=Tryz.underlying3
 a3:=Tryz.isAgg3
 z3:=Tryz.sizeOf3
 v3:=Tryz.zeroValue3
 t4:=Tryz.underlying4
 a4:=Tryz.isAgg4
 z4:=Tryz.sizeOf4
 v4:=Tryz.zeroValue4
 t5:=Tryz.underlying5
 a5:=Tryz.isAgg5
 z5:=Tryz.sizeOf5
 v5:=Tryz.zeroValue5
 t9:=Tryz.underlying9
 a9:=Tryz.isAgg9
 z9:=Tryz.sizeOf9
 v9:=Tryz.zeroValue9
 t21:=Tryz.underlying21
 a21:=Tryz.isAgg21
 z21:=Tryz.sizeOf21
 v21:=Tryz.zeroValue21
 t22:=Tryz.underlying22
 a22:=Tryz.isAgg22
 z22:=Tryz.sizeOf22
 v22:=Tryz.zeroValue22
 t27:=Tryz.underlying134
 a27:=Tryz.isAgg134
 z27:=Tryz.sizeOf134
 t28:=Tryz.underlying135
 a28:=Tryz.isAgg135
 z28:=Tryz.sizeOf135
 v28:=Tryz.zeroValue135
 t31:=Tryz.underlying138
 a31:=Tryz.isAgg138
 z31:=Tryz.sizeOf138
 v31:=Tryz.zeroValue138
 t33:=Tryz.underlying94
 a33:=Tryz.isAgg94
 z33:=Tryz.sizeOf94
 v33:=Tryz.zeroValue94
 t36:=Tryz.underlying128
 a36:=Tryz.isAgg128
 z36:=Tryz.sizeOf128
 t37:=Tryz.underlying108
 a37:=Tryz.isAgg108
 z37:=Tryz.sizeOf108
 v37:=Tryz.zeroValue108
 t39:=Tryz.underlying130
 a39:=Tryz.isAgg130
 z39:=Tryz.sizeOf130
 v39:=Tryz.zeroValue130
 t40:=Tryz.underlying131
 a40:=Tryz.isAgg131
 z40:=Tryz.sizeOf131
 v40:=Tryz.zeroValue131}
end
