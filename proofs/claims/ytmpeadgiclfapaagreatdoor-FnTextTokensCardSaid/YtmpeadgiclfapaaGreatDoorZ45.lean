/- Part 43 of the proof (Px2). Conditions: each theorem's own. -/
import Derived.Test.YtmpeadgiclfapaaGreatDoorZ43
set_option linter.all false
set_option maxHeartbeats 0
set_option maxRecDepth 100000
namespace Go.Proofs.YtmpeadgiclfapaaGreatDoor
namespace fx
open RowKit YtmpeadgiclfapaaGreatDoorW.PrintWords YtmpeadgiclfapaaGreatDoorW.PrintLast YtmpeadgiclfapaaGreatDoorW.PrintMore ei cP gJ eI eC gi j6 mG nt
section
variable {w0 w:World} {g:Nat} {B s st:List Int} {lc af:Int} (h:dK w0 w g B s st lc af) (ak:bc false s=s) {m:Int}
include h ak
theorem ain(ae:s=[])(hm:m=3∨m=5∨m=7)(bC:hV st)(fb:(eF st.reverse).1=0)(fc:(eF st.reverse).2=0):Calls Tryz.prog 29 #[.pointer (some ⟨g,0,none⟩),.int .u8 m] w (ml w0 w g B s st lc af 1 0):=by
 have cW:=I hm;refine lN ?_;intro hA hK hL;clear hm bC fb fc;refine sf ?_;intro cf ej bS dL bz nl ev fv cb ef eX;obtain rfl:nl=0:=by rw[ev,ae];rfl
 clear h ak ev cb ae;rcases cW.1 with rfl|rfl|rfl
 all_goals(
  go_enter Tryz.func29,Tryz.ntmps29
  go_wp2_with(first|(refine q0 ?_;intro w1 cE bT du c5)|(refine ve ?_;clear c5;intro w1 cE bT du c5)|(go_at_call 44;refine(nd bT.1.d 1 0 0 oY).mono ?_;refine q7 ?_;intro w1 ao c7 bj bl ct bW bZ b0 b1 b2 Z2 b3 b4 b5 b6 b7 b8))
  refine bodyPost_ret (v:=.tuple #[.agg #[.int .u8 1,.int .u8 0,.int .u8 0,.int .i64 ((B.length-s.length:Nat):Int),.slice ao 0 c7,.string ⟨#[]⟩],.nilIface]) (by simp[results,Tryz.results29,go_sem,eA,bW,b0,b2,b3,b5,b7,bZ,b1,Z2,b4,b6,b8]) rfl (⟨ao,c7,rfl,bl.1,ey.gg ct.1 ⟨_,bj.1⟩ cA cA (Nat.le_refl _) _ _ _ _ _ _⟩))
theorem aio{t:List Int}(ae:s=44::t)(hm:m=3∨m=5∨m=7)(bC:hV st)(fb:(eF st.reverse).1=0)(fc:(eF st.reverse).2=0):Calls Tryz.prog 29 #[.pointer (some ⟨g,0,none⟩),.int .u8 m] w (ml w0 w g B s st lc af 8 1):=by
 have cW:=I hm;refine lN ?_;intro hA hK hL;clear hm bC fb fc;refine q8 ?_;intro cf ej bS dL bz nl ev fv cb ef gr gI eX;have fU:=I (show rd s ((0:Nat):Int)=44 by rw[ae];rfl);refine qe ?_;intro bn c8 dm;clear h ak ev cb gr ae;rcases cW.1 with rfl|rfl|rfl
 all_goals(
  go_enter Tryz.func29,Tryz.ntmps29
  go_wp2_with(first|(refine iK ?_;intro w1 cE bT du eG eH cB c5)|(refine kA ?_;clear c5 cB;intro w1 cE bT du eG eH cB c5)|(go_at_call 44;refine(nd bT.1.d 8 0 1 oY).mono ?_;refine q7 ?_;intro w1 ao c7 bj bl ct bW bZ b0 b1 b2 Z2 b3 b4 b5 b6 b7 b8))
  refine bodyPost_ret (v:=.tuple #[.agg #[.int .u8 8,.int .u8 0,.int .u8 0,.int .i64 ((B.length-s.length:Nat):Int),.slice ao 1 c7,.string ⟨#[]⟩],.nilIface]) (by simp[results,Tryz.results29,go_sem,eA,bW,b0,b2,b3,b5,b7,bZ,b1,Z2,b4,b6,b8]) rfl (⟨ao,c7,rfl,bl.1,ey.gg ct.1 ⟨_,bj.1⟩ cA cA (Nat.le_refl _) _ _ _ _ _ _⟩))
theorem aip{t:List Int}(ae:s=59::t)(hm:m=3∨m=5∨m=7)(bC:hV st)(fb:(eF st.reverse).1=0)(fc:(eF st.reverse).2=0):Calls Tryz.prog 29 #[.pointer (some ⟨g,0,none⟩),.int .u8 m] w (ml w0 w g B s st lc af 9 1):=by
 have cW:=I hm;refine lN ?_;intro hA hK hL;clear hm bC fb fc;refine q8 ?_;intro cf ej bS dL bz nl ev fv cb ef gr gI eX;have fU:=I (show rd s ((0:Nat):Int)=59 by rw[ae];rfl);refine qe ?_;intro bn c8 dm;clear h ak ev cb gr ae;rcases cW.1 with rfl|rfl|rfl
 all_goals(
  go_enter Tryz.func29,Tryz.ntmps29
  go_wp2_with(first|(refine iK ?_;intro w1 cE bT du eG eH cB c5)|(refine kA ?_;clear c5 cB;intro w1 cE bT du eG eH cB c5)|(go_at_call 44;refine(nd bT.1.d 9 0 1 oY).mono ?_;refine q7 ?_;intro w1 ao c7 bj bl ct bW bZ b0 b1 b2 Z2 b3 b4 b5 b6 b7 b8))
  refine bodyPost_ret (v:=.tuple #[.agg #[.int .u8 9,.int .u8 0,.int .u8 0,.int .i64 ((B.length-s.length:Nat):Int),.slice ao 1 c7,.string ⟨#[]⟩],.nilIface]) (by simp[results,Tryz.results29,go_sem,eA,bW,b0,b2,b3,b5,b7,bZ,b1,Z2,b4,b6,b8]) rfl (⟨ao,c7,rfl,bl.1,ey.gg ct.1 ⟨_,bj.1⟩ cA cA (Nat.le_refl _) _ _ _ _ _ _⟩))
end
theorem aiq{w0 w:World}{g:Nat}{B s st:List Int}{lc af:Int}(h:dK w0 w g B s st lc af)(ak:bc false s=s){m:Int}{x:Int}{t:List Int}(ae:s=x::t)(hm:m=3∨m=5∨m=7)(bC:hV st)(fb:(eF st.reverse).1=0)(fc:(eF st.reverse).2=0)(aW:x≠44)(cv:x≠59):H2 w0 w g B s st lc af m:=by
 intro cV cG bN h0 aq;have nh:=I (show s≠[]from fun e=>by rw[e]at ae;cases ae);have cW:=I hm;refine wM ?_;intro hA hK hL cT df et gE fk;have dW:=I h0;have gR:=I aq;clear hm bC fb fc aW cv cV cG bN h0 aq;refine oH ?_;clear h ak ae;intro cf ej bS dL bz nl fv ef gI eX fU bn c8 dm;have a1:(x==44)=false:=beq_eq_false_iff_ne.mpr cT.1;have bQ:(x==59)=false:=beq_eq_false_iff_ne.mpr df.1;rcases cW.1 with rfl|rfl|rfl
 all_goals(
  go_enter Tryz.func29,Tryz.ntmps29
  go_wp2_with(first|(refine iK ?_;intro w1 cE bT du eG eH cB c5)|(refine kA ?_;clear c5 cB;intro w1 cE bT du eG eH cB c5)|(refine r6 ?_;intro bk w1 hp;obtain⟨dI,dQ,rfl,hf,h0⟩:=hp.1 gR.1;refine vn ?_;intro bj ct bW bZ b0 b1 b2 Z2 b3 b4 b5 b6 b7 b8;clear hp h0))
  refine bodyPost_ret (v:=.tuple #[eA,.iface dI dQ]) (by simp[results,Tryz.results29,go_sem,eA,bW,b0,b2,b3,b5,b7,bZ,b1,Z2,b4,b6,b8]) rfl (⟨fun _=>⟨dI,dQ,rfl,_,c6.gg ct.1 ⟨_,bj.1⟩ cA cA (Nat.le_refl _) _ _ _ _ _ _⟩,fun cd dm kQ aX=>by rw[gR.1]at aX;cases aX⟩))
section
variable {w0 w:World} {g:Nat} {B s st:List Int} {lc af:Int} (h:dK w0 w g B s st lc af) (ak:bc false s=s) {m:Int}
include h ak
theorem air{k:Int}{n:Nat}{str:ByteArray}{x:Int}{t:List Int}(ae:s=x::t)(hm:m=3∨m=5∨m=7)(bC:hV st)(fb:(eF st.reverse).1=0)(fc:(eF st.reverse).2=0)(aW:x≠44)(cv:x≠59):H3 w0 w g B s st lc af m k n str:=by
 intro cV cG bN h0 aq;have nh:=I (show s≠[]from fun e=>by rw[e]at ae;cases ae);have cW:=I hm;refine wM ?_;intro hA hK hL cT df et gE fk;have dW:=I h0;have gR:=I aq;clear hm bC fb fc aW cv cV cG bN h0 aq;refine oH ?_;clear h ak ae;intro cf ej bS dL bz nl fv ef gI eX fU bn c8 dm;have a1:(x==44)=false:=beq_eq_false_iff_ne.mpr cT.1;have bQ:(x==59)=false:=beq_eq_false_iff_ne.mpr df.1;rcases cW.1 with rfl|rfl|rfl
 all_goals(
  go_enter Tryz.func29,Tryz.ntmps29
  go_wp2_with(first|(refine iK ?_;intro w1 cE bT du eG eH cB c5)|(refine kA ?_;clear c5 cB;intro w1 cE bT du eG eH cB c5)|(refine r6 ?_;intro bk w1 hp;obtain⟨ao,c7,pG,rfl,hh,bs,bP,bO,h0⟩:=hp.2 k n str gR.1;refine Ay ?_;clear hh bs bP bO hp h0;intro o2 p7 bl bj ct bW bZ b0 b1 b2 Z2 b3 b4 b5 b6 b7 b8))
  refine bodyPost_ret (v:=.tuple #[.agg #[.int .u8 2,.int .u8 o2,.int .u8 0,.int .i64 ((B.length-s.length:Nat):Int),.slice ao n c7,.string pG],.nilIface]) (by simp[results,Tryz.results29,go_sem,eA,bW,b0,b2,b3,b5,b7,bZ,b1,Z2,b4,b6,b8]) rfl (⟨fun aX=>zI,fun cd dm kQ aX=>by
   rw[gR.1]at aX;cases aX;exact⟨ao,c7,pG,(by rw[p7.1]),bl.1.1,bl.1.2.1,bl.1.2.2.1,bl.1.2.2.2,c6.gg ct.1 ⟨_,bj.1⟩ cA cA (Nat.le_refl _) _ _ _ _ _ _⟩⟩))
theorem ais{t:List Int}(ae:s=93::t)(hm:m=3∨m=5)(dA:st≠[])(bC:hV st)(fb:(eF st.reverse).1=6)(fc:(eF st.reverse).2=93):Calls Tryz.prog 29 #[.pointer (some ⟨g,0,none⟩),.int .u8 m] w (ml w0 w g B s st.dropLast lc af 7 1):=by
 have cW:=I hm;have ix:=I dA;refine lN ?_;intro hA hK hL;clear hm dA bC fb fc;refine q8 ?_;intro cf ej bS dL bz nl ev fv cb ef gr gI eX;have fU:=I (show rd s ((0:Nat):Int)=93 by rw[ae];rfl);refine qe ?_;intro bn c8 dm;clear h ak ev cb gr ae;rcases cW.1 with rfl|rfl
 all_goals(
  go_enter Tryz.func29,Tryz.ntmps29
  go_wp2_with(first|(refine iK ?_;intro w1 cE bT du eG eH cB c5)|(refine kA ?_;clear c5 cB;intro w1 cE bT du eG eH cB c5)|(refine CS ?_;clear c5 cB;intro w1 cE bT)|(go_at_call 44;refine(nd bT.1.d 7 0 1 oY).mono ?_;refine q7 ?_;intro w1 ao c7 bj bl ct bW bZ b0 b1 b2 Z2 b3 b4 b5 b6 b7 b8))
  refine bodyPost_ret (v:=.tuple #[.agg #[.int .u8 7,.int .u8 0,.int .u8 0,.int .i64 ((B.length-s.length:Nat):Int),.slice ao 1 c7,.string ⟨#[]⟩],.nilIface]) (by simp[results,Tryz.results29,go_sem,eA,bW,b0,b2,b3,b5,b7,bZ,b1,Z2,b4,b6,b8]) rfl (⟨ao,c7,rfl,bl.1,ey.gg ct.1 ⟨_,bj.1⟩ cA cA (Nat.le_refl _) _ _ _ _ _ _⟩))
theorem ait{t:List Int}(ae:s=44::t)(hm:m=3∨m=5)(bC:hV st)(fb:(eF st.reverse).1=6)(fc:(eF st.reverse).2=93):Calls Tryz.prog 29 #[.pointer (some ⟨g,0,none⟩),.int .u8 m] w (ml w0 w g B s st lc af 8 1):=by
 have cW:=I hm;refine lN ?_;intro hA hK hL;clear hm bC fb fc;refine q8 ?_;intro cf ej bS dL bz nl ev fv cb ef gr gI eX;have fU:=I (show rd s ((0:Nat):Int)=44 by rw[ae];rfl);refine qe ?_;intro bn c8 dm;clear h ak ev cb gr ae;rcases cW.1 with rfl|rfl
 all_goals(
  go_enter Tryz.func29,Tryz.ntmps29
  go_wp2_with(first|(refine iK ?_;intro w1 cE bT du eG eH cB c5)|(refine kA ?_;clear c5 cB;intro w1 cE bT du eG eH cB c5)|(go_at_call 44;refine(nd bT.1.d 8 0 1 oY).mono ?_;refine q7 ?_;intro w1 ao c7 bj bl ct bW bZ b0 b1 b2 Z2 b3 b4 b5 b6 b7 b8))
  refine bodyPost_ret (v:=.tuple #[.agg #[.int .u8 8,.int .u8 0,.int .u8 0,.int .i64 ((B.length-s.length:Nat):Int),.slice ao 1 c7,.string ⟨#[]⟩],.nilIface]) (by simp[results,Tryz.results29,go_sem,eA,bW,b0,b2,b3,b5,b7,bZ,b1,Z2,b4,b6,b8]) rfl (⟨ao,c7,rfl,bl.1,ey.gg ct.1 ⟨_,bj.1⟩ cA cA (Nat.le_refl _) _ _ _ _ _ _⟩))
theorem aiu{x:Int}{t:List Int}(ae:s=x::t)(hm:m=3∨m=5)(bC:hV st)(fb:(eF st.reverse).1=6)(fc:(eF st.reverse).2=93)(aW:x≠93)(cv:x≠44):Calls Tryz.prog 29 #[.pointer (some ⟨g,0,none⟩),.int .u8 m] w (oQ w0 w g B lc af):=by
 have cW:=I hm;refine lN ?_;intro hA hK hL;have cT:=I aW;have df:=I cv;clear hm bC fb fc aW cv;refine oH ?_;clear h ak ae;intro cf ej bS dL bz nl fv ef gI eX fU bn c8 dm;have a1:(x==93)=false:=beq_eq_false_iff_ne.mpr cT.1;have bQ:(x==44)=false:=beq_eq_false_iff_ne.mpr df.1;rcases cW.1 with rfl|rfl
 all_goals(
  go_enter Tryz.func29,Tryz.ntmps29
  go_wp2_with(first|(refine iK ?_;intro w1 cE bT du eG eH cB c5)|(refine kA ?_;clear c5 cB;intro w1 cE bT du eG eH cB c5)|(refine rZ ?_;refine GR ?_;intro w1 dI dQ bj ct bW bZ b0 b1 b2 Z2 b3 b4 b5 b6 b7 b8))
  refine bodyPost_ret (v:=.tuple #[eA,.iface dI dQ]) (by simp[results,Tryz.results29,go_sem,eA,bW,b0,b2,b3,b5,b7,bZ,b1,Z2,b4,b6,b8]) rfl (⟨dI,dQ,rfl,_,_,ey.gg ct.1 ⟨_,bj.1⟩ cA cA (Nat.le_refl _) _ _ _ _ _ _⟩))
end
end fx
