/- Part 44 of the proof (Px3). Conditions: each theorem's own. -/
import Derived.Test.YtmpeadgiclfapaaGreatDoorZ43
set_option linter.all false
set_option maxHeartbeats 0
set_option maxRecDepth 100000
namespace Go.Proofs.YtmpeadgiclfapaaGreatDoor
namespace fx
open RowKit YtmpeadgiclfapaaGreatDoorW.PrintWords YtmpeadgiclfapaaGreatDoorW.PrintLast YtmpeadgiclfapaaGreatDoorW.PrintMore ei cP gJ eI eC gi j6 mG nt
section
variable {w0 w:World} {g:Nat} {B s st:List Int} {lc af:Int} (h:dK w0 w g B s st lc af) (ak:bc false s=s) {m:Int} {c:Int} {t:List Int}
include h ak
theorem aiv(ae:s=c::t)(hm:m=3∨m=5∨m=7)(dM:c=125∨c=62)(dA:st≠[])(bC:hV st)(fb:(eF st.reverse).1=4)(fc:(eF st.reverse).2=c):Calls Tryz.prog 29 #[.pointer (some ⟨g,0,none⟩),.int .u8 m] w (ml w0 w g B s st.dropLast lc af 5 1):=by
 have cW:=I hm;have jL:=I dM;have ix:=I dA;refine lN ?_;intro hA hK hL;clear hm dM dA bC fb fc;refine q8 ?_;intro cf ej bS dL bz nl ev fv cb ef gr gI eX;have fU:=I (show rd s ((0:Nat):Int)=c by rw[ae];rfl);refine qe ?_;intro bn c8 dm;clear h ak ev cb gr ae;rcases cW.1 with rfl|rfl|rfl
 all_goals(
  go_enter Tryz.func29,Tryz.ntmps29
  go_wp2_with(first|(refine iK ?_;intro w1 cE bT du eG eH cB c5)|(refine kA ?_;clear c5 cB;intro w1 cE bT du eG eH cB c5)|(refine CS ?_;clear c5 cB;intro w1 cE bT)|(go_at_call 44;refine(nd bT.1.d 5 0 1 oY).mono ?_;refine q7 ?_;intro w1 ao c7 bj bl ct bW bZ b0 b1 b2 Z2 b3 b4 b5 b6 b7 b8))
  refine bodyPost_ret (v:=.tuple #[.agg #[.int .u8 5,.int .u8 0,.int .u8 0,.int .i64 ((B.length-s.length:Nat):Int),.slice ao 1 c7,.string ⟨#[]⟩],.nilIface]) (by simp[results,Tryz.results29,go_sem,eA,bW,b0,b2,b3,b5,b7,bZ,b1,Z2,b4,b6,b8]) rfl (⟨ao,c7,rfl,bl.1,ey.gg ct.1 ⟨_,bj.1⟩ cA cA (Nat.le_refl _) _ _ _ _ _ _⟩))
theorem aiw(ae:s=other c::t)(hm:m=3∨m=5∨m=7)(dM:c=125∨c=62)(bC:hV st)(fb:(eF st.reverse).1=4)(fc:(eF st.reverse).2=c):Calls Tryz.prog 29 #[.pointer (some ⟨g,0,none⟩),.int .u8 m] w (oQ w0 w g B lc af):=by
 refine yx ?_;intro cW jL hA hK hL;clear hm dM bC fb fc;refine q8 ?_;intro cf ej bS dL bz nl ev fv cb ef gr gI eX;have fU:=I (show rd s ((0:Nat):Int)=other c by rw[ae];rfl);refine qe ?_;intro bn c8 dm;clear h ak ev cb gr ae;have qh:(other c==c)=false:=by rcases jL.1 with rfl|rfl<;>rfl
 rcases cW.1 with rfl|rfl|rfl
 all_goals(
  go_enter Tryz.func29,Tryz.ntmps29
  go_wp2_with(first|(refine iK ?_;intro w1 cE bT du eG eH cB c5)|(refine kA ?_;clear c5 cB;intro w1 cE bT du eG eH cB c5)|(refine s9 ?_;clear c5 cB;intro w1 r7 hm qJ cE bT du eG eH cB c5)|(refine rZ ?_;refine GR ?_;intro w1 dI dQ bj ct bW bZ b0 b1 b2 Z2 b3 b4 b5 b6 b7 b8))
  refine bodyPost_ret (v:=.tuple #[eA,.iface dI dQ]) (by simp[results,Tryz.results29,go_sem,eA,bW,b0,b2,b3,b5,b7,bZ,b1,Z2,b4,b6,b8]) rfl (⟨dI,dQ,rfl,_,_,ey.gg ct.1 ⟨_,bj.1⟩ cA cA (Nat.le_refl _) _ _ _ _ _ _⟩))
theorem aix(ae:s=44::t)(hm:m=3∨m=5∨m=7)(dM:c=125∨c=62)(bC:hV st)(fb:(eF st.reverse).1=4)(fc:(eF st.reverse).2=c):Calls Tryz.prog 29 #[.pointer (some ⟨g,0,none⟩),.int .u8 m] w (ml w0 w g B s st lc af 8 1):=by
 refine yx ?_;intro cW jL hA hK hL;clear hm dM bC fb fc;refine q8 ?_;intro cf ej bS dL bz nl ev fv cb ef gr gI eX;have fU:=I (show rd s ((0:Nat):Int)=44 by rw[ae];rfl);refine qe ?_;intro bn c8 dm;clear h ak ev cb gr ae;have qh:(44==c)=false:=by rcases jL.1 with rfl|rfl<;>rfl
 have aiy:(44==other c)=false:=by rcases jL.1 with rfl|rfl<;>rfl
 rcases cW.1 with rfl|rfl|rfl
 all_goals(
  go_enter Tryz.func29,Tryz.ntmps29
  go_wp2_with(first|(refine iK ?_;intro w1 cE bT du eG eH cB c5)|(refine kA ?_;clear c5 cB;intro w1 cE bT du eG eH cB c5)|(refine s9 ?_;clear c5 cB;intro w1 r7 hm qJ cE bT du eG eH cB c5)|(go_at_call 44;refine(nd bT.1.d 8 0 1 oY).mono ?_;refine q7 ?_;intro w1 ao c7 bj bl ct bW bZ b0 b1 b2 Z2 b3 b4 b5 b6 b7 b8))
  refine bodyPost_ret (v:=.tuple #[.agg #[.int .u8 8,.int .u8 0,.int .u8 0,.int .i64 ((B.length-s.length:Nat):Int),.slice ao 1 c7,.string ⟨#[]⟩],.nilIface]) (by simp[results,Tryz.results29,go_sem,eA,bW,b0,b2,b3,b5,b7,bZ,b1,Z2,b4,b6,b8]) rfl (⟨ao,c7,rfl,bl.1,ey.gg ct.1 ⟨_,bj.1⟩ cA cA (Nat.le_refl _) _ _ _ _ _ _⟩))
theorem aiz(ae:s=59::t)(hm:m=3∨m=5∨m=7)(dM:c=125∨c=62)(bC:hV st)(fb:(eF st.reverse).1=4)(fc:(eF st.reverse).2=c):Calls Tryz.prog 29 #[.pointer (some ⟨g,0,none⟩),.int .u8 m] w (ml w0 w g B s st lc af 9 1):=by
 refine yx ?_;intro cW jL hA hK hL;clear hm dM bC fb fc;refine q8 ?_;intro cf ej bS dL bz nl ev fv cb ef gr gI eX;have fU:=I (show rd s ((0:Nat):Int)=59 by rw[ae];rfl);refine qe ?_;intro bn c8 dm;clear h ak ev cb gr ae;have qh:(59==c)=false:=by rcases jL.1 with rfl|rfl<;>rfl
 have aiy:(59==other c)=false:=by rcases jL.1 with rfl|rfl<;>rfl
 rcases cW.1 with rfl|rfl|rfl
 all_goals(
  go_enter Tryz.func29,Tryz.ntmps29
  go_wp2_with(first|(refine iK ?_;intro w1 cE bT du eG eH cB c5)|(refine kA ?_;clear c5 cB;intro w1 cE bT du eG eH cB c5)|(refine s9 ?_;clear c5 cB;intro w1 r7 hm qJ cE bT du eG eH cB c5)|(go_at_call 44;refine(nd bT.1.d 9 0 1 oY).mono ?_;refine q7 ?_;intro w1 ao c7 bj bl ct bW bZ b0 b1 b2 Z2 b3 b4 b5 b6 b7 b8))
  refine bodyPost_ret (v:=.tuple #[.agg #[.int .u8 9,.int .u8 0,.int .u8 0,.int .i64 ((B.length-s.length:Nat):Int),.slice ao 1 c7,.string ⟨#[]⟩],.nilIface]) (by simp[results,Tryz.results29,go_sem,eA,bW,b0,b2,b3,b5,b7,bZ,b1,Z2,b4,b6,b8]) rfl (⟨ao,c7,rfl,bl.1,ey.gg ct.1 ⟨_,bj.1⟩ cA cA (Nat.le_refl _) _ _ _ _ _ _⟩))
end
theorem aiA{w0 w:World}{g:Nat}{B s st:List Int}{lc af:Int}(h:dK w0 w g B s st lc af)(ak:bc false s=s){m:Int}{c:Int}{x:Int}{t:List Int}(ae:s=x::t)(hm:m=3∨m=5∨m=7)(dM:c=125∨c=62)(bC:hV st)(fb:(eF st.reverse).1=4)(fc:(eF st.reverse).2=c)(aW:x≠c)(cv:x≠other c)(eK:x≠44)(jQ:x≠59):H2 w0 w g B s st lc af m:=by
 intro cV cG bN h0 aq;have nh:=I (show s≠[]from fun e=>by rw[e]at ae;cases ae);refine yx ?_;intro cW jL hA hK hL;have cT:=I aW;have df:=I cv;have gS:=I eK;have rh:=I jQ;refine wC ?_;intro et gE fk;have dW:=I h0;have gR:=I aq;clear hm dM bC fb fc aW cv eK jQ cV cG bN h0 aq;refine oH ?_;clear h ak ae;intro cf ej bS dL bz nl fv ef gI eX fU bn c8 dm;refine Ar ?_;intro a1 bQ;have fs:(x==44)=false:=beq_eq_false_iff_ne.mpr gS.1;have ku:(x==59)=false:=beq_eq_false_iff_ne.mpr rh.1;rcases cW.1 with rfl|rfl|rfl
 all_goals(
  go_enter Tryz.func29,Tryz.ntmps29
  go_wp2_with(first|(refine iK ?_;intro w1 cE bT du eG eH cB c5)|(refine kA ?_;clear c5 cB;intro w1 cE bT du eG eH cB c5)|(refine s9 ?_;clear c5 cB;intro w1 r7 hm qJ cE bT du eG eH cB c5)|(refine r6 ?_;intro bk w1 hp;obtain⟨dI,dQ,rfl,hf,h0⟩:=hp.1 gR.1;refine vn ?_;intro bj ct bW bZ b0 b1 b2 Z2 b3 b4 b5 b6 b7 b8;clear hp h0))
  refine bodyPost_ret (v:=.tuple #[eA,.iface dI dQ]) (by simp[results,Tryz.results29,go_sem,eA,bW,b0,b2,b3,b5,b7,bZ,b1,Z2,b4,b6,b8]) rfl (⟨fun _=>⟨dI,dQ,rfl,_,c6.gg ct.1 ⟨_,bj.1⟩ cA cA (Nat.le_refl _) _ _ _ _ _ _⟩,fun cd dm kQ aX=>by rw[gR.1]at aX;cases aX⟩))
theorem aiB{w0 w:World}{g:Nat}{B s st:List Int}{lc af:Int}(h:dK w0 w g B s st lc af)(ak:bc false s=s){m:Int}{c:Int}{k:Int}{n:Nat}{str:ByteArray}{x:Int}{t:List Int}(ae:s=x::t)(hm:m=3∨m=5∨m=7)(dM:c=125∨c=62)(bC:hV st)(fb:(eF st.reverse).1=4)(fc:(eF st.reverse).2=c)(aW:x≠c)(cv:x≠other c)(eK:x≠44)(jQ:x≠59):H3 w0 w g B s st lc af m k n str:=by
 intro cV cG bN h0 aq;have nh:=I (show s≠[]from fun e=>by rw[e]at ae;cases ae);refine yx ?_;intro cW jL hA hK hL;have cT:=I aW;have df:=I cv;have gS:=I eK;have rh:=I jQ;refine wC ?_;intro et gE fk;have dW:=I h0;have gR:=I aq;clear hm dM bC fb fc aW cv eK jQ cV cG bN h0 aq;refine oH ?_;clear h ak ae;intro cf ej bS dL bz nl fv ef gI eX fU bn c8 dm;refine Ar ?_;intro a1 bQ;have fs:(x==44)=false:=beq_eq_false_iff_ne.mpr gS.1;have ku:(x==59)=false:=beq_eq_false_iff_ne.mpr rh.1;rcases cW.1 with rfl|rfl|rfl
 all_goals(
  go_enter Tryz.func29,Tryz.ntmps29
  go_wp2_with(first|(refine iK ?_;intro w1 cE bT du eG eH cB c5)|(refine kA ?_;clear c5 cB;intro w1 cE bT du eG eH cB c5)|(refine s9 ?_;clear c5 cB;intro w1 r7 hm qJ cE bT du eG eH cB c5)|(refine r6 ?_;intro bk w1 hp;obtain⟨ao,c7,pG,rfl,hh,bs,bP,bO,h0⟩:=hp.2 k n str gR.1;refine Ay ?_;clear hh bs bP bO hp h0;intro o2 p7 bl bj ct bW bZ b0 b1 b2 Z2 b3 b4 b5 b6 b7 b8))
  refine bodyPost_ret (v:=.tuple #[.agg #[.int .u8 2,.int .u8 o2,.int .u8 0,.int .i64 ((B.length-s.length:Nat):Int),.slice ao n c7,.string pG],.nilIface]) (by simp[results,Tryz.results29,go_sem,eA,bW,b0,b2,b3,b5,b7,bZ,b1,Z2,b4,b6,b8]) rfl (⟨fun aX=>zI,fun cd dm kQ aX=>by
   rw[gR.1]at aX;cases aX;exact⟨ao,c7,pG,(by rw[p7.1]),bl.1.1,bl.1.2.1,bl.1.2.2.1,bl.1.2.2.2,c6.gg ct.1 ⟨_,bj.1⟩ cA cA (Nat.le_refl _) _ _ _ _ _ _⟩⟩))
end fx
