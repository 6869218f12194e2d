/- Part 45 of the proof (Px4). Conditions: each theorem's own. -/
import Derived.Test.YtmpeadgiclfapaaGreatDoorZ43
set_option linter.all false
set_option maxHeartbeats 0
set_option maxRecDepth 100000
namespace Go.Proofs.YtmpeadgiclfapaaGreatDoor
namespace fx
open RowKit YtmpeadgiclfapaaGreatDoorW.PrintWords YtmpeadgiclfapaaGreatDoorW.PrintLast YtmpeadgiclfapaaGreatDoorW.PrintMore ei cP gJ eI eC gi j6 mG nt
section
variable {w0 w:World} {g:Nat} {B s st:List Int} {lc af:Int} (h:dK w0 w g B s st lc af) (ak:bc false s=s)
include h ak
theorem aiC{c:Int}{t:List Int}(ae:s=c::t)(dM:c=125∨c=62)(dA:st≠[])(bC:hV st)(fb:(eF st.reverse).1=4)(fc:(eF st.reverse).2=c):Calls Tryz.prog 29 #[.pointer (some ⟨g,0,none⟩),.int .u8 4] w (ml w0 w g B s st.dropLast lc af 5 1):=by
 have jL:=I dM;have ix:=I dA;refine lN ?_;intro hA hK hL;clear dM dA bC fb fc;refine q8 ?_;intro cf ej bS dL bz nl ev fv cb ef gr gI eX;have fU:=I (show rd s ((0:Nat):Int)=c by rw[ae];rfl);refine qe ?_;intro bn c8 dm;clear h ak ev cb gr ae;go_enter Tryz.func29,Tryz.ntmps29
 go_wp2_with(first|(refine iK ?_;intro w1 cE bT du eG eH cB c5)|(refine kA ?_;clear c5 cB;intro w1 cE bT du eG eH cB c5)|(refine CS ?_;clear c5 cB;intro w1 cE bT)|(go_at_call 44;refine(nd bT.1.d 5 0 1 oY).mono ?_;refine q7 ?_;intro w1 ao c7 bj bl ct bW bZ b0 b1 b2 Z2 b3 b4 b5 b6 b7 b8))
 refine bodyPost_ret (v:=.tuple #[.agg #[.int .u8 5,.int .u8 0,.int .u8 0,.int .i64 ((B.length-s.length:Nat):Int),.slice ao 1 c7,.string ⟨#[]⟩],.nilIface]) (by simp[results,Tryz.results29,go_sem,eA,bW,b0,b2,b3,b5,b7,bZ,b1,Z2,b4,b6,b8]) rfl (⟨ao,c7,rfl,bl.1,ey.gg ct.1 ⟨_,bj.1⟩ cA cA (Nat.le_refl _) _ _ _ _ _ _⟩)
theorem aiD{c:Int}{t:List Int}(ae:s=other c::t)(dM:c=125∨c=62)(bC:hV st)(fb:(eF st.reverse).1=4)(fc:(eF st.reverse).2=c):Calls Tryz.prog 29 #[.pointer (some ⟨g,0,none⟩),.int .u8 4] w (oQ w0 w g B lc af):=by
 have jL:=I dM;refine lN ?_;intro hA hK hL;clear dM bC fb fc;refine q8 ?_;intro cf ej bS dL bz nl ev fv cb ef gr gI eX;have fU:=I (show rd s ((0:Nat):Int)=other c by rw[ae];rfl);refine qe ?_;intro bn c8 dm;clear h ak ev cb gr ae;have qh:(other c==c)=false:=by rcases jL.1 with rfl|rfl<;>rfl
 go_enter Tryz.func29,Tryz.ntmps29
 go_wp2_with(first|(refine iK ?_;intro w1 cE bT du eG eH cB c5)|(refine kA ?_;clear c5 cB;intro w1 cE bT du eG eH cB c5)|(refine s9 ?_;clear c5 cB;intro w1 r7 hm qJ cE bT du eG eH cB c5)|(refine rZ ?_;refine GR ?_;intro w1 dI dQ bj ct bW bZ b0 b1 b2 Z2 b3 b4 b5 b6 b7 b8))
 refine bodyPost_ret (v:=.tuple #[eA,.iface dI dQ]) (by simp[results,Tryz.results29,go_sem,eA,bW,b0,b2,b3,b5,b7,bZ,b1,Z2,b4,b6,b8]) rfl (⟨dI,dQ,rfl,_,_,ey.gg ct.1 ⟨_,bj.1⟩ cA cA (Nat.le_refl _) _ _ _ _ _ _⟩)
theorem aiE{c:Int}{x:Int}{t:List Int}(ae:s=x::t)(dM:c=125∨c=62)(bC:hV st)(fb:(eF st.reverse).1=4)(fc:(eF st.reverse).2=c)(aW:x≠c)(cv:x≠other c)(cV:Lib.Utf8Tabs 4 5 w0)(cG:iS w0)(bN:0<w0.heap.size∧∃ty v,w0.cell? ⟨0,0,none⟩=some (.iface ty v))(h47:∀r,s=91::r→a6 (bc false r) 0≠47)(aq:fW s=.no):Calls Tryz.prog 29 #[.pointer (some ⟨g,0,none⟩),.int .u8 4] w (k7 w0 w g B s st lc af):=by
 have nh:=I (show s≠[]from fun e=>by rw[e]at ae;cases ae);have jL:=I dM;refine wM ?_;intro hA hK hL cT df et gE fk;have dW:=I h47;have gR:=I aq;clear dM bC fb fc aW cv cV cG bN h47 aq;refine oH ?_;clear h ak ae;intro cf ej bS dL bz nl fv ef gI eX fU bn c8 dm;refine Ar ?_;intro a1 bQ;go_enter Tryz.func29,Tryz.ntmps29
 go_wp2_with(first|(refine iK ?_;intro w1 cE bT du eG eH cB c5)|(refine kA ?_;clear c5 cB;intro w1 cE bT du eG eH cB c5)|(refine s9 ?_;clear c5 cB;intro w1 r7 hm qJ cE bT du eG eH cB c5)|(refine r6 ?_;intro bk w1 hp;obtain⟨dI,dQ,rfl,hf,h0⟩:=hp.1 gR.1;refine vn ?_;intro bj ct bW bZ b0 b1 b2 Z2 b3 b4 b5 b6 b7 b8;clear hp h0))
 exact RD
theorem aiF{c:Int}{k:Int}{n:Nat}{str:ByteArray}{x:Int}{t:List Int}(ae:s=x::t)(dM:c=125∨c=62)(bC:hV st)(fb:(eF st.reverse).1=4)(fc:(eF st.reverse).2=c)(aW:x≠c)(cv:x≠other c)(cV:Lib.Utf8Tabs 4 5 w0)(cG:iS w0)(bN:0<w0.heap.size∧∃ty v,w0.cell? ⟨0,0,none⟩=some (.iface ty v))(h47:∀r,s=91::r→a6 (bc false r) 0≠47)(aq:fW s=.yes (k,n,str)):Calls Tryz.prog 29 #[.pointer (some ⟨g,0,none⟩),.int .u8 4] w (k7 w0 w g B s st lc af):=by
 have nh:=I (show s≠[]from fun e=>by rw[e]at ae;cases ae);have jL:=I dM;refine wM ?_;intro hA hK hL cT df et gE fk;have dW:=I h47;have gR:=I aq;clear dM bC fb fc aW cv cV cG bN h47 aq;refine oH ?_;clear h ak ae;intro cf ej bS dL bz nl fv ef gI eX fU bn c8 dm;refine Ar ?_;intro a1 bQ;go_enter Tryz.func29,Tryz.ntmps29
 go_wp2_with(first|(refine iK ?_;intro w1 cE bT du eG eH cB c5)|(refine kA ?_;clear c5 cB;intro w1 cE bT du eG eH cB c5)|(refine s9 ?_;clear c5 cB;intro w1 r7 hm qJ cE bT du eG eH cB c5)|(refine r6 ?_;intro bk w1 hp;obtain⟨ao,c7,pG,rfl,hh,bs,bP,bO,h0⟩:=hp.2 k n str gR.1;refine Ay ?_;clear hh bs bP bO hp h0;intro o2 p7 bl bj ct bW bZ b0 b1 b2 Z2 b3 b4 b5 b6 b7 b8))
 exact RB
theorem aiG{t:List Int}(ae:s=93::t)(dA:st≠[]):Calls Tryz.prog 29 #[.pointer (some ⟨g,0,none⟩),.int .u8 6] w (ml w0 w g B s st.dropLast lc af 7 1):=by
 have ix:=I dA;clear dA;refine q8 ?_;intro cf ej bS dL bz nl ev fv cb ef gr gI eX;have fU:=I (show rd s ((0:Nat):Int)=93 by rw[ae];rfl);refine qe ?_;intro bn c8 dm;clear h ak ev cb gr ae;go_enter Tryz.func29,Tryz.ntmps29
 go_wp2_with(first|(refine iK ?_;intro w1 cE bT du eG eH cB c5)|(refine CS ?_;clear c5 cB;intro w1 cE bT)|(go_at_call 44;refine(nd bT.1.d 7 0 1 oY).mono ?_;refine q7 ?_;intro w1 ao c7 bj bl ct bW bZ b0 b1 b2 Z2 b3 b4 b5 b6 b7 b8))
 refine bodyPost_ret (v:=.tuple #[.agg #[.int .u8 7,.int .u8 0,.int .u8 0,.int .i64 ((B.length-s.length:Nat):Int),.slice ao 1 c7,.string ⟨#[]⟩],.nilIface]) (by simp[results,Tryz.results29,go_sem,eA,bW,b0,b2,b3,b5,b7,bZ,b1,Z2,b4,b6,b8]) rfl (⟨ao,c7,rfl,bl.1,ey.gg ct.1 ⟨_,bj.1⟩ cA cA (Nat.le_refl _) _ _ _ _ _ _⟩)
theorem aiH{x:Int}{t:List Int}(ae:s=x::t)(aY:x=123∨x=60)(an:st.length+1≤200000):Calls Tryz.prog 29 #[.pointer (some ⟨g,0,none⟩),.int .u8 6] w (ml w0 w g B s (st++[x]) lc af 4 1):=by
 have hW:=I aY;have F9:=I an;clear aY an;refine oH ?_;clear h ak ae;intro cf ej bS dL bz nl fv ef gI eX fU bn c8 dm;exact Sa
theorem aiI{x:Int}{t:List Int}(ae:s=x::t)(aW:x≠93)(cv:x≠123)(eK:x≠60)(cV:Lib.Utf8Tabs 4 5 w0)(cG:iS w0)(bN:0<w0.heap.size∧∃ty v,w0.cell? ⟨0,0,none⟩=some (.iface ty v))(aq:ga s=.no):Calls Tryz.prog 29 #[.pointer (some ⟨g,0,none⟩),.int .u8 6] w (qC w0 w g B s st lc af):=by
 have nh:=I (show s≠[]from fun e=>by rw[e]at ae;cases ae);refine GW ?_;intro cT df gS et gE fk gR;clear aW cv eK cV cG bN aq;refine oH ?_;clear h ak ae;intro cf ej bS dL bz nl fv ef gI eX fU bn c8 dm;refine Ts ?_;intro a1 bQ fs
 go_wp2_with(first|(refine iK ?_;intro w1 cE bT du eG eH cB c5)|(refine CD ?_;intro bk w1 hp;obtain⟨dI,dQ,rfl,hf,h0⟩:=hp.1 gR.1;refine vn ?_;intro bj ct bW bZ b0 b1 b2 Z2 b3 b4 b5 b6 b7 b8;clear hp h0))
 exact J1
theorem aiJ{n:Nat}{x:Int}{t:List Int}(ae:s=x::t)(aW:x≠93)(cv:x≠123)(eK:x≠60)(cV:Lib.Utf8Tabs 4 5 w0)(cG:iS w0)(bN:0<w0.heap.size∧∃ty v,w0.cell? ⟨0,0,none⟩=some (.iface ty v))(aq:ga s=.yes n):Calls Tryz.prog 29 #[.pointer (some ⟨g,0,none⟩),.int .u8 6] w (qC w0 w g B s st lc af):=by
 have nh:=I (show s≠[]from fun e=>by rw[e]at ae;cases ae);refine GW ?_;intro cT df gS et gE fk gR;clear aW cv eK cV cG bN aq;refine oH ?_;clear h ak ae;intro cf ej bS dL bz nl fv ef gI eX fU bn c8 dm;refine Ts ?_;intro a1 bQ fs;exact R4
theorem aiK{m:Int}(ae:s=[])(hm:m=8∨m=9)(bC:hV st)(fb:(eF st.reverse).1=0)(fc:(eF st.reverse).2=0):Calls Tryz.prog 29 #[.pointer (some ⟨g,0,none⟩),.int .u8 m] w (ml w0 w g B s st lc af 1 0):=by
 have cW:=I hm;refine lN ?_;intro hA hK hL;clear hm bC fb fc;refine sf ?_;intro cf ej bS dL bz nl ev fv cb ef eX;obtain rfl:nl=0:=by rw[ev,ae];rfl
 clear h ak ev cb ae;rcases cW.1 with rfl|rfl
 all_goals(
  go_enter Tryz.func29,Tryz.ntmps29
  go_wp2_with(first|(refine q0 ?_;intro w1 cE bT du c5)|(refine ve ?_;clear c5;intro w1 cE bT du c5)|(go_at_call 44;refine(nd bT.1.d 1 0 0 oY).mono ?_;refine q7 ?_;intro w1 ao c7 bj bl ct bW bZ b0 b1 b2 Z2 b3 b4 b5 b6 b7 b8))
  refine bodyPost_ret (v:=.tuple #[.agg #[.int .u8 1,.int .u8 0,.int .u8 0,.int .i64 ((B.length-s.length:Nat):Int),.slice ao 0 c7,.string ⟨#[]⟩],.nilIface]) (by simp[results,Tryz.results29,go_sem,eA,bW,b0,b2,b3,b5,b7,bZ,b1,Z2,b4,b6,b8]) rfl (⟨ao,c7,rfl,bl.1,ey.gg ct.1 ⟨_,bj.1⟩ cA cA (Nat.le_refl _) _ _ _ _ _ _⟩))
end
theorem aiL{w0 w:World}{g:Nat}{B s st:List Int}{lc af:Int}(h:dK w0 w g B s st lc af)(ak:bc false s=s){m:Int}{x:Int}{t:List Int}(ae:s=x::t)(hm:m=8∨m=9)(bC:hV st)(fb:(eF st.reverse).1=0)(fc:(eF st.reverse).2=0):H2 w0 w g B s st lc af m:=by
 intro cV cG bN h0 aq;have nh:=I (show s≠[]from fun e=>by rw[e]at ae;cases ae);have cW:=I hm;refine lN ?_;intro hA hK hL;refine wC ?_;intro et gE fk;have dW:=I h0;have gR:=I aq;clear hm bC fb fc cV cG bN h0 aq;refine oH ?_;clear h ak ae;intro cf ej bS dL bz nl fv ef gI eX fU bn c8 dm;rcases cW.1 with rfl|rfl
 all_goals(
  go_enter Tryz.func29,Tryz.ntmps29
  go_wp2_with(first|(refine iK ?_;intro w1 cE bT du eG eH cB c5)|(refine kA ?_;clear c5 cB;intro w1 cE bT du eG eH cB c5)|(refine r6 ?_;intro bk w1 hp;obtain⟨dI,dQ,rfl,hf,h0⟩:=hp.1 gR.1;refine vn ?_;intro bj ct bW bZ b0 b1 b2 Z2 b3 b4 b5 b6 b7 b8;clear hp h0))
  refine bodyPost_ret (v:=.tuple #[eA,.iface dI dQ]) (by simp[results,Tryz.results29,go_sem,eA,bW,b0,b2,b3,b5,b7,bZ,b1,Z2,b4,b6,b8]) rfl (⟨fun _=>⟨dI,dQ,rfl,_,c6.gg ct.1 ⟨_,bj.1⟩ cA cA (Nat.le_refl _) _ _ _ _ _ _⟩,fun cd dm kQ aX=>by rw[gR.1]at aX;cases aX⟩))
section
variable {w0 w:World} {g:Nat} {B s st:List Int} {lc af:Int} (h:dK w0 w g B s st lc af) (ak:bc false s=s)
include h ak
theorem aiM{m:Int}{k:Int}{n:Nat}{str:ByteArray}{x:Int}{t:List Int}(ae:s=x::t)(hm:m=8∨m=9)(bC:hV st)(fb:(eF st.reverse).1=0)(fc:(eF st.reverse).2=0):H3 w0 w g B s st lc af m k n str:=by
 intro cV cG bN h0 aq;have nh:=I (show s≠[]from fun e=>by rw[e]at ae;cases ae);have cW:=I hm;refine lN ?_;intro hA hK hL;refine wC ?_;intro et gE fk;have dW:=I h0;have gR:=I aq;clear hm bC fb fc cV cG bN h0 aq;refine oH ?_;clear h ak ae;intro cf ej bS dL bz nl fv ef gI eX fU bn c8 dm;rcases cW.1 with rfl|rfl
 all_goals(
  go_enter Tryz.func29,Tryz.ntmps29
  go_wp2_with(first|(refine iK ?_;intro w1 cE bT du eG eH cB c5)|(refine kA ?_;clear c5 cB;intro w1 cE bT du eG eH cB c5)|(refine r6 ?_;intro bk w1 hp;obtain⟨ao,c7,pG,rfl,hh,bs,bP,bO,h0⟩:=hp.2 k n str gR.1;refine Ay ?_;clear hh bs bP bO hp h0;intro o2 p7 bl bj ct bW bZ b0 b1 b2 Z2 b3 b4 b5 b6 b7 b8))
  refine bodyPost_ret (v:=.tuple #[.agg #[.int .u8 2,.int .u8 o2,.int .u8 0,.int .i64 ((B.length-s.length:Nat):Int),.slice ao n c7,.string pG],.nilIface]) (by simp[results,Tryz.results29,go_sem,eA,bW,b0,b2,b3,b5,b7,bZ,b1,Z2,b4,b6,b8]) rfl (⟨fun aX=>zI,fun cd dm kQ aX=>by
   rw[gR.1]at aX;cases aX;exact⟨ao,c7,pG,(by rw[p7.1]),bl.1.1,bl.1.2.1,bl.1.2.2.1,bl.1.2.2.2,c6.gg ct.1 ⟨_,bj.1⟩ cA cA (Nat.le_refl _) _ _ _ _ _ _⟩⟩))
section
variable {m:Int} {c:Int}
theorem aiN{t:List Int}(ae:s=c::t)(hm:m=8∨m=9)(dM:c=125∨c=62)(dA:st≠[])(bC:hV st)(fb:(eF st.reverse).1=4)(fc:(eF st.reverse).2=c):Calls Tryz.prog 29 #[.pointer (some ⟨g,0,none⟩),.int .u8 m] w (ml w0 w g B s st.dropLast lc af 5 1):=by
 have cW:=I hm;have jL:=I dM;have ix:=I dA;refine lN ?_;intro hA hK hL;clear hm dM dA bC fb fc;refine q8 ?_;intro cf ej bS dL bz nl ev fv cb ef gr gI eX;have fU:=I (show rd s ((0:Nat):Int)=c by rw[ae];rfl);refine qe ?_;intro bn c8 dm;clear h ak ev cb gr ae;rcases cW.1 with rfl|rfl
 all_goals(
  go_enter Tryz.func29,Tryz.ntmps29
  go_wp2_with(first|(refine iK ?_;intro w1 cE bT du eG eH cB c5)|(refine kA ?_;clear c5 cB;intro w1 cE bT du eG eH cB c5)|(refine CS ?_;clear c5 cB;intro w1 cE bT)|(go_at_call 44;refine(nd bT.1.d 5 0 1 oY).mono ?_;refine q7 ?_;intro w1 ao c7 bj bl ct bW bZ b0 b1 b2 Z2 b3 b4 b5 b6 b7 b8))
  refine bodyPost_ret (v:=.tuple #[.agg #[.int .u8 5,.int .u8 0,.int .u8 0,.int .i64 ((B.length-s.length:Nat):Int),.slice ao 1 c7,.string ⟨#[]⟩],.nilIface]) (by simp[results,Tryz.results29,go_sem,eA,bW,b0,b2,b3,b5,b7,bZ,b1,Z2,b4,b6,b8]) rfl (⟨ao,c7,rfl,bl.1,ey.gg ct.1 ⟨_,bj.1⟩ cA cA (Nat.le_refl _) _ _ _ _ _ _⟩))
theorem aiO{t:List Int}(ae:s=other c::t)(hm:m=8∨m=9)(dM:c=125∨c=62)(bC:hV st)(fb:(eF st.reverse).1=4)(fc:(eF st.reverse).2=c):Calls Tryz.prog 29 #[.pointer (some ⟨g,0,none⟩),.int .u8 m] w (oQ w0 w g B lc af):=by
 refine yx ?_;intro cW jL hA hK hL;clear hm dM bC fb fc;refine q8 ?_;intro cf ej bS dL bz nl ev fv cb ef gr gI eX;have fU:=I (show rd s ((0:Nat):Int)=other c by rw[ae];rfl);refine qe ?_;intro bn c8 dm;clear h ak ev cb gr ae;have qh:(other c==c)=false:=by rcases jL.1 with rfl|rfl<;>rfl
 rcases cW.1 with rfl|rfl
 all_goals(
  go_enter Tryz.func29,Tryz.ntmps29
  go_wp2_with(first|(refine iK ?_;intro w1 cE bT du eG eH cB c5)|(refine kA ?_;clear c5 cB;intro w1 cE bT du eG eH cB c5)|(refine s9 ?_;clear c5 cB;intro w1 r7 hm qJ cE bT du eG eH cB c5)|(refine rZ ?_;refine GR ?_;intro w1 dI dQ bj ct bW bZ b0 b1 b2 Z2 b3 b4 b5 b6 b7 b8))
  refine bodyPost_ret (v:=.tuple #[eA,.iface dI dQ]) (by simp[results,Tryz.results29,go_sem,eA,bW,b0,b2,b3,b5,b7,bZ,b1,Z2,b4,b6,b8]) rfl (⟨dI,dQ,rfl,_,_,ey.gg ct.1 ⟨_,bj.1⟩ cA cA (Nat.le_refl _) _ _ _ _ _ _⟩))
theorem aiP{x:Int}{t:List Int}(ae:s=x::t)(hm:m=8∨m=9)(dM:c=125∨c=62)(bC:hV st)(fb:(eF st.reverse).1=4)(fc:(eF st.reverse).2=c)(aW:x≠c)(cv:x≠other c):H2 w0 w g B s st lc af m:=by
 intro cV cG bN h0 aq;have nh:=I (show s≠[]from fun e=>by rw[e]at ae;cases ae);have cW:=I hm;have jL:=I dM;refine wM ?_;intro hA hK hL cT df et gE fk;have dW:=I h0;have gR:=I aq;clear hm dM bC fb fc aW cv cV cG bN h0 aq;refine oH ?_;clear h ak ae;intro cf ej bS dL bz nl fv ef gI eX fU bn c8 dm;refine Ar ?_;intro a1 bQ;rcases cW.1 with rfl|rfl
 all_goals(
  go_enter Tryz.func29,Tryz.ntmps29
  go_wp2_with(first|(refine iK ?_;intro w1 cE bT du eG eH cB c5)|(refine kA ?_;clear c5 cB;intro w1 cE bT du eG eH cB c5)|(refine s9 ?_;clear c5 cB;intro w1 r7 hm qJ cE bT du eG eH cB c5)|(refine r6 ?_;intro bk w1 hp;obtain⟨dI,dQ,rfl,hf,h0⟩:=hp.1 gR.1;refine vn ?_;intro bj ct bW bZ b0 b1 b2 Z2 b3 b4 b5 b6 b7 b8;clear hp h0))
  refine bodyPost_ret (v:=.tuple #[eA,.iface dI dQ]) (by simp[results,Tryz.results29,go_sem,eA,bW,b0,b2,b3,b5,b7,bZ,b1,Z2,b4,b6,b8]) rfl (⟨fun _=>⟨dI,dQ,rfl,_,c6.gg ct.1 ⟨_,bj.1⟩ cA cA (Nat.le_refl _) _ _ _ _ _ _⟩,fun cd dm kQ aX=>by rw[gR.1]at aX;cases aX⟩))
theorem aiQ{k:Int}{n:Nat}{str:ByteArray}{x:Int}{t:List Int}(ae:s=x::t)(hm:m=8∨m=9)(dM:c=125∨c=62)(bC:hV st)(fb:(eF st.reverse).1=4)(fc:(eF st.reverse).2=c)(aW:x≠c)(cv:x≠other c):H3 w0 w g B s st lc af m k n str:=by
 intro cV cG bN h0 aq;have nh:=I (show s≠[]from fun e=>by rw[e]at ae;cases ae);have cW:=I hm;have jL:=I dM;refine wM ?_;intro hA hK hL cT df et gE fk;have dW:=I h0;have gR:=I aq;clear hm dM bC fb fc aW cv cV cG bN h0 aq;refine oH ?_;clear h ak ae;intro cf ej bS dL bz nl fv ef gI eX fU bn c8 dm;refine Ar ?_;intro a1 bQ;rcases cW.1 with rfl|rfl
 all_goals(
  go_enter Tryz.func29,Tryz.ntmps29
  go_wp2_with(first|(refine iK ?_;intro w1 cE bT du eG eH cB c5)|(refine kA ?_;clear c5 cB;intro w1 cE bT du eG eH cB c5)|(refine s9 ?_;clear c5 cB;intro w1 r7 hm qJ cE bT du eG eH cB c5)|(refine r6 ?_;intro bk w1 hp;obtain⟨ao,c7,pG,rfl,hh,bs,bP,bO,h0⟩:=hp.2 k n str gR.1;refine Ay ?_;clear hh bs bP bO hp h0;intro o2 p7 bl bj ct bW bZ b0 b1 b2 Z2 b3 b4 b5 b6 b7 b8))
  refine bodyPost_ret (v:=.tuple #[.agg #[.int .u8 2,.int .u8 o2,.int .u8 0,.int .i64 ((B.length-s.length:Nat):Int),.slice ao n c7,.string pG],.nilIface]) (by simp[results,Tryz.results29,go_sem,eA,bW,b0,b2,b3,b5,b7,bZ,b1,Z2,b4,b6,b8]) rfl (⟨fun aX=>zI,fun cd dm kQ aX=>by
   rw[gR.1]at aX;cases aX;exact⟨ao,c7,pG,(by rw[p7.1]),bl.1.1,bl.1.2.1,bl.1.2.2.1,bl.1.2.2.2,c6.gg ct.1 ⟨_,bj.1⟩ cA cA (Nat.le_refl _) _ _ _ _ _ _⟩⟩))
end
theorem aiR{x:Int}{t:List Int}(ae:s=x::t)(aY:x=123∨x=60)(an:st.length+1≤200000)(bC:hV st)(fb:(eF st.reverse).1=6)(fc:(eF st.reverse).2=93):Calls Tryz.prog 29 #[.pointer (some ⟨g,0,none⟩),.int .u8 8] w (ml w0 w g B s (st++[x]) lc af 4 1):=by
 have hW:=I aY;have F9:=I an;refine lN ?_;intro hA hK hL;clear aY an bC fb fc;refine oH ?_;clear h ak ae;intro cf ej bS dL bz nl fv ef gI eX fU bn c8 dm;rcases hW.1 with rfl|rfl
 all_goals(
  go_enter Tryz.func29,Tryz.ntmps29
  go_wp2_with(first|(refine iK ?_;intro w1 cE bT du eG eH cB c5)|(refine kA ?_;clear c5 cB;intro w1 cE bT du eG eH cB c5)|(refine Ke ?_;clear c5 cB;intro w1 cE bT)|(go_at_call 44;refine(nd bT.1.d 4 0 1 oY).mono ?_;refine Kf ?_;intro w1 ao c7 bj bl ct bW bZ b0 b1 b2 Z2 b3 b4 b5 b6 b7 b8))
  refine bodyPost_ret (v:=.tuple #[.agg #[.int .u8 4,.int .u8 0,.int .u8 0,.int .i64 ((B.length-s.length:Nat):Int),.slice ao 1 c7,.string ⟨#[]⟩],.nilIface]) (by simp[results,Tryz.results29,go_sem,eA,bW,b0,b2,b3,b5,b7,bZ,b1,Z2,b4,b6,b8]) rfl (⟨ao,c7,rfl,bl.1,ey.gg ct.1 ⟨_,bj.1⟩ cA cA (Nat.le_refl _) _ _ _ _ _ _⟩))
theorem aiS{x:Int}{t:List Int}(ae:s=x::t)(bC:hV st)(fb:(eF st.reverse).1=6)(fc:(eF st.reverse).2=93)(aW:x≠123)(cv:x≠60)(cV:Lib.Utf8Tabs 4 5 w0)(cG:iS w0)(bN:0<w0.heap.size∧∃ty v,w0.cell? ⟨0,0,none⟩=some (.iface ty v))(aq:ga s=.no):Calls Tryz.prog 29 #[.pointer (some ⟨g,0,none⟩),.int .u8 8] w (qC w0 w g B s st lc af):=by
 have nh:=I (show s≠[]from fun e=>by rw[e]at ae;cases ae);refine wM ?_;intro hA hK hL cT df et gE fk;have gR:=I aq;clear bC fb fc aW cv cV cG bN aq;refine oH ?_;clear h ak ae;intro cf ej bS dL bz nl fv ef gI eX fU bn c8 dm;refine GI ?_;intro a1 bQ;go_enter Tryz.func29,Tryz.ntmps29
 go_wp2_with(first|(refine iK ?_;intro w1 cE bT du eG eH cB c5)|(refine kA ?_;clear c5 cB;intro w1 cE bT du eG eH cB c5)|(refine CD ?_;intro bk w1 hp;obtain⟨dI,dQ,rfl,hf,h0⟩:=hp.1 gR.1;refine vn ?_;intro bj ct bW bZ b0 b1 b2 Z2 b3 b4 b5 b6 b7 b8;clear hp h0))
 exact J1
theorem aiT{n:Nat}{x:Int}{t:List Int}(ae:s=x::t)(bC:hV st)(fb:(eF st.reverse).1=6)(fc:(eF st.reverse).2=93)(aW:x≠123)(cv:x≠60)(cV:Lib.Utf8Tabs 4 5 w0)(cG:iS w0)(bN:0<w0.heap.size∧∃ty v,w0.cell? ⟨0,0,none⟩=some (.iface ty v))(aq:ga s=.yes n):Calls Tryz.prog 29 #[.pointer (some ⟨g,0,none⟩),.int .u8 8] w (qC w0 w g B s st lc af):=by
 have nh:=I (show s≠[]from fun e=>by rw[e]at ae;cases ae);refine wM ?_;intro hA hK hL cT df et gE fk;have gR:=I aq;clear bC fb fc aW cv cV cG bN aq;refine oH ?_;clear h ak ae;intro cf ej bS dL bz nl fv ef gI eX fU bn c8 dm;refine GI ?_;intro a1 bQ;go_enter Tryz.func29,Tryz.ntmps29
 go_wp2_with(first|(refine iK ?_;intro w1 cE bT du eG eH cB c5)|(refine kA ?_;clear c5 cB;intro w1 cE bT du eG eH cB c5)|(refine CD ?_;intro bk w1 hp;obtain⟨o2,FT,ao,m0,c7,kQ,FU,rfl,bO,iz,h0⟩:=hp.2 n gR.1;refine R5 ?_;clear bO iz;intro bl bj ct;obtain⟨bW,bZ,b0,b1,b2,Z2,b3,b4,b5,b6,b7,b8⟩:=gO bj.1;clear hp h0))
 exact RC
end
end fx
