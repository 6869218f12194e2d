/- Part 41 of the proof (Px1). Conditions: each theorem's own. -/
import Derived.Test.YtmpeadgiclfapaaGreatDoorZ42
set_option linter.all false
set_option maxHeartbeats 0
set_option maxRecDepth 100000
namespace Go.Proofs.YtmpeadgiclfapaaGreatDoor
namespace fx
open RowKit YtmpeadgiclfapaaGreatDoorW.PrintWords YtmpeadgiclfapaaGreatDoorW.PrintLast YtmpeadgiclfapaaGreatDoorW.PrintMore ei cP gJ eI eC gi j6 mG nt
def ml(w0 w:World)(g:Nat)(B s st:List Int)(lc af kind:Int)(k:Nat)(e:Ending)(w':World):Prop:=
 ∃A c,e=.returned (.tuple #[.agg #[.int .u8 kind,.int .u8 0,.int .u8 0,.int .i64 ((B.length-s.length:Nat):Int),.slice A k c,.string ⟨#[]⟩],.nilIface])∧dZ w0 A k c (s.take k)∧ey w0 w w' g B (bc false (s.drop k)) st lc af
theorem ey.after{w0 w w1 bf:World}{g:Nat}{B s s2 st Ee:List Int}{lc af:Int}(h:c6 w0 w w1 g B s st lc af)(k:ey w0 w1 bf g B s2 Ee lc af):ey w0 w bf g B s2 Ee lc af:=
 ⟨k.d,Nat.le_trans h.k.1 k.sz,fun b cells t U aU aw=>k.k b cells t (h.k.ft U aw (by simp)) aU aw,k.l⟩
def oQ(w0 w:World)(g:Nat)(B:List Int)(lc af:Int)(e:Ending)(w':World):Prop:=
 ∃ty v,e=.returned (.tuple #[eA,.iface ty v])∧∃eW fa,ey w0 w w' g B eW fa lc af
theorem ey.jF{w0 w w1:World}{g b:Nat}{B s st:List Int}{lc af:Int}(h:ey w0 w w1 g B s st lc af)(lY:vE w1 b 47)(bL:b≠g)(hR:w0.heap.size≤b)(hw:w.heap.size≤b)(j:Nat)(u:Value):ey w0 w (w1.setCell ⟨b,j,none⟩ u) g B s st lc af:=
 ⟨h.d.jF lY (by decide) bL hR j u,(by have:=h.sz;simpa [World.setCell]using this),fun qD cells t U aU aw=>(Below.heap_setCell w1 ⟨b,j,none⟩ u qD (by have:=sv U;intro e;simp only at e;omega)).trans (h.k qD cells t U aU aw),h.l.setCell hR u⟩
theorem ey.gg{w0 w w1:World}{g b:Nat}{B s st:List Int}{lc af:Int}(h:ey w0 w w1 g B s st lc af)(lY:vE w1 b 47)(bL:b≠g)(hR:w0.heap.size≤b)(hw:w.heap.size≤b)(v0 v1 v2 v3 v4 v5:Value):
 ey w0 w ((((((w1.setCell ⟨b,0,none⟩ v0).setCell ⟨b,1,none⟩ v1).setCell ⟨b,2,none⟩ v2).setCell ⟨b,3,none⟩ v3).setCell ⟨b,4,none⟩ v4).setCell ⟨b,5,none⟩ v5) g B s st lc af:=by
 have h0:=h.jF lY bL hR hw 0 v0;have h1:=h0.jF (lY.set 0 _) bL hR hw 1 v1;have h2:=h1.jF ((lY.set 0 _).set 1 _) bL hR hw 2 v2;have h3:=h2.jF (((lY.set 0 _).set 1 _).set 2 _) bL hR hw 3 v3;have h4:=h3.jF ((((lY.set 0 _).set 1 _).set 2 _).set 3 _) bL hR hw 4 v4;exact h4.jF (((((lY.set 0 _).set 1 _).set 2 _).set 3 _).set 4 _) bL hR hw 5 v5
section
variable {w0 w:World} {g:Nat} {B hf s st:List Int} {lc af:Int} (h:dK w0 w g B hf st lc af) (ak:bc false hf=s)
include h ak
theorem Xd(ae:s=[]):Calls Tryz.prog 29 #[.pointer (some ⟨g,0,none⟩),.int .u8 0] w (ml w0 w g B s st lc af 1 0):=by
 refine Af ?_;intro cf ej bS dL bz nl ev fv;refine KU ?_;intro cb;have ef:=I cb;have eX:=I (Nat.zero_le s.length);obtain rfl:nl=0:=by rw[ev,ae];rfl
 refine tX ?_;clear h ak ev cb ae
 go_wp2_with(first|(refine q0 ?_;intro w1 cE bT du c5)|(go_at_call 44;refine(nd bT.1.d 1 0 0 oY).mono ?_;refine q7 ?_;intro w1 ao c7 bj bl ct bW bZ b0 b1 b2 Z2 b3 b4 b5 b6 b7 b8))
 refine bodyPost_ret (v:=.tuple #[.agg #[.int .u8 1,.int .u8 0,.int .u8 0,.int .i64 ((B.length-s.length:Nat):Int),.slice ao 0 c7,.string ⟨#[]⟩],.nilIface]) (by simp[results,Tryz.results29,go_sem,eA,bW,b0,b2,b3,b5,b7,bZ,b1,Z2,b4,b6,b8]) rfl (⟨ao,c7,rfl,bl.1,ey.gg ct.1 ⟨_,bj.1⟩ cA cA (Nat.le_refl _) _ _ _ _ _ _⟩)
theorem ah4{x:Int}{t:List Int}(ae:s=x::t)(aY:x=123∨x=60)(an:st.length+1≤200000):Calls Tryz.prog 29 #[.pointer (some ⟨g,0,none⟩),.int .u8 2] w (ml w0 w g B s (st++[x]) lc af 4 1):=by
 have hW:=I aY;have F9:=I an;clear aY an;refine Dd ?_;clear h ak ae;intro cf ej bS dL bz nl fv;intro ef gI eX fU bn c8 dm;exact Sa
theorem ah5{t:List Int}(ae:s=91::t)(an:st.length+1≤200000):Calls Tryz.prog 29 #[.pointer (some ⟨g,0,none⟩),.int .u8 2] w (ml w0 w g B s (st++[91]) lc af 6 1):=by
 have F9:=I an;clear an;refine Af ?_;intro cf ej bS dL bz nl ev fv;refine KU ?_;intro cb;refine KE ?_;intro ef gr gI eX;have fU:=I (show rd s ((0:Nat):Int)=91 by rw[ae];rfl);refine qe ?_;intro bn c8 dm;clear h ak ev cb gr ae;go_enter Tryz.func29,Tryz.ntmps29
 go_wp2_with(first|(refine iK ?_;intro w1 cE bT du eG eH cB c5)|(refine Ke ?_;clear c5 cB;intro w1 cE bT)|(go_at_call 44;refine(nd bT.1.d 6 0 1 oY).mono ?_;refine Kf ?_;intro w1 ao c7 bj bl ct bW bZ b0 b1 b2 Z2 b3 b4 b5 b6 b7 b8))
 refine bodyPost_ret (v:=.tuple #[.agg #[.int .u8 6,.int .u8 0,.int .u8 0,.int .i64 ((B.length-s.length:Nat):Int),.slice ao 1 c7,.string ⟨#[]⟩],.nilIface]) (by simp[results,Tryz.results29,go_sem,eA,bW,b0,b2,b3,b5,b7,bZ,b1,Z2,b4,b6,b8]) rfl (⟨ao,c7,rfl,bl.1,ey.gg ct.1 ⟨_,bj.1⟩ cA cA (Nat.le_refl _) _ _ _ _ _ _⟩)
theorem Xe{x:Int}{t:List Int}(ae:s=x::t)(cV:Lib.Utf8Tabs 4 5 w0)(cG:iS w0)(bN:0<w0.heap.size∧∃ty v,w0.cell? ⟨0,0,none⟩=some (.iface ty v))(h47:∀r,s=91::r→a6 (bc false r) 0≠47)(aq:fW s=.no):Calls Tryz.prog 29 #[.pointer (some ⟨g,0,none⟩),.int .u8 0] w (k7 w0 w g B s st lc af):=by
 have nh:=I (show s≠[]from fun e=>by rw[e]at ae;cases ae);refine wC ?_;intro et gE fk;have dW:=I h47;have gR:=I aq;clear cV cG bN h47 aq;refine Dd ?_;clear h ak ae;intro cf ej bS dL bz nl fv;intro ef gI eX fU bn c8 dm;go_enter Tryz.func29,Tryz.ntmps29
 go_wp2_with(first|(refine iK ?_;intro w1 cE bT du eG eH cB c5)|(refine r6 ?_;intro bk w1 hp;obtain⟨dI,dQ,rfl,s1,h0⟩:=hp.1 gR.1;refine vn ?_;intro bj ct bW bZ b0 b1 b2 Z2 b3 b4 b5 b6 b7 b8;clear hp h0))
 exact RD
theorem Xf{k:Int}{n:Nat}{str:ByteArray}{x:Int}{t:List Int}(ae:s=x::t)(cV:Lib.Utf8Tabs 4 5 w0)(cG:iS w0)(bN:0<w0.heap.size∧∃ty v,w0.cell? ⟨0,0,none⟩=some (.iface ty v))(h47:∀r,s=91::r→a6 (bc false r) 0≠47)(aq:fW s=.yes (k,n,str)):Calls Tryz.prog 29 #[.pointer (some ⟨g,0,none⟩),.int .u8 0] w (k7 w0 w g B s st lc af):=by
 have nh:=I (show s≠[]from fun e=>by rw[e]at ae;cases ae);refine wC ?_;intro et gE fk;have dW:=I h47;have gR:=I aq;clear cV cG bN h47 aq;refine Dd ?_;clear h ak ae;intro cf ej bS dL bz nl fv;intro ef gI eX fU bn c8 dm;go_enter Tryz.func29,Tryz.ntmps29
 go_wp2_with(first|(refine iK ?_;intro w1 cE bT du eG eH cB c5)|(refine r6 ?_;intro bk w1 hp;obtain⟨ao,c7,pG,rfl,hh,bs,bP,bO,h0⟩:=hp.2 k n str gR.1;refine Ay ?_;clear hh bs bP bO hp h0;intro o2 p7 bl bj ct bW bZ b0 b1 b2 Z2 b3 b4 b5 b6 b7 b8))
 exact RB
theorem ah6{x:Int}{t:List Int}(ae:s=x::t)(aW:x≠123)(cv:x≠60)(eK:x≠91)(cV:Lib.Utf8Tabs 4 5 w0)(cG:iS w0)(bN:0<w0.heap.size∧∃ty v,w0.cell? ⟨0,0,none⟩=some (.iface ty v))(aq:ga s=.no):Calls Tryz.prog 29 #[.pointer (some ⟨g,0,none⟩),.int .u8 2] w (qC w0 w g B s st lc af):=by
 have nh:=I (show s≠[]from fun e=>by rw[e]at ae;cases ae);refine GW ?_;intro cT df gS et gE fk gR;clear aW cv eK cV cG bN aq;refine Dd ?_;clear h ak ae;intro cf ej bS dL bz nl fv;intro ef gI eX fU bn c8 dm;refine GI ?_;intro a1 bQ;have fs:(x==91)=false:=beq_eq_false_iff_ne.mpr gS.1;go_enter Tryz.func29,Tryz.ntmps29
 go_wp2_with(first|(refine iK ?_;intro w1 cE bT du eG eH cB c5)|(refine CD ?_;intro bk w1 hp;obtain⟨dI,dQ,rfl,s1,h0⟩:=hp.1 gR.1;refine vn ?_;intro bj ct bW bZ b0 b1 b2 Z2 b3 b4 b5 b6 b7 b8;clear hp h0))
 exact J1
theorem ah7{n:Nat}{x:Int}{t:List Int}(ae:s=x::t)(aW:x≠123)(cv:x≠60)(eK:x≠91)(cV:Lib.Utf8Tabs 4 5 w0)(cG:iS w0)(bN:0<w0.heap.size∧∃ty v,w0.cell? ⟨0,0,none⟩=some (.iface ty v))(aq:ga s=.yes n):Calls Tryz.prog 29 #[.pointer (some ⟨g,0,none⟩),.int .u8 2] w (qC w0 w g B s st lc af):=by
 have nh:=I (show s≠[]from fun e=>by rw[e]at ae;cases ae);refine GW ?_;intro cT df gS et gE fk gR;clear aW cv eK cV cG bN aq;refine Dd ?_;clear h ak ae;intro cf ej bS dL bz nl fv;intro ef gI eX fU bn c8 dm;refine GI ?_;intro a1 bQ;have fs:(x==91)=false:=beq_eq_false_iff_ne.mpr gS.1;go_enter Tryz.func29,Tryz.ntmps29;exact R4
end
def H2(w0:World)(w:World)(g:Nat)(B:List Int)(s:List Int)(st:List Int)(lc:Int)(af:Int)(m:Int):Prop:=∀(cV:Lib.Utf8Tabs 4 5 w0) (cG:iS w0) (bN:0<w0.heap.size∧∃ty v,w0.cell? ⟨0,0,none⟩=some (.iface ty v)) (h47:∀r,s=91::r→a6 (bc false r) 0≠47) (aq:fW s=.no),Calls Tryz.prog 29 #[.pointer (some ⟨g,0,none⟩),.int .u8 m] w (k7 w0 w g B s st lc af)
def H3(w0:World)(w:World)(g:Nat)(B:List Int)(s:List Int)(st:List Int)(lc:Int)(af:Int)(m:Int)(k:Int)(n:Nat)(str:ByteArray):Prop:=∀(cV:Lib.Utf8Tabs 4 5 w0) (cG:iS w0) (bN:0<w0.heap.size∧∃ty v,w0.cell? ⟨0,0,none⟩=some (.iface ty v)) (h47:∀r,s=91::r→a6 (bc false r) 0≠47) (aq:fW s=.yes (k,n,str)),Calls Tryz.prog 29 #[.pointer (some ⟨g,0,none⟩),.int .u8 m] w (k7 w0 w g B s st lc af)
end fx
