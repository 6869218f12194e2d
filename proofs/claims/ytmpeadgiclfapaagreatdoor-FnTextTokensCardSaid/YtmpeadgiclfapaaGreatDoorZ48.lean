/- Part 46 of the proof (Px5). Conditions: each theorem's own. -/
import Derived.Test.YtmpeadgiclfapaaGreatDoorZ43
set_option linter.all false
set_option maxHeartbeats 0
set_option maxRecDepth 100000
namespace Go.Proofs.YtmpeadgiclfapaaGreatDoor
namespace fx
open RowKit YtmpeadgiclfapaaGreatDoorW.PrintWords YtmpeadgiclfapaaGreatDoorW.PrintLast YtmpeadgiclfapaaGreatDoorW.PrintMore ei cP gJ eI eC gi j6 mG nt
section
variable {w0 w:World} {g:Nat} {B s st:List Int} {lc af:Int} (h:dK w0 w g B s st lc af) (ak:bc false s=s)
include h ak
theorem aiU(ae:s=[])(bN:0<w0.heap.size∧∃ty v,w0.cell? ⟨0,0,none⟩=some (.iface ty v)):Calls Tryz.prog 29 #[.pointer (some ⟨g,0,none⟩),.int .u8 2] w (oQ w0 w g B lc af):=by
 have fk:=I bN;clear bN;refine sf ?_;intro cf ej bS dL bz nl ev fv cb ef eX;obtain rfl:nl=0:=by rw[ev,ae];rfl
 refine tX ?_;clear h ak ev cb ae
 go_upto_region 14 with(first|(refine q0 ?_;intro w1 cE bT du c5))
 refine uk ?_;intro ct bj dI dQ jO bW bZ b0 b1 b2 Z2 b3 b4 b5 b6 b7 b8;refine fX (n:=4) (S:=fun w'=>w'.cell? ⟨0,0,none⟩=some (.iface dI dQ)) (ds:=[]) #[false,false,false,false] aM rfl rfl (jO.1) (fun hHeld=>?_);refine ax 0 54 ?_;refine eb 1 55 ?_;exact w2
theorem aiV{c:Int}(ae:s=[])(bC:hV st)(fb:(eF st.reverse).1=4)(fc:(eF st.reverse).2=c)(dM:c=125∨c=62)(bN:0<w0.heap.size∧∃ty v,w0.cell? ⟨0,0,none⟩=some (.iface ty v)):Calls Tryz.prog 29 #[.pointer (some ⟨g,0,none⟩),.int .u8 3] w (oQ w0 w g B lc af):=by
 refine lN ?_;intro hA hK hL;have jL:=I dM;have fk:=I bN;clear bC fb fc dM bN;refine sf ?_;intro cf ej bS dL bz nl ev fv cb ef eX;obtain rfl:nl=0:=by rw[ev,ae];rfl
 refine tX ?_;clear h ak ev cb ae
 go_upto_region 39 with(first|(refine q0 ?_;intro w1 cE bT du c5)|(refine ve ?_;clear c5;intro w1 cE bT du c5))
 refine uk ?_;intro ct bj dI dQ jO bW bZ b0 b1 b2 Z2 b3 b4 b5 b6 b7 b8;refine fX (n:=4) (S:=fun w'=>w'.cell? ⟨0,0,none⟩=some (.iface dI dQ)) (ds:=[]) #[false,false,false,false] aM rfl rfl (jO.1) (fun hHeld=>?_);refine ax 0 116 ?_;refine eb 1 117 ?_;exact w2
theorem aiW(ae:s=[])(bC:hV st)(fb:(eF st.reverse).1=6)(fc:(eF st.reverse).2=93)(bN:0<w0.heap.size∧∃ty v,w0.cell? ⟨0,0,none⟩=some (.iface ty v)):Calls Tryz.prog 29 #[.pointer (some ⟨g,0,none⟩),.int .u8 3] w (oQ w0 w g B lc af):=by
 refine lN ?_;intro hA hK hL;have fk:=I bN;clear bC fb fc bN;refine sf ?_;intro cf ej bS dL bz nl ev fv cb ef eX;obtain rfl:nl=0:=by rw[ev,ae];rfl
 refine tX ?_;clear h ak ev cb ae
 go_upto_region 54 with(first|(refine q0 ?_;intro w1 cE bT du c5)|(refine ve ?_;clear c5;intro w1 cE bT du c5))
 refine uk ?_;intro ct bj dI dQ jO bW bZ b0 b1 b2 Z2 b3 b4 b5 b6 b7 b8;refine fX (n:=4) (S:=fun w'=>w'.cell? ⟨0,0,none⟩=some (.iface dI dQ)) (ds:=[]) #[false,false,false,false] aM rfl rfl (jO.1) (fun hHeld=>?_);refine ax 0 158 ?_;refine eb 1 159 ?_;exact w2
theorem aiX(ae:s=[])(bN:0<w0.heap.size∧∃ty v,w0.cell? ⟨0,0,none⟩=some (.iface ty v)):Calls Tryz.prog 29 #[.pointer (some ⟨g,0,none⟩),.int .u8 4] w (oQ w0 w g B lc af):=by
 have fk:=I bN;clear bN;refine sf ?_;intro cf ej bS dL bz nl ev fv cb ef eX;obtain rfl:nl=0:=by rw[ev,ae];rfl
 refine tX ?_;clear h ak ev cb ae
 go_upto_region 65 with(first|(refine q0 ?_;intro w1 cE bT du c5))
 refine uk ?_;intro ct bj dI dQ jO bW bZ b0 b1 b2 Z2 b3 b4 b5 b6 b7 b8;refine fX (n:=4) (S:=fun w'=>w'.cell? ⟨0,0,none⟩=some (.iface dI dQ)) (ds:=[]) #[false,false,false,false] aM rfl rfl (jO.1) (fun hHeld=>?_);refine ax 0 186 ?_;refine eb 1 187 ?_;exact w2
theorem aiY{c:Int}(ae:s=[])(bC:hV st)(fb:(eF st.reverse).1=4)(fc:(eF st.reverse).2=c)(dM:c=125∨c=62)(bN:0<w0.heap.size∧∃ty v,w0.cell? ⟨0,0,none⟩=some (.iface ty v)):Calls Tryz.prog 29 #[.pointer (some ⟨g,0,none⟩),.int .u8 5] w (oQ w0 w g B lc af):=by
 refine lN ?_;intro hA hK hL;have jL:=I dM;have fk:=I bN;clear bC fb fc dM bN;refine sf ?_;intro cf ej bS dL bz nl ev fv cb ef eX;obtain rfl:nl=0:=by rw[ev,ae];rfl
 refine tX ?_;clear h ak ev cb ae
 go_upto_region 90 with(first|(refine q0 ?_;intro w1 cE bT du c5)|(refine ve ?_;clear c5;intro w1 cE bT du c5))
 refine uk ?_;intro ct bj dI dQ jO bW bZ b0 b1 b2 Z2 b3 b4 b5 b6 b7 b8;refine fX (n:=4) (S:=fun w'=>w'.cell? ⟨0,0,none⟩=some (.iface dI dQ)) (ds:=[]) #[false,false,false,false] aM rfl rfl (jO.1) (fun hHeld=>?_);refine ax 0 257 ?_;refine eb 1 258 ?_;exact w2
theorem aiZ(ae:s=[])(bC:hV st)(fb:(eF st.reverse).1=6)(fc:(eF st.reverse).2=93)(bN:0<w0.heap.size∧∃ty v,w0.cell? ⟨0,0,none⟩=some (.iface ty v)):Calls Tryz.prog 29 #[.pointer (some ⟨g,0,none⟩),.int .u8 5] w (oQ w0 w g B lc af):=by
 refine lN ?_;intro hA hK hL;have fk:=I bN;clear bC fb fc bN;refine sf ?_;intro cf ej bS dL bz nl ev fv cb ef eX;obtain rfl:nl=0:=by rw[ev,ae];rfl
 refine tX ?_;clear h ak ev cb ae
 go_upto_region 105 with(first|(refine q0 ?_;intro w1 cE bT du c5)|(refine ve ?_;clear c5;intro w1 cE bT du c5))
 refine uk ?_;intro ct bj dI dQ jO bW bZ b0 b1 b2 Z2 b3 b4 b5 b6 b7 b8;refine fX (n:=4) (S:=fun w'=>w'.cell? ⟨0,0,none⟩=some (.iface dI dQ)) (ds:=[]) #[false,false,false,false] aM rfl rfl (jO.1) (fun hHeld=>?_);refine ax 0 299 ?_;refine eb 1 300 ?_;exact w2
theorem ai0(ae:s=[])(bN:0<w0.heap.size∧∃ty v,w0.cell? ⟨0,0,none⟩=some (.iface ty v)):Calls Tryz.prog 29 #[.pointer (some ⟨g,0,none⟩),.int .u8 6] w (oQ w0 w g B lc af):=by
 have fk:=I bN;clear bN;refine sf ?_;intro cf ej bS dL bz nl ev fv cb ef eX;obtain rfl:nl=0:=by rw[ev,ae];rfl
 refine tX ?_;clear h ak ev cb ae
 go_upto_region 116 with(first|(refine q0 ?_;intro w1 cE bT du c5))
 refine uk ?_;intro ct bj dI dQ jO bW bZ b0 b1 b2 Z2 b3 b4 b5 b6 b7 b8;refine fX (n:=4) (S:=fun w'=>w'.cell? ⟨0,0,none⟩=some (.iface dI dQ)) (ds:=[]) #[false,false,false,false] aM rfl rfl (jO.1) (fun hHeld=>?_);refine ax 0 328 ?_;refine eb 1 329 ?_;exact w2
theorem ai1{c:Int}(ae:s=[])(bC:hV st)(fb:(eF st.reverse).1=4)(fc:(eF st.reverse).2=c)(dM:c=125∨c=62)(bN:0<w0.heap.size∧∃ty v,w0.cell? ⟨0,0,none⟩=some (.iface ty v)):Calls Tryz.prog 29 #[.pointer (some ⟨g,0,none⟩),.int .u8 7] w (oQ w0 w g B lc af):=by
 refine lN ?_;intro hA hK hL;have jL:=I dM;have fk:=I bN;clear bC fb fc dM bN;refine sf ?_;intro cf ej bS dL bz nl ev fv cb ef eX;obtain rfl:nl=0:=by rw[ev,ae];rfl
 refine tX ?_;clear h ak ev cb ae
 go_upto_region 142 with(first|(refine q0 ?_;intro w1 cE bT du c5)|(refine ve ?_;clear c5;intro w1 cE bT du c5))
 refine uk ?_;intro ct bj dI dQ jO bW bZ b0 b1 b2 Z2 b3 b4 b5 b6 b7 b8;refine fX (n:=4) (S:=fun w'=>w'.cell? ⟨0,0,none⟩=some (.iface dI dQ)) (ds:=[]) #[false,false,false,false] aM rfl rfl (jO.1) (fun hHeld=>?_);refine ax 0 390 ?_;refine eb 1 391 ?_;exact w2
theorem ai2{m:Int}{c:Int}(ae:s=[])(hm:m=8∨m=9)(dM:c=125∨c=62)(bC:hV st)(fb:(eF st.reverse).1=4)(fc:(eF st.reverse).2=c)(bN:0<w0.heap.size∧∃ty v,w0.cell? ⟨0,0,none⟩=some (.iface ty v)):Calls Tryz.prog 29 #[.pointer (some ⟨g,0,none⟩),.int .u8 m] w (oQ w0 w g B lc af):=by
 refine yx ?_;intro cW jL hA hK hL;have fk:=I bN;clear hm dM bC fb fc bN;refine sf ?_;intro cf ej bS dL bz nl ev fv cb ef eX;obtain rfl:nl=0:=by rw[ev,ae];rfl
 clear h ak ev cb ae;rcases cW.1 with rfl|rfl
 all_goals(
  go_enter Tryz.func29,Tryz.ntmps29
  go_upto_region 165 with(first|(refine q0 ?_;intro w1 cE bT du c5)|(refine ve ?_;clear c5;intro w1 cE bT du c5))
  refine uk ?_;intro ct bj dI dQ jO bW bZ b0 b1 b2 Z2 b3 b4 b5 b6 b7 b8;refine fX (n:=4) (S:=fun w'=>w'.cell? ⟨0,0,none⟩=some (.iface dI dQ)) (ds:=[]) #[false,false,false,false] aM rfl rfl (jO.1) (fun hHeld=>?_);refine ax 0 450 ?_;refine eb 1 451 ?_;refine RG ?_;intro hHeld
  go_wp2_with fail
  refine bodyPost_ret (v:=.tuple #[eA,.iface dI dQ]) (by simp[results,Tryz.results29,go_sem,eA,bW,b0,b2,b3,b5,b7,bZ,b1,Z2,b4,b6,b8]) rfl (⟨dI,dQ,rfl,_,_,((c6.gg ct.1 ⟨_,bj.1⟩ cA cA (Nat.le_refl _) _ _ _ _ _ _).below (kH (Below.refl _ _))).m⟩))
theorem ai3(ae:s=[])(bC:hV st)(fb:(eF st.reverse).1=6)(fc:(eF st.reverse).2=93)(bN:0<w0.heap.size∧∃ty v,w0.cell? ⟨0,0,none⟩=some (.iface ty v)):Calls Tryz.prog 29 #[.pointer (some ⟨g,0,none⟩),.int .u8 8] w (oQ w0 w g B lc af):=by
 refine lN ?_;intro hA hK hL;have fk:=I bN;clear bC fb fc bN;refine sf ?_;intro cf ej bS dL bz nl ev fv cb ef eX;obtain rfl:nl=0:=by rw[ev,ae];rfl
 refine tX ?_;clear h ak ev cb ae
 go_upto_region 177 with(first|(refine q0 ?_;intro w1 cE bT du c5)|(refine ve ?_;clear c5;intro w1 cE bT du c5))
 refine uk ?_;intro ct bj dI dQ jO bW bZ b0 b1 b2 Z2 b3 b4 b5 b6 b7 b8;refine fX (n:=4) (S:=fun w'=>w'.cell? ⟨0,0,none⟩=some (.iface dI dQ)) (ds:=[]) #[false,false,false,false] aM rfl rfl (jO.1) (fun hHeld=>?_);refine ax 0 486 ?_;refine eb 1 487 ?_;exact w2
end
end fx
