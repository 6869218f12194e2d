/- Part 34 of the proof (Ps6). Conditions: each theorem's own. -/
import Derived.Test.YtmpeadgiclfapaaGreatDoorZ32
set_option linter.all false
set_option maxHeartbeats 0
set_option maxRecDepth 100000
namespace Go.Proofs.YtmpeadgiclfapaaGreatDoor
namespace fx
open RowKit YtmpeadgiclfapaaGreatDoorW.PrintWords YtmpeadgiclfapaaGreatDoorW.PrintLast YtmpeadgiclfapaaGreatDoorW.PrintMore ei cP gJ eI eC gi j6
section
variable {w0 w ay:World} {aJ:Nat} {B s st:List Int} {lc af q:Int} {r t:List Int} {A:Option Addr} {n c:Nat} {v7:Value} {m:Nat} (h:lG w0 w ay aJ B s st lc af q r t A n c v7 m)
include h
theorem ag0(aU:t=[92]):jR w0 w ay aJ B s st lc af q r A n c v7:=by
 refine j3 ?_;intro g ec dc eE dv dD dE eQ eR av;subst aU;have eu:0<([92]:List Int).length:=by decide
 refine lz ?_;intro bl gx fq bV dY m0 fi fj;have dO:=I (ah (x:=92) (t1:=[]) (by decide) (by decide)).1;have fP:=I (ah (x:=92) (t1:=[]) (by decide) (by decide)).2;have dx:=I (h.inv.xi (by have:=h.ar;omega) (fun gd e=>by cases e));obtain⟨kS,CW,CX,bN⟩:=h.sc;have fk:=I (And.intro kS bN);obtain rfl:n=1:=h.v.dN;have iR:=h.ar;rcases iR with ar|ar
 all_goals(
  subst ar;clear h eu kS bN
  conv=>arg 2;whnf
  go_wp2_with(first|(refine wv ?_;intro w1 az aC;have u0:=((dq av.1.bu av.1.bu.size aC.1).cell (p:=⟨0,0,none⟩) fk.1.1).trans fk.1.2;have u1:=u0;clear az))
  repeat(go_quiet(fail);try go_wp2_with(fail))
  go_ret2;exact sV av.1 dx.1 (jI aC.1 _))
section
variable {t2:List Int}
theorem ag1(aU:t=92::34::t2):jR w0 w ay aJ B s st lc af q r A n c v7:=by
 refine j3 ?_;intro g ec dc eE dv dD dE eQ eR av;subst aU;have eu:0<(92::34::t2).length:=by simp
 refine lz ?_;intro bl gx fq bV dY m0 fi fj;have dO:=I (ah (x:=92) (t1:=34::t2) (by decide) (by decide)).1;have fP:=I (ah (x:=92) (t1:=34::t2) (by decide) (by decide)).2;refine q1 ?_;intro ja cR cd cY fG hx cM bt bR hA0;subst hA0;have cK:=I (show rd (92::34::t2) ((1:Nat):Int)=34 from rfl);refine tb ?_;clear cR;intro gT ao c3 bs bO jN dP;have fp:=I (h.inv.pk gT.1 (tu (c:=34) (s:=t2) (by decide)) 1 rfl (by simp) (by simp));clear bs bO;have iR:=h.ar;rcases iR with ar|ar
 all_goals(
  subst ar;clear h eu
  conv=>arg 2;whnf
  go_upto_region 30 with(first|(refine pK ?_;intro w1 az aC di ek aD al;cases aD;rw[cK.1]at al;clear az))
  refine fX (n:=8) (S:=fun w'=>True) (ds:=[]) #[false,false,false,false,false,false,false,false] aM rfl rfl trivial (fun hHeld=>?_);refine GY ?_;intro hHeld K aH;refine o3 (by rfl) (.tmp 134) (.tmp 136) 22 22 rfl rfl (v:=v7) (xv:=.slice (some ⟨w1.heap.size,0,none⟩) 1 1) (by rfl) (by rfl) (pH (av.1.o.below (bw aC.1 (Nat.le_refl _) cX)|>.oj (dq av.1.bu av.1.bu.size (bw aC.1 (Nat.le_refl _) cX))) (dq av.1.b av.1.b.size (bw aC.1 (Nat.le_refl _) cX)) (rz (gl (gV w1 (.cells #[.int .u8 34] 5)))) (by decide) pA 22) ?_;refine GZ ?_;clear aH K;intro v0 w1 J fA hHeld;exact dE _ _ (Met.intro (dD _ _ (l8.mk (n:=n-2) (m:=m+1) (A:=ao) (c:=c3) (v7:=v0) (t:=t2) aM rfl rfl rfl rfl rfl rfl j0 (av.1.next 2 fA.1 dP.1 (.inr J.1) fp.1 j0 (by omega))))))
theorem ag2(aU:t=92::39::t2):jR w0 w ay aJ B s st lc af q r A n c v7:=by
 refine j3 ?_;intro g ec dc eE dv dD dE eQ eR av;subst aU;have eu:0<(92::39::t2).length:=by simp
 refine lz ?_;intro bl gx fq bV dY m0 fi fj;have dO:=I (ah (x:=92) (t1:=39::t2) (by decide) (by decide)).1;have fP:=I (ah (x:=92) (t1:=39::t2) (by decide) (by decide)).2;refine q1 ?_;intro ja cR cd cY fG hx cM bt bR hA0;subst hA0;have cK:=I (show rd (92::39::t2) ((1:Nat):Int)=39 from rfl);refine tb ?_;clear cR;intro gT ao c3 bs bO jN dP;have fp:=I (h.inv.pk gT.1 (tu (c:=39) (s:=t2) (by decide)) 1 rfl (by simp) (by simp));clear bs bO;have iR:=h.ar;rcases iR with ar|ar
 all_goals(
  subst ar;clear h eu
  conv=>arg 2;whnf
  go_upto_region 30 with(first|(refine pK ?_;intro w1 az aC di ek aD al;cases aD;rw[cK.1]at al;clear az))
  refine fX (n:=8) (S:=fun w'=>True) (ds:=[]) #[false,false,false,false,false,false,false,false] aM rfl rfl trivial (fun hHeld=>?_);refine GY ?_;intro hHeld K aH;refine o3 (by rfl) (.tmp 134) (.tmp 136) 22 22 rfl rfl (v:=v7) (xv:=.slice (some ⟨w1.heap.size,0,none⟩) 1 1) (by rfl) (by rfl) (pH (av.1.o.below (bw aC.1 (Nat.le_refl _) cX)|>.oj (dq av.1.bu av.1.bu.size (bw aC.1 (Nat.le_refl _) cX))) (dq av.1.b av.1.b.size (bw aC.1 (Nat.le_refl _) cX)) (rz (gl (gV w1 (.cells #[.int .u8 39] 5)))) (by decide) pA 22) ?_;refine GZ ?_;clear aH K;intro v0 w1 J fA hHeld;exact dE _ _ (Met.intro (dD _ _ (l8.mk (n:=n-2) (m:=m+1) (A:=ao) (c:=c3) (v7:=v0) (t:=t2) aM rfl rfl rfl rfl rfl rfl j0 (av.1.next 2 fA.1 dP.1 (.inr J.1) fp.1 j0 (by omega))))))
theorem ag3(aU:t=92::92::t2):jR w0 w ay aJ B s st lc af q r A n c v7:=by
 refine j3 ?_;intro g ec dc eE dv dD dE eQ eR av;subst aU;have eu:0<(92::92::t2).length:=by simp
 refine lz ?_;intro bl gx fq bV dY m0 fi fj;have dO:=I (ah (x:=92) (t1:=92::t2) (by decide) (by decide)).1;have fP:=I (ah (x:=92) (t1:=92::t2) (by decide) (by decide)).2;refine q1 ?_;intro ja cR cd cY fG hx cM bt bR hA0;subst hA0;have cK:=I (show rd (92::92::t2) ((1:Nat):Int)=92 from rfl);refine tb ?_;clear cR;intro gT ao c3 bs bO jN dP;have fp:=I (h.inv.pk gT.1 (tu (c:=92) (s:=t2) (by decide)) 1 rfl (by simp) (by simp));clear bs bO;have iR:=h.ar;rcases iR with ar|ar
 all_goals(
  subst ar;clear h eu
  conv=>arg 2;whnf
  go_upto_region 30 with(first|(refine pK ?_;intro w1 az aC di ek aD al;cases aD;rw[cK.1]at al;clear az))
  refine fX (n:=8) (S:=fun w'=>True) (ds:=[]) #[false,false,false,false,false,false,false,false] aM rfl rfl trivial (fun hHeld=>?_);refine GY ?_;intro hHeld K aH;refine o3 (by rfl) (.tmp 134) (.tmp 136) 22 22 rfl rfl (v:=v7) (xv:=.slice (some ⟨w1.heap.size,0,none⟩) 1 1) (by rfl) (by rfl) (pH (av.1.o.below (bw aC.1 (Nat.le_refl _) cX)|>.oj (dq av.1.bu av.1.bu.size (bw aC.1 (Nat.le_refl _) cX))) (dq av.1.b av.1.b.size (bw aC.1 (Nat.le_refl _) cX)) (rz (gl (gV w1 (.cells #[.int .u8 92] 5)))) (by decide) pA 22) ?_;refine GZ ?_;clear aH K;intro v0 w1 J fA hHeld;exact dE _ _ (Met.intro (dD _ _ (l8.mk (n:=n-2) (m:=m+1) (A:=ao) (c:=c3) (v7:=v0) (t:=t2) aM rfl rfl rfl rfl rfl rfl j0 (av.1.next 2 fA.1 dP.1 (.inr J.1) fp.1 j0 (by omega))))))
theorem ag4(aU:t=92::63::t2):jR w0 w ay aJ B s st lc af q r A n c v7:=by
 refine j3 ?_;intro g ec dc eE dv dD dE eQ eR av;subst aU;have eu:0<(92::63::t2).length:=by simp
 refine lz ?_;intro bl gx fq bV dY m0 fi fj;have dO:=I (ah (x:=92) (t1:=63::t2) (by decide) (by decide)).1;have fP:=I (ah (x:=92) (t1:=63::t2) (by decide) (by decide)).2;refine q1 ?_;intro ja cR cd cY fG hx cM bt bR hA0;subst hA0;have cK:=I (show rd (92::63::t2) ((1:Nat):Int)=63 from rfl);refine tb ?_;clear cR;intro gT ao c3 bs bO jN dP;have fp:=I (h.inv.pk gT.1 (tu (c:=63) (s:=t2) (by decide)) 1 rfl (by simp) (by simp));clear bs bO;have iR:=h.ar;rcases iR with ar|ar
 all_goals(
  subst ar;clear h eu
  conv=>arg 2;whnf
  go_upto_region 30 with(first|(refine pK ?_;intro w1 az aC di ek aD al;cases aD;rw[cK.1]at al;clear az))
  refine fX (n:=8) (S:=fun w'=>True) (ds:=[]) #[false,false,false,false,false,false,false,false] aM rfl rfl trivial (fun hHeld=>?_);refine GY ?_;intro hHeld K aH;refine o3 (by rfl) (.tmp 134) (.tmp 136) 22 22 rfl rfl (v:=v7) (xv:=.slice (some ⟨w1.heap.size,0,none⟩) 1 1) (by rfl) (by rfl) (pH (av.1.o.below (bw aC.1 (Nat.le_refl _) cX)|>.oj (dq av.1.bu av.1.bu.size (bw aC.1 (Nat.le_refl _) cX))) (dq av.1.b av.1.b.size (bw aC.1 (Nat.le_refl _) cX)) (rz (gl (gV w1 (.cells #[.int .u8 63] 5)))) (by decide) pA 22) ?_;refine GZ ?_;clear aH K;intro v0 w1 J fA hHeld;exact dE _ _ (Met.intro (dD _ _ (l8.mk (n:=n-2) (m:=m+1) (A:=ao) (c:=c3) (v7:=v0) (t:=t2) aM rfl rfl rfl rfl rfl rfl j0 (av.1.next 2 fA.1 dP.1 (.inr J.1) fp.1 j0 (by omega))))))
theorem ag5(aU:t=92::97::t2):jR w0 w ay aJ B s st lc af q r A n c v7:=by
 refine j3 ?_;intro g ec dc eE dv dD dE eQ eR av;subst aU;have eu:0<(92::97::t2).length:=by simp
 refine lz ?_;intro bl gx fq bV dY m0 fi fj;have dO:=I (ah (x:=92) (t1:=97::t2) (by decide) (by decide)).1;have fP:=I (ah (x:=92) (t1:=97::t2) (by decide) (by decide)).2;refine q1 ?_;intro ja cR cd cY fG hx cM bt bR hA0;subst hA0;have cK:=I (show rd (92::97::t2) ((1:Nat):Int)=97 from rfl);refine tb ?_;clear cR;intro gT ao c3 bs bO jN dP;have fp:=I (h.inv.pk gT.1 (tu (c:=97) (s:=t2) (by decide)) 1 rfl (by simp) (by simp));clear bs bO;have iR:=h.ar;rcases iR with ar|ar
 all_goals(
  subst ar;clear h eu
  conv=>arg 2;whnf
  go_upto_region 32 with(first|(refine pK ?_;intro w1 az aC di ek aD al;cases aD;rw[cK.1]at al;clear az))
  refine fX (n:=7) (S:=fun w'=>True) (ds:=[]) #[false,false,false,false,false,false,false] aM rfl rfl trivial (fun hHeld=>?_);refine ax 0 140 ?_;refine ax 1 141 ?_;refine ax 2 142 ?_;refine gb 3 143 fun K aH=>?_;refine wN ?_;clear aH K;intro hHeld;refine gb 4 144 fun K aH=>?_;refine o3 (by rfl) (.tmp 142) (.tmp 143) 22 22 rfl rfl (v:=v7) (xv:=.slice (some ⟨w1.heap.size,0,none⟩) 1 1) (by rfl) (by rfl) (pH (av.1.o.below (bw aC.1 (Nat.le_refl _) cX)|>.oj (dq av.1.bu av.1.bu.size (bw aC.1 (Nat.le_refl _) cX))) (dq av.1.b av.1.b.size (bw aC.1 (Nat.le_refl _) cX)) (rz (gl (gV w1 (.cells #[.int .u8 7] 5)))) (by decide) pA 22) ?_;refine wL ?_;clear aH K;intro v0 w1 J fA hHeld;refine yr ?_;exact dE _ _ (Met.intro (dD _ _ (l8.mk (n:=n-2) (m:=m+1) (A:=ao) (c:=c3) (v7:=v0) (t:=t2) aM rfl rfl rfl rfl rfl rfl j0 (av.1.next 2 fA.1 dP.1 (.inr J.1) fp.1 j0 (by omega))))))
theorem ag6(aU:t=92::98::t2):jR w0 w ay aJ B s st lc af q r A n c v7:=by
 refine j3 ?_;intro g ec dc eE dv dD dE eQ eR av;subst aU;have eu:0<(92::98::t2).length:=by simp
 refine lz ?_;intro bl gx fq bV dY m0 fi fj;have dO:=I (ah (x:=92) (t1:=98::t2) (by decide) (by decide)).1;have fP:=I (ah (x:=92) (t1:=98::t2) (by decide) (by decide)).2;refine q1 ?_;intro ja cR cd cY fG hx cM bt bR hA0;subst hA0;have cK:=I (show rd (92::98::t2) ((1:Nat):Int)=98 from rfl);refine tb ?_;clear cR;intro gT ao c3 bs bO jN dP;have fp:=I (h.inv.pk gT.1 (tu (c:=98) (s:=t2) (by decide)) 1 rfl (by simp) (by simp));clear bs bO;have iR:=h.ar;rcases iR with ar|ar
 all_goals(
  subst ar;clear h eu
  conv=>arg 2;whnf
  go_upto_region 34 with(first|(refine pK ?_;intro w1 az aC di ek aD al;cases aD;rw[cK.1]at al;clear az))
  refine fX (n:=7) (S:=fun w'=>True) (ds:=[]) #[false,false,false,false,false,false,false] aM rfl rfl trivial (fun hHeld=>?_);refine ax 0 147 ?_;refine ax 1 148 ?_;refine ax 2 149 ?_;refine gb 3 150 fun K aH=>?_;refine wN ?_;clear aH K;intro hHeld;refine gb 4 151 fun K aH=>?_;refine o3 (by rfl) (.tmp 149) (.tmp 150) 22 22 rfl rfl (v:=v7) (xv:=.slice (some ⟨w1.heap.size,0,none⟩) 1 1) (by rfl) (by rfl) (pH (av.1.o.below (bw aC.1 (Nat.le_refl _) cX)|>.oj (dq av.1.bu av.1.bu.size (bw aC.1 (Nat.le_refl _) cX))) (dq av.1.b av.1.b.size (bw aC.1 (Nat.le_refl _) cX)) (rz (gl (gV w1 (.cells #[.int .u8 8] 5)))) (by decide) pA 22) ?_;refine wL ?_;clear aH K;intro v0 w1 J fA hHeld;refine yr ?_;exact dE _ _ (Met.intro (dD _ _ (l8.mk (n:=n-2) (m:=m+1) (A:=ao) (c:=c3) (v7:=v0) (t:=t2) aM rfl rfl rfl rfl rfl rfl j0 (av.1.next 2 fA.1 dP.1 (.inr J.1) fp.1 j0 (by omega))))))
theorem ag7(aU:t=92::110::t2):jR w0 w ay aJ B s st lc af q r A n c v7:=by
 refine j3 ?_;intro g ec dc eE dv dD dE eQ eR av;subst aU;have eu:0<(92::110::t2).length:=by simp
 refine lz ?_;intro bl gx fq bV dY m0 fi fj;have dO:=I (ah (x:=92) (t1:=110::t2) (by decide) (by decide)).1;have fP:=I (ah (x:=92) (t1:=110::t2) (by decide) (by decide)).2;refine q1 ?_;intro ja cR cd cY fG hx cM bt bR hA0;subst hA0;have cK:=I (show rd (92::110::t2) ((1:Nat):Int)=110 from rfl);refine tb ?_;clear cR;intro gT ao c3 bs bO jN dP;have fp:=I (h.inv.pk gT.1 (tu (c:=110) (s:=t2) (by decide)) 1 rfl (by simp) (by simp));clear bs bO;have iR:=h.ar;rcases iR with ar|ar
 all_goals(
  subst ar;clear h eu
  conv=>arg 2;whnf
  go_upto_region 36 with(first|(refine pK ?_;intro w1 az aC di ek aD al;cases aD;rw[cK.1]at al;clear az))
  refine fX (n:=7) (S:=fun w'=>True) (ds:=[]) #[false,false,false,false,false,false,false] aM rfl rfl trivial (fun hHeld=>?_);refine ax 0 154 ?_;refine ax 1 155 ?_;refine ax 2 156 ?_;refine gb 3 157 fun K aH=>?_;refine wN ?_;clear aH K;intro hHeld;refine gb 4 158 fun K aH=>?_;refine o3 (by rfl) (.tmp 156) (.tmp 157) 22 22 rfl rfl (v:=v7) (xv:=.slice (some ⟨w1.heap.size,0,none⟩) 1 1) (by rfl) (by rfl) (pH (av.1.o.below (bw aC.1 (Nat.le_refl _) cX)|>.oj (dq av.1.bu av.1.bu.size (bw aC.1 (Nat.le_refl _) cX))) (dq av.1.b av.1.b.size (bw aC.1 (Nat.le_refl _) cX)) (rz (gl (gV w1 (.cells #[.int .u8 10] 5)))) (by decide) pA 22) ?_;refine wL ?_;clear aH K;intro v0 w1 J fA hHeld;refine yr ?_;exact dE _ _ (Met.intro (dD _ _ (l8.mk (n:=n-2) (m:=m+1) (A:=ao) (c:=c3) (v7:=v0) (t:=t2) aM rfl rfl rfl rfl rfl rfl j0 (av.1.next 2 fA.1 dP.1 (.inr J.1) fp.1 j0 (by omega))))))
theorem ag8(aU:t=92::114::t2):jR w0 w ay aJ B s st lc af q r A n c v7:=by
 refine j3 ?_;intro g ec dc eE dv dD dE eQ eR av;subst aU;have eu:0<(92::114::t2).length:=by simp
 refine lz ?_;intro bl gx fq bV dY m0 fi fj;have dO:=I (ah (x:=92) (t1:=114::t2) (by decide) (by decide)).1;have fP:=I (ah (x:=92) (t1:=114::t2) (by decide) (by decide)).2;refine q1 ?_;intro ja cR cd cY fG hx cM bt bR hA0;subst hA0;have cK:=I (show rd (92::114::t2) ((1:Nat):Int)=114 from rfl);refine tb ?_;clear cR;intro gT ao c3 bs bO jN dP;have fp:=I (h.inv.pk gT.1 (tu (c:=114) (s:=t2) (by decide)) 1 rfl (by simp) (by simp));clear bs bO;have iR:=h.ar;rcases iR with ar|ar
 all_goals(
  subst ar;clear h eu
  conv=>arg 2;whnf
  go_upto_region 38 with(first|(refine pK ?_;intro w1 az aC di ek aD al;cases aD;rw[cK.1]at al;clear az))
  refine fX (n:=7) (S:=fun w'=>True) (ds:=[]) #[false,false,false,false,false,false,false] aM rfl rfl trivial (fun hHeld=>?_);refine ax 0 161 ?_;refine ax 1 162 ?_;refine ax 2 163 ?_;refine gb 3 164 fun K aH=>?_;refine wN ?_;clear aH K;intro hHeld;refine gb 4 165 fun K aH=>?_;refine o3 (by rfl) (.tmp 163) (.tmp 164) 22 22 rfl rfl (v:=v7) (xv:=.slice (some ⟨w1.heap.size,0,none⟩) 1 1) (by rfl) (by rfl) (pH (av.1.o.below (bw aC.1 (Nat.le_refl _) cX)|>.oj (dq av.1.bu av.1.bu.size (bw aC.1 (Nat.le_refl _) cX))) (dq av.1.b av.1.b.size (bw aC.1 (Nat.le_refl _) cX)) (rz (gl (gV w1 (.cells #[.int .u8 13] 5)))) (by decide) pA 22) ?_;refine wL ?_;clear aH K;intro v0 w1 J fA hHeld;refine yr ?_;exact dE _ _ (Met.intro (dD _ _ (l8.mk (n:=n-2) (m:=m+1) (A:=ao) (c:=c3) (v7:=v0) (t:=t2) aM rfl rfl rfl rfl rfl rfl j0 (av.1.next 2 fA.1 dP.1 (.inr J.1) fp.1 j0 (by omega))))))
theorem ag9(aU:t=92::116::t2):jR w0 w ay aJ B s st lc af q r A n c v7:=by
 refine j3 ?_;intro g ec dc eE dv dD dE eQ eR av;subst aU;have eu:0<(92::116::t2).length:=by simp
 refine lz ?_;intro bl gx fq bV dY m0 fi fj;have dO:=I (ah (x:=92) (t1:=116::t2) (by decide) (by decide)).1;have fP:=I (ah (x:=92) (t1:=116::t2) (by decide) (by decide)).2;refine q1 ?_;intro ja cR cd cY fG hx cM bt bR hA0;subst hA0;have cK:=I (show rd (92::116::t2) ((1:Nat):Int)=116 from rfl);refine tb ?_;clear cR;intro gT ao c3 bs bO jN dP;have fp:=I (h.inv.pk gT.1 (tu (c:=116) (s:=t2) (by decide)) 1 rfl (by simp) (by simp));clear bs bO;have iR:=h.ar;rcases iR with ar|ar
 all_goals(
  subst ar;clear h eu
  conv=>arg 2;whnf
  go_upto_region 40 with(first|(refine pK ?_;intro w1 az aC di ek aD al;cases aD;rw[cK.1]at al;clear az))
  refine fX (n:=7) (S:=fun w'=>True) (ds:=[]) #[false,false,false,false,false,false,false] aM rfl rfl trivial (fun hHeld=>?_);refine ax 0 168 ?_;refine ax 1 169 ?_;refine ax 2 170 ?_;refine gb 3 171 fun K aH=>?_;refine wN ?_;clear aH K;intro hHeld;refine gb 4 172 fun K aH=>?_;refine o3 (by rfl) (.tmp 170) (.tmp 171) 22 22 rfl rfl (v:=v7) (xv:=.slice (some ⟨w1.heap.size,0,none⟩) 1 1) (by rfl) (by rfl) (pH (av.1.o.below (bw aC.1 (Nat.le_refl _) cX)|>.oj (dq av.1.bu av.1.bu.size (bw aC.1 (Nat.le_refl _) cX))) (dq av.1.b av.1.b.size (bw aC.1 (Nat.le_refl _) cX)) (rz (gl (gV w1 (.cells #[.int .u8 9] 5)))) (by decide) pA 22) ?_;refine wL ?_;clear aH K;intro v0 w1 J fA hHeld;refine yr ?_;exact dE _ _ (Met.intro (dD _ _ (l8.mk (n:=n-2) (m:=m+1) (A:=ao) (c:=c3) (v7:=v0) (t:=t2) aM rfl rfl rfl rfl rfl rfl j0 (av.1.next 2 fA.1 dP.1 (.inr J.1) fp.1 j0 (by omega))))))
theorem aha(aU:t=92::118::t2):jR w0 w ay aJ B s st lc af q r A n c v7:=by
 refine j3 ?_;intro g ec dc eE dv dD dE eQ eR av;subst aU;have eu:0<(92::118::t2).length:=by simp
 refine lz ?_;intro bl gx fq bV dY m0 fi fj;have dO:=I (ah (x:=92) (t1:=118::t2) (by decide) (by decide)).1;have fP:=I (ah (x:=92) (t1:=118::t2) (by decide) (by decide)).2;refine q1 ?_;intro ja cR cd cY fG hx cM bt bR hA0;subst hA0;have cK:=I (show rd (92::118::t2) ((1:Nat):Int)=118 from rfl);refine tb ?_;clear cR;intro gT ao c3 bs bO jN dP;have fp:=I (h.inv.pk gT.1 (tu (c:=118) (s:=t2) (by decide)) 1 rfl (by simp) (by simp));clear bs bO;have iR:=h.ar;rcases iR with ar|ar
 all_goals(
  subst ar;clear h eu
  conv=>arg 2;whnf
  go_upto_region 42 with(first|(refine pK ?_;intro w1 az aC di ek aD al;cases aD;rw[cK.1]at al;clear az))
  refine fX (n:=7) (S:=fun w'=>True) (ds:=[]) #[false,false,false,false,false,false,false] aM rfl rfl trivial (fun hHeld=>?_);refine ax 0 175 ?_;refine ax 1 176 ?_;refine ax 2 177 ?_;refine gb 3 178 fun K aH=>?_;refine wN ?_;clear aH K;intro hHeld;refine gb 4 179 fun K aH=>?_;refine o3 (by rfl) (.tmp 177) (.tmp 178) 22 22 rfl rfl (v:=v7) (xv:=.slice (some ⟨w1.heap.size,0,none⟩) 1 1) (by rfl) (by rfl) (pH (av.1.o.below (bw aC.1 (Nat.le_refl _) cX)|>.oj (dq av.1.bu av.1.bu.size (bw aC.1 (Nat.le_refl _) cX))) (dq av.1.b av.1.b.size (bw aC.1 (Nat.le_refl _) cX)) (rz (gl (gV w1 (.cells #[.int .u8 11] 5)))) (by decide) pA 22) ?_;refine wL ?_;clear aH K;intro v0 w1 J fA hHeld;refine yr ?_;exact dE _ _ (Met.intro (dD _ _ (l8.mk (n:=n-2) (m:=m+1) (A:=ao) (c:=c3) (v7:=v0) (t:=t2) aM rfl rfl rfl rfl rfl rfl j0 (av.1.next 2 fA.1 dP.1 (.inr J.1) fp.1 j0 (by omega))))))
theorem ahb(aU:t=92::102::t2):jR w0 w ay aJ B s st lc af q r A n c v7:=by
 refine j3 ?_;intro g ec dc eE dv dD dE eQ eR av;subst aU;have eu:0<(92::102::t2).length:=by simp
 refine lz ?_;intro bl gx fq bV dY m0 fi fj;have dO:=I (ah (x:=92) (t1:=102::t2) (by decide) (by decide)).1;have fP:=I (ah (x:=92) (t1:=102::t2) (by decide) (by decide)).2;refine q1 ?_;intro ja cR cd cY fG hx cM bt bR hA0;subst hA0;have cK:=I (show rd (92::102::t2) ((1:Nat):Int)=102 from rfl);refine tb ?_;clear cR;intro gT ao c3 bs bO jN dP;have fp:=I (h.inv.pk gT.1 (tu (c:=102) (s:=t2) (by decide)) 1 rfl (by simp) (by simp));clear bs bO;have iR:=h.ar;rcases iR with ar|ar
 all_goals(
  subst ar;clear h eu
  conv=>arg 2;whnf
  go_upto_region 44 with(first|(refine pK ?_;intro w1 az aC di ek aD al;cases aD;rw[cK.1]at al;clear az))
  refine fX (n:=7) (S:=fun w'=>True) (ds:=[]) #[false,false,false,false,false,false,false] aM rfl rfl trivial (fun hHeld=>?_);refine ax 0 182 ?_;refine ax 1 183 ?_;refine ax 2 184 ?_;refine gb 3 185 fun K aH=>?_;refine wN ?_;clear aH K;intro hHeld;refine gb 4 186 fun K aH=>?_;refine o3 (by rfl) (.tmp 184) (.tmp 185) 22 22 rfl rfl (v:=v7) (xv:=.slice (some ⟨w1.heap.size,0,none⟩) 1 1) (by rfl) (by rfl) (pH (av.1.o.below (bw aC.1 (Nat.le_refl _) cX)|>.oj (dq av.1.bu av.1.bu.size (bw aC.1 (Nat.le_refl _) cX))) (dq av.1.b av.1.b.size (bw aC.1 (Nat.le_refl _) cX)) (rz (gl (gV w1 (.cells #[.int .u8 12] 5)))) (by decide) pA 22) ?_;refine wL ?_;clear aH K;intro v0 w1 J fA hHeld;refine yr ?_;exact dE _ _ (Met.intro (dD _ _ (l8.mk (n:=n-2) (m:=m+1) (A:=ao) (c:=c3) (v7:=v0) (t:=t2) aM rfl rfl rfl rfl rfl rfl j0 (av.1.next 2 fA.1 dP.1 (.inr J.1) fp.1 j0 (by omega))))))
end
end
end fx
