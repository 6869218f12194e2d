/- Part 42 of the proof (Tt1, Px6, Px7, Px9, Rd0, Rd1). Conditions: each theorem's own. -/
import Derived.Test.YtmpeadgiclfapaaGreatDoorZ43
set_option linter.all false
set_option maxHeartbeats 0
set_option maxRecDepth 100000
namespace Go.Proofs.YtmpeadgiclfapaaGreatDoor
namespace Hs
open RowKit YtmpeadgiclfapaaGreatDoorW.PrintWords YtmpeadgiclfapaaGreatDoorW.PrintLast YtmpeadgiclfapaaGreatDoorW.PrintMore ei cP fx
def ah8(W:World)(dC:Nat)(w':World):Prop:=Below W.heap.size W w'∧w'.heap[dC]?=some (.cells #[.int .i64 0,.int .i64 0,.int .i64 0,.bool false,.string ⟨#[]⟩,.string ⟨#[]⟩] 31 (0,0))∧W.heap.size≤dC
theorem Ef{b dC:Nat}{w W:World}(h:Below b w W)(ad:b≤dC)(v0 v1 v2 v3 v4 v5:Value):
 Below b w ((((((W.setCell ⟨dC,0,none⟩ v0).setCell ⟨dC,1,none⟩ v1).setCell ⟨dC,2,none⟩ v2).setCell ⟨dC,3,none⟩ v3).setCell ⟨dC,4,none⟩ v4).setCell ⟨dC,5,none⟩ v5):=
 (((((h.setCell ad v0).setCell ad v1).setCell ad v2).setCell ad v3).setCell ad v4).setCell ad v5
def nV(k er:Int)(b:Bool)(x s:ByteArray):Int×Bool×ByteArray:=if k=2 then(wrap64 er,b,if er=2 then x else s)else(0,false,⟨#[]⟩)
theorem ah9{k a n po:Int}{A:Option Addr}{m c:Nat}{x s:ByteArray}{w:World}(hq:∀W,Below w.heap.size w W→(convert 22 9 (.slice A m c)).run Tryz.prog W=.ok (.string s) W){er:Int}{b:Bool}(h:k≠2∨(k=2∧(er=1∨er=2∨er=3)∧a=(if b=true then er+128 else er))):
 Calls Tryz.prog 22 #[.agg #[.int .u8 k,.int .u8 a,.int .u8 n,.int .i64 po,.slice A m c,.string x]] w (qz w (.agg #[.int .i64 (wrap64 k),.int .i64 (nV k er b x s).1,.int .i64 po,.bool (nV k er b x s).2.1,.string s,.string (nV k er b x s).2.2])):=by
 have nj:=I hq;have aia:=I h;clear hq h;have az:=da (da (Below.refl w.heap.size w) (.cells #[.int .u8 k,.int .u8 a,.int .u8 n,.int .i64 po,.slice A m c,.string x] 47)) (.cells #[.int .i64 0,.int .i64 0,.int .i64 0,.bool false,.string ⟨#[]⟩,.string ⟨#[]⟩] 31);have aW:=iU (gV w (.cells #[.int .u8 k,.int .u8 a,.int .u8 n,.int .i64 po,.slice A m c,.string x] 47)) (.cells #[.int .i64 0,.int .i64 0,.int .i64 0,.bool false,.string ⟨#[]⟩,.string ⟨#[]⟩] 31);have fH:(w.alloc (.cells #[.int .u8 k,.int .u8 a,.int .u8 n,.int .i64 po,.slice A m c,.string x] 47)).heap.size=w.heap.size+1:=Array.size_push ..;have cv:=gV (w.alloc (.cells #[.int .u8 k,.int .u8 a,.int .u8 n,.int .i64 po,.slice A m c,.string x] 47)) (.cells #[.int .i64 0,.int .i64 0,.int .i64 0,.bool false,.string ⟨#[]⟩,.string ⟨#[]⟩] 31);have iu:((w.alloc (.cells #[.int .u8 k,.int .u8 a,.int .u8 n,.int .i64 po,.slice A m c,.string x] 47)).alloc (.cells #[.int .i64 0,.int .i64 0,.int .i64 0,.bool false,.string ⟨#[]⟩,.string ⟨#[]⟩] 31)).heap.size=w.heap.size+2:=(Array.size_push ..).trans (by rw[fH]);rw[fH]at cv;go_enter Tryz.func22,Tryz.ntmps22
 go_upto_region 1 with fail
 have fA:=I az;have bz:=I aW;have im:=I cv;have sO:=I iu;clear fH;generalize (w.alloc (.cells #[.int .u8 k,.int .u8 a,.int .u8 n,.int .i64 po,.slice A m c,.string x] 47)).alloc (.cells #[.int .i64 0,.int .i64 0,.int .i64 0,.bool false,.string ⟨#[]⟩,.string ⟨#[]⟩] 31)=cJ at az aW cv iu fA bz im sO⊢;have Eg:=I (fun V W (h0:Below cJ.heap.size cJ V) (h1:Below V.heap.size V W)=>nj.1 W (bw (bw fA.1 (Nat.le_refl _) h0) (Nat.le_refl _) h1));clear az aW cv iu;refine fX (n:=10) (S:=fun w'=>w'.cell? ⟨w.heap.size,0,none⟩=some (.int .u8 k)∧w'.cell? ⟨w.heap.size,1,none⟩=some (.int .u8 a)∧w'.cell? ⟨w.heap.size,2,none⟩=some (.int .u8 n)∧w'.cell? ⟨w.heap.size,3,none⟩=some (.int .i64 po)∧w'.cell? ⟨w.heap.size,4,none⟩=some (.slice A m c)∧w'.cell? ⟨w.heap.size,5,none⟩=some (.string x)) (ds:=[9]) #[false,false,false,false,false,false,false,false,false,false] aM rfl rfl ⟨(bg (cn bz.1 (Below.drew (Below.refl _ _))) 0).trans rfl,(bg (cn bz.1 (Below.drew (Below.refl _ _))) 1).trans rfl,(bg (cn bz.1 (Below.drew (Below.refl _ _))) 2).trans rfl,(bg (cn bz.1 (Below.drew (Below.refl _ _))) 3).trans rfl,(bg (cn bz.1 (Below.drew (Below.refl _ _))) 4).trans rfl,(bg (cn bz.1 (Below.drew (Below.refl _ _))) 5).trans rfl⟩ (fun hHeld=>?_);refine eb 0 4 ?_;refine eb 3 7 ?_;refine eb 5 9 ?_
 refine OF (σ:=Nat) 1 #[true,true,true,true,true,true,true,true,true,false] (fun dC=>[(4,.agg #[.int .u8 k,.int .u8 a,.int .u8 n,.int .i64 po,.slice A m c,.string x]),(5,.int .u8 k),(6,.int .i64 (wrap64 k)),(7,.agg #[.int .u8 k,.int .u8 a,.int .u8 n,.int .i64 po,.slice A m c,.string x]),(8,.int .i64 po),(9,.agg #[.int .u8 k,.int .u8 a,.int .u8 n,.int .i64 po,.slice A m c,.string x]),(10,.string s),(11,.agg #[.int .i64 (wrap64 k),.int .i64 0,.int .i64 po,.bool false,.string s,.string ⟨#[]⟩]),(3,.pointer (some ⟨dC,0,none⟩))]) (ah8 cJ) ?_ ?_
 rotate_left
 ·intro zn;refine EF (i:=1) (j:=8) (Ni:=some 5) (Nj:=some 3) #[true,true,false,true,false,true,false,false,false,false] #[true,false,false,true,false,true,false,false,true,false] rfl rfl rfl rfl aM (by decide) (by decide) (fun K aH=>?_) (fun K aH=>?_)
  ·skip
   refine TD ?_;intro v0 eV;have aC:=I (bw (Below.drew (Below.refl _ _)) (Nat.le_refl _) eV);refine SB ?_;clear eV aH K;intro hHeld;refine EF (i:=4) (j:=8) (Ni:=some 8) (Nj:=some 3) #[true,true,true,true,true,true,false,false,false,false] #[true,true,true,true,false,true,false,false,true,false] rfl rfl rfl rfl aM (by decide) (by decide) (fun K aH=>?_) (fun K aH=>?_)
   ·skip
    refine Lg ?_;intro v1 eV;have bM:=I (bw aC.1 (Nat.le_refl _) eV);refine Kn ?_;clear eV aH K;intro hHeld;refine EF (i:=6) (j:=8) (Ni:=some 10) (Nj:=some 3) #[true,true,true,true,true,true,true,false,false,false] #[true,true,true,true,true,true,false,false,true,false] rfl rfl rfl rfl aM (by decide) (by decide) (fun K aH=>?_) (fun K aH=>?_)
    ·skip
     refine GO ?_
     with_reducible refine(DN k a n po A m c x _ (fun W fD=>Eg.1 _ W bM.1 fD)).mono ?_
     refine Li ?_;intro v2 eV eP;refine F2 ?_;clear eV aH K;intro hHeld;refine gb 8 3 fun K aH=>?_;refine px ?_;refine aH.out _ _ ⟨(bg (cn bz.1 (bw eP.1 (Nat.le_refl _) (da (Below.refl _ _) _))) 0).trans rfl,(bg (cn bz.1 (bw eP.1 (Nat.le_refl _) (da (Below.refl _ _) _))) 1).trans rfl,(bg (cn bz.1 (bw eP.1 (Nat.le_refl _) (da (Below.refl _ _) _))) 2).trans rfl,(bg (cn bz.1 (bw eP.1 (Nat.le_refl _) (da (Below.refl _ _) _))) 3).trans rfl,(bg (cn bz.1 (bw eP.1 (Nat.le_refl _) (da (Below.refl _ _) _))) 4).trans rfl,(bg (cn bz.1 (bw eP.1 (Nat.le_refl _) (da (Below.refl _ _) _))) 5).trans rfl⟩ (fun hHeld=>?_);clear aH K;refine ik ?_;exact uM zD (zn v2.heap.size _ ⟨(bw eP.1 (Nat.le_refl _) (da (Below.refl _ _) _)),(gV v2 _),eP.1.size⟩)
    ·skip
     refine px ?_;refine aH.out _ _ ⟨(bg (cn bz.1 (bw bM.1 (Nat.le_refl _) (da (Below.refl _ _) _))) 0).trans rfl,(bg (cn bz.1 (bw bM.1 (Nat.le_refl _) (da (Below.refl _ _) _))) 1).trans rfl,(bg (cn bz.1 (bw bM.1 (Nat.le_refl _) (da (Below.refl _ _) _))) 2).trans rfl,(bg (cn bz.1 (bw bM.1 (Nat.le_refl _) (da (Below.refl _ _) _))) 3).trans rfl,(bg (cn bz.1 (bw bM.1 (Nat.le_refl _) (da (Below.refl _ _) _))) 4).trans rfl,(bg (cn bz.1 (bw bM.1 (Nat.le_refl _) (da (Below.refl _ _) _))) 5).trans rfl⟩ (fun hHeld=>?_);clear aH K;refine ik ?_;refine gb 6 10 fun K aH=>?_;refine GO ?_
     with_reducible refine(DN k a n po A m c x _ (fun W fD=>Eg.1 _ W (bw bM.1 (Nat.le_refl _) (da (Below.refl _ _) _)) fD)).mono ?_
     rintro e v2 ⟨rfl,eV⟩;refine⟨_,rfl,?_⟩;have eP:=I (bw (bw bM.1 (Nat.le_refl _) (da (Below.refl _ _) _)) (Nat.le_refl _) eV);have dn:=I (cn (gV v1 _) eV);refine F2 ?_;clear eV aH K;intro hHeld;exact uM zD (zn v1.heap.size _ ⟨eP.1,dn.1,bM.1.size⟩)
   ·skip
    refine px ?_;refine aH.out _ _ ⟨(bg (cn bz.1 (bw aC.1 (Nat.le_refl _) (da (Below.refl _ _) _))) 0).trans rfl,(bg (cn bz.1 (bw aC.1 (Nat.le_refl _) (da (Below.refl _ _) _))) 1).trans rfl,(bg (cn bz.1 (bw aC.1 (Nat.le_refl _) (da (Below.refl _ _) _))) 2).trans rfl,(bg (cn bz.1 (bw aC.1 (Nat.le_refl _) (da (Below.refl _ _) _))) 3).trans rfl,(bg (cn bz.1 (bw aC.1 (Nat.le_refl _) (da (Below.refl _ _) _))) 4).trans rfl,(bg (cn bz.1 (bw aC.1 (Nat.le_refl _) (da (Below.refl _ _) _))) 5).trans rfl⟩ (fun hHeld=>?_);clear aH K;refine ik ?_;refine gb 4 8 fun K aH=>?_;refine Lg ?_;intro v1 eV;have bM:=I (bw (bw aC.1 (Nat.le_refl _) (da (Below.refl _ _) _)) (Nat.le_refl _) eV);have dn:=I (cn (gV v0 _) eV);refine Kn ?_;clear eV aH K;intro hHeld;refine gb 6 10 fun K aH=>?_;refine GO ?_
    with_reducible refine(DN k a n po A m c x _ (fun W fD=>Eg.1 _ W bM.1 fD)).mono ?_
    refine Li ?_;intro v2 eV eP;have kM:=I (cn dn.1 eV);refine F2 ?_;clear eV aH K;intro hHeld;exact uM zD (zn v0.heap.size _ ⟨eP.1,kM.1,aC.1.size⟩)
  ·skip
   refine px ?_;refine aH.out _ _ ⟨(bg (cn bz.1 (bw (Below.drew (Below.refl _ _)) (Nat.le_refl _) (da (Below.refl _ _) _))) 0).trans rfl,(bg (cn bz.1 (bw (Below.drew (Below.refl _ _)) (Nat.le_refl _) (da (Below.refl _ _) _))) 1).trans rfl,(bg (cn bz.1 (bw (Below.drew (Below.refl _ _)) (Nat.le_refl _) (da (Below.refl _ _) _))) 2).trans rfl,(bg (cn bz.1 (bw (Below.drew (Below.refl _ _)) (Nat.le_refl _) (da (Below.refl _ _) _))) 3).trans rfl,(bg (cn bz.1 (bw (Below.drew (Below.refl _ _)) (Nat.le_refl _) (da (Below.refl _ _) _))) 4).trans rfl,(bg (cn bz.1 (bw (Below.drew (Below.refl _ _)) (Nat.le_refl _) (da (Below.refl _ _) _))) 5).trans rfl⟩ (fun hHeld=>?_);clear aH K;refine ik ?_;refine gb 1 5 fun K aH=>?_;refine TD ?_;intro v0 eV;have aC:=I (bw (bw (Below.drew (Below.refl _ _)) (Nat.le_refl _) (da (Below.refl _ _) _)) (Nat.le_refl _) eV);have dn:=I (cn (gV cJ.drew _) eV);refine SB ?_;clear eV aH K;intro hHeld;refine gb 4 8 fun K aH=>?_;refine Lg ?_;intro v1 eV;have bM:=I (bw aC.1 (Nat.le_refl _) eV);have kM:=I (cn dn.1 eV);refine Kn ?_;clear eV aH K;intro hHeld;refine gb 6 10 fun K aH=>?_;refine GO ?_
   with_reducible refine(DN k a n po A m c x _ (fun W fD=>Eg.1 _ W bM.1 fD)).mono ?_
   refine Li ?_;intro v2 eV eP;have Eh:=I (cn kM.1 eV);refine F2 ?_;clear eV aH K;intro hHeld;exact uM zD (zn cJ.heap.size _ ⟨eP.1,Eh.1,(show cJ.heap.size≤cJ.heap.size from Nat.le_refl _)⟩)
 rintro dC w0 ⟨az,hh,nK⟩;have aC:=I az;have dn:=I hh;have nC:=I nK;have hHeld:=True.intro;obtain⟨bW,bZ,b0,b1,b2,Z2,b3,b4,b5,b6,b7,b8⟩:=gO dn.1;clear az hh nK;refine uM (a':=?_) ?_ ?_
 rotate_left
 ·exact RX
 refine pZ 9 fun K aH=>?_;refine yt ?_;clear aH K;clear bW bZ b0 b1 b2 Z2 b3 b4 b5 b6 b7 b8;have U:=Ef (bw fA.1 (Nat.le_refl _) aC.1) (show w.heap.size≤dC from v8) (.int .i64 (wrap64 k)) (.int .i64 0) (.int .i64 po) (.bool false) (.string s) (.string ⟨#[]⟩);have ad:=Bl dn.1 (.int .i64 (wrap64 k)) (.int .i64 0) (.int .i64 po) (.bool false) (.string s) (.string ⟨#[]⟩);have cL:=(nT w0 dC (.int .i64 (wrap64 k)) (.int .i64 0) (.int .i64 po) (.bool false) (.string s) (.string ⟨#[]⟩) w.heap.size v8).trans (cn bz.1 aC.1);have iG:=(nT w0 dC (.int .i64 (wrap64 k)) (.int .i64 0) (.int .i64 po) (.bool false) (.string s) (.string ⟨#[]⟩) (w.heap.size+1) v8).trans (cn im.1 aC.1);generalize ((((((w0.setCell ⟨dC,0,none⟩ (.int .i64 (wrap64 k))).setCell ⟨dC,1,none⟩ (.int .i64 0)).setCell ⟨dC,2,none⟩ (.int .i64 po)).setCell ⟨dC,3,none⟩ (.bool false)).setCell ⟨dC,4,none⟩ (.string s)).setCell ⟨dC,5,none⟩ (.string ⟨#[]⟩))=ay at U ad cL iG⊢;have GQ:=I U;have aV:=I ad;have bj:=I cL;have hE:=I iG;clear U ad cL iG aC dn bz im Eg fA;rcases aia.1 with ad|⟨rfl,zS,rfl⟩
 ·have ix:=I ad;have a1:(k==2)=false:=beq_eq_false_iff_ne.mpr ad;clear ad;obtain⟨r4,r5,tY,tZ,ua,ub⟩:=kZ bj.1
  go_wp2_with(first|(go_at_call 21;refine(C8 k a n po A m c x _).mono ?_;refine TK ?_;intro w1 AD dn iZ vm;obtain⟨dc,jc,dv,rD,gf,rE,gF,rF,nv,rG,nw,rH⟩:=gO dn.1;obtain⟨bW,bZ,b0,b1,b2,Z2,b3,b4,b5,b6,b7,b8⟩:=gO vm.1))
  refine bodyPost_ret (v:=.agg #[.int .i64 (wrap64 k),.int .i64 0,.int .i64 po,.bool false,.string s,.string ⟨#[]⟩]) (by simp[results,Tryz.results22,go_sem,bW,b0,b2,b3,b5,b7,bZ,b1,Z2,b4,b6,b8,dc,dv,gf,gF,nv,nw]) rfl ⟨(by rw[show nV k er b x s=(0,false,⟨#[]⟩)from if_neg ix.1]),Ef AD.1 (by omega) _ _ _ _ _ _⟩
 ·have SI:=I (show∀W,Calls Tryz.prog 32 #[.agg #[.int .u8 2,.int .u8 (if b=true then er+128 else er),.int .u8 n,.int .i64 po,.slice A m c,.string x]] W (qz W (.int .u8 er))from fun W=>aeG er n po A m c x W zS);have gI:=I (show∀W,Calls Tryz.prog 33 #[.agg #[.int .u8 2,.int .u8 (if b=true then er+128 else er),.int .u8 n,.int .i64 po,.slice A m c,.string x]] W (qz W (.bool b))from fun W=>Ht er n po A m c x W zS);have lg:=I (show er=1→∀W,Below w.heap.size w W→Calls Tryz.prog 34 #[.agg #[.int .u8 2,.int .u8 (if b=true then er+128 else er),.int .u8 n,.int .i64 po,.slice A m c,.string x]] W (qz W (.string s))from fun e W fD=>(by subst e;exact aeH n po A m c x W (fun V pj=>nj.1 V (bw fD (Nat.le_refl _) pj))));have LF:=I (show er=2→∀W,Calls Tryz.prog 35 #[.agg #[.int .u8 2,.int .u8 (if b=true then er+128 else er),.int .u8 n,.int .i64 po,.slice A m c,.string x]] W (qz W (.string x))from fun e W=>(by subst e;exact aeI n po A m c x W));have yW:=I (show∀W,Below w.heap.size w W→Calls Tryz.prog 31 #[.agg #[.int .u8 2,.int .u8 (if b=true then er+128 else er),.int .u8 n,.int .i64 po,.slice A m c,.string x]] W (qz W (.string s))from fun W fD=>DN 2 _ n po A m c x W (fun V pj=>nj.1 V (bw fD (Nat.le_refl _) pj)));have y7:=I zS;clear zS;generalize (if b=true then er+128 else er)=a at*;obtain⟨r4,r5,tY,tZ,ua,ub⟩:=kZ bj.1
  go_upto_region 3 with(first|(go_at_call 21;refine(C8 2 a n po A m c x _).mono ?_;refine TK ?_;intro w1 AD dn iZ vm;obtain⟨r4,r5,tY,tZ,ua,ub⟩:=kZ iZ.1))
  clear r4 r5 tY tZ ua ub;refine fX (n:=9) (S:=fun w'=>w'.cell? ⟨w.heap.size,0,none⟩=some (.int .u8 2)∧w'.cell? ⟨w.heap.size,1,none⟩=some (.int .u8 a)∧w'.cell? ⟨w.heap.size,2,none⟩=some (.int .u8 n)∧w'.cell? ⟨w.heap.size,3,none⟩=some (.int .i64 po)∧w'.cell? ⟨w.heap.size,4,none⟩=some (.slice A m c)∧w'.cell? ⟨w.heap.size,5,none⟩=some (.string x)) (ds:=[6,8]) #[false,false,false,false,false,false,false,false,false] aM rfl rfl ⟨(bg (gl iZ.1) 0).trans rfl,(bg (gl iZ.1) 1).trans rfl,(bg (gl iZ.1) 2).trans rfl,(bg (gl iZ.1) 3).trans rfl,(bg (gl iZ.1) 4).trans rfl,(bg (gl iZ.1) 5).trans rfl⟩ (fun hHeld=>?_);refine eb 0 15 ?_;refine eb 3 18 ?_;refine gb 1 16 fun K aH=>?_;refine mQ Tryz.func32 aM rfl #[.agg #[.int .u8 2,.int .u8 a,.int .u8 n,.int .i64 po,.slice A m c,.string x]] (by rfl) rfl rfl mX ?_
  with_reducible refine(SI.1 _).mono ?_
  rintro e w1 ⟨rfl,eV⟩;refine⟨_,rfl,?_⟩;have Xg:=I (bw (AD.1.drew) (Nat.le_refl _) eV);have kM:=I (cn (gl dn.1) eV);have xl:=I (cn (gl iZ.1) eV);have Xh:=I (cn (gl vm.1) eV);clear eV;refine aH.out _ _ ⟨(bg xl.1 0).trans rfl,(bg xl.1 1).trans rfl,(bg xl.1 2).trans rfl,(bg xl.1 3).trans rfl,(bg xl.1 4).trans rfl,(bg xl.1 5).trans rfl⟩ (fun hHeld=>?_);clear aH K;refine ik ?_;refine eb 2 17 ?_;refine ax 5 20 ?_;refine gb 4 19 fun K aH=>?_;refine mQ Tryz.func33 aM rfl #[.agg #[.int .u8 2,.int .u8 a,.int .u8 n,.int .i64 po,.slice A m c,.string x]] (by rfl) rfl rfl mX ?_
  with_reducible refine(gI.1 _).mono ?_
  rintro e bf ⟨rfl,eV⟩;refine⟨_,rfl,?_⟩;have Xi:=I (bw Xg.1 (Nat.le_refl _) eV);have Eh:=I (cn kM.1 eV);have xm:=I (cn xl.1 eV);have Xj:=I (cn Xh.1 eV);clear eV;obtain⟨dc,jc,dv,rD,gf,rE,gF,rF,nv,rG,nw,rH⟩:=gO Eh.1;refine aH.out _ _ ⟨(bg xm.1 0).trans rfl,(bg xm.1 1).trans rfl,(bg xm.1 2).trans rfl,(bg xm.1 3).trans rfl,(bg xm.1 4).trans rfl,(bg xm.1 5).trans rfl⟩ (fun hHeld=>?_);clear aH K;refine ik ?_;refine pZ 6 fun K aH=>?_;refine tG ?_;refine aH.out _ _ ?_;clear aH K;refine ax 7 21 ?_;refine pZ 8 fun K aH=>?_;refine yt ?_;clear aH K;clear dc jc dv rD gf rE gF rF nv rG nw rH;have U:=(Xi.1.setCell (p:=⟨dC,1,none⟩) (show w.heap.size≤dC from v8) (.int .i64 (wrap64 er))).setCell (p:=⟨dC,3,none⟩) (show w.heap.size≤dC from v8) (.bool b);have ad:((bf.setCell ⟨dC,1,none⟩ (.int .i64 (wrap64 er))).setCell ⟨dC,3,none⟩ (.bool b)).heap[dC]?=some (.cells #[.int .i64 (wrap64 2),.int .i64 (wrap64 er),.int .i64 po,.bool b,.string s,.string ⟨#[]⟩] 31 (0,0)):=j7 (j7 Eh.1 1 (.int .i64 (wrap64 er)) rfl) 3 (.bool b) rfl;have cL:=((Below.heap_setCell (bf.setCell ⟨dC,1,none⟩ (.int .i64 (wrap64 er))) ⟨dC,3,none⟩ (.bool b) w.heap.size (by have:=sO.1;have:=nC.1;show w.heap.size≠dC;omega)).trans (Below.heap_setCell bf ⟨dC,1,none⟩ (.int .i64 (wrap64 er)) w.heap.size (by have:=sO.1;have:=nC.1;show w.heap.size≠dC;omega))).trans xm.1
  have iG:=((Below.heap_setCell (bf.setCell ⟨dC,1,none⟩ (.int .i64 (wrap64 er))) ⟨dC,3,none⟩ (.bool b) (w.heap.size+1) B8).trans (Below.heap_setCell bf ⟨dC,1,none⟩ (.int .i64 (wrap64 er)) (w.heap.size+1) B8)).trans Xj.1;generalize (bf.setCell ⟨dC,1,none⟩ (.int .i64 (wrap64 er))).setCell ⟨dC,3,none⟩ (.bool b)=WA at U ad cL iG⊢;have aaK:=I U;have aaL:=I ad;have SJ:=I cL;have aaM:=I iG;clear U ad cL iG GQ aV bj hE AD dn iZ vm Xg kM xl Xh Xi Eh xm Xj;obtain⟨r4,r5,tY,tZ,ua,ub⟩:=kZ SJ.1;rcases y7.1 with rfl|rfl|rfl
  ·go_upto_region 11 with(first|(refine Ko ?_;intro F7 x6 CQ z6 CR r4 r5 tY tZ ua ub)|(go_at_call 34;refine(lg.1 (by trivial) _ x6.1).mono ?_;refine Lj ?_;intro wc yv uo GS uq;obtain⟨dc,jc,dv,rD,gf,rE,gF,rF,nv,rG,nw,rH⟩:=gO uo.1;obtain⟨bW,bZ,b0,b1,b2,Z2,b3,b4,b5,b6,b7,b8⟩:=gO uq.1))
   clear dc jc bW bZ dv rD b0 b1 gf rE b2 Z2 gF rF b3 b4 nv rG b5 b6 nw rH b7 b8;have U:=yv.1.setCell (p:=⟨dC,5,none⟩) (show w.heap.size≤dC from v8) (.string s);have ad:(wc.setCell ⟨dC,5,none⟩ (.string s)).heap[dC]?=some (.cells #[.int .i64 (wrap64 2),.int .i64 (wrap64 1),.int .i64 po,.bool b,.string s,.string s] 31 (0,0)):=j7 uo.1 5 _ rfl;have iG:=(Below.heap_setCell wc ⟨dC,5,none⟩ (.string s) (w.heap.size+1) B8).trans uq.1;generalize wc.setCell ⟨dC,5,none⟩ (.string s)=WD at U ad iG⊢;have Ei:=I U;obtain⟨dc,jc,dv,rD,gf,rE,gF,rF,nv,rG,nw,rH⟩:=gO ad;obtain⟨bW,bZ,b0,b1,b2,Z2,b3,b4,b5,b6,b7,b8⟩:=gO iG;clear U ad iG
   go_wp2_with fail
   refine bodyPost_ret (v:=.agg #[.int .i64 (wrap64 2),.int .i64 (wrap64 1),.int .i64 po,.bool b,.string s,.string s]) (by simp[results,Tryz.results22,go_sem,bW,b0,b2,b3,b5,b7,bZ,b1,Z2,b4,b6,b8,dc,dv,gf,gF,nv,nw]) rfl ⟨(by rw[show nV 2 1 b x s=(wrap64 1,b,s)from rfl]),Ef Ei.1 (by omega) _ _ _ _ _ _⟩
  ·go_upto_region 11 with(first|(refine Ko ?_;intro F7 x6 CQ z6 CR r4 r5 tY tZ ua ub)|(go_at_call 35;refine(LF.1 (by trivial) _).mono ?_;refine Lj ?_;intro wc yv uo GS uq;obtain⟨dc,jc,dv,rD,gf,rE,gF,rF,nv,rG,nw,rH⟩:=gO uo.1;obtain⟨bW,bZ,b0,b1,b2,Z2,b3,b4,b5,b6,b7,b8⟩:=gO uq.1))
   clear dc jc bW bZ dv rD b0 b1 gf rE b2 Z2 gF rF b3 b4 nv rG b5 b6 nw rH b7 b8;have U:=yv.1.setCell (p:=⟨dC,5,none⟩) (show w.heap.size≤dC from v8) (.string x);have ad:(wc.setCell ⟨dC,5,none⟩ (.string x)).heap[dC]?=some (.cells #[.int .i64 (wrap64 2),.int .i64 (wrap64 2),.int .i64 po,.bool b,.string s,.string x] 31 (0,0)):=j7 uo.1 5 _ rfl;have iG:=(Below.heap_setCell wc ⟨dC,5,none⟩ (.string x) (w.heap.size+1) B8).trans uq.1;generalize wc.setCell ⟨dC,5,none⟩ (.string x)=WD at U ad iG⊢;have Ei:=I U;obtain⟨dc,jc,dv,rD,gf,rE,gF,rF,nv,rG,nw,rH⟩:=gO ad;obtain⟨bW,bZ,b0,b1,b2,Z2,b3,b4,b5,b6,b7,b8⟩:=gO iG;clear U ad iG
   go_wp2_with fail
   refine bodyPost_ret (v:=.agg #[.int .i64 (wrap64 2),.int .i64 (wrap64 2),.int .i64 po,.bool b,.string s,.string x]) (by simp[results,Tryz.results22,go_sem,bW,b0,b2,b3,b5,b7,bZ,b1,Z2,b4,b6,b8,dc,dv,gf,gF,nv,nw]) rfl ⟨(by rw[show nV 2 2 b x s=(wrap64 2,b,x)from rfl]),Ef Ei.1 (by omega) _ _ _ _ _ _⟩
  ·go_upto_region 11 with(first|(refine Ko ?_;intro F7 x6 CQ z6 CR r4 r5 tY tZ ua ub)|(go_at_call 31;refine(yW.1 _ x6.1).mono ?_;refine Lj ?_;intro wc yv uo GS uq;obtain⟨dc,jc,dv,rD,gf,rE,gF,rF,nv,rG,nw,rH⟩:=gO uo.1;obtain⟨bW,bZ,b0,b1,b2,Z2,b3,b4,b5,b6,b7,b8⟩:=gO uq.1))
   clear dc jc bW bZ dv rD b0 b1 gf rE b2 Z2 gF rF b3 b4 nv rG b5 b6 nw rH b7 b8;have U:=yv.1.setCell (p:=⟨dC,5,none⟩) (show w.heap.size≤dC from v8) (.string s);have ad:(wc.setCell ⟨dC,5,none⟩ (.string s)).heap[dC]?=some (.cells #[.int .i64 (wrap64 2),.int .i64 (wrap64 3),.int .i64 po,.bool b,.string s,.string s] 31 (0,0)):=j7 uo.1 5 _ rfl;have iG:=(Below.heap_setCell wc ⟨dC,5,none⟩ (.string s) (w.heap.size+1) B8).trans uq.1;generalize wc.setCell ⟨dC,5,none⟩ (.string s)=WD at U ad iG⊢;have Ei:=I U;obtain⟨dc,jc,dv,rD,gf,rE,gF,rF,nv,rG,nw,rH⟩:=gO ad;obtain⟨bW,bZ,b0,b1,b2,Z2,b3,b4,b5,b6,b7,b8⟩:=gO iG;clear U ad iG
   go_wp2_with fail
   refine bodyPost_ret (v:=.agg #[.int .i64 (wrap64 2),.int .i64 (wrap64 3),.int .i64 po,.bool b,.string s,.string s]) (by simp[results,Tryz.results22,go_sem,bW,b0,b2,b3,b5,b7,bZ,b1,Z2,b4,b6,b8,dc,dv,gf,gF,nv,nw]) rfl ⟨(by rw[show nV 2 3 b x s=(wrap64 3,b,s)from rfl]),Ef Ei.1 (by omega) _ _ _ _ _ _⟩
end Hs
namespace fx
open RowKit YtmpeadgiclfapaaGreatDoorW.PrintWords YtmpeadgiclfapaaGreatDoorW.PrintLast YtmpeadgiclfapaaGreatDoorW.PrintMore ei cP gJ eI eC gi j6 mG nt
section
variable {B s:List Int} (h:∃m,s=B.drop m)
include h
theorem aib:B.drop (B.length-s.length)=s:=by
 obtain⟨m,rfl⟩:=h;rw[List.length_drop];by_cases hm:m≤B.length
 ·rw[show B.length-(B.length-m)=m by omega]
 ·rw[List.drop_eq_nil_of_le (show B.length≤m by omega)];exact List.drop_eq_nil_of_le (by omega)
theorem sub_pos(n:Nat):cP.sub B (pos B s) (pos B s+n)=strOfNums (s.take n):=by
 rw[sub_eq];unfold eI.pos;rw[aib h]
end
def Ej(t:ByteArray):Prop:=∃y l,t=strOfNums (y::l)∧(y=34∨y=39)
def NI(w0:World)(v:Value)(t:cx):Prop:=
 ∃at_ kU A m c mK xs,v=.agg #[.int .u8 t.f0,.int .u8 at_,.int .u8 kU,.int .i64 t.f2,.slice A m c,.string mK]∧dZ w0 A m c xs∧
  (t.f0=2→at_=(if t.f3=true then t.f1+128 else t.f1)∧(t.f1=1∨t.f1=2∨t.f1=3)∧strOfNums xs=t.f4∧(t.f1=2→mK=t.f5)∧(t.f1≠2→t.f5=strOfNums xs))∧
  (t.f0≠2→t.f1=0∧t.f3=false∧t.f5=⟨#[]⟩∧(Ej t.f4∨strOfNums xs=t.f4))
def gC(w0 w:World)(g:Nat)(B:List Int)(lc af:Int)(r:nN)(e:Ending)(w':World):Prop:=
 match r with
 | .op=>True
 | .err=>oQ w0 w g B lc af e w'
 | .eof=>∃po A c,e=.returned (.tuple #[.agg #[.int .u8 1,.int .u8 0,.int .u8 0,.int .i64 po,.slice A 0 c,.string ⟨#[]⟩],.nilIface])∧dZ w0 A 0 c []∧∃eW fa,ey w0 w w' g B eW fa lc af
 | .tok t c=>∃v,e=.returned (.tuple #[v,.nilIface])∧NI w0 v t∧c.mode=t.f0∧ey w0 w w' g B c.s c.st.reverse lc af
 | .sep c=>∃po A m k,e=.returned (.tuple #[.agg #[.int .u8 c.mode,.int .u8 0,.int .u8 0,.int .i64 po,.slice A m k,.string ⟨#[]⟩],.nilIface])∧ey w0 w w' g B c.s c.st.reverse lc af
section
variable {w0 w w':World} {g:Nat} {B s st jS:List Int} {lc af kind:Int} {e:Ending}
section
variable (hp:ml w0 w g B s st lc af kind 1 e w')
include hp
theorem gC.Ek(ak:∃m,s=B.drop m)(dA:st=jS.reverse)(ad:kind≠2):gC w0 w g B lc af (one B kind jS s) e w':=by
 obtain⟨A,c,he,aZ,hd⟩:=hp;subst dA;exact⟨_,he,⟨0,0,A,1,c,⟨#[]⟩,s.take 1,rfl,aZ,fun h=>absurd h ad,fun _=>⟨rfl,rfl,rfl,.inr (sub_pos ak 1).symm⟩⟩,rfl,hd⟩
theorem gC.El(dA:st=jS.reverse):gC w0 w g B lc af (.sep ⟨kind,jS,eM (s.drop 1)⟩) e w':=by
 obtain⟨A,c,he,aZ,hd⟩:=hp;subst dA;exact⟨_,A,1,c,he,hd⟩
end
theorem gC.H4(hp:ml w0 w g B s st lc af 1 0 e w'):gC w0 w g B lc af .eof e w':=by
 obtain⟨A,c,he,aZ,hd⟩:=hp;rw[List.take_zero]at aZ;exact⟨_,A,c,he,aZ,_,_,hd⟩
theorem gC.su(hp:oQ w0 w g B lc af e w'):gC w0 w g B lc af .err e w':=hp
theorem gC.Xk(hp:qC w0 w g B s st lc af e w')(ak:∃m,s=B.drop m)(dA:st=jS.reverse):gC w0 w g B lc af (pb ca B jS s) e w':=by
 subst dA;unfold pb;cases ai:ga s with
 |no=>
  obtain⟨ty,v,he,eW,hd⟩:=hp.1 ai;rw[show ca.vr s=ga s from rfl,ai];exact⟨ty,v,he,eW,_,hd.m⟩
 |op=>
  rw[show ca.vr s=ga s from rfl,ai];trivial
 |yes n=>
  obtain⟨at_,kU,A,m,c,str,xs,he,aZ,ar,hd⟩:=hp.2 n ai;rw[show ca.vr s=ga s from rfl,ai];refine⟨_,he,⟨at_,kU,A,m,c,str,xs,rfl,aZ,fun h=>absurd (show(3:Int)=2 from h) (by decide),fun _=>⟨rfl,rfl,rfl,?_⟩⟩,rfl,hd.m⟩
  show Ej (cP.sub B (pos B s) (pos B s+n))∨strOfNums xs=cP.sub B (pos B s) (pos B s+n)
  rw[sub_pos ak];cases hi:fY s with
  |false=>exact .inr (by rw[(ar hi).2])
  |true=>
   refine .inl ?_;cases ae:s with
   |nil=>rw[ae]at hi;exact absurd hi (by decide)
   |cons y l=>
    have aX:y=34∨y=39:=by
     rw[ae]at hi
     simpa [fY,a8]using hi
    have aq:n≠0:=by
     rintro rfl;have an:=L5 _ _ _ ((Xc hi).2.1 0 ai);rw[List.drop_zero]at an;omega
    obtain⟨j8,rfl⟩:∃j8,n=j8+1:=⟨n-1,(by omega)⟩;exact⟨y,l.take j8,rfl,aX⟩
theorem gC.Xl(hp:k7 w0 w g B s st lc af e w')(ak:∃m,s=B.drop m)(dA:st=jS.reverse):gC w0 w g B lc af (kD ca B jS s) e w':=by
 subst dA;unfold kD;cases ai:fW s with
 |no=>
  obtain⟨ty,v,he,eW,hd⟩:=hp.1 ai;rw[show ca.br s=fW s from rfl,ai];exact⟨ty,v,he,eW,_,hd.m⟩
 |op=>
  rw[show ca.br s=fW s from rfl,ai];trivial
 |yes a=>
  obtain⟨k,n,str⟩:=a;obtain⟨A,c,mK,he,ad,h0,h2,aZ,hd⟩:=hp.2 k n str ai;rw[show ca.br s=fW s from rfl,ai]
  have key:∀(b:Bool) (hf:List Int),e=.returned (.tuple #[.agg #[.int .u8 2,.int .u8 (if b=true then k+128 else k),.int .u8 0,.int .i64 ((B.length-s.length:Nat):Int),.slice A n c,.string mK],.nilIface])→c6 w0 w w' g B hf jS.reverse lc af→
   gC w0 w g B lc af (.tok (qj B s 2 k n b str) ⟨2,jS,hf⟩) e w':=fun b hf he hd=>
   ⟨_,he,⟨_,0,A,n,c,mK,s.take n,rfl,aZ,fun _=>⟨rfl,ad,(sub_pos ak n).symm,h0,h2⟩,fun h=>absurd rfl h⟩,rfl,hd.m⟩
  show gC w0 w g B lc af (match eM (s.drop n)with|58::r=> .tok (qj B s 2 k n true str) ⟨2,jS,eM r⟩|hf=> .tok (qj B s 2 k n false str) ⟨2,jS,hf⟩) e w'
  have rl:eM (s.drop n)=bc false (s.drop n):=rfl;cases ae:bc false (s.drop n)with
  |nil=>
   rw[ae]at he hd;rw[rl,ae];exact key false [] he hd
  |cons y l=>
   rw[ae]at he hd;rw[rl,ae];by_cases aX:y=58
   ·subst aX;exact key true (bc false l) he hd
   ·have U:a8 (y::l) 58=false:=by simpa [a8]using aX
    rw[U]at he hd
    have:(match y::l with|58::r=>nN.tok (qj B s 2 k n true str) ⟨2,jS,eM r⟩|hf=>nN.tok (qj B s 2 k n false str) ⟨2,jS,hf⟩)=nN.tok (qj B s 2 k n false str) ⟨2,jS,y::l⟩:=by
     split
     ·rename_i r heq
      injection heq with h1 h0;exact absurd h1 aX
     ·rfl
    rw[this];exact key false _ he hd
end
abbrev lH(g:Nat)(m:Int)(w:World)(Q:Ending→World→Prop):Prop:=Calls Tryz.prog 29 #[.pointer (some ⟨g,0,none⟩),.int .u8 m] w Q
section
variable {w0 w:World} {g:Nat} {B s st:List Int} {lc af m:Int}
section
variable (ak:∃k,s=B.drop k)
include ak
theorem Xm(dR:kD ca B st.reverse s≠ .op)(h0:fW s=.no→lH g m w (k7 w0 w g B s st lc af))(h1:∀k n str,fW s=.yes (k,n,str)→lH g m w (k7 w0 w g B s st lc af)):
 lH g m w (gC w0 w g B lc af (kD ca B st.reverse s)):=by
 cases ai:fW s with
 |op=>exact absurd (by unfold kD;rw[show ca.br s=fW s from rfl,ai]) dR
 |no=>exact(h0 ai).mono fun e w' hp=>gC.Xl hp ak (List.reverse_reverse st).symm
 |yes a=>
  obtain⟨k,n,str⟩:=a;exact(h1 k n str ai).mono fun e w' hp=>gC.Xl hp ak (List.reverse_reverse st).symm
theorem NJ{x:Int}{t:List Int}(ae:s=x::t)(dR:jG ca B st.reverse s≠ .op)(h4:(x=123∨x=60)→lH g m w (ml w0 w g B s (st++[x]) lc af 4 1))(h0:x≠123→x≠60→ga s=.no→lH g m w (qC w0 w g B s st lc af))(h1:x≠123→x≠60→∀n,ga s=.yes n→lH g m w (qC w0 w g B s st lc af)):
 lH g m w (gC w0 w g B lc af (jG ca B st.reverse s)):=by
 by_cases hxo:x=123∨x=60
 ·have e:jG ca B st.reverse s=one B 4 (x::st.reverse) s:=by
   rw[ae];exact if_pos hxo
  rw[e];exact(h4 hxo).mono fun e w' hp=>gC.Ek hp ak (by simp) (by decide)
 ·have e:jG ca B st.reverse s=pb ca B st.reverse s:=by
   rw[ae];exact if_neg hxo
  rw[e]at dR⊢;have bn:x≠123:=fun h=>hxo (.inl h);have c8:x≠60:=fun h=>hxo (.inr h);cases ai:ga s with
  |op=>exact absurd (by unfold pb;rw[show ca.vr s=ga s from rfl,ai]) dR
  |no=>exact(h0 bn c8 ai).mono fun e w' hp=>gC.Xk hp ak (List.reverse_reverse st).symm
  |yes n=>exact(h1 bn c8 n ai).mono fun e w' hp=>gC.Xk hp ak (List.reverse_reverse st).symm
theorem NK{o:Int}{r:List Int}(au:st.reverse=o::r){x:Int}{t:List Int}(ae:s=x::t)(dR:iF ca B st.reverse s≠ .op)(ai:x=lC o→lH g m w (ml w0 w g B s st.dropLast lc af 5 1))(he:x=other (lC o)→lH g m w (oQ w0 w g B lc af))(h0:x≠lC o→x≠other (lC o)→fW s=.no→lH g m w (k7 w0 w g B s st lc af))(h1:x≠lC o→x≠other (lC o)→∀k n str,fW s=.yes (k,n,str)→lH g m w (k7 w0 w g B s st lc af)):
 lH g m w (gC w0 w g B lc af (iF ca B st.reverse s)):=by
 have hd:st.dropLast=r.reverse:=by
  have:st=(o::r).reverse:=by rw[←au,List.reverse_reverse]
  rw[this];simp
 have e:iF ca B st.reverse s=if x=lC o then one B 5 r s else if x=other (lC o)then .err else kD ca B st.reverse s:=by
  rw[au,ae];rfl
 rw[e]at dR⊢;by_cases hxc:x=lC o
 ·rw[if_pos hxc];exact(ai hxc).mono fun e w' hp=>gC.Ek hp ak hd (by decide)
 ·rw[if_neg hxc]at dR⊢;by_cases hxo:x=other (lC o)
  ·rw[if_pos hxo];exact(he hxo).mono fun e w' hp=>gC.su hp
  ·rw[if_neg hxo]at dR⊢;exact Xm ak dR (h0 hxc hxo) (h1 hxc hxo)
theorem H5(dA:st=[]){x:Int}{t:List Int}(ae:s=x::t)(dR:iF ca B st.reverse s≠ .op)(h0:fW s=.no→lH g m w (k7 w0 w g B s st lc af))(h1:∀k n str,fW s=.yes (k,n,str)→lH g m w (k7 w0 w g B s st lc af)):
 lH g m w (gC w0 w g B lc af (iF ca B st.reverse s)):=by
 have e:iF ca B st.reverse s=kD ca B st.reverse s:=by
  rw[dA,ae];rfl
 rw[e]at dR⊢;exact Xm ak dR h0 h1
end
end
def Xn:List Int→Prop
 |[]=>True
 |o::t=>(o=91→hN t=false)∧Xn t
structure iT(m:Int)(jS:List Int):Prop where
 ok:∀c∈jS,c=123∨c=60∨c=91
 md:m=0∨m=2∨m=3∨m=4∨m=5∨m=6∨m=7∨m=8∨m=9
 i0:m=0→jS=[]
 i2:m=2∨m=4∨m=7∨m=9→hN jS=false
 i4:m=4→jS≠[]
 i6:m=6→hN jS=true
 nl:Xn jS
theorem Xo{o:Int}{r:List Int}(h:o≠91):hN (o::r)=false:=by
 unfold hN;exact RY
section
variable {L:Lex} {B s st:List Int} {m:Int}
theorem zo(h:m=0∨m=4):next L B ⟨m,st,s⟩=iF L B st s:=if_pos h
theorem aic{r:List Int}:next L B ⟨2,st,91::r⟩=one B 6 (91::st) (91::r):=rfl
theorem NL{x:Int}{t:List Int}(h:x≠91):next L B ⟨2,st,x::t⟩=jG L B st (x::t):=by
 show(match x::t with|91::r=>one B 6 (91::st) (91::r)|s=>jG L B st s)=_
 exact RY
section
variable (hm:m=3∨m=5∨m=7)
include hm
theorem H6(an:hN st=false){x:Int}{t:List Int}(h1:x≠44)(h2:x≠59):next L B ⟨m,st,x::t⟩=iF L B st (x::t):=by
 unfold next;rw[if_neg rT,if_neg rT,if_pos hm];simp only[an,Bool.false_eq_true,if_false];split
 ·rename_i heq
  injection heq with h _;exact absurd h h1
 ·rename_i heq
  injection heq with h _;exact absurd h h2
 ·rfl
theorem H7(an:hN st=false):next L B ⟨m,st,[]⟩=iF L B st []:=by
 unfold next;rw[if_neg rT,if_neg rT,if_pos hm];simp only[an,Bool.false_eq_true,if_false]
theorem Em{t:List Int}:next L B ⟨m,st,44::t⟩=.sep ⟨8,st,eM t⟩:=by
 unfold next;rw[if_neg rT,if_neg rT,if_pos hm];cases an:hN st<;>simp[an]
theorem H8(an:hN st=false){t:List Int}:next L B ⟨m,st,59::t⟩=.sep ⟨9,st,eM t⟩:=by
 unfold next;rw[if_neg rT,if_neg rT,if_pos hm];simp[an]
theorem NM(an:hN st=true){t:List Int}:next L B ⟨m,st,93::t⟩=one B 7 st.tail (93::t):=by
 unfold next;rw[if_neg rT,if_neg rT,if_pos hm];simp[an]
theorem Bs(an:hN st=true)(h1:∀t,s≠93::t)(h2:∀t,s≠44::t):next L B ⟨m,st,s⟩=.err:=by
 unfold next;rw[if_neg rT,if_neg rT,if_pos hm];simp only[an,if_true]
end
theorem aid{t:List Int}:next L B ⟨6,st,93::t⟩=one B 7 st.tail (93::t):=rfl
theorem NN(h1:∀t,s≠93::t):next L B ⟨6,st,s⟩=jG L B st s:=by
 show(match s with|93::r=>one B 7 st.tail (93::r)|s=>jG L B st s)=_
 split
 ·rename_i heq
  exact absurd rfl (h1 _)
 ·rfl
theorem En(hm:m=8∨m=9)(an:hN st=false):next L B ⟨m,st,s⟩=iF L B st s:=by
 unfold next;rw[if_neg Fo,if_neg Fo,if_neg Fo,if_neg Fo];simp only[an,Bool.false_eq_true,if_false]
theorem NO(an:hN st=true):next L B ⟨8,st,s⟩=jG L B st s:=by
 unfold next;rw[if_neg (by simp),if_neg (by simp),if_neg (by simp),if_neg (by simp)];simp only[an,if_true]
end
structure Good(B:List Int)(c:fl):Prop where
 i:iT c.mode c.st
 k:bc false c.s=c.s
 l:c.st.length+c.s.length≤B.length
structure gv(B:List Int)(r:nN):Prop where
 t:∀t c,r=.tok t c→Good B c
 s:∀c,r=.sep c→Good B c
section
variable {L:Lex} {B st jS s:List Int} {m k:Int}
theorem gv.err:gv B .err:=⟨fun t c h=>(by cases h),fun c h=>(by cases h)⟩
theorem gv.eof:gv B .eof:=⟨fun t c h=>(by cases h),fun c h=>(by cases h)⟩
theorem gv.op:gv B .op:=⟨fun t c h=>(by cases h),fun c h=>(by cases h)⟩
theorem rI(s:List Int):(eM s).length≤s.length:=kC s false
theorem gv.one(hp:iT k jS)(an:jS.length≤st.length+1)(U:st.length+s.length≤B.length)(ak:s≠[]):gv B (one B k jS s):=by
 refine⟨fun t c h=>?_,fun c h=>by cases h⟩;cases h;have h0:=rI (s.drop 1);rw[List.length_drop]at h0;have h1:0<s.length:=List.length_pos_iff.mpr ak;exact⟨hp,vA _,(by show jS.length+(eM (s.drop 1)).length≤B.length;omega)⟩
theorem gv.sep{r:List Int}(hp:iT k st)(U:st.length+r.length≤B.length):gv B (.sep ⟨k,st,eM r⟩):=by
 refine⟨fun t c h=>(by cases h),fun c h=>?_⟩;cases h;have h0:=rI r;exact⟨hp,vA _,(by show st.length+(eM r).length≤B.length;omega)⟩
section
variable (h:iT m st)
include h
theorem iT.Xp(an:hN st=false):iT 2 st:=⟨h.ok,(by simp),(by simp),fun _=>an,(by simp),(by simp),h.nl⟩
theorem iT.aie:iT 3 st:=⟨h.ok,(by simp),(by simp),(by simp),(by simp),(by simp),h.nl⟩
theorem iT.aif:iT 8 st:=⟨h.ok,(by simp),(by simp),(by simp),(by simp),(by simp),h.nl⟩
theorem iT.aih(an:hN st=false):iT 9 st:=⟨h.ok,(by simp),(by simp),fun _=>an,(by simp),(by simp),h.nl⟩
end
theorem iT.aii{o:Int}(h:iT m (o::st)):iT 5 st:=⟨fun c ai=>h.ok c (List.mem_cons_of_mem _ ai),(by simp),(by simp),(by simp),(by simp),(by simp),h.nl.2⟩
theorem iT.Xq(h:iT m st)(an:hN st=true):iT 7 st.tail:=by
 cases st with
 |nil=>cases an
 |cons o r=>
  have aY:o=91:=by
   by_cases aY:o=91
   ·exact aY
   ·rw[Xo aY]at an;cases an
  exact⟨fun c ai=>h.ok c (List.mem_cons_of_mem _ ai),(by simp),(by simp),fun _=>h.nl.1 aY,(by simp),(by simp),h.nl.2⟩
theorem iT.aij(h:iT m st)(an:hN st=false):iT 6 (91::st):=⟨fun c ai=>(by
 rcases List.mem_cons.mp ai with rfl|ai
 ·exact .inr (.inr rfl)
 ·exact h.ok c ai),(by simp),(by simp),(by simp),(by simp),fun _=>rfl,fun _=>an,h.nl⟩
theorem iT.aik{x:Int}(h:iT m st)(ae:x=123∨x=60):iT 4 (x::st):=⟨fun c ai=>(by
 rcases List.mem_cons.mp ai with rfl|ai
 ·rcases ae with rfl|rfl
  ·exact .inl rfl
  ·exact .inr (.inl rfl)
 ·exact h.ok c ai),(by simp),(by simp),fun _=>Xo (by omega),(by simp),(by simp),fun h91=>absurd h91 (by omega),h.nl⟩
theorem gv.name(h:iT m st)(an:hN st=false)(U:st.length+s.length≤B.length):gv B (kD L B st s):=by
 unfold kD;split
 ·exact gv.err
 ·exact gv.op
 ·rename_i k n str _
  have h0:=rI (s.drop n);rw[List.length_drop]at h0;split
  ·rename_i r au
   have h1:=rI r;have h2:r.length+1=(eM (s.drop n)).length:=by rw[au];rfl
   refine⟨fun t c ed=>?_,fun c ed=>by cases ed⟩;cases ed;exact⟨h.Xp an,vA _,(by show st.length+(eM r).length≤B.length;omega)⟩
  ·refine⟨fun t c ed=>?_,fun c ed=>by cases ed⟩;cases ed;exact⟨h.Xp an,vA _,(by show st.length+(eM (s.drop n)).length≤B.length;omega)⟩
section
variable (h:iT m st) (U:st.length+s.length≤B.length)
include h U
theorem gv.NP:gv B (pb L B st s):=by
 unfold pb;split
 ·exact gv.err
 ·exact gv.op
 ·rename_i n _
  have h0:=rI (s.drop n);rw[List.length_drop]at h0;refine⟨fun t c ed=>?_,fun c ed=>by cases ed⟩;cases ed;exact⟨h.aie,vA _,(by show st.length+(eM (s.drop n)).length≤B.length;omega)⟩
theorem gv.val:gv B (jG L B st s):=by
 unfold jG;split
 ·exact gv.err
 ·split
  ·rename_i ae
   exact gv.one (h.aik ae) (by simp) U (by simp)
  ·exact gv.NP h U
end
theorem gv.field(h:iT m st)(an:hN st=false)(U:st.length+s.length≤B.length):gv B (iF L B st s):=by
 unfold iF;split
 ·exact gv.eof
 ·exact gv.err
 ·exact gv.name h an U
 ·split
  ·refine gv.one h.aii (st:=_) ?_ U (by simp);simp only[List.length_cons];omega
  ·split
   ·exact gv.err
   ·exact gv.name h an U
theorem gv.behind{m:Int}{st s:List Int}(hi:iT m st)(U:st.length+s.length≤B.length)(aA:hN st=false∨hN st=true)(w4:st.tail.length≤st.length+1)(hm:m=3∨m=5∨m=7):gv B (next L B ⟨m,st,s⟩):=by
 cases s with
 |nil=>
  rcases aA with aA|aA
  ·rw[H7 hm aA];exact gv.field hi aA U
  ·rw[Bs hm aA (fun t=>by simp) (fun t=>by simp)];exact gv.err
 |cons x t=>
  have az:st.length+t.length≤B.length:=by simp only[List.length_cons]at U;omega
  by_cases h0:x=44
  ·subst h0;rw[Em hm];exact gv.sep hi.aif az
  ·rcases aA with aA|aA
   ·by_cases h1:x=59
    ·subst h1;rw[H8 hm aA];exact gv.sep (hi.aih aA) az
    ·rw[H6 hm aA h0 h1];exact gv.field hi aA U
   ·by_cases h1:x=93
    ·subst h1;rw[NM hm aA];exact gv.one (hi.Xq aA) w4 U (by simp)
    ·rw[Bs hm aA (fun qq=>by simp[h1]) (fun qq=>by simp[h0])];exact gv.err
theorem Good.step{c:fl}(h:Good B c):gv B (next L B c):=by
 obtain⟨m,st,s⟩:=c;have hi:iT m st:=h.i;have U:st.length+s.length≤B.length:=h.l;clear h;have aA:hN st=false∨hN st=true:=by cases hN st<;>simp
 have w4:st.tail.length≤st.length+1:=by rw[List.length_tail];omega
 rcases hi.md with e|e|e|e|e|e|e|e|e
 ·subst e;rw[zo (.inl rfl)];exact gv.field hi (by rw[hi.i0 rfl];rfl) U
 ·subst e;cases s with
  |nil=>exact gv.err
  |cons x t=>
   by_cases ae:x=91
   ·subst ae;exact gv.one (hi.aij (hi.i2 (.inl rfl))) (by simp) U (by simp)
   ·rw[NL ae];exact gv.val hi U
 ·exact gv.behind hi U aA w4 (.inl e)
 ·subst e;rw[zo (.inr rfl)];exact gv.field hi (hi.i2 (.inr (.inl rfl))) U
 ·exact gv.behind hi U aA w4 (.inr (.inl e))
 ·subst e;cases s with
  |nil=>exact gv.err
  |cons x t=>
   by_cases ae:x=93
   ·subst ae;exact gv.one (hi.Xq (hi.i6 rfl)) w4 U (by simp)
   ·rw[NN (fun qq=>by simp[ae])];exact gv.val hi U
 ·exact gv.behind hi U aA w4 (.inr (.inr e))
 ·rcases aA with aA|aA
  ·rw[En (.inl e) aA];exact gv.field hi aA U
  ·subst e;rw[NO aA];exact gv.val hi U
 ·rw[En (.inr e) (hi.i2 (.inr (.inr (.inr e))))];exact gv.field hi (hi.i2 (.inr (.inr (.inr e)))) U
theorem Good.so(B:List Int):Good B ⟨0,[],eM B⟩:=⟨⟨fun c ai=>(by cases ai),.inl rfl,fun _=>rfl,fun h=>rfl,fun h=>absurd (show(0:Int)=4 from h) (by decide),fun h=>absurd (show(0:Int)=6 from h) (by decide),trivial⟩,vA _,by
 show 0+(eM B).length≤B.length
 have:=rI B;omega⟩
end
section
variable {w0 w w1:World} {g:Nat} {B s st:List Int} {lc af:Int} {f:DV}
section
variable (h:ir w0 w g B s st lc af f)
include h
theorem ir.zp(x:Int):ir w0 (w.setCell ⟨g,1,none⟩ (.int .u8 x)) g B s st lc x f:=
 ⟨j7 h.ft 1 _ rfl,h.ge,h.bu.setCell h.ge _,h.pQ,h.gm,h.jE,ab.mo h.hS (fun _ ad=>ad) _,h.sz,h.sl,h.lP⟩
theorem ir.Bt(x:Int):ir w0 (w.setCell ⟨g,2,none⟩ (.int .u8 x)) g B s st lc af {f with at_:=x}:=
 ⟨j7 h.ft 2 _ rfl,h.ge,h.bu.setCell h.ge _,h.pQ,h.gm,h.jE,ab.mo h.hS (fun _ ad=>ad) _,h.sz,h.sl,h.lP⟩
theorem ir.Eo(x:Int):ir w0 (w.setCell ⟨g,3,none⟩ (.int .u8 x)) g B s st lc af {f with kU:=x}:=
 ⟨j7 h.ft 3 _ rfl,h.ge,h.bu.setCell h.ge _,h.pQ,h.gm,h.jE,ab.mo h.hS (fun _ ad=>ad) _,h.sz,h.sl,h.lP⟩
theorem ir.H9(x:Int):ir w0 (w.setCell ⟨g,4,none⟩ (.int .i64 x)) g B s st lc af {f with po:=x}:=
 ⟨j7 h.ft 4 _ rfl,h.ge,h.bu.setCell h.ge _,h.pQ,h.gm,h.jE,ab.mo h.hS (fun _ ad=>ad) _,h.sz,h.sl,h.lP⟩
theorem ir.NQ(v:Value):ir w0 (w.setCell ⟨g,5,none⟩ v) g B s st lc af {f with Hy:=v}:=
 ⟨j7 h.ft 5 _ rfl,h.ge,h.bu.setCell h.ge _,h.pQ,h.gm,h.jE,ab.mo h.hS (fun _ ad=>ad) _,h.sz,h.sl,h.lP⟩
theorem ir.Xr(x:ByteArray):ir w0 (w.setCell ⟨g,6,none⟩ (.string x)) g B s st lc af {f with str:=x}:=
 ⟨j7 h.ft 6 _ rfl,h.ge,h.bu.setCell h.ge _,h.pQ,h.gm,h.jE,ab.mo h.hS (fun _ ad=>ad) _,h.sz,h.sl,h.lP⟩
end
theorem dK.NR(h:dK w0 w g B s st lc af)(k a n po:Int)(v:Value)(x:ByteArray):
 dK w0 ((((((w.setCell ⟨g,1,none⟩ (.int .u8 k)).setCell ⟨g,2,none⟩ (.int .u8 a)).setCell ⟨g,3,none⟩ (.int .u8 n)).setCell ⟨g,4,none⟩ (.int .i64 po)).setCell ⟨g,5,none⟩ v).setCell ⟨g,6,none⟩ (.string x)) g B s st lc k:=by
 obtain⟨f,aA⟩:=h;exact⟨_,(((((aA.zp k).Bt a).Eo n).H9 po).NQ v).Xr x⟩
theorem dK.DW(h:dK w0 w g B s st lc af)(x:Int):dK w0 (w.setCell ⟨g,0,none⟩ (.int .u8 x)) g B s st x af:=by
 obtain⟨f,aA⟩:=h;exact⟨_,aA.DW x⟩
theorem ey.put{eW fa:List Int}{xe sq:Int}(h:ey w0 w w1 g B s st lc af)(j:Nat)(v:Value)(hd:dK w0 (w1.setCell ⟨g,j,none⟩ v) g B eW fa xe sq):ey w0 w (w1.setCell ⟨g,j,none⟩ v) g B eW fa xe sq:=
 ⟨hd,(by have:=h.sz;simpa [World.setCell]using this),fun qD cells t U aU aw=>(Below.heap_setCell w1 ⟨g,j,none⟩ v qD aw).trans (h.k qD cells t U aU aw),hd.bu⟩
theorem ey.DW(h:ey w0 w w1 g B s st lc af)(x:Int):ey w0 w (w1.setCell ⟨g,0,none⟩ (.int .u8 x)) g B s st x af:=h.put 0 _ (h.d.DW x)
theorem ey.NR(h:ey w0 w w1 g B s st lc af)(k a n po:Int)(v:Value)(x:ByteArray):
 ey w0 w ((((((w1.setCell ⟨g,1,none⟩ (.int .u8 k)).setCell ⟨g,2,none⟩ (.int .u8 a)).setCell ⟨g,3,none⟩ (.int .u8 n)).setCell ⟨g,4,none⟩ (.int .i64 po)).setCell ⟨g,5,none⟩ v).setCell ⟨g,6,none⟩ (.string x)) g B s st lc k:=by
 obtain⟨f,aA⟩:=h.d;have h0:=h.put 1 _ ⟨_,aA.zp k⟩;have h1:=h0.put 2 _ ⟨_,(aA.zp k).Bt a⟩;have h2:=h1.put 3 _ ⟨_,((aA.zp k).Bt a).Eo n⟩;have h3:=h2.put 4 _ ⟨_,(((aA.zp k).Bt a).Eo n).H9 po⟩;have h4:=h3.put 5 _ ⟨_,((((aA.zp k).Bt a).Eo n).H9 po).NQ v⟩;exact h4.put 6 _ ⟨_,(((((aA.zp k).Bt a).Eo n).H9 po).NQ v).Xr x⟩
end
theorem aim{w:World}{di g:Nat}{v:Value}(u:FrameMode)(h1:w.cell? ⟨di,0,none⟩=some (.pointer (some ⟨g,0,none⟩)))(c0:w.cell? ⟨g,0,none⟩=some v)(z0:w.frozen? ⟨g,0,none⟩=false):
 CallsD Tryz.prog 28 #[.pointer (some ⟨di,0,none⟩)] u w fun e rp w'=>rp=u∧(e=.returned (.tuple #[])∧w'=w.setCell ⟨g,0,none⟩ (.int .u8 0)):=by
 go_enter_d Tryz.func28,Tryz.ntmps28
 go_wp2_with fail
 go_end0
 exact⟨rfl,rfl⟩
end fx
