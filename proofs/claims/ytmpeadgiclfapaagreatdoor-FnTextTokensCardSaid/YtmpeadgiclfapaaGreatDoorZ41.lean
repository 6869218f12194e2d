/- Part 39 of the proof (Ps4, Fn0, Fn1, Fn2, Fn3, Fn4, Px0). Conditions: each theorem's own. -/
import Derived.Test.YtmpeadgiclfapaaGreatDoorZ35
import Derived.Defers
import Derived.WideMake
set_option linter.all false
set_option maxHeartbeats 0
set_option maxRecDepth 100000
namespace Go.Proofs.YtmpeadgiclfapaaGreatDoor
namespace fx
open RowKit YtmpeadgiclfapaaGreatDoorW.PrintWords YtmpeadgiclfapaaGreatDoorW.PrintLast YtmpeadgiclfapaaGreatDoorW.PrintMore ei cP gJ eI eC gi j6
section
variable {w0 w ay:World} {aJ:Nat} {B s st:List Int} {lc af q:Int} {r t:List Int} {A:Option Addr} {n c:Nat} {v7:Value} {m:Nat} (h:lG w0 w ay aJ B s st lc af q r t A n c v7 m)
include h
theorem ahu(aU:t=[]):jR w0 w ay aJ B s st lc af q r A n c v7:=by
 refine j3 ?_;intro g ec dc eE dv dD dE eQ eR av;have et:=I aU;obtain rfl:n=0:=by rw[h.v.dN,aU];rfl
 clear aU h
 conv=>arg 2;whnf
 go_wp2_with fail
 refine Met.intro ?_;go_step;exact Bo.mk aM rfl rfl rfl rfl rfl rfl et.1 av.1
theorem ahv(eu:0<t.length)(h1:(ha t).1=65533)(h2:(ha t).2=1)(h0:128≤a6 t 0):jR w0 w ay aJ B s st lc af q r A n c v7:=by
 refine j3 ?_;intro g ec dc eE dv dD dE eQ eR av;refine lz ?_;intro bl gx fq bV dY m0 fi fj;have dO:=I (show(((ha t).1:Nat):Int)=65533 by rw[h1];rfl);have fP:=I (show(((ha t).2:Nat):Int)=1 by rw[h2];rfl);have dx:=I (h.inv.bad (by have:=h.ar;omega) h.lP eu h0 h2);clear h eu h1 h2 h0;exact Kb
theorem ahw{t1:List Int}(aU:t=0::t1):jR w0 w ay aJ B s st lc af q r A n c v7:=by
 refine j3 ?_;intro g ec dc eE dv dD dE eQ eR av;subst aU;have eu:0<(0::t1).length:=by simp
 refine lz ?_;intro bl gx fq bV dY m0 fi fj;have dO:=I (ah (x:=0) (t1:=t1) (by decide) (by decide)).1;have fP:=I (ah (x:=0) (t1:=t1) (by decide) (by decide)).2;have dx:=I (h.inv.zero (by have:=h.ar;omega));clear h eu;exact Kb
theorem ahx{t1:List Int}(aU:t=10::t1):jR w0 w ay aJ B s st lc af q r A n c v7:=by
 refine j3 ?_;intro g ec dc eE dv dD dE eQ eR av;subst aU;have eu:0<(10::t1).length:=by simp
 refine lz ?_;intro bl gx fq bV dY m0 fi fj;have dO:=I (ah (x:=10) (t1:=t1) (by decide) (by decide)).1;have fP:=I (ah (x:=10) (t1:=t1) (by decide) (by decide)).2;have dx:=I (h.inv.nl (by have:=h.ar;omega));clear h eu;exact Kb
end
end fx
namespace fx
open RowKit YtmpeadgiclfapaaGreatDoorW.PrintWords YtmpeadgiclfapaaGreatDoorW.PrintLast YtmpeadgiclfapaaGreatDoorW.PrintMore ei cP gJ eI eC gi j6 mG nt
theorem W4{s:List Int}(h0:0<bI s)(an:bI s≤100000){w0 w:World}(U:Below w0.heap.size w0 w)(cG:iS w0):
 Calls Tryz.prog 63 #[.string (strOfNums (s.take (bI s))),.int .i64 10,.int .i64 32] w fun e w'=>(∃z,(jx 0 s≤2147483647→e=.returned (.tuple #[.int .i64 z,.nilIface]))∧(2147483647<jx 0 s→∃ty v,e=.returned (.tuple #[.int .i64 z,.iface ty v])))∧Below w.heap.size w w':=by
 have dd:(strOfNums (s.take (bI s))).size≤100000:=by rw[tc,List.length_take];omega
 obtain⟨cY,cd⟩:=agu h0;by_cases h:jx 0 s≤2147483647
 ·obtain⟨v,aZ⟩:=cY h;refine(Tryz.strconv_ParseInt_10_at32_ok _ (by omega) v aZ w).mono ?_;rintro e w' ⟨rfl,hw⟩;refine⟨⟨v,fun _=>rfl,fun h1=>by omega⟩,?_⟩;rcases hw with rfl|⟨t,rfl⟩
  ·exact Below.refl _ _
  ·exact Lib.bytesWorld_below w 5 t
 ·obtain⟨ae,_,⟨yZ,mS,he⟩⟩:=cG.below U;refine(Tryz.strconv_ParseInt_10_at32_range _ (by omega) (cd (by omega)) (.iface yZ mS) w he (.inr ⟨_,_,rfl⟩)).mono ?_;rintro e w' ⟨N,rfl,_,_,U⟩;exact⟨⟨_,fun h1=>absurd h1 h,fun _=>⟨_,_,rfl⟩⟩,U⟩
theorem ahy{w:World}{di eS hM:Nat}{ty:TypeId}{v:Value}(u:FrameMode)(h3:w.cell? ⟨hM,0,none⟩=some (.iface ty v)):
 CallsD Tryz.prog 57 #[.pointer (some ⟨hM,0,none⟩),.pointer (some ⟨di,0,none⟩),.pointer (some ⟨eS,0,none⟩)] u w fun e rp w'=>rp=u∧(e=.returned (.tuple #[])∧w'=w):=by
 go_enter_d Tryz.func57,Tryz.ntmps57
 go_wp2_with fail
 go_end0
 exact⟨rfl,rfl⟩
def Nx(w0 zl w:World)(g:Nat)(B s st:List Int)(lc af k:Int)(eS:Nat)(v0 v2 v3 v4 v5:Value)(e:Ending)(w':World):Prop:=
 e=.returned (.tuple #[])∧w'.heap[eS]?=some (.cells #[v0,.int .u8 (if a8 s 58=true then k+128 else k),v2,v3,v4,v5] 47 (0,0))∧(∀b,b≠g→b≠eS→b<w.heap.size→w'.heap[b]?=w.heap[b]?)∧c6 w0 zl w' g B (if a8 s 58=true then bc false (s.drop 1)else s) st lc af
theorem ahz{w0 zl w:World}{g di eS hM:Nat}{B s st:List Int}{lc af k:Int}{v0 v2 v3 v4 v5:Value}(u:FrameMode)(hd:c6 w0 zl w g B s st lc af)(h1:w.cell? ⟨di,0,none⟩=some (.pointer (some ⟨g,0,none⟩)))(h3:w.cell? ⟨hM,0,none⟩=some .nilIface)(h2:w.heap[eS]?=some (.cells #[v0,.int .u8 k,v2,v3,v4,v5] 47 (0,0)))(ad:k=1∨k=2∨k=3)(U:zl.heap.size≤eS)(aw:g<zl.heap.size)(h0:w0.heap.size≤zl.heap.size):
 CallsD Tryz.prog 57 #[.pointer (some ⟨hM,0,none⟩),.pointer (some ⟨di,0,none⟩),.pointer (some ⟨eS,0,none⟩)] u w fun e rp w'=>rp=u∧Nx w0 zl w g B s st lc af k eS v0 v2 v3 v4 v5 e w':=by
 have cf:=I hd;have dW:=I h2;have a7:=I (And.intro U (And.intro aw h0));have aV:=I ad;have aT:=(bg h2 1).trans rfl;clear hd h2 U aw h0 ad;cases ai:a8 s 58 with
 |false=>
  have fZ:=I ai;clear ai
  go_enter_d Tryz.func57,Tryz.ntmps57
  go_wp2_with(first|(go_at_call 58;refine(VP cf.1.d 58).mono ?_;rintro bk w1 ⟨rfl,h4⟩;rw[fZ.1];rw[fZ.1,if_neg (by decide)]at h4;have H1:=I h4;clear h4))
  go_end0
  unfold Nx;rw[fZ.1,if_neg (by decide),if_neg (by decide)];exact⟨rfl,H1.1.k.ft dW.1 (by have:=a7.1;omega) (by simp),fun b az ee fo=>H1.1.k.2 b fo az (by simp),c6.after cf.1.k H1.1⟩
 |true=>
  have fZ:=I ai;clear ai;rcases aV.1 with rfl|rfl|rfl
  all_goals(
   go_enter_d Tryz.func57,Tryz.ntmps57
   go_wp2_with(first|(go_at_call 58;refine(VP cf.1.d 58).mono ?_;rintro bk w1 ⟨rfl,h4⟩;rw[fZ.1];rw[fZ.1,if_pos rfl]at h4;have H1:=I h4;have bj:=I (h4.k.ft dW.1 (by have:=a7.1;omega) (by simp));have z0:=fy bj.1 1;have d0:=(bg bj.1 1).trans rfl;clear h4))
   go_end0
   unfold Nx;rw[fZ.1,if_pos rfl,if_pos rfl];exact⟨rfl,j7 bj.1 1 _ rfl,fun b az ee fo=>(Below.heap_setCell _ ⟨eS,1,none⟩ _ b ee).trans (H1.1.k.2 b fo az (by simp)),(c6.after cf.1.k H1.1).jF ⟨_,bj.1⟩ (by decide) (by have:=a7.1;omega) (by have:=a7.1;omega) a7.1.1 1 _⟩)
def k7(w0 w:World)(g:Nat)(B s st:List Int)(lc af:Int)(e:Ending)(w':World):Prop:=
 (fW s=.no→∃ty v,e=.returned (.tuple #[eA,.iface ty v])∧∃eW,c6 w0 w w' g B eW st lc af)∧
 (∀k n str,fW s=.yes (k,n,str)→∃A c mK,e=.returned (.tuple #[.agg #[.int .u8 2,.int .u8 (if a8 (bc false (s.drop n)) 58=true then k+128 else k),.int .u8 0,.int .i64 ((B.length-s.length:Nat):Int),.slice A n c,.string mK],.nilIface])∧(k=1∨k=2∨k=3)∧(k=2→mK=str)∧(k≠2→str=strOfNums (s.take n))∧dZ w0 A n c (s.take n)∧c6 w0 w w' g B (if a8 (bc false (s.drop n)) 58=true then bc false ((bc false (s.drop n)).drop 1)else bc false (s.drop n)) st lc af)
def W5(Q:Exit→Act→World→Prop):Exit→Act→World→Prop
 | .panic _,_,_=>False
 |e,a,w=>Q e a w
theorem HX{P:Program}{c:Code}{Q:Exit→Act→World→Prop}{a:Act}{w:World}(h:c.wp P (W5 Q) a w):c.wp P Q a w:=by
 refine wp_mono h fun e a' w' ar=>?_;cases e with
 |panic ch=>exact ar.elim
 |normal=>exact ar
 |exit id=>exact ar
 |goto l=>exact ar
 |ret=>exact ar
 |outgrown=>exact ar
theorem KA{Q:Exit→Act→World→Prop}{a:Act}{w:World}(h:Q .normal a w):W5 Q .normal a w:=h
theorem P0{w0 w W:World}{g di eS hM:Nat}{B s st:List Int}{lc af:Int}{tmps:Array Value}{v0 v1 v2 v3 v4 v5:Value}{ty:TypeId}{v:Value}(t2:tmps[2]?.getD undef=.pointer (some ⟨eS,0,none⟩))(t3:tmps[3]?.getD undef=.pointer (some ⟨hM,0,none⟩))(j4:W.heap[eS]?=some (.cells #[v0,v1,v2,v3,v4,v5] 47 (0,0)))(bX:W.heap[hM]?=some (.cells #[.iface ty v] 49 (0,0)))(hp:k7 w0 w g B s st lc af (.returned (.tuple #[.agg #[v0,v1,v2,v3,v4,v5],.iface ty v])) W):
 bodyPostD Tryz.prog Tryz.f45 (k7 w0 w g B s st lc af) Exit.ret ⟨tmps,[⟨.fn (.func 57) #[.pointer (some ⟨hM,0,none⟩),.pointer (some ⟨di,0,none⟩),.pointer (some ⟨eS,0,none⟩)],#[]⟩]⟩ W:=by
 obtain⟨c0,c1,c2,c3,c4,c5⟩:=kZ j4;have d0:=(bg bX 0).trans rfl;refine TE ?_;refine(ahy .returning ((bg bX 0).trans rfl)).mono ?_;rintro e rp BN ⟨rfl,rfl,rfl⟩;have cr:=I hp;clear hp;simp[Leaves,settle,results,Tryz.results45,go_sem,t2,t3,c0,c1,c2,c3,c4,c5,d0];exact cr.1
theorem Ea{w0 w nu:World}{g:Nat}{B s st:List Int}{lc af:Int}{a0 cg a2 a3 a4 a5 z p:Value}(hd:c6 w0 w nu g B s st lc af)(aw:g<w.heap.size)(h0:w0.heap.size≤w.heap.size)(bh:nu.heap[w.heap.size]?=some (.cells #[p] 38 (0,0)))(bA:nu.heap[w.heap.size+1]?=some (.cells #[a0,cg,a2,a3,a4,a5] 47 (0,0)))(y3:nu.heap[w.heap.size+2]?=some (.cells #[z] 49 (0,0)))(v0 v1 v2 v3 v4 v5 e:Value):
 c6 w0 w (((((((nu.setCell ⟨w.heap.size+1,0,none⟩ v0).setCell ⟨w.heap.size+1,1,none⟩ v1).setCell ⟨w.heap.size+1,2,none⟩ v2).setCell ⟨w.heap.size+1,3,none⟩ v3).setCell ⟨w.heap.size+1,4,none⟩ v4).setCell ⟨w.heap.size+1,5,none⟩ v5).setCell ⟨w.heap.size+2,0,none⟩ e) g B s st lc af∧
 (((((((nu.setCell ⟨w.heap.size+1,0,none⟩ v0).setCell ⟨w.heap.size+1,1,none⟩ v1).setCell ⟨w.heap.size+1,2,none⟩ v2).setCell ⟨w.heap.size+1,3,none⟩ v3).setCell ⟨w.heap.size+1,4,none⟩ v4).setCell ⟨w.heap.size+1,5,none⟩ v5).setCell ⟨w.heap.size+2,0,none⟩ e).heap[w.heap.size+1]?=some (.cells #[v0,v1,v2,v3,v4,v5] 47 (0,0))∧
 (((((((nu.setCell ⟨w.heap.size+1,0,none⟩ v0).setCell ⟨w.heap.size+1,1,none⟩ v1).setCell ⟨w.heap.size+1,2,none⟩ v2).setCell ⟨w.heap.size+1,3,none⟩ v3).setCell ⟨w.heap.size+1,4,none⟩ v4).setCell ⟨w.heap.size+1,5,none⟩ v5).setCell ⟨w.heap.size+2,0,none⟩ e).heap[w.heap.size+2]?=some (.cells #[e] 49 (0,0))∧
 (((((((nu.setCell ⟨w.heap.size+1,0,none⟩ v0).setCell ⟨w.heap.size+1,1,none⟩ v1).setCell ⟨w.heap.size+1,2,none⟩ v2).setCell ⟨w.heap.size+1,3,none⟩ v3).setCell ⟨w.heap.size+1,4,none⟩ v4).setCell ⟨w.heap.size+1,5,none⟩ v5).setCell ⟨w.heap.size+2,0,none⟩ e).heap[w.heap.size]?=some (.cells #[p] 38 (0,0)):=by
 have h1:=c6.gg hd ⟨_,bA⟩ (by omega) (by omega) (by omega) v0 v1 v2 v3 v4 v5;have m0:=Bl bA v0 v1 v2 v3 v4 v5;have bn:=(nT nu (w.heap.size+1) v0 v1 v2 v3 v4 v5 (w.heap.size+2) (by omega)).trans y3;have bR:=(nT nu (w.heap.size+1) v0 v1 v2 v3 v4 v5 w.heap.size (by omega)).trans bh;generalize ((((((nu.setCell ⟨w.heap.size+1,0,none⟩ v0).setCell ⟨w.heap.size+1,1,none⟩ v1).setCell ⟨w.heap.size+1,2,none⟩ v2).setCell ⟨w.heap.size+1,3,none⟩ v3).setCell ⟨w.heap.size+1,4,none⟩ v4).setCell ⟨w.heap.size+1,5,none⟩ v5)=W at h1 m0 bn bR⊢;exact⟨h1.jF ⟨_,bn⟩ (by decide) (by omega) (by omega) (by omega) 0 e,(Below.heap_setCell W ⟨w.heap.size+2,0,none⟩ e (w.heap.size+1) (by simp)).trans m0,j7 bn 0 e rfl,(Below.heap_setCell W ⟨w.heap.size+2,0,none⟩ e w.heap.size (by simp)).trans bR⟩
theorem Ny{w0 w W:World}{g di eS hM:Nat}{B s s1 st:List Int}{lc af k:Int}{tmps:Array Value}{v0 v2 v3 v4 v5:Value}(t2:tmps[2]?.getD undef=.pointer (some ⟨eS,0,none⟩))(t3:tmps[3]?.getD undef=.pointer (some ⟨hM,0,none⟩))(hd:c6 w0 w W g B s1 st lc af)(eg:W.heap[di]?=some (.cells #[.pointer (some ⟨g,0,none⟩)] 38 (0,0)))(j4:W.heap[eS]?=some (.cells #[v0,.int .u8 k,v2,v3,v4,v5] 47 (0,0)))(bX:W.heap[hM]?=some (.cells #[.nilIface] 49 (0,0)))(ad:k=1∨k=2∨k=3)(U:w.heap.size≤eS)(aw:g<w.heap.size)(h0:w0.heap.size≤w.heap.size)(HY:hM≠g∧hM≠eS)(hp:∀aQ,c6 w0 w aQ g B (if a8 s1 58=true then bc false (s1.drop 1)else s1) st lc af→k7 w0 w g B s st lc af (.returned (.tuple #[.agg #[v0,.int .u8 (if a8 s1 58=true then k+128 else k),v2,v3,v4,v5],.nilIface])) aQ):
 bodyPostD Tryz.prog Tryz.f45 (k7 w0 w g B s st lc af) Exit.ret ⟨tmps,[⟨.fn (.func 57) #[.pointer (some ⟨hM,0,none⟩),.pointer (some ⟨di,0,none⟩),.pointer (some ⟨eS,0,none⟩)],#[]⟩]⟩ W:=by
 have dG:=I bX;have aC:=I HY;have cr:=I hp;refine TE ?_;refine(ahz .returning hd ((bg eg 0).trans rfl) ((bg bX 0).trans rfl) j4 ad U aw h0).mono ?_;rintro e rp BN ⟨rfl,rfl,aT,bh,bA⟩;have y3:=(bh hM HY.1 HY.2 (sv bX)).trans bX;have gP:=I (hp BN bA);obtain⟨c0,c1,c2,c3,c4,c5⟩:=kZ aT;have d0:=(bg y3 0).trans rfl;clear hd eg j4 bX ad U aw h0 HY hp aT y3 bh bA;generalize (if a8 s1 58=true then k+128 else k)=er at c1 gP;simp[Leaves,settle,results,Tryz.results45,go_sem,t2,t3,c0,c1,c2,c3,c4,c5,d0];exact gP.1
theorem ahA{w0 w:World}{g:Nat}{B s st:List Int}{lc af:Int}(h:dK w0 w g B s st lc af)(bL:s≠[])(ae:∃r,s=91::r∧a6 (bc false r) 0≠47)(bN:0<w0.heap.size∧∃ty v,w0.cell? ⟨0,0,none⟩=some (.iface ty v))(aq:fW s=.no):Calls Tryz.prog 45 #[.pointer (some ⟨g,0,none⟩)] w (k7 w0 w g B s st lc af):=by
 have dG:=I ae;have fk:=I bN;have tN:=I aq;clear ae bN aq;refine Ae ?_;intro cf bS cb bG fh ni aW fH iu az kR ly cv eK
 obtain⟨x,t,ak⟩:∃x t,s=x::t:=by
  cases s with
  |nil=>exact absurd rfl bL
  |cons x t=>exact⟨x,t,rfl⟩
 have av:=I ak;clear aW cv ni;refine yj ?_;intro wF;go_enter_defers Tryz.func45,Tryz.ntmps45
 go_upto_region 1 with fail
 refine Ag ?_;intro dO bz im kB;clear fH iu;generalize ((w.alloc (.cells #[.pointer (some ⟨g,0,none⟩)] 38)).alloc (.cells #[.int .u8 0,.int .u8 0,.int .u8 0,.int .i64 0,.slice none 0 0,.string ⟨#[]⟩] 47)).alloc (.cells #[.nilIface] 49)=cJ at ly kR eK az dO bz im kB⊢;have dL:=dO;have c1:=(bg ly 0).trans rfl;obtain⟨f,aA⟩:=dL.1.d;have c5:=aA.c5;refine Az ?_;clear c5;intro bt bR hA0 n aq dV m0 m1 al c5;have lj:=I (And.intro aq hA0);clear ly kR eK az dO aA ak cb bG h bL hA0 aq dV;obtain⟨r,au,h0⟩:=dG.1;have hI:=I au;have dW:=I h0;have aW:x=91:=by have:=av.1.symm.trans au;simp only[List.cons.injEq]at this;exact this.1
 subst aW;clear au h0
 go_wp2_with(first|(go_at_call 59;refine(Ha dL.1.d hI.1 dW.1 fk.1).mono ?_;rintro bk w1 hp;obtain⟨ty,Eb,rfl,h0⟩:=hp.1 (fun br bH e=>(Vd dW.1).2 (hI.1▸tN.1) br bH e);refine AF ?_;have H1:=I (c6.after dL.1.k h0);have bj:=I (h0.k.ft bz.1 cA (by simp));have hE:=I (h0.k.ft im.1 cA (by simp));have iZ:=I (h0.k.ft kB.1 cA (by simp));obtain⟨bW,bZ,b0,b1,b2,Z2,b3,b4,b5,b6,b7,b8⟩:=gO hE.1;refine Gg ?_;intro ya yb qb;clear hp h0))
 obtain⟨p0,ba,dy,gH⟩:=Ea H1.1 bS.1.1 bS.1.2 bj.1 hE.1 iZ.1 (.int .u8 0) (.int .u8 0) (.int .u8 0) (.int .i64 0) (.slice none 0 0) (.string ⟨#[]⟩) (.iface ty Eb);exact PZ
section
variable {w0 w:World} {g:Nat} {B s st:List Int} {lc af:Int} (h:dK w0 w g B s st lc af) (bL:s≠[])
include h bL
theorem ahB(ae:∃r,s=91::r∧a6 (bc false r) 0≠47)(bN:0<w0.heap.size∧∃ty v,w0.cell? ⟨0,0,none⟩=some (.iface ty v))(er:Int)(bn:Nat)(str:ByteArray)(aX:fW s=.yes (er,bn,str)):Calls Tryz.prog 45 #[.pointer (some ⟨g,0,none⟩)] w (k7 w0 w g B s st lc af):=by
 have dG:=I ae;have fk:=I bN;have lL:=I aX;clear ae bN aX;refine Ae ?_;intro cf bS cb bG fh ni aW fH iu az kR ly cv eK
 obtain⟨x,t,ak⟩:∃x t,s=x::t:=by
  cases s with
  |nil=>exact absurd rfl bL
  |cons x t=>exact⟨x,t,rfl⟩
 have av:=I ak;clear aW cv ni;refine yj ?_;intro wF;go_enter_defers Tryz.func45,Tryz.ntmps45
 go_upto_region 1 with fail
 refine Ag ?_;intro dO bz im kB;clear fH iu;generalize ((w.alloc (.cells #[.pointer (some ⟨g,0,none⟩)] 38)).alloc (.cells #[.int .u8 0,.int .u8 0,.int .u8 0,.int .i64 0,.slice none 0 0,.string ⟨#[]⟩] 47)).alloc (.cells #[.nilIface] 49)=cJ at ly kR eK az dO bz im kB⊢;have dL:=dO;have c1:=(bg ly 0).trans rfl;obtain⟨f,aA⟩:=dL.1.d;have c5:=aA.c5;refine Az ?_;clear c5;intro bt bR hA0 n aq dV m0 m1 al c5;have lj:=I (And.intro aq hA0);clear ly kR eK az dO aA ak cb bG h bL hA0 aq dV;obtain⟨r,au,h0⟩:=dG.1;have hI:=I au;have dW:=I h0;have aW:x=91:=by have:=av.1.symm.trans au;simp only[List.cons.injEq]at this;exact this.1
 subst aW;obtain⟨br,bH,aD,bx,db,fO,gW,aE⟩:=(Vd h0).1 er bn str (au▸lL.1);have nO:s.length=r.length+1:=by rw[au];rfl
 have cR:s.length-bH.length=bn:=by rw[nO,fO]
 have bP:bH=s.drop bn:=by rw[au];exact aE
 have gE:=I (And.intro aD bx);have dY:=I (And.intro cR bP);subst db gW;clear au h0 nO cR aD bx fO aE bP
 go_wp2_with(first|(go_at_call 59;refine(Ha dL.1.d hI.1 dW.1 fk.1).mono ?_;rintro bk w1 hp;obtain⟨ao,c9,rfl,bO,h0⟩:=hp.2 br bH gE.1.1 gE.1.2;rw[dY.1.1]at bO⊢;rw[dY.1.2]at h0;have bl:=I bO;have H1:=I (c6.after (dL.1).k h0);have bj:=I (h0.k.ft (bz.1) cA (by simp));have hE:=I (h0.k.ft (im.1) cA (by simp));have iZ:=I (h0.k.ft (kB.1) cA (by simp));obtain⟨bW,bZ,b0,b1,b2,Z2,b3,b4,b5,b6,b7,b8⟩:=gO hE.1;refine Gg ?_;intro ya yb qb;clear hp h0 bO))
 obtain⟨p0,ba,dy,gH⟩:=Ea H1.1 bS.1.1 bS.1.2 bj.1 hE.1 iZ.1 (.int .u8 2) (.int .u8 2) (.int .u8 0) (.int .i64 ((B.length-s.length:Nat):Int)) (.slice ao bn c9) (.string (strOfNums br)) (.nilIface)
 exact Ny rfl rfl p0 gH ba dy (by decide) (by omega) bS.1.1 bS.1.2 cA (fun aQ hd=>⟨fun aX=>(by rw[lL.1]at aX;cases aX),fun cd c8 kQ aX=>by
  rw[lL.1]at aX;simp only[jh.yes.injEq,Prod.mk.injEq]at aX;obtain⟨rfl,rfl,rfl⟩:=aX;exact⟨ao,c9,strOfNums br,rfl,(by decide),fun _=>rfl,fun h=>absurd rfl h,bl.1,hd⟩⟩)
theorem ahC(wB:∀t,s≠91::t)(k:Nat)(hh:0<k)(hp:hs false s=k)(aX:fW s=.yes (1,k,strOfNums (s.take k))):Calls Tryz.prog 45 #[.pointer (some ⟨g,0,none⟩)] w (k7 w0 w g B s st lc af):=by
 have cr:=I hp;have lL:=I aX;have ahD:=I (show k≤s.length by rw[←hp];exact VR _ _);clear hp aX;refine Ae ?_;intro cf bS cb bG fh ni aW fH iu az kR ly cv eK
 obtain⟨x,t,ak⟩:∃x t,s=x::t:=by
  cases s with
  |nil=>exact absurd rfl bL
  |cons x t=>exact⟨x,t,rfl⟩
 refine Gr ?_;intro av a1;clear aW cv ni;refine yj ?_;intro wF;go_enter_defers Tryz.func45,Tryz.ntmps45
 go_upto_region 1 with fail
 refine Ag ?_;intro dO bz im kB;clear fH iu;generalize ((w.alloc (.cells #[.pointer (some ⟨g,0,none⟩)] 38)).alloc (.cells #[.int .u8 0,.int .u8 0,.int .u8 0,.int .i64 0,.slice none 0 0,.string ⟨#[]⟩] 47)).alloc (.cells #[.nilIface] 49)=cJ at ly kR eK az dO bz im kB⊢;refine Gf ?_;clear ly kR eK az dO ak cb bG h bL;intro dL c1 f bt bR n r8 m0 m1 lj al c5;have cd:decide ((k:Int)>0)=true:=decide_eq_true (by omega);have cY:=eq_true (show(0:Int)<(k:Int)by omega);have fG:=eq_true hh;clear wB hh
 go_wp2_with(first|(go_at_call 60;refine(Bh false r8.1 zG).mono ?_;rintro bk w1 ⟨rfl,⟨dh,rfl⟩⟩;rw[cr.1])|(go_at_call 44;refine(nd (dL.1.drewN dh).d 2 1 k (by have:=ahD.1;omega)).mono ?_;rintro bk w1 ⟨ao,c9,rfl,bO,h0⟩;have bl:=I bO;have dW:=I (c6.after (dL.1.drewN dh).k h0);have bj:=I (h0.k.ft (zt bz.1 dh) cA (by simp));have hE:=I (h0.k.ft (zt im.1 dh) cA (by simp));have iZ:=I (h0.k.ft (zt kB.1 dh) cA (by simp));obtain⟨bW,bZ,b0,b1,b2,Z2,b3,b4,b5,b6,b7,b8⟩:=gO hE.1;refine Gg ?_;intro ya yb qb;clear bO h0))
 obtain⟨p0,ba,dy,gH⟩:=Ea dW.1 bS.1.1 bS.1.2 bj.1 hE.1 iZ.1 (.int .u8 2) (.int .u8 1) (.int .u8 0) (.int .i64 ((B.length-s.length:Nat):Int)) (.slice ao k c9) (.string ⟨#[]⟩) (.nilIface)
 exact Ny rfl rfl p0 gH ba dy (by decide) (by omega) bS.1.1 bS.1.2 cA (fun aQ hd=>⟨fun aX=>(by rw[lL.1]at aX;cases aX),fun fG bn kQ aX=>by
  rw[lL.1]at aX;simp only[jh.yes.injEq,Prod.mk.injEq]at aX;obtain⟨rfl,rfl,rfl⟩:=aX;exact⟨ao,c9,⟨#[]⟩,rfl,(by decide),fun h=>absurd h (by decide),fun _=>rfl,bl.1,hd⟩⟩)
end
theorem ahE{w0 w:World}{g:Nat}{B s st:List Int}{lc af:Int}(h:dK w0 w g B s st lc af)(bL:s≠[])(wB:∀t,s≠91::t)(cV:Lib.Utf8Tabs 4 5 w0)(hp:hs false s=0)(q2:ht s=none)(aq:fW s=.no):Calls Tryz.prog 45 #[.pointer (some ⟨g,0,none⟩)] w (k7 w0 w g B s st lc af):=by
 have cr:=I hp;have et:=I cV;have tN:=I aq;have dz:=I (show iy s=.agg #[.int .u8 0,.bool false,.int .i64 0,.int .i64 0]by unfold iy;rw[q2]);clear hp aq q2 cV;refine Ae ?_;intro cf bS cb bG fh ni aW fH iu az kR ly cv eK
 obtain⟨x,t,ak⟩:∃x t,s=x::t:=by
  cases s with
  |nil=>exact absurd rfl bL
  |cons x t=>exact⟨x,t,rfl⟩
 refine Gr ?_;intro av a1;clear aW cv ni;refine yj ?_;intro wF;go_enter_defers Tryz.func45,Tryz.ntmps45
 go_upto_region 1 with fail
 refine Ag ?_;intro dO bz im kB;clear fH iu;generalize ((w.alloc (.cells #[.pointer (some ⟨g,0,none⟩)] 38)).alloc (.cells #[.int .u8 0,.int .u8 0,.int .u8 0,.int .i64 0,.slice none 0 0,.string ⟨#[]⟩] 47)).alloc (.cells #[.nilIface] 49)=cJ at ly kR eK az dO bz im kB⊢;refine Gf ?_;clear ly kR eK az dO ak cb bG h bL;intro dL c1 f bt bR n r8 m0 m1 lj al c5;clear wB
 go_upto_region 8 with(first|(go_at_call 60;refine(Bh false r8.1 zG).mono ?_;rintro bk w1 ⟨rfl,⟨dh,rfl⟩⟩;rw[cr.1])|(go_at_call 61;refine(Kt (r8.1.below (jI (Below.refl _ _) dh)) fh.1.2 zG).mono ?_;rintro bk w1 ⟨rfl,az⟩;rw[dz.1];have aC:=I (bw (jI (Below.refl cJ.heap.size cJ) dh) (Nat.le_refl _) az);clear az))
 have cR:=gV w1 (.cells #[.int .u8 0,.bool false,.int .i64 0,.int .i64 0] 75);have az:=bw aC.1 (Nat.le_refl _) (da (Below.refl w1.heap.size w1) (.cells #[.int .u8 0,.bool false,.int .i64 0,.int .i64 0] 75));generalize w1.alloc (.cells #[.int .u8 0,.bool false,.int .i64 0,.int .i64 0] 75)=ay at cR az⊢;obtain⟨iC,sa⟩:∃iC,iC=w1.heap.size:=⟨_,rfl⟩;refine Ll ?_;clear cR az sa c1 c5 al;intro dY aC dc dv gf gF yd hT ue Ad c7 f0 cd bl oC
 go_wp2_with fail
 refine HX ?_;refine fX (n:=12) (S:=fun w'=>w'.cell? ⟨w.heap.size,0,none⟩=some (.pointer (some ⟨g,0,none⟩))∧w'.cell? ⟨g,10,none⟩=some (.slice f0.gX s.length f0.ci)) (ds:=[10,11]) #[false,false,false,false,false,false,false,false,false,false,false,false] aM rfl rfl ⟨(bg (cn hT.1 (Below.drew (Below.refl _ _))) 0).trans rfl,(oC.1.below (Below.drew (Below.refl _ _))).c5⟩ (fun hHeld=>?_);refine ax 0 70 ?_;refine eb 1 71 ?_;refine eb 2 72 ?_;refine ax 3 73 ?_;refine ax 4 74 ?_;refine eb 5 75 ?_;refine gb 6 76 fun K aH=>?_;refine mQ Tryz.func64 aM rfl #[.slice f0.gX s.length f0.ci] (by rfl) rfl rfl mX ?_
 with_reducible refine(VT (bl.1.below (Below.drew (Below.refl _ _))) (Utf8Tabs_below et.1 (dq oC.1.bu oC.1.bu.size (Below.drew (Below.refl _ _)))) fh.1.2 pB).mono ?_
 rintro aD w1 ⟨⟨ao,bn,kr,rfl⟩,az⟩;refine⟨_,rfl,?_⟩;have bM:=I (dq (Below.drew (Below.refl ay.heap.size ay)) (Below.drew (Below.refl ay.heap.size ay)).size az);clear az;refine aH.out _ _ ⟨(bg (cn hT.1 bM.1) 0).trans rfl,(oC.1.below bM.1).c5⟩ (fun hHeld=>?_);clear aH K;refine ik ?_;refine ax 7 77 ?_;refine gb 8 78 fun K aH=>?_;refine px ?_;refine aH.out _ _ ⟨(bg (cn hT.1 (bw bM.1 (Nat.le_refl _) (da (Below.refl _ _) _))) 0).trans rfl,(oC.1.below (bw bM.1 (Nat.le_refl _) (da (Below.refl _ _) _))).c5⟩ (fun hHeld=>?_);clear aH K;refine ik ?_;refine gb 9 79 fun K aH=>?_;refine mQ Tryz.func51 aM rfl #[.pointer (some ⟨g,0,none⟩),.string ⟨#[105,110,118,97,108,105,100,32,102,105,101,108,100,32,110,97,109,101,58,32,37,115]⟩,.slice (some ⟨w1.heap.size,0,none⟩) 1 1] (by rfl) rfl rfl mX ?_
 with_reducible refine(FD _ _ _ (by decide) _).mono ?_
 rintro bx bf ⟨⟨dI,dQ,rfl⟩,az⟩;refine⟨_,rfl,?_⟩;have eP:=I (bw bM.1 (Nat.le_refl _) (bw (da (Below.refl _ _) _) (Nat.le_refl _) az));have dW:=I (yd.1.below eP.1);have bj:=I (cn hT.1 eP.1);have hE:=I (cn ue.1 eP.1);have iZ:=I (cn Ad.1 eP.1);obtain⟨bW,bZ,b0,b1,b2,Z2,b3,b4,b5,b6,b7,b8⟩:=gO hE.1;have ya:=(bg iZ.1 0).trans rfl;have yb:=fy iZ.1 0;clear az;refine aH.out _ _ ⟨(bg (cn hT.1 eP.1) 0).trans rfl,(oC.1.below eP.1).c5⟩ (fun hHeld=>?_);clear aH K;refine ik ?_;refine pZ 10 fun K aH=>?_;refine tG ?_;refine aH.out _ _ ?_;clear aH K;have h0:=c6.gg dW.1 ⟨_,hE.1⟩ cA cA (by omega) (.int .u8 0) (.int .u8 0) (.int .u8 0) (.int .i64 0) (.slice none 0 0) (.string ⟨#[]⟩);have m2:=Bl hE.1 (.int .u8 0) (.int .u8 0) (.int .u8 0) (.int .i64 0) (.slice none 0 0) (.string ⟨#[]⟩);have bn:=(nT bf (w.heap.size+1) (.int .u8 0) (.int .u8 0) (.int .u8 0) (.int .i64 0) (.slice none 0 0) (.string ⟨#[]⟩) (w.heap.size+2) (by omega)).trans iZ.1;generalize ((((((bf.setCell ⟨w.heap.size+1,0,none⟩ (.int .u8 0)).setCell ⟨w.heap.size+1,1,none⟩ (.int .u8 0)).setCell ⟨w.heap.size+1,2,none⟩ (.int .u8 0)).setCell ⟨w.heap.size+1,3,none⟩ (.int .i64 0)).setCell ⟨w.heap.size+1,4,none⟩ (.slice none 0 0)).setCell ⟨w.heap.size+1,5,none⟩ (.string ⟨#[]⟩))=eJ at h0 m2 bn⊢;have H1:=I h0;have l9:=I m2;have lR:=I bn;have aky:=(bg bn 0).trans rfl;have akz:=fy bn 0;clear h0 m2 bn;refine pZ 11 fun K aH=>?_;refine yt ?_
 clear aH K;refine KA ?_
 go_wp2_with fail
 exact P0 rfl rfl ((Below.heap_setCell eJ ⟨w.heap.size+2,0,none⟩ _ (w.heap.size+1) (by simp)).trans l9.1) (j7 lR.1 0 _ rfl) ⟨fun _=>⟨_,_,rfl,_,H1.1.jF ⟨_,lR.1⟩ (by decide) cA cA (by omega) 0 _⟩,fun k n str aX=>by rw[tN.1]at aX;cases aX⟩
section
variable {w0 w:World} {g:Nat} {B s st:List Int} {lc af:Int} (h:dK w0 w g B s st lc af) (bL:s≠[]) (wB:∀t,s≠91::t) (cG:iS w0) (hp:hs false s=0) (sz:Nat) (dd:sz=bI s) (h0:0<sz) (q2:ht s=some (0,s.drop sz)) (h45:a8 s 45=false)
include h bL wB cG hp sz dd h0 q2 h45
theorem ahF(aZ:jx 0 s≤2147483647)(aX:fW s=.yes (3,sz,strOfNums (s.take sz))):Calls Tryz.prog 45 #[.pointer (some ⟨g,0,none⟩)] w (k7 w0 w g B s st lc af):=by
 refine SY ?_;intro cr gE Aj sp gr dz dS eZ Gm Gn KF;have lL:=I aX;have Nz:=I aZ;clear aX aZ;clear hp q2 h45 cG Aj gr dd h0;refine Ae ?_;intro cf bS cb bG fh ni aW fH iu az kR ly cv eK
 obtain⟨x,t,ak⟩:∃x t,s=x::t:=by
  cases s with
  |nil=>exact absurd rfl bL
  |cons x t=>exact⟨x,t,rfl⟩
 refine Gr ?_;intro av a1;clear aW cv ni;refine yj ?_;intro wF;go_enter_defers Tryz.func45,Tryz.ntmps45
 go_upto_region 1 with fail
 refine Ag ?_;intro dO bz im kB;clear fH iu;generalize ((w.alloc (.cells #[.pointer (some ⟨g,0,none⟩)] 38)).alloc (.cells #[.int .u8 0,.int .u8 0,.int .u8 0,.int .i64 0,.slice none 0 0,.string ⟨#[]⟩] 47)).alloc (.cells #[.nilIface] 49)=cJ at ly kR eK az dO bz im kB⊢;refine Gf ?_;clear ly kR eK az dO ak cb bG h bL;intro dL c1 f bt bR n r8 m0 m1 lj al c5;clear wB
 go_upto_region 8 with(first|(go_at_call 60;refine(Bh false r8.1 zG).mono ?_;rintro bk w1 ⟨rfl,⟨dh,rfl⟩⟩;rw[cr.1])|(refine SP ?_;intro bf aC))
 refine Tg ?_;intro cR az;generalize bf.alloc (.cells #[.int .u8 0,.bool false,.int .i64 (sz:Int),.int .i64 (sp:Int)] 75)=ay at cR az⊢;obtain⟨iC,sa⟩:∃iC,iC=bf.heap.size:=⟨_,rfl⟩;refine Ll ?_;clear cR az sa c1 c5 al;intro dY aC dc dv gf gF yd hT ue Ad c7 f0 cd bl oC
 go_wp2_with fail
 refine HX ?_;refine fX (n:=7) (S:=fun w'=>w'.cell? ⟨iC,0,none⟩=some (.int .u8 0)∧w'.cell? ⟨iC,1,none⟩=some (.bool false)∧w'.cell? ⟨iC,2,none⟩=some (.int .i64 (sz:Int))∧w'.cell? ⟨iC,3,none⟩=some (.int .i64 (sp:Int))∧w'.cell? ⟨w.heap.size,0,none⟩=some (.pointer (some ⟨g,0,none⟩))∧w'.cell? ⟨g,10,none⟩=some (.slice f0.gX s.length f0.ci)) (ds:=[]) #[false,false,false,false,false,false,false] aM rfl rfl ⟨(bg (cn dY.1 (Below.drew (Below.refl _ _))) 0).trans rfl,(bg (cn dY.1 (Below.drew (Below.refl _ _))) 1).trans rfl,(bg (cn dY.1 (Below.drew (Below.refl _ _))) 2).trans rfl,(bg (cn dY.1 (Below.drew (Below.refl _ _))) 3).trans rfl,(bg (cn hT.1 (Below.drew (Below.refl _ _))) 0).trans rfl,(oC.1.below (Below.drew (Below.refl _ _))).c5⟩ (fun hHeld=>?_);refine TJ ?_;intro K aH
 with_reducible refine(HA (bl.1.below (Below.drew (Below.refl _ _))) pB 0 false sz sp dS.1.1 dS.1.2 (fun e=>by cases e)).mono ?_
 rintro aD bf ⟨⟨str,rfl,mc⟩,az⟩;refine⟨_,rfl,?_⟩;have NA:=mc rfl rfl;subst NA;refine SR ?_;clear az mc aH K;intro bM ec eE iY jD hHeld bW ye CT CU oi;clear dc dv gf gF c7 cd
 have NB:aN (Calls Tryz.prog 63 #[.string (strOfNums (s.take sz)),.int .i64 10,.int .i64 32] bf fun e w'=>(∃z,(jx 0 s≤2147483647→e=.returned (.tuple #[.int .i64 z,.nilIface]))∧(2147483647<jx 0 s→∃ty v,e=.returned (.tuple #[.int .i64 z,.iface ty v])))∧Below bf.heap.size bf w'):=I (by
  rw[eZ.1];exact W4 (by have:=eZ.1;have:=dS.1;omega) (by have:=eZ.1;have:=dS.1;have:=fh.1;omega) (dK.bu bW.1.d) gE.1)
 go_wp2_with(first|(go_at_call 63;refine NB.1.mono ?_;rintro bk w1 ⟨⟨z,fH,iu⟩,az⟩;obtain rfl:=fH Nz.1;have aC:=I az;have r4:=(bg (cn oi.1 az) 2).trans rfl;have r5:=(bg (cn ye.1 az) 0).trans rfl;clear fH iu az)|(go_at_call 44;refine(nd (bW.1.below aC.1).d 2 3 sz dS.1.2).mono ?_;rintro bk w1 ⟨ao,c9,rfl,bO,h1⟩;have dP:=I bO;have dW:=I (c6.after (bW.1.below aC.1).k h1);have bj:=I (h1.k.ft (cn ye.1 aC.1) cA (by simp));have hE:=I (h1.k.ft (cn CT.1 aC.1) cA (by simp));have iZ:=I (h1.k.ft (cn CU.1 aC.1) cA (by simp));obtain⟨b0,bZ,b2,b1,b3,Z2,b5,b4,b7,b6,ahG,b8⟩:=gO hE.1;refine Gg ?_;intro ya yb qb;clear bO h1))
 obtain⟨p0,ba,dy,gH⟩:=Ea dW.1 bS.1.1 bS.1.2 bj.1 hE.1 iZ.1 (.int .u8 2) (.int .u8 3) (.int .u8 0) (.int .i64 ((B.length-s.length:Nat):Int)) (.slice ao sz c9) (.string ⟨#[]⟩) (.nilIface)
 exact Ny rfl rfl p0 gH ba dy (by decide) (by omega) bS.1.1 bS.1.2 cA (fun aQ hd=>⟨fun aX=>(by rw[lL.1]at aX;cases aX),fun cd bn kQ aX=>by
  rw[lL.1]at aX;simp only[jh.yes.injEq,Prod.mk.injEq]at aX;obtain⟨rfl,rfl,rfl⟩:=aX;exact⟨ao,c9,⟨#[]⟩,rfl,(by decide),fun h=>absurd h (by decide),fun _=>rfl,dP.1,hd⟩⟩)
theorem ahH(aZ:2147483647<jx 0 s)(aq:fW s=.no):Calls Tryz.prog 45 #[.pointer (some ⟨g,0,none⟩)] w (k7 w0 w g B s st lc af):=by
 refine SY ?_;intro cr gE Aj sp gr dz dS eZ Gm Gn KF;have tN:=I aq;have Nz:=I aZ;clear aq aZ;clear hp q2 h45 cG Aj gr dd h0;refine Ae ?_;intro cf bS cb bG fh ni aW fH iu az kR ly cv eK
 obtain⟨x,t,ak⟩:∃x t,s=x::t:=by
  cases s with
  |nil=>exact absurd rfl bL
  |cons x t=>exact⟨x,t,rfl⟩
 refine Gr ?_;intro av a1;clear aW cv ni;refine yj ?_;intro wF;go_enter_defers Tryz.func45,Tryz.ntmps45
 go_upto_region 1 with fail
 refine Ag ?_;intro dO bz im kB;clear fH iu;generalize ((w.alloc (.cells #[.pointer (some ⟨g,0,none⟩)] 38)).alloc (.cells #[.int .u8 0,.int .u8 0,.int .u8 0,.int .i64 0,.slice none 0 0,.string ⟨#[]⟩] 47)).alloc (.cells #[.nilIface] 49)=cJ at ly kR eK az dO bz im kB⊢;refine Gf ?_;clear ly kR eK az dO ak cb bG h bL;intro dL c1 f bt bR n r8 m0 m1 lj al c5;clear wB
 go_upto_region 8 with(first|(go_at_call 60;refine(Bh false r8.1 zG).mono ?_;rintro bk w1 ⟨rfl,⟨dh,rfl⟩⟩;rw[cr.1])|(refine SP ?_;intro bf aC))
 refine Tg ?_;intro cR az;generalize bf.alloc (.cells #[.int .u8 0,.bool false,.int .i64 (sz:Int),.int .i64 (sp:Int)] 75)=ay at cR az⊢;obtain⟨iC,sa⟩:∃iC,iC=bf.heap.size:=⟨_,rfl⟩;refine Ll ?_;clear cR az sa c1 c5 al;intro dY aC dc dv gf gF yd hT ue Ad c7 f0 cd bl oC
 go_wp2_with fail
 refine HX ?_;refine fX (n:=7) (S:=fun w'=>w'.cell? ⟨iC,0,none⟩=some (.int .u8 0)∧w'.cell? ⟨iC,1,none⟩=some (.bool false)∧w'.cell? ⟨iC,2,none⟩=some (.int .i64 (sz:Int))∧w'.cell? ⟨iC,3,none⟩=some (.int .i64 (sp:Int))∧w'.cell? ⟨w.heap.size,0,none⟩=some (.pointer (some ⟨g,0,none⟩))∧w'.cell? ⟨g,10,none⟩=some (.slice f0.gX s.length f0.ci)) (ds:=[]) #[false,false,false,false,false,false,false] aM rfl rfl ⟨(bg (cn dY.1 (Below.drew (Below.refl _ _))) 0).trans rfl,(bg (cn dY.1 (Below.drew (Below.refl _ _))) 1).trans rfl,(bg (cn dY.1 (Below.drew (Below.refl _ _))) 2).trans rfl,(bg (cn dY.1 (Below.drew (Below.refl _ _))) 3).trans rfl,(bg (cn hT.1 (Below.drew (Below.refl _ _))) 0).trans rfl,(oC.1.below (Below.drew (Below.refl _ _))).c5⟩ (fun hHeld=>?_);refine TJ ?_;intro K aH
 with_reducible refine(HA (bl.1.below (Below.drew (Below.refl _ _))) pB 0 false sz sp dS.1.1 dS.1.2 (fun e=>by cases e)).mono ?_
 rintro aD bf ⟨⟨str,rfl,mc⟩,az⟩;refine⟨_,rfl,?_⟩;have NA:=mc rfl rfl;subst NA;refine SR ?_;clear az mc aH K;intro bM ec eE iY jD hHeld bW ye CT CU oi;clear dc dv gf gF c7 cd
 have NB:aN (Calls Tryz.prog 63 #[.string (strOfNums (s.take sz)),.int .i64 10,.int .i64 32] bf fun e w'=>(∃z,(jx 0 s≤2147483647→e=.returned (.tuple #[.int .i64 z,.nilIface]))∧(2147483647<jx 0 s→∃ty v,e=.returned (.tuple #[.int .i64 z,.iface ty v])))∧Below bf.heap.size bf w'):=I (by
  rw[eZ.1];exact W4 (by have:=eZ.1;have:=dS.1;omega) (by have:=eZ.1;have:=dS.1;have:=fh.1;omega) (dK.bu bW.1.d) gE.1)
 go_wp2_with(first|(go_at_call 63;refine NB.1.mono ?_;rintro bk w1 ⟨⟨z,fH,iu⟩,az⟩;obtain⟨dI,v0,rfl⟩:=iu Nz.1;have aC:=I az;have r4:=(bg (cn oi.1 az) 2).trans rfl;have r5:=(bg (cn ye.1 az) 0).trans rfl;clear fH iu az)|(refine rZ ?_;rintro bk w3 ⟨⟨dI,dQ,rfl⟩,az⟩;have eP:=I (bw aC.1 (Nat.le_refl _) (bw (w:=w1) cX (Nat.le_refl _) az));have dW:=I (bW.1.below eP.1);have bj:=I (cn ye.1 eP.1);have hE:=I (cn CT.1 eP.1);have iZ:=I (cn CU.1 eP.1);obtain⟨b0,bZ,b2,b1,b3,Z2,b5,b4,b7,b6,ahG,b8⟩:=gO hE.1;have ya:=(bg iZ.1 0).trans rfl;have yb:=fy iZ.1 0;clear az))
 obtain⟨p0,ba,dy,gH⟩:=Ea dW.1 bS.1.1 bS.1.2 bj.1 hE.1 iZ.1 (.int .u8 0) (.int .u8 0) (.int .u8 0) (.int .i64 0) (.slice none 0 0) (.string ⟨#[]⟩) (.iface dI dQ);exact PZ
end
theorem aaN{w0 w:World}{g:Nat}{B s st:List Int}{lc af:Int}(h:dK w0 w g B s st lc af)(bL:s≠[])(dR:fW s≠ .op)(h47:∀r,s=91::r→a6 (bc false r) 0≠47)(cV:Lib.Utf8Tabs 4 5 w0)(cG:iS w0)(bN:0<w0.heap.size∧∃ty v,w0.cell? ⟨0,0,none⟩=some (.iface ty v)):Calls Tryz.prog 45 #[.pointer (some ⟨g,0,none⟩)] w (k7 w0 w g B s st lc af):=by
 cases s with
 |nil=>exact absurd rfl bL
 |cons x t=>
  by_cases ae:x=91
  ·subst ae;have ae:∃r,(91::t:List Int)=91::r∧a6 (bc false r) 0≠47:=⟨t,rfl,h47 t rfl⟩;cases aq:fW (91::t)with
   |op=>exact absurd aq dR
   |no=>exact ahA h bL ae bN aq
   |yes p=>
    obtain⟨er,bn,str⟩:=p;exact ahB h bL ae bN er bn str aq
  ·have aW:∀qq,(x::t:List Int)≠91::qq:=fun qq e=>ae (by simp only[List.cons.injEq]at e;exact e.1);cases aq:fW (x::t)with
   |op=>exact absurd aq dR
   |no=>
    obtain⟨h0,h1⟩:=aeV aq ae;rcases h1 with h1|⟨h1,h3,h4,h5⟩
    ·exact ahE h bL aW cV h0 h1 aq
    ·exact ahH h bL aW cG h0 _ rfl h5 h1 h3 h4 aq
   |yes p=>
    obtain⟨er,bn,str⟩:=p;rcases Vu aq ae with⟨rfl,h1,h3,rfl⟩|⟨rfl,h1,h3,h4,h5,h6,h7,h8,rfl⟩
    ·exact ahC h bL aW bn h3 h1 aq
    ·exact ahF h bL aW cG h1 bn h6 h4 h3 h7 h8 aq
end fx
namespace fx
open RowKit YtmpeadgiclfapaaGreatDoorW.PrintWords YtmpeadgiclfapaaGreatDoorW.PrintLast YtmpeadgiclfapaaGreatDoorW.PrintMore ei cP gJ eI eC gi
theorem u68:Tryz.prog.underlying 68=some (.map 5 5):=by kernel_rfl
theorem W6{W:World}{b clock:Nat}{es:Array MapEntry}{k x:Int}(U:W.heap[b]?=some (.map es clock))(aA:Instr.findNow (.int .u8) (.int .u8 k) es.toList 0=some none):
 ∃aQ,(Instr.mapUpdate 68 (.map (some b)) (.int .u8 k) (.int .u8 x)).run Tryz.prog W=.ok () aQ∧aQ.heap[b]?=some (.map (es.push {key:=.int .u8 k,val:=.int .u8 x,born:=clock}) (clock+1))∧Below b W aQ:=by
 have ai:(Instr.checkKey false 10000 5 (.int .u8 k)).run Tryz.prog W=.ok () W:=MapKept.run_checkKey (k:=.int .u8 k) (d:=.int .u8) Tryz.underlying5 rfl false 9999;have ak:=MapKept.heap_set (o':=.map (es.push {key:=.int .u8 k,val:=.int .u8 x,born:=clock}) (clock+1)) U;refine⟨{W with heap:=W.heap.setIfInBounds b (.map (es.push {key:=.int .u8 k,val:=.int .u8 x,born:=clock}) (clock+1))},?_,ak.1,⟨rfl,rfl,rfl,(by simp),fun j bq=>ak.2 j (by omega)⟩⟩;simp[Instr.mapUpdate,run_underlying u68,MapKept.run_getObj_map U,ai,MapKept.run_findKey Tryz.underlying5 aA,MapKept.run_setObj_map _ U,Result.andThen]
def HZ:Array MapEntry:=(#[].push {key:=.int .u8 125,val:=.int .u8 62,born:=0}).push {key:=.int .u8 62,val:=.int .u8 125,born:=1}
theorem aaS{W:World}{b:Nat}(U:W.heap[b]?=some (.map HZ 2)){c:Int}(ai:c=125∨c=62):
 (Instr.lookup 68 (.map (some b)) (.int .u8 c) false).run Tryz.prog W=.ok (.int .u8 (other c)) W:=by
 have ad:∀e,(Instr.checkKey e 10000 5 (.int .u8 c)).run Tryz.prog W=.ok () W:=fun e=>MapKept.run_checkKey (k:=.int .u8 c) (d:=.int .u8) Tryz.underlying5 rfl e 9999;rcases ai with rfl|rfl
 ·have aA:Instr.findNow (.int .u8) (.int .u8 125) HZ.toList 0=some (some (0,.int .u8 62)):=rfl;exact RV
 ·have aA:Instr.findNow (.int .u8) (.int .u8 62) HZ.toList 0=some (some (1,.int .u8 125)):=rfl;exact RV
def ahI(w:World)(e:Ending)(w':World):Prop:=∃b,e=.returned (.map (some b))∧w'.heap[b]?=some (.map HZ 2)∧Below w.heap.size w w'
theorem aaR(w:World):Calls Tryz.prog 50 #[] w (ahI w):=by
 have akA:=@run_makeMap Tryz.prog;have az:(w.alloc (.map #[] 0)).heap[w.heap.size]?=some (.map #[] 0):=heap_alloc_new w _;obtain⟨cJ,h0,ee,jM⟩:=W6 (k:=125) (x:=62) az rfl;obtain⟨ay,h1,uF,W7⟩:=W6 (k:=62) (x:=125) ee rfl;have a7:=I (((da (Below.refl w.heap.size w) (.map #[] 0)).trans jM).trans W7);have cW:=I uF;clear az ee uF jM W7;go_enter Tryz.func50,Tryz.ntmps50
 go_wp2_with fail
 go_ret;exact⟨_,rfl,cW.1,a7.1⟩
end fx
