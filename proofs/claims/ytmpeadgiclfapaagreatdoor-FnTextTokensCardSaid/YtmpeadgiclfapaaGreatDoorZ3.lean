/- Part 1 of the proof (T3, T4). Conditions: each theorem's own. -/
import Derived.Test.YtmpeadgiclfapaaGreatDoorZ1
set_option linter.all false
set_option maxHeartbeats 0
set_option maxRecDepth 100000
namespace Go.Proofs.YtmpeadgiclfapaaGreatDoor
namespace ei
open RowKit YtmpeadgiclfapaaGreatDoorW.PrintWords YtmpeadgiclfapaaGreatDoorW.PrintLast YtmpeadgiclfapaaGreatDoorW.PrintMore
attribute [local go_sem] sB sC sD sF sG sH sI sJ
def kT.aj:Nat→Bool→List Int→Int→Int→Option (Bool)
 |0,_,_,_,_=>none
 |k+1,bX,dX,x7,x8=>if x8<x7 then(if 0≤x8 then(if x8<(dX.length:Int)then(if bX=true then(if(rd dX x8)=47 then(some true)else(if(rd dX x8)=35 then(some true)else(if(rd dX x8)=91 then(kT.aj k true dX x7 (wrap64 (x8+1)))else(if(rd dX x8)=32 then(kT.aj k true dX x7 (wrap64 (x8+1)))else(if(rd dX x8)=9 then(kT.aj k true dX x7 (wrap64 (x8+1)))else(if(rd dX x8)=10 then(kT.aj k true dX x7 (wrap64 (x8+1)))else(kT.aj k ((rd dX x8)==13) dX x7 (wrap64 (x8+1)))))))))else(if(rd dX x8)=91 then(kT.aj k true dX x7 (wrap64 (x8+1)))else(kT.aj k false dX x7 (wrap64 (x8+1)))))else(none))else(none))else(some false)
def kT.f(k:Nat)(aj:List Int):Option (Bool):=kT.aj k false aj (aj.length:Int) 0
theorem kT.o9:∀k,(∀aT bh bA y3,gj (kT.aj k aT bh bA y3) (kT.aj (k+1) aT bh bA y3))
 |0=>fun _ _ _ _ r h=>by simp[kT.aj]at h
 |k+1=>by
  have rQ:=kT.o9 k
  ·intro aT bh bA y3;unfold kT.aj;exact lI
theorem kT.calls(k:Nat)(ao:Option Addr)(c0:Nat)(aj:List Int)(r:Bool)(w:World)(bP:ab.C (ab.int .u8) w ao aj.length aj)(eT:aj.length≤c0)(h:kT.f k aj=some r):
 Calls Tryz.prog 6 #[.slice ao aj.length c0] w fun e w'=>e=.returned (.bool r)∧eO w w':=by
 have cK:=I bP;have dj:=I eT;clear bP eT;have H:=h;unfold kT.f at H;clear h;have aK:=I H;clear H;go_enter Tryz.func6,Tryz.ntmps6;go_wp2
 go_loopg [3,8] k (fun bp v0 v1 w'=>∃(bm:Bool) (b9:Int),v0=.bool bm∧v1=.int .i64 b9∧aN (kT.aj bp bm aj (aj.length:Int) b9=some r)∧aN (bp≤k)∧eO w w')
 case atStart=>exact⟨(false),(0),bJ,bJ,aK,⟨Nat.le_refl _⟩,dH⟩
 case round=>
  clear aK;obtain⟨bm,b9,rfl,rfl,bo,dn,⟨m0,rfl⟩⟩:=hrel;cases gk with
  |zero=>exact absurd bo.1 (by simp[kT.aj])
  |succ cY=>
   have H:=bo.1;clear bo;simp only[kT.aj]at H;revert H;refine eo ?_ ?_<;>intro ho H
   ·revert H;refine fg ?_;intro hc;refine fg ?_;intro hy H;by_cases c5:bm=true
    ·subst c5;refine mz ?_;clear H;refine dF ?_ ?_<;>intro gq gU H
     ·exact FP
     ·revert H;refine dF ?_ ?_<;>intro hG iN H
      ·exact FP
      ·revert H;refine dF ?_ ?_<;>intro je k5 H
       ·exact zO
       ·revert H;refine dF ?_ ?_<;>intro nM q9 H
        ·exact zO
        ·revert H;refine dF ?_ ?_<;>intro nH tg H
         ·exact zO
         ·revert H;refine dF ?_ ?_<;>intro ra AH H
          ·exact zO
          ·have aK:=I H;clear H;obtain⟨dp,aD,eY,p0,a1⟩:=gY cK.1 b9;cases aD;go_wp2;go_roundg cY
           case measure=>have:=dn.1;omega
           case rel=>exact⟨(((rd aj b9)==13)),(wrap64 (b9+1)),bJ,bJ,aK,⟨qP⟩,dH⟩
    ·replace c5:=Bool.eq_false_iff.mpr c5;subst c5;refine kf ?_;clear H;refine dF ?_ ?_<;>intro gq gU H
     ·exact zO
     ·exact QK
   ·exact nc
structure fC where
 A:Option Addr
 length:Nat
 c:Nat
def cj(w0 W:World)(g:Nat)(f0:List Int)(f1:Int)(f2:Int)(f3:fC):Prop:=∃ao c0,∃cZ c3,W.heap[g]?=some (.cells #[.slice ao f0.length c0,.int .i64 f1,.int .i64 f2,.slice cZ f3.length c3] 35 (0,0))∧w0.heap.size≤g∧ab.C (ab.int .u8) w0 ao f0.length f0∧(cZ=f3.A∧c3=f3.c∧f0.length≤c0)
section
variable {w0 W:World} {g:Nat} {f0:List Int} {f1:Int} {f2:Int} {f3:fC}
theorem cj.grown{ay:World}{row:Option Nat}(h:cj w0 W g f0 f1 f2 f3)(hw:W.grownBy ay row)(bL:some g≠row):cj w0 ay g f0 f1 f2 f3:=by
 obtain⟨ao,c0,bd,c3,U,aw,bP,ff⟩:=h;exact⟨ao,c0,bd,c3,qF U hw bL,aw,bP,ff⟩
theorem cj.fresh(h:cj w0 W g f0 f1 f2 f3):∀k,W.heap.size≤k→k≠g:=by
 obtain⟨ao,c0,bd,c3,U,aw,bP,ff⟩:=h;exact ab.EC U
theorem cj.below{ay:World}(h:cj w0 W g f0 f1 f2 f3)(hw:Below W.heap.size W ay):cj w0 ay g f0 f1 f2 f3:=h.grown (Oc hw none) (by simp)
end
theorem cj.alloc{w0 W:World}{g:Nat}{f0:List Int}{f1:Int}{f2:Int}{f3:fC}(h:cj w0 W g f0 f1 f2 f3)(o:Obj):cj w0 (W.alloc o) g f0 f1 f2 f3:=h.below (da (Below.refl _ _) o)
theorem cj.drewN{w0 W:World}{g:Nat}{f0:List Int}{f1:Int}{f2:Int}{f3:fC}(h:cj w0 W g f0 f1 f2 f3)(m:Nat):cj w0 (W.drewN m) g f0 f1 f2 f3:=h
theorem cj.drew{w0 W:World}{g:Nat}{f0:List Int}{f1:Int}{f2:Int}{f3:fC}(h:cj w0 W g f0 f1 f2 f3):cj w0 W.drew g f0 f1 f2 f3:=h
section
variable {w0 W:World} {g:Nat} {f0:List Int} {f1:Int} {f2:Int} {f3:fC}
theorem cj.at_{w':World}{m:Nat}(ar:W.drewN m=w')(h:cj w0 W g f0 f1 f2 f3):cj w0 w' g f0 f1 f2 f3:=by subst ar;exact cj.drewN h m
section
variable {α:Type} {d:ab α} {e:Nat} {base:Nat} {ok:Nat→Prop} {v:Value} {xs:List α} (h:cj w0 W g f0 f1 f2 f3) (aY:d.R e W base ok v xs)
include h aY
theorem cj.apart(aU:∀q,q∈e::d.E→q≠35):d.R e W base (fun k=>ok k∧k≠g) v xs:=by
 obtain⟨ao,c0,bd,c3,U,aw,bP,ff⟩:=h;exact ab.Ok aY U aU
theorem cj.vM(aU:e≠35):some g≠v.ownBlock:=by
 obtain⟨ao,c0,bd,c3,U,aw,bP,ff⟩:=h;exact ab.pV aY U aU
end
theorem cj.lt(h:cj w0 W g f0 f1 f2 f3):g<W.heap.size:=by
 obtain⟨ao,c0,bd,c3,U,aw,bP,ff⟩:=h;exact sv U
theorem cj.ge(h:cj w0 W g f0 f1 f2 f3):w0.heap.size≤g:=by
 obtain⟨ao,c0,bd,c3,U,aw,bP,ff⟩:=h;exact aw
theorem cj.jF{p:Addr}(h:cj w0 W g f0 f1 f2 f3)(bL:g≠p.block)(u:Value):cj w0 (W.setCell p u) g f0 f1 f2 f3:=by
 obtain⟨ao,c0,bd,c3,U,aw,bP,ff⟩:=h;exact⟨ao,c0,bd,c3,X9 U bL u,aw,bP,ff⟩
end
section
variable {W:World} {g:Nat} {ao:Option Addr} {c0:Nat} {cZ:Option Addr} {c3:Nat} {f0:List Int} {f1:Int} {f2:Int} {f3:fC} (h:W.heap[g]?=some (.cells #[.slice ao f0.length c0,.int .i64 f1,.int .i64 f2,.slice cZ f3.length c3] 35 (0,0)))
include h
theorem CM:W.cell? ⟨g,0,none⟩=some (.slice ao f0.length c0):=(bg h 0).trans rfl
theorem CN:W.cell? ⟨g,1,none⟩=some (.int .i64 f1):=(bg h 1).trans rfl
end
theorem cj.xI{w0 W:World}{g:Nat}{f0:List Int}{f1:Int}{f2:Int}{f3:fC}(h:cj w0 W g f0 f1 f2 f3)(x:Int):cj w0 (W.setCell ⟨g,1,none⟩ (.int .i64 x)) g f0 x f2 f3:=by
 obtain⟨ao,c0,bd,c3,U,aw,bP,ff⟩:=h;exact⟨ao,c0,bd,c3,(by simpa using Eu U 1 (.int .i64 x)),aw,bP,ff⟩
theorem CO{W:World}{g:Nat}{ao:Option Addr}{c0:Nat}{cZ:Option Addr}{c3:Nat}{f0:List Int}{f1:Int}{f2:Int}{f3:fC}(h:W.heap[g]?=some (.cells #[.slice ao f0.length c0,.int .i64 f1,.int .i64 f2,.slice cZ f3.length c3] 35 (0,0))):W.cell? ⟨g,2,none⟩=some (.int .i64 f2):=(bg h 2).trans rfl
theorem cj.B0{w0 W:World}{g:Nat}{f0:List Int}{f1:Int}{f2:Int}{f3:fC}(h:cj w0 W g f0 f1 f2 f3)(x:Int):cj w0 (W.setCell ⟨g,2,none⟩ (.int .i64 x)) g f0 f1 x f3:=by
 obtain⟨ao,c0,bd,c3,U,aw,bP,ff⟩:=h;exact⟨ao,c0,bd,c3,(by simpa using Eu U 2 (.int .i64 x)),aw,bP,ff⟩
theorem CP{W:World}{g:Nat}{ao:Option Addr}{c0:Nat}{cZ:Option Addr}{c3:Nat}{f0:List Int}{f1:Int}{f2:Int}{f3:fC}(h:W.heap[g]?=some (.cells #[.slice ao f0.length c0,.int .i64 f1,.int .i64 f2,.slice cZ f3.length c3] 35 (0,0))):W.cell? ⟨g,3,none⟩=some (.slice cZ f3.length c3):=(bg h 3).trans rfl
theorem cj.new(w0 W:World)(ao:Option Addr)(c0:Nat)(cZ:Option Addr)(c3:Nat)(f0:List Int)(f1:Int)(f2:Int)(f3:fC)(dw:Below w0.heap.size w0 W)(bP:ab.C (ab.int .u8) w0 ao f0.length f0)(Ls:(cZ=f3.A∧c3=f3.c∧f0.length≤c0)):cj w0 (W.alloc (.cells #[.slice ao f0.length c0,.int .i64 f1,.int .i64 f2,.slice cZ f3.length c3] 35)) W.heap.size f0 f1 f2 f3:=⟨ao,c0,cZ,c3,(by simpa using heap_alloc_new W _),dw.size,bP,Ls⟩
def nJ.f(bY:List Int)(ez:Int)(eL:Int)(cQ:fC):Option (Int×Int):=if eL=1 then(some (ez,2))else(some (ez,eL))
theorem nJ.calls(g:Nat)(bY:List Int)(ez:Int)(eL:Int)(cQ:fC)(r1:Int)(fe:Int)(w0 w:World)(fJ:cj w0 w g bY ez eL cQ)(dw:Below w0.heap.size w0 w)(h:nJ.f bY ez eL cQ=some (r1,fe)):
 Calls Tryz.prog 13 #[.pointer (some ⟨g,0,none⟩)] w fun e w'=>e=.returned (.tuple #[])∧cj w0 w' g bY r1 fe cQ∧Below w0.heap.size w0 w'∧cI w w' g none:=by
 refine ug ?_;clear fJ dw;intro bE aV fh iw a7 H;unfold nJ.f at H;clear h;revert H;refine dF ?_ ?_<;>intro ho hc H
 ·exact Sn
 ·exact Sn
def wy.f(bY:List Int)(ez:Int)(eL:Int)(cQ:fC):Option (Bool×Int×Int):=some ((eL==1),ez,eL)
theorem wy.calls(g:Nat)(bY:List Int)(ez:Int)(eL:Int)(cQ:fC)(r1:Bool)(fe:Int)(iM:Int)(w0 w:World)(fJ:cj w0 w g bY ez eL cQ)(dw:Below w0.heap.size w0 w)(h:wy.f bY ez eL cQ=some (r1,fe,iM)):
 Calls Tryz.prog 14 #[.pointer (some ⟨g,0,none⟩)] w fun e w'=>e=.returned (.bool r1)∧cj w0 w' g bY fe iM cQ∧Below w0.heap.size w0 w'∧cI w w' g none:=by
 refine ug ?_;clear fJ dw;intro bE aV fh iw a7 H;unfold wy.f at H;clear h;refine jC ?_;clear H;rintro⟨rfl,rfl,rfl⟩;refine j1 ?_;intro jk jl jm jn iA jo jq jr js jt ju jv;go_enter Tryz.func14,Tryz.ntmps14;go_wp2;go_ret;exact⟨lh,dU,dT,dB⟩
mutual
def fu.aj:Nat→List Int→Int→Int→fC→Option (Int×Int)
 |0,_,_,_,_=>none
 |k+1,x1000,dJ,x1002,x1003=>if dJ<(x1000.length:Int)then(if 0≤dJ then(if(rd x1000 dJ)=32 then(fu.cD k (rd x1000 dJ) ((rd x1000 dJ)==32) x1000 dJ x1002 x1003)else(if(rd x1000 dJ)=9 then(fu.cD k (rd x1000 dJ) ((rd x1000 dJ)==9) x1000 dJ x1002 x1003)else(if(rd x1000 dJ)=13 then(fu.cD k (rd x1000 dJ) ((rd x1000 dJ)==13) x1000 dJ x1002 x1003)else(fu.cD k (rd x1000 dJ) ((rd x1000 dJ)==10) x1000 dJ x1002 x1003))))else(none))else(some (dJ,x1002))
def fu.cD:Nat→Int→Bool→List Int→Int→Int→fC→Option (Int×Int)
 |0,_,_,_,_,_,_=>none
 |k+1,x21,x22,x1000,dJ,x1002,x1003=>if x22=true then(fu.aj k x1000 (wrap64 (dJ+1)) x1002 x1003)else(if x21=35 then(fu.cC k x1000 dJ x1002 x1003)else(if x21=11 then((nJ.f x1000 dJ x1002 x1003).bind fun TU=>(some (TU.1,TU.2)))else(if x21=12 then((nJ.f x1000 dJ x1002 x1003).bind fun TV=>(some (TV.1,TV.2)))else(some (dJ,x1002)))))
def fu.cC:Nat→List Int→Int→Int→fC→Option (Int×Int)
 |0,_,_,_,_=>none
 |k+1,x1000,dJ,x1002,x1003=>if dJ<(x1000.length:Int)then(if 0≤dJ then(if(rd x1000 dJ)=10 then(fu.aj k x1000 dJ x1002 x1003)else(fu.cC k x1000 (wrap64 (dJ+1)) x1002 x1003))else(none))else(fu.aj k x1000 dJ x1002 x1003)
end
def fu.f(k:Nat)(bY:List Int)(ez:Int)(eL:Int)(cQ:fC):Option (Int×Int):=fu.aj k bY ez eL cQ
theorem fu.o9:∀k,(∀aT bh bA y3,gj (fu.aj k aT bh bA y3) (fu.aj (k+1) aT bh bA y3))∧(∀aT bh bA y3 y4 hg,gj (fu.cD k aT bh bA y3 y4 hg) (fu.cD (k+1) aT bh bA y3 y4 hg))∧(∀aT bh bA y3,gj (fu.cC k aT bh bA y3) (fu.cC (k+1) aT bh bA y3))
 |0=>⟨fun _ _ _ _ r h=>by simp[fu.aj]at h,fun _ _ _ _ _ _ r h=>by simp[fu.cD]at h,fun _ _ _ _ r h=>by simp[fu.cC]at h⟩
 |k+1=>by
  obtain⟨rQ,uN,BY⟩:=fu.o9 k;refine⟨?_,?_,?_⟩
  ·intro aT bh bA y3;unfold fu.aj;exact lI
  ·intro aT bh bA y3 y4 hg;unfold fu.cD;exact lI
  ·intro aT bh bA y3;unfold fu.cC;exact lI
theorem fu.mono:∀a0 cg a2 a3 k,gj (fu.f k a0 cg a2 a3) (fu.f (k+1) a0 cg a2 a3):=by
 intro a0 cg a2 a3 k;obtain⟨rQ,uN,BY⟩:=fu.o9 k;unfold fu.f;exact lI
theorem fu.calls(k:Nat)(g:Nat)(bY:List Int)(ez:Int)(eL:Int)(cQ:fC)(r1:Int)(fe:Int)(w0 w:World)(fJ:cj w0 w g bY ez eL cQ)(dw:Below w0.heap.size w0 w)(h:fu.f k bY ez eL cQ=some (r1,fe)):
 Calls Tryz.prog 15 #[.pointer (some ⟨g,0,none⟩)] w fun e w'=>e=.returned (.tuple #[])∧cj w0 w' g bY r1 fe cQ∧Below w0.heap.size w0 w'∧cI w w' g none:=by
 refine ug ?_;clear fJ dw;intro bE aV fh iw a7 H;unfold fu.f at H;clear h;have aK:=I H;clear H;go_enter Tryz.func15,Tryz.ntmps15;go_wp2
 repeat(go_quiet(fail);try go_wp2)
 go_loopg [] k (fun bp w'=>∃(bm:Int) (b9:Int),aN (fu.aj bp bY bm b9 cQ=some (r1,fe))∧aN (bp≤k)∧aN (cj w0 w' g bY bm b9 cQ)∧aN (cI w w' g none)∧aN (Below w0.heap.size w0 w'))
 case atStart=>exact⟨(ez),(eL),aK,⟨Nat.le_refl _⟩,⟨dU⟩,⟨dB⟩,⟨dT⟩⟩
 case round=>
  clear aK;obtain⟨bm,b9,bo,dn,bE,aV,a7⟩:=hrel;cases gk with
  |zero=>exact absurd bo.1 (by simp[fu.aj])
  |succ cY=>
   have H:=bo.1;clear bo;simp only[fu.aj]at H;revert H;refine eo ?_ ?_<;>intro ho H
   ·revert H;refine fg ?_;intro hc H;have dj:=I H;clear H;refine j1 ?_;intro jk jl jm jn iA jo jq jr js jt ju jv;obtain⟨dp,aD,eY,p0,a1⟩:=gY iA bm;cases aD;replace eY:=mL a7.1 eY
    go_upto_if 22 with(fail)
    repeat(go_quiet(fail);go_upto_if 22 with(fail))
    go_cut [22] (fun v0 wc=>∃(bp:Nat) (cm:Bool),v0=.bool cm∧aN (fu.cD bp (rd bY bm) cm bY bm b9 cQ=some (r1,fe))∧aN (bp≤cY)∧aN (cj w0 wc g bY bm b9 cQ)∧aN (cI w wc g none)∧aN (Below w0.heap.size w0 wc))
    case first=>
     have H:=dj.1;clear dj;revert H;refine dF ?_ ?_<;>intro hy gq H
     ·refine p9 ?_;have aK:=I H;clear H;go_wp2
      repeat(go_quiet(fail);try go_wp2)
      go_meet
      case rel=>exact⟨_,(((rd bY bm)==32)),bJ,aK,⟨qO⟩,⟨dU⟩,⟨dB⟩,⟨dT⟩⟩
     ·refine p9 ?_;revert H;refine dF ?_ ?_<;>intro gU hG H
      ·have aK:=I H;clear H;go_wp2
       repeat(go_quiet(fail);try go_wp2)
       go_meet
       case rel=>exact⟨_,(((rd bY bm)==9)),bJ,aK,⟨qO⟩,⟨dU⟩,⟨dB⟩,⟨dT⟩⟩
      ·revert H;refine dF ?_ ?_<;>intro iN je H
       ·have aK:=I H;clear H;go_wp2
        repeat(go_quiet(fail);try go_wp2)
        go_meet
        case rel=>exact⟨_,(((rd bY bm)==13)),bJ,aK,⟨qO⟩,⟨dU⟩,⟨dB⟩,⟨dT⟩⟩
       ·have aK:=I H;clear H;go_wp2
        repeat(go_quiet(fail);try go_wp2)
        go_meet
        case rel=>exact⟨_,(((rd bY bm)==10)),bJ,aK,⟨qO⟩,⟨dU⟩,⟨dB⟩,⟨dT⟩⟩
    case rest=>
     clear dj;obtain⟨bp,cm,rfl,bo,gp,bE,aV,a7⟩:=hcut;cases bp with
     |zero=>exact absurd bo.1 (by simp[fu.cD])
     |succ ig=>
      have H:=bo.1;clear bo;simp only[fu.cD]at H;by_cases c9:cm=true
      ·subst c9;refine oG ?_;clear H;intro aK;refine vk ?_;intro om oo oq ot lx ou ov ow ox oy oz oA;go_wp2
       repeat(go_quiet(fail);try go_wp2)
       go_roundg ig
       case measure=>have:=dn.1;have:=gp.1;omega
       case rel=>exact⟨(wrap64 (bm+1)),(b9),aK,⟨Jk⟩,⟨dU⟩,⟨dB⟩,⟨dT⟩⟩
      ·replace c9:=Bool.eq_false_iff.mpr c9;subst c9;refine kf ?_;clear H;refine dF ?_ ?_<;>intro hy gq H
       ·have aK:=I H;clear H;go_wp2
        repeat(go_quiet(fail);try go_wp2)
        go_loopg [] ig (fun bp w'=>∃(fE:Int),aN (fu.cC bp bY fE b9 cQ=some (r1,fe))∧aN (bp≤ig)∧aN (cj w0 w' g bY fE b9 cQ)∧aN (cI w w' g none)∧aN (Below w0.heap.size w0 w'))
        case atStart=>exact⟨(bm),aK,⟨Nat.le_refl _⟩,⟨dU⟩,⟨dB⟩,⟨dT⟩⟩
        case round=>
         clear aK;obtain⟨fE,bo,kM,bE,aV,a7⟩:=hrel;cases gk with
         |zero=>exact absurd bo.1 (by simp[fu.cC])
         |succ cd=>
          have H:=bo.1;clear bo;simp only[fu.cC]at H;revert H;refine eo ?_ ?_<;>intro gU H
          ·revert H;refine fg ?_;intro hG;refine dF ?_ ?_<;>intro iN je H
           ·have aK:=I H;clear H;refine vk ?_;intro om oo oq ot lx ou ov ow ox oy oz oA;obtain⟨gy,bx,fT,ba,bQ⟩:=gY lx fE;cases bx;replace fT:=mL a7.1 fT;exact Ql
           ·have aK:=I H;clear H;refine vk ?_;intro om oo oq ot lx ou ov ow ox oy oz oA;obtain⟨gy,bx,fT,ba,bQ⟩:=gY lx fE;cases bx;replace fT:=mL a7.1 fT;go_wp2
            repeat(go_quiet(fail);try go_wp2)
            go_roundg cd
            case measure=>have:=dn.1;have:=gp.1;have:=kM.1;omega
            case rel=>exact⟨(wrap64 (fE+1)),aK,⟨Ff⟩,⟨dU⟩,⟨dB⟩,⟨dT⟩⟩
          ·have aK:=I H;clear H;refine vk ?_;intro om oo oq ot lx ou ov ow ox oy oz oA;exact Ql
       ·revert H;refine dF ?_ ?_<;>intro gU hG H
        ·exact Sk
        ·revert H;refine dF ?_ ?_<;>intro iN je H
         ·exact Sk
         ·refine jC ?_;clear H;rintro⟨rfl,rfl⟩;go_wp2
          repeat(go_quiet(fail);try go_wp2)
          exact zN
   ·refine jC ?_;clear H;rintro⟨rfl,rfl⟩;refine j1 ?_;intro jk jl jm jn iA jo jq jr js jt ju jv;go_wp2
    repeat(go_quiet(fail);try go_wp2)
    exact zN
def k4.f(bY:List Int)(ez:Int)(eL:Int)(cQ:fC):Option (Int×Int):=if eL=1 then(some (ez,0))else(some (ez,eL))
theorem k4.calls(g:Nat)(bY:List Int)(ez:Int)(eL:Int)(cQ:fC)(r1:Int)(fe:Int)(w0 w:World)(fJ:cj w0 w g bY ez eL cQ)(dw:Below w0.heap.size w0 w)(h:k4.f bY ez eL cQ=some (r1,fe)):
 Calls Tryz.prog 16 #[.pointer (some ⟨g,0,none⟩)] w fun e w'=>e=.returned (.tuple #[])∧cj w0 w' g bY r1 fe cQ∧Below w0.heap.size w0 w'∧cI w w' g none:=by
 refine ug ?_;clear fJ dw;intro bE aV fh iw a7 H;unfold k4.f at H;clear h;revert H;refine dF ?_ ?_<;>intro ho hc H
 ·exact So
 ·exact So
def p4.f(a0:Int):Option (Bool):=if a0=95 then(some true)else(if a0≥97 then(if a0≤122 then(some true)else(if a0≥65 then(some (decide (a0≤90)))else(some false)))else(if a0≥65 then(some (decide (a0≤90)))else(some false)))
theorem p4.calls(a0:Int)(r:Bool)(w:World)(h:p4.f a0=some r):
 Calls Tryz.prog 37 #[.int .u8 a0] w fun e w'=>e=.returned (.bool r)∧eO w w':=by
 have H:=h;unfold p4.f at H;clear h;revert H;refine dF ?_ ?_<;>intro ho hc H
 ·exact zU
 ·revert H;refine lf ?_ ?_<;>intro hy H
  ·revert H;refine eo ?_ ?_<;>intro gq H
   ·exact zU
   ·revert H;refine lf ?_ ?_<;>intro gU H
    ·exact zU
    ·exact zU
  ·revert H;refine lf ?_ ?_<;>intro gq H
   ·exact zU
   ·exact zU
def ks.f(a0:Int):Option (Bool):=if a0≥48 then(some (decide (a0≤57)))else(some false)
theorem ks.calls(a0:Int)(r:Bool)(w:World)(h:ks.f a0=some r):
 Calls Tryz.prog 39 #[.int .u8 a0] w fun e w'=>e=.returned (.bool r)∧eO w w':=by
 have H:=h;unfold ks.f at H;clear h;revert H;refine lf ?_ ?_<;>intro ho H
 ·exact Ru
 ·exact Ru
def qX.f(a0:Int):Option (Bool):=(p4.f a0).bind fun t122=>(if t122=true then(some true)else((ks.f a0).bind fun t123=>(if t123=true then(some true)else(some (a0==45)))))
theorem qX.calls(a0:Int)(r:Bool)(w:World)(h:qX.f a0=some r):
 Calls Tryz.prog 69 #[.int .u8 a0] w fun e w'=>e=.returned (.bool r)∧eO w w':=by
 have H:=h;unfold qX.f at H;clear h;refine yy ?_;clear H;intro t0 bd H;by_cases c3:t0=true
 ·subst c3;refine mz ?_;clear H;intro H;obtain rfl:=Option.some.inj H;go_enter Tryz.func69,Tryz.ntmps69;exact Qo
 ·replace c3:=Bool.eq_false_iff.mpr c3;subst c3;refine yz ?_;clear H;rintro⟨t2,ao,H⟩
  try dsimp only at H
  have bF:=I ao;clear ao;by_cases c5:t2=true
  ·subst c5;refine mz ?_;clear H;intro H;obtain rfl:=Option.some.inj H;go_enter Tryz.func69,Tryz.ntmps69;exact Qn
  ·replace c5:=Bool.eq_false_iff.mpr c5;subst c5;refine kf ?_;clear H;intro H;obtain rfl:=Option.some.inj H;go_enter Tryz.func69,Tryz.ntmps69;exact Qm
mutual
def fQ.fB:Nat→Int→Bool→Option (Int)
 |0,_,_=>none
 |k+1,al,bX=>if bX=true then(some ((al-48)%256))else(if al≥97 then(fQ.cD k al (decide (al≤102)))else(fQ.cD k al false))
def fQ.cD:Nat→Int→Bool→Option (Int)
 |0,_,_=>none
 |k+1,al,x13=>if x13=true then(some (((al-97)%256)+10))else(if al≥65 then(if al≤70 then(some (((al-65)%256)+10))else(some (-1)))else(some (-1)))
end
def fQ.f(k:Nat)(a0:Int):Option (Int):=if a0≥48 then(fQ.fB k a0 (decide (a0≤57)))else(fQ.fB k a0 false)
theorem fQ.o9:∀k,(∀aT bh,gj (fQ.fB k aT bh) (fQ.fB (k+1) aT bh))∧(∀aT bh,gj (fQ.cD k aT bh) (fQ.cD (k+1) aT bh))
 |0=>⟨fun _ _ r h=>by simp[fQ.fB]at h,fun _ _ r h=>by simp[fQ.cD]at h⟩
 |k+1=>by
  obtain⟨rQ,uN⟩:=fQ.o9 k;refine⟨?_,?_⟩
  ·intro aT bh;unfold fQ.fB;exact lI
  ·intro aT bh;unfold fQ.cD;exact lI
theorem fQ.mono:∀a0 k,gj (fQ.f k a0) (fQ.f (k+1) a0):=by
 intro a0 k;obtain⟨rQ,uN⟩:=fQ.o9 k;unfold fQ.f;exact lI
theorem fQ.calls(k:Nat)(a0:Int)(r:Int)(w:World)(h:fQ.f k a0=some r):
 Calls Tryz.prog 70 #[.int .u8 a0] w fun e w'=>e=.returned (.int .i64 r)∧eO w w':=by
 have H:=h;unfold fQ.f at H;clear h;have dj:=I H;clear H;go_enter Tryz.func70,Tryz.ntmps70
 go_upto_region 1 with(fail)
 go_cut [3] (fun v0 wc=>∃(bp:Nat) (bm:Bool),v0=.bool bm∧aN (fQ.fB bp a0 bm=some r)∧aN (bp≤k)∧eO w wc)
 case first=>
  have H:=dj.1;clear dj;revert H;refine lf ?_ ?_<;>intro ho H
  ·refine va ?_;clear H;intro aK;go_wp2;go_meet
   case rel=>exact⟨_,(decide (a0≤57)),bJ,aK,⟨wa⟩,dH⟩
  ·refine va ?_;clear H;intro aK;exact Jw
 case rest=>
  clear dj;obtain⟨bp,bm,rfl,bo,gp,⟨G0,rfl⟩⟩:=hcut;cases bp with
  |zero=>exact absurd bo.1 (by simp[fQ.fB])
  |succ ig=>
   have H:=bo.1;clear bo;simp only[fQ.fB]at H;by_cases c4:bm=true
   ·subst c4;exact zZ
   ·replace c4:=Bool.eq_false_iff.mpr c4;subst c4;refine kf ?_;clear H;intro H;have dj:=I H;clear H
    go_upto_region 3 with(fail)
    go_cut [13] (fun v1 wc=>∃(bp:Nat) (b9:Bool),v1=.bool b9∧aN (fQ.cD bp a0 b9=some r)∧aN (bp≤ig)∧eO w wc)
    case first=>
     have H:=dj.1;clear dj;revert H;refine lf ?_ ?_<;>intro ho H
     ·refine va ?_;clear H;intro aK;go_wp2;go_meet
      case rel=>exact⟨_,(decide (a0≤102)),bJ,aK,⟨zF⟩,dH⟩
     ·refine va ?_;clear H;intro aK;exact Qf
    case rest=>
     clear dj;obtain⟨bp,b9,rfl,bo,jY,⟨Lt,rfl⟩⟩:=hcut;cases bp with
     |zero=>exact absurd bo.1 (by simp[fQ.cD])
     |succ qi=>
      have H:=bo.1;clear bo;simp only[fQ.cD]at H;by_cases c7:b9=true
      ·subst c7;exact zZ
      ·replace c7:=Bool.eq_false_iff.mpr c7;subst c7;refine kf ?_;clear H;refine lf ?_ ?_<;>intro ho H
       ·revert H;refine eo ?_ ?_<;>intro hc H
        ·exact nc
        ·exact nc
       ·exact nc
def hJ.aj:Nat→Int→ByteArray→Int→Option (Bool)
 |0,_,_,_=>none
 |k+1,al,eg,eB=>if eB<(eg.size:Int)then(if 0≤eB then(if(bB eg eB)=al then(some true)else(hJ.aj k al eg (wrap64 (eB+1))))else(none))else(some false)
def hJ.f(k:Nat)(a0:Int)(cg:ByteArray):Option (Bool):=hJ.aj k a0 cg 0
theorem hJ.o9:∀k,(∀aT bh bA,gj (hJ.aj k aT bh bA) (hJ.aj (k+1) aT bh bA))
 |0=>fun _ _ _ r h=>by simp[hJ.aj]at h
 |k+1=>by
  have rQ:=hJ.o9 k
  ·intro aT bh bA;unfold hJ.aj;exact lI
theorem hJ.mono:∀a0 cg k,gj (hJ.f k a0 cg) (hJ.f (k+1) a0 cg):=by
 intro a0 cg k;have rQ:=hJ.o9 k;unfold hJ.f;exact lI
theorem hJ.calls(k:Nat)(a0:Int)(cg:ByteArray)(r:Bool)(w:World)(h:hJ.f k a0 cg=some r):
 Calls Tryz.prog 71 #[.int .u8 a0,.string cg] w fun e w'=>e=.returned (.bool r)∧eO w w':=by
 have H:(hJ.aj k a0 cg 0)=some r:=h;clear h;have aK:=I H;clear H;go_enter Tryz.func71,Tryz.ntmps71;go_wp2
 go_loopg [5] k (fun bp v0 w'=>∃(bm:Int),v0=.int .i64 bm∧aN (hJ.aj bp a0 cg bm=some r)∧aN (bp≤k)∧eO w w')
 case atStart=>exact⟨(0),bJ,aK,⟨Nat.le_refl _⟩,dH⟩
 case round=>
  clear aK;obtain⟨bm,rfl,bo,dn,⟨m0,rfl⟩⟩:=hrel;cases gk with
  |zero=>exact absurd bo.1 (by simp[hJ.aj])
  |succ cY=>
   have H:=bo.1;clear bo;simp only[hJ.aj]at H;revert H;refine eo ?_ ?_<;>intro ho H
   ·revert H;refine fg ?_;intro hc;refine dF ?_ ?_<;>intro hy gq H
    ·obtain rfl:=Option.some.inj H;refine Tn ?_;intro aW p0 a1;go_wp2;go_ret;exact⟨bJ,dH⟩
    ·have aK:=I H;clear H;refine Tn ?_;intro aW p0 a1;exact Qj
   ·exact nc
end ei
