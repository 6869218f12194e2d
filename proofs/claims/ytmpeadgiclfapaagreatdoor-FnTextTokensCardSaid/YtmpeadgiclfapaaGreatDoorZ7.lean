/- Part 5 of the proof (T12, T10, T7, T8, PFnTextTokensx14). Conditions: each theorem's own. -/
import Derived.Test.YtmpeadgiclfapaaGreatDoorZ4
import Derived.Test.YtmpeadgiclfapaaGreatDoorZ6
set_option linter.all false
set_option maxHeartbeats 0
set_option maxRecDepth 100000
namespace Go.Proofs.YtmpeadgiclfapaaGreatDoor
namespace ei
open RowKit YtmpeadgiclfapaaGreatDoorW.PrintWords YtmpeadgiclfapaaGreatDoorW.PrintLast YtmpeadgiclfapaaGreatDoorW.PrintMore
attribute [local go_sem] sB sC sD sF sG sH sI sJ
mutual
def fm.fB:Nat→ByteArray→Bool→Option (Int)
 |0,_,_=>none
 |k+1,al,x26=>if x26=true then(fm.aj k al 2)else(fm.cC k al true false 0)
def fm.aj:Nat→ByteArray→Int→Option (Int)
 |0,_,_=>none
 |k+1,al,bX=>if bX<(al.size:Int)then(if 0≤bX then((fQ.f k (bB al bX)).bind fun abx=>(if abx<0 then(some 0)else(fm.aj k al (wrap64 (bX+1)))))else(none))else(if(al.size:Int)=2 then(some 0)else(some 2))
def fm.cC:Nat→ByteArray→Bool→Bool→Int→Option (Int)
 |0,_,_,_,_=>none
 |k+1,al,dk,eB,dX=>if dX<(al.size:Int)then(if dk=true then(if 0≤dX then((ks.f (bB al dX)).bind fun LB=>(if eB=true then(fm.cC k al LB true (wrap64 (dX+1)))else(if(bB al dX)=56 then(fm.cC k al LB true (wrap64 (dX+1)))else(fm.cC k al LB ((bB al dX)==57) (wrap64 (dX+1))))))else(none))else(if eB=true then(fm.cC k al false true (wrap64 (dX+1)))else(if 0≤dX then(if(bB al dX)=56 then(fm.cC k al false true (wrap64 (dX+1)))else(fm.cC k al false ((bB al dX)==57) (wrap64 (dX+1))))else(none))))else(if dk=true then(if 0<(al.size:Int)then(if(bB al 0)=48 then(if(al.size:Int)>1 then(fm.gZ k al dk (!eB))else(fm.gZ k al dk false))else(fm.gZ k al dk false))else(none))else(fm.gZ k al dk false))
def fm.gZ:Nat→ByteArray→Bool→Bool→Option (Int)
 |0,_,_,_=>none
 |k+1,al,dk,x67=>if x67=true then(some 3)else(if dk=true then(if 0<(al.size:Int)then(if(bB al 0)=48 then(fm.de k al dk (decide ((al.size:Int)>1)))else(fm.de k al dk false))else(none))else(fm.de k al dk false))
def fm.de:Nat→ByteArray→Bool→Bool→Option (Int)
 |0,_,_,_=>none
 |k+1,al,dk,x83=>if x83=true then(some 0)else(if dk=true then(some 1)else((cy.f k al).bind fun aby=>(some aby)))
end
def fm.f(k:Nat)(a0:ByteArray):Option (Int):=if a0.toList=([]:List UInt8)then(some 0)else(if(a0.size:Int)>1 then(if 0<(a0.size:Int)then(if(bB a0 0)=48 then(if 1<(a0.size:Int)then(if(bB a0 1)=120 then(fm.fB k a0 true)else(fm.fB k a0 ((bB a0 1)==88)))else(none))else(fm.fB k a0 false))else(none))else(fm.fB k a0 false))
theorem fm.calls(k:Nat)(a0:ByteArray)(r:Int)(w:World)(h:fm.f k a0=some r):
 Calls Tryz.prog 75 #[.string a0] w fun e w'=>e=.returned (.int .i64 r)∧eO w w':=by
 have H:=h;unfold fm.f at H;clear h;revert H;refine dF ?_ ?_<;>intro ho hc H
 ·obtain rfl:=Option.some.inj H;go_enter Tryz.func75,Tryz.ntmps75;go_wp2;go_ret;exact⟨bJ,dH⟩
 ·have dj:=I H;clear H;go_enter Tryz.func75,Tryz.ntmps75
  go_upto_region 3 with(fail)
  go_cut [26] (fun v0 wc=>∃(bp:Nat) (bm:Bool),v0=.bool bm∧aN (fm.fB bp a0 bm=some r)∧aN (bp≤k)∧eO w wc)
  case first=>
   have H:=dj.1;clear dj;by_cases c4:(a0.size:Int)>1
   ·rw[if_pos c4]at H;have hy:decide (1<(a0.size:Int))=true:=decide_eq_true c4;have gq:decide (1<a0.size)=true:=decide_eq_true (by omega);clear c4;refine p9 ?_;by_cases c5:0<(a0.size:Int)
    ·rw[if_pos c5]at H;have gU:decide (0<(a0.size:Int))=true:=decide_eq_true c5;have hG:decide (0<a0.size)=true:=decide_eq_true (by omega);clear c5;revert H;refine dF ?_ ?_<;>intro iN je H
     ·by_cases j9:1<(a0.size:Int)
      ·rw[if_pos j9]at H;have k5:decide (1<(a0.size:Int))=true:=decide_eq_true j9;have nM:decide (1<a0.size)=true:=decide_eq_true (by omega);clear j9;revert H;refine dF ?_ ?_<;>intro q9 nH H
       ·refine vh ?_;clear H;intro aK aW r9 a1;refine K6 ?_;intro cv GH bQ;go_wp2;go_meet
        case rel=>exact⟨_,(true),bJ,aK,⟨wa⟩,dH⟩
       ·refine vh ?_;clear H;intro aK aW r9 a1;refine K6 ?_;intro cv GH bQ;refine K6 ?_;intro cv GH bQ;go_wp2;go_meet
        case rel=>exact⟨_,(((bB a0 1)==88)),bJ,aK,⟨wa⟩,dH⟩
      ·rw[if_neg j9]at H;exact absurd H (by simp)
     ·refine vh ?_;clear H;intro aK aW r9 a1;exact Jw
    ·rw[if_neg c5]at H;exact absurd H (by simp)
   ·rw[if_neg c4]at H;have hy:decide (1<(a0.size:Int))=false:=decide_eq_false c4;have gq:decide (1<a0.size)=false:=decide_eq_false (by omega);clear c4;refine p9 ?_;have aK:=I H;clear H;exact Jw
  case rest=>
   clear dj;obtain⟨bp,bm,rfl,bo,gp,⟨G0,rfl⟩⟩:=hcut;cases bp with
   |zero=>exact absurd bo.1 (by simp[fm.fB])
   |succ ig=>
    have H:=bo.1;clear bo;simp only[fm.fB]at H;by_cases ck:bm=true
    ·subst ck;refine oG ?_;clear H;intro aK;go_wp2
     go_loopg [3] ig (fun bp v1 w'=>∃(b9:Int),v1=.int .i64 b9∧aN (fm.aj bp a0 b9=some r)∧aN (bp≤ig)∧eO w w')
     case atStart=>exact⟨(2),bJ,aK,⟨Nat.le_refl _⟩,dH⟩
     case round=>
      clear aK;obtain⟨b9,rfl,bo,dn,⟨m0,rfl⟩⟩:=hrel;cases gk with
      |zero=>exact absurd bo.1 (by simp[fm.aj])
      |succ cd=>
       have H:=bo.1;clear bo;simp only[fm.aj]at H;revert H;refine eo ?_ ?_<;>intro hy H
       ·revert H;refine fg ?_;intro gq H;refine yy ?_;clear H;intro t0 bd;refine eo ?_ ?_<;>intro gU H
        ·obtain rfl:=Option.some.inj H;refine To ?_;intro aW p0 a1
         go_wp2_with(first|((with_reducible refine kK (f:=70) rfl ?_);refine kJ (some 36) rfl rfl Tryz.func70 aM rfl #[.int .u8 (bB a0 b9)] rfl mv ?_;(with_reducible refine(fQ.calls cd (bB a0 b9) t0 _ bd.1).mono ?_);rintro e w' ⟨rfl,⟨dh,rfl⟩⟩;refine⟨_,rfl,?_⟩))
         go_ret;exact⟨bJ,dH⟩
        ·have aK:=I H;clear H;refine To ?_;intro aW p0 a1
         go_wp2_with(first|((with_reducible refine kK (f:=70) rfl ?_);refine kJ (some 36) rfl rfl Tryz.func70 aM rfl #[.int .u8 (bB a0 b9)] rfl mv ?_;(with_reducible refine(fQ.calls cd (bB a0 b9) t0 _ bd.1).mono ?_);rintro e w' ⟨rfl,⟨dh,rfl⟩⟩;refine⟨_,rfl,?_⟩))
         go_roundg cd
         case measure=>have:=gp.1;have:=dn.1;omega
         case rel=>exact⟨(wrap64 (b9+1)),bJ,aK,⟨uR⟩,dH⟩
       ·revert H;refine dF ?_ ?_<;>intro gq gU H
        ·exact nc
        ·exact nc
    ·replace ck:=Bool.eq_false_iff.mpr ck;subst ck;refine vp ?_;clear H;intro aK;go_wp2
     go_loopg [4,5,6] ig (fun bp v1 v2 v3 w'=>∃(b9:Bool) (cm:Bool) (fE:Int),v1=.bool b9∧v2=.bool cm∧v3=.int .i64 fE∧aN (fm.cC bp a0 b9 cm fE=some r)∧aN (bp≤ig)∧eO w w')
     case atStart=>exact⟨(true),(false),(0),bJ,bJ,bJ,aK,⟨Nat.le_refl _⟩,dH⟩
     case round=>
      clear aK;obtain⟨b9,cm,fE,rfl,rfl,rfl,bo,dn,⟨m0,rfl⟩⟩:=hrel;cases gk with
      |zero=>exact absurd bo.1 (by simp[fm.cC])
      |succ cd=>
       have H:=bo.1;clear bo;simp only[fm.cC]at H;revert H;refine eo ?_ ?_<;>intro hy H
       ·by_cases c12:b9=true
        ·subst c12;refine mz ?_;clear H;refine fg ?_;intro gq H;refine yy ?_;clear H;intro t0 bd H;by_cases eN:cm=true
         ·subst eN;refine oG ?_;clear H;intro aK;refine yn ?_;intro aW p0 a1
          go_wp2_with(first|(refine Kp ?_;rintro e w' ⟨rfl,⟨dh,rfl⟩⟩))
          exact Qd
         ·replace eN:=Bool.eq_false_iff.mpr eN;subst eN;refine kf ?_;clear H;refine dF ?_ ?_<;>intro gU hG H
          ·have aK:=I H;clear H;refine yn ?_;intro aW p0 a1
           go_wp2_with(first|(refine Kp ?_;rintro e w' ⟨rfl,⟨dh,rfl⟩⟩;refine Tr ?_;intro cv ba bQ))
           exact Qd
          ·have aK:=I H;clear H;refine yn ?_;intro aW p0 a1
           go_wp2_with(first|(refine Kp ?_;rintro e w' ⟨rfl,⟨dh,rfl⟩⟩;refine Tr ?_;intro cv ba bQ;refine yn ?_;intro aW p0 a1))
           go_roundg cd
           case measure=>have:=gp.1;have:=dn.1;omega
           case rel=>exact⟨(t0),(((bB a0 fE)==57)),(wrap64 (fE+1)),bJ,bJ,bJ,aK,⟨uR⟩,dH⟩
        ·replace c12:=Bool.eq_false_iff.mpr c12;subst c12;refine kf ?_;clear H;intro H;by_cases eN:cm=true
         ·subst eN;refine oG ?_;clear H;intro aK;exact Qi
         ·replace eN:=Bool.eq_false_iff.mpr eN;subst eN;refine kf ?_;clear H;refine fg ?_;intro gq;refine dF ?_ ?_<;>intro gU hG H
          ·have aK:=I H;clear H;refine yn ?_;intro aW p0 a1;exact Qi
          ·have aK:=I H;clear H;refine yn ?_;intro aW p0 a1;refine yn ?_;intro aW p0 a1;go_wp2;go_roundg cd
           case measure=>have:=gp.1;have:=dn.1;omega
           case rel=>exact⟨(false),(((bB a0 fE)==57)),(wrap64 (fE+1)),bJ,bJ,bJ,aK,⟨uR⟩,dH⟩
       ·have dj:=I H;clear H
        go_upto_region 18 with(fail)
        go_cut [67] (fun v4 wc=>∃(bp:Nat) (fw:Bool),v4=.bool fw∧aN (fm.gZ bp a0 b9 fw=some r)∧aN (bp≤cd)∧eO w wc)
        case first=>
         have H:=dj.1;clear dj;by_cases c12:b9=true
         ·subst c12;refine mz ?_;clear H;intro H;by_cases eN:0<(a0.size:Int)
          ·rw[if_pos eN]at H;have gq:decide (0<(a0.size:Int))=true:=decide_eq_true eN;have gU:decide (0<a0.size)=true:=decide_eq_true (by omega);clear eN;refine r3 ?_;revert H;refine dF ?_ ?_<;>intro hG iN H
           ·by_cases ia:(a0.size:Int)>1
            ·rw[if_pos ia]at H;have je:decide (1<(a0.size:Int))=true:=decide_eq_true ia;have k5:decide (1<a0.size)=true:=decide_eq_true (by omega);clear ia;refine vh ?_;clear H;intro aK aW r9 a1;go_wp2;go_meet
             case rel=>exact⟨_,(!cm),bJ,aK,⟨Fb⟩,dH⟩
            ·rw[if_neg ia]at H;have je:decide (1<(a0.size:Int))=false:=decide_eq_false ia;have k5:decide (1<a0.size)=false:=decide_eq_false (by omega);clear ia;refine vh ?_;clear H;intro aK aW r9 a1;exact Jx
           ·refine vh ?_;clear H;intro aK aW r9 a1;exact Jx
          ·rw[if_neg eN]at H;exact absurd H (by simp)
         ·replace c12:=Bool.eq_false_iff.mpr c12;subst c12;refine vp ?_;clear H;intro aK;exact Jx
        case rest=>
         clear dj;obtain⟨bp,fw,rfl,bo,jY,⟨Lt,rfl⟩⟩:=hcut;cases bp with
         |zero=>exact absurd bo.1 (by simp[fm.gZ])
         |succ qi=>
          have H:=bo.1;clear bo;simp only[fm.gZ]at H;by_cases c12:fw=true
          ·subst c12;exact zZ
          ·replace c12:=Bool.eq_false_iff.mpr c12;subst c12;refine kf ?_;clear H;intro H;have dj:=I H;clear H
           go_upto_region 20 with(fail)
           go_cut [83] (fun v5 wc=>∃(bp:Nat) (j2:Bool),v5=.bool j2∧aN (fm.de bp a0 b9 j2=some r)∧aN (bp≤qi)∧eO w wc)
           case first=>
            have H:=dj.1;clear dj;by_cases eN:b9=true
            ·subst eN;refine mz ?_;clear H;intro H;by_cases ia:0<(a0.size:Int)
             ·rw[if_pos ia]at H;have gq:decide (0<(a0.size:Int))=true:=decide_eq_true ia;have gU:decide (0<a0.size)=true:=decide_eq_true (by omega);clear ia;refine r3 ?_;revert H;refine dF ?_ ?_<;>intro hG iN H
              ·refine vh ?_;clear H;intro aK aW r9 a1;go_wp2;go_meet
               case rel=>exact⟨_,(decide ((a0.size:Int)>1)),bJ,aK,⟨EZ⟩,dH⟩
              ·refine vh ?_;clear H;intro aK aW r9 a1;exact Qg
             ·rw[if_neg ia]at H;exact absurd H (by simp)
            ·replace eN:=Bool.eq_false_iff.mpr eN;subst eN;refine vp ?_;clear H;intro aK;exact Qg
           case rest=>
            clear dj;obtain⟨bp,j2,rfl,bo,mV,⟨abu,rfl⟩⟩:=hcut;cases bp with
            |zero=>exact absurd bo.1 (by simp[fm.de])
            |succ yD=>
             have H:=bo.1;clear bo;simp only[fm.de]at H;by_cases eN:j2=true
             ·subst eN;exact zZ
             ·replace eN:=Bool.eq_false_iff.mpr eN;subst eN;refine kf ?_;clear H;intro H;by_cases ia:b9=true
              ·subst ia;exact zZ
              ·replace ia:=Bool.eq_false_iff.mpr ia;subst ia;refine yz ?_;clear H;intro H;refine TA ?_;intro t0 bd H;obtain rfl:=Option.some.inj H
               go_wp2_with(first|((with_reducible refine kK (f:=92) rfl ?_);refine kJ (some 98) rfl rfl Tryz.func92 aM rfl #[.string a0] rfl mv ?_;(with_reducible refine(cy.calls yD a0 t0 _ bd.1).mono ?_);rintro e w' ⟨rfl,⟨dh,rfl⟩⟩;refine⟨_,rfl,?_⟩))
               go_ret;exact⟨bJ,dH⟩
def pc.fB:Nat→List Int→Int→Int→Int→Bool→Option (Bool)
 |0,_,_,_,_,_=>none
 |k+1,al,eg,j4,x7,x17=>if x17=true then(if j4>eg then(if 0≤(wrap64 (j4-1))then(if(wrap64 (j4-1))<(al.length:Int)then(if(rd al (wrap64 (j4-1)))=101 then(if j4>(wrap64 (eg+1))then(if 0≤eg then(if eg<(al.length:Int)then(if(rd al eg)=48 then(if 0≤(wrap64 (eg+1))then(if(wrap64 (eg+1))<(al.length:Int)then(if(rd al (wrap64 (eg+1)))=120 then(some (!true))else(some (!((rd al (wrap64 (eg+1)))==88))))else(none))else(none))else(some (!false)))else(none))else(none))else(some (!false)))else(if(rd al (wrap64 (j4-1)))=69 then(if j4>(wrap64 (eg+1))then(if 0≤eg then(if eg<(al.length:Int)then(if(rd al eg)=48 then(if 0≤(wrap64 (eg+1))then(if(wrap64 (eg+1))<(al.length:Int)then(if(rd al (wrap64 (eg+1)))=120 then(some (!true))else(some (!((rd al (wrap64 (eg+1)))==88))))else(none))else(none))else(some (!false)))else(none))else(none))else(some (!false)))else(some false)))else(none))else(none))else(some false))else((ks.f x7).bind fun abz=>(if abz=true then(some true)else((p4.f x7).bind fun abA=>(if abA=true then(some true)else(some (x7==46))))))
def pc.f(k:Nat)(aj:List Int)(cg:Int)(a2:Int):Option (Bool):=if 0≤a2 then(if a2<(aj.length:Int)then(if(rd aj a2)=43 then(pc.fB k aj cg a2 (rd aj a2) true)else(pc.fB k aj cg a2 (rd aj a2) ((rd aj a2)==45)))else(none))else(none)
theorem pc.calls(k:Nat)(ao:Option Addr)(c0:Nat)(aj:List Int)(cg:Int)(a2:Int)(r:Bool)(w:World)(bP:ab.C (ab.int .u8) w ao aj.length aj)(eT:aj.length≤c0)(h:pc.f k aj cg a2=some r):
 Calls Tryz.prog 74 #[.slice ao aj.length c0,.int .i64 cg,.int .i64 a2] w fun e w'=>e=.returned (.bool r)∧eO w w':=by
 have cK:=I bP;have dj:=I eT;clear bP eT;have H:=h;unfold pc.f at H;clear h;revert H;refine fg ?_;intro ho;refine fg ?_;intro hc H;have iq:=I H;clear H;obtain⟨dp,aD,eY,p0,a1⟩:=gY cK.1 a2;cases aD;go_enter Tryz.func74,Tryz.ntmps74
 go_upto_region 2 with(fail)
 go_cut [17] (fun v0 wc=>∃(bp:Nat) (bm:Bool),v0=.bool bm∧aN (pc.fB bp aj cg a2 (rd aj a2) bm=some r)∧aN (bp≤k)∧eO w wc)
 case first=>
  have H:=iq.1;clear iq;revert H;refine dF ?_ ?_<;>intro hy gq H
  ·refine p9 ?_;have aK:=I H;clear H;go_wp2;go_meet
   case rel=>exact⟨_,(true),bJ,aK,⟨wa⟩,dH⟩
  ·refine p9 ?_;have aK:=I H;clear H;go_wp2;go_meet
   case rel=>exact⟨_,(((rd aj a2)==45)),bJ,aK,⟨wa⟩,dH⟩
 case rest=>
  clear iq;obtain⟨bp,bm,rfl,bo,gp,⟨G0,rfl⟩⟩:=hcut;cases bp with
  |zero=>exact absurd bo.1 (by simp[pc.fB])
  |succ ig=>
   have H:=bo.1;clear bo;simp only[pc.fB]at H;by_cases j9:bm=true
   ·subst j9;refine mz ?_;clear H;refine p1 ?_ ?_<;>intro hy H
    ·obtain⟨cH,fN⟩:∃ki:Int,(wrap64 (a2-1))=ki:=⟨_,rfl⟩;replace H:(if 0≤(cH)then(if(cH)<(aj.length:Int)then(if(rd aj (cH))=101 then(if a2>(wrap64 (cg+1))then(if 0≤cg then(if cg<(aj.length:Int)then(if(rd aj cg)=48 then(if 0≤(wrap64 (cg+1))then(if(wrap64 (cg+1))<(aj.length:Int)then(if(rd aj (wrap64 (cg+1)))=120 then(some (!true))else(some (!((rd aj (wrap64 (cg+1)))==88))))else(none))else(none))else(some (!false)))else(none))else(none))else(some (!false)))else(if(rd aj (cH))=69 then(if a2>(wrap64 (cg+1))then(if 0≤cg then(if cg<(aj.length:Int)then(if(rd aj cg)=48 then(if 0≤(wrap64 (cg+1))then(if(wrap64 (cg+1))<(aj.length:Int)then(if(rd aj (wrap64 (cg+1)))=120 then(some (!true))else(some (!((rd aj (wrap64 (cg+1)))==88))))else(none))else(none))else(some (!false)))else(none))else(none))else(some (!false)))else(some false)))else(none))else(none))=some r:=by first|(rw[fN]at H;exact H)|(simp only[fN]at H⊢;exact H)
     have q6:(IntKind.i64.wrap (a2-1))=cH:=(jj _).trans fN;revert H;refine fg ?_;intro gq;refine fg ?_;intro gU;refine dF ?_ ?_<;>intro hG iN H
     ·revert H;refine p1 ?_ ?_<;>intro je H
      ·revert H;refine fg ?_;intro k5;refine fg ?_;intro nM;refine dF ?_ ?_<;>intro q9 nH H
       ·refine Tz ?_;clear H;intro kx p2 H
        (try rw[p2]at je)
        have Ua:(IntKind.i64.wrap (cg+1))=kx:=(jj _).trans p2;revert H;refine fg ?_;intro tg;refine fg ?_;intro ra;refine dF ?_ ?_<;>intro AH Dh H
        ·obtain rfl:=Option.some.inj H;refine r0 ?_;intro gy bx fT ba bQ;obtain rfl:dp=gy:=l6;obtain⟨kO,db,og,dy,fs⟩:=gY cK.1 cg;obtain rfl:dp=kO:=qQ;exact Rv
        ·obtain rfl:=Option.some.inj H;refine r0 ?_;intro gy bx fT ba bQ;obtain rfl:dp=gy:=l6;obtain⟨kO,db,og,dy,fs⟩:=gY cK.1 cg;obtain rfl:dp=kO:=qQ;obtain⟨tp,fO,FR,gH,ku⟩:=gY cK.1 (kx);obtain rfl:dp=tp:=(by injection fO);exact Rv
       ·obtain rfl:=Option.some.inj H;refine r0 ?_;intro gy bx fT ba bQ;obtain rfl:dp=gy:=l6;obtain⟨kO,db,og,dy,fs⟩:=gY cK.1 cg;obtain rfl:dp=kO:=qQ;go_wp2;go_ret;exact⟨rR,dH⟩
      ·exact JZ
     ·revert H;refine dF ?_ ?_<;>intro je k5 H
      ·revert H;refine p1 ?_ ?_<;>intro nM H
       ·revert H;refine fg ?_;intro q9;refine fg ?_;intro nH;refine dF ?_ ?_<;>intro tg ra H
        ·refine Tz ?_;clear H;intro kx p2 H
         (try rw[p2]at nM)
         have Ua:(IntKind.i64.wrap (cg+1))=kx:=(jj _).trans p2;revert H;refine fg ?_;intro AH;refine fg ?_;intro Dh;refine dF ?_ ?_<;>intro Ub Uc H
         ·obtain rfl:=Option.some.inj H;refine r0 ?_;intro gy bx fT ba bQ;obtain rfl:dp=gy:=l6;obtain⟨kO,db,og,dy,fs⟩:=gY cK.1 (cH);obtain rfl:dp=kO:=qQ;obtain⟨tp,fO,FR,gH,ku⟩:=gY cK.1 cg;obtain rfl:dp=tp:=(by injection fO);exact Rw
         ·obtain rfl:=Option.some.inj H;refine r0 ?_;intro gy bx fT ba bQ;obtain rfl:dp=gy:=l6;obtain⟨kO,db,og,dy,fs⟩:=gY cK.1 (cH);obtain rfl:dp=kO:=qQ;obtain⟨tp,fO,FR,gH,ku⟩:=gY cK.1 cg;obtain rfl:dp=tp:=(by injection fO);obtain⟨J0,gW,aaC,mx,xZ⟩:=gY cK.1 (kx);obtain rfl:dp=J0:=(by injection gW);exact Rw
        ·obtain rfl:=Option.some.inj H;refine r0 ?_;intro gy bx fT ba bQ;obtain rfl:dp=gy:=l6;obtain⟨kO,db,og,dy,fs⟩:=gY cK.1 (cH);obtain rfl:dp=kO:=qQ;obtain⟨tp,fO,FR,gH,ku⟩:=gY cK.1 cg;obtain rfl:dp=tp:=(by injection fO);go_wp2;go_ret;exact⟨rR,dH⟩
       ·exact FQ
      ·exact FQ
    ·exact nc
   ·replace j9:=Bool.eq_false_iff.mpr j9;subst j9;refine yz ?_;clear H;intro H;refine AA ?_;intro t0 bF H;by_cases ck:t0=true
    ·subst ck;refine mz ?_;clear H;intro H;obtain rfl:=Option.some.inj H
     go_wp2_with(first|((with_reducible refine kK (f:=39) rfl ?_);refine kJ (some 68) rfl rfl Tryz.func39 aM rfl #[.int .u8 (rd aj a2)] rfl mv ?_;(with_reducible refine(ks.calls (rd aj a2) true _ bF.1).mono ?_);rintro e w' ⟨rfl,⟨dh,rfl⟩⟩;refine⟨_,rfl,?_⟩))
     go_ret;exact⟨bJ,dH⟩
    ·replace ck:=Bool.eq_false_iff.mpr ck;subst ck;refine yz ?_;clear H;rintro⟨t2,bd,H⟩
     try dsimp only at H
     have cZ:=I bd;clear bd;by_cases c12:t2=true
     ·subst c12;refine mz ?_;clear H;intro H;obtain rfl:=Option.some.inj H
      go_wp2_with(first|((with_reducible refine kK (f:=39) rfl ?_);refine kJ (some 68) rfl rfl Tryz.func39 aM rfl #[.int .u8 (rd aj a2)] rfl mv ?_;(with_reducible refine(ks.calls (rd aj a2) false _ bF.1).mono ?_);rintro e w' ⟨rfl,⟨dh,rfl⟩⟩;refine⟨_,rfl,?_⟩)|(go_at_call 37;(with_reducible refine(p4.calls (rd aj a2) true _ cZ.1).mono ?_);rintro e w' ⟨rfl,⟨dh,rfl⟩⟩))
      go_ret;exact⟨bJ,dH⟩
     ·replace c12:=Bool.eq_false_iff.mpr c12;subst c12;refine kf ?_;clear H;intro H;obtain rfl:=Option.some.inj H
      go_wp2_with(first|((with_reducible refine kK (f:=39) rfl ?_);refine kJ (some 68) rfl rfl Tryz.func39 aM rfl #[.int .u8 (rd aj a2)] rfl mv ?_;(with_reducible refine(ks.calls (rd aj a2) false _ bF.1).mono ?_);rintro e w' ⟨rfl,⟨dh,rfl⟩⟩;refine⟨_,rfl,?_⟩)|(go_at_call 37;(with_reducible refine(p4.calls (rd aj a2) false _ cZ.1).mono ?_);rintro e w' ⟨rfl,⟨dh,rfl⟩⟩))
      go_ret;exact⟨bJ,dH⟩
mutual
def gh.gL:Nat→List Int→Int→Int→Option (Int)
 |0,_,_,_=>none
 |k+1,al,bX,dk=>if(al.length:Int)<bX then(some 0)else(gh.aj k al bX dk 1)
def gh.aj:Nat→List Int→Int→Int→Int→Option (Int)
 |0,_,_,_,_=>none
 |k+1,al,bX,dk,eB=>if eB<bX then(if 0≤eB then(if eB<(al.length:Int)then(if((rd al eB)/64)=2 then(gh.aj k al bX (Go.bits .or .i64 (wrap64 (dk*64)) (wrap64 (Go.bits .and .u8 (rd al eB) 63))) (wrap64 (eB+1)))else(some 0))else(none))else(none))else(if dk>1114111 then(some 0)else(if dk≥55296 then(if dk<57344 then(some 0)else((tW.f dk).bind fun t200=>(if(t200.length:Int)=bX then(some bX)else(some 0))))else((tW.f dk).bind fun t203=>(if(t203.length:Int)=bX then(some bX)else(some 0)))))
def gh.fB:Nat→List Int→Int→Bool→Option (Int)
 |0,_,_,_=>none
 |k+1,al,dk,x13=>if x13=true then(gh.gL k al 2 (Go.bits .and .i64 dk 31))else(if dk≥224 then(gh.cD k al dk (decide (dk<240)))else(gh.cD k al dk false))
def gh.cD:Nat→List Int→Int→Bool→Option (Int)
 |0,_,_,_=>none
 |k+1,al,dk,x22=>if x22=true then(gh.gL k al 3 (Go.bits .and .i64 dk 15))else(if dk≥240 then(if dk<248 then(gh.gL k al 4 (Go.bits .and .i64 dk 7))else(some 0))else(some 0))
end
def gh.f(k:Nat)(aj:List Int):Option (Int):=if 0<(aj.length:Int)then(if(wrap64 (rd aj 0))<128 then(some 1)else(if(wrap64 (rd aj 0))≥192 then(gh.fB k aj (wrap64 (rd aj 0)) (decide ((wrap64 (rd aj 0))<224)))else(gh.fB k aj (wrap64 (rd aj 0)) false)))else(none)
theorem gh.calls(k:Nat)(ao:Option Addr)(c0:Nat)(aj:List Int)(r:Int)(w:World)(bP:ab.C (ab.int .u8) w ao aj.length aj)(eT:aj.length≤c0)(h:gh.f k aj=some r):
 Calls Tryz.prog 109 #[.slice ao aj.length c0] w fun e w'=>e=.returned (.int .i64 r)∧Below w.heap.size w w':=by
 have cK:=I bP;have dj:=I eT;clear bP eT;have a7:=I (Below.refl w.heap.size w);have H:=h;unfold gh.f at H;clear h;by_cases c2:0<(aj.length:Int)
 ·rw[if_pos c2]at H;have ho:decide (0<(aj.length:Int))=true:=decide_eq_true c2;have hc:decide (0<aj.length)=true:=decide_eq_true (by omega);clear c2;have iq:=I H;clear H;have p0:0≤(0:Int):=(by omega);have a1:0<(aj.length:Int):=of_decide_eq_true fK;obtain⟨dp,aD,eY⟩:=ab.iV cK.1 0 p0 a1;cases aD;have r9:(0<aj.length)=True:=eq_true (by omega)
  (try rw[show((0:Int)).toNat=0 from rfl]at eY)
  (try rw[Addr.add_zero']at eY)
  refine my ?_;clear p0 a1;intro p0 a1;go_enter Tryz.func109,Tryz.ntmps109
  go_upto_block 0 with(fail)
  repeat(go_quiet(fail);go_upto_block 0 with(fail))
  go_cut [3,4] (fun v0 v1 wc=>∃(bp:Nat) (bm:Int) (b9:Int),v0=.int .i64 bm∧v1=.int .i64 b9∧aN (gh.gL bp aj bm b9=some r)∧aN (bp≤k)∧aN (Below w.heap.size w wc))
  case first=>
   have H:=iq.1;clear iq;revert H;refine eo ?_ ?_<;>intro hy H
   ·refine p9 ?_;exact zV
   ·refine p9 ?_;have lD:=I H;clear H
    go_upto_region 5 with(fail)
    repeat(go_quiet(fail);go_upto_region 5 with(fail))
    go_cut [13] (fun v2 wc=>∃(bp:Nat) (cm:Bool),v2=.bool cm∧aN (gh.fB bp aj (wrap64 (rd aj 0)) cm=some r)∧aN (bp≤k)∧aN (Below w.heap.size w wc))
    case first=>
     have H:=lD.1;clear lD;revert H;refine lf ?_ ?_<;>intro gq H
     ·refine r3 ?_;have aK:=I H;clear H;go_wp2
      repeat(go_quiet(fail);try go_wp2)
      go_meet
      case rel=>exact⟨_,(decide ((wrap64 (rd aj 0))<224)),bJ,aK,⟨wa⟩,⟨fS⟩⟩
     ·refine r3 ?_;have aK:=I H;clear H;go_wp2
      repeat(go_quiet(fail);try go_wp2)
      go_meet
      case rel=>exact⟨_,(false),bJ,aK,⟨wa⟩,⟨fS⟩⟩
    case rest=>
     clear lD;obtain⟨bp,cm,rfl,bo,gp,a7⟩:=hcut;cases bp with
     |zero=>exact absurd bo.1 (by simp[gh.fB])
     |succ ig=>
      have H:=bo.1;clear bo;simp only[gh.fB]at H;by_cases c7:cm=true
      ·subst c7;refine oG ?_;clear H;intro aK;go_wp2
       repeat(go_quiet(fail);try go_wp2)
       go_meet
       case rel=>exact⟨_,(2),(Go.bits .and .i64 (wrap64 (rd aj 0)) 31),bJ,bJ,aK,⟨zF⟩,⟨fS⟩⟩
      ·replace c7:=Bool.eq_false_iff.mpr c7;subst c7;refine kf ?_;clear H;intro H;have lD:=I H;clear H
       go_upto_region 7 with(fail)
       repeat(go_quiet(fail);go_upto_region 7 with(fail))
       go_cut [22] (fun v3 wc=>∃(bp:Nat) (fE:Bool),v3=.bool fE∧aN (gh.cD bp aj (wrap64 (rd aj 0)) fE=some r)∧aN (bp≤ig)∧aN (Below w.heap.size w wc))
       case first=>
        have H:=lD.1;clear lD;revert H;refine lf ?_ ?_<;>intro gq H
        ·refine r3 ?_;have aK:=I H;clear H;go_wp2
         repeat(go_quiet(fail);try go_wp2)
         go_meet
         case rel=>exact⟨_,(decide ((wrap64 (rd aj 0))<240)),bJ,aK,⟨zF⟩,⟨fS⟩⟩
        ·refine r3 ?_;have aK:=I H;clear H;go_wp2
         repeat(go_quiet(fail);try go_wp2)
         go_meet
         case rel=>exact⟨_,(false),bJ,aK,⟨zF⟩,⟨fS⟩⟩
       case rest=>
        clear lD;obtain⟨bp,fE,rfl,bo,jY,a7⟩:=hcut;cases bp with
        |zero=>exact absurd bo.1 (by simp[gh.cD])
        |succ qi=>
         have H:=bo.1;clear bo;simp only[gh.cD]at H;by_cases mT:fE=true
         ·subst mT;refine oG ?_;clear H;intro aK;go_wp2
          repeat(go_quiet(fail);try go_wp2)
          go_meet
          case rel=>exact⟨_,(3),(Go.bits .and .i64 (wrap64 (rd aj 0)) 15),bJ,bJ,aK,⟨Fc⟩,⟨fS⟩⟩
         ·replace mT:=Bool.eq_false_iff.mpr mT;subst mT;refine kf ?_;clear H;refine lf ?_ ?_<;>intro gq H
          ·revert H;refine eo ?_ ?_<;>intro gU H
           ·have aK:=I H;clear H;go_wp2
            repeat(go_quiet(fail);try go_wp2)
            go_meet
            case rel=>exact⟨_,(4),(Go.bits .and .i64 (wrap64 (rd aj 0)) 7),bJ,bJ,aK,⟨Fc⟩,⟨fS⟩⟩
           ·exact zV
          ·exact zV
  case rest=>
   clear iq;obtain⟨bp,bm,b9,rfl,rfl,bo,gp,a7⟩:=hcut;cases bp with
   |zero=>exact absurd bo.1 (by simp[gh.gL])
   |succ ig=>
    have H:=bo.1;clear bo;simp only[gh.gL]at H;revert H;refine eo ?_ ?_<;>intro hy H
    ·exact zV
    ·have aK:=I H;clear H;go_wp2
     repeat(go_quiet(fail);try go_wp2)
     go_loopg [4,5] ig (fun bp v1 v2 w'=>∃(b9:Int) (cm:Int),v1=.int .i64 b9∧v2=.int .i64 cm∧aN (gh.aj bp aj bm b9 cm=some r)∧aN (bp≤ig)∧aN (Below w.heap.size w w'))
     case atStart=>exact⟨(b9),(1),bJ,bJ,aK,⟨Nat.le_refl _⟩,⟨fS⟩⟩
     case round=>
      clear aK;obtain⟨b9,cm,rfl,rfl,bo,dn,a7⟩:=hrel;cases gk with
      |zero=>exact absurd bo.1 (by simp[gh.aj])
      |succ cd=>
       have H:=bo.1;clear bo;simp only[gh.aj]at H;revert H;refine eo ?_ ?_<;>intro gq H
       ·revert H;refine fg ?_;intro gU;refine fg ?_;intro hG;refine dF ?_ ?_<;>intro iN je H
        ·have aK:=I H;clear H;obtain⟨gy,bx,fT,ba,bQ⟩:=gY cK.1 cm;obtain rfl:dp=gy:=l6;replace fT:=(a7.1.cell (World.block_lt_of_cell? w _ fT)).trans fT;obtain⟨kO,db,og,dy,fs⟩:=gY cK.1 cm;obtain rfl:dp=kO:=qQ;replace og:=(a7.1.cell (World.block_lt_of_cell? w _ og)).trans og;go_wp2
         repeat(go_quiet(fail);try go_wp2)
         go_roundg cd
         case measure=>have:=gp.1;have:=dn.1;omega
         case rel=>exact⟨(Go.bits .or .i64 (wrap64 (b9*64)) (wrap64 (Go.bits .and .u8 (rd aj cm) 63))),(wrap64 (cm+1)),bJ,bJ,aK,⟨uR⟩,⟨fS⟩⟩
        ·obtain rfl:=Option.some.inj H;obtain⟨gy,bx,fT,ba,bQ⟩:=gY cK.1 cm;obtain rfl:dp=gy:=l6;replace fT:=(a7.1.cell (World.block_lt_of_cell? w _ fT)).trans fT;go_wp2
         repeat(go_quiet(fail);try go_wp2)
         go_ret;exact⟨lh,fS⟩
       ·revert H;refine p1 ?_ ?_<;>intro gU H
        ·exact zV
        ·revert H;refine lf ?_ ?_<;>intro hG H
         ·revert H;refine eo ?_ ?_<;>intro iN H
          ·exact zV
          ·refine jB ?_;clear H;intro H;refine AA ?_;intro t0 bF;refine dF ?_ ?_<;>intro je k5 H
           ·exact FO
           ·exact FO
         ·refine jB ?_;clear H;intro H;refine AA ?_;intro t0 bF;refine dF ?_ ?_<;>intro iN je H
          ·exact FO
          ·exact FO
 ·rw[if_neg c2]at H;exact absurd H (by simp)
def pd.aj:Nat→List Int→Int→Option (Bool)
 |0,_,_=>none
 |k+1,al,bX=>if bX<(al.length:Int)then(if 0≤bX then(if bX≤(al.length:Int)then((gh.f k (al.drop (bX:Int).toNat)).bind fun t207=>(if t207=0 then(some false)else(pd.aj k al (wrap64 (bX+t207)))))else(none))else(none))else(some true)
def pd.f(k:Nat)(aj:List Int):Option (Bool):=pd.aj k aj 0
theorem pd.calls(k:Nat)(ao:Option Addr)(c0:Nat)(aj:List Int)(r:Bool)(w:World)(bP:ab.C (ab.int .u8) w ao aj.length aj)(eT:aj.length≤c0)(h:pd.f k aj=some r):
 Calls Tryz.prog 89 #[.slice ao aj.length c0] w fun e w'=>e=.returned (.bool r)∧Below w.heap.size w w':=by
 have cK:=I bP;have dj:=I eT;clear bP eT;have a7:=I (Below.refl w.heap.size w);have H:(pd.aj k aj 0)=some r:=h;clear h;have aK:=I H;clear H;go_enter Tryz.func89,Tryz.ntmps89;go_wp2
 go_loopg [3] k (fun bp v0 w'=>∃(bm:Int),v0=.int .i64 bm∧aN (pd.aj bp aj bm=some r)∧aN (bp≤k)∧aN (Below w.heap.size w w'))
 case atStart=>exact⟨(0),bJ,aK,⟨Nat.le_refl _⟩,⟨fS⟩⟩
 case round=>
  clear aK;obtain⟨bm,rfl,bo,dn,a7⟩:=hrel;cases gk with
  |zero=>exact absurd bo.1 (by simp[pd.aj])
  |succ cY=>
   have H:=bo.1;clear bo;simp only[pd.aj]at H;revert H;refine eo ?_ ?_<;>intro ho H
   ·by_cases c3:0≤bm
    ·rw[if_pos c3]at H;have hc:=eq_true c3;have hy:decide (0≤bm)=true:=decide_eq_true c3;clear c3;by_cases c4:bm≤(aj.length:Int)
     ·rw[if_pos c4]at H;have gq:=eq_true c4;have gU:decide (bm≤(aj.length:Int))=true:=decide_eq_true c4;clear c4;refine jB ?_;clear H;intro H;refine AA ?_;intro t0 bF;refine dF ?_ ?_<;>intro hG iN H
      ·obtain rfl:=Option.some.inj H;obtain⟨i0,iJ,_,o7,_⟩:=info_parts n2;refine Tw ?_;clear iJ o7;intro bd vj vY iq
       go_wp2_with(first|((with_reducible refine kK (f:=109) rfl ?_);refine kJ (some 12) rfl rfl Tryz.func109 aM rfl #[.slice bd (aj.drop (bm:Int).toNat).length (c0-bm.toNat)] rfl Pd ?_;(with_reducible refine(gh.calls cY _ _ (aj.drop (bm:Int).toNat) t0 _ ?side1 ?side2 bF.1).mono ?_);(case side1=>exact Pg);(case side2=>exact iq.1);rintro e w0 ⟨rfl,U⟩;refine⟨_,rfl,?_⟩;replace a7:=I (jV fS U)))
       go_ret;exact⟨lh,fS⟩
      ·have aK:=I H;clear H;obtain⟨i0,iJ,_,o7,_⟩:=info_parts n2;refine Tw ?_;clear iJ o7;intro bd vj vY iq
       go_wp2_with(first|((with_reducible refine kK (f:=109) rfl ?_);refine kJ (some 12) rfl rfl Tryz.func109 aM rfl #[.slice bd (aj.drop (bm:Int).toNat).length (c0-bm.toNat)] rfl Pd ?_;(with_reducible refine(gh.calls cY _ _ (aj.drop (bm:Int).toNat) t0 _ ?side1 ?side2 bF.1).mono ?_);(case side1=>exact Pg);(case side2=>exact iq.1);rintro e w0 ⟨rfl,U⟩;refine⟨_,rfl,?_⟩;replace a7:=I (jV fS U)))
       go_roundg cY
       case measure=>have:=dn.1;omega
       case rel=>exact⟨(wrap64 (bm+t0)),bJ,aK,⟨qP⟩,⟨fS⟩⟩
     ·rw[if_neg c4]at H;exact absurd H (by simp)
    ·rw[if_neg c3]at H;exact absurd H (by simp)
   ·obtain rfl:=Option.some.inj H;go_wp2;go_ret;exact⟨lh,fS⟩
def wK.f(a0:Int):Option (List Int):=if a0<128 then(some (([(a0)%256]:List Int)))else(if a0<2048 then(some (([(wrap64 (192+(a0/64)))%256,(wrap64 (128+(Go.bits .and .i64 a0 63)))%256]:List Int)))else(if a0<65536 then(some (([(wrap64 (224+(a0/4096)))%256,(wrap64 (128+(Go.bits .and .i64 (a0/64) 63)))%256,(wrap64 (128+(Go.bits .and .i64 a0 63)))%256]:List Int)))else(some (([(wrap64 (240+(a0/262144)))%256,(wrap64 (128+(Go.bits .and .i64 (a0/4096) 63)))%256,(wrap64 (128+(Go.bits .and .i64 (a0/64) 63)))%256,(wrap64 (128+(Go.bits .and .i64 a0 63)))%256]:List Int)))))
theorem wK.calls(a0:Int)(r:List Int)(w:World)(h:wK.f a0=some r):
 Calls Tryz.prog 125 #[.int .i64 a0] w fun e w'=>∃oI:Value,e=.returned (oI)∧ab.R (ab.int .u8) 5 w' w.heap.size (fun _=>True) oI r∧Below w.heap.size w w':=by
 have a7:=I (Below.refl w.heap.size w);have H:=h;unfold wK.f at H;clear h;revert H;refine eo ?_ ?_<;>intro ho H
 ·obtain⟨aT,cL⟩:∃iE:List Int,iE=(([(a0)%256]:List Int)):=⟨_,rfl⟩;refine wJ ?_;clear H cL;intro H gG;obtain rfl:=Option.some.inj H;go_enter Tryz.func125,Tryz.ntmps125;exact Qp
 ·revert H;refine eo ?_ ?_<;>intro hc H
  ·obtain⟨aT,cL⟩:∃iE:List Int,iE=(([(wrap64 (192+(a0/64)))%256,(wrap64 (128+(Go.bits .and .i64 a0 63)))%256]:List Int)):=⟨_,rfl⟩;refine wJ ?_;clear H cL;intro H gG;obtain rfl:=Option.some.inj H;go_enter Tryz.func125,Tryz.ntmps125
   go_wp2_with(first|((with_reducible refine la (N:=20) rfl ?_);refine ab.k9 (ab.int .u8) _ 5 ?aw (N:=20) ?hd (xs:=([(wrap64 (192+(a0/64)))%256,(wrap64 (128+(Go.bits .and .i64 a0 63)))%256]:List Int)) (inner:=[.int .u8 ((wrap64 (192+(a0/64)))%256),.int .u8 ((wrap64 (128+(Go.bits .and .i64 a0 63)))%256)]) (ok:=fun _=>True) (okp:=fun _=>True) ?au ?hp (fun _ ad=>ad) trivial (Below.refl _ _) (Nat.le_refl _) (by simp) ?_;(case hd=>rfl);(case aw=>rfl);(case au=>exact iW);(case hp=>exact(cF.one (show ab.M (ab.int .u8) _ _ _ ((wrap64 (192+(a0/64)))%256) [.int .u8 ((wrap64 (192+(a0/64)))%256)]from rfl) (cF.one (show ab.M (ab.int .u8) _ _ _ ((wrap64 (128+(Go.bits .and .i64 a0 63)))%256) [.int .u8 ((wrap64 (128+(Go.bits .and .i64 a0 63)))%256)]from rfl) (cF.none _ _))));intro v0 w0 bK U hk hl;clear hk hl;(first|rw[←gG.1]at bK|(refine lS ?_;clear bK;intro bK));have gK:=I (ab.jU bK (pv fS));replace a7:=I (jV fS U);clear U bK))
   go_ret;exact⟨_,lh,sM,fS⟩
  ·revert H;refine eo ?_ ?_<;>intro hy H
   ·obtain⟨aT,cL⟩:∃iE:List Int,iE=(([(wrap64 (224+(a0/4096)))%256,(wrap64 (128+(Go.bits .and .i64 (a0/64) 63)))%256,(wrap64 (128+(Go.bits .and .i64 a0 63)))%256]:List Int)):=⟨_,rfl⟩;refine wJ ?_;clear H cL;intro H gG;obtain rfl:=Option.some.inj H;go_enter Tryz.func125,Tryz.ntmps125
    go_wp2_with(first|((with_reducible refine la (N:=37) rfl ?_);refine ab.k9 (ab.int .u8) _ 5 ?aw (N:=37) ?hd (xs:=([(wrap64 (224+(a0/4096)))%256,(wrap64 (128+(Go.bits .and .i64 (a0/64) 63)))%256,(wrap64 (128+(Go.bits .and .i64 a0 63)))%256]:List Int)) (inner:=[.int .u8 ((wrap64 (224+(a0/4096)))%256),.int .u8 ((wrap64 (128+(Go.bits .and .i64 (a0/64) 63)))%256),.int .u8 ((wrap64 (128+(Go.bits .and .i64 a0 63)))%256)]) (ok:=fun _=>True) (okp:=fun _=>True) ?au ?hp (fun _ ad=>ad) trivial (Below.refl _ _) (Nat.le_refl _) (by simp) ?_;(case hd=>rfl);(case aw=>rfl);(case au=>exact iW);(case hp=>exact(cF.one (show ab.M (ab.int .u8) _ _ _ ((wrap64 (224+(a0/4096)))%256) [.int .u8 ((wrap64 (224+(a0/4096)))%256)]from rfl) (cF.one (show ab.M (ab.int .u8) _ _ _ ((wrap64 (128+(Go.bits .and .i64 (a0/64) 63)))%256) [.int .u8 ((wrap64 (128+(Go.bits .and .i64 (a0/64) 63)))%256)]from rfl) (cF.one (show ab.M (ab.int .u8) _ _ _ ((wrap64 (128+(Go.bits .and .i64 a0 63)))%256) [.int .u8 ((wrap64 (128+(Go.bits .and .i64 a0 63)))%256)]from rfl) (cF.none _ _)))));intro v0 w0 bK U hk hl;clear hk hl;(first|rw[←gG.1]at bK|(refine lS ?_;clear bK;intro bK));have gK:=I (ab.jU bK (pv fS));replace a7:=I (jV fS U);clear U bK))
    go_ret;exact⟨_,lh,sM,fS⟩
   ·obtain⟨aT,cL⟩:∃iE:List Int,iE=(([(wrap64 (240+(a0/262144)))%256,(wrap64 (128+(Go.bits .and .i64 (a0/4096) 63)))%256,(wrap64 (128+(Go.bits .and .i64 (a0/64) 63)))%256,(wrap64 (128+(Go.bits .and .i64 a0 63)))%256]:List Int)):=⟨_,rfl⟩;refine wJ ?_;clear H cL;intro H gG;obtain rfl:=Option.some.inj H;go_enter Tryz.func125,Tryz.ntmps125
    go_wp2_with(first|((with_reducible refine la (N:=56) rfl ?_);refine ab.k9 (ab.int .u8) _ 5 ?aw (N:=56) ?hd (xs:=([(wrap64 (240+(a0/262144)))%256,(wrap64 (128+(Go.bits .and .i64 (a0/4096) 63)))%256,(wrap64 (128+(Go.bits .and .i64 (a0/64) 63)))%256,(wrap64 (128+(Go.bits .and .i64 a0 63)))%256]:List Int)) (inner:=[.int .u8 ((wrap64 (240+(a0/262144)))%256),.int .u8 ((wrap64 (128+(Go.bits .and .i64 (a0/4096) 63)))%256),.int .u8 ((wrap64 (128+(Go.bits .and .i64 (a0/64) 63)))%256),.int .u8 ((wrap64 (128+(Go.bits .and .i64 a0 63)))%256)]) (ok:=fun _=>True) (okp:=fun _=>True) ?au ?hp (fun _ ad=>ad) trivial (Below.refl _ _) (Nat.le_refl _) (by simp) ?_;(case hd=>rfl);(case aw=>rfl);(case au=>exact iW);(case hp=>exact(cF.one (show ab.M (ab.int .u8) _ _ _ ((wrap64 (240+(a0/262144)))%256) [.int .u8 ((wrap64 (240+(a0/262144)))%256)]from rfl) (cF.one (show ab.M (ab.int .u8) _ _ _ ((wrap64 (128+(Go.bits .and .i64 (a0/4096) 63)))%256) [.int .u8 ((wrap64 (128+(Go.bits .and .i64 (a0/4096) 63)))%256)]from rfl) (cF.one (show ab.M (ab.int .u8) _ _ _ ((wrap64 (128+(Go.bits .and .i64 (a0/64) 63)))%256) [.int .u8 ((wrap64 (128+(Go.bits .and .i64 (a0/64) 63)))%256)]from rfl) (cF.one (show ab.M (ab.int .u8) _ _ _ ((wrap64 (128+(Go.bits .and .i64 a0 63)))%256) [.int .u8 ((wrap64 (128+(Go.bits .and .i64 a0 63)))%256)]from rfl) (cF.none _ _))))));intro v0 w0 bK U hk hl;clear hk hl;(first|rw[←gG.1]at bK|(refine lS ?_;clear bK;intro bK));have gK:=I (ab.jU bK (pv fS));replace a7:=I (jV fS U);clear U bK))
    go_ret;exact⟨_,lh,sM,fS⟩
def nf.aj:Nat→Int→Int→Int→List Int→Int→Int→fC→Option (List Int×Int×Int×Int)
 |0,_,_,_,_,_,_,_=>none
 |k+1,dX,x8,x9,x1000,dJ,x1002,x1003=>if x9<x8 then((qa.f x1000 dJ x1002 x1003 0).bind fun wS=>((fQ.f k wS.1).bind fun t229=>(if t229<0 then(some (([]:List Int),0,wS.2.1,wS.2.2))else(if wS.2.1≥(x1000.length:Int)then(some (([]:List Int),0,wS.2.1,wS.2.2))else(nf.aj k (wrap64 ((wrap64 (16*dX))+t229)) x8 (wrap64 (x9+1)) x1000 (wrap64 (wS.2.1+1)) wS.2.2 x1003)))))else(if dX>1114111 then(some (([]:List Int),2,dJ,x1002))else(if dX≥55296 then(if dX<57344 then(some (([]:List Int),2,dJ,x1002))else((wK.f dX).bind fun t220=>(some (t220,1,dJ,x1002))))else((wK.f dX).bind fun t223=>(some (t223,1,dJ,x1002)))))
def nf.f(k:Nat)(bY:List Int)(ez:Int)(eL:Int)(cQ:fC)(cg:Int):Option (List Int×Int×Int×Int):=nf.aj k 0 cg 0 bY ez eL cQ
theorem nf.calls(k:Nat)(g:Nat)(bY:List Int)(ez:Int)(eL:Int)(cQ:fC)(cg:Int)(r1:List Int)(fe:Int)(iM:Int)(o8:Int)(w0 w:World)(fJ:cj w0 w g bY ez eL cQ)(dw:Below w0.heap.size w0 w)(h:nf.f k bY ez eL cQ cg=some (r1,fe,iM,o8)):
 Calls Tryz.prog 110 #[.pointer (some ⟨g,0,none⟩),.int .i64 cg] w fun e w'=>∃oI:Value,e=.returned (.tuple #[oI,.int .i64 fe])∧ab.R (ab.int .u8) 5 w' w.heap.size (fun _=>True) oI r1∧cj w0 w' g bY iM o8 cQ∧Below w0.heap.size w0 w'∧cI w w' g none:=by
 refine ug ?_;clear fJ dw;intro bE aV fh iw a7 H;unfold nf.f at H;clear h;have aK:=I H;clear H;go_enter Tryz.func110,Tryz.ntmps110;go_wp2
 repeat(go_quiet(fail);try go_wp2)
 go_loopg [6,9] k (fun bp v0 v1 w'=>∃(bm:Int) (b9:Int) (cm:Int) (fE:Int),v0=.int .i64 bm∧v1=.int .i64 b9∧aN (nf.aj bp bm cg b9 bY cm fE cQ=some (r1,fe,iM,o8))∧aN (bp≤k)∧aN (cj w0 w' g bY cm fE cQ)∧aN (cI w w' g none)∧aN (Below w0.heap.size w0 w'))
 case atStart=>exact⟨(0),(0),(ez),(eL),bJ,bJ,aK,⟨Nat.le_refl _⟩,⟨dU⟩,⟨dB⟩,⟨dT⟩⟩
 case round=>
  clear aK;obtain⟨bm,b9,cm,fE,rfl,rfl,bo,dn,bE,aV,a7⟩:=hrel;cases gk with
  |zero=>exact absurd bo.1 (by simp[nf.aj])
  |succ cY=>
   have H:=bo.1;clear bo;simp only[nf.aj]at H;revert H;refine eo ?_ ?_<;>intro ho H
   ·refine jB ?_;clear H;rintro⟨⟨t0,t2,t3⟩,ao,H⟩
    try dsimp only at H
    have bd:=I ao;clear ao;refine jB ?_;clear H;rintro⟨t4,ao,H⟩
    try dsimp only at H
    have bF:=I ao;clear ao;revert H;refine eo ?_ ?_<;>intro hc H
    ·refine jC ?_;clear H;rintro⟨rfl,rfl,rfl,rfl⟩
     go_wp2_with(first|(refine vd ?_;intro w1 hi U ad aV a7 bE)|(refine vg ?_;rintro e w' ⟨rfl,⟨dh,rfl⟩⟩;(try first|exact⟨rfl,_,World.drewN_drewN _ _ _⟩|exact⟨rfl,_,Eq.trans (World.drewN_drewN _ _ _) (congrArg (World.drewN _) (Nat.add_assoc _ _ _))⟩)))
     repeat(go_quiet(first|(refine vd ?_;intro w1 hi U ad aV a7 bE)|(refine vg ?_;rintro e w' ⟨rfl,⟨dh,rfl⟩⟩;(try first|exact⟨rfl,_,World.drewN_drewN _ _ _⟩|exact⟨rfl,_,Eq.trans (World.drewN_drewN _ _ _) (congrArg (World.drewN _) (Nat.add_assoc _ _ _))⟩)));try go_wp2_with(first|(refine vd ?_;intro w1 hi U ad aV a7 bE)|(refine vg ?_;rintro e w' ⟨rfl,⟨dh,rfl⟩⟩;(try first|exact⟨rfl,_,World.drewN_drewN _ _ _⟩|exact⟨rfl,_,Eq.trans (World.drewN_drewN _ _ _) (congrArg (World.drewN _) (Nat.add_assoc _ _ _))⟩))))
     exact JA
    ·revert H;refine lf ?_ ?_<;>intro hy H
     ·refine jC ?_;clear H;rintro⟨rfl,rfl,rfl,rfl⟩
      go_wp2_with(first|(refine vd ?_;intro w1 hi U ad aV a7 bE)|(refine vg ?_;rintro e w' ⟨rfl,⟨dh,rfl⟩⟩;(try first|exact⟨rfl,_,World.drewN_drewN _ _ _⟩|exact⟨rfl,_,Eq.trans (World.drewN_drewN _ _ _) (congrArg (World.drewN _) (Nat.add_assoc _ _ _))⟩);refine j1 ?_;intro jk jl jm jn iA jo jq jr js jt ju jv))
      repeat(go_quiet(first|(refine vd ?_;intro w1 hi U ad aV a7 bE)|(refine vg ?_;rintro e w' ⟨rfl,⟨dh,rfl⟩⟩;(try first|exact⟨rfl,_,World.drewN_drewN _ _ _⟩|exact⟨rfl,_,Eq.trans (World.drewN_drewN _ _ _) (congrArg (World.drewN _) (Nat.add_assoc _ _ _))⟩);refine j1 ?_;intro jk jl jm jn iA jo jq jr js jt ju jv));try go_wp2_with(first|(refine vd ?_;intro w1 hi U ad aV a7 bE)|(refine vg ?_;rintro e w' ⟨rfl,⟨dh,rfl⟩⟩;(try first|exact⟨rfl,_,World.drewN_drewN _ _ _⟩|exact⟨rfl,_,Eq.trans (World.drewN_drewN _ _ _) (congrArg (World.drewN _) (Nat.add_assoc _ _ _))⟩);refine j1 ?_;intro jk jl jm jn iA jo jq jr js jt ju jv)))
      exact JA
     ·have aK:=I H;clear H
      go_wp2_with(first|(refine vd ?_;intro w1 hi U ad aV a7 bE)|(refine vg ?_;rintro e w' ⟨rfl,⟨dh,rfl⟩⟩;(try first|exact⟨rfl,_,World.drewN_drewN _ _ _⟩|exact⟨rfl,_,Eq.trans (World.drewN_drewN _ _ _) (congrArg (World.drewN _) (Nat.add_assoc _ _ _))⟩);refine j1 ?_;intro jk jl jm jn iA jo jq jr js jt ju jv))
      repeat(go_quiet(first|(refine vd ?_;intro w1 hi U ad aV a7 bE)|(refine vg ?_;rintro e w' ⟨rfl,⟨dh,rfl⟩⟩;(try first|exact⟨rfl,_,World.drewN_drewN _ _ _⟩|exact⟨rfl,_,Eq.trans (World.drewN_drewN _ _ _) (congrArg (World.drewN _) (Nat.add_assoc _ _ _))⟩);refine j1 ?_;intro jk jl jm jn iA jo jq jr js jt ju jv));try go_wp2_with(first|(refine vd ?_;intro w1 hi U ad aV a7 bE)|(refine vg ?_;rintro e w' ⟨rfl,⟨dh,rfl⟩⟩;(try first|exact⟨rfl,_,World.drewN_drewN _ _ _⟩|exact⟨rfl,_,Eq.trans (World.drewN_drewN _ _ _) (congrArg (World.drewN _) (Nat.add_assoc _ _ _))⟩);refine j1 ?_;intro jk jl jm jn iA jo jq jr js jt ju jv)))
      go_roundg cY
      case measure=>have:=dn.1;omega
      case rel=>exact⟨(wrap64 ((wrap64 (16*bm))+t4)),(wrap64 (b9+1)),(wrap64 (t2+1)),(t3),bJ,bJ,aK,⟨qP⟩,⟨dU⟩,⟨dB⟩,⟨dT⟩⟩
   ·revert H;refine p1 ?_ ?_<;>intro hc H
    ·exact Sm
    ·revert H;refine lf ?_ ?_<;>intro hy H
     ·revert H;refine eo ?_ ?_<;>intro gq H
      ·exact Sm
      ·exact RM
     ·exact RM
def AK.f(a0:Int):Option (Bool):=if a0=45 then(some (!true))else(if a0=43 then(some (!true))else(if a0=46 then(some (!true))else(if a0=95 then(some (!true))else(if 97≤a0 then(if a0≤122 then(some (!true))else(if 65≤a0 then(if a0≤90 then(some (!true))else(if 48≤a0 then(some (!(decide (a0≤57))))else(some (!false))))else(if 48≤a0 then(some (!(decide (a0≤57))))else(some (!false)))))else(if 65≤a0 then(if a0≤90 then(some (!true))else(if 48≤a0 then(some (!(decide (a0≤57))))else(some (!false))))else(if 48≤a0 then(some (!(decide (a0≤57))))else(some (!false))))))))
theorem AK.calls(a0:Int)(r:Bool)(w:World)(h:AK.f a0=some r):
 Calls Tryz.prog 83 #[.int .u8 a0] w fun e w'=>e=.returned (.bool r)∧eO w w':=by
 have H:=h;unfold AK.f at H;clear h;revert H;refine dF ?_ ?_<;>intro ho hc H
 ·exact qW
 ·revert H;refine dF ?_ ?_<;>intro hy gq H
  ·exact qW
  ·revert H;refine dF ?_ ?_<;>intro gU hG H
   ·exact qW
   ·revert H;refine dF ?_ ?_<;>intro iN je H
    ·exact qW
    ·revert H;refine eo ?_ ?_<;>intro k5 H
     ·revert H;refine eo ?_ ?_<;>intro nM H
      ·exact qW
      ·revert H;refine eo ?_ ?_<;>intro q9 H
       ·revert H;refine eo ?_ ?_<;>intro nH H
        ·exact qW
        ·revert H;refine eo ?_ ?_<;>intro tg H
         ·exact qW
         ·exact qW
       ·exact Sq
     ·revert H;refine eo ?_ ?_<;>intro nM H
      ·revert H;refine eo ?_ ?_<;>intro q9 H
       ·exact qW
       ·exact Sq
      ·revert H;refine eo ?_ ?_<;>intro q9 H
       ·exact qW
       ·exact qW
end ei
