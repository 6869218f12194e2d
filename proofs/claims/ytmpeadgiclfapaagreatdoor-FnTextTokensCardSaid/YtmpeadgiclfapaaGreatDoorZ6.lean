/- Part 4 of the proof (T11). Conditions: each theorem's own. -/
import Derived.Test.YtmpeadgiclfapaaGreatDoorZ3
set_option linter.all false
set_option maxHeartbeats 0
set_option maxRecDepth 100000
namespace Go.Proofs.YtmpeadgiclfapaaGreatDoor
namespace ei
open RowKit YtmpeadgiclfapaaGreatDoorW.PrintWords YtmpeadgiclfapaaGreatDoorW.PrintLast YtmpeadgiclfapaaGreatDoorW.PrintMore
attribute [local go_sem] sB sC sD sF sG sH sI sJ
mutual
def cy.cD:Nat→ByteArray→Int→Int→Int→Option (Int)
 |0,_,_,_,_=>none
 |k+1,al,bX,dk,eB=>if dk>1 then(if 0<(al.size:Int)then(cy.gL k al bX dk eB ((bB al 0)==48))else(none))else(cy.gL k al bX dk eB false)
def cy.gL:Nat→ByteArray→Int→Int→Int→Bool→Option (Int)
 |0,_,_,_,_,_=>none
 |k+1,al,bX,dk,eB,x27=>if x27=true then(some 0)else(if bX<(al.size:Int)then(if 0≤bX then(cy.gZ k al bX dk eB ((bB al bX)==46))else(none))else(cy.gZ k al bX dk eB false))
def cy.gZ:Nat→ByteArray→Int→Int→Int→Bool→Option (Int)
 |0,_,_,_,_,_=>none
 |k+1,al,bX,dk,eB,x37=>if x37=true then(cy.cC k al (wrap64 (bX+1)) dk eB)else(cy.iI k al bX dk eB)
def cy.iI:Nat→ByteArray→Int→Int→Int→Option (Int)
 |0,_,_,_,_=>none
 |k+1,al,bX,dk,eB=>if(wrap64 (dk+eB))=0 then(some (-1))else(if bX<(al.size:Int)then(if 0≤bX then(if(bB al bX)=101 then(cy.re k al bX true)else(cy.re k al bX ((bB al bX)==69)))else(none))else(cy.re k al bX false))
def cy.re:Nat→ByteArray→Int→Bool→Option (Int)
 |0,_,_,_=>none
 |k+1,al,bX,x73=>if x73=true then(if(wrap64 (bX+1))<(al.size:Int)then(if 0≤(wrap64 (bX+1))then(if(bB al (wrap64 (bX+1)))=43 then(cy.iO k al (wrap64 (bX+1)) true)else(cy.iO k al (wrap64 (bX+1)) ((bB al (wrap64 (bX+1)))==45)))else(none))else(cy.iO k al (wrap64 (bX+1)) false))else(cy.vs k al bX)
def cy.vs:Nat→ByteArray→Int→Option (Int)
 |0,_,_=>none
 |k+1,al,bX=>if bX<(al.size:Int)then(if 0≤bX then(if(bB al bX)=102 then(cy.sh k al bX true)else(cy.sh k al bX ((bB al bX)==70)))else(none))else(cy.sh k al bX false)
def cy.sh:Nat→ByteArray→Int→Bool→Option (Int)
 |0,_,_,_=>none
 |k+1,al,bX,x125=>if x125=true then(if(wrap64 (bX+1))<(al.size:Int)then(some 0)else(some 4))else(if bX<(al.size:Int)then(some 0)else(some 4))
def cy.iO:Nat→ByteArray→Int→Bool→Option (Int)
 |0,_,_,_=>none
 |k+1,al,bX,x91=>if x91=true then(cy.wR k al (wrap64 (bX+1)))else(cy.wR k al bX)
def cy.wR:Nat→ByteArray→Int→Option (Int)
 |0,_,_=>none
 |k+1,al,bX=>cy.gA k al bX bX
def cy.gA:Nat→ByteArray→Int→Int→Option (Int)
 |0,_,_,_=>none
 |k+1,al,bX,dX=>if bX<(al.size:Int)then(if 0≤bX then((ks.f (bB al bX)).bind fun abq=>(if abq=true then(cy.gA k al (wrap64 (bX+1)) dX)else(if bX=dX then(some (-1))else(cy.vs k al bX))))else(none))else(if bX=dX then(some (-1))else(cy.vs k al bX))
def cy.cC:Nat→ByteArray→Int→Int→Int→Option (Int)
 |0,_,_,_,_=>none
 |k+1,al,bX,dk,eB=>if bX<(al.size:Int)then(if 0≤bX then((ks.f (bB al bX)).bind fun abr=>(if abr=true then(cy.cC k al (wrap64 (bX+1)) dk (wrap64 (eB+1)))else(cy.iI k al bX dk eB)))else(none))else(cy.iI k al bX dk eB)
def cy.aj:Nat→ByteArray→Int→Int→Int→Option (Int)
 |0,_,_,_,_=>none
 |k+1,al,bX,dk,eB=>if bX<(al.size:Int)then(if 0≤bX then((ks.f (bB al bX)).bind fun abt=>(if abt=true then(cy.aj k al (wrap64 (bX+1)) (wrap64 (dk+1)) eB)else(cy.cD k al bX dk eB)))else(none))else(cy.cD k al bX dk eB)
end
def cy.f(k:Nat)(a0:ByteArray):Option (Int):=cy.aj k a0 0 0 0
theorem cy.calls(k:Nat)(a0:ByteArray)(r:Int)(w:World)(h:cy.f k a0=some r):
 Calls Tryz.prog 92 #[.string a0] w fun e w'=>e=.returned (.int .i64 r)∧eO w w':=by
 have H:(cy.aj k a0 0 0 0)=some r:=h;clear h;have dj:=I H;clear H;go_enter Tryz.func92,Tryz.ntmps92
 go_upto_block 0 with(fail)
 go_cut [3,4] (fun v0 v1 wc=>∃(bp:Nat) (bm:Int) (b9:Int),v0=.int .i64 bm∧v1=.int .i64 b9∧aN (cy.cD bp a0 bm b9 0=some r)∧aN (bp≤k)∧eO w wc)
 case first=>
  have H:=dj.1;clear dj;have aK:=I H;clear H;go_wp2
  go_loopg [3,4] k (fun bp v0 v1 w'=>∃(bm:Int) (b9:Int),v0=.int .i64 bm∧v1=.int .i64 b9∧aN (cy.aj bp a0 bm b9 0=some r)∧aN (bp≤k)∧eO w w')
  case atStart=>exact⟨(0),(0),bJ,bJ,aK,⟨Nat.le_refl _⟩,dH⟩
  case round=>
   clear aK;obtain⟨bm,b9,rfl,rfl,bo,dn,⟨m0,rfl⟩⟩:=hrel;cases gk with
   |zero=>exact absurd bo.1 (by simp[cy.aj])
   |succ cY=>
    have H:=bo.1;clear bo;simp only[cy.aj]at H;revert H;refine eo ?_ ?_<;>intro ho H
    ·refine CI ?_;revert H;refine fg ?_;intro hc H;refine yy ?_;clear H;intro t0 bd H;by_cases c7:t0=true
     ·subst c7;refine oG ?_;clear H;intro aK;refine CF ?_;intro aW p0 a1
      go_wp2_with(first|(go_at_call 39;(with_reducible refine(ks.calls (bB a0 bm) true _ bd.1).mono ?_);rintro e w' ⟨rfl,⟨dh,rfl⟩⟩))
      go_roundg cY
      case measure=>have:=dn.1;omega
      case rel=>exact⟨(wrap64 (bm+1)),(wrap64 (b9+1)),bJ,bJ,aK,⟨qP⟩,dH⟩
     ·replace c7:=Bool.eq_false_iff.mpr c7;subst c7;refine vp ?_;clear H;intro aK;refine CF ?_;intro aW p0 a1
      go_wp2_with(first|(go_at_call 39;(with_reducible refine(ks.calls (bB a0 bm) false _ bd.1).mono ?_);rintro e w' ⟨rfl,⟨dh,rfl⟩⟩))
      exact P8
    ·refine va ?_;clear H;intro aK;go_wp2;exact P8
 case rest=>
  clear dj;obtain⟨bp,bm,b9,rfl,rfl,bo,gp,⟨G0,rfl⟩⟩:=hcut;cases bp with
  |zero=>exact absurd bo.1 (by simp[cy.cD])
  |succ ig=>
   have H:=bo.1;clear bo;simp only[cy.cD]at H;have dj:=I H;clear H
   go_upto_region 5 with(fail)
   go_cut [27] (fun v2 wc=>∃(bp:Nat) (cm:Bool),v2=.bool cm∧aN (cy.gL bp a0 bm b9 0 cm=some r)∧aN (bp≤ig)∧eO w wc)
   case first=>
    have H:=dj.1;clear dj;revert H;refine p1 ?_ ?_<;>intro ho H
    ·refine CI ?_;by_cases mT:0<(a0.size:Int)
     ·rw[if_pos mT]at H;have hc:decide (0<(a0.size:Int))=true:=decide_eq_true mT;have hy:decide (0<a0.size)=true:=decide_eq_true (by omega);clear mT;refine vh ?_;clear H;intro aK aW r9 a1;go_wp2;go_meet
      case rel=>exact⟨_,(((bB a0 0)==48)),bJ,aK,⟨zF⟩,dH⟩
     ·exact J7
    ·refine va ?_;clear H;intro aK;exact Qf
   case rest=>
    clear dj;obtain⟨bp,cm,rfl,bo,jY,⟨Lt,rfl⟩⟩:=hcut;cases bp with
    |zero=>exact absurd bo.1 (by simp[cy.gL])
    |succ qi=>
     have H:=bo.1;clear bo;simp only[cy.gL]at H;by_cases ck:cm=true
     ·subst ck;exact zZ
     ·replace ck:=Bool.eq_false_iff.mpr ck;subst ck;refine kf ?_;clear H;intro H;have dj:=I H;clear H
      go_upto_region 7 with(fail)
      go_cut [37] (fun v3 wc=>∃(bp:Nat) (fE:Bool),v3=.bool fE∧aN (cy.gZ bp a0 bm b9 0 fE=some r)∧aN (bp≤qi)∧eO w wc)
      case first=>
       have H:=dj.1;clear dj;revert H;refine eo ?_ ?_<;>intro ho H
       ·refine CI ?_;revert H;refine fg ?_;intro hc H;have aK:=I H;clear H;refine CF ?_;intro aW p0 a1;go_wp2;go_meet
        case rel=>exact⟨_,(((bB a0 bm)==46)),bJ,aK,⟨Fc⟩,dH⟩
       ·refine va ?_;clear H;intro aK;go_wp2;go_meet
        case rel=>exact⟨_,(false),bJ,aK,⟨Fc⟩,dH⟩
      case rest=>
       clear dj;obtain⟨bp,fE,rfl,bo,mV,⟨abu,rfl⟩⟩:=hcut;cases bp with
       |zero=>exact absurd bo.1 (by simp[cy.gZ])
       |succ yD=>
        have H:=bo.1;clear bo;simp only[cy.gZ]at H;have dj:=I H;clear H
        go_upto_if 37 with(fail)
        go_cut [3,5] (fun v0 v4 wc=>∃(bp:Nat) (fw:Int) (j2:Int),v0=.int .i64 fw∧v4=.int .i64 j2∧aN (cy.iI bp a0 fw b9 j2=some r)∧aN (bp≤yD)∧eO w wc)
        case first=>
         have H:=dj.1;clear dj;by_cases c12:fE=true
         ·subst c12;refine oG ?_;clear H;intro aK;go_wp2
          go_loopg [3,5] yD (fun bp v0 v4 w'=>∃(kN:Int) (mZ:Int),v0=.int .i64 kN∧v4=.int .i64 mZ∧aN (cy.cC bp a0 kN b9 mZ=some r)∧aN (bp≤yD)∧eO w w')
          case atStart=>exact⟨(wrap64 (bm+1)),(0),bJ,bJ,aK,⟨Nat.le_refl _⟩,dH⟩
          case round=>
           clear aK;obtain⟨kN,mZ,rfl,rfl,bo,dn,⟨m0,rfl⟩⟩:=hrel;cases gk with
           |zero=>exact absurd bo.1 (by simp[cy.cC])
           |succ cd=>
            have H:=bo.1;clear bo;simp only[cy.cC]at H;revert H;refine eo ?_ ?_<;>intro ho H
            ·refine CI ?_;revert H;refine fg ?_;intro hc H;refine yy ?_;clear H;intro t0 bd H;by_cases eN:t0=true
             ·subst eN;refine oG ?_;clear H;intro aK;refine Tp ?_;intro aW p0 a1
              go_wp2_with(first|(go_at_call 39;(with_reducible refine(ks.calls (bB a0 kN) true _ bd.1).mono ?_);rintro e w' ⟨rfl,⟨dh,rfl⟩⟩))
              go_roundg cd
              case measure=>have:=gp.1;have:=jY.1;have:=mV.1;have:=dn.1;omega
              case rel=>exact⟨(wrap64 (kN+1)),(wrap64 (mZ+1)),bJ,bJ,aK,⟨(by have:=gp.1;have:=jY.1;have:=mV.1;have:=dn.1;omega)⟩,dH⟩
             ·replace eN:=Bool.eq_false_iff.mpr eN;subst eN;refine vp ?_;clear H;intro aK;refine Tp ?_;intro aW p0 a1
              go_wp2_with(first|(go_at_call 39;(with_reducible refine(ks.calls (bB a0 kN) false _ bd.1).mono ?_);rintro e w' ⟨rfl,⟨dh,rfl⟩⟩))
              exact P9
            ·refine va ?_;clear H;intro aK;go_wp2;exact P9
         ·replace c12:=Bool.eq_false_iff.mpr c12;subst c12;refine vp ?_;clear H;intro aK;go_wp2;go_meet
          case rel=>exact⟨_,(bm),(0),bJ,bJ,aK,⟨(by have:=gp.1;have:=jY.1;have:=mV.1;first|omega|exact Nat.le_refl _)⟩,dH⟩
        case rest=>
         clear dj;obtain⟨bp,fw,j2,rfl,rfl,bo,qM,⟨ajZ,rfl⟩⟩:=hcut;cases bp with
         |zero=>exact absurd bo.1 (by simp[cy.iI])
         |succ G5=>
          have H:=bo.1;clear bo;simp only[cy.iI]at H;revert H;refine dF ?_ ?_<;>intro ho hc H
          ·exact nc
          ·have dj:=I H;clear H
           go_upto_region 14 with(fail)
           go_cut [73] (fun v5 wc=>∃(bp:Nat) (kN:Bool),v5=.bool kN∧aN (cy.re bp a0 fw kN=some r)∧aN (bp≤G5)∧eO w wc)
           case first=>
            have H:=dj.1;clear dj;revert H;refine eo ?_ ?_<;>intro hy H
            ·refine p9 ?_;revert H;refine fg ?_;intro gq;refine dF ?_ ?_<;>intro gU hG H
             ·have aK:=I H;clear H;refine K3 ?_;intro aW p0 a1;go_wp2;go_meet
              case rel=>exact⟨_,(true),bJ,aK,⟨I9⟩,dH⟩
             ·have aK:=I H;clear H;refine K3 ?_;intro aW p0 a1;refine K3 ?_;intro aW p0 a1;go_wp2;go_meet
              case rel=>exact⟨_,(((bB a0 fw)==69)),bJ,aK,⟨I9⟩,dH⟩
            ·refine p9 ?_;have aK:=I H;clear H;go_wp2;go_meet
             case rel=>exact⟨_,(false),bJ,aK,⟨I9⟩,dH⟩
           case rest=>
            clear dj;obtain⟨bp,kN,rfl,bo,sL,⟨aj0,rfl⟩⟩:=hcut;cases bp with
            |zero=>exact absurd bo.1 (by simp[cy.re])
            |succ sW=>
             have H:=bo.1;clear bo;simp only[cy.re]at H;have dj:=I H;clear H
             go_upto_if 73 with(fail)
             go_cut [3] (fun v0 wc=>∃(bp:Nat) (mZ:Int),v0=.int .i64 mZ∧aN (cy.vs bp a0 mZ=some r)∧aN (bp≤sW)∧eO w wc)
             case first=>
              have H:=dj.1;clear dj;by_cases c12:kN=true
              ·subst c12;refine mz ?_;clear H;intro H;have iq:=I H;clear H
               go_upto_region 16 with(fail)
               go_cut [91] (fun v6 wc=>∃(bp:Nat) (qk:Bool),v6=.bool qk∧aN (cy.iO bp a0 (wrap64 (fw+1)) qk=some r)∧aN (bp≤sW)∧eO w wc)
               case first=>
                have H:=iq.1;clear iq;revert H;refine eo ?_ ?_<;>intro hy H
                ·refine p9 ?_;obtain⟨cH,fN⟩:∃ki:Int,(wrap64 (fw+1))=ki:=⟨_,rfl⟩;replace H:(if 0≤(cH)then(if(bB a0 (cH))=43 then(cy.iO sW a0 cH true)else(cy.iO sW a0 cH ((bB a0 (cH))==45)))else(none))=some r:=by first|(rw[fN]at H;exact H)|(simp only[fN]at H⊢;exact H)
                 (try rw[fN]at hy)
                 have q6:(IntKind.i64.wrap (fw+1))=cH:=(jj _).trans fN;revert H;refine fg ?_;intro gq;refine dF ?_ ?_<;>intro gU hG H
                 ·have aK:=I H;clear H;refine K0 ?_;intro aW p0 a1;go_wp2;go_meet
                  case rel=>exact⟨_,(true),bJ,(by first|exact aK|(rw[fN];exact aK)),⟨EV⟩,dH⟩
                 ·have aK:=I H;clear H;refine K0 ?_;intro aW p0 a1;refine K0 ?_;intro aW p0 a1;go_wp2;go_meet
                  case rel=>exact⟨_,(((bB a0 (cH))==45)),rR,(by first|exact aK|(rw[fN];exact aK)),⟨EV⟩,dH⟩
                ·refine p9 ?_;have aK:=I H;clear H;go_wp2;go_meet
                 case rel=>exact⟨_,(false),bJ,aK,⟨EV⟩,dH⟩
               case rest=>
                clear iq;obtain⟨bp,qk,rfl,bo,BZ,⟨abv,rfl⟩⟩:=hcut;cases bp with
                |zero=>exact absurd bo.1 (by simp[cy.iO])
                |succ Lz=>
                 have H:=bo.1;clear bo;simp only[cy.iO]at H;have iq:=I H;clear H
                 go_upto_if 91 with(fail)
                 go_cut [3] (fun v0 wc=>∃(bp:Nat) (uv:Int),v0=.int .i64 uv∧aN (cy.wR bp a0 uv=some r)∧aN (bp≤Lz)∧eO w wc)
                 case first=>
                  have H:=iq.1;clear iq;by_cases eN:qk=true
                  ·subst eN;refine oG ?_;clear H;intro aK;go_wp2;go_meet
                   case rel=>exact⟨_,(wrap64 ((wrap64 (fw+1))+1)),bJ,aK,⟨B3⟩,dH⟩
                  ·replace eN:=Bool.eq_false_iff.mpr eN;subst eN;refine vp ?_;clear H;intro aK;go_wp2;go_meet
                   case rel=>exact⟨_,((wrap64 (fw+1))),bJ,aK,⟨B3⟩,dH⟩
                 case rest=>
                  clear iq;obtain⟨bp,uv,rfl,bo,ER,⟨abw,rfl⟩⟩:=hcut;cases bp with
                  |zero=>exact absurd bo.1 (by simp[cy.wR])
                  |succ LA=>
                   have H:=bo.1;clear bo;simp only[cy.wR]at H;have aK:=I H;clear H;go_wp2
                   go_loopg [3] LA (fun bp v0 w'=>∃(hj:Int),v0=.int .i64 hj∧aN (cy.gA bp a0 hj uv=some r)∧aN (bp≤LA)∧eO w w')
                   case atStart=>exact⟨(uv),bJ,aK,⟨Nat.le_refl _⟩,dH⟩
                   case round=>
                    clear aK;obtain⟨hj,rfl,bo,dn,⟨m0,rfl⟩⟩:=hrel;cases gk with
                    |zero=>exact absurd bo.1 (by simp[cy.gA])
                    |succ cd=>
                     have H:=bo.1;clear bo;simp only[cy.gA]at H;revert H;refine eo ?_ ?_<;>intro hy H
                     ·revert H;refine fg ?_;intro gq H;refine yy ?_;clear H;intro t0 bd H;by_cases eN:t0=true
                      ·subst eN;refine oG ?_;clear H;intro aK;refine K2 ?_;intro aW p0 a1
                       go_wp2_with(first|(go_at_call 39;(with_reducible refine(ks.calls (bB a0 hj) true _ bd.1).mono ?_);rintro e w' ⟨rfl,⟨dh,rfl⟩⟩))
                       go_roundg cd
                       case measure=>have:=gp.1;have:=jY.1;have:=mV.1;have:=qM.1;have:=sL.1;have:=BZ.1;have:=ER.1;have:=dn.1;omega
                       case rel=>exact⟨(wrap64 (hj+1)),bJ,aK,⟨(by have:=gp.1;have:=jY.1;have:=mV.1;have:=qM.1;have:=sL.1;have:=BZ.1;have:=ER.1;have:=dn.1;omega)⟩,dH⟩
                      ·replace eN:=Bool.eq_false_iff.mpr eN;subst eN;refine kf ?_;clear H;refine dF ?_ ?_<;>intro gU hG H
                       ·obtain rfl:=Option.some.inj H;refine K2 ?_;intro aW p0 a1
                        go_wp2_with(first|(go_at_call 39;(with_reducible refine(ks.calls (bB a0 hj) false _ bd.1).mono ?_);rintro e w' ⟨rfl,⟨dh,rfl⟩⟩))
                        go_ret;exact⟨bJ,dH⟩
                       ·have aK:=I H;clear H;refine K2 ?_;intro aW p0 a1
                        go_wp2_with(first|(go_at_call 39;(with_reducible refine(ks.calls (bB a0 hj) false _ bd.1).mono ?_);rintro e w' ⟨rfl,⟨dh,rfl⟩⟩))
                        go_meet
                        case rel=>exact⟨_,(hj),bJ,aK,⟨Ph⟩,dH⟩
                     ·revert H;refine dF ?_ ?_<;>intro gq gU H
                      ·exact nc
                      ·have aK:=I H;clear H;go_wp2;go_meet
                       case rel=>exact⟨_,(hj),bJ,aK,⟨Ph⟩,dH⟩
              ·replace c12:=Bool.eq_false_iff.mpr c12;subst c12;refine vp ?_;clear H;intro aK;go_wp2;go_meet
               case rel=>exact⟨_,(fw),bJ,aK,⟨EV⟩,dH⟩
             case rest=>
              clear dj;obtain⟨bp,mZ,rfl,bo,BZ,⟨abv,rfl⟩⟩:=hcut;cases bp with
              |zero=>exact absurd bo.1 (by simp[cy.vs])
              |succ Lz=>
               have H:=bo.1;clear bo;simp only[cy.vs]at H;have dj:=I H;clear H
               go_upto_region 23 with(fail)
               go_cut [125] (fun v6 wc=>∃(bp:Nat) (qk:Bool),v6=.bool qk∧aN (cy.sh bp a0 mZ qk=some r)∧aN (bp≤Lz)∧eO w wc)
               case first=>
                have H:=dj.1;clear dj;revert H;refine eo ?_ ?_<;>intro hy H
                ·refine p9 ?_;revert H;refine fg ?_;intro gq;refine dF ?_ ?_<;>intro gU hG H
                 ·have aK:=I H;clear H;refine K4 ?_;intro aW p0 a1;go_wp2;go_meet
                  case rel=>exact⟨_,(true),bJ,aK,⟨B3⟩,dH⟩
                 ·have aK:=I H;clear H;refine K4 ?_;intro aW p0 a1;refine K4 ?_;intro aW p0 a1;go_wp2;go_meet
                  case rel=>exact⟨_,(((bB a0 mZ)==70)),bJ,aK,⟨B3⟩,dH⟩
                ·refine p9 ?_;have aK:=I H;clear H;go_wp2;go_meet
                 case rel=>exact⟨_,(false),bJ,aK,⟨B3⟩,dH⟩
               case rest=>
                clear dj;obtain⟨bp,qk,rfl,bo,ER,⟨abw,rfl⟩⟩:=hcut;cases bp with
                |zero=>exact absurd bo.1 (by simp[cy.sh])
                |succ LA=>
                 have H:=bo.1;clear bo;simp only[cy.sh]at H;by_cases c12:qk=true
                 ·subst c12;refine mz ?_;exact R1
                 ·replace c12:=Bool.eq_false_iff.mpr c12;subst c12;refine kf ?_;exact R1
end ei
