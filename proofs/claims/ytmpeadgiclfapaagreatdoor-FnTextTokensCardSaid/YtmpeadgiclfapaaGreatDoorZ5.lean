/- Part 3 of the proof (T5, T60). Conditions: each theorem's own. -/
import Derived.Test.YtmpeadgiclfapaaGreatDoorZ3
set_option linter.all false
set_option maxHeartbeats 0
set_option maxRecDepth 100000
namespace Go.Proofs.YtmpeadgiclfapaaGreatDoor
namespace ei
open RowKit YtmpeadgiclfapaaGreatDoorW.PrintWords YtmpeadgiclfapaaGreatDoorW.PrintLast YtmpeadgiclfapaaGreatDoorW.PrintMore
attribute [local go_sem] sB sC sD sF sG sH sI sJ
mutual
def cz.cD:Nat→List Int→Int→List Int→Int→Int→fC→Option (Int×Int)
 |0,_,_,_,_,_,_=>none
 |k+1,eg,dk,x1000,dJ,x1002,x1003=>if 0≤dk then(if dk≤(eg.length:Int)then(cz.cC k eg dk 0 (eg.drop (dk:Int).toNat) ((eg.drop (dk:Int).toNat).length:Int) 0 x1000 dJ x1002 x1003)else(none))else(none)
def cz.cC:Nat→List Int→Int→Int→List Int→Int→Int→List Int→Int→Int→fC→Option (Int×Int)
 |0,_,_,_,_,_,_,_,_,_,_=>none
 |k+1,eg,dk,eB,x27,x28,x29,x1000,dJ,x1002,x1003=>if x29<x28 then(if 0≤x29 then(if x29<(x27.length:Int)then((qX.f (rd x27 x29)).bind fun t127=>(if t127=true then(cz.cC k eg dk (wrap64 (eB+1)) x27 x28 (wrap64 (x29+1)) x1000 dJ x1002 x1003)else(if(rd x27 x29)=46 then(if eB>0 then(cz.cC k eg dk 0 x27 x28 (wrap64 (x29+1)) x1000 dJ x1002 x1003)else((k4.f x1000 dJ x1002 x1003).bind fun T3=>(cz.cC k eg dk eB x27 x28 (wrap64 (x29+1)) x1000 T3.1 T3.2 x1003)))else((k4.f x1000 dJ x1002 x1003).bind fun T4=>(cz.cC k eg dk eB x27 x28 (wrap64 (x29+1)) x1000 T4.1 T4.2 x1003)))))else(none))else(none))else(if eB=0 then((k4.f x1000 dJ x1002 x1003).bind fun T5=>(cz.gZ k eg dk x1000 T5.1 T5.2 x1003))else(cz.gZ k eg dk x1000 dJ x1002 x1003))
def cz.gZ:Nat→List Int→Int→List Int→Int→Int→fC→Option (Int×Int)
 |0,_,_,_,_,_,_=>none
 |k+1,eg,dk,x1000,dJ,x1002,x1003=>if dk=0 then(some (dJ,x1002))else(if 0≤(wrap64 (dk-1))then(if(wrap64 (dk-1))≤(eg.length:Int)then(if((eg.take ((wrap64 (dk-1)):Int).toNat).length:Int)=0 then(cz.de k (eg.take ((wrap64 (dk-1)):Int).toNat) true x1000 dJ x1002 x1003)else(if 0<((eg.take ((wrap64 (dk-1)):Int).toNat).length:Int)then(cz.de k (eg.take ((wrap64 (dk-1)):Int).toNat) ((rd (eg.take ((wrap64 (dk-1)):Int).toNat) 0)==47) x1000 dJ x1002 x1003)else(none)))else(none))else(none))
def cz.de:Nat→List Int→Bool→List Int→Int→Int→fC→Option (Int×Int)
 |0,_,_,_,_,_,_=>none
 |k+1,x8,x66,x1000,dJ,x1002,x1003=>if x66=true then((k4.f x1000 dJ x1002 x1003).bind fun T6=>(cz.iI k x8 x1000 T6.1 T6.2 x1003))else(cz.iI k x8 x1000 dJ x1002 x1003)
def cz.iI:Nat→List Int→List Int→Int→Int→fC→Option (Int×Int)
 |0,_,_,_,_,_=>none
 |k+1,x8,x1000,dJ,x1002,x1003=>cz.gA k x8 0 x1000 dJ x1002 x1003
def cz.gA:Nat→List Int→Int→List Int→Int→Int→fC→Option (Int×Int)
 |0,_,_,_,_,_,_=>none
 |k+1,x8,x9,x1000,dJ,x1002,x1003=>if x9<(x8.length:Int)then(if 0≤x9 then(if(rd x8 x9)=37 then(if(wrap64 (x9+2))<(x8.length:Int)then(if 0≤(wrap64 (x9+1))then(if(wrap64 (x9+1))<(x8.length:Int)then((fQ.f k (rd x8 (wrap64 (x9+1)))).bind fun t140=>(if t140≥0 then(if 0≤(wrap64 (x9+2))then((fQ.f k (rd x8 (wrap64 (x9+2)))).bind fun t142=>(cz.iO k x8 x9 (rd x8 x9) (decide (t142≥0)) x1000 dJ x1002 x1003))else(none))else(cz.iO k x8 x9 (rd x8 x9) false x1000 dJ x1002 x1003)))else(none))else(none))else(cz.iO k x8 x9 (rd x8 x9) false x1000 dJ x1002 x1003))else(cz.iO k x8 x9 (rd x8 x9) false x1000 dJ x1002 x1003))else(none))else(some (dJ,x1002))
def cz.iO:Nat→List Int→Int→Int→Bool→List Int→Int→Int→fC→Option (Int×Int)
 |0,_,_,_,_,_,_,_,_=>none
 |k+1,x8,x9,x10,x79,x1000,dJ,x1002,x1003=>if x79=true then(cz.gA k x8 (wrap64 ((wrap64 (x9+2))+1)) x1000 dJ x1002 x1003)else(if x10=39 then((nJ.f x1000 dJ x1002 x1003).bind fun T7=>(cz.gA k x8 (wrap64 (x9+1)) x1000 T7.1 T7.2 x1003))else((qX.f x10).bind fun t145=>(if t145=true then(cz.gA k x8 (wrap64 (x9+1)) x1000 dJ x1002 x1003)else((hJ.f k x10 (⟨#[46,126,33,36,38,40,41,42,43,44,59,61,47]⟩:ByteArray)).bind fun t146=>(if t146=true then(cz.gA k x8 (wrap64 (x9+1)) x1000 dJ x1002 x1003)else((k4.f x1000 dJ x1002 x1003).bind fun T8=>(cz.gA k x8 (wrap64 (x9+1)) x1000 T8.1 T8.2 x1003)))))))
def cz.aj:Nat→List Int→Int→List Int→Int→Int→fC→Option (Int×Int)
 |0,_,_,_,_,_,_=>none
 |k+1,eg,dk,x1000,dJ,x1002,x1003=>if dk>0 then(if 0≤(wrap64 (dk-1))then(if(wrap64 (dk-1))<(eg.length:Int)then(if(rd eg (wrap64 (dk-1)))=47 then(cz.cD k eg dk x1000 dJ x1002 x1003)else(cz.aj k eg (wrap64 (dk-1)) x1000 dJ x1002 x1003))else(none))else(none))else(cz.cD k eg dk x1000 dJ x1002 x1003)
end
def cz.f(k:Nat)(bY:List Int)(ez:Int)(eL:Int)(cQ:fC)(cC:List Int):Option (Int×Int):=cz.aj k cC (cC.length:Int) bY ez eL cQ
theorem cz.o9:∀k,(∀aT bh bA y3 y4 hg,gj (cz.cD k aT bh bA y3 y4 hg) (cz.cD (k+1) aT bh bA y3 y4 hg))∧(∀aT bh bA y3 y4 hg y6 yC Cy Lx,gj (cz.cC k aT bh bA y3 y4 hg y6 yC Cy Lx) (cz.cC (k+1) aT bh bA y3 y4 hg y6 yC Cy Lx))∧(∀aT bh bA y3 y4 hg,gj (cz.gZ k aT bh bA y3 y4 hg) (cz.gZ (k+1) aT bh bA y3 y4 hg))∧(∀aT bh bA y3 y4 hg,gj (cz.de k aT bh bA y3 y4 hg) (cz.de (k+1) aT bh bA y3 y4 hg))∧(∀aT bh bA y3 y4,gj (cz.iI k aT bh bA y3 y4) (cz.iI (k+1) aT bh bA y3 y4))∧(∀aT bh bA y3 y4 hg,gj (cz.gA k aT bh bA y3 y4 hg) (cz.gA (k+1) aT bh bA y3 y4 hg))∧(∀aT bh bA y3 y4 hg y6 yC,gj (cz.iO k aT bh bA y3 y4 hg y6 yC) (cz.iO (k+1) aT bh bA y3 y4 hg y6 yC))∧(∀aT bh bA y3 y4 hg,gj (cz.aj k aT bh bA y3 y4 hg) (cz.aj (k+1) aT bh bA y3 y4 hg))
 |0=>⟨fun _ _ _ _ _ _ r h=>by simp[cz.cD]at h,fun _ _ _ _ _ _ _ _ _ _ r h=>by simp[cz.cC]at h,fun _ _ _ _ _ _ r h=>by simp[cz.gZ]at h,fun _ _ _ _ _ _ r h=>by simp[cz.de]at h,fun _ _ _ _ _ r h=>by simp[cz.iI]at h,fun _ _ _ _ _ _ r h=>by simp[cz.gA]at h,fun _ _ _ _ _ _ _ _ r h=>by simp[cz.iO]at h,fun _ _ _ _ _ _ r h=>by simp[cz.aj]at h⟩
 |k+1=>by
  obtain⟨rQ,uN,BY,IZ,I0,I1,I2,I3⟩:=cz.o9 k;refine⟨?_,?_,?_,?_,?_,?_,?_,?_⟩
  ·intro aT bh bA y3 y4 hg;unfold cz.cD;exact lI
  ·intro aT bh bA y3 y4 hg y6 yC Cy Lx;unfold cz.cC;exact lI
  ·intro aT bh bA y3 y4 hg;unfold cz.gZ;exact lI
  ·intro aT bh bA y3 y4 hg;unfold cz.de;exact lI
  ·intro aT bh bA y3 y4;unfold cz.iI;exact lI
  ·intro aT bh bA y3 y4 hg;unfold cz.gA;exact lI
  ·intro aT bh bA y3 y4 hg y6 yC;unfold cz.iO;exact lI
  ·intro aT bh bA y3 y4 hg;unfold cz.aj;exact lI
theorem cz.mono:∀a0 cg a2 a3 a4 k,gj (cz.f k a0 cg a2 a3 a4) (cz.f (k+1) a0 cg a2 a3 a4):=by
 intro a0 cg a2 a3 a4 k;obtain⟨rQ,uN,BY,IZ,I0,I1,I2,I3⟩:=cz.o9 k;unfold cz.f;exact lI
theorem cz.calls(k:Nat)(g:Nat)(bY:List Int)(ez:Int)(eL:Int)(cQ:fC)(bd:Option Addr)(c1:Nat)(cC:List Int)(r1:Int)(fe:Int)(w0 w:World)(fJ:cj w0 w g bY ez eL cQ)(dw:Below w0.heap.size w0 w)(ff:ab.C (ab.int .u8) w bd cC.length cC)(T9:cC.length≤c1)(zC:∀cc,bd=some cc→0<cC.length→cc.block≠g)(h:cz.f k bY ez eL cQ cC=some (r1,fe)):
 Calls Tryz.prog 52 #[.pointer (some ⟨g,0,none⟩),.slice bd cC.length c1] w fun e w'=>e=.returned (.tuple #[])∧cj w0 w' g bY r1 fe cQ∧Below w0.heap.size w0 w'∧cI w w' g none:=by
 have cK:=I ff;have dj:=I T9;clear ff T9;refine ug ?_;clear fJ dw;intro bE aV fh iw a7 H;unfold cz.f at H;clear h;have iq:=I H;clear H;go_enter Tryz.func52,Tryz.ntmps52
 go_upto_block 0 with(fail)
 go_cut [4] (fun v0 wc=>∃(bp:Nat) (bm:Int),v0=.int .i64 bm∧aN (cz.cD bp cC bm bY ez eL cQ=some (r1,fe))∧aN (bp≤k)∧aN (cj w0 wc g bY ez eL cQ)∧aN (cI w wc g none)∧aN (Below w0.heap.size w0 wc))
 case first=>
  have H:=iq.1;clear iq;have aK:=I H;clear H;go_wp2
  go_loopg [4] k (fun bp v0 w'=>∃(b9:Int),v0=.int .i64 b9∧aN (cz.aj bp cC b9 bY ez eL cQ=some (r1,fe))∧aN (bp≤k)∧aN (cj w0 w' g bY ez eL cQ)∧aN (cI w w' g none)∧aN (Below w0.heap.size w0 w'))
  case atStart=>exact⟨((cC.length:Int)),bJ,aK,⟨Nat.le_refl _⟩,⟨dU⟩,⟨dB⟩,⟨dT⟩⟩
  case round=>
   clear aK;obtain⟨b9,rfl,bo,dn,bE,aV,a7⟩:=hrel;cases gk with
   |zero=>exact absurd bo.1 (by simp[cz.aj])
   |succ cY=>
    have H:=bo.1;clear bo;simp only[cz.aj]at H;revert H;refine p1 ?_ ?_<;>intro ho H
    ·refine CI ?_;obtain⟨cH,fN⟩:∃ki:Int,(wrap64 (b9-1))=ki:=⟨_,rfl⟩;replace H:(if 0≤(cH)then(if(cH)<(cC.length:Int)then(if(rd cC (cH))=47 then(cz.cD cY cC b9 bY ez eL cQ)else(cz.aj cY cC cH bY ez eL cQ))else(none))else(none))=some (r1,fe):=by first|(rw[fN]at H;exact H)|(simp only[fN]at H⊢;exact H)
     have q6:(IntKind.i64.wrap (b9-1))=cH:=(jj _).trans fN;revert H;refine fg ?_;intro hc;refine fg ?_;intro hy;refine dF ?_ ?_<;>intro gq gU H
     ·have aK:=I H;clear H;have p0:0≤((cH):Int):=of_decide_eq_true fK;have a1:(cH)<(cC.length:Int):=of_decide_eq_true fK;obtain⟨dp,aD,eY⟩:=ab.iV cK.1 (cH) p0 a1;cases aD;replace eY:=qI aV.1 eY Pp;refine my ?_;clear p0 a1;intro p0 a1;exact Qh
     ·have aK:=I H;clear H;have p0:0≤((cH):Int):=of_decide_eq_true fK;have a1:(cH)<(cC.length:Int):=of_decide_eq_true fK;obtain⟨dp,aD,eY⟩:=ab.iV cK.1 (cH) p0 a1;cases aD;replace eY:=qI aV.1 eY Pp;refine my ?_;clear p0 a1;intro p0 a1;go_wp2;go_roundg cY
      case measure=>have:=dn.1;omega
      case rel=>exact⟨(cH),rR,aK,⟨qP⟩,⟨dU⟩,⟨dB⟩,⟨dT⟩⟩
    ·refine va ?_;clear H;intro aK;exact Qh
 case rest=>
  clear iq;obtain⟨bp,bm,rfl,bo,gp,bE,aV,a7⟩:=hcut;cases bp with
  |zero=>exact absurd bo.1 (by simp[cz.cD])
  |succ ig=>
   have H:=bo.1;clear bo;simp only[cz.cD]at H;by_cases c9:0≤bm
   ·rw[if_pos c9]at H;have ho:=eq_true c9;have hc:decide (0≤bm)=true:=decide_eq_true c9;clear c9;by_cases mT:bm≤(cC.length:Int)
    ·rw[if_pos mT]at H;have hy:=eq_true mT;have gq:decide (bm≤(cC.length:Int))=true:=decide_eq_true mT;clear mT;have aK:=I H;clear H;obtain⟨i0,iJ,_,o7,_⟩:=info_parts n2;obtain⟨ao,vj,hA0,kh⟩:=Oi (P:=Tryz.prog) (Value.int .u8) 0 22 5 .i64 Tryz.underlying22 iJ o7 bd c1 cC bm (of_decide_eq_true fK) (of_decide_eq_true fK) dj.1;have vY:=I (ab.vO (h1:=fun _=>rfl) (hA0 _ (ab.xw cK.1)));have iq:=I kh;have gQ:∀cc:Addr,ao=some cc→0<(cC.drop (bm:Int).toNat).length→cc.block≠g:=fun cc he ob=>by cases he;exact ab.OY (fun vq Ly=>ab.vO (h1:=fun _=>rfl) (hA0 _ (ab.xw (ab.OZ (fun h=>h) cK.1 zC vq Ly)))) ob (by decide)
     clear hA0 kh iJ o7;generalize hYs:cC.drop (bm:Int).toNat=ys at*;clear hYs;go_wp2
     go_loopg [5,29] ig (fun bp v1 v2 w'=>∃(b9:Int) (cm:Int) (fE:Int) (fw:Int),v1=.int .i64 b9∧v2=.int .i64 cm∧aN (cz.cC bp cC bm b9 ys (ys.length:Int) cm bY fE fw cQ=some (r1,fe))∧aN (bp≤ig)∧aN (cj w0 w' g bY fE fw cQ)∧aN (cI w w' g none)∧aN (Below w0.heap.size w0 w'))
     case atStart=>exact⟨(0),(0),(ez),(eL),bJ,bJ,aK,⟨Nat.le_refl _⟩,⟨dU⟩,⟨dB⟩,⟨dT⟩⟩
     case round=>
      clear aK;obtain⟨b9,cm,fE,fw,rfl,rfl,bo,dn,bE,aV,a7⟩:=hrel;cases gk with
      |zero=>exact absurd bo.1 (by simp[cz.cC])
      |succ cd=>
       have H:=bo.1;clear bo;simp only[cz.cC]at H;revert H;refine eo ?_ ?_<;>intro gU H
       ·revert H;refine fg ?_;intro hG;refine fg ?_;intro iN H;refine jB ?_;clear H;rintro⟨t0,bF,H⟩
        try dsimp only at H
        have cZ:=I bF;clear bF;by_cases ck:t0=true
        ·subst ck;refine oG ?_;clear H;intro aK;refine J4 ?_;intro p0 a1 dp aD eY;cases aD;replace eY:=qI aV.1 eY I8;refine my ?_;clear p0 a1;intro p0 a1
         go_wp2_with(first|((with_reducible refine kK (f:=69) rfl ?_);refine kJ (some 37) rfl rfl Tryz.func69 aM rfl #[.int .u8 (rd ys cm)] rfl mv ?_;(with_reducible refine(qX.calls (rd ys cm) true _ cZ.1).mono ?_);rintro e w' ⟨rfl,⟨dh,rfl⟩⟩;refine⟨_,rfl,?_⟩))
         go_roundg cd
         case measure=>have:=gp.1;have:=dn.1;omega
         case rel=>exact⟨(wrap64 (b9+1)),(wrap64 (cm+1)),(fE),(fw),bJ,bJ,aK,⟨uR⟩,⟨dU⟩,⟨dB⟩,⟨dT⟩⟩
        ·replace ck:=Bool.eq_false_iff.mpr ck;subst ck;refine kf ?_;clear H;refine dF ?_ ?_<;>intro je k5 H
         ·revert H;refine p1 ?_ ?_<;>intro nM H
          ·have aK:=I H;clear H;refine J4 ?_;intro p0 a1 dp aD eY;cases aD;replace eY:=qI aV.1 eY I8;refine my ?_;clear p0 a1;intro p0 a1
           go_wp2_with(first|((with_reducible refine kK (f:=69) rfl ?_);refine kJ (some 37) rfl rfl Tryz.func69 aM rfl #[.int .u8 (rd ys cm)] rfl mv ?_;(with_reducible refine(qX.calls (rd ys cm) false _ cZ.1).mono ?_);rintro e w' ⟨rfl,⟨dh,rfl⟩⟩;refine⟨_,rfl,?_⟩))
           go_roundg cd
           case measure=>have:=gp.1;have:=dn.1;omega
           case rel=>exact⟨(0),(wrap64 (cm+1)),(fE),(fw),bJ,bJ,aK,⟨uR⟩,⟨dU⟩,⟨dB⟩,⟨dT⟩⟩
          ·exact RO
         ·exact RO
       ·have lD:=I H;clear H
        go_upto_if 49 with(fail)
        go_cut [] (fun wc=>∃(bp:Nat) (j2:Int) (kN:Int),aN (cz.gZ bp cC bm bY j2 kN cQ=some (r1,fe))∧aN (bp≤cd)∧aN (cj w0 wc g bY j2 kN cQ)∧aN (cI w wc g none)∧aN (Below w0.heap.size w0 wc))
        case first=>
         have H:=lD.1;clear lD;revert H;refine dF ?_ ?_<;>intro hG iN H
         ·(first|rw[hG]|(simp only[jj,oV];rw[hG])|skip)
          refine jB ?_;clear H;rintro⟨⟨t0,t2⟩,bF,H⟩
          try dsimp only at H
          have cZ:=I bF;clear bF;have aK:=I H;clear H
          go_wp2_with(first|((with_reducible refine kK (f:=16) rfl ?_);refine kJ (some 51) rfl rfl Tryz.func16 aM rfl #[.pointer (some ⟨g,0,none⟩)] rfl mv ?_;(with_reducible refine(k4.calls g bY fE fw cQ t0 t2 w0 _ ?side1 ?side2 cZ.1).mono ?_);(case side1=>exact dU);(case side2=>exact dT);rintro e w1 ⟨rfl,hi,U,ad⟩;refine⟨_,rfl,?_⟩;replace aV:=I (cI.trans dB ad (.inl rfl));replace a7:=I (U);replace bE:=I (hi)))
          go_meet
          case rel=>exact⟨_,(t0),(t2),aK,⟨Fb⟩,⟨dU⟩,⟨dB⟩,⟨dT⟩⟩
         ·(first|rw[hG]|(simp only[jj,oV];rw[hG])|skip)
          have aK:=I H;clear H;go_wp2;go_meet
          case rel=>exact⟨_,(fE),(fw),aK,⟨Fb⟩,⟨dU⟩,⟨dB⟩,⟨dT⟩⟩
        case rest=>
         clear lD;obtain⟨bp,j2,kN,bo,jY,bE,aV,a7⟩:=hcut;cases bp with
         |zero=>exact absurd bo.1 (by simp[cz.gZ])
         |succ qi=>
          have H:=bo.1;clear bo;simp only[cz.gZ]at H;revert H;refine dF ?_ ?_<;>intro hG iN H
          ·refine jC ?_;clear H;rintro⟨rfl,rfl⟩;go_wp2;exact zN
          ·obtain⟨cH,fN⟩:∃ki:Int,(wrap64 (bm-1))=ki:=⟨_,rfl⟩;replace H:(if 0≤(cH)then(if(cH)≤(cC.length:Int)then(if((cC.take ((cH):Int).toNat).length:Int)=0 then(cz.de qi (cC.take ((cH):Int).toNat) true bY j2 kN cQ)else(if 0<((cC.take ((cH):Int).toNat).length:Int)then(cz.de qi (cC.take ((cH):Int).toNat) ((rd (cC.take ((cH):Int).toNat) 0)==47) bY j2 kN cQ)else(none)))else(none))else(none))=some (r1,fe):=by first|(rw[fN]at H;exact H)|(simp only[fN]at H⊢;exact H)
           have q6:(IntKind.i64.wrap (bm-1))=cH:=(jj _).trans fN;by_cases ck:0≤(cH)
           ·rw[if_pos ck]at H;have je:=eq_true ck;have k5:decide (0≤(cH))=true:=decide_eq_true ck;clear ck;by_cases c12:(cH)≤(cC.length:Int)
            ·rw[if_pos c12]at H;have nM:=eq_true c12;have q9:decide ((cH)≤(cC.length:Int))=true:=decide_eq_true c12;clear c12;have lD:=I H;clear H;obtain⟨i1,iJ,_,o7,_⟩:=info_parts n2;obtain⟨G4,hA0,kh⟩:=Yi (P:=Tryz.prog) (Value.int .u8) 0 22 5 .i64 Tryz.underlying22 iJ o7 bd c1 cC (cH) (of_decide_eq_true fK) (of_decide_eq_true fK) dj.1;have Dg:=I (ab.vO (h1:=fun _=>rfl) (hA0 _ (ab.xw cK.1)));have ajX:=I kh;have BR:∀cc:Addr,bd=some cc→0<(cC.take ((cH):Int).toNat).length→cc.block≠g:=fun cc he ob=>by cases he;exact ab.OY (fun vq Ly=>ab.vO (h1:=fun _=>rfl) (hA0 _ (ab.xw (ab.OZ (fun h=>h) cK.1 zC vq Ly)))) ob (by decide)
             clear hA0 kh iJ o7;generalize hZs:cC.take ((cH):Int).toNat=zs0 at*;clear hZs
             go_upto_region 17 with(fail)
             go_cut [66] (fun v3 wc=>∃(bp:Nat) (mZ:Bool),v3=.bool mZ∧aN (cz.de bp zs0 mZ bY j2 kN cQ=some (r1,fe))∧aN (bp≤qi)∧aN (cj w0 wc g bY j2 kN cQ)∧aN (cI w wc g none)∧aN (Below w0.heap.size w0 wc))
             case first=>
              have H:=lD.1;clear lD;by_cases eN:(zs0.length:Int)=0
              ·rw[if_pos eN]at H;have nH:((zs0.length:Int)==0)=true:=beq_iff_eq.mpr eN;have tg:((zs0.length:Int) !=0)=false:=bne_eq_false_iff_eq.mpr eN;clear eN
               (first|rw[nH]|(simp only[jj,oV];rw[nH])|skip)
               have aK:=I H;clear H;go_wp2;go_meet
               case rel=>exact⟨_,(true),bJ,aK,⟨EZ⟩,⟨dU⟩,⟨dB⟩,⟨dT⟩⟩
              ·rw[if_neg eN]at H;have nH:((zs0.length:Int)==0)=false:=beq_eq_false_iff_ne.mpr eN;have tg:((zs0.length:Int) !=0)=true:=bne_iff_ne.mpr eN;have tg:¬(zs0=[]):=fun ob=>eN (by rw[ob];rfl)
               (first|rw[nH]|(simp only[jj,oV];rw[nH])|skip)
               by_cases ia:0<(zs0.length:Int)
               ·rw[if_pos ia]at H;have nH:decide (0<(zs0.length:Int))=true:=decide_eq_true ia;have ra:decide (0<zs0.length)=true:=decide_eq_true (by omega);clear ia;have aK:=I H;clear H;have p0:0≤(0:Int):=(by omega);have a1:0<(zs0.length:Int):=of_decide_eq_true fK;obtain⟨dp,aD,eY⟩:=ab.iV Dg.1 0 p0 a1;cases aD;have r9:(0<zs0.length)=True:=eq_true (by omega)
                (try rw[show((0:Int)).toNat=0 from rfl]at eY)
                (try rw[Addr.add_zero']at eY)
                replace eY:=qI aV.1 eY B4;refine my ?_;clear p0 a1;intro p0 a1;go_wp2;go_meet
                case rel=>exact⟨_,(((rd zs0 0)==47)),rR,aK,⟨EZ⟩,⟨dU⟩,⟨dB⟩,⟨dT⟩⟩
               ·rw[if_neg ia]at H;exact absurd H (by simp)
             case rest=>
              clear lD;obtain⟨bp,mZ,rfl,bo,mV,bE,aV,a7⟩:=hcut;cases bp with
              |zero=>exact absurd bo.1 (by simp[cz.de])
              |succ yD=>
               have H:=bo.1;clear bo;simp only[cz.de]at H;have lD:=I H;clear H
               go_upto_if 66 with(fail)
               go_cut [] (fun wc=>∃(bp:Nat) (qk:Int) (uv:Int),aN (cz.iI bp zs0 bY qk uv cQ=some (r1,fe))∧aN (bp≤yD)∧aN (cj w0 wc g bY qk uv cQ)∧aN (cI w wc g none)∧aN (Below w0.heap.size w0 wc))
               case first=>
                have H:=lD.1;clear lD;by_cases eN:mZ=true
                ·subst eN;refine mz ?_;clear H;intro H;refine jB ?_;clear H;rintro⟨⟨t0,t2⟩,bF,H⟩
                 try dsimp only at H
                 have cZ:=I bF;clear bF;have aK:=I H;clear H
                 go_wp2_with(first|((with_reducible refine kK (f:=16) rfl ?_);refine kJ (some 68) rfl rfl Tryz.func16 aM rfl #[.pointer (some ⟨g,0,none⟩)] rfl mv ?_;(with_reducible refine(k4.calls g bY j2 kN cQ t0 t2 w0 _ ?side1 ?side2 cZ.1).mono ?_);(case side1=>exact dU);(case side2=>exact dT);rintro e w1 ⟨rfl,hi,U,ad⟩;refine⟨_,rfl,?_⟩;replace aV:=I (cI.trans dB ad (.inl rfl));replace a7:=I (U);replace bE:=I (hi)))
                 go_meet
                 case rel=>exact⟨_,(t0),(t2),aK,⟨Ps⟩,⟨dU⟩,⟨dB⟩,⟨dT⟩⟩
                ·replace eN:=Bool.eq_false_iff.mpr eN;subst eN;refine vp ?_;clear H;intro aK;go_wp2;go_meet
                 case rel=>exact⟨_,(j2),(kN),aK,⟨Ps⟩,⟨dU⟩,⟨dB⟩,⟨dT⟩⟩
               case rest=>
                clear lD;obtain⟨bp,qk,uv,bo,qM,bE,aV,a7⟩:=hcut;cases bp with
                |zero=>exact absurd bo.1 (by simp[cz.iI])
                |succ G5=>
                 have H:=bo.1;clear bo;simp only[cz.iI]at H;have aK:=I H;clear H;go_wp2
                 go_loopg [9] G5 (fun bp v4 w'=>∃(hj:Int) (rW:Int) (rX:Int),v4=.int .i64 hj∧aN (cz.gA bp zs0 hj bY rW rX cQ=some (r1,fe))∧aN (bp≤G5)∧aN (cj w0 w' g bY rW rX cQ)∧aN (cI w w' g none)∧aN (Below w0.heap.size w0 w'))
                 case atStart=>exact⟨(0),(qk),(uv),bJ,aK,⟨Nat.le_refl _⟩,⟨dU⟩,⟨dB⟩,⟨dT⟩⟩
                 case round=>
                  clear aK;obtain⟨hj,rW,rX,rfl,bo,kM,bE,aV,a7⟩:=hrel;cases gk with
                  |zero=>exact absurd bo.1 (by simp[cz.gA])
                  |succ fG=>
                   have H:=bo.1;clear bo;simp only[cz.gA]at H;revert H;refine eo ?_ ?_<;>intro nH H
                   ·revert H;refine fg ?_;intro tg H;have lD:=I H;clear H;have p0:0≤(hj:Int):=of_decide_eq_true fK;have a1:hj<(zs0.length:Int):=of_decide_eq_true fK;obtain⟨dp,aD,eY⟩:=ab.iV Dg.1 hj p0 a1;cases aD;replace eY:=qI aV.1 eY B4;refine my ?_;clear p0 a1;intro p0 a1
                    go_upto_region 23 with(fail)
                    go_cut [79] (fun v5 wc=>∃(bp:Nat) (G6:Bool),v5=.bool G6∧aN (cz.iO bp zs0 hj (rd zs0 hj) G6 bY rW rX cQ=some (r1,fe))∧aN (bp≤fG)∧aN (cj w0 wc g bY rW rX cQ)∧aN (cI w wc g none)∧aN (Below w0.heap.size w0 wc))
                    case first=>
                     have H:=lD.1;clear lD;revert H;refine dF ?_ ?_<;>intro ra AH H
                     ·(first|rw[ra]|(simp only[jj,oV];rw[ra])|skip)
                      revert H;refine eo ?_ ?_<;>intro Dh H
                      ·obtain⟨kx,p2⟩:∃ki:Int,(wrap64 (hj+1))=ki:=⟨_,rfl⟩;replace H:(if 0≤(kx)then(if(kx)<(zs0.length:Int)then((fQ.f fG (rd zs0 (kx))).bind fun t0=>(if t0≥0 then(if 0≤(wrap64 (hj+2))then((fQ.f fG (rd zs0 (wrap64 (hj+2)))).bind fun t2=>(cz.iO fG zs0 hj (rd zs0 hj) (decide (t2≥0)) bY rW rX cQ))else(none))else(cz.iO fG zs0 hj (rd zs0 hj) false bY rW rX cQ)))else(none))else(none))=some (r1,fe):=by first|(rw[p2]at H;exact H)|(simp only[p2]at H⊢;exact H)
                       have Ua:(IntKind.i64.wrap (hj+1))=kx:=(jj _).trans p2;revert H;refine fg ?_;intro Ub;refine fg ?_;intro Uc H;refine jB ?_;clear H;rintro⟨t0,bF,H⟩
                       try dsimp only at H
                       have cZ:=I bF;clear bF;revert H;refine lf ?_ ?_<;>intro abo H
                       ·obtain⟨yE,Di⟩:∃ki:Int,(wrap64 (hj+2))=ki:=⟨_,rfl⟩;replace H:(if 0≤(yE)then((fQ.f fG (rd zs0 (yE))).bind fun t2=>(cz.iO fG zs0 hj (rd zs0 hj) (decide (t2≥0)) bY rW rX cQ))else(none))=some (r1,fe):=by first|(rw[Di]at H;exact H)|(simp only[Di]at H⊢;exact H)
                        (try rw[Di]at Dh)
                        (try rw[Di]at cZ)
                        have ajY:(IntKind.i64.wrap (hj+2))=yE:=(jj _).trans Di;revert H;refine fg ?_;intro abp H;refine jB ?_;clear H;rintro⟨t2,bF,H⟩
                        try dsimp only at H
                        have kc:=I bF;clear bF;have aK:=I H;clear H;have ba:0≤((kx):Int):=of_decide_eq_true fK;have bQ:(kx)<(zs0.length:Int):=of_decide_eq_true fK;obtain⟨gy,bx,fT⟩:=ab.iV Dg.1 (kx) ba bQ;obtain rfl:dp=gy:=l6;replace fT:=qI aV.1 fT B4;replace ba:=eq_true ba;replace bQ:=eq_true bQ
                        go_wp2_with(first|(go_at_call 70;(with_reducible refine(fQ.calls fG (rd zs0 (kx)) t0 _ cZ.1).mono ?_);rintro e w' ⟨rfl,⟨dh,rfl⟩⟩;have dy:0≤((yE):Int):=of_decide_eq_true fK;have fs:(yE)<(zs0.length:Int):=of_decide_eq_true fK;obtain⟨kO,db,og⟩:=ab.iV Dg.1 (yE) dy fs;obtain rfl:dp=kO:=qQ;replace og:=qI aV.1 og B4;replace dy:=eq_true dy;replace fs:=eq_true fs)|(go_at_call 70;(with_reducible refine(fQ.calls fG (rd zs0 (yE)) t2 _ kc.1).mono ?_);rintro e w' ⟨rfl,⟨dh,rfl⟩⟩))
                        go_meet
                        case rel=>exact⟨_,(decide (t2≥0)),bJ,aK,⟨Pn⟩,⟨dU⟩,⟨dB⟩,⟨dT⟩⟩
                       ·have aK:=I H;clear H;have ba:0≤((kx):Int):=of_decide_eq_true fK;have bQ:(kx)<(zs0.length:Int):=of_decide_eq_true fK;obtain⟨gy,bx,fT⟩:=ab.iV Dg.1 (kx) ba bQ;obtain rfl:dp=gy:=l6;replace fT:=qI aV.1 fT B4;replace ba:=eq_true ba;replace bQ:=eq_true bQ
                        go_wp2_with(first|(go_at_call 70;(with_reducible refine(fQ.calls fG (rd zs0 (kx)) t0 _ cZ.1).mono ?_);rintro e w' ⟨rfl,⟨dh,rfl⟩⟩))
                        exact Ju
                      ·have aK:=I H;clear H;go_wp2;exact Ju
                     ·(first|rw[ra]|(simp only[jj,oV];rw[ra])|skip)
                      have aK:=I H;clear H;go_wp2;exact Ju
                    case rest=>
                     clear lD;obtain⟨bp,G6,rfl,bo,sL,bE,aV,a7⟩:=hcut;cases bp with
                     |zero=>exact absurd bo.1 (by simp[cz.iO])
                     |succ sW=>
                      have H:=bo.1;clear bo;simp only[cz.iO]at H;by_cases eN:G6=true
                      ·subst eN;refine oG ?_;clear H;intro aK;go_wp2;go_roundg sW
                       case measure=>have:=gp.1;have:=dn.1;have:=jY.1;have:=mV.1;have:=qM.1;have:=kM.1;have:=sL.1;omega
                       case rel=>exact⟨(wrap64 ((wrap64 (hj+2))+1)),(rW),(rX),bJ,aK,⟨ET⟩,⟨dU⟩,⟨dB⟩,⟨dT⟩⟩
                      ·replace eN:=Bool.eq_false_iff.mpr eN;subst eN;refine kf ?_;clear H;refine dF ?_ ?_<;>intro ra AH H
                       ·refine jB ?_;clear H;rintro⟨⟨t0,t2⟩,bF,H⟩
                        try dsimp only at H
                        have cZ:=I bF;clear bF;have aK:=I H;clear H
                        go_wp2_with(first|((with_reducible refine kK (f:=13) rfl ?_);refine kJ (some 113) rfl rfl Tryz.func13 aM rfl #[.pointer (some ⟨g,0,none⟩)] rfl mv ?_;(with_reducible refine(nJ.calls g bY rW rX cQ t0 t2 w0 _ ?side1 ?side2 cZ.1).mono ?_);(case side1=>exact dU);(case side2=>exact dT);rintro e w1 ⟨rfl,hi,U,ad⟩;refine⟨_,rfl,?_⟩;replace aV:=I (cI.trans dB ad (.inl rfl));replace a7:=I (U);replace bE:=I (hi)))
                        go_roundg sW
                        case measure=>have:=gp.1;have:=dn.1;have:=jY.1;have:=mV.1;have:=qM.1;have:=kM.1;have:=sL.1;omega
                        case rel=>exact⟨(wrap64 (hj+1)),(t0),(t2),bJ,aK,⟨ET⟩,⟨dU⟩,⟨dB⟩,⟨dT⟩⟩
                       ·refine jB ?_;clear H;rintro⟨t0,bF,H⟩
                        try dsimp only at H
                        have cZ:=I bF;clear bF;by_cases ia:t0=true
                        ·subst ia;refine oG ?_;clear H;intro aK
                         go_wp2_with(first|((with_reducible refine kK (f:=69) rfl ?_);refine kJ (some 116) rfl rfl Tryz.func69 aM rfl #[.int .u8 (rd zs0 hj)] rfl I5 ?_;(with_reducible refine(qX.calls (rd zs0 hj) true _ cZ.1).mono ?_);rintro e w' ⟨rfl,⟨dh,rfl⟩⟩;refine⟨_,rfl,?_⟩))
                         exact Qe
                        ·replace ia:=Bool.eq_false_iff.mpr ia;subst ia;refine yz ?_;clear H;rintro⟨t2,bF,H⟩
                         try dsimp only at H
                         have kc:=I bF;clear bF;by_cases yF:t2=true
                         ·subst yF;refine oG ?_;clear H;intro aK
                          go_wp2_with(first|((with_reducible refine kK (f:=69) rfl ?_);refine kJ (some 116) rfl rfl Tryz.func69 aM rfl #[.int .u8 (rd zs0 hj)] rfl I5 ?_;(with_reducible refine(qX.calls (rd zs0 hj) false _ cZ.1).mono ?_);rintro e w' ⟨rfl,⟨dh,rfl⟩⟩;refine⟨_,rfl,?_⟩)|(go_at_call 71;(with_reducible refine(hJ.calls sW (rd zs0 hj) (⟨#[46,126,33,36,38,40,41,42,43,44,59,61,47]⟩:ByteArray) true _ kc.1).mono ?_);rintro e w' ⟨rfl,⟨dh,rfl⟩⟩))
                          exact Qe
                         ·replace yF:=Bool.eq_false_iff.mpr yF;subst yF;refine yz ?_;clear H;rintro⟨⟨t3,t4⟩,bF,H⟩
                          try dsimp only at H
                          have uw:=I bF;clear bF;have aK:=I H;clear H
                          go_wp2_with(first|((with_reducible refine kK (f:=69) rfl ?_);refine kJ (some 116) rfl rfl Tryz.func69 aM rfl #[.int .u8 (rd zs0 hj)] rfl I5 ?_;(with_reducible refine(qX.calls (rd zs0 hj) false _ cZ.1).mono ?_);rintro e w' ⟨rfl,⟨dh,rfl⟩⟩;refine⟨_,rfl,?_⟩)|(go_at_call 71;(with_reducible refine(hJ.calls sW (rd zs0 hj) (⟨#[46,126,33,36,38,40,41,42,43,44,59,61,47]⟩:ByteArray) false _ kc.1).mono ?_);rintro e w' ⟨rfl,⟨dh,rfl⟩⟩)|((with_reducible refine kK (f:=16) rfl ?_);refine kJ (some 124) rfl rfl Tryz.func16 aM rfl #[.pointer (some ⟨g,0,none⟩)] rfl mv ?_;(with_reducible refine(k4.calls g bY rW rX cQ t3 t4 w0 _ ?side1 ?side2 uw.1).mono ?_);(case side1=>exact dU);(case side2=>exact dT);rintro e w1 ⟨rfl,hi,U,ad⟩;refine⟨_,rfl,?_⟩;replace aV:=I (cI.trans dB ad (.inl rfl));replace a7:=I (U);replace bE:=I (hi)))
                          go_roundg sW
                          case measure=>have:=gp.1;have:=dn.1;have:=jY.1;have:=mV.1;have:=qM.1;have:=kM.1;have:=sL.1;omega
                          case rel=>exact⟨(wrap64 (hj+1)),(t3),(t4),bJ,aK,⟨ET⟩,⟨dU⟩,⟨dB⟩,⟨dT⟩⟩
                   ·refine jC ?_;clear H;rintro⟨rfl,rfl⟩;go_wp2
                    first|go_end0|((try simp only[Exit.inBlock,Exit.then]);refine bodyPost_ret (results_none rfl _ _ _) rfl ?_)
                    exact⟨B1,dU,dT,dB⟩
            ·exact J8
           ·rw[if_neg ck]at H;exact absurd H (by simp)
    ·exact J7
   ·rw[if_neg c9]at H;exact absurd H (by simp)
mutual
def fM.aj:Nat→List Int→List Int→Int→Int→fC→Option (ByteArray×Int×Int)
 |0,_,_,_,_,_=>none
 |k+1,bX,x1000,dJ,x1002,x1003=>(wy.f x1000 dJ x1002 x1003).bind fun AJ=>(if AJ.1=true then((fu.f k x1000 AJ.2.1 AJ.2.2 x1003).bind fun jH=>(if jH.1≥(x1000.length:Int)then((k4.f x1000 jH.1 jH.2 x1003).bind fun Ud=>(some (strOfNums bX,Ud.1,Ud.2)))else(if 0≤jH.1 then(if jH.1<(x1000.length:Int)then(if jH.1>AJ.2.1 then(if(bX.length:Int)>0 then(if(rd x1000 jH.1)=93 then(fM.cD k bX (rd x1000 jH.1) false x1000 jH.1 jH.2 x1003)else(if(rd x1000 jH.1)=46 then(fM.cD k bX (rd x1000 jH.1) false x1000 jH.1 jH.2 x1003)else(if(rd x1000 jH.1)=47 then(fM.cD k bX (rd x1000 jH.1) false x1000 jH.1 jH.2 x1003)else(if 0≤(wrap64 ((bX.length:Int)-1))then(if(wrap64 ((bX.length:Int)-1))<(bX.length:Int)then(if(rd bX (wrap64 ((bX.length:Int)-1)))=46 then(fM.cD k bX (rd x1000 jH.1) false x1000 jH.1 jH.2 x1003)else(fM.cD k bX (rd x1000 jH.1) ((rd bX (wrap64 ((bX.length:Int)-1))) !=47) x1000 jH.1 jH.2 x1003))else(none))else(none)))))else(fM.cD k bX (rd x1000 jH.1) false x1000 jH.1 jH.2 x1003))else(fM.cD k bX (rd x1000 jH.1) false x1000 jH.1 jH.2 x1003))else(none))else(none))))else(some (strOfNums bX,AJ.2.1,AJ.2.2)))
def fM.cD:Nat→List Int→Int→Bool→List Int→Int→Int→fC→Option (ByteArray×Int×Int)
 |0,_,_,_,_,_,_,_=>none
 |k+1,bX,eB,x84,x1000,dJ,x1002,x1003=>if x84=true then((nJ.f x1000 dJ x1002 x1003).bind fun Ue=>(some (strOfNums bX,Ue.1,Ue.2)))else(if eB=93 then((cz.f k x1000 (wrap64 (dJ+1)) x1002 x1003 bX).bind fun Uf=>(some (strOfNums bX,Uf.1,Uf.2)))else(if bX.length<140737488355328 then(fM.aj k (bX++[eB]) x1000 (wrap64 (dJ+1)) x1002 x1003)else(none)))
end
def fM.f(k:Nat)(bY:List Int)(ez:Int)(eL:Int)(cQ:fC):Option (ByteArray×Int×Int):=fM.aj k (([]:List Int)) bY (wrap64 (ez+1)) eL cQ
theorem fM.o9:∀k,(∀aT bh bA y3 y4,gj (fM.aj k aT bh bA y3 y4) (fM.aj (k+1) aT bh bA y3 y4))∧(∀aT bh bA y3 y4 hg y6,gj (fM.cD k aT bh bA y3 y4 hg y6) (fM.cD (k+1) aT bh bA y3 y4 hg y6))
 |0=>⟨fun _ _ _ _ _ r h=>by simp[fM.aj]at h,fun _ _ _ _ _ _ _ r h=>by simp[fM.cD]at h⟩
 |k+1=>by
  obtain⟨rQ,uN⟩:=fM.o9 k;refine⟨?_,?_⟩
  ·intro aT bh bA y3 y4;unfold fM.aj;exact lI
  ·intro aT bh bA y3 y4 hg y6;unfold fM.cD;exact lI
theorem fM.mono:∀a0 cg a2 a3 k,gj (fM.f k a0 cg a2 a3) (fM.f (k+1) a0 cg a2 a3):=by
 intro a0 cg a2 a3 k;obtain⟨rQ,uN⟩:=fM.o9 k;unfold fM.f;exact lI
theorem fM.calls(k:Nat)(g:Nat)(bY:List Int)(ez:Int)(eL:Int)(cQ:fC)(r1:ByteArray)(fe:Int)(iM:Int)(w0 w:World)(fJ:cj w0 w g bY ez eL cQ)(dw:Below w0.heap.size w0 w)(h:fM.f k bY ez eL cQ=some (r1,fe,iM)):
 Calls Tryz.prog 36 #[.pointer (some ⟨g,0,none⟩)] w fun e w'=>e=.returned (.string r1)∧cj w0 w' g bY fe iM cQ∧Below w0.heap.size w0 w'∧cI w w' g none:=by
 refine ug ?_;clear fJ dw;intro bE aV fh iw a7 H;unfold fM.f at H;clear h;obtain⟨aT,cL⟩:∃iE:List Int,iE=(([]:List Int)):=⟨_,rfl⟩;replace H:(fM.aj k aT bY (wrap64 (ez+1)) eL cQ)=some (r1,fe,iM):=by first|(rw[cL];with_reducible exact H)|(exact s0)|(exact s3)|with_reducible exact H|(rw[cL];exact H)|exact H
 have gG:=I cL;clear cL;have aK:=I H;clear H;go_enter Tryz.func36,Tryz.ntmps36
 go_wp2_with(first|((with_reducible refine la (N:=6) rfl ?_);(try(refine EI (by rfl) ?_;dsimp only));refine ab.k9 (ab.int .u8) _ 5 ?aw (N:=6) ?hd (xs:=([]:List Int)) (inner:=[]) (ok:=fun _=>True) (okp:=fun _=>True) ?au ?hp (fun _ ad=>ad) trivial (Below.refl _ _) (Nat.le_refl _) (by simp) ?_;(case hd=>rfl);(case aw=>rfl);(case au=>exact iW);(case hp=>exact(cF.none _ _));intro v0 w1 bK U hk hl;clear hk hl;(first|rw[←gG.1]at bK|(refine lS ?_;clear bK;intro bK));have gK:=I (ab.jU bK (mP (w:=w) (g:=g) (row:=none) dB));replace aV:=I (cI.trans dB (cI.kn U g none) (.inl rfl));replace a7:=I (jV dT U);replace bE:=I (cj.below dU U);clear U bK;obtain⟨jk,jl,jm,jn,jw,yo,iA,jo⟩:=bE.1;have jq:=CM jw;have jr:=CN jw;have js:=CO jw;have jt:=CP jw;have ju:=fy jw 1;have jv:=fy jw 2;clear jw yo))
 repeat(go_quiet(fail);try go_wp2_with(first|((with_reducible refine la (N:=6) rfl ?_);(try(refine EI (by rfl) ?_;dsimp only));refine ab.k9 (ab.int .u8) _ 5 ?aw (N:=6) ?hd (xs:=([]:List Int)) (inner:=[]) (ok:=fun _=>True) (okp:=fun _=>True) ?au ?hp (fun _ ad=>ad) trivial (Below.refl _ _) (Nat.le_refl _) (by simp) ?_;(case hd=>rfl);(case aw=>rfl);(case au=>exact iW);(case hp=>exact(cF.none _ _));intro v0 w1 bK U hk hl;clear hk hl;(first|rw[←gG.1]at bK|(refine lS ?_;clear bK;intro bK));have gK:=I (ab.jU bK (mP (w:=w) (g:=g) (row:=none) dB));replace aV:=I (cI.trans dB (cI.kn U g none) (.inl rfl));replace a7:=I (jV dT U);replace bE:=I (cj.below dU U);clear U bK;obtain⟨jk,jl,jm,jn,jw,yo,iA,jo⟩:=bE.1;have jq:=CM jw;have jr:=CN jw;have js:=CO jw;have jt:=CP jw;have ju:=fy jw 1;have jv:=fy jw 2;clear jw yo)))
 go_loopg [3] k (fun bp v0 w'=>∃(bm:List Int) (b9:Int) (cm:Int),aN (fM.aj bp bm bY b9 cm cQ=some (r1,fe,iM))∧aN (bp≤k)∧aN (ab.R (ab.int .u8) 5 w' w.heap.size (fun _=>True) v0 bm)∧aN (cj w0 w' g bY b9 cm cQ)∧aN (cI w w' g none)∧aN (Below w0.heap.size w0 w'))
 case atStart=>exact⟨(aT),(wrap64 (ez+1)),(eL),aK,⟨Nat.le_refl _⟩,⟨(by(with_reducible repeat(first|apply ab.xx|apply ab.uI|apply ab.pW));exact ab.mn (ab.mo (p:=⟨g,1,none⟩) (cj.apart bE.1 gK.1 (by decide)) (fun _ ad=>ad.2) (.int .i64 (wrap64 (ez+1)))) (fun _ ad=>trivial))⟩,⟨dU⟩,⟨dB⟩,⟨dT⟩⟩
 case round=>
  clear aK;obtain⟨bm,b9,cm,bo,dn,gn,bE,aV,a7⟩:=hrel;cases gk with
  |zero=>exact absurd bo.1 (by simp[fM.aj])
  |succ cY=>
   have H:=bo.1;clear bo;simp only[fM.aj]at H;refine jB ?_;clear H;rintro⟨⟨t0,t2,t3⟩,ao,H⟩
   try dsimp only at H
   have bd:=I ao;clear ao;by_cases kr:t0=true
   ·subst kr;refine mz ?_;clear H;intro H;refine jB ?_;clear H;rintro⟨⟨t4,t5⟩,bF,H⟩
    try dsimp only at H
    have cZ:=I bF;clear bF;revert H;refine lf ?_ ?_<;>intro ho H
    ·refine jB ?_;clear H;rintro⟨⟨t6,t7⟩,bF,H⟩
     try dsimp only at H
     have kc:=I bF;clear bF;refine jC ?_;clear H;rintro⟨rfl,rfl,rfl⟩
     go_wp2_with(first|(refine CJ ?_;refine yu ?_;intro w1 hi U ad gn aV a7 bE;refine j1 ?_;intro jk jl jm jn iA jo jq jr js jt ju jv)|(refine CL ?_;intro bf hi U ad gn aV a7 bE om oo oq ot lx ou ov ow ox oy oz oA)|(refine SH ?_;intro w3 hi U ad;refine GP ?_;intro gn aV a7 bE iB))
     repeat(go_quiet(fail);try go_wp2_with(first|(refine CJ ?_;refine yu ?_;intro w1 hi U ad gn aV a7 bE;refine j1 ?_;intro jk jl jm jn iA jo jq jr js jt ju jv)|(refine CL ?_;intro bf hi U ad gn aV a7 bE om oo oq ot lx ou ov ow ox oy oz oA)|(refine SH ?_;intro w3 hi U ad;refine GP ?_;intro gn aV a7 bE iB)))
     go_ret;exact⟨lh,dU,dT,dB⟩
    ·revert H;refine fg ?_;intro hc;refine fg ?_;intro hy H;have dj:=I H;clear H
     go_upto_region 9 with(first|(refine CJ ?_;refine yu ?_;intro w1 hi U ad gn aV a7 bE;refine j1 ?_;intro jk jl jm jn iA jo jq jr js jt ju jv)|(refine CL ?_;intro bf hi U ad gn aV a7 bE om oo oq ot lx ou ov ow ox oy oz oA;refine K1 ?_;intro p0 a1 dp aD eY;cases aD;replace eY:=mL a7.1 eY;refine my ?_;clear p0 a1;intro p0 a1))
     repeat(go_quiet(first|(refine CJ ?_;refine yu ?_;intro w1 hi U ad gn aV a7 bE;refine j1 ?_;intro jk jl jm jn iA jo jq jr js jt ju jv)|(refine CL ?_;intro bf hi U ad gn aV a7 bE om oo oq ot lx ou ov ow ox oy oz oA;refine K1 ?_;intro p0 a1 dp aD eY;cases aD;replace eY:=mL a7.1 eY;refine my ?_;clear p0 a1;intro p0 a1));go_upto_region 9 with(first|(refine CJ ?_;refine yu ?_;intro w1 hi U ad gn aV a7 bE;refine j1 ?_;intro jk jl jm jn iA jo jq jr js jt ju jv)|(refine CL ?_;intro bf hi U ad gn aV a7 bE om oo oq ot lx ou ov ow ox oy oz oA;refine K1 ?_;intro p0 a1 dp aD eY;cases aD;replace eY:=mL a7.1 eY;refine my ?_;clear p0 a1;intro p0 a1)))
     (try simp only[Act.put,List.setIfInBounds_toArray,List.set_cons_zero,List.set_cons_succ])
     go_cut [84] (fun v1 wc=>∃(bp:Nat) (fE:Bool),v1=.bool fE∧aN (fM.cD bp bm (rd bY t4) fE bY t4 t5 cQ=some (r1,fe,iM))∧aN (bp≤cY)∧aN (ab.R (ab.int .u8) 5 wc w.heap.size (fun _=>True) u3 bm)∧aN (cj w0 wc g bY t4 t5 cQ)∧aN (cI w wc g none)∧aN (Below w0.heap.size w0 wc))
     case first=>
      have H:=dj.1;clear dj;revert H;refine p1 ?_ ?_<;>intro gq H
      ·refine r3 ?_;by_cases ck:(bm.length:Int)>0
       ·rw[if_pos ck]at H;have gU:decide (0<(bm.length:Int))=true:=decide_eq_true ck;have hG:decide (0<bm.length)=true:=decide_eq_true (by omega);clear ck;revert H;refine dF ?_ ?_<;>intro iN je H
        ·exact F0
        ·revert H;refine dF ?_ ?_<;>intro k5 nM H
         ·exact F0
         ·revert H;refine dF ?_ ?_<;>intro q9 nH H
          ·exact F0
          ·obtain⟨cH,fN⟩:∃ki:Int,(wrap64 ((bm.length:Int)-1))=ki:=⟨_,rfl⟩;replace H:(if 0≤(cH)then(if(cH)<(bm.length:Int)then(if(rd bm (cH))=46 then(fM.cD cY bm (rd bY t4) false bY t4 t5 cQ)else(fM.cD cY bm (rd bY t4) ((rd bm (cH)) !=47) bY t4 t5 cQ))else(none))else(none))=some (r1,fe,iM):=by first|(rw[fN]at H;exact H)|(simp only[fN]at H⊢;exact H)
           have q6:(IntKind.i64.wrap ((bm.length:Int)-1))=cH:=(jj _).trans fN;revert H;refine fg ?_;intro tg;refine fg ?_;intro ra;refine dF ?_ ?_<;>intro AH Dh H
           ·have aK:=I H;clear H;refine j1 ?_;intro jk jl jm jn iA jo jq jr js jt ju jv;obtain⟨CA,zB,s5⟩:=ab.pU gn.1;subst s5;obtain⟨dp,aD,eY,p0,a1⟩:=gY (ab.pt gn.1).2.2 (cH);cases aD;exact Jy
           ·have aK:=I H;clear H;refine j1 ?_;intro jk jl jm jn iA jo jq jr js jt ju jv;obtain⟨CA,zB,s5⟩:=ab.pU gn.1;subst s5;obtain⟨dp,aD,eY,p0,a1⟩:=gY (ab.pt gn.1).2.2 (cH);cases aD;obtain⟨gy,aD,eY,p0,a1⟩:=gY (ab.pt gn.1).2.2 (cH);obtain rfl:dp=gy:=(by injection aD);go_wp2
            repeat(go_quiet(fail);try go_wp2)
            go_meet
            case rel=>exact⟨_,(((rd bm (cH)) !=47)),rR,aK,⟨qO⟩,⟨B5⟩,⟨dU⟩,⟨dB⟩,⟨dT⟩⟩
       ·rw[if_neg ck]at H;have gU:decide (0<(bm.length:Int))=false:=decide_eq_false ck;have hG:decide (0<bm.length)=false:=decide_eq_false (by omega);clear ck;exact F0
      ·refine r3 ?_;have aK:=I H;clear H;refine j1 ?_;intro jk jl jm jn iA jo jq jr js jt ju jv;exact Jy
     case rest=>
      clear dj;obtain⟨bp,fE,rfl,bo,gp,gn,bE,aV,a7⟩:=hcut;cases bp with
      |zero=>exact absurd bo.1 (by simp[fM.cD])
      |succ ig=>
       have H:=bo.1;clear bo;simp only[fM.cD]at H;by_cases ck:fE=true
       ·subst ck;refine mz ?_;clear H;intro H;refine jB ?_;clear H;rintro⟨⟨t6,t7⟩,bF,H⟩
        try dsimp only at H
        have kc:=I bF;clear bF;refine jC ?_;clear H;rintro⟨rfl,rfl,rfl⟩
        go_wp2_with(first|(refine SF ?_;intro w1 hi U ad;refine GP ?_;intro gn aV a7 bE iB))
        repeat(go_quiet(fail);try go_wp2_with(first|(refine SF ?_;intro w1 hi U ad;refine GP ?_;intro gn aV a7 bE iB)))
        go_ret;exact⟨lh,dU,dT,dB⟩
       ·replace ck:=Bool.eq_false_iff.mpr ck;subst ck;refine kf ?_;clear H;refine dF ?_ ?_<;>intro gq gU H
        ·refine jB ?_;clear H;rintro⟨⟨t6,t7⟩,bF,H⟩
         try dsimp only at H
         have ao:=I bF;clear bF;refine jC ?_;clear H;rintro⟨rfl,rfl,rfl⟩;refine j1 ?_;intro jk jl jm jn iA jo jq jr js jt ju jv;obtain⟨CA,zB,s5⟩:=ab.pU gn.1;subst s5
         go_wp2_with(first|(refine SN ?_;intro w1 hi U ad gn aV a7 bE iB))
         repeat(go_quiet(fail);try go_wp2_with(first|(refine SN ?_;intro w1 hi U ad gn aV a7 bE iB)))
         go_ret;exact⟨lh,dU,dT,dB⟩
        ·by_cases c12:bm.length<140737488355328
         ·rw[if_pos c12]at H;have Ft:=I c12;clear c12;obtain⟨bh,cL⟩:∃iE:List Int,iE=(bm++[(rd bY t4)]):=⟨_,rfl⟩;replace H:(fM.aj ig bh bY (wrap64 (t4+1)) t5 cQ)=some (r1,fe,iM):=by first|(rw[cL];with_reducible exact H)|(exact s0)|(exact s3)|with_reducible exact H|(rw[cL];exact H)|exact H
          have uu:=I cL;clear cL;have aK:=I H;clear H;refine j1 ?_;intro jk jl jm jn iA jo jq jr js jt ju jv
          go_wp2_with(first|((with_reducible refine BS (b:=.append) (xs:=#[.tmp 99,.tmp 101]) rfl ?_);(try(refine EI (by rfl) ?_;dsimp only));at_builtin;refine ab.sy (ab.int .u8) w.heap.size rfl (.tmp 99) (.tmp 101) 22 5 (.int .u8 0) 1 rfl Tryz.underlying22 n2 rfl (by decide) (by omega) u3 bm (rd bY t4) [.int .u8 (rd bY t4)] (fun _=>True) (fun _=>False) rfl iW ?aP (fun _ ad=>ad.elim) ?aF ?aO (Below.refl _ _) ?aS ?aL ?_;(case aP=>exact rfl);(case aF=>exact(fun _ _=>trivial));(case aO=>exact Pc);(case aS=>exact(mP (w:=w) (g:=g) (row:=none) dB));(case aL=>exact Cd);intro v2 w1 aY U aw ea;rw[←uu.1]at aY;replace a7:=I (IF dT fh.1 U);replace bE:=I (cj.grown dU aw (cj.vM bE.1 gn.1 (by decide)));replace aV:=I (cI.trans dB (cI.BA aw g) (ab.EB gn.1));have gK:=I (aY);clear gn;clear aY U aw ea))
          repeat(go_quiet(fail);try go_wp2_with(first|((with_reducible refine BS (b:=.append) (xs:=#[.tmp 99,.tmp 101]) rfl ?_);(try(refine EI (by rfl) ?_;dsimp only));at_builtin;refine ab.sy (ab.int .u8) w.heap.size rfl (.tmp 99) (.tmp 101) 22 5 (.int .u8 0) 1 rfl Tryz.underlying22 n2 rfl (by decide) (by omega) u3 bm (rd bY t4) [.int .u8 (rd bY t4)] (fun _=>True) (fun _=>False) rfl iW ?aP (fun _ ad=>ad.elim) ?aF ?aO (Below.refl _ _) ?aS ?aL ?_;(case aP=>exact rfl);(case aF=>exact(fun _ _=>trivial));(case aO=>exact Pc);(case aS=>exact(mP (w:=w) (g:=g) (row:=none) dB));(case aL=>exact Cd);intro v2 w1 aY U aw ea;rw[←uu.1]at aY;replace a7:=I (IF dT fh.1 U);replace bE:=I (cj.grown dU aw (cj.vM bE.1 gn.1 (by decide)));replace aV:=I (cI.trans dB (cI.BA aw g) (ab.EB gn.1));have gK:=I (aY);clear gn;clear aY U aw ea)))
          go_roundg ig
          case measure=>have:=dn.1;have:=gp.1;omega
          case rel=>exact⟨(bh),(wrap64 (t4+1)),(t5),aK,⟨Jk⟩,⟨sM⟩,⟨dU⟩,⟨dB⟩,⟨dT⟩⟩
         ·exact J8
   ·replace kr:=Bool.eq_false_iff.mpr kr;subst kr;refine kf ?_;clear H;intro H;refine jC ?_;clear H;rintro⟨rfl,rfl,rfl⟩
    go_wp2_with(first|(refine SG ?_;refine yu ?_;intro w1 hi U ad gn aV a7 bE;refine Ga ?_;intro iB))
    repeat(go_quiet(fail);try go_wp2_with(first|(refine SG ?_;refine yu ?_;intro w1 hi U ad gn aV a7 bE;refine Ga ?_;intro iB)))
    go_ret;exact⟨lh,dU,dT,dB⟩
end ei
