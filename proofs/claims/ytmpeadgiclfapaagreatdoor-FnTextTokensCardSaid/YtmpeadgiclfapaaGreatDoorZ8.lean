/- Part 6 of the proof (T9). Conditions: each theorem's own. -/
import Derived.Test.YtmpeadgiclfapaaGreatDoorZ7
set_option linter.all false
set_option maxHeartbeats 0
set_option maxRecDepth 100000
namespace Go.Proofs.YtmpeadgiclfapaaGreatDoor
namespace ei
open RowKit YtmpeadgiclfapaaGreatDoorW.PrintWords YtmpeadgiclfapaaGreatDoorW.PrintLast YtmpeadgiclfapaaGreatDoorW.PrintMore
attribute [local go_sem] sB sC sD sF sG sH sI sJ
mutual
def gu.aj:Nat→Int→ByteArray→ByteArray→Int→List Int→Int→Int→fC→Option (List Int×Int×Int×Int)
 |0,_,_,_,_,_,_,_,_=>none
 |k+1,dk,eB,dX,x7,x1000,dJ,x1002,x1003=>if x7<(eB.size:Int)then(if 0≤x7 then(if(bB eB x7)=dk then(if x7<(dX.size:Int)then(some ((([bB dX x7]:List Int)),1,dJ,x1002))else(none))else(gu.aj k dk eB dX (wrap64 (x7+1)) x1000 dJ x1002 x1003))else(none))else(if dk≥48 then(gu.cD k dk (decide (dk≤55)) x1000 dJ x1002 x1003)else(gu.cD k dk false x1000 dJ x1002 x1003))
def gu.cD:Nat→Int→Bool→List Int→Int→Int→fC→Option (List Int×Int×Int×Int)
 |0,_,_,_,_,_,_=>none
 |k+1,dk,x61,x1000,dJ,x1002,x1003=>if x61=true then(gu.cC k ((dk-48)%256) 0 x1000 dJ x1002 x1003)else(if dk=120 then(gu.gA k 0 0 x1000 dJ x1002 x1003)else(if dk=117 then((nf.f k x1000 dJ x1002 x1003 4).bind fun G7=>(some (G7.1,G7.2.1,G7.2.2.1,G7.2.2.2)))else(if dk=85 then((nf.f k x1000 dJ x1002 x1003 8).bind fun G8=>(some (G8.1,G8.2.1,G8.2.2.1,G8.2.2.2)))else(if dk=88 then(some (([]:List Int),2,dJ,x1002))else(if dk=10 then(some (([]:List Int),2,dJ,x1002))else(some (([]:List Int),0,dJ,x1002)))))))
def gu.cC:Nat→Int→Int→List Int→Int→Int→fC→Option (List Int×Int×Int×Int)
 |0,_,_,_,_,_,_=>none
 |k+1,x8,x9,x1000,dJ,x1002,x1003=>if x9<2 then((qa.f x1000 dJ x1002 x1003 0).bind fun yG=>(if yG.1≥48 then((qa.f x1000 yG.2.1 yG.2.2 x1003 0).bind fun ux=>(if ux.1≤55 then(if 0≤ux.2.1 then(if ux.2.1<(x1000.length:Int)then(gu.cC k (wrap64 ((wrap64 (8*x8))+(((rd x1000 ux.2.1)-48)%256))) (wrap64 (x9+1)) x1000 (wrap64 (ux.2.1+1)) ux.2.2 x1003)else(none))else(none))else(if x8>255 then(some (([]:List Int),2,ux.2.1,ux.2.2))else(some ((([(x8)%256]:List Int)),1,ux.2.1,ux.2.2)))))else(if x8>255 then(some (([]:List Int),2,yG.2.1,yG.2.2))else(some ((([(x8)%256]:List Int)),1,yG.2.1,yG.2.2)))))else(if x8>255 then(some (([]:List Int),2,dJ,x1002))else(some ((([(x8)%256]:List Int)),1,dJ,x1002)))
def gu.gA:Nat→Int→Int→List Int→Int→Int→fC→Option (List Int×Int×Int×Int)
 |0,_,_,_,_,_,_=>none
 |k+1,x10,pM,x1000,dJ,x1002,x1003=>if pM<2 then((qa.f x1000 dJ x1002 x1003 0).bind fun uy=>((fQ.f k uy.1).bind fun abB=>(if abB≥0 then(if 0≤uy.2.1 then(if uy.2.1<(x1000.length:Int)then((fQ.f k (rd x1000 uy.2.1)).bind fun abC=>(gu.gA k (wrap64 ((wrap64 (16*x10))+abC)) (wrap64 (pM+1)) x1000 (wrap64 (uy.2.1+1)) uy.2.2 x1003))else(none))else(none))else(if pM=0 then(some (([]:List Int),2,uy.2.1,uy.2.2))else(some ((([(x10)%256]:List Int)),1,uy.2.1,uy.2.2))))))else(if pM=0 then(some (([]:List Int),2,dJ,x1002))else(some ((([(x10)%256]:List Int)),1,dJ,x1002)))
end
def gu.f(k:Nat)(bY:List Int)(ez:Int)(eL:Int)(cQ:fC):Option (List Int×Int×Int×Int):=if(wrap64 (ez+1))≥(bY.length:Int)then(some (([]:List Int),0,wrap64 (ez+1),eL))else(if 0≤(wrap64 (ez+1))then(if(wrap64 (ez+1))<(bY.length:Int)then(gu.aj k (rd bY (wrap64 (ez+1))) (⟨#[97,98,102,110,114,116,118,63,92,39,34]⟩:ByteArray) (⟨#[7,8,12,10,13,9,11,63,92,39,34]⟩:ByteArray) 0 bY (wrap64 ((wrap64 (ez+1))+1)) eL cQ)else(none))else(none))
theorem gu.calls(k:Nat)(g:Nat)(bY:List Int)(ez:Int)(eL:Int)(cQ:fC)(r1:List Int)(fe:Int)(iM:Int)(o8:Int)(w0 w:World)(fJ:cj w0 w g bY ez eL cQ)(dw:Below w0.heap.size w0 w)(h:gu.f k bY ez eL cQ=some (r1,fe,iM,o8)):
 Calls Tryz.prog 90 #[.pointer (some ⟨g,0,none⟩)] w fun e w'=>∃oI:Value,e=.returned (.tuple #[oI,.int .i64 fe])∧ab.R (ab.int .u8) 5 w' w.heap.size (fun _=>True) oI r1∧cj w0 w' g bY iM o8 cQ∧Below w0.heap.size w0 w'∧cI w w' g none:=by
 refine ug ?_;clear fJ dw;intro bE aV fh iw a7 H;unfold gu.f at H;clear h;revert H;refine lf ?_ ?_<;>intro ho H
 ·refine jC ?_;clear H;rintro⟨rfl,rfl,rfl,rfl⟩;refine j1 ?_;intro jk jl jm jn iA jo jq jr js jt ju jv;go_enter Tryz.func90,Tryz.ntmps90;exact Qk
 ·obtain⟨cH,fN⟩:∃ki:Int,(wrap64 (ez+1))=ki:=⟨_,rfl⟩;replace H:(if 0≤(cH)then(if(cH)<(bY.length:Int)then(gu.aj k (rd bY (cH)) (⟨#[97,98,102,110,114,116,118,63,92,39,34]⟩:ByteArray) (⟨#[7,8,12,10,13,9,11,63,92,39,34]⟩:ByteArray) 0 bY (wrap64 ((cH)+1)) eL cQ)else(none))else(none))=some (r1,fe,iM,o8):=by first|(rw[fN]at H;exact H)|(simp only[fN]at H⊢;exact H)
  (try rw[fN]at ho)
  have q6:(IntKind.i64.wrap (ez+1))=cH:=(jj _).trans fN;revert H;refine fg ?_;intro hc;refine fg ?_;intro hy H;have aK:=I H;clear H;refine j1 ?_;intro jk jl jm jn iA jo jq jr js jt ju jv;obtain⟨dp,aD,eY,p0,a1⟩:=gY iA (cH);cases aD;have G9:dp.block≠g:=Nat.ne_of_lt (Nat.lt_of_lt_of_le (by have:=World.block_lt_of_cell? _ _ eY;first|rwa[uL]at this|exact this) (cj.ge bE.1));replace eY:=mL a7.1 eY;replace eY:=(cell_far (p:=⟨g,1,none⟩) (by first|(rw[uL];exact G9)|(show(Addr.add _ _).block≠_;rw[uL];exact G9)|exact G9) (.int .i64 cH)).trans eY
  (try have aj1:=fun(dN:Nat)=>(show(((w.drewN dN).setCell ⟨g,1,none⟩ (.int .i64 cH))).cell? _=some _ from eY))
  clear G9;go_enter Tryz.func90,Tryz.ntmps90;go_wp2
  repeat(go_quiet(fail);try go_wp2)
  go_loopg [7] k (fun bp v0 w'=>∃(bm:Int),v0=.int .i64 bm∧aN (gu.aj bp (rd bY (cH)) (⟨#[97,98,102,110,114,116,118,63,92,39,34]⟩:ByteArray) (⟨#[7,8,12,10,13,9,11,63,92,39,34]⟩:ByteArray) bm bY (wrap64 ((cH)+1)) eL cQ=some (r1,fe,iM,o8))∧aN (bp≤k)∧aN (cj w0 w' g bY (wrap64 ((cH)+1)) eL cQ)∧aN (cI w w' g none)∧aN (Below w0.heap.size w0 w'))
  case atStart=>exact⟨(0),bJ,aK,⟨Nat.le_refl _⟩,⟨dU⟩,⟨dB⟩,⟨dT⟩⟩
  case round=>
   clear aK;obtain⟨bm,rfl,bo,dn,bE,aV,a7⟩:=hrel;cases gk with
   |zero=>exact absurd bo.1 (by simp[gu.aj])
   |succ cY=>
    have H:=bo.1;clear bo;simp only[gu.aj]at H;revert H;refine eo ?_ ?_<;>intro gq H
    ·have gU:decide (bm<11)=true:=gq;revert H;refine fg ?_;intro hG;refine dF ?_ ?_<;>intro iN je H
     ·revert H;refine fg ?_;intro k5 H;have nM:decide (bm<11)=true:=k5;obtain⟨aT,cL⟩:∃iE:List Int,iE=(([bB (⟨#[7,8,12,10,13,9,11,63,92,39,34]⟩:ByteArray) bm]:List Int)):=⟨_,rfl⟩;replace H:(some (aT,1,(wrap64 ((cH)+1)),eL))=some (r1,fe,iM,o8):=by first|(rw[cL];with_reducible exact H)|(exact s0)|(exact s3)|with_reducible exact H|(rw[cL];exact H)|exact H
      have gG:=I cL;clear cL;refine jC ?_;clear H;rintro⟨rfl,rfl,rfl,rfl⟩;refine Tq ?_;intro aW ba bQ;have dy:0≤(bm:Int):=of_decide_eq_true fK;have fs:bm<(11:Int):=of_decide_eq_true fK;have cv:=nx (⟨#[7,8,12,10,13,9,11,63,92,39,34]⟩:ByteArray) bm;replace dy:=eq_true dy;replace fs:=eq_true fs
      go_wp2_with(first|((with_reducible refine la (N:=60) rfl ?_);refine ab.k9 (ab.int .u8) _ 5 ?aw (N:=60) ?hd (xs:=([bB (⟨#[7,8,12,10,13,9,11,63,92,39,34]⟩:ByteArray) bm]:List Int)) (inner:=[.int .u8 (bB (⟨#[7,8,12,10,13,9,11,63,92,39,34]⟩:ByteArray) bm)]) (ok:=fun _=>True) (okp:=fun _=>True) ?au ?hp (fun _ ad=>ad) trivial (Below.refl _ _) (Nat.le_refl _) (by simp) ?_;(case hd=>rfl);(case aw=>rfl);(case au=>exact iW);(case hp=>exact(cF.one (show ab.M (ab.int .u8) _ _ _ (bB (⟨#[7,8,12,10,13,9,11,63,92,39,34]⟩:ByteArray) bm) [.int .u8 (bB (⟨#[7,8,12,10,13,9,11,63,92,39,34]⟩:ByteArray) bm)]from rfl) (cF.none _ _)));intro v1 w1 bK U hk hl;clear hk hl;(first|rw[←gG.1]at bK|(refine lS ?_;clear bK;intro bK));have gK:=I (ab.jU bK (mP (w:=w) (g:=g) (row:=none) dB));replace aV:=I (cI.trans dB (cI.kn U g none) (.inl rfl));replace a7:=I (jV dT U);replace bE:=I (cj.below dU U);clear U bK))
      repeat(go_quiet(fail);try go_wp2_with(first|((with_reducible refine la (N:=60) rfl ?_);refine ab.k9 (ab.int .u8) _ 5 ?aw (N:=60) ?hd (xs:=([bB (⟨#[7,8,12,10,13,9,11,63,92,39,34]⟩:ByteArray) bm]:List Int)) (inner:=[.int .u8 (bB (⟨#[7,8,12,10,13,9,11,63,92,39,34]⟩:ByteArray) bm)]) (ok:=fun _=>True) (okp:=fun _=>True) ?au ?hp (fun _ ad=>ad) trivial (Below.refl _ _) (Nat.le_refl _) (by simp) ?_;(case hd=>rfl);(case aw=>rfl);(case au=>exact iW);(case hp=>exact(cF.one (show ab.M (ab.int .u8) _ _ _ (bB (⟨#[7,8,12,10,13,9,11,63,92,39,34]⟩:ByteArray) bm) [.int .u8 (bB (⟨#[7,8,12,10,13,9,11,63,92,39,34]⟩:ByteArray) bm)]from rfl) (cF.none _ _)));intro v1 w1 bK U hk hl;clear hk hl;(first|rw[←gG.1]at bK|(refine lS ?_;clear bK;intro bK));have gK:=I (ab.jU bK (mP (w:=w) (g:=g) (row:=none) dB));replace aV:=I (cI.trans dB (cI.kn U g none) (.inl rfl));replace a7:=I (jV dT U);replace bE:=I (cj.below dU U);clear U bK)))
      exact wh
     ·have aK:=I H;clear H;refine Tq ?_;intro aW ba bQ;go_wp2
      repeat(go_quiet(fail);try go_wp2)
      go_roundg cY
      case measure=>have:=dn.1;omega
      case rel=>exact⟨(wrap64 (bm+1)),bJ,aK,⟨qP⟩,⟨dU⟩,⟨dB⟩,⟨dT⟩⟩
    ·have gU:decide (bm<11)=false:=gq;have dj:=I H;clear H
     go_upto_region 13 with(fail)
     repeat(go_quiet(fail);go_upto_region 13 with(fail))
     go_cut [61] (fun v1 wc=>∃(bp:Nat) (b9:Bool),v1=.bool b9∧aN (gu.cD bp (rd bY (cH)) b9 bY (wrap64 ((cH)+1)) eL cQ=some (r1,fe,iM,o8))∧aN (bp≤cY)∧aN (cj w0 wc g bY (wrap64 ((cH)+1)) eL cQ)∧aN (cI w wc g none)∧aN (Below w0.heap.size w0 wc))
     case first=>
      have H:=dj.1;clear dj;revert H;refine lf ?_ ?_<;>intro gU H
      ·(first|rw[gU]|(simp only[jj,oV];rw[gU])|skip)
       have aK:=I H;clear H;go_wp2
       repeat(go_quiet(fail);try go_wp2)
       go_meet
       case rel=>exact⟨_,(decide ((rd bY (cH))≤55)),rR,aK,⟨qO⟩,⟨dU⟩,⟨dB⟩,⟨dT⟩⟩
      ·(first|rw[gU]|(simp only[jj,oV];rw[gU])|skip)
       have aK:=I H;clear H;go_wp2
       repeat(go_quiet(fail);try go_wp2)
       go_meet
       case rel=>exact⟨_,(false),bJ,aK,⟨qO⟩,⟨dU⟩,⟨dB⟩,⟨dT⟩⟩
     case rest=>
      clear dj;obtain⟨bp,b9,rfl,bo,gp,bE,aV,a7⟩:=hcut;cases bp with
      |zero=>exact absurd bo.1 (by simp[gu.cD])
      |succ ig=>
       have H:=bo.1;clear bo;simp only[gu.cD]at H;by_cases ck:b9=true
       ·subst ck;refine oG ?_;clear H;intro aK;go_wp2
        repeat(go_quiet(fail);try go_wp2)
        go_loopg [8,9] ig (fun bp v2 v3 w'=>∃(cm:Int) (fE:Int) (fw:Int) (j2:Int),v2=.int .i64 cm∧v3=.int .i64 fE∧aN (gu.cC bp cm fE bY fw j2 cQ=some (r1,fe,iM,o8))∧aN (bp≤ig)∧aN (cj w0 w' g bY fw j2 cQ)∧aN (cI w w' g none)∧aN (Below w0.heap.size w0 w'))
        case atStart=>exact⟨(((rd bY (cH))-48)%256),(0),((wrap64 ((cH)+1))),(eL),rR,bJ,aK,⟨Nat.le_refl _⟩,⟨dU⟩,⟨dB⟩,⟨dT⟩⟩
        case round=>
         clear aK;obtain⟨cm,fE,fw,j2,rfl,rfl,bo,kM,bE,aV,a7⟩:=hrel;cases gk with
         |zero=>exact absurd bo.1 (by simp[gu.cC])
         |succ cd=>
          have H:=bo.1;clear bo;simp only[gu.cC]at H;revert H;refine eo ?_ ?_<;>intro gU H
          ·refine jB ?_;clear H;rintro⟨⟨t0,t2,t3⟩,ao,H⟩
           try dsimp only at H
           have bd:=I ao;clear ao;revert H;refine lf ?_ ?_<;>intro hG H
           ·refine jB ?_;clear H;rintro⟨⟨t4,t5,t6⟩,ao,H⟩
            try dsimp only at H
            have bF:=I ao;clear ao;revert H;refine eo ?_ ?_<;>intro iN H
            ·revert H;refine fg ?_;intro je;refine fg ?_;intro k5 H;have aK:=I H;clear H
             go_wp2_with(first|(refine ng ?_;intro w1 hi U ad aV a7 bE)|(refine z8 ?_;intro bf hi U ad aV a7 bE;refine vk ?_;intro om oo oq ot lx ou ov ow ox oy oz oA;have ba:0≤(t5:Int):=of_decide_eq_true fK;have bQ:t5<(bY.length:Int):=of_decide_eq_true fK;obtain⟨gy,bx,fT⟩:=ab.iV lx t5 ba bQ;cases bx;refine C9 ?_;clear fT ba bQ;intro fT ba bQ))
             repeat(go_quiet(fail);try go_wp2_with(first|(refine ng ?_;intro w1 hi U ad aV a7 bE)|(refine z8 ?_;intro bf hi U ad aV a7 bE;refine vk ?_;intro om oo oq ot lx ou ov ow ox oy oz oA;have ba:0≤(t5:Int):=of_decide_eq_true fK;have bQ:t5<(bY.length:Int):=of_decide_eq_true fK;obtain⟨gy,bx,fT⟩:=ab.iV lx t5 ba bQ;cases bx;refine C9 ?_;clear fT ba bQ;intro fT ba bQ)))
             go_roundg cd
             case measure=>have:=dn.1;have:=gp.1;have:=kM.1;omega
             case rel=>exact⟨(wrap64 ((wrap64 (8*cm))+(((rd bY t5)-48)%256))),(wrap64 (fE+1)),(wrap64 (t5+1)),(t6),bJ,bJ,aK,⟨Ff⟩,⟨dU⟩,⟨dB⟩,⟨dT⟩⟩
            ·revert H;refine p1 ?_ ?_<;>intro je H
             ·refine jC ?_;clear H;rintro⟨rfl,rfl,rfl,rfl⟩
              go_wp2_with(first|(refine ng ?_;intro w1 hi U ad aV a7 bE)|(refine z8 ?_;intro bf hi U ad aV a7 bE))
              repeat(go_quiet(fail);try go_wp2_with(first|(refine ng ?_;intro w1 hi U ad aV a7 bE)|(refine z8 ?_;intro bf hi U ad aV a7 bE)))
              exact Jv
             ·refine Le ?_;intro aT cL;replace H:(some (aT,1,t5,t6))=some (r1,fe,iM,o8):=by first|(rw[cL];with_reducible exact H)|(exact s0)|(exact s3)|with_reducible exact H|(rw[cL];exact H)|exact H
              have gG:=I cL;clear cL;refine jC ?_;clear H;rintro⟨rfl,rfl,rfl,rfl⟩
              go_wp2_with(first|(refine ng ?_;intro w1 hi U ad aV a7 bE)|(refine z8 ?_;intro bf hi U ad aV a7 bE)|((with_reducible refine la (N:=111) rfl ?_);refine ab.k9 (ab.int .u8) _ 5 ?aw (N:=111) ?hd (xs:=([(cm)%256]:List Int)) (inner:=[.int .u8 ((cm)%256)]) (ok:=fun _=>True) (okp:=fun _=>True) ?au ?hp (fun _ ad=>ad) trivial (Below.refl _ _) (Nat.le_refl _) (by simp) ?_;(case hd=>rfl);(case aw=>rfl);(case au=>exact iW);(case hp=>exact(cF.one (show ab.M (ab.int .u8) _ _ _ ((cm)%256) [.int .u8 ((cm)%256)]from rfl) (cF.none _ _)));intro v4 w3 bK U hk hl;clear hk hl;(first|rw[←gG.1]at bK|(refine lS ?_;clear bK;intro bK));have gK:=I (ab.jU bK (mP (w:=w) (g:=g) (row:=none) dB));replace aV:=I (cI.trans dB (cI.kn U g none) (.inl rfl));replace a7:=I (jV dT U);replace bE:=I (cj.below dU U);clear U bK))
              repeat(go_quiet(fail);try go_wp2_with(first|(refine ng ?_;intro w1 hi U ad aV a7 bE)|(refine z8 ?_;intro bf hi U ad aV a7 bE)|((with_reducible refine la (N:=111) rfl ?_);refine ab.k9 (ab.int .u8) _ 5 ?aw (N:=111) ?hd (xs:=([(cm)%256]:List Int)) (inner:=[.int .u8 ((cm)%256)]) (ok:=fun _=>True) (okp:=fun _=>True) ?au ?hp (fun _ ad=>ad) trivial (Below.refl _ _) (Nat.le_refl _) (by simp) ?_;(case hd=>rfl);(case aw=>rfl);(case au=>exact iW);(case hp=>exact(cF.one (show ab.M (ab.int .u8) _ _ _ ((cm)%256) [.int .u8 ((cm)%256)]from rfl) (cF.none _ _)));intro v4 w3 bK U hk hl;clear hk hl;(first|rw[←gG.1]at bK|(refine lS ?_;clear bK;intro bK));have gK:=I (ab.jU bK (mP (w:=w) (g:=g) (row:=none) dB));replace aV:=I (cI.trans dB (cI.kn U g none) (.inl rfl));replace a7:=I (jV dT U);replace bE:=I (cj.below dU U);clear U bK)))
              exact wh
           ·revert H;refine p1 ?_ ?_<;>intro iN H
            ·refine jC ?_;clear H;rintro⟨rfl,rfl,rfl,rfl⟩
             go_wp2_with(first|(refine ng ?_;intro w1 hi U ad aV a7 bE))
             repeat(go_quiet(fail);try go_wp2_with(first|(refine ng ?_;intro w1 hi U ad aV a7 bE)))
             exact Jv
            ·refine TP ?_;clear H;rintro aT gG ⟨rfl,rfl,rfl,rfl⟩
             go_wp2_with(first|(refine ng ?_;intro w1 hi U ad aV a7 bE)|((with_reducible refine la (N:=111) rfl ?_);refine ab.k9 (ab.int .u8) _ 5 ?aw (N:=111) ?hd (xs:=([(cm)%256]:List Int)) (inner:=[.int .u8 ((cm)%256)]) (ok:=fun _=>True) (okp:=fun _=>True) ?au ?hp (fun _ ad=>ad) trivial (Below.refl _ _) (Nat.le_refl _) (by simp) ?_;(case hd=>rfl);(case aw=>rfl);(case au=>exact iW);(case hp=>exact(cF.one (show ab.M (ab.int .u8) _ _ _ ((cm)%256) [.int .u8 ((cm)%256)]from rfl) (cF.none _ _)));intro v4 bf bK U hk hl;clear hk hl;(first|rw[←gG.1]at bK|(refine lS ?_;clear bK;intro bK));have gK:=I (ab.jU bK (mP (w:=w) (g:=g) (row:=none) dB));replace aV:=I (cI.trans dB (cI.kn U g none) (.inl rfl));replace a7:=I (jV dT U);replace bE:=I (cj.below dU U);clear U bK))
             repeat(go_quiet(fail);try go_wp2_with(first|(refine ng ?_;intro w1 hi U ad aV a7 bE)|((with_reducible refine la (N:=111) rfl ?_);refine ab.k9 (ab.int .u8) _ 5 ?aw (N:=111) ?hd (xs:=([(cm)%256]:List Int)) (inner:=[.int .u8 ((cm)%256)]) (ok:=fun _=>True) (okp:=fun _=>True) ?au ?hp (fun _ ad=>ad) trivial (Below.refl _ _) (Nat.le_refl _) (by simp) ?_;(case hd=>rfl);(case aw=>rfl);(case au=>exact iW);(case hp=>exact(cF.one (show ab.M (ab.int .u8) _ _ _ ((cm)%256) [.int .u8 ((cm)%256)]from rfl) (cF.none _ _)));intro v4 bf bK U hk hl;clear hk hl;(first|rw[←gG.1]at bK|(refine lS ?_;clear bK;intro bK));have gK:=I (ab.jU bK (mP (w:=w) (g:=g) (row:=none) dB));replace aV:=I (cI.trans dB (cI.kn U g none) (.inl rfl));replace a7:=I (jV dT U);replace bE:=I (cj.below dU U);clear U bK)))
             exact wh
          ·revert H;refine p1 ?_ ?_<;>intro hG H
           ·exact CG
           ·refine TQ ?_;clear H;rintro aT gG ⟨rfl,rfl,rfl,rfl⟩
            go_wp2_with(first|((with_reducible refine la (N:=111) rfl ?_);refine ab.k9 (ab.int .u8) _ 5 ?aw (N:=111) ?hd (xs:=([(cm)%256]:List Int)) (inner:=[.int .u8 ((cm)%256)]) (ok:=fun _=>True) (okp:=fun _=>True) ?au ?hp (fun _ ad=>ad) trivial (Below.refl _ _) (Nat.le_refl _) (by simp) ?_;(case hd=>rfl);(case aw=>rfl);(case au=>exact iW);(case hp=>exact(cF.one (show ab.M (ab.int .u8) _ _ _ ((cm)%256) [.int .u8 ((cm)%256)]from rfl) (cF.none _ _)));intro v4 w1 bK U hk hl;clear hk hl;(first|rw[←gG.1]at bK|(refine lS ?_;clear bK;intro bK));have gK:=I (ab.jU bK (mP (w:=w) (g:=g) (row:=none) dB));replace aV:=I (cI.trans dB (cI.kn U g none) (.inl rfl));replace a7:=I (jV dT U);replace bE:=I (cj.below dU U);clear U bK))
            repeat(go_quiet(fail);try go_wp2_with(first|((with_reducible refine la (N:=111) rfl ?_);refine ab.k9 (ab.int .u8) _ 5 ?aw (N:=111) ?hd (xs:=([(cm)%256]:List Int)) (inner:=[.int .u8 ((cm)%256)]) (ok:=fun _=>True) (okp:=fun _=>True) ?au ?hp (fun _ ad=>ad) trivial (Below.refl _ _) (Nat.le_refl _) (by simp) ?_;(case hd=>rfl);(case aw=>rfl);(case au=>exact iW);(case hp=>exact(cF.one (show ab.M (ab.int .u8) _ _ _ ((cm)%256) [.int .u8 ((cm)%256)]from rfl) (cF.none _ _)));intro v4 w1 bK U hk hl;clear hk hl;(first|rw[←gG.1]at bK|(refine lS ?_;clear bK;intro bK));have gK:=I (ab.jU bK (mP (w:=w) (g:=g) (row:=none) dB));replace aV:=I (cI.trans dB (cI.kn U g none) (.inl rfl));replace a7:=I (jV dT U);replace bE:=I (cj.below dU U);clear U bK)))
            exact wh
       ·replace ck:=Bool.eq_false_iff.mpr ck;subst ck;refine kf ?_;clear H;refine dF ?_ ?_<;>intro gU hG H
        ·have aK:=I H;clear H;go_wp2
         repeat(go_quiet(fail);try go_wp2)
         go_loopg [10,11] ig (fun bp v2 v3 w'=>∃(cm:Int) (fE:Int) (fw:Int) (j2:Int),v2=.int .i64 cm∧v3=.int .i64 fE∧aN (gu.gA bp cm fE bY fw j2 cQ=some (r1,fe,iM,o8))∧aN (bp≤ig)∧aN (cj w0 w' g bY fw j2 cQ)∧aN (cI w w' g none)∧aN (Below w0.heap.size w0 w'))
         case atStart=>exact⟨(0),(0),((wrap64 ((cH)+1))),(eL),bJ,bJ,aK,⟨Nat.le_refl _⟩,⟨dU⟩,⟨dB⟩,⟨dT⟩⟩
         case round=>
          clear aK;obtain⟨cm,fE,fw,j2,rfl,rfl,bo,kM,bE,aV,a7⟩:=hrel;cases gk with
          |zero=>exact absurd bo.1 (by simp[gu.gA])
          |succ cd=>
           have H:=bo.1;clear bo;simp only[gu.gA]at H;revert H;refine eo ?_ ?_<;>intro iN H
           ·refine jB ?_;clear H;rintro⟨⟨t0,t2,t3⟩,ao,H⟩
            try dsimp only at H
            have bd:=I ao;clear ao;refine jB ?_;clear H;rintro⟨t4,ao,H⟩
            try dsimp only at H
            have bF:=I ao;clear ao;revert H;refine lf ?_ ?_<;>intro je H
            ·revert H;refine fg ?_;intro k5;refine fg ?_;intro nM H;refine jB ?_;clear H;rintro⟨t5,ao,H⟩
             try dsimp only at H
             have cZ:=I ao;clear ao;have aK:=I H;clear H
             go_wp2_with(first|(refine ng ?_;intro w1 hi U ad aV a7 bE)|(refine vf ?_;rintro e w' ⟨rfl,⟨dh,rfl⟩⟩;(try first|exact⟨rfl,_,World.drewN_drewN _ _ _⟩|exact⟨rfl,_,Eq.trans (World.drewN_drewN _ _ _) (congrArg (World.drewN _) (Nat.add_assoc _ _ _))⟩);refine vk ?_;intro om oo oq ot lx ou ov ow ox oy oz oA;refine K7 ?_;intro ba bQ gy bx fT;cases bx;refine C9 ?_;clear fT ba bQ;intro fT ba bQ)|(refine Kv ?_;rintro e w' ⟨rfl,⟨dh,rfl⟩⟩;(try first|exact⟨rfl,_,World.drewN_drewN _ _ _⟩|exact⟨rfl,_,Eq.trans (World.drewN_drewN _ _ _) (congrArg (World.drewN _) (Nat.add_assoc _ _ _))⟩)))
             repeat(go_quiet(first|(refine ng ?_;intro w1 hi U ad aV a7 bE)|(refine vf ?_;rintro e w' ⟨rfl,⟨dh,rfl⟩⟩;(try first|exact⟨rfl,_,World.drewN_drewN _ _ _⟩|exact⟨rfl,_,Eq.trans (World.drewN_drewN _ _ _) (congrArg (World.drewN _) (Nat.add_assoc _ _ _))⟩);refine vk ?_;intro om oo oq ot lx ou ov ow ox oy oz oA;refine K7 ?_;intro ba bQ gy bx fT;cases bx;refine C9 ?_;clear fT ba bQ;intro fT ba bQ)|(refine Kv ?_;rintro e w' ⟨rfl,⟨dh,rfl⟩⟩;(try first|exact⟨rfl,_,World.drewN_drewN _ _ _⟩|exact⟨rfl,_,Eq.trans (World.drewN_drewN _ _ _) (congrArg (World.drewN _) (Nat.add_assoc _ _ _))⟩)));try go_wp2_with(first|(refine ng ?_;intro w1 hi U ad aV a7 bE)|(refine vf ?_;rintro e w' ⟨rfl,⟨dh,rfl⟩⟩;(try first|exact⟨rfl,_,World.drewN_drewN _ _ _⟩|exact⟨rfl,_,Eq.trans (World.drewN_drewN _ _ _) (congrArg (World.drewN _) (Nat.add_assoc _ _ _))⟩);refine vk ?_;intro om oo oq ot lx ou ov ow ox oy oz oA;refine K7 ?_;intro ba bQ gy bx fT;cases bx;refine C9 ?_;clear fT ba bQ;intro fT ba bQ)|(refine Kv ?_;rintro e w' ⟨rfl,⟨dh,rfl⟩⟩;(try first|exact⟨rfl,_,World.drewN_drewN _ _ _⟩|exact⟨rfl,_,Eq.trans (World.drewN_drewN _ _ _) (congrArg (World.drewN _) (Nat.add_assoc _ _ _))⟩))))
             go_roundg cd
             case measure=>have:=dn.1;have:=gp.1;have:=kM.1;omega
             case rel=>exact⟨(wrap64 ((wrap64 (16*cm))+t5)),(wrap64 (fE+1)),(wrap64 (t2+1)),(t3),bJ,bJ,aK,⟨Ff⟩,⟨dU⟩,⟨dB⟩,⟨dT⟩⟩
            ·revert H;refine dF ?_ ?_<;>intro k5 nM H
             ·refine jC ?_;clear H;rintro⟨rfl,rfl,rfl,rfl⟩
              go_wp2_with(first|(refine ng ?_;intro w1 hi U ad aV a7 bE)|(refine vf ?_;rintro e w' ⟨rfl,⟨dh,rfl⟩⟩;(try first|exact⟨rfl,_,World.drewN_drewN _ _ _⟩|exact⟨rfl,_,Eq.trans (World.drewN_drewN _ _ _) (congrArg (World.drewN _) (Nat.add_assoc _ _ _))⟩)))
              repeat(go_quiet(first|(refine ng ?_;intro w1 hi U ad aV a7 bE)|(refine vf ?_;rintro e w' ⟨rfl,⟨dh,rfl⟩⟩;(try first|exact⟨rfl,_,World.drewN_drewN _ _ _⟩|exact⟨rfl,_,Eq.trans (World.drewN_drewN _ _ _) (congrArg (World.drewN _) (Nat.add_assoc _ _ _))⟩)));try go_wp2_with(first|(refine ng ?_;intro w1 hi U ad aV a7 bE)|(refine vf ?_;rintro e w' ⟨rfl,⟨dh,rfl⟩⟩;(try first|exact⟨rfl,_,World.drewN_drewN _ _ _⟩|exact⟨rfl,_,Eq.trans (World.drewN_drewN _ _ _) (congrArg (World.drewN _) (Nat.add_assoc _ _ _))⟩))))
              exact Jv
             ·refine TP ?_;clear H;rintro aT gG ⟨rfl,rfl,rfl,rfl⟩
              go_wp2_with(first|(refine ng ?_;intro w1 hi U ad aV a7 bE)|(refine vf ?_;rintro e w' ⟨rfl,⟨dh,rfl⟩⟩;(try first|exact⟨rfl,_,World.drewN_drewN _ _ _⟩|exact⟨rfl,_,Eq.trans (World.drewN_drewN _ _ _) (congrArg (World.drewN _) (Nat.add_assoc _ _ _))⟩))|((with_reducible refine la (N:=150) rfl ?_);refine ab.k9 (ab.int .u8) _ 5 ?aw (N:=150) ?hd (xs:=([(cm)%256]:List Int)) (inner:=[.int .u8 ((cm)%256)]) (ok:=fun _=>True) (okp:=fun _=>True) ?au ?hp (fun _ ad=>ad) trivial (Below.refl _ _) (Nat.le_refl _) (by simp) ?_;(case hd=>rfl);(case aw=>rfl);(case au=>exact iW);(case hp=>exact(cF.one (show ab.M (ab.int .u8) _ _ _ ((cm)%256) [.int .u8 ((cm)%256)]from rfl) (cF.none _ _)));intro v4 bf bK U hk hl;clear hk hl;(first|rw[←gG.1]at bK|(refine lS ?_;clear bK;intro bK));have gK:=I (ab.jU bK (mP (w:=w) (g:=g) (row:=none) dB));replace aV:=I (cI.trans dB (cI.kn U g none) (.inl rfl));replace a7:=I (jV dT U);replace bE:=I (cj.below dU U);clear U bK))
              repeat(go_quiet(first|(refine ng ?_;intro w1 hi U ad aV a7 bE)|(refine vf ?_;rintro e w' ⟨rfl,⟨dh,rfl⟩⟩;(try first|exact⟨rfl,_,World.drewN_drewN _ _ _⟩|exact⟨rfl,_,Eq.trans (World.drewN_drewN _ _ _) (congrArg (World.drewN _) (Nat.add_assoc _ _ _))⟩))|((with_reducible refine la (N:=150) rfl ?_);refine ab.k9 (ab.int .u8) _ 5 ?aw (N:=150) ?hd (xs:=([(cm)%256]:List Int)) (inner:=[.int .u8 ((cm)%256)]) (ok:=fun _=>True) (okp:=fun _=>True) ?au ?hp (fun _ ad=>ad) trivial (Below.refl _ _) (Nat.le_refl _) (by simp) ?_;(case hd=>rfl);(case aw=>rfl);(case au=>exact iW);(case hp=>exact(cF.one (show ab.M (ab.int .u8) _ _ _ ((cm)%256) [.int .u8 ((cm)%256)]from rfl) (cF.none _ _)));intro v4 bf bK U hk hl;clear hk hl;(first|rw[←gG.1]at bK|(refine lS ?_;clear bK;intro bK));have gK:=I (ab.jU bK (mP (w:=w) (g:=g) (row:=none) dB));replace aV:=I (cI.trans dB (cI.kn U g none) (.inl rfl));replace a7:=I (jV dT U);replace bE:=I (cj.below dU U);clear U bK));try go_wp2_with(first|(refine ng ?_;intro w1 hi U ad aV a7 bE)|(refine vf ?_;rintro e w' ⟨rfl,⟨dh,rfl⟩⟩;(try first|exact⟨rfl,_,World.drewN_drewN _ _ _⟩|exact⟨rfl,_,Eq.trans (World.drewN_drewN _ _ _) (congrArg (World.drewN _) (Nat.add_assoc _ _ _))⟩))|((with_reducible refine la (N:=150) rfl ?_);refine ab.k9 (ab.int .u8) _ 5 ?aw (N:=150) ?hd (xs:=([(cm)%256]:List Int)) (inner:=[.int .u8 ((cm)%256)]) (ok:=fun _=>True) (okp:=fun _=>True) ?au ?hp (fun _ ad=>ad) trivial (Below.refl _ _) (Nat.le_refl _) (by simp) ?_;(case hd=>rfl);(case aw=>rfl);(case au=>exact iW);(case hp=>exact(cF.one (show ab.M (ab.int .u8) _ _ _ ((cm)%256) [.int .u8 ((cm)%256)]from rfl) (cF.none _ _)));intro v4 bf bK U hk hl;clear hk hl;(first|rw[←gG.1]at bK|(refine lS ?_;clear bK;intro bK));have gK:=I (ab.jU bK (mP (w:=w) (g:=g) (row:=none) dB));replace aV:=I (cI.trans dB (cI.kn U g none) (.inl rfl));replace a7:=I (jV dT U);replace bE:=I (cj.below dU U);clear U bK)))
              exact wh
           ·revert H;refine dF ?_ ?_<;>intro je k5 H
            ·exact CG
            ·refine TQ ?_;clear H;rintro aT gG ⟨rfl,rfl,rfl,rfl⟩
             go_wp2_with(first|((with_reducible refine la (N:=150) rfl ?_);refine ab.k9 (ab.int .u8) _ 5 ?aw (N:=150) ?hd (xs:=([(cm)%256]:List Int)) (inner:=[.int .u8 ((cm)%256)]) (ok:=fun _=>True) (okp:=fun _=>True) ?au ?hp (fun _ ad=>ad) trivial (Below.refl _ _) (Nat.le_refl _) (by simp) ?_;(case hd=>rfl);(case aw=>rfl);(case au=>exact iW);(case hp=>exact(cF.one (show ab.M (ab.int .u8) _ _ _ ((cm)%256) [.int .u8 ((cm)%256)]from rfl) (cF.none _ _)));intro v4 w1 bK U hk hl;clear hk hl;(first|rw[←gG.1]at bK|(refine lS ?_;clear bK;intro bK));have gK:=I (ab.jU bK (mP (w:=w) (g:=g) (row:=none) dB));replace aV:=I (cI.trans dB (cI.kn U g none) (.inl rfl));replace a7:=I (jV dT U);replace bE:=I (cj.below dU U);clear U bK))
             repeat(go_quiet(fail);try go_wp2_with(first|((with_reducible refine la (N:=150) rfl ?_);refine ab.k9 (ab.int .u8) _ 5 ?aw (N:=150) ?hd (xs:=([(cm)%256]:List Int)) (inner:=[.int .u8 ((cm)%256)]) (ok:=fun _=>True) (okp:=fun _=>True) ?au ?hp (fun _ ad=>ad) trivial (Below.refl _ _) (Nat.le_refl _) (by simp) ?_;(case hd=>rfl);(case aw=>rfl);(case au=>exact iW);(case hp=>exact(cF.one (show ab.M (ab.int .u8) _ _ _ ((cm)%256) [.int .u8 ((cm)%256)]from rfl) (cF.none _ _)));intro v4 w1 bK U hk hl;clear hk hl;(first|rw[←gG.1]at bK|(refine lS ?_;clear bK;intro bK));have gK:=I (ab.jU bK (mP (w:=w) (g:=g) (row:=none) dB));replace aV:=I (cI.trans dB (cI.kn U g none) (.inl rfl));replace a7:=I (jV dT U);replace bE:=I (cj.below dU U);clear U bK)))
             exact wh
        ·revert H;refine dF ?_ ?_<;>intro iN je H
         ·refine jB ?_;clear H;rintro⟨⟨t0,t2,t3,t4⟩,ao,H⟩
          try dsimp only at H
          have bd:=I ao;clear ao;refine jC ?_;clear H;rintro⟨rfl,rfl,rfl,rfl⟩
          go_wp2_with(first|(refine SD ?_;intro F5 v2 bK hi U ad;refine Gk ?_;intro gK aV a7 bE))
          repeat(go_quiet(fail);try go_wp2_with(first|(refine SD ?_;intro F5 v2 bK hi U ad;refine Gk ?_;intro gK aV a7 bE)))
          exact wh
         ·revert H;refine dF ?_ ?_<;>intro k5 nM H
          ·refine jB ?_;clear H;rintro⟨⟨t0,t2,t3,t4⟩,ao,H⟩
           try dsimp only at H
           have bd:=I ao;clear ao;refine jC ?_;clear H;rintro⟨rfl,rfl,rfl,rfl⟩
           go_wp2_with(first|(refine SE ?_;intro w1 v2 bK hi U ad;refine Gk ?_;intro gK aV a7 bE))
           repeat(go_quiet(fail);try go_wp2_with(first|(refine SE ?_;intro w1 v2 bK hi U ad;refine Gk ?_;intro gK aV a7 bE)))
           exact wh
          ·revert H;refine dF ?_ ?_<;>intro q9 nH H
           ·exact CG
           ·revert H;refine dF ?_ ?_<;>intro tg ra H
            ·exact CG
            ·exact CG
end ei
