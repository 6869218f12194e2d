/- Part 14 of the proof (T2, Ts0, Tm1, Pd0). Conditions: each theorem's own. -/
import Derived.Test.YtmpeadgiclfapaaGreatDoorZ8
import Derived.Test.YtmpeadgiclfapaaGreatDoorZ12
set_option linter.all false
set_option maxHeartbeats 0
set_option maxRecDepth 100000
namespace Go.Proofs.YtmpeadgiclfapaaGreatDoor
namespace ei
open RowKit YtmpeadgiclfapaaGreatDoorW.PrintWords YtmpeadgiclfapaaGreatDoorW.PrintLast YtmpeadgiclfapaaGreatDoorW.PrintMore
attribute [local go_sem] sB sC sD sF sG sH sI sJ
mutual
def hb.aj:Nat→List Int→List Int→Int→Int→Option (Bool)
 |0,_,_,_,_=>none
 |k+1,al,dX,x7,x8=>if x8<x7 then(if 0≤x8 then(if x8<(dX.length:Int)then(if(rd dX x8)=101 then(if x8=0 then(hb.cD k al x8 dX x7 x8 true)else(if 0≤(wrap64 (x8-1))then(if(wrap64 (x8-1))<(al.length:Int)then(if(rd al (wrap64 (x8-1)))=46 then(hb.cD k al x8 dX x7 x8 false)else(if(rd al (wrap64 (x8-1)))<48 then(hb.cD k al x8 dX x7 x8 true)else(hb.cD k al x8 dX x7 x8 (decide ((rd al (wrap64 (x8-1)))>57)))))else(none))else(none)))else(if(rd dX x8)=69 then(if x8=0 then(hb.cD k al x8 dX x7 x8 true)else(if 0≤(wrap64 (x8-1))then(if(wrap64 (x8-1))<(al.length:Int)then(if(rd al (wrap64 (x8-1)))=46 then(hb.cD k al x8 dX x7 x8 false)else(if(rd al (wrap64 (x8-1)))<48 then(hb.cD k al x8 dX x7 x8 true)else(hb.cD k al x8 dX x7 x8 (decide ((rd al (wrap64 (x8-1)))>57)))))else(none))else(none)))else(hb.cD k al x8 dX x7 x8 true)))else(none))else(none))else(some false)
def hb.cD:Nat→List Int→Int→List Int→Int→Int→Bool→Option (Bool)
 |0,_,_,_,_,_,_=>none
 |k+1,al,bX,dX,x7,x8,x46=>if x46=true then(hb.aj k al dX x7 (wrap64 (x8+1)))else(if(wrap64 (bX+1))<(al.length:Int)then(if 0≤(wrap64 (bX+1))then(if(rd al (wrap64 (bX+1)))=43 then(hb.gL k al (wrap64 (bX+1)) dX x7 x8 true)else(hb.gL k al (wrap64 (bX+1)) dX x7 x8 ((rd al (wrap64 (bX+1)))==45)))else(none))else(hb.gL k al (wrap64 (bX+1)) dX x7 x8 false))
def hb.gL:Nat→List Int→Int→List Int→Int→Int→Bool→Option (Bool)
 |0,_,_,_,_,_,_=>none
 |k+1,al,eB,dX,x7,x8,x66=>if x66=true then(if(wrap64 (eB+1))≥(al.length:Int)then(some true)else(if 0≤(wrap64 (eB+1))then(if(wrap64 (eB+1))<(al.length:Int)then(if(rd al (wrap64 (eB+1)))<48 then(some true)else(if(rd al (wrap64 (eB+1)))>57 then(some true)else(hb.aj k al dX x7 (wrap64 (x8+1)))))else(none))else(none)))else(if eB≥(al.length:Int)then(some true)else(if 0≤eB then(if eB<(al.length:Int)then(if(rd al eB)<48 then(some true)else(if(rd al eB)>57 then(some true)else(hb.aj k al dX x7 (wrap64 (x8+1)))))else(none))else(none)))
end
def hb.f(k:Nat)(aj:List Int):Option (Bool):=hb.aj k aj aj (aj.length:Int) 0
theorem hb.calls(k:Nat)(ao:Option Addr)(c0:Nat)(aj:List Int)(r:Bool)(w:World)(bP:ab.C (ab.int .u8) w ao aj.length aj)(eT:aj.length≤c0)(h:hb.f k aj=some r):
 Calls Tryz.prog 5 #[.slice ao aj.length c0] w fun e w'=>e=.returned (.bool r)∧eO w w':=by
 have cK:=I bP;have dj:=I eT;clear bP eT;have H:=h;unfold hb.f at H;clear h;have aK:=I H;clear H;go_enter Tryz.func5,Tryz.ntmps5;go_wp2
 go_loopg [8] k (fun bp v0 w'=>∃(bm:Int),v0=.int .i64 bm∧aN (hb.aj bp aj aj (aj.length:Int) bm=some r)∧aN (bp≤k)∧eO w w')
 case atStart=>exact⟨(0),bJ,aK,⟨Nat.le_refl _⟩,dH⟩
 case round=>
  clear aK;obtain⟨bm,rfl,bo,dn,⟨m0,rfl⟩⟩:=hrel;cases gk with
  |zero=>exact absurd bo.1 (by simp[hb.aj])
  |succ cY=>
   have H:=bo.1;clear bo;simp only[hb.aj]at H;revert H;refine eo ?_ ?_<;>intro ho H
   ·revert H;refine fg ?_;intro hc;refine fg ?_;intro hy H;have iq:=I H;clear H;obtain⟨dp,aD,eY,p0,a1⟩:=gY cK.1 bm;cases aD
    go_upto_region 4 with(fail)
    go_cut [46] (fun v1 wc=>∃(bp:Nat) (b9:Bool),v1=.bool b9∧aN (hb.cD bp aj bm aj (aj.length:Int) bm b9=some r)∧aN (bp≤cY)∧eO w wc)
    case first=>
     have H:=iq.1;clear iq;revert H;refine dF ?_ ?_<;>intro gq gU H
     ·refine r3 ?_;revert H;refine dF ?_ ?_<;>intro hG iN H
      ·have aK:=I H;clear H;exact FB
      ·refine Ty ?_;clear H;intro cH fN H q6;revert H;refine fg ?_;intro je;refine fg ?_;intro k5;refine dF ?_ ?_<;>intro nM q9 H
       ·exact QL
       ·revert H;refine eo ?_ ?_<;>intro nH H
        ·exact R6
        ·exact QM
     ·refine r3 ?_;revert H;refine dF ?_ ?_<;>intro hG iN H
      ·revert H;refine dF ?_ ?_<;>intro je k5 H
       ·have aK:=I H;clear H;exact FB
       ·refine Ty ?_;clear H;intro cH fN H q6;revert H;refine fg ?_;intro nM;refine fg ?_;intro q9;refine dF ?_ ?_<;>intro nH tg H
        ·exact QL
        ·revert H;refine eo ?_ ?_<;>intro ra H
         ·exact R6
         ·exact QM
      ·have aK:=I H;clear H;exact FB
    case rest=>
     clear iq;obtain⟨bp,b9,rfl,bo,gp,⟨G0,rfl⟩⟩:=hcut;cases bp with
     |zero=>exact absurd bo.1 (by simp[hb.cD])
     |succ ig=>
      have H:=bo.1;clear bo;simp only[hb.cD]at H;by_cases ck:b9=true
      ·subst ck;refine oG ?_;clear H;intro aK;go_wp2;go_roundg ig
       case measure=>have:=dn.1;have:=gp.1;omega
       case rel=>exact⟨(wrap64 (bm+1)),bJ,aK,⟨Jk⟩,dH⟩
      ·replace ck:=Bool.eq_false_iff.mpr ck;subst ck;refine kf ?_;clear H;intro H;have iq:=I H;clear H
       go_upto_region 6 with(fail)
       go_cut [66] (fun v2 wc=>∃(bp:Nat) (cm:Bool),v2=.bool cm∧aN (hb.gL bp aj (wrap64 (bm+1)) aj (aj.length:Int) bm cm=some r)∧aN (bp≤ig)∧eO w wc)
       case first=>
        have H:=iq.1;clear iq;revert H;refine eo ?_ ?_<;>intro gq H
        ·refine r3 ?_;obtain⟨cH,fN⟩:∃ki:Int,(wrap64 (bm+1))=ki:=⟨_,rfl⟩;replace H:(if 0≤(cH)then(if(rd aj (cH))=43 then(hb.gL ig aj cH aj (aj.length:Int) bm true)else(hb.gL ig aj cH aj (aj.length:Int) bm ((rd aj (cH))==45)))else(none))=some r:=by first|(rw[fN]at H;exact H)|(simp only[fN]at H⊢;exact H)
         (try rw[fN]at gq)
         have q6:(IntKind.i64.wrap (bm+1))=cH:=(jj _).trans fN;revert H;refine fg ?_;intro gU;refine dF ?_ ?_<;>intro hG iN H
         ·have aK:=I H;clear H;refine r0 ?_;intro gy bx fT ba bQ;obtain rfl:dp=gy:=l6;go_wp2;subst fN;go_meet
          case rel=>exact⟨_,(true),bJ,aK,⟨Je⟩,dH⟩
         ·have aK:=I H;clear H;refine r0 ?_;intro gy bx fT ba bQ;obtain rfl:dp=gy:=l6;refine r0 ?_;intro gy bx fT ba bQ;obtain rfl:dp=gy:=l6;go_wp2;subst fN;go_meet
          case rel=>exact⟨_,(((rd aj (wrap64 (bm+1)))==45)),bJ,aK,⟨Je⟩,dH⟩
        ·refine r3 ?_;have aK:=I H;clear H;go_wp2;go_meet
         case rel=>exact⟨_,(false),bJ,aK,⟨Je⟩,dH⟩
       case rest=>
        clear iq;obtain⟨bp,cm,rfl,bo,jY,⟨Lt,rfl⟩⟩:=hcut;cases bp with
        |zero=>exact absurd bo.1 (by simp[hb.gL])
        |succ qi=>
         have H:=bo.1;clear bo;simp only[hb.gL]at H;by_cases c12:cm=true
         ·subst c12;refine mz ?_;clear H;refine lf ?_ ?_<;>intro gq H
          ·exact nc
          ·obtain⟨cH,fN⟩:∃ki:Int,(wrap64 ((wrap64 (bm+1))+1))=ki:=⟨_,rfl⟩;replace H:(if 0≤(cH)then(if(cH)<(aj.length:Int)then(if(rd aj (cH))<48 then(some true)else(if(rd aj (cH))>57 then(some true)else(hb.aj qi aj aj (aj.length:Int) (wrap64 (bm+1)))))else(none))else(none))=some r:=by first|(rw[fN]at H;exact H)|(simp only[fN]at H⊢;exact H)
           (try rw[fN]at gq)
           have q6:(IntKind.i64.wrap ((wrap64 (bm+1))+1))=cH:=(jj _).trans fN;revert H;refine fg ?_;intro gU;refine fg ?_;intro hG;refine eo ?_ ?_<;>intro iN H
           ·exact JZ
           ·revert H;refine p1 ?_ ?_<;>intro je H
            ·exact FQ
            ·have aK:=I H;clear H;refine r0 ?_;intro gy bx fT ba bQ;obtain rfl:dp=gy:=l6;obtain⟨kO,db,og,dy,fs⟩:=gY cK.1 (cH);obtain rfl:dp=kO:=qQ;go_wp2;go_roundg qi
             case measure=>have:=dn.1;have:=gp.1;have:=jY.1;omega
             case rel=>exact⟨(wrap64 (bm+1)),bJ,aK,⟨(by have:=dn.1;have:=gp.1;have:=jY.1;omega)⟩,dH⟩
         ·replace c12:=Bool.eq_false_iff.mpr c12;subst c12;refine kf ?_;clear H;refine lf ?_ ?_<;>intro gq H
          ·exact nc
          ·obtain⟨cH,fN⟩:∃ki:Int,(wrap64 (bm+1))=ki:=⟨_,rfl⟩;replace H:(if 0≤(cH)then(if(cH)<(aj.length:Int)then(if(rd aj (cH))<48 then(some true)else(if(rd aj (cH))>57 then(some true)else(hb.aj qi aj aj (aj.length:Int) cH)))else(none))else(none))=some r:=by first|(rw[fN]at H;exact H)|(simp only[fN]at H⊢;exact H)
           (try rw[fN]at gq)
           have q6:(IntKind.i64.wrap (bm+1))=cH:=(jj _).trans fN;revert H;refine fg ?_;intro gU;refine fg ?_;intro hG;refine eo ?_ ?_<;>intro iN H
           ·exact JZ
           ·revert H;refine p1 ?_ ?_<;>intro je H
            ·exact FQ
            ·have aK:=I H;clear H;refine r0 ?_;intro gy bx fT ba bQ;obtain rfl:dp=gy:=l6;obtain⟨kO,db,og,dy,fs⟩:=gY cK.1 (cH);obtain rfl:dp=kO:=qQ;go_wp2;go_roundg qi
             case measure=>have:=dn.1;have:=gp.1;have:=jY.1;omega
             case rel=>exact⟨(cH),rR,aK,⟨(by have:=dn.1;have:=gp.1;have:=jY.1;omega)⟩,dH⟩
   ·exact nc
end ei
namespace eC
open RowKit YtmpeadgiclfapaaGreatDoorW.PrintWords YtmpeadgiclfapaaGreatDoorW.PrintLast YtmpeadgiclfapaaGreatDoorW.PrintMore ei cP gJ
def qt(c:Int):Bool:=c==97||c==98||c==102||c==110||c==114||c==116||c==118||c==63||c==92||c==39||c==34
def en(c:Int):Bool:=decide (48≤c)&&decide (c≤55)
def ji:Nat→Int→List Int→Int×List Int
 |0,n,s=>(n,s)
 |_+1,n,[]=>(n,[])
 |i+1,n,d::r=>if en d=true then ji i (8*n+(d-48)) r else(n,d::r)
def kk:Nat→Int→List Int→Option (Bool×List Int)
 |0,n,s=>some (decide (1114111<n∨(55296≤n∧n<57344)),s)
 |_+1,_,[]=>none
 |d+1,n,h::r=>if dr h=true then kk d (16*n+ih h) r else none
def uB:List Int→Option (Bool×List Int)
 |[]=>some (true,[])
 |h::r=>if dr h=true then(match r with
  |[]=>some (false,[])
  |h2::fe=>if dr h2=true then some (false,fe)else some (false,h2::fe))else some (true,h::r)
def hP:List Int→Option (Bool×List Int)
 |[]=>none
 |c::r=>if qt c=true then some (false,r)
  else if en c=true then some (decide (255<(ji 2 (c-48) r).1),(ji 2 (c-48) r).2)
  else if c=120 then uB r
  else if c=117 then kk 4 0 r
  else if c=85 then kk 8 0 r
  else if c=88∨c=10 then some (true,r)
  else none
theorem acR:∀(i:Nat) (n:Int) (s:List Int),(ji i n s).2.length≤s.length:=by
 intro i
 induction i with
 |zero=>intro n s;exact Nat.le_refl _
 |succ i bb=>
  intro n s;cases s with
  |nil=>exact Nat.le_refl _
  |cons d r=>
   simp only[ji];split
   ·have:=bb (8*n+(d-48)) r;simp only[List.length_cons];omega
   ·exact Nat.le_refl _
theorem UB:∀(d:Nat) (n:Int) (s:List Int) (o:Bool) (r:List Int),kk d n s=some (o,r)→r.length≤s.length:=by
 intro d
 induction d with
 |zero=>intro n s o r h;simp only[kk,Option.some.injEq,Prod.mk.injEq]at h;rw[h.2];exact Nat.le_refl _
 |succ d bb=>
  intro n s o r h;cases s with
  |nil=>simp[kk]at h
  |cons c t=>
   simp only[kk]at h;split at h
   ·have:=bb _ _ _ _ h;simp only[List.length_cons];omega
   ·cases h
theorem acS(s:List Int)(o:Bool)(r:List Int)(h:uB s=some (o,r)):r.length≤s.length:=by
 cases s with
 |nil=>simp only[uB,Option.some.injEq,Prod.mk.injEq]at h;rw[←h.2];exact Nat.le_refl _
 |cons c t=>
  simp only[uB]at h;split at h
  ·cases t with
   |nil=>simp only[Option.some.injEq,Prod.mk.injEq]at h;rw[←h.2];simp
   |cons c2 t2=>
    simp only at h;split at h<;>(refine r2 ?_;clear h;intro h;rw[←h.2];simp only[List.length_cons];omega)
  ·exact Kl
theorem He(s:List Int)(o:Bool)(r:List Int)(h:hP s=some (o,r)):r.length<s.length:=by
 cases s with
 |nil=>cases h
 |cons c t=>
  have key:r.length≤t.length:=by
   simp only[hP]at h;split at h
   ·exact Kl
   ·split at h
    ·refine r2 ?_;clear h;intro h;rw[←h.2];exact acR _ _ _
    ·split at h
     ·exact acS _ _ _ h
     ·split at h
      ·exact UB _ _ _ _ _ h
      ·split at h
       ·exact UB _ _ _ _ _ h
       ·split at h
        ·exact Kl
        ·cases h
  simp only[List.length_cons];omega
theorem AX(B:List Int)(q:Nat)(ar:q≤B.length):(q=B.length∧B.drop q=[]∧¬((q:Int)<(B.length:Int)))∨(q<B.length∧B.drop q=rd B (q:Int)::B.drop (q+1)∧(q:Int)<(B.length:Int)∧(0:Int)≤(q:Int)):=by
 by_cases e:q=B.length
 ·exact .inl ⟨e,List.drop_eq_nil_of_le (by omega),(by omega)⟩
 ·exact .inr ⟨(by omega),gz B q (by omega),(by omega),(by omega)⟩
theorem Dn(k:Nat)(ad:2≤k)(c:Int):fQ.f k c=some (ih c):=by
 obtain⟨m,rfl⟩:∃m,k=m+2:=⟨k-2,(by omega)⟩;exact Hb m c
theorem acT(n:Int):∃l:List Int,l.length≤4∧wK.f n=some l:=by
 unfold wK.f;split
 ·exact⟨_,(by simp),rfl⟩
 ·split
  ·exact⟨_,(by simp),rfl⟩
  ·split<;>exact⟨_,(by simp),rfl⟩
theorem UC(c:Int):ih c≤15:=by
 unfold ih;split
 ·omega
 ·split
  ·omega
  ·split<;>omega
theorem acU:ih 0<0:=by decide
section
variable {B:List Int} (dw:B.length≤100000)
include dw
theorem AY(q:Nat)(h:q≤B.length):wrap64 ((q:Int)+1)=((q+1:Nat):Int):=by unfold wrap64;omega
theorem Dp(q:Nat)(ar:q≤B.length)(told:Int)(hd:fC):qa.f B (q:Int) told hd 0=some (a6 (B.drop q) 0,(q:Int),told):=by
 unfold qa.f;have hw:wrap64 ((q:Int)+0)=(q:Int):=by unfold wrap64;omega
 rw[hw];rcases AX B q ar with⟨e,h1,h2⟩|⟨e,h1,h2,h3⟩
 ·rw[if_neg h2,h1];rfl
 ·rw[if_pos h2,if_pos h3,h1];rfl
theorem UD(hd:fC)(told:Int)(D:Nat)(pg:D≤8):∀(d q:Nat) (n:Int),q≤B.length→d≤D→0≤n→n<16^(D-d)→∀k,d+4≤k→
 (kk d n (B.drop q)=none∧∃(v:List Int) (iP:Nat),iP≤B.length∧nf.aj k n (D:Int) ((D-d:Nat):Int) B (q:Int) told hd=some (v,0,(iP:Int),told))∨
 (∃o r,kk d n (B.drop q)=some (o,r)∧∃v:List Int,v.length≤4∧nf.aj k n (D:Int) ((D-d:Nat):Int) B (q:Int) told hd=some (v,if o=true then 2 else 1,((B.length-r.length:Nat):Int),told)):=by
 intro d
 induction d with
 |zero=>
  intro q n ar acV h0 aq k ad;obtain⟨m,rfl⟩:∃m,k=m+1:=⟨k-1,(by omega)⟩;right;refine⟨_,_,rfl,?_⟩;have au:B.length-(B.drop q).length=q:=by rw[List.length_drop];omega
  obtain⟨u,aaj,hu⟩:=acT n;rw[au,nf.aj,if_neg (by omega)];by_cases h1:n>1114111
  ·rw[if_pos h1];exact⟨[],(by decide),(by rw[if_pos (decide_eq_true (show 1114111<n∨(55296≤n∧n<57344)from .inl h1))])⟩
  ·rw[if_neg h1];by_cases h2:n≥55296
   ·rw[if_pos h2];by_cases h3:n<57344
    ·rw[if_pos h3];exact⟨[],(by decide),(by rw[if_pos (decide_eq_true (show 1114111<n∨(55296≤n∧n<57344)from .inr ⟨h2,h3⟩))])⟩
    ·rw[if_neg h3,hu];exact P3
   ·rw[if_neg h2,hu];exact P3
 |succ d bb=>
  intro q n ar acV h0 aq k ad;obtain⟨m,rfl⟩:∃m,k=m+1:=⟨k-1,(by omega)⟩
  have aka:(16:Int)^(D-(d+1))≤16^7:=by
   have:(16:Nat)^(D-(d+1))≤16^7:=Nat.pow_le_pow_right (by decide) (by omega)
   exact_mod_cast this
  have oE:(16:Int)^(D-d)=16*16^(D-(d+1)):=by
   rw[show D-d=(D-(d+1))+1 by omega,Int.pow_succ,Int.mul_comm]
  have h0:(16:Int)^7=268435456:=by decide
  rw[nf.aj,if_pos (by omega),Dp dw q ar,Option.bind_some];simp only;rw[Dn m (by omega),Option.bind_some];rcases AX B q ar with⟨e,h1,h2⟩|⟨e,h1,h2,h3⟩
  ·left;rw[h1];refine⟨rfl,[],q,ar,?_⟩;rw[if_pos (show ih (a6 [] 0)<0 from acU)]
  ·rw[h1,show a6 (rd B (q:Int)::B.drop (q+1)) 0=rd B (q:Int)from rfl];have aZ:=UC (rd B (q:Int));by_cases ae:dr (rd B (q:Int))=true
   ·have hp:=AN ae;rw[if_neg (by omega),if_neg (by omega),AY dw q ar];have aD:wrap64 (wrap64 (16*n)+ih (rd B (q:Int)))=16*n+ih (rd B (q:Int)):=by unfold wrap64;omega
    have bx:wrap64 (((D-(d+1):Nat):Int)+1)=((D-d:Nat):Int):=by unfold wrap64;omega
    rw[aD,bx];have:=bb (q+1) (16*n+ih (rd B (q:Int))) (by omega) (by omega) (by omega) (by rw[oE];omega) m (by omega);simp only[kk,ae,if_true];exact this
   ·left;refine⟨(by simp only[kk];rw[if_neg ae]),[],q,ar,?_⟩;rw[if_pos (AO (by simpa using ae))]
theorem acW(hd:fC)(told:Int):∀(i q:Nat) (n:Int),q≤B.length→i≤2→0≤n→n<1000→(i=2→n<8)→(i=1→n<64)→∀k,i+2≤k→
 ∃v:List Int,v.length≤4∧gu.cC k n ((2-i:Nat):Int) B (q:Int) told hd=some (v,if 255<(ji i n (B.drop q)).1 then 2 else 1,((B.length-(ji i n (B.drop q)).2.length:Nat):Int),told):=by
 have done:∀(n:Int) (q:Nat),q≤B.length→∃v:List Int,v.length≤4∧(if n>255 then(some (([]:List Int),(2:Int),(q:Int),told))else(some ((([(n)%256]:List Int)),1,(q:Int),told)))=some (v,if 255<n then 2 else 1,((B.length-(B.drop q).length:Nat):Int),told):=by
  intro n q ar;have au:B.length-(B.drop q).length=q:=by rw[List.length_drop];omega
  rw[au];by_cases h:n>255
  ·exact⟨[],(by decide),(by rw[if_pos h,if_pos h])⟩
  ·exact⟨[n%256],(by simp),(by rw[if_neg h,if_neg h])⟩
 intro i
 induction i with
 |zero=>
  intro q n ar hi h0 aq _ _ k ad;obtain⟨m,rfl⟩:∃m,k=m+1:=⟨k-1,(by omega)⟩;rw[gu.cC,if_neg (by omega)];exact done n q ar
 |succ i bb=>
  intro q n ar hi h0 aq eh U k ad;obtain⟨m,rfl⟩:∃m,k=m+1:=⟨k-1,(by omega)⟩;rw[gu.cC,if_pos (by omega),Dp dw q ar,Option.bind_some];simp only;rw[Dp dw q ar,Option.bind_some];simp only;rcases AX B q ar with⟨e,h1,h2⟩|⟨e,h1,h2,h3⟩
  ·have:¬a6 (B.drop q) 0≥48:=by rw[h1];decide
   rw[if_neg this];have aD:ji (i+1) n (B.drop q)=(n,B.drop q):=by rw[h1];rfl
   rw[aD];exact done n q ar
  ·have bx:a6 (B.drop q) 0=rd B (q:Int):=by rw[h1];rfl
   rw[bx];by_cases aY:en (rd B (q:Int))=true
   ·have bK:48≤rd B (q:Int)∧rd B (q:Int)≤55:=by simpa [en]using aY
    have aD:ji (i+1) n (B.drop q)=ji i (8*n+(rd B (q:Int)-48)) (B.drop (q+1)):=by rw[h1];simp only[ji];rw[if_pos aY]
    have db:wrap64 (wrap64 (8*n)+(rd B (q:Int)-48)%256)=8*n+(rd B (q:Int)-48):=by unfold wrap64;omega
    have fO:wrap64 (((2-(i+1):Nat):Int)+1)=((2-i:Nat):Int):=by unfold wrap64;omega
    rw[if_pos (show rd B (q:Int)≥48 from bK.1),if_pos bK.2,if_pos h3,if_pos h2,AY dw q ar,db,aD,fO];exact bb (q+1) _ (by omega) (by omega) (by omega) (by omega) (by omega) (by omega) m (by omega)
   ·have aD:ji (i+1) n (B.drop q)=(n,B.drop q):=by rw[h1];simp only[ji];rw[if_neg aY]
    rw[aD];have bK:¬(48≤rd B (q:Int)∧rd B (q:Int)≤55):=by simpa [en]using aY
    by_cases h0:rd B (q:Int)≥48
    ·rw[if_pos h0,if_neg (by omega)];exact done n q ar
    ·rw[if_neg h0];exact done n q ar
omit dw in
theorem acX(hd:fC)(told:Int)(c:Int)(q:Nat)(k:Nat):
 (qt c=true∧∃v:List Int,v.length≤4∧gu.aj (k+12) c (⟨#[97,98,102,110,114,116,118,63,92,39,34]⟩:ByteArray) (⟨#[7,8,12,10,13,9,11,63,92,39,34]⟩:ByteArray) 0 B (q:Int) told hd=some (v,1,(q:Int),told))∨
 (qt c=false∧gu.aj (k+12) c (⟨#[97,98,102,110,114,116,118,63,92,39,34]⟩:ByteArray) (⟨#[7,8,12,10,13,9,11,63,92,39,34]⟩:ByteArray) 0 B (q:Int) told hd=gu.cD k c (en c) B (q:Int) told hd):=by
 rw[show k+12=k+1+1+1+1+1+1+1+1+1+1+1+1 from rfl];rw[gu.aj,if_pos (show(0:Int)<((⟨#[97,98,102,110,114,116,118,63,92,39,34]⟩:ByteArray).size:Int)by decide),if_pos (show(0:Int)≤0 by decide),show bB (⟨#[97,98,102,110,114,116,118,63,92,39,34]⟩:ByteArray) 0=97 by decide,if_pos (show(0:Int)<((⟨#[7,8,12,10,13,9,11,63,92,39,34]⟩:ByteArray).size:Int)by decide),show wrap64 ((0:Int)+1)=1 by unfold wrap64;omega];by_cases aD:97=c
 ·left;rw[if_pos aD];exact⟨(by rw[←aD];decide),_,(by simp),rfl⟩
 rw[if_neg aD];rw[gu.aj,if_pos (show(1:Int)<((⟨#[97,98,102,110,114,116,118,63,92,39,34]⟩:ByteArray).size:Int)by decide),if_pos (show(0:Int)≤1 by decide),show bB (⟨#[97,98,102,110,114,116,118,63,92,39,34]⟩:ByteArray) 1=98 by decide,if_pos (show(1:Int)<((⟨#[7,8,12,10,13,9,11,63,92,39,34]⟩:ByteArray).size:Int)by decide),show wrap64 ((1:Int)+1)=2 by unfold wrap64;omega];by_cases bx:98=c
 ·left;rw[if_pos bx];exact⟨(by rw[←bx];decide),_,(by simp),rfl⟩
 rw[if_neg bx];rw[gu.aj,if_pos (show(2:Int)<((⟨#[97,98,102,110,114,116,118,63,92,39,34]⟩:ByteArray).size:Int)by decide),if_pos (show(0:Int)≤2 by decide),show bB (⟨#[97,98,102,110,114,116,118,63,92,39,34]⟩:ByteArray) 2=102 by decide,if_pos (show(2:Int)<((⟨#[7,8,12,10,13,9,11,63,92,39,34]⟩:ByteArray).size:Int)by decide),show wrap64 ((2:Int)+1)=3 by unfold wrap64;omega];by_cases db:102=c
 ·left;rw[if_pos db];exact⟨(by rw[←db];decide),_,(by simp),rfl⟩
 rw[if_neg db];rw[gu.aj,if_pos (show(3:Int)<((⟨#[97,98,102,110,114,116,118,63,92,39,34]⟩:ByteArray).size:Int)by decide),if_pos (show(0:Int)≤3 by decide),show bB (⟨#[97,98,102,110,114,116,118,63,92,39,34]⟩:ByteArray) 3=110 by decide,if_pos (show(3:Int)<((⟨#[7,8,12,10,13,9,11,63,92,39,34]⟩:ByteArray).size:Int)by decide),show wrap64 ((3:Int)+1)=4 by unfold wrap64;omega];by_cases fO:110=c
 ·left;rw[if_pos fO];exact⟨(by rw[←fO];decide),_,(by simp),rfl⟩
 rw[if_neg fO];rw[gu.aj,if_pos (show(4:Int)<((⟨#[97,98,102,110,114,116,118,63,92,39,34]⟩:ByteArray).size:Int)by decide),if_pos (show(0:Int)≤4 by decide),show bB (⟨#[97,98,102,110,114,116,118,63,92,39,34]⟩:ByteArray) 4=114 by decide,if_pos (show(4:Int)<((⟨#[7,8,12,10,13,9,11,63,92,39,34]⟩:ByteArray).size:Int)by decide),show wrap64 ((4:Int)+1)=5 by unfold wrap64;omega];by_cases gW:114=c
 ·left;rw[if_pos gW];exact⟨(by rw[←gW];decide),_,(by simp),rfl⟩
 rw[if_neg gW];rw[gu.aj,if_pos (show(5:Int)<((⟨#[97,98,102,110,114,116,118,63,92,39,34]⟩:ByteArray).size:Int)by decide),if_pos (show(0:Int)≤5 by decide),show bB (⟨#[97,98,102,110,114,116,118,63,92,39,34]⟩:ByteArray) 5=116 by decide,if_pos (show(5:Int)<((⟨#[7,8,12,10,13,9,11,63,92,39,34]⟩:ByteArray).size:Int)by decide),show wrap64 ((5:Int)+1)=6 by unfold wrap64;omega];by_cases aE:116=c
 ·left;rw[if_pos aE];exact⟨(by rw[←aE];decide),_,(by simp),rfl⟩
 rw[if_neg aE];rw[gu.aj,if_pos (show(6:Int)<((⟨#[97,98,102,110,114,116,118,63,92,39,34]⟩:ByteArray).size:Int)by decide),if_pos (show(0:Int)≤6 by decide),show bB (⟨#[97,98,102,110,114,116,118,63,92,39,34]⟩:ByteArray) 6=118 by decide,if_pos (show(6:Int)<((⟨#[7,8,12,10,13,9,11,63,92,39,34]⟩:ByteArray).size:Int)by decide),show wrap64 ((6:Int)+1)=7 by unfold wrap64;omega];by_cases k3:118=c
 ·left;rw[if_pos k3];exact⟨(by rw[←k3];decide),_,(by simp),rfl⟩
 rw[if_neg k3];rw[gu.aj,if_pos (show(7:Int)<((⟨#[97,98,102,110,114,116,118,63,92,39,34]⟩:ByteArray).size:Int)by decide),if_pos (show(0:Int)≤7 by decide),show bB (⟨#[97,98,102,110,114,116,118,63,92,39,34]⟩:ByteArray) 7=63 by decide,if_pos (show(7:Int)<((⟨#[7,8,12,10,13,9,11,63,92,39,34]⟩:ByteArray).size:Int)by decide),show wrap64 ((7:Int)+1)=8 by unfold wrap64;omega];by_cases sZ:63=c
 ·left;rw[if_pos sZ];exact⟨(by rw[←sZ];decide),_,(by simp),rfl⟩
 rw[if_neg sZ];rw[gu.aj,if_pos (show(8:Int)<((⟨#[97,98,102,110,114,116,118,63,92,39,34]⟩:ByteArray).size:Int)by decide),if_pos (show(0:Int)≤8 by decide),show bB (⟨#[97,98,102,110,114,116,118,63,92,39,34]⟩:ByteArray) 8=92 by decide,if_pos (show(8:Int)<((⟨#[7,8,12,10,13,9,11,63,92,39,34]⟩:ByteArray).size:Int)by decide),show wrap64 ((8:Int)+1)=9 by unfold wrap64;omega];by_cases wY:92=c
 ·left;rw[if_pos wY];exact⟨(by rw[←wY];decide),_,(by simp),rfl⟩
 rw[if_neg wY];rw[gu.aj,if_pos (show(9:Int)<((⟨#[97,98,102,110,114,116,118,63,92,39,34]⟩:ByteArray).size:Int)by decide),if_pos (show(0:Int)≤9 by decide),show bB (⟨#[97,98,102,110,114,116,118,63,92,39,34]⟩:ByteArray) 9=39 by decide,if_pos (show(9:Int)<((⟨#[7,8,12,10,13,9,11,63,92,39,34]⟩:ByteArray).size:Int)by decide),show wrap64 ((9:Int)+1)=10 by unfold wrap64;omega];by_cases vu:39=c
 ·left;rw[if_pos vu];exact⟨(by rw[←vu];decide),_,(by simp),rfl⟩
 rw[if_neg vu];rw[gu.aj,if_pos (show(10:Int)<((⟨#[97,98,102,110,114,116,118,63,92,39,34]⟩:ByteArray).size:Int)by decide),if_pos (show(0:Int)≤10 by decide),show bB (⟨#[97,98,102,110,114,116,118,63,92,39,34]⟩:ByteArray) 10=34 by decide,if_pos (show(10:Int)<((⟨#[7,8,12,10,13,9,11,63,92,39,34]⟩:ByteArray).size:Int)by decide),show wrap64 ((10:Int)+1)=11 by unfold wrap64;omega];by_cases e10:34=c
 ·left;rw[if_pos e10];exact⟨(by rw[←e10];decide),_,(by simp),rfl⟩
 rw[if_neg e10];right;refine⟨(by simp only[qt,Bool.or_eq_false_iff,beq_eq_false_iff_ne];omega),?_⟩;rw[gu.aj,if_neg (show¬(11:Int)<((⟨#[97,98,102,110,114,116,118,63,92,39,34]⟩:ByteArray).size:Int)by decide)];unfold en;by_cases h:c≥48
 ·rw[if_pos h,show decide (48≤c)=true from decide_eq_true h,Bool.true_and]
 ·rw[if_neg h,show decide (48≤c)=false from decide_eq_false h,Bool.false_and]
theorem UE(hd:fC)(told:Int)(p:Nat)(hp:p<B.length):∃k,
 (hP (B.drop (p+1))=none∧∃(v:List Int) (iP:Nat),iP≤B.length∧gu.f k B (p:Int) told hd=some (v,0,(iP:Int),told))∨
 (∃o r,hP (B.drop (p+1))=some (o,r)∧∃v:List Int,v.length≤4∧gu.f k B (p:Int) told hd=some (v,if o=true then 2 else 1,((B.length-r.length:Nat):Int),told)):=by
 unfold gu.f;rw[AY dw p (by omega)];rcases AX B (p+1) (by omega)with⟨e,h1,h0⟩|⟨e,h1,h0,h3⟩
 ·refine⟨0,.inl ⟨(by rw[h1];rfl),[],p+1,(by omega),?_⟩⟩;rw[if_pos (by omega)]
 ·refine⟨40+12,?_⟩;rw[h1,if_neg (by omega),if_pos h3,if_pos h0,AY dw (p+1) (by omega)];generalize ai:rd B ((p+1:Nat):Int)=c;have au:B.length-(B.drop (p+1+1)).length=p+1+1:=by rw[List.length_drop];omega
  rcases acX (B:=B) hd told c (p+1+1) 40 with⟨g1,v,yQ,g2⟩|⟨g1,g2⟩
  ·refine .inr ⟨false,B.drop (p+1+1),(by simp only[hP];rw[if_pos g1]),v,yQ,?_⟩;rw[g2,au];rfl
  ·have acY:¬qt c=true:=by rw[g1];decide
   rw[g2,show(40:Nat)=39+1 from rfl,gu.cD];simp only[hP];rw[if_neg acY];by_cases aY:en c=true
   ·have bK:48≤c∧c≤55:=by simpa [en]using aY
    rw[if_pos aY,if_pos aY,show(c-48)%256=c-48 by omega];obtain⟨v,yQ,aZ⟩:=acW dw hd told 2 (p+1+1) (c-48) (by omega) (by omega) (by omega) (by omega) (by omega) (by omega) 39 (by omega);refine .inr ⟨_,_,rfl,v,yQ,?_⟩;rw[show((2-2:Nat):Int)=0 from rfl]at aZ;rw[aZ];simp only[decide_eq_true_eq]
   ·rw[if_neg aY,if_neg aY];by_cases aD:c=120
    ·rw[if_pos aD,if_pos aD];refine .inr ?_;rw[show(39:Nat)=36+1+1+1 from rfl,gu.gA,if_pos (by decide),Dp dw (p+1+1) (by omega),Option.bind_some];simp only;rw[Dn _ (by omega),Option.bind_some];rcases AX B (p+1+1) (by omega)with⟨db,cY,fG⟩|⟨db,cY,fG,hx⟩
     ·rw[cY,if_neg (show¬ih (a6 [] 0)≥0 by decide),if_pos trivial];exact⟨true,[],rfl,[],(by decide),(by rw[if_pos rfl,db];rfl)⟩
     ·rw[cY,show a6 (rd B ((p+1+1:Nat):Int)::B.drop (p+1+1+1)) 0=rd B ((p+1+1:Nat):Int)from rfl];generalize rd B ((p+1+1:Nat):Int)=h at cY⊢;simp only[uB];by_cases ed:dr h=true
      ·have aZ:=AN ed;have an:=UC h;have bP:B.length-(B.drop (p+1+1+1)).length=p+1+1+1:=by rw[List.length_drop];omega
       rw[if_pos (show ih h≥0 from aZ),if_pos hx,if_pos fG,Dn _ (by omega),Option.bind_some,if_pos ed,AY dw (p+1+1) (by omega),show wrap64 (0+1)=1 by unfold wrap64;omega];rw[gu.gA,if_pos (by decide),Dp dw (p+1+1+1) (by omega),Option.bind_some];simp only;rw[Dn _ (by omega),Option.bind_some];rcases AX B (p+1+1+1) (by omega)with⟨fO,m1,m2⟩|⟨fO,m1,m2,m3⟩
       ·rw[m1,if_neg (show¬ih (a6 [] 0)≥0 by decide),if_neg (by decide)];exact⟨false,[],rfl,[_],(by simp),(by rw[if_neg (by decide),fO];rfl)⟩
       ·rw[m1,show a6 (rd B ((p+1+1+1:Nat):Int)::B.drop (p+1+1+1+1)) 0=rd B ((p+1+1+1:Nat):Int)from rfl];generalize hgx:rd B ((p+1+1+1:Nat):Int)=h0;by_cases hh0:dr h0=true
        ·have bO:=AN hh0;have ff:B.length-(B.drop (p+1+1+1+1)).length=p+1+1+1+1:=by rw[List.length_drop];omega
         rw[if_pos (show ih h0≥0 from bO),if_pos m3,if_pos m2,Dn _ (by omega),Option.bind_some,AY dw (p+1+1+1) (by omega),show wrap64 (1+1)=2 by unfold wrap64;omega];rw[gu.gA,if_neg (by decide),if_neg (by decide)];simp only[hh0,if_true];exact⟨false,_,rfl,[_],(by simp),(by rw[if_neg (by decide),ff])⟩
        ·rw[if_neg (show¬ih h0≥0 by have:=AO (show dr h0=false by simpa using hh0);omega),if_neg (by decide)];simp only[hh0];refine⟨false,_,rfl,?_⟩;rw[←hgx,←m1,bP];exact⟨_,(by simp),rfl⟩
      ·rw[if_neg (show¬ih h≥0 by have:=AO (show dr h=false by simpa using ed);omega),if_pos trivial,if_neg ed];exact⟨true,_,rfl,[],(by decide),(by rw[if_pos rfl,←cY,au])⟩
    ·rw[if_neg aD,if_neg aD];by_cases bx:c=117
     ·rw[if_pos bx,if_pos bx];unfold nf.f;rcases UD dw hd told 4 (by omega) 4 (p+1+1) 0 (by omega) (by omega) (by omega) (by decide) 39 (by omega)with⟨t1,v,iP,t2,t3⟩|⟨o,r,t1,v,yQ,t3⟩
      ·refine .inl ⟨t1,v,iP,t2,?_⟩;exact RS
      ·refine .inr ⟨o,r,t1,v,yQ,?_⟩;exact RS
     ·rw[if_neg bx,if_neg bx];by_cases gW:c=85
      ·rw[if_pos gW,if_pos gW];unfold nf.f;rcases UD dw hd told 8 (by omega) 8 (p+1+1) 0 (by omega) (by omega) (by omega) (by decide) 39 (by omega)with⟨t1,v,iP,t2,t3⟩|⟨o,r,t1,v,yQ,t3⟩
       ·refine .inl ⟨t1,v,iP,t2,?_⟩;exact RT
       ·refine .inr ⟨o,r,t1,v,yQ,?_⟩;exact RT
      ·rw[if_neg gW,if_neg gW];by_cases aE:c=88
       ·rw[if_pos aE,if_pos (.inl aE)];exact .inr ⟨true,_,rfl,[],(by decide),(by rw[au];rfl)⟩
       ·rw[if_neg aE];by_cases k3:c=10
        ·rw[if_pos k3,if_pos (.inr k3)];exact .inr ⟨true,_,rfl,[],(by decide),(by rw[au];rfl)⟩
        ·rw[if_neg k3,if_neg (by omega)];exact .inl ⟨rfl,[],p+1+1,(by omega),rfl⟩
end
end eC
namespace eI
open cP ei
def yR(r:nN):Prop:=∀c,r≠ .sep c
theorem vy{L:Lex}{B:List Int}{c:fl}{r:nN}(h:next L B c=r)(aq:yR r):read L B c=r:=by
 unfold read;rw[h];cases r with
 |sep cw=>exact absurd rfl (aq cw)
 |eof=>rfl
 |err=>rfl
 |op=>rfl
 |tok t cw=>rfl
theorem LX(B:List Int)(kind:Int)(st s:List Int):yR (one B kind st s):=fun c h=>by cases h
section
variable (L:Lex) (B:List Int) (st s:List Int)
include L B st s
theorem UF:yR (kD L B st s):=by
 intro c h;unfold kD at h;cases aq:L.br s with
 |no=>rw[aq]at h;cases h
 |op=>rw[aq]at h;cases h
 |yes a=>
  obtain⟨k,n,str⟩:=a;rw[aq]at h;simp only at h;split at h<;>cases h
theorem acZ:yR (pb L B st s):=by
 intro c h;unfold pb at h;cases aq:L.vr s with
 |no=>rw[aq]at h;cases h
 |op=>rw[aq]at h;cases h
 |yes a=>rw[aq]at h;cases h
theorem yS:yR (iF L B st s):=by
 intro c h;cases st with
 |nil=>
  cases s with
  |nil=>cases h
  |cons a r=>exact UF L B [] (a::r) c h
 |cons o fa=>
  cases s with
  |nil=>cases h
  |cons a r=>
   simp only[iF]at h;split at h
   ·exact LX _ _ _ _ c h
   ·split at h
    ·cases h
    ·exact UF L B _ _ c h
theorem Dq:yR (jG L B st s):=by
 intro c h;cases s with
 |nil=>cases h
 |cons a r=>
  simp only[jG]at h;split at h
  ·exact LX _ _ _ _ c h
  ·exact acZ L B _ _ c h
end
section
variable {L:Lex} {B:List Int} {c:fl}
theorem LY{s:List Int}(h:c.mode=0∨c.mode=4)(ak:c.s=eM s):nn L B c c.st s:=by
 refine vy ?_ (yS _ _ _ _);unfold next;rw[if_pos h,ak]
theorem ac0{st s:List Int}(h:mD c st s)(an:hN st=false)(h1:a8 (eM s) 44=false)(h2:a8 (eM s) 59=false):nn L B c st s:=by
 obtain⟨hm,rfl,ak⟩:=h;refine vy ?_ (yS _ _ _ _);unfold next;rw[if_neg (by omega),if_neg (by omega),if_pos hm,an,ak];simp only[Bool.false_eq_true,if_false];exact St
theorem ac1{st s r:List Int}(h:mD c st s)(an:hN st=false)(h1:eM s=44::r∨eM s=59::r):nn L B c st r:=by
 obtain⟨hm,rfl,ak⟩:=h
 have e:∃m,(m=8∨m=9)∧next L B c=.sep ⟨m,c.st,eM r⟩:=by
  rcases h1 with h1|h1
  ·refine⟨8,.inl rfl,?_⟩;exact Ka
  ·refine⟨9,.inr rfl,?_⟩;exact Ka
 obtain⟨m,dV,e⟩:=e;unfold nn read;rw[e]
 show next L B ⟨m,c.st,eM r⟩=_
 exact R0
theorem ac2{s:List Int}(h:c.mode=2)(ak:c.s=eM s)(h1:a8 (eM s) 91=false):yB L B c c.st s:=by
 refine vy ?_ (Dq _ _ _ _);unfold next;rw[if_neg (by omega),if_pos h,ak];split
 ·exact J2
 ·rfl
theorem ac3{s:List Int}(h:c.mode=6)(ak:c.s=eM s)(h1:a8 (eM s) 93=false):yB L B c c.st s:=by
 refine vy ?_ (Dq _ _ _ _);unfold next;rw[if_neg (by omega),if_neg (by omega),if_neg (by omega),if_pos h,ak];split
 ·exact J2
 ·rfl
theorem ac4{st s r:List Int}(h:mD c st s)(an:hN st=true)(h1:eM s=44::r):yB L B c st r:=by
 obtain⟨hm,rfl,ak⟩:=h
 have e:next L B c=.sep ⟨8,c.st,eM r⟩:=by
  exact Ka
 unfold yB read;rw[e]
 show next L B ⟨8,c.st,eM r⟩=_
 exact R0
end
end eI
namespace gi
open RowKit YtmpeadgiclfapaaGreatDoorW.PrintWords YtmpeadgiclfapaaGreatDoorW.PrintLast YtmpeadgiclfapaaGreatDoorW.PrintMore ei cP gJ
def mI(neg:Bool)(s:List Int):Bool:=neg&&a8 s 45
def pO(neg:Bool)(s:List Int):List Int:=if mI neg s=true then s.drop 1 else s
def hs(neg:Bool)(s:List Int):Nat:=
 if fR (a6 (pO neg s) 0)=true then(if fF ((pO neg s).drop (eU (pO neg s)))=true then 0 else(if mI neg s=true then 1 else 0)+eU (pO neg s))else 0
def dt(p:Int→Bool):List Int→Nat
 |[]=>0
 |c::r=>if p c=true then dt p r+1 else 0
theorem nD(p:Int→Bool)(s:List Int):dt p s≤s.length:=by
 induction s with
 |nil=>simp[dt]
 |cons c r bb=>simp only[dt,List.length_cons];split<;>omega
def en(c:Int):Bool:=decide (48≤c)&&decide (c≤55)
def kP(k:Int)(s:List Int):Option (Int×List Int):=if fF s=true then none else some (k,s)
def pD(k:Int)(s:List Int):Option (Int×List Int):=if a8 s 102=true∨a8 s 70=true then kP 4 (s.drop 1)else kP k s
def vz(s:List Int):Option (Int×List Int):=pD 4 (s.drop (dt cN s))
def w6(s:List Int):Option (Int×List Int):=if a8 s 43=true∨a8 s 45=true then(if s.length=1 then none else vz (s.drop 1))else vz s
def pC(k:Int)(s:List Int):Option (Int×List Int):=if 2≤s.length∧(a8 s 101=true∨a8 s 69=true)then w6 (s.drop 1)else pD k s
def AZ(s:List Int):Option (Int×List Int):=pC 4 (s.drop (dt cN s))
def ie(k:Int)(s:List Int):Option (Int×List Int):=if a8 s 46=true then(if s.length=1∧k=4 then none else AZ (s.drop 1))else pC k s
def wm(s:List Int):Option (Int×List Int):=if dt dr s=0 then none else kP 1 (s.drop (dt dr s))
def yT(s:List Int):Option (Int×List Int):=kP 2 (s.drop (dt en s))
def kl(s:List Int):Option (Int×List Int):=
 if a8 s 48=true then
  (if a8 (s.drop 1) 120=true∨a8 (s.drop 1) 88=true then wm (s.drop 2)
   else if 1<s.length∧en (a6 s 1)=true then yT (s.drop 2)
   else ie 0 (s.drop 1))
 else if s≠[]∧49≤a6 s 0∧a6 s 0≤57 then ie 0 ((s.drop 1).drop (dt cN (s.drop 1)))
 else if a8 s 46=true then ie 4 s
 else none
def kF(s:List Int):List Int:=if a8 s 45=true then bc false (s.drop 1)else s
def ht(s:List Int):Option (Int×List Int):=kl (kF s)
def hY(s:List Int):Nat:=if a8 s 45=true then s.length-1-(bc false (s.drop 1)).length else 0
theorem four{W aQ:World}(h:Below W.heap.size W aQ)(a b c d:Value):Below W.heap.size W ((((aQ.setCell ⟨W.heap.size,0,none⟩ a).setCell ⟨W.heap.size,1,none⟩ b).setCell ⟨W.heap.size,2,none⟩ c).setCell ⟨W.heap.size,3,none⟩ d):=
 (((h.setCell (Nat.le_refl _) a).setCell (Nat.le_refl _) b).setCell (Nat.le_refl _) c).setCell (Nat.le_refl _) d
def iy(s:List Int):Value:=match ht s with
 |none=> .agg #[.int .u8 0,.bool false,.int .i64 0,.int .i64 0]
 |some (k,r)=> .agg #[.int .u8 k,.bool (a8 s 45),.int .i64 ((s.length-r.length:Nat):Int),.int .i64 (hY s:Nat)]
end gi
