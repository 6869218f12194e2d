/- Part 24 of the proof (Pc3). Conditions: each theorem's own. -/
import Derived.Test.YtmpeadgiclfapaaGreatDoorZ22
import Derived.Test.YtmpeadgiclfapaaGreatDoorZ25
set_option linter.all false
set_option maxHeartbeats 0
set_option maxRecDepth 100000
namespace Go.Proofs.YtmpeadgiclfapaaGreatDoor
namespace gi
open RowKit YtmpeadgiclfapaaGreatDoorW.PrintWords YtmpeadgiclfapaaGreatDoorW.PrintLast YtmpeadgiclfapaaGreatDoorW.PrintMore ei cP gJ eI eC j6
def nS(W:World)(ay:World)(xs:List Int)(bd:Option Addr)(m1:Nat)(c1:Nat)(sz:Nat)(g:Nat→Value):Prop:=(DT 8).wp Tryz.prog (bodyPost Tryz.prog Tryz.f61 (fun e w'=>e=.returned (iy xs)∧Below W.heap.size W w')) (⟨List.toArray (g 0::g 1::.pointer (some ⟨W.heap.size,0,none⟩)::.int .u8 (0)::.int .i64 ((sz:Nat))::.bool (a8 xs 45)::.slice bd m1 c1::.int .i64 ((hY xs:Nat):Int)::vX g ([])),[]⟩:Act) ay
section
variable {W ay:World} {xs s:List Int} {bd:Option Addr} {m1 c1:Nat} {sz:Nat} {x:Int} (g:Nat→Value) (hw:Hw W ay) (aq:xs.length≤100000) (aZ:dZ ay bd m1 c1 s) (hp:ht xs=kl s) (dd:sz+s.length=xs.length) (hm:0<m1) (ae:x=rd s ((0:Nat):Int))
include g hw aq aZ hp dd hm ae
section
variable (rU:1<m1) {y:Int} (aX:y=rd s ((1:Nat):Int)) (h48:x=48)
include rU aX h48
theorem afx(aG:y=120):nS W ay xs bd m1 c1 sz g:=by
 unfold nS;refine qg ?_;refine tt (lK W ay xs ie) (fun a' w' h=>?rest) (fun lF ic mJ aH=>?first)
 case rest=>
  exact wu
 case first=>
  refine se ?_;intro aT bh bA y3 z0 cp z2 z3 aC bV bU cr av cW k2;refine wx ?_;clear hw aq aZ hp dd hm;intro gw bn c8;obtain⟨bt,bR,rfl,w0⟩:=bU.1.cell 0 gw.1;rw[Nat.add_zero,←ae]at w0;have jb:=I (show s=x::s.drop 1 by have:=gz s 0 uT;rw[List.drop_zero]at this;rw[ae];exact this);refine F3 ?_;clear ae h48;rintro nI dj pE di ek w1 ⟨rfl,rfl⟩;refine Lm ?_;clear w1 rU aX;intro lL dm n3 n4 ao c4 bl bs w1;have Bi:(y==120)=true:=beq_iff_eq.mpr (by omega);have Bj:(y==88)=false:=beq_eq_false_iff_ne.mpr (by omega);exact QQ
theorem afy(aG:y=88):nS W ay xs bd m1 c1 sz g:=by
 unfold nS;refine qg ?_;refine tt (lK W ay xs ie) (fun a' w' h=>?rest) (fun lF ic mJ aH=>?first)
 case rest=>
  exact wu
 case first=>
  refine se ?_;intro aT bh bA y3 z0 cp z2 z3 aC bV bU cr av cW k2;refine wx ?_;clear hw aq aZ hp dd hm;intro gw bn c8;obtain⟨bt,bR,rfl,w0⟩:=bU.1.cell 0 gw.1;rw[Nat.add_zero,←ae]at w0;have jb:=I (show s=x::s.drop 1 by have:=gz s 0 uT;rw[List.drop_zero]at this;rw[ae];exact this);refine F3 ?_;clear ae h48;rintro nI dj pE di ek w1 ⟨rfl,rfl⟩;refine Lm ?_;clear w1 rU aX;intro lL dm n3 n4 ao c4 bl bs w1;have Bi:(y==120)=false:=beq_eq_false_iff_ne.mpr (by omega);have Bj:(y==88)=true:=beq_iff_eq.mpr (by omega);exact QQ
theorem afz(aG:48≤y∧y≤55):nS W ay xs bd m1 c1 sz g:=by
 unfold nS;refine qg ?_;refine tt (lK W ay xs ie) (fun a' w' h=>?rest) (fun lF ic mJ aH=>?first)
 case rest=>
  exact wu
 case first=>
  refine se ?_;intro aT bh bA y3 z0 cp z2 z3 aC bV bU cr av cW k2;refine wx ?_;clear hw aq aZ hp dd hm;intro gw bn c8;obtain⟨bt,bR,rfl,w0⟩:=bU.1.cell 0 gw.1;rw[Nat.add_zero,←ae]at w0;have jb:=I (show s=x::s.drop 1 by have:=gz s 0 uT;rw[List.drop_zero]at this;rw[ae];exact this);refine F3 ?_;clear ae h48;rintro nI dj pE di ek w1 ⟨rfl,rfl⟩;refine Lm ?_;clear w1 rU aX;intro lL dm n3 n4 ao c4 bl bs w1;have Bi:(y==120)=false:=beq_eq_false_iff_ne.mpr (by omega);have Bj:(y==88)=false:=beq_eq_false_iff_ne.mpr (by omega);have VK:decide (48≤y)=true:=decide_eq_true (by omega);have cL:decide (y≤55)=true:=decide_eq_true (by omega);have tT:=I (show ht xs=yT (s.drop 2)by rw[cr.1,dj.1,lL.1,U6 (by unfold en;simp only[Bool.and_eq_true,decide_eq_true_eq];exact aG)];rfl);clear aG;obtain⟨m0,dV⟩:∃m0,m0=m1-2:=⟨_,rfl⟩;rw[←dV]at bs bl;have xR:=I (show m0≤100000 by have:=cW.1;omega);clear dV
  go_upto_block 4 with fail
  refine wp_cut (fun a' w'=>∃(bF:Option Addr) (m c2 j:Nat),dZ ay bF m c2 ((s.drop 2).drop j)∧j=dt en (s.drop 2)∧ay=w'∧∃aa:Nat→Value,a'=(⟨List.toArray (aa 0::aa 1::.pointer (some ⟨W.heap.size,0,none⟩)::.int .u8 (2)::.int .i64 ((sz:Nat))::.bool (a8 xs 45)::.slice bF m c2::.int .i64 ((hY xs:Nat):Int)::aa 8::aa 9::.int .i64 (2+(j:Int))::vW aa ([])),[]⟩:Act)) ?_ ?_
  rotate_left
  ·intro ec dc dD dE
   go_wp2_with fail
   go_loopg [6,10] m0 (fun g v0 v1 w'=>∃(bF:Option Addr) (m c2 j:Nat),v0=.slice bF m c2∧v1=.int .i64 (2+(j:Int))∧ay=w'∧aN (m=g∧j≤(s.drop 2).length)∧aN (dZ ay bF m c2 ((s.drop 2).drop j)∧j+dt en ((s.drop 2).drop j)=dt en (s.drop 2)))
   case atStart=>exact⟨ao,m0,c4,0,rfl,rfl,rfl,⟨rfl,Nat.zero_le _⟩,⟨bl.1,xJ⟩⟩
   case round=>
    obtain⟨bF,m,c2,j,rfl,rfl,rfl,aV,bU⟩:=hrel;have lk:=I (show m=(s.drop 2).length-j by rw[bU.1.1.dN,List.length_drop]);by_cases hm:0<m
    ·obtain⟨eS,o1,rfl,bf⟩:=bU.1.1.cell 0 hm;refine QS ?_;clear bf;intro l2 x dG gw m2 bf;refine ym ?_;intro fi fj;clear hm;refine QT ?_;intro cZ c3 dP hn hw sP;have dM:(x≤47)∨(48≤x∧x≤55)∨(56≤x):=by omega
     rcases dM with aG|aG|aG
     ·have ll:decide (48≤x)=false:=decide_eq_false (by omega);have aW:decide (x≤55)=true:=decide_eq_true (by omega);exact Q1
     ·refine Aq ?_;intro ll;have aW:decide (x≤55)=true:=decide_eq_true (by omega);have k0:=I (show en x=true by unfold en;simp only[Bool.or_eq_true,Bool.and_eq_true,decide_eq_true_eq];omega);exact Cq
     ·refine Aq ?_;intro ll;have aW:decide (x≤55)=false:=decide_eq_false (by omega);exact Q1
    ·refine Cr ?_;intro m2;have ct:=I (show(s.drop 2).drop j=[]from List.eq_nil_of_length_eq_zero wb);refine vi ?_;intro fi fj;clear hm
     go_wp2_with fail
     refine Met.intro ?_;go_step;exact⟨bF,m,c2,j,bU.1.1,Fi,rfl,Q2 aM rfl rfl rfl rfl rfl rfl rfl⟩
  ·rintro _ _ ⟨bF,m,c2,j,aZ,ij,rfl,g0,rfl⟩;simp only[vW,tH,rP,oW,oa,mU,l1];have bU:=I aZ;have oh:=I ij;have lk:=I (show m=(s.drop 2).length-j by rw[aZ.dN,List.length_drop]);clear aZ ij;have oi:=I (show sz+s.length=xs.length∧j≤s.length-2∧2≤s.length∧s.length≤100000 from by have h4:=oh.1;have h0:=nD en (s.drop 2);have h1:=av.1;have h2:=k2.1;have h3:=cW.1;have h2:=pE.1;rw[List.length_drop]at h0;refine⟨h1,?_,?_,?_⟩<;>omega);have qL:=I (show ht xs=kP 2 ((s.drop 2).drop j)by rw[tT.1];unfold yT;rw[←oh.1]);have hw:wrap64 ((sz:Int)+(2+(j:Int)))=(sz:Int)+(2+(j:Int)):=by have:=oi.1;have:=bV.1;unfold wrap64;omega
   refine QX ?_;intro mW;have wo:=I (show fF ((s.drop 2).drop j)=false→iy xs=.agg #[.int .u8 2,.bool (a8 xs 45),.int .i64 ((sz:Int)+(2+(j:Int))),.int .i64 (hY xs:Nat)]from fun h=>by unfold iy;rw[qL.1];unfold kP;rw[if_neg zK];simp only[List.length_drop];rw[show((xs.length-(s.length-2-j):Nat):Int)=(sz:Int)+(2+(j:Int))by have:=oi.1;have:=k2.1;have:=lk.1;omega]);by_cases hm:0<m
   ·obtain⟨eS,o1,rfl,bf⟩:=bU.1.cell 0 hm;rw[Nat.add_zero]at bf;obtain⟨x,ae⟩:∃x,x=rd ((s.drop 2).drop j) ((0:Nat):Int):=⟨_,rfl⟩;rw[←ae]at bf;have jb:=I (show((s.drop 2).drop j)=x::((s.drop 2).drop j).drop 1 by have:=gz ((s.drop 2).drop j) 0 Cc;rw[List.drop_zero]at this;rw[ae];exact this);clear ae;have zQ:=I (show fF ((s.drop 2).drop j)=iH x by rw[jb.1];rfl);have m2:decide ((m:Int)>0)=true:=decide_eq_true (by omega);refine ym ?_;intro fi fj;clear hm;cases aw:iH x
    ·have mw:=I (wo.1 (zQ.1.trans aw))
     go_wp2_with(first|(go_at_call 83;refine(xS x _).mono ?_;rintro bk wd ⟨rfl,⟨dh,rfl⟩⟩;rw[aw]))
     exact PX
    ·exact Q4
   ·have mw:=I (wo.1 Pt);refine Cr ?_;intro m2;refine vi ?_;intro fi fj;clear hm
    go_wp2_with fail
    exact PX
theorem afA(aG:y≠120∧y≠88∧¬(48≤y∧y≤55)):nS W ay xs bd m1 c1 sz g:=by
 unfold nS;refine qg ?_;refine tt (lK W ay xs ie) (fun a' w' h=>?rest) (fun lF ic mJ aH=>?first)
 case rest=>
  exact wu
 case first=>
  refine se ?_;intro aT bh bA y3 z0 cp z2 z3 aC bV bU cr av cW k2;refine wx ?_;clear hw aq aZ hp dd hm;intro gw bn c8;obtain⟨bt,bR,rfl,w0⟩:=bU.1.cell 0 gw.1;rw[Nat.add_zero,←ae]at w0;have jb:=I (show s=x::s.drop 1 by have:=gz s 0 uT;rw[List.drop_zero]at this;rw[ae];exact this);refine F3 ?_;clear ae h48;rintro nI dj pE di ek w1 ⟨rfl,rfl⟩;rw[←aX]at w1;refine TN ?_;intro lL dm n3 n4;clear rU aX;refine K9 ?_;intro ao c0 bl bs;have dO:=I (show ht xs=ie 0 (s.drop 1)by rw[cr.1,dj.1,lL.1,DA Fk Fk (fun c r e=>by simp only[List.cons.injEq]at e;rw[←e.1];unfold en;simp only[Bool.and_eq_false_iff,decide_eq_false_iff_not];omega)];rfl);refine KW ?_;intro hw iw;have Bi:(y==120)=false:=beq_eq_false_iff_ne.mpr (by omega);have Bj:(y==88)=false:=beq_eq_false_iff_ne.mpr (by omega);by_cases h0:48≤y
  ·have VK:decide (48≤y)=true:=decide_eq_true h0;have cL:decide (y≤55)=false:=decide_eq_false (by omega);clear aG h0;exact JJ
  ·have VK:decide (48≤y)=false:=decide_eq_false h0;clear aG h0;exact JJ
end
theorem afB(rU:¬1<m1)(h48:x=48):nS W ay xs bd m1 c1 sz g:=by
 unfold nS;refine qg ?_;refine tt (lK W ay xs ie) (fun a' w' h=>?rest) (fun lF ic mJ aH=>?first)
 case rest=>
  exact wu
 case first=>
  refine se ?_;intro aT bh bA y3 z0 cp z2 z3 aC bV bU cr av cW k2;refine wx ?_;clear hw aq aZ hp dd hm;intro gw bn c8;obtain⟨bt,bR,rfl,w0⟩:=bU.1.cell 0 gw.1;rw[Nat.add_zero,←ae]at w0;have jb:=I (show s=x::s.drop 1 by have:=gz s 0 uT;rw[List.drop_zero]at this;rw[ae];exact this);clear ae;have nI:(x==48)=true:=beq_iff_eq.mpr h48;have dj:=I (show s=48::s.drop 1 by rw[←h48];exact jb.1);clear h48;refine K9 ?_;intro ao c0 bl bs
  have dO:=I (show ht xs=ie 0 (s.drop 1)by
   have h0:s.drop 1=[]:=List.eq_nil_of_length_eq_zero (by rw[List.length_drop,←bU.1.dN];omega);rw[cr.1,dj.1,h0,DA rfl rfl (fun c r e=>by cases e)];rfl)
  have dm:decide ((m1:Int)>1)=false:=decide_eq_false (by omega);have n3:=eq_false (show¬(1:Int)<(m1:Int)by omega);have n4:=eq_false rU;clear rU;refine KW ?_;intro hw iw;exact JJ
theorem afC(aG:49≤x∧x≤57):nS W ay xs bd m1 c1 sz g:=by
 unfold nS;refine qg ?_;refine tt (lK W ay xs ie) (fun a' w' h=>?rest) (fun lF ic mJ aH=>?first)
 case rest=>
  exact wu
 case first=>
  refine se ?_;intro aT bh bA y3 z0 cp z2 z3 aC bV bU cr av cW k2;refine wx ?_;clear hw aq aZ hp dd hm;intro gw bn c8;obtain⟨bt,bR,rfl,w0⟩:=bU.1.cell 0 gw.1;rw[Nat.add_zero,←ae]at w0;have jb:=I (show s=x::s.drop 1 by have:=gz s 0 uT;rw[List.drop_zero]at this;rw[ae];exact this);clear ae;refine K9 ?_;intro ao c0 bl bs;have nI:(x==48)=false:=beq_eq_false_iff_ne.mpr (by omega);have ll:decide (49≤x)=true:=decide_eq_true (by omega);refine C4 ?_;intro aW;have tT:=I (show ht xs=ie 0 ((s.drop 1).drop (dt cN (s.drop 1)))by rw[cr.1,jb.1,Mi aG];rfl);clear aG;obtain⟨m0,dV⟩:∃m0,m0=m1-1:=⟨_,rfl⟩;rw[←dV]at bs bl;have pE:=I (show m0≤100000 by have:=cW.1;omega);clear dV
  go_upto_block 6 with fail
  refine wp_cut (fun a' w'=>∃(bF:Option Addr) (m c2 j:Nat),dZ ay bF m c2 ((s.drop 1).drop j)∧j=dt cN (s.drop 1)∧ay=w'∧∃aa:Nat→Value,a'=(⟨List.toArray (aa 0::aa 1::.pointer (some ⟨W.heap.size,0,none⟩)::.int .u8 (0)::.int .i64 ((sz:Nat))::.bool (a8 xs 45)::.slice bF m c2::.int .i64 ((hY xs:Nat):Int)::aa 8::aa 9::aa 10::.int .i64 (1+(j:Int))::tH aa ([])),[]⟩:Act)) ?_ ?_
  rotate_left
  ·intro ec dc dD dE
   go_wp2_with fail
   go_loopg [6,11] m0 (fun g v0 v1 w'=>∃(bF:Option Addr) (m c2 j:Nat),v0=.slice bF m c2∧v1=.int .i64 (1+(j:Int))∧ay=w'∧aN (m=g∧j≤(s.drop 1).length)∧aN (dZ ay bF m c2 ((s.drop 1).drop j)∧j+dt cN ((s.drop 1).drop j)=dt cN (s.drop 1)))
   case atStart=>exact⟨ao,m0,c0,0,rfl,rfl,rfl,⟨rfl,Nat.zero_le _⟩,⟨bl.1,xJ⟩⟩
   case round=>
    obtain⟨bF,m,c2,j,rfl,rfl,rfl,aV,bU⟩:=hrel;have lk:=I (show m=(s.drop 1).length-j by rw[bU.1.1.dN,List.length_drop]);by_cases hm:0<m
    ·obtain⟨di,ek,rfl,w1⟩:=bU.1.1.cell 0 hm;have au:rd ((s.drop 1).drop j) ((0:Nat):Int)=rd (s.drop 1) (j:Int):=by rw[←Nat.add_zero j,←ta];rfl
     rw[au,Nat.add_zero]at w1;have l2:=I (gz (s.drop 1) j Ce);obtain⟨x,ae⟩:∃x,x=rd (s.drop 1) (j:Int):=⟨_,rfl⟩;rw[←ae]at w1;have dG:=I ae;have gw:=I hm;clear au ae;have m2:decide ((m:Int)>0)=true:=decide_eq_true (by omega);refine ym ?_;intro fi fj;clear hm;obtain⟨cZ,c3,fV,hr⟩:=bU.1.1.from_ 1 tP;have dP:=I hr;have hn:∀aQ:World,(Instr.slice 22 (.slice (some ⟨di,ek,none⟩) m c2) (some (.int .i64 1)) none none).run Tryz.prog aQ=.ok (.slice cZ (m-1) c3) aQ:=fV;clear hr fV;refine Tm ?_;intro hw sP dM;rcases dM with aG|aG|aG
     ·have sY:decide (48≤x)=false:=decide_eq_false (by omega);refine C4 ?_;intro aW;refine Ai ?_;clear aG;intro k0;exact QF
     ·have sY:decide (48≤x)=true:=decide_eq_true (by omega);exact Rn
     ·have sY:decide (48≤x)=true:=decide_eq_true (by omega);refine zP ?_;intro aW;refine Ai ?_;clear aG;intro k0;exact QF
    ·refine Cr ?_;intro m2;have ct:=I (show(s.drop 1).drop j=[]from List.eq_nil_of_length_eq_zero wb);refine vi ?_;intro fi fj;clear hm
     go_wp2_with fail
     refine Met.intro ?_;go_step;exact⟨bF,m,c2,j,bU.1.1,Fi,rfl,QG aM rfl rfl rfl rfl rfl rfl rfl⟩
  ·rintro _ _ ⟨bF,m,c2,j,aZ,ij,rfl,g0,rfl⟩;simp only[tH,rP,oW,oa,mU,l1];have bU:=I aZ;have oh:=I ij;have lk:=I (show m=(s.drop 1).length-j by rw[aZ.dN,List.length_drop]);clear aZ ij;have hw:wrap64 ((sz:Int)+(1+(j:Int)))=((sz+(1+j):Nat):Int):=by have h4:=oh.1;have h0:=nD cN (s.drop 1);have h1:=av.1;have h2:=bV.1;rw[List.length_drop]at h0;unfold wrap64;omega
   have iw:=I hw;have dO:=I (show ht xs=ie 0 ((s.drop 1).drop j)by rw[tT.1,←oh.1]);have k1:=I (show j≤s.length-1 by have h4:=oh.1;have h0:=nD cN (s.drop 1);rw[List.length_drop]at h0;omega)
   go_wp2_with fail
   refine Met.intro ?_;go_step;exact lK.mk (r:=(s.drop 1).drop j) (sz:=sz+(1+j)) aM rfl rfl zE rfl rfl rfl bU.1 (dO.1) (by rw[List.length_drop,List.length_drop];have:=av.1;have:=gw.1;have:=k1.1;have:=k2.1;omega)
theorem afD(aG:x=46):nS W ay xs bd m1 c1 sz g:=by
 unfold nS;refine qg ?_;refine tt (lK W ay xs ie) (fun a' w' h=>?rest) (fun lF ic mJ aH=>?first)
 case rest=>
  exact wu
 case first=>
  refine se ?_;intro aT bh bA y3 z0 cp z2 z3 aC bV bU cr av cW k2;refine wx ?_;clear hw aq aZ hp dd hm;intro gw bn c8;obtain⟨bt,bR,rfl,w0⟩:=bU.1.cell 0 gw.1;rw[Nat.add_zero,←ae]at w0;have jb:=I (show s=x::s.drop 1 by have:=gz s 0 uT;rw[List.drop_zero]at this;rw[ae];exact this);clear ae;have dO:=I (show ht xs=ie 4 s by rw[cr.1,jb.1,aG,U7]);have nI:(x==48)=false:=beq_eq_false_iff_ne.mpr (by omega);have za:(x==46)=true:=beq_iff_eq.mpr (by omega);have ll:decide (49≤x)=false:=decide_eq_false (by omega);clear aG
  go_wp2_with fail
  refine Met.intro ?_;go_step;exact lK.mk (r:=s) (sz:=sz) aM rfl rfl rfl rfl rfl rfl bU.1 (dO.1) (av.1)
theorem afE(aG:x≠48∧x≠46∧¬(49≤x∧x≤57)):nS W ay xs bd m1 c1 sz g:=by
 unfold nS;refine qg ?_;refine tt (lK W ay xs ie) (fun a' w' h=>?rest) (fun lF ic mJ aH=>?first)
 case rest=>
  exact wu
 case first=>
  refine se ?_;intro aT bh bA y3 z0 cp z2 z3 aC bV bU cr av cW k2;refine wx ?_;clear hw aq aZ hp dd hm;intro gw bn c8;obtain⟨bt,bR,rfl,w0⟩:=bU.1.cell 0 gw.1;rw[Nat.add_zero,←ae]at w0;have jb:=I (show s=x::s.drop 1 by have:=gz s 0 uT;rw[List.drop_zero]at this;rw[ae];exact this);clear ae;have dz:=I (show iy xs=.agg #[.int .u8 0,.bool false,.int .i64 0,.int .i64 0]by unfold iy;rw[cr.1,jb.1];unfold kl;rw[if_neg Fm,if_neg (by rintro⟨_,h⟩;rw[show a6 (x::s.drop 1) 0=x from rfl]at h;omega),if_neg Fm]);have nI:(x==48)=false:=beq_eq_false_iff_ne.mpr (by omega);have za:(x==46)=false:=beq_eq_false_iff_ne.mpr (by omega);by_cases h0:49≤x
  ·have ll:decide (49≤x)=true:=decide_eq_true h0;refine zP ?_;intro aW;clear aG h0;exact Cp
  ·have ll:decide (49≤x)=false:=decide_eq_false h0;clear aG h0;exact Cp
end
theorem afF{W ay:World}{xs s:List Int}{bd:Option Addr}{m1 c1:Nat}{sz:Nat}(g:Nat→Value)(hw:Hw W ay)(aq:xs.length≤100000)(aZ:dZ ay bd m1 c1 s)(hp:ht xs=kl s)(dd:sz+s.length=xs.length)(hm:0<m1):nS W ay xs bd m1 c1 sz g:=by
 unfold nS;obtain⟨x,ae⟩:∃x,x=rd s ((0:Nat):Int):=⟨_,rfl⟩;by_cases h0:x=48
 ·by_cases dV:1<m1
  ·obtain⟨y,aX⟩:∃y,y=rd s ((1:Nat):Int):=⟨_,rfl⟩;by_cases h1:y=120
   ·exact afx g hw aq aZ hp dd hm ae dV aX h0 h1
   ·by_cases h2:y=88
    ·exact afy g hw aq aZ hp dd hm ae dV aX h0 h2
    ·by_cases h3:48≤y∧y≤55
     ·exact afz g hw aq aZ hp dd hm ae dV aX h0 h3
     ·exact afA g hw aq aZ hp dd hm ae dV aX h0 ⟨h1,h2,h3⟩
  ·exact afB g hw aq aZ hp dd hm ae dV h0
 ·by_cases h1:x=46
  ·exact afD g hw aq aZ hp dd hm ae h1
  ·by_cases h:49≤x∧x≤57
   ·exact afC g hw aq aZ hp dd hm ae h
   ·exact afE g hw aq aZ hp dd hm ae ⟨h0,h1,h⟩
end gi
