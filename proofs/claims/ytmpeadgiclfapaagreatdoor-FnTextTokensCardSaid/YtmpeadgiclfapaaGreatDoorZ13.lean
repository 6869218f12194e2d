/- Part 11 of the proof (Tk6). Conditions: each theorem's own. -/
import Derived.Test.YtmpeadgiclfapaaGreatDoorZ10
set_option linter.all false
set_option maxHeartbeats 0
set_option maxRecDepth 100000
namespace Go.Proofs.YtmpeadgiclfapaaGreatDoor
namespace cP
open RowKit YtmpeadgiclfapaaGreatDoorW.PrintWords YtmpeadgiclfapaaGreatDoorW.PrintLast YtmpeadgiclfapaaGreatDoorW.PrintMore ei
def Pj(B:List Int)(p q:Nat)(told:Int):Prop:=(told=1∨told=2)∧(fF (B.drop q)=true→told=2)∧(fF (B.drop q)=false→bB (sub B p q) 0≠45→told=1)
theorem JD{w0 w:World}{g:Nat}{B:List Int}{p:Nat}{l:List cx}(h:cu w0 w g B p 1 l)(hp:p<B.length)(wW:∀(s:ByteArray) (W:World),s.size≤1000000→Calls Tryz.prog 73 #[.string s] W fun e w'=>∃z:Int,e=.returned (.int .i64 z)∧Below W.heap.size W w'):
 Calls Tryz.prog 54 #[.pointer (some ⟨g,0,none⟩)] w fun e w'=>∃q,q=p+1+eU (B.drop (p+1))∧e=.returned (.tuple #[])∧∃told,cu w0 w' g B q told l∧Pj B p q told:=by
 obtain⟨ao,c0,bd,c3,aT,bh,bA,y3,z0,cp,z2,au⟩:=h.fL;have Cm:=I wW;have X:=I h;have cr:=I hp;have dS:=I h.sz;have hX:wrap64 ((p:Int)+1)=((p+1:Nat):Int):=by have:=h.sz;unfold wrap64;omega
 clear h hp wW;go_enter Tryz.func54,Tryz.ntmps54
 go_wp2_with fail
 go_loopg [] (eU (B.drop (p+1))) (fun k w'=>∃q:Nat,aN (q+k=p+1+eU (B.drop (p+1))∧p+1≤q)∧aN (cu w0 w' g B q 1 l))
 case atStart=>
  refine⟨p+1,⟨rfl,Nat.le_refl _⟩,⟨?_⟩⟩
  first|exact X.1.setAt (p+1) cr.1|(rw[hX];exact X.1.setAt (p+1) cr.1)
 case round=>
  clear aT bh bA y3 z0 cp z2 X hX;obtain⟨q,aV,dG⟩:=hrel;have h0:=T2 (B.drop q);have th:B.drop q=(B.drop (p+1)).drop (q-(p+1)):=by rw[List.drop_drop];congr 1;have:=aV.1;omega
  rw[th,Ug _ (q-(p+1)) sR,←th]at h0;clear th;have dx:=I (show p+1+eU (B.drop (p+1))≤B.length by have:=G2 (B.drop (p+1));rw[List.length_drop]at this;have:=cr.1;omega);cases h1:fR (a6 (B.drop q) 0)
  ·cases h2:cN (a6 (B.drop q) 0)
   ·rw[h1,h2,Bool.false_or]at h0;have fp:=I (show q=p+1+eU (B.drop (p+1))by have h3:=of_decide_eq_false h0.symm;have:=aV.1;omega);clear h0
    go_wp2_with(first|(go_at_call 38;first|(refine(ql (cT.1.drewN _)).mono ?_;rintro aD w1 ⟨rfl,aW⟩;have df:=I aW;obtain⟨bF,c4,cZ,ck,aT,bh,bA,y3,z0,cp,z2,bP⟩:=aW.fL;clear aW)|go_must(refine(ql dG.1).mono ?_;rintro bx bf ⟨rfl,cv⟩;have cT:=I cv;obtain⟨kc,c2,uw,c12,aT,bh,bA,y3,z0,cp,z2,ff⟩:=cv.fL;clear cv))|(refine z7 ?_;rintro db w3 ⟨rfl,⟨dh,rfl⟩⟩;rw[h1])|(refine Aa ?_;rintro db w3 ⟨rfl,⟨iX,rfl⟩⟩;rw[h2]))
    obtain⟨yH,c5,hcut,iB⟩:=AL bP.out.1 bP.out.2 p q sR B9;have hq:∀m,(convert 22 9 (.slice yH (q-p) c5)).run Tryz.prog (w1.drewN m)=.ok (.string (sub B p q)) (w1.drewN m):=fun m=>iB _ (df.1.drewN m).bu;clear iB;have aG:(sub B p q).size=q-p:=Uh B p q B9;have yI:0<q-p:=by have:=fp.1;omega
    obtain⟨str,mc⟩:∃str,str=sub B p q:=⟨_,rfl⟩;rw[←mc]at hq aG;have Gd:=I (show str.size≤1000000 by have:=dS.1;have:=dx.1;have:=fp.1;omega);have B2:=I mc.symm;clear mc;have hf:=eq_true (show(0:Int)<(str.size:Int)by omega);have s1:=eq_true (show 0<str.size by omega);have eK:∀h:0<str.size,((str[0]'h).toNat:Int)=bB str 0:=nx str 0;clear aG yI;by_cases ar:q<B.length
    ·obtain⟨dp,fO,al⟩:=ab.iV bP.out.1 (q:Int) (by omega) (by omega);cases fO;rw[Int.toNat_natCast]at al;replace al:=(df.1.bu.cell (World.block_lt_of_cell? w0 _ al)).trans al;refine GK ?_;intro a1 bQ fs;refine Gj ?_;intro l5;clear ar
     repeat(go_quiet(fail);try go_wp2_with fail)
     refine fX (n:=23) (S:=fun w'=>w'.cell? ⟨g,0,none⟩=some (.slice (some dp) B.length c4)∧w'.cell? ⟨g,1,none⟩=some (.int .i64 (q:Int))∧w'.cell? (dp.add q)=some (.int .u8 (rd B (q:Int)))) (ds:=[]) #[false,false,false,false,false,false,false,false,false,false,false,false,false,false,false,false,false,false,false,false,false,false,false] aM rfl rfl ⟨aT,bh,al⟩ (fun hHeld=>?_);refine ax 0 41 ?_;refine ax 1 42 ?_;refine ax 2 43 ?_;refine ax 4 45 ?_;refine ax 5 46 ?_;refine ax 6 47 ?_;refine eb 3 44 ?_;refine eb 7 48 ?_;refine ax 8 49 ?_;refine ax 9 50 ?_;refine ax 10 51 ?_;refine ax 11 52 ?_;refine ax 12 53 ?_;refine ax 13 54 ?_;refine ax 15 56 ?_;refine ax 16 57 ?_;refine ax 17 58 ?_;refine eb 14 55 ?_;refine eb 18 59 ?_;refine ax 19 60 ?_;refine eb 20 61 ?_;refine gb 21 62 fun K aH=>?_;refine Lh ?_;rintro gW rY ⟨rfl,⟨wj,rfl⟩⟩;refine Cu ?_;clear aH K;intro hHeld;refine ax 22 63 ?_;refine jX aM ?_;cases aw:iH (rd B (q:Int))
     ·have bS:=I (show fF (B.drop q)=false from l5.1.trans aw);by_cases z3:bB str 0=45
      ·have bt:(bB str 0==45)=true:=beq_iff_eq.mpr z3;have ct:=I z3;clear z3
       go_wp2_with(first|(refine Ac ?_;rintro aE kb ⟨z,rfl,az⟩;have aC:=I az;clear az)|(go_at_call 13;first|(refine(pF (cu.below tI aC.1)).mono ?_;rintro k3 uY ⟨rfl,jQ⟩;have gS:=I jQ;clear jQ)))
       all_goals(
        go_end0
        first
         |exact⟨q,fp.1,rfl,_,gS.1,uP⟩
         |exact⟨q,fp.1,rfl,_,cu.below tI aC.1,uP⟩)
      ·have bt:(bB str 0==45)=false:=beq_eq_false_iff_ne.mpr z3;have ct:=I z3;clear z3
       go_wp2_with(first|(refine Ac ?_;rintro aE kb ⟨z,rfl,az⟩;have aC:=I az;clear az)|(go_at_call 13;first|(refine(pF (cu.below tI aC.1)).mono ?_;rintro k3 uY ⟨rfl,jQ⟩;have gS:=I jQ;clear jQ)))
       go_end0
       exact⟨q,fp.1,rfl,_,tI,uP⟩
     ·have bS:=I (show fF (B.drop q)=true from l5.1.trans aw);by_cases z3:bB str 0=45
      ·have bt:(bB str 0==45)=true:=beq_iff_eq.mpr z3;have ct:=I z3;clear z3
       go_wp2_with(first|(refine Ac ?_;rintro aE kb ⟨z,rfl,az⟩;have aC:=I az;clear az)|(go_at_call 13;first|(refine(pF (cu.below rh.1 aC.1)).mono ?_;rintro k3 uY ⟨rfl,jQ⟩;have gS:=I jQ;clear jQ)|go_must(refine(pF tI).mono ?_;rintro sZ uZ ⟨rfl,p6⟩;have rh:=I p6;clear p6)))
       all_goals(
        go_end0
        first
         |exact⟨q,fp.1,rfl,_,gS.1,uP⟩
         |exact⟨q,fp.1,rfl,_,cu.below rh.1 aC.1,uP⟩)
      ·have bt:(bB str 0==45)=false:=beq_eq_false_iff_ne.mpr z3;have ct:=I z3;clear z3
       go_wp2_with(first|(refine Ac ?_;rintro aE kb ⟨z,rfl,az⟩;have aC:=I az;clear az)|(go_at_call 13;first|(refine(pF (cu.below rh.1 aC.1)).mono ?_;rintro k3 uY ⟨rfl,jQ⟩;have gS:=I jQ;clear jQ)|go_must(refine(pF tI).mono ?_;rintro sZ uZ ⟨rfl,p6⟩;have rh:=I p6;clear p6)))
       go_end0
       exact⟨q,fp.1,rfl,_,rh.1,uP⟩
    ·refine GJ ?_;intro a1 qZ;have fs:=eq_false (show¬(q:Int)<(B.length:Int)by omega);have a1:=eq_false ar;refine KD ?_;clear ar;intro bS;by_cases z3:bB str 0=45
     ·have bt:(bB str 0==45)=true:=beq_iff_eq.mpr z3;have ct:=I z3;clear z3
      repeat(go_quiet(fail);try go_wp2_with(first|(refine Ac ?_;rintro aE kb ⟨z,rfl,az⟩;have aC:=I az;clear az)|(go_at_call 13;first|(refine(pF (cu.below tI aC.1)).mono ?_;rintro k3 uY ⟨rfl,jQ⟩;have gS:=I jQ;clear jQ))))
      all_goals(
       go_end0
       first
        |exact⟨q,fp.1,rfl,_,gS.1,uP⟩
        |exact⟨q,fp.1,rfl,_,cu.below tI aC.1,uP⟩)
     ·have bt:(bB str 0==45)=false:=beq_eq_false_iff_ne.mpr z3;have ct:=I z3;clear z3
      repeat(go_quiet(fail);try go_wp2_with(first|(refine Ac ?_;rintro aE kb ⟨z,rfl,az⟩;have aC:=I az;clear az)|(go_at_call 13;first|(refine(pF (cu.below tI aC.1)).mono ?_;rintro k3 uY ⟨rfl,jQ⟩;have gS:=I jQ;clear jQ))))
      go_end0
      exact⟨q,fp.1,rfl,_,tI,uP⟩
   ·rw[h1,h2,Bool.false_or]at h0;have oc:=I (of_decide_eq_true h0.symm);clear h0
    go_wp2_with(first|(go_at_call 38;first|(refine(ql (cT.1.drewN _)).mono ?_;rintro aD w1 ⟨rfl,aW⟩;have df:=I aW;obtain⟨bF,c4,cZ,ck,aT,bh,bA,y3,z0,cp,z2,bP⟩:=aW.fL;clear aW)|go_must(refine(ql dG.1).mono ?_;rintro bx bf ⟨rfl,cv⟩;have cT:=I cv;obtain⟨kc,c2,uw,c12,aT,bh,bA,y3,z0,cp,z2,ff⟩:=cv.fL;clear cv))|(refine z7 ?_;rintro db w3 ⟨rfl,⟨dh,rfl⟩⟩;rw[h1])|(refine Aa ?_;rintro db w3 ⟨rfl,⟨iX,rfl⟩⟩;rw[h2]))
    go_roundg(p+1+eU (B.drop (p+1))-(q+1))
    case measure=>have:=aV.1;have:=oc.1;omega
    case rel=>
     refine Gz ?_;intro hw;exact(df.1.drewN iX).setAt (q+1) Fg
  ·rw[h1,Bool.true_or]at h0;have oc:=I (of_decide_eq_true h0.symm);clear h0
   go_wp2_with(first|(go_at_call 38;first|(refine(ql (cT.1.drewN _)).mono ?_;rintro aD w1 ⟨rfl,aW⟩;have df:=I aW;obtain⟨bF,c4,cZ,ck,aT,bh,bA,y3,z0,cp,z2,bP⟩:=aW.fL;clear aW)|go_must(refine(ql dG.1).mono ?_;rintro bx bf ⟨rfl,cv⟩;have cT:=I cv;obtain⟨kc,c2,uw,c12,aT,bh,bA,y3,z0,cp,z2,ff⟩:=cv.fL;clear cv))|(refine z7 ?_;rintro db w3 ⟨rfl,⟨dh,rfl⟩⟩;rw[h1]))
   go_roundg(p+1+eU (B.drop (p+1))-(q+1))
   case measure=>have:=aV.1;have:=oc.1;omega
   case rel=>
    refine Gz ?_;intro hw;exact(cT.1.drewN dh).setAt (q+1) Fg
end cP
