/- Part 15 of the proof (Tn2). Conditions: each theorem's own. -/
import Derived.Test.YtmpeadgiclfapaaGreatDoorZ12
set_option linter.all false
set_option maxHeartbeats 0
set_option maxRecDepth 100000
namespace Go.Proofs.YtmpeadgiclfapaaGreatDoor
namespace cP
open RowKit YtmpeadgiclfapaaGreatDoorW.PrintWords YtmpeadgiclfapaaGreatDoorW.PrintLast YtmpeadgiclfapaaGreatDoorW.PrintMore ei gJ
theorem aa9{w0 W:World}{B:List Int}{ao:Option Addr}{c0 f q:Nat}{b:Bool}(au:ab.C (ab.int .u8) w0 ao B.length B∧B.length≤c0)(az:Below w0.heap.size w0 W)(aA:f≤q)(ar:q<B.length)(U:qm (kE (B.drop f)) (mF B f q) (rd B (q:Int))=b)(dw:B.length≤100000):
 Calls Tryz.prog 74 #[.slice ao B.length c0,.int .i64 (f:Int),.int .i64 (q:Int)] W fun e w'=>e=.returned (.bool b)∧eO W w':=
 pc.calls 1 ao c0 B f q b W (ab.ko au.1 az) au.2 (U▸abW B f q aA ar dw 0)
theorem JE{w0 w:World}{g:Nat}{B:List Int}{p:Nat}{l:List cx}(h:cu w0 w g B p 1 l)(hp:p<B.length)(bG:∀x∈B,0≤x∧x<256):
 Calls Tryz.prog 55 #[.pointer (some ⟨g,0,none⟩)] w fun e w'=>e=.returned (.tuple #[])∧∃q told,cu w0 w' g B q told l∧AQ B p q told:=by
 have X:=I h;have cr:=I (show p+1≤B.length from hp);have dS:=I h.sz;have fq:=I bG
 have hX:wrap64 ((p:Int)+1)=((p+1:Nat):Int):=by have:=h.sz;unfold wrap64;omega
 clear h hp bG
 go_enter Tryz.func55,Tryz.ntmps55
 go_upto_if 4 with(first|(go_at_call 24;refine(nk X.1 45).mono ?_;rintro aD w1 ⟨rfl,aW⟩;have cT:=I aW;obtain⟨ao,c1,bd,ck,aT,bh,bA,y3,z0,cp,z2,bP⟩:=aW.fL;clear aW))
 go_cut [] (fun wc=>∃f:Nat,aN (f=qn B p∧(a8 (B.drop p) 45=true→jP (bc false (B.drop (p+1)))=false))∧aN (cu w0 wc g B f 1 l))
 case first=>
  cases hm:a8 (B.drop p) 45
  ·have cW:=I hm
   go_wp2_with fail
   go_meet
   case rel=>exact⟨p,⟨(by unfold qn;rw[if_neg (by rw[cW.1];decide)]),fun h=>by rw[cW.1]at h;cases h⟩,⟨cT.1⟩⟩
  ·have cW:=I hm;clear hm;cases aZ:jP (bc false (B.drop (p+1)))
   ·have LZ:=I (show hD 1 (bc false (B.drop (p+1)))=1 by unfold hD;rw[if_neg (by rw[aZ];decide)]);have bU:=I aZ;clear aZ
    go_wp2_with(first|(go_at_call 15;refine(Cv (cT.1.setAt (p+1) cr.1)).mono ?_;rintro aD w1 ⟨rfl,aW⟩;rw[LZ.1]at aW;have df:=I aW;clear aW)|(go_at_call 14;refine(na df.1).mono ?_;rintro bx bf ⟨rfl,cv⟩;have gS:=I cv;clear cv))
    go_meet
    case rel=>exact⟨B.length-(bc false (B.drop (p+1))).length,⟨(by unfold qn;rw[if_pos cW.1]),fun _=>bU.1⟩,⟨gS.1⟩⟩
   ·have LZ:=I (show hD 1 (bc false (B.drop (p+1)))=2 by unfold hD;rw[if_pos ⟨aZ,rfl⟩]);have bU:=I aZ;clear aZ
    go_wp2_with(first|(go_at_call 15;refine(Cv (cT.1.setAt (p+1) cr.1)).mono ?_;rintro aD w1 ⟨rfl,aW⟩;rw[LZ.1]at aW;have df:=I aW;clear aW)|(go_at_call 14;refine(na df.1).mono ?_;rintro bx bf ⟨rfl,cv⟩;have gS:=I cv;clear cv))
    refine tf ?_;exact⟨rfl,_,2,gS.1,.jP cW.1 bU.1 _⟩
 case rest=>
  clear aT bh bA y3 z0 cp z2 hX;obtain⟨f,dz,cT⟩:=hcut;obtain⟨ao,c0,bd,ck,aT,bh,bA,y3,z0,cp,z2,bP⟩:=cT.1.fL
  go_upto_block 0 with fail
  go_cut [] (fun wc=>∃q:Nat,aN (q=f+me (B.drop f))∧aN (cu w0 wc g B q 1 l))
  case first=>
   go_wp2_with fail
   go_loopg [] (me (B.drop f)) (fun k w'=>∃q:Nat,aN (f≤q∧q+k=f+me (B.drop f)∧oK (kE (B.drop f)) (mF B f q) (B.drop q)=k)∧aN (cu w0 w' g B q 1 l))
   case atStart=>exact⟨f,⟨Nat.le_refl _,rfl,(by rw[abT];rfl)⟩,⟨PD⟩⟩
   case round=>
    clear aT bh bA y3 z0 cp z2;obtain⟨q,aV,dG⟩:=hrel;obtain⟨bF,c2,cZ,c12,aT,bh,bA,y3,z0,cp,z2,ff⟩:=dG.1.fL;by_cases ar:q<B.length
    ·have a1:decide ((q:Int)<(B.length:Int))=true:=decide_eq_true (by omega);have bQ:=eq_true (show(q:Int)<(B.length:Int)by omega);have fz:=I ar;have bV:=I (ab0 (kE (B.drop f)) B f q aV.1.1 ar);clear ar;cases U:qm (kE (B.drop f)) (mF B f q) (rd B (q:Int))
     ·(try go_wp2_with fail)
      (repeat(go_quiet(fail);try go_wp2_with fail))
      refine fX (n:=22) (S:=fun w'=>w'.cell? ⟨g,0,none⟩=some (.slice bF B.length c2)∧w'.cell? ⟨g,1,none⟩=some (.int .i64 (q:Int))) (ds:=[]) #[false,false,false,false,false,false,false,false,false,false,false,false,false,false,false,false,false,false,false,false,false,false] aM rfl rfl ⟨aT,bh⟩ (fun hHeld=>?_);refine TH ?_;intro K aH;rintro aD w1 ⟨rfl,⟨iX,rfl⟩⟩;refine⟨_,rfl,?_⟩;refine aH.out _ _ ⟨aT,bh⟩ (fun hHeld=>?_);clear aH K;refine ik ?_;refine ax 21 42 ?_;refine jX aM ?_;have a7:=I U;clear U
      go_wp2_with fail
      go_meet
      case rel=>exact⟨q,⟨(by have h0:=bV.1;have h1:=aV.1.2.2;have h2:=aV.1.2.1;rw[a7.1]at h0;simp only[Bool.false_eq_true,if_false]at h0;omega)⟩,⟨rS⟩⟩
     ·(try go_wp2_with fail)
      (repeat(go_quiet(fail);try go_wp2_with fail))
      refine fX (n:=22) (S:=fun w'=>w'.cell? ⟨g,0,none⟩=some (.slice bF B.length c2)∧w'.cell? ⟨g,1,none⟩=some (.int .i64 (q:Int))) (ds:=[]) #[false,false,false,false,false,false,false,false,false,false,false,false,false,false,false,false,false,false,false,false,false,false] aM rfl rfl ⟨aT,bh⟩ (fun hHeld=>?_);refine TH ?_;intro K aH;rintro aD w1 ⟨rfl,⟨iX,rfl⟩⟩;refine⟨_,rfl,?_⟩;refine aH.out _ _ ⟨aT,bh⟩ (fun hHeld=>?_);clear aH K;refine ik ?_;refine ax 21 42 ?_;refine jX aM ?_;have a7:=I U;clear U;have av:=I (show oK (kE (B.drop f)) (mF B f q) (B.drop q)=oK (kE (B.drop f)) (mF B f (q+1)) (B.drop (q+1))+1 by have h0:=bV.1;rw[a7.1]at h0;simpa using h0);have hX:wrap64 ((q:Int)+1)=((q+1:Nat):Int):=by have:=fz.1;have:=dS.1;unfold wrap64;omega
      go_wp2_with fail
      go_roundg(oK (kE (B.drop f)) (mF B f (q+1)) (B.drop (q+1)))
      case measure=>have:=aV.1.2.2;have:=av.1;omega
      case rel=>
       refine⟨q+1,⟨(by have:=aV.1.1;omega),(by have:=aV.1.2;have:=av.1;omega),rfl⟩,⟨?_⟩⟩;refine cu.setAt (p:=q) ?_ (q+1) uV;exact rS
    ·refine GJ ?_;intro a1 qZ;have bQ:=eq_false (show¬(q:Int)<(B.length:Int)by omega);have fs:=eq_false ar;have a7:=I (show q=f+me (B.drop f)by have h0:=ab1 (kE (B.drop f)) (mF B f q) B q (by omega);have h1:=aV.1.2.2;have h2:=aV.1.2.1;omega);clear ar
     (try go_wp2_with fail)
     (repeat(go_quiet(fail);try go_wp2_with fail))
     go_meet
     case rel=>exact⟨q,a7,⟨rS⟩⟩
  case rest=>
   clear aT bh bA y3 z0 cp z2;obtain⟨q,fz,dG⟩:=hcut;obtain⟨bF,c2,cZ,c12,aT,bh,bA,y3,z0,cp,z2,ff⟩:=dG.1.fL;obtain⟨cZ,c5,nO,hq⟩:=AL ff.out.1 ff.out.2 f q uV dG.1.le;have nj:=I hq;obtain⟨LL,Dk⟩:=abR (Uo B fq.1 zJ f q);obtain⟨r,au⟩:∃r,r=si ((B.take q).drop f):=⟨_,rfl⟩;rw[←au]at Dk;have ac5:=I Dk;have hI:=I (show r=si ((B.drop f).take (me (B.drop f)))by rw[au,List.drop_take,fz.1];congr 2;omega);clear hq Dk au
   go_wp2_with fail
   refine fX (n:=12) (S:=fun w'=>w'.cell? ⟨g,0,none⟩=some (.slice bF B.length c2)∧w'.cell? ⟨g,1,none⟩=some (.int .i64 (q:Int))∧(convert 22 9 (.slice cZ (q-f) c5)).run Tryz.prog w'=.ok (.string (sub B f q)) w') (ds:=[]) #[false,false,false,false,false,false,false,false,false,false,false,false] aM rfl rfl ⟨aT,bh,nj.1 _ (kH dG.1.bu)⟩ (fun hHeld=>?_);refine ax 0 50 ?_;refine ax 1 51 ?_;refine ax 2 52 ?_;refine ax 4 54 ?_;refine ax 5 55 ?_;refine ax 6 56 ?_;refine ax 7 57 ?_;refine eb 3 53 ?_;refine eb 8 58 ?_;refine ax 9 59 ?_;refine eb 10 60 ?_;refine gb 11 61 fun K aH=>?_;refine mQ Tryz.func75 aM rfl #[.string (sub B f q)] (by rfl) rfl rfl mX ?_
   with_reducible refine(fm.calls LL _ r _ ac5.1).mono ?_
   rintro bx bf ⟨rfl,⟨wj,rfl⟩⟩;refine⟨_,rfl,?_⟩;refine aH.out _ _ ⟨aT,bh,nj.1 _ (jI (kH dG.1.bu) _)⟩ (fun hHeld=>?_);clear aH K;refine ik ?_;refine jX aM ?_
   go_upto_block 2 with fail
   go_cut [] (fun wc=>∃told,aN (told=if r=0 then 0 else if r= -1 then 2 else(1:Int))∧aN (cu w0 wc g B q told l))
   case first=>
    by_cases gd:r=0
    ·have bt:(r==0)=true:=beq_iff_eq.mpr gd;have hT:=I gd;clear gd
     go_wp2_with(first|(go_at_call 16;refine(p3 rS).mono ?_;rintro db w3 ⟨rfl,aW⟩;have df:=I aW;clear aW))
     go_meet
     case rel=>exact⟨0,⟨(by rw[if_pos hT.1])⟩,⟨df.1⟩⟩
    ·have bt:(r==0)=false:=beq_eq_false_iff_ne.mpr gd;have hT:=I gd;clear gd;by_cases gd:r= -1
     ·have bt:(r== -1)=true:=beq_iff_eq.mpr gd;have ue:=I gd;clear gd
      go_wp2_with(first|(go_at_call 13;refine(pF rS).mono ?_;rintro db w3 ⟨rfl,aW⟩;have df:=I aW;clear aW))
      go_meet
      case rel=>exact⟨2,⟨(by rw[if_neg hT.1,if_pos ue.1])⟩,⟨df.1⟩⟩
     ·have bt:(r== -1)=false:=beq_eq_false_iff_ne.mpr gd;have ue:=I gd;clear gd
      go_wp2_with fail
      go_meet
      case rel=>exact⟨1,⟨(by rw[if_neg hT.1,if_neg ue.1])⟩,⟨rS⟩⟩
   case rest=>
    clear aT bh bA y3 z0 cp z2 nO;obtain⟨told,Ck,gS⟩:=hcut;obtain⟨bF,c4,kc,c12,aT,bh,bA,y3,z0,cp,z2,ff⟩:=gS.1.fL
    have UG:∀aJ,fF (B.drop q)=aJ→AQ B p q (qR r aJ):=fun aJ aw=>by
     have h0:=AQ.go (B:=B) (p:=p) dz.1.2 q (by rw[←dz.1.1];exact fz.1);rw[←dz.1.1,←hI.1,aw]at h0;exact h0
    have Cj:=I UG;clear UG;by_cases ar:q<B.length
    ·obtain⟨dp,fO,al⟩:=ab.iV ff.out.1 (q:Int) (by omega) (by omega);cases fO;rw[Int.toNat_natCast]at al;replace al:=(gS.1.bu.cell (World.block_lt_of_cell? w0 _ al)).trans al;have a1:decide ((q:Int)<(B.length:Int))=true:=decide_eq_true (by omega);have ku:=eq_true (show(0:Int)≤(q:Int)by omega);have bQ:=eq_true (show(q:Int)<(B.length:Int)by omega);refine Gj ?_;intro l5;clear ar
     (try go_wp2_with fail)
     (repeat(go_quiet(fail);try go_wp2_with fail))
     refine fX (n:=23) (S:=fun w'=>w'.cell? ⟨g,0,none⟩=some (.slice (some dp) B.length c4)∧w'.cell? ⟨g,1,none⟩=some (.int .i64 (q:Int))∧w'.cell? (dp.add q)=some (.int .u8 (rd B (q:Int)))) (ds:=[]) #[false,false,false,false,false,false,false,false,false,false,false,false,false,false,false,false,false,false,false,false,false,false,false] aM rfl rfl ⟨aT,bh,al⟩ (fun hHeld=>?_);refine ax 0 70 ?_;refine ax 1 71 ?_;refine ax 2 72 ?_;refine ax 4 74 ?_;refine ax 5 75 ?_;refine ax 6 76 ?_;refine eb 3 73 ?_;refine eb 7 77 ?_;refine ax 8 78 ?_;refine ax 9 79 ?_;refine ax 10 80 ?_;refine ax 11 81 ?_;refine ax 12 82 ?_;refine ax 13 83 ?_;refine ax 15 85 ?_;refine ax 16 86 ?_;refine ax 17 87 ?_;refine eb 14 84 ?_;refine eb 18 88 ?_;refine ax 19 89 ?_;refine eb 20 90 ?_;refine gb 21 91 fun K aH=>?_;refine Lh ?_;rintro aD w1 ⟨rfl,⟨iX,rfl⟩⟩;refine Cu ?_;clear aH K;intro hHeld;refine ax 22 92 ?_;refine jX aM ?_;cases aw:iH (rd B (q:Int))
     ·have bS:=I (l5.1.trans aw);clear aw
      go_wp2_with fail
      exact P6
     ·have bS:=I (l5.1.trans aw);clear aw
      go_wp2_with(first|(go_at_call 16;refine(p3 PE).mono ?_;rintro db w3 ⟨rfl,aW⟩;have df:=I aW;clear aW))
      go_end0
      refine⟨rfl,q,_,df.1,?_⟩;have h0:=Cj.1 true bS.1;rw[show(if told=1 then 0 else told)=qR r true by rw[Ck.1];unfold qR;split<;>(try split)<;>simp];exact h0
    ·refine GJ ?_;intro a1 qZ;have bQ:=eq_false (show¬(q:Int)<(B.length:Int)by omega);have fs:=eq_false ar;refine KD ?_;clear ar;intro bS
     (try go_wp2_with fail)
     (repeat(go_quiet(fail);try go_wp2_with fail))
     exact P6
end cP
