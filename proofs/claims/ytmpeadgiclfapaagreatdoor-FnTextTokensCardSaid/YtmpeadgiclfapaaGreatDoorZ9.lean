/- Part 7 of the proof (Tk3). Conditions: each theorem's own. -/
import Derived.Test.YtmpeadgiclfapaaGreatDoorZ4
import Derived.Test.YtmpeadgiclfapaaGreatDoorZ5
import Derived.Deep.LoopGhost
set_option linter.all false
set_option maxHeartbeats 0
set_option maxRecDepth 100000
namespace Go.Proofs.YtmpeadgiclfapaaGreatDoor
namespace cP
open RowKit YtmpeadgiclfapaaGreatDoorW.PrintWords YtmpeadgiclfapaaGreatDoorW.PrintLast YtmpeadgiclfapaaGreatDoorW.PrintMore ei
section
variable {w0 w:World} {g:Nat} {B:List Int} {p:Nat} {told:Int} {l:List cx}
theorem cu.fL(h:cu w0 w g B p told l):∃(ao:Option Addr) (c0:Nat) (cZ:Option Addr) (c3:Nat),w.cell? ⟨g,0,none⟩=some (.slice ao B.length c0)∧w.cell? ⟨g,1,none⟩=some (.int .i64 (p:Int))∧w.cell? ⟨g,2,none⟩=some (.int .i64 told)∧w.cell? ⟨g,3,none⟩=some (.slice cZ l.length c3)∧w.frozen? ⟨g,1,none⟩=false∧w.frozen? ⟨g,2,none⟩=false∧w.frozen? ⟨g,3,none⟩=false∧aN (ab.C (ab.int .u8) w0 ao B.length B∧B.length≤c0):=by
 obtain⟨⟨hd,fJ,hlen,ew⟩,dw,hle,dd⟩:=h;obtain⟨ao,c0,cZ,c3,U,aw,bP,rfl,rfl,eT⟩:=fJ;rw[hlen]at U;exact⟨ao,c0,hd.A,hd.c,(bg U 0).trans rfl,(bg U 1).trans rfl,(bg U 2).trans rfl,(bg U 3).trans rfl,fy U 1,fy U 2,fy U 3,⟨bP,eT⟩⟩
theorem cu.setAt(h:cu w0 w g B p told l)(q:Nat)(ar:q≤B.length):cu w0 (w.setCell ⟨g,1,none⟩ (.int .i64 (q:Int))) g B q told l:=by
 obtain⟨⟨hd,fJ,hlen,ew⟩,dw,hle,dd⟩:=h;exact⟨⟨hd,fJ.xI _,hlen,ab.mo ew (fun _ ad=>ad) _⟩,dw.setCell fJ.ge _,ar,dd⟩
theorem cu.drew(h:cu w0 w g B p told l):cu w0 w.drew g B p told l:=h.below (kH (Below.refl _ _))
theorem cu.drewN(h:cu w0 w g B p told l)(m:Nat):cu w0 (w.drewN m) g B p told l:=h.below (jI (Below.refl _ _) m)
theorem ql(h:cu w0 w g B p told l):Calls Tryz.prog 38 #[.pointer (some ⟨g,0,none⟩),.int .i64 0] w fun e w'=>e=.returned (.int .u8 (a6 (B.drop p) 0))∧cu w0 w' g B p told l:=TZ h 0 (by decide)
theorem JC(h:cu w0 w g B p told l):Calls Tryz.prog 38 #[.pointer (some ⟨g,0,none⟩),.int .i64 1] w fun e w'=>e=.returned (.int .u8 (a6 (B.drop p) 1))∧cu w0 w' g B p told l:=TZ h 1 (by decide)
theorem Ug(s:List Int):∀i,i≤eU s→eU (s.drop i)=eU s-i:=by
 induction s with
 |nil=>intro i h;simp[eU]at h;simp[h]
 |cons c r bb=>
  intro i h;cases i with
  |zero=>simp
  |succ i=>
   simp only[eU]at h⊢;by_cases ai:p5 c=true
   ·rw[if_pos ai]at h⊢;rw[List.drop_succ_cons,bb i (by omega)];omega
   ·rw[if_neg ai]at h;omega
end
theorem AL{w0:World}{B:List Int}{ao:Option Addr}{c0:Nat}(bP:ab.C (ab.int .u8) w0 ao B.length B)(eT:B.length≤c0)(lo hi:Nat)(h1:lo≤hi)(h2:hi≤B.length):
 ∃(bd:Option Addr) (c1:Nat),(∀W:World,(Instr.slice 22 (.slice ao B.length c0) (some (.int .i64 (lo:Int))) (some (.int .i64 (hi:Int))) none).run Tryz.prog W=.ok (.slice bd (hi-lo) c1) W)∧
  ∀W,Below w0.heap.size w0 W→(convert 22 9 (.slice bd (hi-lo) c1)).run Tryz.prog W=.ok (.string (sub B lo hi)) W:=by
 refine Tc ?_;intro aq aD hC hcut;exact⟨_,_,hcut,fun W fD=>ab.rK (P:=Tryz.prog) Tryz.underlying22 Tryz.underlying5 Tryz.underlying9 (ab.ko hC fD)⟩
inductive Nm (B:List Int) (p:Nat):Int→ByteArray→Nat→Int→Prop
 |ident (an:fR (rd B (p:Int))=true) (q:Nat) (ar:q=p+eU (B.drop p)):Nm B p 1 (sub B p q) q (if fF (B.drop q)=true then 2 else 1)
theorem Nm.le{B:List Int}{p:Nat}{kind:Int}{str:ByteArray}{q:Nat}{told:Int}(h:Nm B p kind str q told):p≤q:=by
 cases h with
 |ident an q ar=>omega
theorem abD{w0 w:World}{g:Nat}{B:List Int}{p:Nat}{l:List cx}(h:cu w0 w g B p 1 l)(hp:p<B.length)(an:fR (rd B (p:Int))=true)(aq:l.length≤1000000):
 Calls Tryz.prog 23 #[.pointer (some ⟨g,0,none⟩)] w fun e w'=>∃kind str q told,Nm B p kind str q told∧e=.returned (.bool (told==1))∧cu w0 w' g B q told (if told=1 then l++[⟨2,kind,p,false,sub B p q,str⟩]else l):=by
 have fh:=I aq;clear aq;obtain⟨ao,c0,bd,c3,aT,bh,bA,y3,z0,cp,z2,au⟩:=h.fL;obtain⟨cc,aD,al⟩:=ab.iV au.out.1 (p:Int) (by omega) (by omega);cases aD;refine GU ?_;clear al;intro al;have LC:=I an;generalize ai:rd B (p:Int)=c at al an;have bt:(c==91)=false:=by rw[beq_eq_false_iff_ne];rintro rfl;revert an;decide
 refine GG ?_;intro p0 ba;have X:=I h;have cr:=I hp;have dS:=I h.sz;clear h hp ai;go_enter Tryz.func23,Tryz.ntmps23
 go_upto_block 0 with(first|(refine vc ?_;rintro bx w1 ⟨rfl,⟨iX,rfl⟩⟩;rw[an]))
 repeat(go_quiet(first|(refine vc ?_;rintro bx w1 ⟨rfl,⟨iX,rfl⟩⟩;rw[an]));go_upto_block 0 with(first|(refine vc ?_;rintro bx w1 ⟨rfl,⟨iX,rfl⟩⟩;rw[an])))
 go_cut [5,6] (fun v0 v1 wc=>∃(kind:Int) (str:ByteArray) (q:Nat) (told:Int),v0=.int .i64 kind∧v1=.string str∧aN (Nm B p kind str q told)∧aN (cu w0 wc g B q told l))
 case first=>
  go_wp2_with(first|(refine vc ?_;rintro bx w1 ⟨rfl,⟨iX,rfl⟩⟩;rw[an]))
  go_loopg [] (eU (B.drop p)) (fun k w'=>∃q:Nat,aN (q+k=p+eU (B.drop p)∧p≤q)∧aN (cu w0 w' g B q 1 l))
  case atStart=>exact⟨p,⟨rfl,Nat.le_refl _⟩,⟨(by first|exact X.1.drewN _|exact(X.1.drewN _).drewN _)⟩⟩
  case round=>
   clear aT bh bA y3 z0 cp z2 al X;obtain⟨q,aV,dG⟩:=hrel;have h0:=T2 (B.drop q);have th:B.drop q=(B.drop p).drop (q-p):=by rw[List.drop_drop];congr 1;have:=aV.1;omega
   rw[th,Ug _ (q-p) sR,←th]at h0;clear th;have dx:=I (show p+eU (B.drop p)≤B.length by have:=G2 (B.drop p);rw[List.length_drop]at this;have:=cr.1;omega);cases h1:fR (a6 (B.drop q) 0)
   ·cases h2:cN (a6 (B.drop q) 0)
    ·rw[h1,h2,Bool.false_or]at h0
     have kj:q=p+eU (B.drop p):=by
      have h3:=of_decide_eq_false h0.symm;have:=aV.1;omega
     have fp:=I kj;clear h0 kj
     go_wp2_with(first
      |(go_at_call 38;first|(refine(ql (cT.1.drewN _)).mono ?_;rintro db bf ⟨rfl,aW⟩;have df:=I aW;obtain⟨bF,c4,cZ,ck,aT,bh,bA,y3,z0,cp,z2,bP⟩:=aW.fL;clear aW)|go_must(refine(ql dG.1).mono ?_;rintro fO w3 ⟨rfl,cv⟩;have cT:=I cv;obtain⟨kc,c2,uw,c12,aT,bh,bA,y3,z0,cp,z2,ff⟩:=cv.fL;clear cv))
      |(refine z7 ?_;rintro bx w1 ⟨rfl,⟨dh,rfl⟩⟩;rw[h1])
      |(refine Aa ?_;rintro bx w1 ⟨rfl,⟨iX,rfl⟩⟩;rw[h2]))
     obtain⟨yH,c5,hcut,iB⟩:=AL bP.out.1 bP.out.2 p q sR B9;have hq:∀m,(convert 22 9 (.slice yH (q-p) c5)).run Tryz.prog ((bf.drewN m))=.ok (.string (sub B p q)) (bf.drewN m):=fun m=>iB _ (df.1.drewN m).bu;clear iB;by_cases ar:q<B.length
     ·obtain⟨dp,gW,al⟩:=ab.iV bP.out.1 (q:Int) (by omega) (by omega);cases gW;rw[Int.toNat_natCast]at al;replace al:=(df.1.bu.cell (World.block_lt_of_cell? w0 _ al)).trans al;have d0:decide ((q:Int)<(B.length:Int))=true:=decide_eq_true (by omega);have d1:=eq_true (show(0:Int)≤(q:Int)by omega);have d2:=eq_true (show(q:Int)<(B.length:Int)by omega);have bS:=I (show fF (B.drop q)=iH (rd B (q:Int))by rw[gz B q ar];rfl);have fz:=I ar;clear ar
      repeat(go_quiet(fail);try go_wp2_with fail)
      refine fX (n:=23) (S:=fun w'=>w'.cell? ⟨g,0,none⟩=some (.slice (some dp) B.length c4)∧w'.cell? ⟨g,1,none⟩=some (.int .i64 (q:Int))∧w'.cell? (dp.add q)=some (.int .u8 (rd B (q:Int)))) (ds:=[]) #[false,false,false,false,false,false,false,false,false,false,false,false,false,false,false,false,false,false,false,false,false,false,false] aM rfl rfl ⟨aT,bh,al⟩ (fun hHeld=>?_);refine ax 0 57 ?_;refine ax 1 58 ?_;refine ax 2 59 ?_;refine ax 4 61 ?_;refine ax 5 62 ?_;refine ax 6 63 ?_;refine eb 3 60 ?_;refine eb 7 64 ?_;refine ax 8 65 ?_;refine ax 9 66 ?_;refine ax 10 67 ?_;refine ax 11 68 ?_;refine ax 12 69 ?_;refine ax 13 70 ?_;refine ax 15 72 ?_;refine ax 16 73 ?_;refine ax 17 74 ?_;refine eb 14 71 ?_;refine eb 18 75 ?_;refine ax 19 76 ?_;refine eb 20 77 ?_;refine gb 21 78 fun K aH=>?_;refine Lh ?_;rintro aE rY ⟨rfl,⟨wj,rfl⟩⟩;refine Cu ?_;clear aH K;intro hHeld;refine ax 22 79 ?_;refine jX aM ?_;cases aw:iH (rd B (q:Int))
      ·go_wp2_with fail
       go_meet
       case rel=>exact⟨1,sub B p q,q,1,pz,pz,⟨(by have eD:=Nm.ident (B:=B) (p:=p) LC.1 q fp.1;rw[bS.1,aw,if_neg (by decide)]at eD;exact eD)⟩,⟨I4⟩⟩
      ·go_wp2_with(first|(go_at_call 13;refine(pF I4).mono ?_;rintro k3 kb ⟨rfl,eK⟩;have gS:=I eK;clear eK))
       go_meet
       case rel=>exact⟨1,sub B p q,q,2,pz,pz,⟨(by have eD:=Nm.ident (B:=B) (p:=p) LC.1 q fp.1;rw[bS.1,aw,if_pos rfl]at eD;exact eD)⟩,⟨gS.1⟩⟩
     ·have d0:decide ((q:Int)<(B.length:Int))=false:=decide_eq_false (by omega);have aj2:decide (q<B.length)=false:=decide_eq_false ar;have d2:=eq_false (show¬(q:Int)<(B.length:Int)by omega);have d0:=eq_false ar;refine KD ?_;clear ar;intro bS
      repeat(go_quiet(fail);try go_wp2_with fail)
      go_meet
      case rel=>exact⟨1,sub B p q,q,1,pz,pz,⟨(by have eD:=Nm.ident (B:=B) (p:=p) LC.1 q fp.1;rw[bS.1,if_neg (by decide)]at eD;exact eD)⟩,⟨I4⟩⟩
    ·rw[h1,h2,Bool.false_or]at h0;have oc:=I (of_decide_eq_true h0.symm);clear h0
     go_wp2_with(first
      |(go_at_call 38;first|(refine(ql (cT.1.drewN _)).mono ?_;rintro db bf ⟨rfl,aW⟩;have df:=I aW;obtain⟨bF,c4,cZ,ck,aT,bh,bA,y3,z0,cp,z2,bP⟩:=aW.fL;clear aW)|go_must(refine(ql dG.1).mono ?_;rintro fO w3 ⟨rfl,cv⟩;have cT:=I cv;obtain⟨kc,c2,uw,c12,aT,bh,bA,y3,z0,cp,z2,ff⟩:=cv.fL;clear cv))
      |(refine z7 ?_;rintro bx w1 ⟨rfl,⟨dh,rfl⟩⟩;rw[h1])
      |(refine Aa ?_;rintro bx w1 ⟨rfl,⟨iX,rfl⟩⟩;rw[h2]))
     go_roundg(p+eU (B.drop p)-(q+1))
     case measure=>have:=aV.1;have:=oc.1;omega
     case rel=>
      refine Gz ?_;intro hw;exact(df.1.drewN iX).setAt (q+1) Fg
   ·rw[h1,Bool.true_or]at h0;have oc:=I (of_decide_eq_true h0.symm);clear h0
    go_wp2_with(first
     |(go_at_call 38;first|(refine(ql (cT.1.drewN _)).mono ?_;rintro db bf ⟨rfl,aW⟩;have df:=I aW;obtain⟨bF,c4,cZ,ck,aT,bh,bA,y3,z0,cp,z2,bP⟩:=aW.fL;clear aW)|go_must(refine(ql dG.1).mono ?_;rintro fO w3 ⟨rfl,cv⟩;have cT:=I cv;obtain⟨kc,c2,uw,c12,aT,bh,bA,y3,z0,cp,z2,ff⟩:=cv.fL;clear cv))
     |(refine z7 ?_;rintro bx w1 ⟨rfl,⟨dh,rfl⟩⟩;rw[h1]))
    go_roundg(p+eU (B.drop p)-(q+1))
    case measure=>have:=aV.1;have:=oc.1;omega
    case rel=>
     refine Gz ?_;intro hw;exact(cT.1.drewN dh).setAt (q+1) Fg
 case rest=>
  obtain⟨kind,str,q,told,rfl,rfl,bV,dG⟩:=hcut;by_cases aU:told=1
  ·subst aU;have hv:((1:Int)==1)=true:=rfl
   go_wp2_with(first|(refine CK ?_;rintro bx w1 ⟨rfl,aW⟩;have cT:=I aW;clear aW))
   obtain⟨⟨hd,fJ,hlen,ew⟩,dw,hle,dd⟩:=cT.1;obtain⟨ao,c0,bd,c3,U,aw,bP,rfl,rfl,eT⟩:=fJ;obtain⟨yH,c5,hcut,iB⟩:=AL bP eT p q bV.1.le hle;rw[hlen]at U;have jZ:=I U;have Dj:=I ew;have wI:=I dw;have nj:=I iB;have fz:=I (And.intro aw (And.intro bP (And.intro eT (And.intro hle dd))));generalize hraw:sub B p q=raw at*;have Qy:=I hraw;clear U ew dw iB aw bP eT hle dd hlen hraw;apply Lw (R:=fun A n m vq=>cu w0 vq g B q 1 (l++[⟨2,kind,p,false,raw,str⟩]))
   case h=>
    refine fX (n:=25) (S:=fun w'=>w'.cell? ⟨g,0,none⟩=some (.slice ao B.length c0)∧w'.cell? ⟨g,1,none⟩=some (.int .i64 (q:Int))∧w'.cell? ⟨g,3,none⟩=some (.slice hd.A l.length hd.c)∧(convert 22 9 (.slice yH (q-p) c5)).run Tryz.prog w'=.ok (.string raw) w') (ds:=[24]) #[false,false,false,false,false,false,false,false,false,false,false,false,false,false,false,false,false,false,false,false,false,false,false,false,false] aM rfl rfl ⟨(bg (gl jZ.1) 0).trans rfl,(bg (gl jZ.1) 1).trans rfl,(bg (gl jZ.1) 3).trans rfl,nj.1 _ (Below.drew wI.1)⟩ (fun hHeld=>?_);refine TF ?_;intro hHeld K aH;refine ab.Iu l0 (w0:=w0) w0.heap.size (by rfl) (.tmp 107) (.tmp 123) 24 32 (.agg #[.int .i64 0,.int .i64 0,.int .i64 0,.bool false,.string ⟨#[]⟩,.string ⟨#[]⟩]) 64 (by rfl) Tryz.underlying24 Lv rfl (by decide) (by decide) (.slice hd.A l.length hd.c) l (⟨2,kind,p,false,raw,str⟩:cx) [.int .i64 2,.int .i64 kind,.int .i64 (p:Int),.bool false,.string raw,.string str] (fun k=>k≠g) (fun _=>False) (by rfl) (by rfl) (BX _ _ _ (⟨2,kind,p,false,raw,str⟩:cx)) (fun _ ad=>ad.elim) (fun k ad=>ab.EC (gl jZ.1) k ad) (ab.pW Dj.1) (Below.drew wI.1) (Below.drew wI.1).size pB ?_;intro v2 bf ew dw sg ea;obtain⟨bF,m0,aZ⟩:=ab.pU ew;generalize jf:List.length _=bn at aZ;subst aZ;have bz:=I (qF (gl jZ.1) sg (ab.pV (ab.pW Dj.1) (gl jZ.1) (by decide)));refine KM ?_;clear ew dw sg ea jf aH K
    intro hT l7 jc d0 Gs hHeld;refine ax 22 125 ?_;refine ax 23 126 ?_;refine pZ 24 fun K aH=>?_;refine yt ?_;clear aH K;refine⟨bF,bn,m0,rfl,I ⟨⟨⟨bF,bn,m0⟩,⟨ao,c0,bF,m0,j7 bz.1 3 _ rfl,fz.1.1,fz.1.2.1,rfl,rfl,fz.1.2.2.1⟩,jc.1.symm,?_⟩,l7.1.setCell fz.1.1 _,fz.1.2.2.2.1,fz.1.2.2.2.2⟩⟩;have:=ab.mo hT.1 (p:=⟨g,3,none⟩) (fun _ ad=>ad) (.slice bF bn m0);rw[←jc.1]at this⊢;exact this
   case k=>
    intro bF bn m0 cJ xQ;exact Qx
  ·exact Rm
end cP
