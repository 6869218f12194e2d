/- Part 9 of the proof (Tk5). Conditions: each theorem's own. -/
import Derived.Test.YtmpeadgiclfapaaGreatDoorZ10
set_option linter.all false
set_option maxHeartbeats 0
set_option maxRecDepth 100000
namespace Go.Proofs.YtmpeadgiclfapaaGreatDoor
namespace cP
open RowKit YtmpeadgiclfapaaGreatDoorW.PrintWords YtmpeadgiclfapaaGreatDoorW.PrintLast YtmpeadgiclfapaaGreatDoorW.PrintMore ei
def ti(B:List Int)(p:Nat)(str:ByteArray)(q:Nat)(told:Int):Prop:=(∃k,∀hd:fC,fM.f k B (p:Int) 1 hd=some (str,(q:Int),told))∧p≤q∧q≤B.length
theorem Ha{w0 w:World}{g:Nat}{B:List Int}{p:Nat}{l:List cx}{str:ByteArray}{q:Nat}{told:Int}(h:cu w0 w g B p 1 l)(cV:ti B p str q told):
 Calls Tryz.prog 36 #[.pointer (some ⟨g,0,none⟩)] w fun e w'=>e=.returned (.string str)∧cu w0 w' g B q told l:=by
 obtain⟨⟨k,ad⟩,h0,h1⟩:=cV;exact(fM.calls k g B p 1 h.st.choose str q told w0 w h.st.choose_spec.1 h.bu (ad _)).mono fun e w' ⟨h2,h3,h4,h5⟩=>⟨h2,h.wO rfl h3 h4 h5 h1⟩
inductive wT (B:List Int) (p:Nat):Int→ByteArray→Nat→Int→Prop
 |LD (ai:rd B (p:Int)=91) (str:ByteArray) (q:Nat) (told:Int) (h:ti B p str q told):wT B p 2 str q told
 |num (hd:cN (rd B (p:Int))=true) (q:Nat) (ar:q=p+bI (B.drop p)):wT B p 3 (sub B p q) q (nb B p q)
 |sign (ai:rd B (p:Int)=45∨rd B (p:Int)=46∨rd B (p:Int)=43):wT B p 0 ⟨#[]⟩ p 2
 |other (ai:¬(rd B (p:Int)=91)∧cN (rd B (p:Int))=false∧¬(rd B (p:Int)=45∨rd B (p:Int)=46∨rd B (p:Int)=43)):wT B p 0 ⟨#[]⟩ p 0
theorem wT.le{B:List Int}{p:Nat}{kind:Int}{str:ByteArray}{q:Nat}{told:Int}(h:wT B p kind str q told):p≤q:=by
 cases h with
 |LD ai str q told h=>exact h.2.1
 |num hd q ar=>omega
 |sign ai=>exact Nat.le_refl _
 |other ai=>exact Nat.le_refl _
theorem abI{w0 w:World}{g:Nat}{B:List Int}{p:Nat}{l:List cx}(h:cu w0 w g B p 1 l)(hp:p<B.length)(an:fR (rd B (p:Int))=false)(bG:∀x∈B,0≤x∧x<256)(mE:rd B (p:Int)=91→∃str q told,ti B p str q told)(aq:l.length≤1000000):
 Calls Tryz.prog 23 #[.pointer (some ⟨g,0,none⟩)] w fun e w'=>∃kind str q told,wT B p kind str q told∧e=.returned (.bool (told==1))∧cu w0 w' g B q told (if told=1 then l++[⟨2,kind,p,false,sub B p q,str⟩]else l):=by
 have fh:=I aq;clear aq;obtain⟨ao,c0,bd,c3,aT,bh,bA,y3,z0,cp,z2,au⟩:=h.fL;obtain⟨cc,aD,al⟩:=ab.iV au.out.1 (p:Int) (by omega) (by omega);cases aD;refine GU ?_;clear al;intro al;obtain⟨c,ai⟩:∃c,c=rd B (p:Int):=⟨_,rfl⟩;rw[←ai]at al an;have fZ:=I ai;have fq:=I bG
 have LF:=I mE;clear bG mE;refine GG ?_;intro p0 ba;have X:=I h;have cr:=I hp;have dS:=I h.sz;clear h hp ai;go_enter Tryz.func23,Tryz.ntmps23
 go_upto_block 0 with(first|(refine vc ?_;rintro bx w1 ⟨rfl,⟨iX,rfl⟩⟩;rw[an]))
 repeat(go_quiet(first|(refine vc ?_;rintro bx w1 ⟨rfl,⟨iX,rfl⟩⟩;rw[an]));go_upto_block 0 with(first|(refine vc ?_;rintro bx w1 ⟨rfl,⟨iX,rfl⟩⟩;rw[an])))
 go_cut [5,6] (fun v0 v1 wc=>∃(kind:Int) (str:ByteArray) (q:Nat) (told:Int),v0=.int .i64 kind∧v1=.string str∧aN (wT B p kind str q told)∧aN (cu w0 wc g B q told l))
 case first=>
  by_cases h0:c=91
  ·obtain⟨str,q,told,mE⟩:=LF.1 (fZ.1▸h0);have bt:(c==91)=true:=beq_iff_eq.mpr h0;have dW:=I h0;have et:=I mE;clear h0 mE
   go_wp2_with(first|(go_at_call 36;refine(Ha EW et.1).mono ?_;rintro db bf ⟨rfl,aW⟩;have cT:=I aW;clear aW))
   go_meet
   case rel=>exact⟨2,str,q,told,pz,pz,⟨.LD (fZ.1▸dW.1) str q told et.1⟩,⟨cT.1⟩⟩
  have bt:(c==91)=false:=beq_eq_false_iff_ne.mpr h0;have dW:=I h0;clear h0;cases gM:cN c
  ·by_cases ak:c=45∨c=46∨c=43
   ·rcases ak with ak|ak|ak
    all_goals(
     subst ak
     go_wp2_with(first|(go_at_call 37;refine(uX _ _).mono ?_;rintro bx w1 ⟨rfl,⟨iX,rfl⟩⟩;rw[an])|(go_at_call 39;refine(xN _ _).mono ?_;rintro bx w1 ⟨rfl,⟨wj,rfl⟩⟩;rw[gM])|(go_at_call 13;refine(pF EW).mono ?_;rintro db bf ⟨rfl,aW⟩;have cT:=I aW;clear aW))
     go_meet
     case rel=>exact⟨0,⟨#[]⟩,p,2,pz,pz,⟨.sign (by rw[←fZ.1];decide)⟩,⟨cT.1⟩⟩)
   ·have bt:(c==45)=false:=beq_eq_false_iff_ne.mpr (fun h=>ak (.inl h));have di:(c==46)=false:=beq_eq_false_iff_ne.mpr (fun h=>ak (.inr (.inl h)));have eS:(c==43)=false:=beq_eq_false_iff_ne.mpr (fun h=>ak (.inr (.inr h)));have av:=I ak;have cf:=I gM;clear ak
    go_wp2_with(first|(refine vc ?_;rintro bx w1 ⟨rfl,⟨iX,rfl⟩⟩;rw[an])|(go_at_call 39;refine(xN c _).mono ?_;rintro bx w1 ⟨rfl,⟨wj,rfl⟩⟩;rw[gM])|(go_at_call 16;refine(p3 EW).mono ?_;rintro db bf ⟨rfl,aW⟩;have cT:=I aW;clear aW))
    go_meet
    case rel=>exact⟨0,⟨#[]⟩,p,0,pz,pz,⟨.other (fZ.1▸⟨dW.1,cf.1,av.1⟩)⟩,⟨cT.1⟩⟩
  ·have cf:=I gM
   go_wp2_with(first|(refine vc ?_;rintro bx w1 ⟨rfl,⟨iX,rfl⟩⟩;rw[an])|(go_at_call 39;refine(xN c _).mono ?_;rintro bx w1 ⟨rfl,⟨wj,rfl⟩⟩;rw[gM])|(go_at_call 41;refine(abG EW cr.1 (fZ.1▸cf.1) fq.1).mono ?_;rintro db bf ⟨q,ar,rfl,aW⟩;have cT:=I aW;have lJ:=I ar;clear aW ar))
   go_meet
   case rel=>exact⟨3,sub B p q,q,nb B p q,pz,pz,⟨.num (fZ.1▸cf.1) q lJ.1⟩,⟨cT.1⟩⟩
 case rest=>
  obtain⟨kind,str,q,told,rfl,rfl,bV,dG⟩:=hcut;by_cases aU:told=1
  ·subst aU;have hv:((1:Int)==1)=true:=rfl
   go_wp2_with(first|(refine CK ?_;rintro bx w1 ⟨rfl,aW⟩;have cT:=I aW;clear aW))
   obtain⟨⟨hd,fJ,hlen,ew⟩,dw,hle,dd⟩:=cT.1;obtain⟨ao,c0,bd,c3,U,aw,bP,rfl,rfl,eT⟩:=fJ;obtain⟨bF,c5,hcut,iB⟩:=AL bP eT p q bV.1.le hle;rw[hlen]at U;have jZ:=I U;have Dj:=I ew;have wI:=I dw;have nj:=I iB;have fz:=I (And.intro aw (And.intro bP (And.intro eT (And.intro hle dd))));generalize hraw:sub B p q=raw at*;have Qy:=I hraw;clear U ew dw iB aw bP eT hle dd hlen hraw;apply Lw (R:=fun A n m vq=>cu w0 vq g B q 1 (l++[⟨2,kind,p,false,raw,str⟩]))
   case h=>
    refine fX (n:=25) (S:=fun w'=>w'.cell? ⟨g,0,none⟩=some (.slice ao B.length c0)∧w'.cell? ⟨g,1,none⟩=some (.int .i64 (q:Int))∧w'.cell? ⟨g,3,none⟩=some (.slice hd.A l.length hd.c)∧(convert 22 9 (.slice bF (q-p) c5)).run Tryz.prog w'=.ok (.string raw) w') (ds:=[24]) #[false,false,false,false,false,false,false,false,false,false,false,false,false,false,false,false,false,false,false,false,false,false,false,false,false] aM rfl rfl ⟨(bg (gl jZ.1) 0).trans rfl,(bg (gl jZ.1) 1).trans rfl,(bg (gl jZ.1) 3).trans rfl,nj.1 _ (Below.drew wI.1)⟩ (fun hHeld=>?_);refine TF ?_;intro hHeld K aH;refine ab.Iu l0 (w0:=w0) w0.heap.size (by rfl) (.tmp 107) (.tmp 123) 24 32 (.agg #[.int .i64 0,.int .i64 0,.int .i64 0,.bool false,.string ⟨#[]⟩,.string ⟨#[]⟩]) 64 (by rfl) Tryz.underlying24 Lv rfl (by decide) (by decide) (.slice hd.A l.length hd.c) l (⟨2,kind,p,false,raw,str⟩:cx) [.int .i64 2,.int .i64 kind,.int .i64 (p:Int),.bool false,.string raw,.string str] (fun k=>k≠g) (fun _=>False) (by rfl) (by rfl) (BX _ _ _ (⟨2,kind,p,false,raw,str⟩:cx)) (fun _ ad=>ad.elim) (fun k ad=>ab.EC (gl jZ.1) k ad) (ab.pW Dj.1) (Below.drew wI.1) (Below.drew wI.1).size pB ?_;intro v2 bf ew dw sg ea;obtain⟨cZ,m0,aZ⟩:=ab.pU ew;generalize jf:List.length _=bn at aZ;subst aZ;have bz:=I (qF (gl jZ.1) sg (ab.pV (ab.pW Dj.1) (gl jZ.1) (by decide)));refine KM ?_;clear ew dw sg ea jf aH K
    intro hT l7 jc d0 Gs hHeld;refine ax 22 125 ?_;refine ax 23 126 ?_;refine pZ 24 fun K aH=>?_;exact RJ
   case k=>
    intro cZ bn m0 cJ xQ;exact Qx
  ·exact Rm
end cP
