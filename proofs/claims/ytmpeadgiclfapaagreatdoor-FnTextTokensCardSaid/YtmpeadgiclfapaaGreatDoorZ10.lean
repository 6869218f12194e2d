/- Part 8 of the proof (Tk4). Conditions: each theorem's own. -/
import Derived.Test.YtmpeadgiclfapaaGreatDoorZ9
set_option linter.all false
set_option maxHeartbeats 0
set_option maxRecDepth 100000
namespace Go.Proofs.YtmpeadgiclfapaaGreatDoor
namespace cP
open RowKit YtmpeadgiclfapaaGreatDoorW.PrintWords YtmpeadgiclfapaaGreatDoorW.PrintLast YtmpeadgiclfapaaGreatDoorW.PrintMore ei
theorem abE(s:List Int):∀i,i≤bI s→bI (s.drop i)=bI s-i:=by
 induction s with
 |nil=>intro i h;simp[bI]at h;simp[h]
 |cons c r bb=>
  intro i h;cases i with
  |zero=>simp
  |succ i=>
   simp only[bI]at h⊢;by_cases ai:cN c=true
   ·rw[if_pos ai]at h⊢;rw[List.drop_succ_cons,bb i (by omega)];omega
   ·rw[if_neg ai]at h;omega
def jx(n:Int):List Int→Int
 |[]=>n
 |c::r=>if cN c then jx (if 10*n+(c-48)≤2147483648 then 10*n+(c-48)else 2147483648) r else n
theorem aa3(B:List Int)(n:Int)(q:Nat)(h:q<B.length)(hd:cN (rd B (q:Int))=true):jx n (B.drop q)=jx (if 10*n+(rd B (q:Int)-48)≤2147483648 then 10*n+(rd B (q:Int)-48)else 2147483648) (B.drop (q+1)):=by
 rw[gz B q h];simp only[jx];rw[if_pos hd]
theorem abF(s:List Int)(n:Int)(h:cN (a6 s 0)=false):jx n s=n:=by
 cases s with
 |nil=>rfl
 |cons c r=>
  have:cN c=false:=h;simp only[jx];rw[if_neg (by rw[this];decide)]
theorem strOfNums_size(xs:List Int):(strOfNums xs).size=xs.length:=by simp[strOfNums,ByteArray.size]
theorem Uh(B:List Int)(lo hi:Nat)(h:hi≤B.length):(sub B lo hi).size=hi-lo:=by
 unfold sub;rw[strOfNums_size,List.length_drop,List.length_take];omega
def nb(B:List Int)(p q:Nat):Int:=if(bB (sub B p q) 0=48∧1<q-p)∨fF (B.drop q)=true then 2 else if 2147483647<jx 0 (B.drop p)then 0 else 1
theorem abG{w0 w:World}{g:Nat}{B:List Int}{p:Nat}{l:List cx}(h:cu w0 w g B p 1 l)(hp:p<B.length)(gM:cN (rd B (p:Int))=true)(bG:∀x∈B,0≤x∧x<256):
 Calls Tryz.prog 41 #[.pointer (some ⟨g,0,none⟩)] w fun e w'=>∃q,q=p+bI (B.drop p)∧e=.returned (.string (sub B p q))∧cu w0 w' g B q (nb B p q) l:=by
 obtain⟨ao,c0,bd,c3,aT,bh,bA,y3,z0,cp,z2,au⟩:=h.fL;have AM:0<bI (B.drop p):=by rw[gz B p hp];simp only[bI];rw[if_pos gM];omega
 have abH:=I AM;have fq:=I bG
 have X:=I h;have cr:=I hp;have dS:=I h.sz;clear h hp gM AM bG
 go_enter Tryz.func41,Tryz.ntmps41
 go_wp2_with fail
 go_loopg [4] (bI (B.drop p)) (fun k v0 w'=>∃(q:Nat) (n:Int),v0=.int .i64 n∧aN (q+k=p+bI (B.drop p)∧p≤q)∧aN (0≤n∧n≤2147483648∧jx n (B.drop q)=jx 0 (B.drop p))∧aN (cu w0 w' g B q 1 l))
 case atStart=>exact⟨p,0,rfl,⟨rfl,Nat.le_refl _⟩,⟨(by decide),(by decide),rfl⟩,⟨(by first|exact X.1|exact X.1.drewN _)⟩⟩
 case round=>
  clear aT bh bA y3 z0 cp z2 X;obtain⟨q,n,rfl,aV,bV,dG⟩:=hrel;have h0:=abj (B.drop q);have th:B.drop q=(B.drop p).drop (q-p):=by rw[List.drop_drop];congr 1;have:=aV.1;omega
  rw[th,abE _ (q-p) sR,←th]at h0;clear th;have dx:=I (show p+bI (B.drop p)≤B.length by have:=uh (B.drop p);rw[List.length_drop]at this;have:=cr.1;omega);cases h1:cN (a6 (B.drop q) 0)
  ·rw[h1]at h0;have fp:=I (show q=p+bI (B.drop p)by have h2:=of_decide_eq_false h0.symm;have:=aV.1;omega);clear h0
   go_wp2_with(first
    |(go_at_call 38;refine(ql dG.1).mono ?_;rintro aD w1 ⟨rfl,aW⟩;have cT:=I aW;obtain⟨bF,c2,cZ,ck,aT,bh,bA,y3,z0,cp,z2,bP⟩:=aW.fL;clear aW)
    |(refine Aa ?_;rintro bx bf ⟨rfl,⟨dh,rfl⟩⟩;rw[h1]))
   obtain⟨kc,c5,hcut,iB⟩:=AL bP.out.1 bP.out.2 p q sR B9;have hq:∀m,(convert 22 9 (.slice kc (q-p) c5)).run Tryz.prog (w1.drewN m)=.ok (.string (sub B p q)) (w1.drewN m):=fun m=>iB _ (cT.1.drewN m).bu;clear iB;have Z3:=I (abF (B.drop q) n h1);have aG:(sub B p q).size=q-p:=Uh B p q B9;have yI:0<q-p:=by have:=fp.1;have:=abH.1;omega
   obtain⟨str,mc⟩:∃str,str=sub B p q:=⟨_,rfl⟩;rw[←mc]at hq aG;have B2:=I mc.symm;have hf:=eq_true (show(0:Int)<(str.size:Int)by omega);have s1:=eq_true (show 0<str.size by omega);have cv:∀h:0<str.size,((str[0]'h).toNat:Int)=bB str 0:=nx str 0;have yJ:=I aG;clear mc aG;by_cases z3:bB str 0=48
   ·have bt:(bB str 0==48)=true:=beq_iff_eq.mpr z3;by_cases z0:1<q-p
    ·have di:decide ((1:Int)<(str.size:Int))=true:=decide_eq_true (by have:=yJ.1;omega);have eS:decide (1<str.size)=true:=decide_eq_true (by have:=yJ.1;omega);have dz:=I (show nb B p q=2 by unfold nb;rw[if_pos (.inl ⟨(by rw[B2.1];exact z3),z0⟩)]);clear z3 z0 yI
     repeat(go_quiet(fail);try go_wp2_with fail)
     exact RI
    ·have di:decide ((1:Int)<(str.size:Int))=false:=decide_eq_false (by have:=yJ.1;omega);have eS:decide (1<str.size)=false:=decide_eq_false (by have:=yJ.1;omega);have ct:=I (show¬(bB str 0=48∧1<q-p)from fun h=>z0 h.2);clear z3 z0 yI;by_cases ar:q<B.length
     ·obtain⟨dp,fO,al⟩:=ab.iV bP.out.1 (q:Int) (by omega) (by omega);cases fO;refine Lk ?_;clear al;intro al;refine GK ?_;intro a1 bQ fs;refine Gj ?_;intro l5;clear ar
      repeat(go_quiet(fail);try go_wp2_with fail)
      refine fX (n:=33) (S:=fun w'=>w'.cell? ⟨g,0,none⟩=some (.slice (some dp) B.length c2)∧w'.cell? ⟨g,1,none⟩=some (.int .i64 (q:Int))∧w'.cell? (dp.add q)=some (.int .u8 (rd B (q:Int)))) (ds:=[]) #[false,false,false,false,false,false,false,false,false,false,false,false,false,false,false,false,false,false,false,false,false,false,false,false,false,false,false,false,false,false,false,false,false] aM rfl rfl ⟨aT,bh,al⟩ (fun hHeld=>?_);refine ax 0 47 ?_;refine eb 1 48 ?_;refine ax 2 49 ?_;refine ax 3 50 ?_;refine ax 4 51 ?_;refine ax 5 52 ?_;refine ax 6 53 ?_;exact RH
     ·exact Ro
   ·have bt:(bB str 0==48)=false:=beq_eq_false_iff_ne.mpr z3;have ct:=I (show¬(bB str 0=48∧1<q-p)from fun h=>z3 h.1);clear z3 yI;by_cases ar:q<B.length
    ·obtain⟨dp,fO,al⟩:=ab.iV bP.out.1 (q:Int) (by omega) (by omega);cases fO;refine Lk ?_;clear al;intro al;refine GK ?_;intro a1 bQ fs;refine Gj ?_;intro l5;clear ar
     repeat(go_quiet(fail);try go_wp2_with fail)
     refine fX (n:=33) (S:=fun w'=>w'.cell? ⟨g,0,none⟩=some (.slice (some dp) B.length c2)∧w'.cell? ⟨g,1,none⟩=some (.int .i64 (q:Int))∧w'.cell? (dp.add q)=some (.int .u8 (rd B (q:Int)))) (ds:=[]) #[false,false,false,false,false,false,false,false,false,false,false,false,false,false,false,false,false,false,false,false,false,false,false,false,false,false,false,false,false,false,false,false,false] aM rfl rfl ⟨aT,bh,al⟩ (fun hHeld=>?_);refine ax 0 47 ?_;refine eb 1 48 ?_;refine ax 2 49 ?_;refine ax 3 50 ?_;refine BL (i:=4) (N:=some 51) (v:=undef) (a':=?_) #[true,true,true,true,true,false,false,false,false,false,false,false,false,false,false,false,false,false,false,false,false,false,false,false,false,false,false,false,false,false,false,false,false] rfl rfl aM (fun _ _ _ h=>h) (Or.inr ⟨(by rfl),rfl⟩) ?_ ?_
     rotate_left
     ·exact J9
     refine BL (i:=5) (N:=some 52) (v:=undef) (a':=?_) #[true,true,true,true,true,true,false,false,false,false,false,false,false,false,false,false,false,false,false,false,false,false,false,false,false,false,false,false,false,false,false,false,false] rfl rfl aM (fun _ _ _ h=>h) (Or.inr ⟨(by rfl),rfl⟩) ?_ ?_
     rotate_left
     ·exact J9
     refine BL (i:=6) (N:=some 53) (v:=undef) (a':=?_) #[true,true,true,true,true,true,true,false,false,false,false,false,false,false,false,false,false,false,false,false,false,false,false,false,false,false,false,false,false,false,false,false,false] rfl rfl aM (fun _ _ _ h=>h) (Or.inr ⟨(by rfl),rfl⟩) ?_ ?_
     rotate_left
     ·exact J9
     exact RH
    ·exact Ro
  ·rw[h1]at h0;have oc:=I (of_decide_eq_true h0.symm);clear h0;have fo:q<B.length:=by have:=dx.1;have:=oc.1;have:=aV.1;omega
   have bx:a6 (B.drop q) 0=rd B (q:Int):=by rw[gz B q fo];rfl
   have iD:cN (rd B (q:Int))=true:=bx▸h1;have Ui:48≤rd B (q:Int)∧rd B (q:Int)≤57:=by unfold cN at iD;simp only[Bool.and_eq_true,decide_eq_true_eq]at iD;exact iD
   have eZ:=I (And.intro iD Ui);have jJ:=I bx;have fz:=I fo;clear bx iD Ui fo
   go_wp2_with(first
    |(go_at_call 38;refine(ql dG.1).mono ?_;rintro aD w1 ⟨rfl,aW⟩;have cT:=I aW;obtain⟨bF,c2,cZ,ck,aT,bh,bA,y3,z0,cp,z2,bP⟩:=aW.fL;clear aW)
    |(refine Aa ?_;rintro bx bf ⟨rfl,⟨dh,rfl⟩⟩;rw[h1]))
   obtain⟨dp,fO,al⟩:=ab.iV bP.out.1 (q:Int) (by omega) uV;cases fO;refine Lk ?_;clear al;intro al;have d0:=eq_true (show(0:Int)≤(q:Int)by omega);have d1:=eq_true (show(q:Int)<(B.length:Int)by have:=fz.1;omega);generalize rJ:rd B (q:Int)=mR at*;have KV:=I rJ;clear rJ;have bn:(mR-48)%256=mR-48:=by have:=eZ.1.2;omega
   have c8:IntKind.u8.wrap (mR-48)=mR-48:=by have:=eZ.1.2;rw[IntKind.wrap_u8];omega
   have dm:wrap64 (10*n)=10*n:=by have:=bV.1;unfold wrap64;omega
   have n3:wrap64 (10*n+(mR-48))=10*n+(mR-48):=by have:=bV.1;have:=eZ.1.2;unfold wrap64;omega
   have n4:wrap64 (mR-48)=mR-48:=by have:=eZ.1.2;unfold wrap64;omega
   repeat(go_quiet(fail);try go_wp2_with fail)
   case inl h=>
    go_roundg(p+bI (B.drop p)-(q+1))
    case measure=>have:=aV.1;have:=oc.1;omega
    case rel=>
     refine Tl ?_;intro hw aZ;rw[KV.1,if_neg (by omega),bV.1.2.2]at aZ;rw[hw];exact⟨q+1,2147483648,rfl,⟨Jm,sR⟩,⟨(by have:=bV.1;have:=eZ.1.2;omega),(by omega),aZ.symm⟩,⟨Pm⟩⟩
   case inr h=>
    go_roundg(p+bI (B.drop p)-(q+1))
    case measure=>have:=aV.1;have:=oc.1;omega
    case rel=>
     refine Tl ?_;intro hw aZ;rw[KV.1,if_pos (by omega),bV.1.2.2]at aZ;rw[hw];exact⟨q+1,10*n+(mR-48),rfl,⟨Jm,sR⟩,⟨(by have:=bV.1;have:=eZ.1.2;omega),(by omega),aZ.symm⟩,⟨Pm⟩⟩
end cP
