/- Part 22 of the proof (Pc0, Pc1, Cw). Conditions: each theorem's own. -/
import Derived.Test.YtmpeadgiclfapaaGreatDoorZ20
import Derived.Test.YtmpeadgiclfapaaGreatDoorZ21
set_option linter.all false
set_option maxHeartbeats 0
set_option maxRecDepth 100000
namespace Go.Proofs.YtmpeadgiclfapaaGreatDoor
namespace gi
open RowKit YtmpeadgiclfapaaGreatDoorW.PrintWords YtmpeadgiclfapaaGreatDoorW.PrintLast YtmpeadgiclfapaaGreatDoorW.PrintMore ei cP gJ eI eC
structure dZ(W:World)(A:Option Addr)(n c:Nat)(xs:List Int):Prop where
 C:ab.C (ab.int .u8) W A n xs
 dN:n=xs.length
 Hv:n≤c
theorem dZ.below{W aQ:World}{A:Option Addr}{n c:Nat}{xs:List Int}(h:dZ W A n c xs)(U:Below W.heap.size W aQ):dZ aQ A n c xs:=⟨ab.ko h.C U,h.dN,h.Hv⟩
theorem dZ.nil(W:World):dZ W none 0 0 []:=⟨ab.Iz _ W,rfl,Nat.le_refl _⟩
section
variable {W:World} {A:Option Addr} {n c:Nat} {xs:List Int} (h:dZ W A n c xs) (k:Nat) (ad:k≤n)
include h k ad
theorem dZ.from_:
 ∃ib cw,(∀aQ:World,(Instr.slice 22 (.slice A n c) (some (.int .i64 (k:Int))) none none).run Tryz.prog aQ=.ok (.slice ib (n-k) cw) aQ)∧dZ W ib (n-k) cw (xs.drop k):=by
 obtain⟨hC,rfl,ai⟩:=h;have hcut:=IB (P:=Tryz.prog) 22 5 .i64 Tryz.underlying22 (i:=(Tryz.prog.info? 5).getD default) aM 1 aM A xs.length c k (by omega) (by omega);have pg:=ab.ID (m:=k) hC ad ai;have aD:(ab.int .u8).sz=1:=rfl;simp only[Int.toNat_natCast]at hcut;rw[aD,List.length_drop]at pg;exact⟨_,_,hcut,pg,(by rw[List.length_drop]),(by omega)⟩
theorem dZ.pI:
 (∀aQ:World,(Instr.slice 22 (.slice A n c) none (some (.int .i64 (k:Int))) none).run Tryz.prog aQ=.ok (.slice A k c) aQ)∧dZ W A k c (xs.take k):=by
 obtain⟨hC,rfl,ai⟩:=h;have hcut:=Oo (P:=Tryz.prog) 22 5 .i64 Tryz.underlying22 (i:=(Tryz.prog.info? 5).getD default) aM A xs.length c k (by omega) (by omega) ai;have pg:=ab.Ox (m:=k) hC ad;have an:(xs.take k).length=k:=by rw[List.length_take];omega
 rw[an]at pg;simp only[Int.toNat_natCast]at hcut;exact⟨hcut,pg,an.symm,(by omega)⟩
end
theorem dZ.cell{W:World}{A:Option Addr}{n c:Nat}{xs:List Int}(h:dZ W A n c xs)(k:Nat)(ad:k<n):∃b o,A=some ⟨b,o,none⟩∧W.cell? ⟨b,o+k,none⟩=some (.int .u8 (rd xs (k:Int))):=by
 obtain⟨cc,rfl,h0⟩:=ab.iV h.C 0 (by omega) (by omega);obtain⟨dp,aD,ai⟩:=ab.iV h.C (k:Int) (by omega) (by omega);cases aD;obtain⟨b,o,s⟩:=cc;rw[Int.toNat_natCast]at ai;cases s with
 |none=>exact⟨b,o,rfl,(by rw[←Addr.add_lit];exact ai)⟩
 |some z=>
  exfalso;rw[show(⟨b,o,some z⟩:Addr).add (0:Int).toNat=⟨b,o,some z⟩from rfl]at h0;unfold World.cell? at h0;revert h0;split<;>simp
theorem afj:∀(xs:List Int),(∀x∈xs,0≤x∧x<256)→(Lib.indexByte (Lib.bytesOf xs) 10= -1∧bc true xs=[])∨∃i:Nat,Lib.indexByte (Lib.bytesOf xs) 10=i∧i<xs.length∧bc true xs=bc false (xs.drop (i+1)):=by
 intro xs
 induction xs with
 |nil=>intro _;exact .inl ⟨rfl,rfl⟩
 |cons x r bb=>
  intro U;have ae:=U x (by simp)
  have e:(UInt8.ofNat x.toNat==10)=(x==10):=by
   rw[Bool.eq_iff_iff,beq_iff_eq,beq_iff_eq];constructor
   ·intro h;have:=congrArg UInt8.toNat h;rw[UInt8.toNat_ofNat']at this;have h0:(10:UInt8).toNat=10:=rfl;omega
   ·rintro rfl;rfl
  have afk:Lib.bytesOf (x::r)=UInt8.ofNat x.toNat::Lib.bytesOf r:=rfl;rw[afk];simp only[Lib.indexByte,bc];rw[e];by_cases h:x=10
  ·rw[if_pos (beq_iff_eq.mpr h),if_pos h];exact .inr ⟨0,rfl,(by simp),rfl⟩
  ·rw[if_neg (fun h0=>h (beq_iff_eq.mp h0)),if_neg h];rcases bb (fun y aX=>U y (by simp[aX]))with⟨h1,h0⟩|⟨i,h1,h0,h3⟩
   ·rw[h1,if_pos (by decide)];exact .inl ⟨rfl,h0⟩
   ·rw[h1,if_neg (by simp only[beq_iff_eq];omega)];exact .inr ⟨i+1,(by omega),uS,(by rw[h3];rfl)⟩
theorem VD{W:World}{A:Option Addr}{n c:Nat}{xs:List Int}(h:dZ W A n c xs)(aq:0<n):
 Calls Tryz.prog 76 #[.slice A n c,.int .u8 10] W fun e w'=>e=.returned (.int .i64 (Lib.indexByte (Lib.bytesOf xs) 10))∧w'=W:=by
 obtain⟨b,o,rfl,_⟩:=h.cell 0 aq
 exact Tryz.bytes_IndexByte b o n c xs 10 W h.dN.symm (fun i hi=>by
  obtain⟨qD,o',e,ai⟩:=h.cell i hi;simp only[Option.some.injEq,Addr.mk.injEq,and_true]at e;obtain⟨rfl,rfl⟩:=e;rw[ai];unfold rd;rw[Int.toNat_natCast])
theorem Gb{cJ W:World}{A:Option Addr}{n c:Nat}{xs:List Int}(h:dZ cJ A n c xs)(az:Below cJ.heap.size cJ W)(bG:∀x∈xs,0≤x∧x<256)(aq:n≤100000)(k:Nat)(ad:k≤n):
 Calls Tryz.prog 56 #[.slice A n c,.int .i64 (k:Int)] W fun e w'=>∃ib j8 cw,e=.returned (.slice ib j8 cw)∧W=w'∧dZ cJ ib j8 cw (bc false (xs.drop k)):=by
 obtain⟨ao,c1,bs,bO⟩:=h.from_ k ad;have bl:=I bO;have fq:=I bG
 have aC:=I az;have bV:=I (And.intro aq (And.intro ad h.dN));clear bO h bG az;obtain⟨m0,dV⟩:∃m,m=n-k:=⟨_,rfl⟩;rw[←dV]at bs bl;have cW:=I dV;clear dV;go_enter Tryz.func56,Tryz.ntmps56
 go_wp2_with fail
 clear bs
 go_loopg [0] m0 (fun g v0 w'=>∃(bd:Option Addr) (m c2 j:Nat),v0=.slice bd m c2∧w'=W∧aN (m=g∧k≤j)∧aN (dZ cJ bd m c2 (xs.drop j)∧bc false (xs.drop j)=bc false (xs.drop k)))
 case atStart=>exact⟨ao,m0,c1,k,rfl,rfl,⟨rfl,Nat.le_refl _⟩,⟨bl.1,rfl⟩⟩
 case round=>
  obtain⟨bd,m,c2,j,rfl,rfl,aV,bU⟩:=hrel;have lk:=I (show m=xs.length-j by rw[bU.1.1.dN,List.length_drop]);by_cases hm:0<m
  ·obtain⟨b,o,rfl,al⟩:=(bU.1.1.below aC.1).cell 0 hm;refine SW ?_;clear al;intro CY au l2 al;obtain⟨x,ae⟩:∃x,x=rd xs (j:Int):=⟨_,rfl⟩;rw[←ae]at al;have dG:=I ae;have gw:=I hm;clear au ae;have m1:decide ((m:Int)>0)=true:=decide_eq_true (by omega);refine ym ?_;intro fi fj;clear hm;obtain⟨bF,c3,bs,bO⟩:=bU.1.1.from_ 1 tP;have dP:=I bO;have jN:∀aQ:World,(Instr.slice 22 (.slice (some ⟨b,o,none⟩) m c2) (some (.int .i64 1)) none none).run Tryz.prog aQ=.ok (.slice bF (m-1) c3) aQ:=bs;clear bO bs
   have kX:cP.blank x=true∨(cP.blank x=false∧x=35)∨(cP.blank x=false∧x≠35):=by
    cases cP.blank x
    ·by_cases e:x=35
     ·exact .inr (.inl ⟨rfl,e⟩)
     ·exact .inr (.inr ⟨rfl,e⟩)
    ·exact .inl rfl
   rcases kX with U|⟨U,rfl⟩|⟨U,h35⟩
   ·have aW:x=32∨x=9∨x=13∨x=10:=by simpa [cP.blank,or_assoc]using U
    have ej:=I (show bc false (xs.drop j)=bc false (xs.drop (j+1))by rw[l2.1,←dG.1];simp only[bc];rw[if_pos U]);clear U;rcases aW with rfl|rfl|rfl|rfl
    all_goals(
     go_wp2_with fail
     go_roundg(m-1)
     case measure=>have:=aV.1.1;have:=gw.1;omega
     case rel=>exact⟨bF,m-1,c3,j+1,rfl,rfl,⟨rfl,(by have:=aV.1.2;omega)⟩,⟨Ji,(by rw[←ej.1];exact bU.1.2)⟩⟩)
   ·clear U;have ej:=I (show bc true (xs.drop j)=bc false (xs.drop j)by rw[l2.1,←dG.1];simp only[bc];rw[if_neg (by decide),if_neg (by decide),if_pos trivial]);rcases afj (xs.drop j) (fun y aX=>fq.1 y (List.mem_of_mem_drop aX))with⟨i1,i2⟩|⟨i,i1,i2,i3⟩
    ·have bE:=I i1;have td:=I i2;clear i1 i2
     go_wp2_with(first|(go_at_call 76;refine(VD (bU.1.1.below aC.1) gw.1).mono ?_;rintro bk w0 ⟨rfl,rfl⟩;rw[bE.1]))
     go_roundg(0:Nat)
     case measure=>have:=aV.1.1;have:=gw.1;omega
     case rel=>exact⟨none,0,0,xs.length,rfl,rfl,⟨rfl,(by have:=bV.1;omega)⟩,⟨(by rw[List.drop_length];exact dZ.nil _),(by rw[List.drop_length,←bU.1.2,←ej.1,td.1];rfl)⟩⟩
    ·have bE:=I i1;obtain⟨cZ,c4,bs,bO⟩:=bU.1.1.from_ (i+1) (by rw[bU.1.1.dN];omega);have ky:=I bO;have td:=I (show i<m by rw[bU.1.1.dN];exact i2);have afl:=I i3;obtain⟨Bg,uK⟩:∃Bg,Bg=i+1:=⟨_,rfl⟩;rw[←uK]at bs;have MA:=I uK;have hw:wrap64 ((i:Int)+1)=(Bg:Int):=by have:=bV.1;have:=lk.1;have:=td.1;unfold wrap64;omega
     have gM:decide ((i:Int)≥0)=true:=decide_eq_true (by omega);clear i1 i2 i3 bO uK
     go_wp2_with(first|(go_at_call 76;refine(VD (bU.1.1.below aC.1) gw.1).mono ?_;rintro bk w0 ⟨rfl,rfl⟩;rw[bE.1]))
     go_roundg(m-Bg)
     case measure=>have:=aV.1.1;have:=gw.1;have:=MA.1;have:=td.1;omega
     case rel=>exact⟨cZ,m-Bg,c4,j+Bg,rfl,rfl,⟨rfl,(by have:=aV.1.2;omega)⟩,⟨(by have:=ky.1;rw[List.drop_drop,←MA.1]at this;exact this),(by rw[←bU.1.2,←ej.1,afl.1,List.drop_drop,MA.1])⟩⟩
   ·have bL:x≠32∧x≠9∧x≠13∧x≠10:=by simpa [cP.blank,and_assoc]using U
    have dz:=I (show bc false (xs.drop j)=xs.drop j by rw[l2.1,←dG.1];simp only[bc];rw[if_neg (by rw[U];decide),if_neg h35]);have aD:(x==32)=false:=beq_eq_false_iff_ne.mpr bL.1;have bx:(x==9)=false:=beq_eq_false_iff_ne.mpr bL.2.1;have db:(x==13)=false:=beq_eq_false_iff_ne.mpr bL.2.2.1;have fO:(x==10)=false:=beq_eq_false_iff_ne.mpr bL.2.2.2;have gW:(x==35)=false:=beq_eq_false_iff_ne.mpr h35;clear U bL h35
    go_wp2_with fail
    go_ret;exact⟨_,m,c2,rfl,rfl,(by rw[←bU.1.2,dz.1];exact bU.1.1)⟩
  ·have m1:decide ((m:Int)>0)=false:=decide_eq_false (by omega);have ct:=I (show xs.drop j=[]from List.eq_nil_of_length_eq_zero wb);refine vi ?_;intro fi fj;clear hm
   go_wp2_with fail
   go_ret;refine⟨_,m,c2,rfl,rfl,?_⟩;have h0:=bU.1.1;have h1:=bU.1.2;rw[ct.1]at h0 h1;rw[←h1];exact h0
theorem afm{W:World}{A:Option Addr}{n c:Nat}{xs:List Int}(h:dZ W A n c xs)(bG:∀x∈xs,0≤x∧x<256)(aq:n≤100000)(k:Nat)(ad:k≤n):
 Calls Tryz.prog 56 #[.slice A n c,.int .i64 (k:Int)] W fun e w'=>∃ib j8 cw,e=.returned (.slice ib j8 cw)∧W=w'∧dZ W ib j8 cw (bc false (xs.drop k)):=Gb h (Below.refl _ _) bG aq k ad
theorem afn(c:Int):AK.f c=some (!iH c):=by
 unfold AK.f iH fR cN
 repeat' split
 all_goals(
  congr 1;rw[Bool.eq_iff_iff];simp only[Bool.not_eq_true',Bool.or_eq_false_iff,Bool.and_eq_false_iff,decide_eq_false_iff_not,beq_eq_false_iff_ne,Bool.not_true,Bool.not_false,Bool.false_eq_true,eq_self,true_iff,false_iff];omega)
theorem xS(c:Int)(w:World):Calls Tryz.prog 83 #[.int .u8 c] w fun e w'=>e=.returned (.bool (!iH c))∧eO w w':=AK.calls c _ w (afn c)
theorem FK(W:World):eO W W:=⟨⟨0,rfl⟩⟩
theorem Bh{W:World}{A:Option Addr}{n c:Nat}{xs:List Int}(neg:Bool)(h:dZ W A n c xs)(aq:n≤100000):
 Calls Tryz.prog 60 #[.slice A n c,.bool neg] W fun e w'=>e=.returned (.int .i64 (hs neg xs:Nat))∧eO W w':=by
 have bU:=I h;have bV:=I (And.intro aq h.dN);by_cases aG:n=0
 ·subst aG;have afo:=I (show xs=[]from List.eq_nil_of_length_eq_zero h.dN.symm);have dz:=I (show hs neg xs=0 by rw[afo.1];cases neg<;>rfl);clear h aq;go_enter Tryz.func60,Tryz.ntmps60
  go_wp2_with fail
  go_ret;exact⟨(by rw[dz.1];rfl),FK _⟩
 have vC:=I (show 0<n by omega);obtain⟨b,o,rfl,al⟩:=h.cell 0 (by omega);rw[Nat.add_zero]at al;have bn:((n:Int)==0)=false:=beq_eq_false_iff_ne.mpr (by omega);have c8:=eq_true (show(0:Int)<(n:Int)by omega);have dm:=eq_true (show 0<n by omega);have cT:=I (show rd xs ((0:Nat):Int)=a6 xs 0 from rfl);obtain⟨x,ae⟩:∃x,x=rd xs ((0:Nat):Int):=⟨_,rfl⟩;rw[←ae]at al;have dG:=I ae;have VE:=I (show xs=x::xs.drop 1 by have:=gz xs 0 (by rw[←h.dN];omega);rw[List.drop_zero]at this;rw[ae];exact this);clear h aq ae aG;go_enter Tryz.func60,Tryz.ntmps60
 go_upto_region 5 with fail
 go_cut [17] (fun v0 wc=>v0=.bool (mI neg xs)∧wc=W)
 case first=>
  cases neg
  ·go_wp2_with fail
   go_meet
   case rel=>exact⟨rfl,rfl⟩
  ·by_cases ae:x=45
   ·have a7:=I (show mI true xs=true by rw[VE.1,ae];rfl);have bt:(x==45)=true:=beq_iff_eq.mpr ae;exact PT
   ·have a7:=I (show mI true xs=false by rw[VE.1];simp[mI,a8,ae]);have bt:(x==45)=false:=beq_eq_false_iff_ne.mpr ae;exact PT
 case rest=>
  obtain⟨rfl,rfl⟩:=hcut
  go_upto_if 17 with fail
  go_cut [5,6] (fun v1 v2 w'=>∃(ao:Option Addr) (m0 c1:Nat),v1=.int .i64 ((if mI neg xs=true then 1 else 0:Nat):Int)∧v2=.slice ao m0 c1∧w'=wc∧aN (0<m0∧dZ wc ao m0 c1 (pO neg xs)))
  case first=>
   cases U:mI neg xs
   ·have a7:=I U;clear U
    go_wp2_with fail
    go_meet
    case rel=>exact⟨_,n,c,(by rw[a7.1];rfl),rfl,rfl,⟨vC.1,(by unfold pO;rw[a7.1,if_neg (by decide)];exact bU.1)⟩⟩
   ·have a7:=I U;clear U;obtain⟨bd,c3,fV,hr⟩:=bU.1.from_ 1 vC.1;have bl:=I hr;have bs:∀aQ:World,(Instr.slice 22 (.slice (some ⟨b,o,none⟩) n c) (some (.int .i64 1)) none none).run Tryz.prog aQ=.ok (.slice bd (n-1) c3) aQ:=fV;obtain⟨m,hm⟩:∃m,m=n-1:=⟨_,rfl⟩;rw[←hm]at bs bl;have cW:=I hm;clear hr fV hm;by_cases aG:m=0
    ·subst aG
     have dz:=I (show hs neg xs=0 by
      have h0:xs.drop 1=[]:=List.eq_nil_of_length_eq_zero bl.1.dN.symm;unfold hs pO;rw[a7.1,if_pos rfl,h0];rfl)
     go_wp2_with fail
     go_ret;exact⟨(by rw[dz.1];rfl),FK _⟩
    ·have m1:((m:Int)==0)=false:=beq_eq_false_iff_ne.mpr (by omega);have DR:=I (show 0<m by omega);clear aG
     go_wp2_with fail
     go_meet
     case rel=>exact⟨bd,m,c3,(by rw[a7.1];first|rfl|(simp;done)),rfl,rfl,⟨DR.1,(by unfold pO;rw[a7.1,if_pos rfl];exact bl.1)⟩⟩
  case rest=>
   clear al bn c8 dm;obtain⟨ao,m0,c1,rfl,rfl,rfl,dP⟩:=hcut;obtain⟨s,ak⟩:∃s,s=pO neg xs:=⟨_,rfl⟩;rw[←ak]at dP;obtain⟨sz,dd⟩:∃sz,sz=(if mI neg xs=true then 1 else 0:Nat):=⟨_,rfl⟩;rw[←dd];have tL:=I (show hs neg xs=if fR (a6 s 0)=true then(if fF (s.drop (eU s))=true then 0 else sz+eU s)else 0 by rw[ak,dd];rfl);have dS:=I (show sz≤1 by rw[dd];split<;>omega);have ef:=I (show m0≤100000 by have h0:=dP.1.2.dN;have h1:=bV.1;rw[ak]at h0;unfold pO at h0;split at h0<;>(try rw[List.length_drop]at h0)<;>omega);clear ak dd;obtain⟨bt,bR,rfl,al⟩:=dP.1.2.cell 0 dP.1.1;rw[Nat.add_zero]at al;obtain⟨x,ae⟩:∃x,x=rd s ((0:Nat):Int):=⟨_,rfl⟩;rw[←ae]at al;have df:=I (show a6 s 0=x from ae.symm);have dj:=I (show s=x::s.drop 1 by have:=gz s 0 (by rw[←dP.1.2.dN];exact dP.1.1);rw[List.drop_zero]at this;rw[ae];exact this);have gw:=I dP.1.1;have c8:=eq_true (show(0:Int)<(m0:Int)by have:=gw.1;omega);have dm:=eq_true gw.1;clear ae;obtain⟨bd,c3,fV,hr⟩:=dP.1.2.from_ 1 tP;have bl:=I hr;have bs:∀aQ:World,(Instr.slice 22 (.slice (some ⟨bt,bR,none⟩) m0 c1) (some (.int .i64 1)) none none).run Tryz.prog aQ=.ok (.slice bd (m0-1) c3) aQ:=fV;clear hr fV;have PN:=I (show fR x=false→hs neg xs=0 from fun h=>by rw[tL.1,df.1,h];rfl)
   go_upto_block 0 with fail
   go_cut [5,6] (fun v1 v2 w'=>∃(bF:Option Addr) (m2 c4:Nat),v1=.int .i64 ((sz+1:Nat):Int)∧v2=.slice bF m2 c4∧w'=wc∧fR x=true∧dZ wc bF m2 c4 (s.drop 1))
   case first=>
    have hw:wrap64 ((sz:Int)+1)=((sz+1:Nat):Int):=by have:=dS.1;unfold wrap64;omega
    have sP:=I hw;refine Tb ?_;intro dM;rcases dM with aG|aG|aG|aG|aG|aG|aG|aG|aG
    ·refine x2 ?_;intro f0 ln;refine S6 ?_;intro lp lq lr lu lv;exact Cs
    ·refine GX ?_;intro f0 ln lp;intro lq lr lu;have lv:(decide (x≤57))=true:=decide_eq_true (by omega);exact Cs
    ·refine GX ?_;intro f0 ln lp;intro lq lr lu;refine An ?_;intro lv;exact Cs
    ·refine x2 ?_;intro f0 ln;have lp:(decide (65≤x))=true:=decide_eq_true (by omega);refine KQ ?_;intro lq lr lu;refine An ?_;intro lv;exact JP
    ·exact Sj
    ·have f0:(x==95)=true:=beq_iff_eq.mpr (by omega);have ln:(decide (97≤x))=false:=decide_eq_false (by omega);refine zY ?_;intro lp lq lr lu lv;exact JP
    ·exact Sj
    ·refine KP ?_;intro f0 ln;refine zY ?_;intro lp lq lr lu lv;exact JP
    ·refine S5 ?_;intro f0 ln lp lq lr lu lv;exact Cs
   case rest=>
    clear al c8 dm bs;obtain⟨bF,m2,c4,rfl,rfl,rfl,VF,bO⟩:=hcut;have VG:=I VF;have ky:=I bO;clear VF bO
    have MB:=I (show hs neg xs=if fF ((s.drop 1).drop (eU (s.drop 1)))=true then 0 else sz+1+eU (s.drop 1)by
     have hid:eU s=eU (s.drop 1)+1:=by
      conv=>lhs;rw[dj.1]
      simp only[eU];rw[if_pos (by unfold p5;rw[VG.1];rfl)]
     rw[tL.1,df.1,VG.1,if_pos rfl,hid,List.drop_drop,show sz+(eU (s.drop 1)+1)=sz+1+eU (s.drop 1)by omega,show 1+eU (s.drop 1)=eU (s.drop 1)+1 by omega])
    have pE:=I (show m2≤100000 by have h0:=ky.1.dN;have h1:=dP.1.2.dN;have h2:=ef.1;rw[List.length_drop]at h0;omega);obtain⟨ys,pS⟩:∃ys,ys=s.drop 1:=⟨_,rfl⟩;rw[←pS]at MB ky;obtain⟨z0,fH⟩:∃z0,z0=sz+1:=⟨_,rfl⟩;rw[←fH]at MB⊢;have sO:=I (show z0≤2 by have:=dS.1;omega);clear pS fH df dj PN tL dP bl gw ef
    go_upto_block 1 with fail
    go_cut [5,6] (fun v1 v2 w'=>∃(cZ:Option Addr) (m c2 j:Nat),v1=.int .i64 ((z0+j:Nat):Int)∧v2=.slice cZ m c2∧w'=wc∧j≤ys.length∧dZ wc cZ m c2 (ys.drop j)∧j=eU ys)
    case first=>
     go_wp2_with fail
     go_loopg [5,6] m2 (fun g v1 v2 w'=>∃(cZ:Option Addr) (m c2 j:Nat),v1=.int .i64 ((z0+j:Nat):Int)∧v2=.slice cZ m c2∧w'=wc∧aN (m=g∧j≤ys.length)∧aN (dZ wc cZ m c2 (ys.drop j)∧j+eU (ys.drop j)=eU ys))
     case atStart=>exact⟨bF,m2,c4,0,rfl,rfl,rfl,⟨rfl,Nat.zero_le _⟩,⟨ky.1,xJ⟩⟩
     case round=>
      obtain⟨cZ,m,c2,j,rfl,rfl,rfl,aV,bU⟩:=hrel;have lk:=I (show m=ys.length-j by rw[bU.1.1.dN,List.length_drop]);by_cases hm:0<m
      ·obtain⟨di,ek,rfl,al⟩:=bU.1.1.cell 0 hm;have au:rd (ys.drop j) ((0:Nat):Int)=rd ys (j:Int):=by rw[←Nat.add_zero j,←ta];rfl
       rw[au,Nat.add_zero]at al;have l2:=I (gz ys j Ce);obtain⟨x,ae⟩:∃x,x=rd ys (j:Int):=⟨_,rfl⟩;rw[←ae]at al;have dG:=I ae;have gw:=I hm;clear au ae;have m1:decide ((m:Int)>0)=true:=decide_eq_true (by omega);refine ym ?_;intro fi fj;clear hm;obtain⟨bd,c3,fV,hr⟩:=bU.1.1.from_ 1 tP;have bl:=I hr;have bs:∀aQ:World,(Instr.slice 22 (.slice (some ⟨di,ek,none⟩) m c2) (some (.int .i64 1)) none none).run Tryz.prog aQ=.ok (.slice bd (m-1) c3) aQ:=fV;have hw:wrap64 (((z0+j:Nat):Int)+1)=((z0+(j+1):Nat):Int):=by have h0:=sO.1;have h1:=lk.1;have h2:=pE.1;have h1:=ky.1.dN;have h2:=aV.1.2;unfold wrap64;omega
       obtain⟨VH,MC⟩:∃VH,VH=z0+j:=⟨_,rfl⟩;rw[←MC]at hw⊢;have sP:=I hw;have aap:=I MC;clear hr fV MC;refine Tb ?_;intro dM;rcases dM with aG|aG|aG|aG|aG|aG|aG|aG|aG
       ·refine x2 ?_;intro f0 ln;refine S6 ?_;intro lp lq lr lu lv;exact FI
       ·refine GX ?_;intro f0 ln lp;intro lq lr lu;have lv:(decide (x≤57))=true:=decide_eq_true (by omega);exact FJ
       ·refine GX ?_;intro f0 ln lp;intro lq lr lu;refine An ?_;intro lv;exact FI
       ·refine x2 ?_;intro f0 ln;have lp:(decide (65≤x))=true:=decide_eq_true (by omega);refine KQ ?_;intro lq lr lu;refine An ?_;intro lv;exact FJ
       ·exact Si
       ·have f0:(x==95)=true:=beq_iff_eq.mpr (by omega);have ln:(decide (97≤x))=false:=decide_eq_false (by omega);refine zY ?_;intro lp lq lr lu lv;exact FJ
       ·exact Si
       ·refine KP ?_;intro f0 ln;refine zY ?_;intro lp lq lr lu lv;exact FJ
       ·refine S5 ?_;intro f0 ln lp lq lr lu lv;exact FI
      ·have m1:decide ((m:Int)>0)=false:=decide_eq_false (by omega);have ct:=I (show ys.drop j=[]from List.eq_nil_of_length_eq_zero wb);refine vi ?_;intro fi fj;clear hm
       go_wp2_with fail
       go_meet
       case rel=>exact⟨cZ,m,c2,j,rfl,rfl,rfl,aV.1.2,bU.1.1,(by have h0:=bU.1.2;rw[ct.1]at h0;exact h0)⟩
    case rest=>
     obtain⟨cZ,m,c2,j,rfl,rfl,rfl,bq,aZ,ij⟩:=hcut;have bU:=I aZ;have oh:=I ij;have Cj:=I (show hs neg xs=if fF (ys.drop j)=true then 0 else z0+j by rw[MB.1,←ij]);clear aZ ij bq;by_cases hm:0<m
     ·obtain⟨di,ek,rfl,al⟩:=bU.1.cell 0 hm;have au:rd (ys.drop j) ((0:Nat):Int)=rd ys (j:Int):=by rw[←Nat.add_zero j,←ta];rfl
      rw[au,Nat.add_zero]at al;have oS:j<ys.length:=by have h0:=bU.1.dN;rw[List.length_drop]at h0;omega
      have l5:=I (show fF (ys.drop j)=iH (rd ys (j:Int))by rw[gz ys j oS];rfl);obtain⟨x,ae⟩:∃x,x=rd ys (j:Int):=⟨_,rfl⟩;rw[←ae]at al l5;have m1:decide ((m:Int)>0)=true:=decide_eq_true (by omega);refine ym ?_;intro fi fj;clear au ae hm oS;cases aw:iH x
      ·exact Q0
      ·exact Q0
     ·have m1:decide ((m:Int)>0)=false:=decide_eq_false (by omega);have ct:=I (show ys.drop j=[]from List.eq_nil_of_length_eq_zero Fu);refine vi ?_;intro fi fj;clear hm
      go_wp2_with fail
      go_ret;exact⟨(by rw[Cj.1,ct.1];rfl),FK _⟩
end gi
namespace j6
open RowKit
def afp:Code→Code
 | .seq _ b=>b
 |c=>c
def DS:Nat→Code→Code
 |0,c=>c
 |n+1,c=>DS n (afp c)
theorem tt{P:Program}{x y:Code}{Q:Exit→Act→World→Prop}{a:Act}{w:World}(R:Act→World→Prop)(rest:∀a' w',R a' w'→y.wp P Q a' w')(first:∀(lF ic:Act→World→Prop),(∀a' w',R a' w'→lF a' w')→(∀a' w',Met lF a' w'→ic a' w')→x.wp P (Exit.then ic Q) a w):(Code.seq x y).wp P Q a w:=
 wp_seq (wp_cut R rest first)
theorem aai{l:List Value}{n:Nat}(h:l.length=n):l=(List.range n).map (fun i=>l.getD i undef):=by
 subst h;apply List.ext_getElem
 ·simp
 ·intro i h0 h1;simp[List.getD_eq_getElem?_getD,h0]
end j6
