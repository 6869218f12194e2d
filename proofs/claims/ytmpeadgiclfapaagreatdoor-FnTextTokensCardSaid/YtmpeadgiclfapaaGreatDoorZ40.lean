/- Part 38 of the proof (Psb). Conditions: each theorem's own. -/
import Derived.Test.YtmpeadgiclfapaaGreatDoorZ39
set_option linter.all false
set_option maxHeartbeats 0
set_option maxRecDepth 100000
namespace Go.Proofs.YtmpeadgiclfapaaGreatDoor
namespace fx
open RowKit YtmpeadgiclfapaaGreatDoorW.PrintWords YtmpeadgiclfapaaGreatDoorW.PrintLast YtmpeadgiclfapaaGreatDoorW.PrintMore ei cP gJ eI eC gi j6
theorem four(a b r:Int):a≠92∨(a=92∧b≠117)∨(a=92∧b=117∧r=65533)∨(a=92∧b=117∧r≠65533):=by omega
theorem ahn{w0 w ay:World}{aJ:Nat}{B s st:List Int}{lc af q:Int}{r t:List Int}{A:Option Addr}{n c:Nat}{v7:Value}{m:Nat}(h:lG w0 w ay aJ B s st lc af q r t A n c v7 m){t2:List Int}{y:Int}{N D:Nat}(aU:t=92::y::t2)(aX:((y=117∧D=4)∨(y=85∧D=8))∧N=D+2)(D9:D≤t2.length)(v:Int)(aZ:pu 16 4294967295 0 (t2.take D)=some v)(zk:55296≤v∧v<57344):jR w0 w ay aJ B s st lc af q r A n c v7:=by
 refine j3 ?_;intro g ec dc eE dv dD dE eQ eR av;subst aU;obtain⟨aX,eD⟩:=aX;refine Dc ?_;intro eu bl gx fq bV dY m0 fi fj dO fP;intro ja cR cd cY fG hx cM bt bR hA0;subst hA0;refine Lp ?_;clear cR;intro cK gT wz kz;have hf:(y==34)=false:=by rcases aX with⟨rfl,_⟩|⟨rfl,_⟩<;>rfl
 have s1:(y==39)=false:=by rcases aX with⟨rfl,_⟩|⟨rfl,_⟩<;>rfl
 have s2:(y==92)=false:=by rcases aX with⟨rfl,_⟩|⟨rfl,_⟩<;>rfl
 have rM:(y==63)=false:=by rcases aX with⟨rfl,_⟩|⟨rfl,_⟩<;>rfl
 have rN:(y==97)=false:=by rcases aX with⟨rfl,_⟩|⟨rfl,_⟩<;>rfl
 have rO:(y==98)=false:=by rcases aX with⟨rfl,_⟩|⟨rfl,_⟩<;>rfl
 have vT:(y==110)=false:=by rcases aX with⟨rfl,_⟩|⟨rfl,_⟩<;>rfl
 have Au:(y==114)=false:=by rcases aX with⟨rfl,_⟩|⟨rfl,_⟩<;>rfl
 have Av:(y==116)=false:=by rcases aX with⟨rfl,_⟩|⟨rfl,_⟩<;>rfl
 have Aw:(y==118)=false:=by rcases aX with⟨rfl,_⟩|⟨rfl,_⟩<;>rfl
 have Ax:(y==102)=false:=by rcases aX with⟨rfl,_⟩|⟨rfl,_⟩<;>rfl
 have Nh:(y==48)=false:=by rcases aX with⟨rfl,_⟩|⟨rfl,_⟩<;>rfl
 have Nk:(y==49)=false:=by rcases aX with⟨rfl,_⟩|⟨rfl,_⟩<;>rfl
 have Nl:(y==50)=false:=by rcases aX with⟨rfl,_⟩|⟨rfl,_⟩<;>rfl
 have Nn:(y==51)=false:=by rcases aX with⟨rfl,_⟩|⟨rfl,_⟩<;>rfl
 have No:(y==52)=false:=by rcases aX with⟨rfl,_⟩|⟨rfl,_⟩<;>rfl
 have Np:(y==53)=false:=by rcases aX with⟨rfl,_⟩|⟨rfl,_⟩<;>rfl
 have Nq:(y==54)=false:=by rcases aX with⟨rfl,_⟩|⟨rfl,_⟩<;>rfl
 have Nr:(y==55)=false:=by rcases aX with⟨rfl,_⟩|⟨rfl,_⟩<;>rfl
 have Ns:(y==120)=false:=by rcases aX with⟨rfl,_⟩|⟨rfl,_⟩<;>rfl
 have qc:D=4∨D=8:=by rcases aX with⟨_,e⟩|⟨_,e⟩<;>omega
 have Ah:hP (y::t2)=kk D 0 t2:=by rcases aX with⟨rfl,rfl⟩|⟨rfl,rfl⟩;exact HJ t2;exact M4 t2
 have cL:y<128:=by rcases aX with⟨rfl,_⟩|⟨rfl,_⟩<;>decide
 refine KC ?_;intro ka sb zT kS CW CX bN fk;refine C5 ?_;intro As iz lJ At;clear aX Ah cL qc eD kS bN wz iz;have aho:=I aZ;have tw:=I zk;have Ti:=I D9;clear aZ zk D9;clear h eu
 conv=>arg 2;whnf
 go_upto_if 274 with(first|(refine pK ?_;intro w1 az aC di ek aD al;cases aD;rw[cK.1]at al;clear az))
 refine wp_cut (fun a' w'=>w1=w'∧∃aa:Nat→Value,a'=(⟨List.toArray (.pointer (some ⟨aJ,0,none⟩)::aa 1::.string ⟨#[]⟩::.nilIface::.slice (some ⟨bt,bR,none⟩) n c::.int .u8 q::aa 6::v7::aa 8::aa 9::.int .u8 y::vV aa (.bool true::nA aa ([]))),[]⟩:Act)) ?_ ?_
 rotate_left
 ·exact JX
 rintro _ _ ⟨rfl,g0,rfl⟩;simp only[vV,nA];go_step
 go_upto_if 278 with fail
 refine wp_cut (fun a' w'=>w1=w'∧∃aa:Nat→Value,a'=(⟨List.toArray (.pointer (some ⟨aJ,0,none⟩)::aa 1::.string ⟨#[]⟩::.nilIface::.slice (some ⟨bt,bR,none⟩) n c::.int .u8 q::aa 6::v7::vU aa (.int .i64 (N:Int)::qK aa ([]))),[]⟩:Act)) ?_ ?_
 rotate_left
 ·exact JY
 rintro _ _ ⟨rfl,g0,rfl⟩;simp only[vU,qK,sK,nA];go_step
 go_upto_region 73 with fail
 refine Th ?_;intro Ao p0 ba dy um Ap qc ao c4 bs dP jN hq o6 dS ix uU hn hU;obtain⟨bd,c3,oD,nU⟩:=av.1.v.from_ N (by omega);have ky:=I nU;have HU:=I um;have lO:=M3 D 0 4294967295 t2 kz.1 um (Int.le_refl _) (by rcases qc with rfl|rfl<;>decide);clear bs hU nU um Ap qc;have Ak:¬1114111<v:=by have:=tw.1;omega
 have aZ:=aho.1;rcases lO with⟨iL,_⟩|⟨v2,iL,bO,hvM,lO⟩
 ·rw[aZ]at iL;cases iL
 obtain rfl:v=v2:=by rw[aZ]at iL;exact Option.some.inj iL
 clear iL;have akw:decide (55296≤v∧v<57344)=true:=decide_eq_true tw.1;have dx:=I (av.1.inv.xi gT.1 (fun gd e=>by rw[ka.1.1,lO,decide_eq_true (.inr tw.1)]at e;simp at e));refine SZ ?_;intro mw yg v0 v1 Gp KG yh
 have kj:=av.1.inv.pk gT.1 (ka.1.1.trans lO) (D+1) rfl (Nat.succ_le_succ HU.1) (fun x ae=>by
  rw[List.take_succ_cons,List.mem_cons]at ae;rcases ae with ae|ae
  ·rw[ae];exact ka.1.2.1
  ·exact yh x ae)
 have np:(92::y::t2).drop N=t2.drop D:=by rw[ka.1.2.2.2];rfl
 rw[←np]at kj;have fp:=I kj;clear kj yh np aZ lO
 go_upto_region 81 with(first|(refine F4 ?_;rintro bk bf ⟨h0,_,az⟩;obtain rfl:=h0 v ix.1 xK;refine yc ?_;intro bM;clear az h0)|(go_at_call 104;refine(Wi v _).mono ?_;rintro bk w1 ⟨rfl,⟨iX,rfl⟩⟩))
 by_cases h0:n-N<6
 ·have p0:decide (((n-N:Nat):Int)<6)=true:=decide_eq_true (by omega);have ba:=eq_true (show((n-N:Nat):Int)<6 by omega);have dy:=eq_true h0;have u0:=((dq av.1.bu av.1.bu.size bM.1).cell (p:=⟨0,0,none⟩) fk.1.1).trans fk.1.2;have u1:=u0
  go_wp2_with fail
  repeat(go_quiet(fail);try go_wp2_with(fail))
  go_ret2;exact sV av.1 dx.1 (bw bM.1 (Nat.le_refl _) cX)
 have r1:decide (((n-N:Nat):Int)<6)=false:=decide_eq_false (by omega);have gd:=eq_false (show¬((n-N:Nat):Int)<6 by omega);have gd:=eq_false h0;have fe:=eq_true (show(1:Int)<((n-N:Nat):Int)by omega);have iM:=eq_true (show 1<n-N by omega);have o8:=eq_true (show(0:Int)<((n-N:Nat):Int)by omega);have akx:=eq_true (show 0<n-N by omega);obtain⟨t0,hv⟩:∃t0,t0=(92::y::t2).drop N:=⟨_,rfl⟩;have nU:=ky.1;have kj:=fp.1;rw[←hv]at nU kj;have jf:n-N=t0.length:=nU.dN;have WW:∀x∈t0,0≤x∧x<256:=fun x ae=>fq.1 x (by rw[hv]at ae;exact List.mem_of_mem_drop ae)
 obtain⟨z0,cp,t3,rfl⟩:∃z0 cp t3,t0=z0::cp::t3:=by
  cases t0 with
  |nil=>simp at jf;omega
  |cons z0 t0=>
   cases t0 with
   |nil=>simp at jf;omega
   |cons cp t3=>exact⟨z0,cp,t3,rfl⟩
 have HV:4≤t3.length:=by simp only[List.length_cons]at jf;omega
 obtain⟨di,ek,hA1,_⟩:=nU.cell 0 (by omega);subst hA1;have WX:=dq av.1.bu av.1.bu.size bM.1;obtain⟨bF,c5,te,hU⟩:=nU.Al 2 6 (by omega) (by omega);rw[show((z0::cp::t3).take 6).drop 2=t3.take 4 from rfl]at hU;have bs:∀aQ:World,(Instr.slice 22 (.slice (some ⟨di,ek,none⟩) (n-N) c3) (some (.int .i64 2)) (some (.int .i64 6)) none).run Tryz.prog aQ=.ok (.slice bF 4 c5) aQ:=te;obtain⟨WY,_⟩:=nU.pI 6 (by omega);have ui:∀aQ:World,(Instr.slice 22 (.slice (some ⟨di,ek,none⟩) (n-N) c3) none (some (.int .i64 6)) none).run Tryz.prog aQ=.ok (.slice (some ⟨di,ek,none⟩) 6 c3) aQ:=WY;obtain⟨cZ,kr,WZ,vI⟩:=nU.from_ 6 (by omega);have HT:∀aQ:World,(Instr.slice 22 (.slice (some ⟨di,ek,none⟩) (n-N) c3) (some (.int .i64 6)) none none).run Tryz.prog aQ=.ok (.slice cZ (n-N-6) kr) aQ:=WZ;have gM:(92::y::t2).drop (N+6)=t3.drop 4:=by rw[←List.drop_drop,←hv];rfl
 have o4:=I (show dZ w0 cZ (n-N-6) kr ((92::y::t2).drop (N+6))by rw[gM];exact vI);have iB:=hU.str (jI WX iX);have W0:=I (show∀x∈t3,0≤x∧x<256 from fun x ae=>WW x tQ);have W1:=I (show(t3.take 4).length=4 by rw[List.length_take];exact Nat.min_eq_left HV);have yJ:=I (show(strOfNums (t3.take 4)).size≤100 by rw[tc,W1.1];decide);have ahq:=I (show(strOfNums (t3.take 4)).size≠0 by rw[tc,W1.1];decide);have W2:=I (show ints (strOfNums (t3.take 4))=t3.take 4 from CZ _ (fun x ae=>W0.1 x (List.mem_of_mem_take ae)));have ahr:=M3 4 0 65535 t3 W0.1 HV (Int.le_refl _) (by decide);have HW:=I nU;have Nt:=I (And.intro kj (And.intro HV gM));have oi:=I h0;have ahs:=I (S0 4 0 t3);clear nU kj jf WW HV te WY WZ hU vI gM hv WX h0 Ao;rcases ahr with⟨hw,lO⟩|⟨v9,hw,hX,hwM,lO⟩
 ·have Nu:=I hw;clear hw lO
  go_upto_region 85 with(first|(go_at_call 103;refine(V7 _ yJ.1 (dq av.1.bu av.1.bu.size (bw bM.1 (Nat.le_refl _) cX)) av.1.E).mono ?_;rintro bk w1 ⟨_,h0,az⟩;obtain⟨al,dI,aT,rfl⟩:=h0 (.inr (by rw[W2.1];exact Nu.1));refine Kz ?_;intro aC;clear az h0)|(go_at_call 105;refine(Wj _ _ _).mono ?_;rintro bk w3 ⟨yM,rfl,⟨iX,rfl⟩⟩))
  obtain⟨eS,o1,aD,al⟩:=(HW.1.below (dq av.1.bu av.1.bu.size aC.1)).cell 0 (by have:=oi.1;omega);cases aD;obtain⟨eS,o1,aD,eg⟩:=(HW.1.below (dq av.1.bu av.1.bu.size aC.1)).cell 1 (by have:=oi.1;omega);cases aD;rw[Nat.add_zero,show rd (z0::cp::t3) ((0:Nat):Int)=z0 from rfl]at al;rw[show rd (z0::cp::t3) ((1:Nat):Int)=cp from rfl]at eg;have Nv:=four z0 cp yM;rcases Nv with h1|⟨h1,h2⟩|⟨h1,h2,h3⟩|⟨h1,h2,h3⟩
  ·exact R9
  ·refine S4 ?_;intro a0 cg a2 a3;exact Cn
  ·exact Sp
  ·refine Km ?_;intro a0 cg a2 a3;have a4:(yM==65533)=false:=beq_eq_false_iff_ne.mpr h3;exact Cn
 ·have Nu:=I hw;have W3:=I lO;clear hw lO hX hwM
  go_upto_region 85 with(first|(go_at_call 103;refine(V7 _ yJ.1 (dq av.1.bu av.1.bu.size (bw bM.1 (Nat.le_refl _) cX)) av.1.E).mono ?_;rintro bk w1 ⟨h0,_,az⟩;obtain rfl:=h0 v9 ahq.1 (by rw[W2.1];exact Nu.1);refine Kz ?_;intro aC;clear az h0)|(go_at_call 105;refine(Wj _ _ _).mono ?_;rintro bk w3 ⟨yM,rfl,⟨iX,rfl⟩⟩))
  obtain⟨eS,o1,aD,al⟩:=(HW.1.below (dq av.1.bu av.1.bu.size aC.1)).cell 0 (by have:=oi.1;omega);cases aD;obtain⟨eS,o1,aD,eg⟩:=(HW.1.below (dq av.1.bu av.1.bu.size aC.1)).cell 1 (by have:=oi.1;omega);cases aD;rw[Nat.add_zero,show rd (z0::cp::t3) ((0:Nat):Int)=z0 from rfl]at al;rw[show rd (z0::cp::t3) ((1:Nat):Int)=cp from rfl]at eg;have Nv:=four z0 cp yM;rcases Nv with h1|⟨h1,h2⟩|⟨h1,h2,h3⟩|⟨h1,h2,h3⟩
  ·exact R9
  ·refine S4 ?_;intro a0 cg a2 a3;exact Cn
  ·exact Sp
  ·have iJ:=Nt.1.1;rw[h1,h2]at iJ
   have Nw:=iJ.pk gT.1 ((HJ t3).trans W3.1) 5 rfl (Nat.succ_le_succ Nt.1.2.1) (fun x ae=>by
    rw[List.take_succ_cons,List.mem_cons]at ae;rcases ae with ae|ae
    ·rw[ae];decide
    ·exact ahs.1 _ W3.1 x ae)
   rw[←Nt.1.2.2]at Nw;have aht:=I Nw;clear iJ Nw;refine Km ?_;intro a0 cg a2 a3;have a4:(yM==65533)=false:=beq_eq_false_iff_ne.mpr h3;obtain⟨str,mc⟩:∃str,str=Utf8.encode yM:=⟨_,rfl⟩;have lg:=I (WT yM);rw[←mc]at lg;have kX:∀W:World,(convert 21 9 (.int .i32 yM)).run Tryz.prog W=.ok (.string str) W:=fun W=>by rw[mc];exact run_convert_int_string W 21 9 .i32 _ (by rw[Tryz.underlying21];rfl) Tryz.underlying9
   clear mc
   go_wp2_with(first|(at_builtin;refine MM rfl (.tmp 353) (.tmp 355) 22 9 rfl rfl rfl (Wq (av.1.o.below (bw aC.1 (Nat.le_refl _) cX)|>.oj (dq av.1.bu av.1.bu.size (bw aC.1 (Nat.le_refl _) cX))) (dq av.1.b av.1.b.size (bw aC.1 (Nat.le_refl _) cX)) str lg.1.1 Pq 22) ?_;rintro v3 w1 ⟨mA,mB⟩;have J:=I mA;have fA:=I mB;clear mA mB))
   refine Met.intro ?_;go_step;exact l8.mk (n:=n-N-6) (m:=m+str.size) (A:=cZ) (c:=kr) (v7:=v3) (t:=(92::y::t2).drop (N+6)) aM rfl rfl rfl rfl rfl rfl (by have:=ja.1;have:=ka.1;omega) (av.1.next (N+6) fA.1 o4.1 (.inr J.1) aht.1 (by have:=ja.1;have:=ka.1;have:=oi.1;omega) (by have:=lg.1;have:=ka.1;omega))
end fx
