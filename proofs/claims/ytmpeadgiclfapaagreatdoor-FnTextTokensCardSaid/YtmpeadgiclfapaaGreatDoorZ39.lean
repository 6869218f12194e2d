/- Part 37 of the proof (Psa). Conditions: each theorem's own. -/
import Derived.Test.YtmpeadgiclfapaaGreatDoorZ34
set_option linter.all false
set_option maxHeartbeats 0
set_option maxRecDepth 100000
namespace Go.Proofs.YtmpeadgiclfapaaGreatDoor
namespace fx
open RowKit YtmpeadgiclfapaaGreatDoorW.PrintWords YtmpeadgiclfapaaGreatDoorW.PrintLast YtmpeadgiclfapaaGreatDoorW.PrintMore ei cP gJ eI eC gi j6
theorem WT(v:Int):0<(Utf8.encode v).size∧(Utf8.encode v).size≤4:=by
 unfold Utf8.encode;simp only
 repeat' split
 all_goals exact⟨Nat.succ_pos _,(by show List.length _≤4;simp)⟩
theorem aaz{l:List Value}{v0 v2 v3 v4 v5 v7 v10 WU:Value}(an:l.length=358)(h0:l.getD 0 undef=v0)(h2:l.getD 2 undef=v2)(h3:l.getD 3 undef=v3)(h4:l.getD 4 undef=v4)(h5:l.getD 5 undef=v5)(h7:l.getD 7 undef=v7)(h10:l.getD 10 undef=v10)(h274:l.getD 274 undef=WU):∃g:Nat→Value,(⟨l.toArray,[]⟩:Act)=(⟨List.toArray (v0::g 1::v2::v3::v4::v5::g 6::v7::g 8::g 9::v10::vV g (WU::nA g ([]))),[]⟩:Act):=by
 simp only[vV,nA];refine⟨fun i=>l.getD i undef,?_⟩;subst h0;subst h2;subst h3;subst h4;subst h5;subst h7;subst h10;subst h274;exact oZ
theorem aaA{l:List Value}{v0 v2 v3 v4 v5 v7 WV:Value}(an:l.length=358)(h0:l.getD 0 undef=v0)(h2:l.getD 2 undef=v2)(h3:l.getD 3 undef=v3)(h4:l.getD 4 undef=v4)(h5:l.getD 5 undef=v5)(h7:l.getD 7 undef=v7)(h17:l.getD 17 undef=WV):∃g:Nat→Value,(⟨l.toArray,[]⟩:Act)=(⟨List.toArray (v0::g 1::v2::v3::v4::v5::g 6::v7::vU g (WV::qK g ([]))),[]⟩:Act):=by
 simp only[vU,qK,sK,nA];refine⟨fun i=>l.getD i undef,?_⟩;subst h0;subst h2;subst h3;subst h4;subst h5;subst h7;subst h17;exact oZ
section
variable {w0 w ay:World} {aJ:Nat} {B s st:List Int} {lc af q:Int} {r t:List Int} {A:Option Addr} {n c:Nat} {v7:Value} {m:Nat} (h:lG w0 w ay aJ B s st lc af q r t A n c v7 m) {t2:List Int} {y:Int} {N D:Nat} (aU:t=92::y::t2) (aX:((y=117∧D=4)∨(y=85∧D=8))∧N=D+2)
include h aU aX
theorem ahl(nr:t2.length<D):jR w0 w ay aJ B s st lc af q r A n c v7:=by
 refine j3 ?_;intro g ec dc eE dv dD dE eQ eR av;subst aU;obtain⟨aX,eD⟩:=aX;refine Dc ?_;intro eu bl gx fq bV dY m0 fi fj dO fP;intro ja cR cd cY fG hx cM bt bR hA0;subst hA0;refine Lp ?_;clear cR;intro cK gT wz kz;have hf:(y==34)=false:=by rcases aX with⟨rfl,_⟩|⟨rfl,_⟩<;>rfl
 have s1:(y==39)=false:=by rcases aX with⟨rfl,_⟩|⟨rfl,_⟩<;>rfl
 have s2:(y==92)=false:=by rcases aX with⟨rfl,_⟩|⟨rfl,_⟩<;>rfl
 have rM:(y==63)=false:=by rcases aX with⟨rfl,_⟩|⟨rfl,_⟩<;>rfl
 have rN:(y==97)=false:=by rcases aX with⟨rfl,_⟩|⟨rfl,_⟩<;>rfl
 have rO:(y==98)=false:=by rcases aX with⟨rfl,_⟩|⟨rfl,_⟩<;>rfl
 have vT:(y==110)=false:=by rcases aX with⟨rfl,_⟩|⟨rfl,_⟩<;>rfl
 have Au:(y==114)=false:=by rcases aX with⟨rfl,_⟩|⟨rfl,_⟩<;>rfl
 have Av:(y==116)=false:=by rcases aX with⟨rfl,_⟩|⟨rfl,_⟩<;>rfl
 have Aw:(y==118)=false:=by rcases aX with⟨rfl,_⟩|⟨rfl,_⟩<;>rfl
 have Ax:(y==102)=false:=by rcases aX with⟨rfl,_⟩|⟨rfl,_⟩<;>rfl
 have Nh:(y==48)=false:=by rcases aX with⟨rfl,_⟩|⟨rfl,_⟩<;>rfl
 have Nk:(y==49)=false:=by rcases aX with⟨rfl,_⟩|⟨rfl,_⟩<;>rfl
 have Nl:(y==50)=false:=by rcases aX with⟨rfl,_⟩|⟨rfl,_⟩<;>rfl
 have Nn:(y==51)=false:=by rcases aX with⟨rfl,_⟩|⟨rfl,_⟩<;>rfl
 have No:(y==52)=false:=by rcases aX with⟨rfl,_⟩|⟨rfl,_⟩<;>rfl
 have Np:(y==53)=false:=by rcases aX with⟨rfl,_⟩|⟨rfl,_⟩<;>rfl
 have Nq:(y==54)=false:=by rcases aX with⟨rfl,_⟩|⟨rfl,_⟩<;>rfl
 have Nr:(y==55)=false:=by rcases aX with⟨rfl,_⟩|⟨rfl,_⟩<;>rfl
 have Ns:(y==120)=false:=by rcases aX with⟨rfl,_⟩|⟨rfl,_⟩<;>rfl
 have qc:D=4∨D=8:=by rcases aX with⟨_,e⟩|⟨_,e⟩<;>omega
 have Ah:hP (y::t2)=kk D 0 t2:=by rcases aX with⟨rfl,rfl⟩|⟨rfl,rfl⟩;exact HJ t2;exact M4 t2
 have cL:y<128:=by rcases aX with⟨rfl,_⟩|⟨rfl,_⟩<;>decide
 refine KC ?_;intro ka sb zT kS CW CX bN fk;refine C5 ?_;intro As iz lJ At;clear aX Ah cL qc eD kS bN wz iz;have xb:=I nr;clear nr;clear h eu
 conv=>arg 2;whnf
 go_upto_if 274 with(first|(refine pK ?_;intro w1 az aC di ek aD al;cases aD;rw[cK.1]at al;clear az))
 refine wp_cut (fun a' w'=>w1=w'∧∃aa:Nat→Value,a'=(⟨List.toArray (.pointer (some ⟨aJ,0,none⟩)::aa 1::.string ⟨#[]⟩::.nilIface::.slice (some ⟨bt,bR,none⟩) n c::.int .u8 q::aa 6::v7::aa 8::aa 9::.int .u8 y::vV aa (.bool true::nA aa ([]))),[]⟩:Act)) ?_ ?_
 rotate_left
 ·exact JX
 rintro _ _ ⟨rfl,g0,rfl⟩;simp only[vV,nA];go_step
 go_upto_if 278 with fail
 refine wp_cut (fun a' w'=>w1=w'∧∃aa:Nat→Value,a'=(⟨List.toArray (.pointer (some ⟨aJ,0,none⟩)::aa 1::.string ⟨#[]⟩::.nilIface::.slice (some ⟨bt,bR,none⟩) n c::.int .u8 q::aa 6::v7::vU aa (.int .i64 (N:Int)::qK aa ([]))),[]⟩:Act)) ?_ ?_
 rotate_left
 ·exact JY
 rintro _ _ ⟨rfl,g0,rfl⟩;simp only[vU,qK,sK,nA];go_step
 go_upto_region 73 with fail
 have Ao:n<N:=by have:=ja.1;have:=ka.1;have:=xb.1;omega
 have p0:decide ((n:Int)<(N:Int))=true:=decide_eq_true (by omega);have ba:=eq_true (show(n:Int)<(N:Int)by omega);have dy:=eq_true Ao;have dx:=I (av.1.inv.xi gT.1 (fun gd e=>by rw[ka.1.1,agc D 0 t2 xb.1]at e;cases e));have u0:=((dq av.1.bu av.1.bu.size aC.1).cell (p:=⟨0,0,none⟩) fk.1.1).trans fk.1.2;have u1:=u0
 go_wp2_with fail
 repeat(go_quiet(fail);try go_wp2_with(fail))
 go_ret2;exact sV av.1 dx.1 (bw aC.1 (Nat.le_refl _) cX)
theorem ahm(D9:D≤t2.length)(ak:∀v,pu 16 4294967295 0 (t2.take D)=some v→¬(55296≤v∧v<57344)):jR w0 w ay aJ B s st lc af q r A n c v7:=by
 refine j3 ?_;intro g ec dc eE dv dD dE eQ eR av;subst aU;obtain⟨aX,eD⟩:=aX;refine Dc ?_;intro eu bl gx fq bV dY m0 fi fj dO fP;intro ja cR cd cY fG hx cM bt bR hA0;subst hA0;refine Lp ?_;clear cR;intro cK gT wz kz;have hf:(y==34)=false:=by rcases aX with⟨rfl,_⟩|⟨rfl,_⟩<;>rfl
 have s1:(y==39)=false:=by rcases aX with⟨rfl,_⟩|⟨rfl,_⟩<;>rfl
 have s2:(y==92)=false:=by rcases aX with⟨rfl,_⟩|⟨rfl,_⟩<;>rfl
 have rM:(y==63)=false:=by rcases aX with⟨rfl,_⟩|⟨rfl,_⟩<;>rfl
 have rN:(y==97)=false:=by rcases aX with⟨rfl,_⟩|⟨rfl,_⟩<;>rfl
 have rO:(y==98)=false:=by rcases aX with⟨rfl,_⟩|⟨rfl,_⟩<;>rfl
 have vT:(y==110)=false:=by rcases aX with⟨rfl,_⟩|⟨rfl,_⟩<;>rfl
 have Au:(y==114)=false:=by rcases aX with⟨rfl,_⟩|⟨rfl,_⟩<;>rfl
 have Av:(y==116)=false:=by rcases aX with⟨rfl,_⟩|⟨rfl,_⟩<;>rfl
 have Aw:(y==118)=false:=by rcases aX with⟨rfl,_⟩|⟨rfl,_⟩<;>rfl
 have Ax:(y==102)=false:=by rcases aX with⟨rfl,_⟩|⟨rfl,_⟩<;>rfl
 have Nh:(y==48)=false:=by rcases aX with⟨rfl,_⟩|⟨rfl,_⟩<;>rfl
 have Nk:(y==49)=false:=by rcases aX with⟨rfl,_⟩|⟨rfl,_⟩<;>rfl
 have Nl:(y==50)=false:=by rcases aX with⟨rfl,_⟩|⟨rfl,_⟩<;>rfl
 have Nn:(y==51)=false:=by rcases aX with⟨rfl,_⟩|⟨rfl,_⟩<;>rfl
 have No:(y==52)=false:=by rcases aX with⟨rfl,_⟩|⟨rfl,_⟩<;>rfl
 have Np:(y==53)=false:=by rcases aX with⟨rfl,_⟩|⟨rfl,_⟩<;>rfl
 have Nq:(y==54)=false:=by rcases aX with⟨rfl,_⟩|⟨rfl,_⟩<;>rfl
 have Nr:(y==55)=false:=by rcases aX with⟨rfl,_⟩|⟨rfl,_⟩<;>rfl
 have Ns:(y==120)=false:=by rcases aX with⟨rfl,_⟩|⟨rfl,_⟩<;>rfl
 have qc:D=4∨D=8:=by rcases aX with⟨_,e⟩|⟨_,e⟩<;>omega
 have Ah:hP (y::t2)=kk D 0 t2:=by rcases aX with⟨rfl,rfl⟩|⟨rfl,rfl⟩;exact HJ t2;exact M4 t2
 have cL:y<128:=by rcases aX with⟨rfl,_⟩|⟨rfl,_⟩<;>decide
 refine KC ?_;intro ka sb zT kS CW CX bN fk;refine C5 ?_;intro As iz lJ At;clear aX Ah cL qc eD kS bN wz iz;have tw:=I ak;have Ti:=I D9;clear ak D9;clear h eu
 conv=>arg 2;whnf
 go_upto_if 274 with(first|(refine pK ?_;intro w1 az aC di ek aD al;cases aD;rw[cK.1]at al;clear az))
 refine wp_cut (fun a' w'=>w1=w'∧∃aa:Nat→Value,a'=(⟨List.toArray (.pointer (some ⟨aJ,0,none⟩)::aa 1::.string ⟨#[]⟩::.nilIface::.slice (some ⟨bt,bR,none⟩) n c::.int .u8 q::aa 6::v7::aa 8::aa 9::.int .u8 y::vV aa (.bool true::nA aa ([]))),[]⟩:Act)) ?_ ?_
 rotate_left
 ·exact JX
 rintro _ _ ⟨rfl,g0,rfl⟩;simp only[vV,nA];go_step
 go_upto_if 278 with fail
 refine wp_cut (fun a' w'=>w1=w'∧∃aa:Nat→Value,a'=(⟨List.toArray (.pointer (some ⟨aJ,0,none⟩)::aa 1::.string ⟨#[]⟩::.nilIface::.slice (some ⟨bt,bR,none⟩) n c::.int .u8 q::aa 6::v7::vU aa (.int .i64 (N:Int)::qK aa ([]))),[]⟩:Act)) ?_ ?_
 rotate_left
 ·exact JY
 rintro _ _ ⟨rfl,g0,rfl⟩;simp only[vU,qK,sK,nA];go_step
 go_upto_region 73 with fail
 refine Th ?_;intro Ao p0 ba dy um Ap qc ao c4 bs dP jN hq o6 dS ix uU hn hU;obtain⟨bd,c3,oD,iL⟩:=av.1.v.from_ N (by omega);have ky:=I iL;have HU:=I um;have lO:=M3 D 0 4294967295 t2 kz.1 um (Int.le_refl _) (by rcases qc with rfl|rfl<;>decide);clear bs hU iL um Ap qc;rcases lO with⟨aZ,lO⟩|⟨v,aZ,bO,hvM,lO⟩
 ·have mw:=I aZ;have dx:=I (av.1.inv.xi gT.1 (fun gd e=>by rw[ka.1.1,lO]at e;cases e));clear aZ lO
  go_wp2_with(first|(refine F4 ?_;rintro bk bf ⟨_,h0,az⟩;obtain⟨al,dI,aT,rfl⟩:=h0 (.inr xK);refine yc ?_;intro bM;clear az h0)|(refine rZ ?_;rintro bk w3 ⟨⟨dI,dQ,rfl⟩,ee⟩;have eP:=I (bw bM.1 (Nat.le_refl _) (bw (w:=bf) cX (Nat.le_refl _) ee));clear ee))
  all_goals(
   go_ret2;exact sV av.1 dx.1 eP.1)
 ·by_cases Ak:1114111<v
  ·have mw:=I aZ;have dx:=I (av.1.inv.xi gT.1 (fun gd e=>by rw[ka.1.1,lO,decide_eq_true (.inl Ak)]at e;simp at e));have v0:decide (1114111<v)=true:=decide_eq_true Ak;have v1:=eq_true Ak;clear aZ lO
   go_wp2_with(first|(refine F4 ?_;rintro bk bf ⟨h0,_,az⟩;obtain rfl:=h0 v ix.1 xK;refine yc ?_;intro bM;clear az h0)|(refine rZ ?_;rintro bk w3 ⟨⟨dI,dQ,rfl⟩,ee⟩;have eP:=I (bw bM.1 (Nat.le_refl _) (bw (w:=bf) cX (Nat.le_refl _) ee));clear ee))
   go_ret2;exact sV av.1 dx.1 eP.1
  ·have zk:=tw.1 v aZ;have v2:decide (55296≤v∧v<57344)=false:=decide_eq_false zk;refine SZ ?_;intro mw yg v0 v1 Gp KG yh
   have kj:=av.1.inv.pk gT.1 (ka.1.1.trans lO) (D+1) rfl (Nat.succ_le_succ HU.1) (fun x ae=>by
    rw[List.take_succ_cons,List.mem_cons]at ae;rcases ae with ae|ae
    ·rw[ae];exact ka.1.2.1
    ·exact yh x ae)
   have np:(92::y::t2).drop N=t2.drop D:=by rw[ka.1.2.2.2];rfl
   rw[←np]at kj;have fp:=I kj;clear kj yh np aZ lO;obtain⟨str,mc⟩:∃str,str=Utf8.encode v:=⟨_,rfl⟩;have lg:=I (WT v);rw[←mc]at lg;have kX:∀W:World,(convert 21 9 (.int .i32 v)).run Tryz.prog W=.ok (.string str) W:=fun W=>by rw[mc];exact run_convert_int_string W 21 9 .i32 _ (by rw[Tryz.underlying21];rfl) Tryz.underlying9
   clear mc
   go_wp2_with(first|(refine F4 ?_;rintro bk bf ⟨h0,_,az⟩;obtain rfl:=h0 v ix.1 xK;refine yc ?_;intro bM;clear az h0)|(go_at_call 104;refine(Wi v _).mono ?_;rintro bk w1 ⟨rfl,⟨iX,rfl⟩⟩)|(at_builtin;refine MM rfl (.tmp 353) (.tmp 355) 22 9 rfl rfl rfl (Wq (av.1.o.below (bw bM.1 (Nat.le_refl _) cX)|>.oj (dq av.1.bu av.1.bu.size (bw bM.1 (Nat.le_refl _) cX))) (dq av.1.b av.1.b.size (bw bM.1 (Nat.le_refl _) cX)) str lg.1.1 Pq 22) ?_;rintro v0 w1 ⟨mA,mB⟩;have J:=I mA;have fA:=I mB;clear mA mB))
   refine Met.intro ?_;go_step;exact l8.mk (n:=n-N) (m:=m+str.size) (A:=bd) (c:=c3) (v7:=v0) (t:=(92::y::t2).drop N) aM rfl rfl rfl rfl rfl rfl (by have:=ja.1;have:=ka.1;omega) (av.1.next N fA.1 ky.1 (.inr J.1) fp.1 (by have:=ja.1;have:=ka.1;have:=HU.1;omega) (by have:=lg.1;have:=ka.1;omega))
end
end fx
