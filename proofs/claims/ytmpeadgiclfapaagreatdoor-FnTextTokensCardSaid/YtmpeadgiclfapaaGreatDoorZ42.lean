/- Part 40 of the proof (Psc, Pv0, Pv1, Sc0). Conditions: each theorem's own. -/
import Derived.Test.YtmpeadgiclfapaaGreatDoorZ36
import Derived.Test.YtmpeadgiclfapaaGreatDoorZ37
import Derived.Test.YtmpeadgiclfapaaGreatDoorZ38
import Derived.Test.YtmpeadgiclfapaaGreatDoorZ40
import Derived.Test.YtmpeadgiclfapaaGreatDoorZ41
set_option linter.all false
set_option maxHeartbeats 0
set_option maxRecDepth 100000
namespace Go.Proofs.YtmpeadgiclfapaaGreatDoor
namespace fx
open RowKit YtmpeadgiclfapaaGreatDoorW.PrintWords YtmpeadgiclfapaaGreatDoorW.PrintLast YtmpeadgiclfapaaGreatDoorW.PrintMore ei cP gJ eI eC gi j6
theorem ahJ{w0 w ay:World}{aJ:Nat}{B s st:List Int}{lc af q:Int}{r t:List Int}{A:Option Addr}{n c:Nat}{v7:Value}{m:Nat}(h:lG w0 w ay aJ B s st lc af q r t A n c v7 m){t2:List Int}{y:Int}(aU:t=92::y::t2)(h1:qt y=false)(h2:eC.en y=false)(h3:y≠120)(h4:y≠117)(h5:y≠85):jR w0 w ay aJ B s st lc af q r A n c v7:=by
 refine j3 ?_;intro g ec dc eE dv dD dE eQ eR av;subst aU;refine Dc ?_;intro eu bl gx fq bV dY m0 fi fj dO fP;intro ja cR cd cY fG hx cM bt bR hA0;subst hA0;refine KL ?_;intro cK gT;clear cR;have dx:=I (h.inv.xi gT.1 (agd h1 h2 h3 h4 h5));have aY:=h2;simp only[qt,Bool.or_eq_false_iff,beq_eq_false_iff_ne]at h1;simp only[eC.en,Bool.and_eq_false_iff,decide_eq_false_iff_not]at h2;refine Tt ?_;intro hf s1 s2 rM rN rO vT Au Av Aw Ax;have Nh:(y==48)=false:=beq_eq_false_iff_ne.mpr (by omega);have Nk:(y==49)=false:=beq_eq_false_iff_ne.mpr (by omega);have Nl:(y==50)=false:=beq_eq_false_iff_ne.mpr (by omega);have Nn:(y==51)=false:=beq_eq_false_iff_ne.mpr (by omega);have No:(y==52)=false:=beq_eq_false_iff_ne.mpr (by omega);have Np:(y==53)=false:=beq_eq_false_iff_ne.mpr (by omega);have Nq:(y==54)=false:=beq_eq_false_iff_ne.mpr (by omega);have Nr:(y==55)=false:=beq_eq_false_iff_ne.mpr (by omega);have Ns:(y==120)=false:=beq_eq_false_iff_ne.mpr (by omega);have akB:(y==117)=false:=beq_eq_false_iff_ne.mpr (by omega);have akC:(y==85)=false:=beq_eq_false_iff_ne.mpr (by omega);obtain⟨bs,_⟩:=h.v.pI 2 j0;have jN:∀aQ:World,(Instr.slice 22 (.slice (some ⟨bt,bR,none⟩) n c) none (some (.int .i64 2)) none).run Tryz.prog aQ=.ok (.slice (some ⟨bt,bR,none⟩) 2 c) aQ:=bs;clear h1 h2 h3 h4 h5 aY bs;refine C5 ?_;intro As iz lJ At;clear h eu iz
 conv=>arg 2;whnf
 go_wp2_with(first|(refine pK ?_;intro w1 az aC di ek aD al;cases aD;rw[cK.1]at al;clear az)|(refine rZ ?_;rintro bk bf ⟨⟨dI,dQ,rfl⟩,az⟩;refine yc ?_;intro bM;clear az))
 go_ret2;exact sV av.1 dx.1 bM.1
theorem ahK{t:List Int}(bG:∀x∈t,0≤x∧x<256)(h0:128≤a6 t 0):128≤(ha t).1∧((ha t).2=1→(ha t).1=65533):=by
 unfold ha Lib.decodeN;rw[if_neg (by omega)]
 repeat' split
 all_goals(refine⟨?_,fun h=>?_⟩<;>simp only at*<;>omega)
section
variable {w0 w ay:World} {aJ:Nat} {B s st:List Int} {lc af q:Int} {r t:List Int} {A:Option Addr} {n c:Nat} {v7:Value} {m:Nat}
theorem ahL(h:lG w0 w ay aJ B s st lc af q r t A n c v7 m):jR w0 w ay aJ B s st lc af q r A n c v7:=by
 intro g ec dc eE dv dD dE eQ eR;simp only[xH,qK,sK,nA];have bG:=h.lP;cases t with
 |nil=>exact ahu h rfl g ec dc eE dv dD dE eQ eR
 |cons x t1=>
  have eu:0<(x::t1).length:=by simp
  have ae:=bG x (by simp);by_cases oF:x=q
  ·subst oF;rcases h.ar with ar|ar
   ·subst ar;exact agm h rfl rfl g ec dc eE dv dD dE eQ eR
   ·subst ar;exact agn h rfl rfl g ec dc eE dv dD dE eQ eR
  by_cases D2:128≤x
  ·have lB:128≤a6 (x::t1) 0:=D2;obtain⟨d0,d1⟩:=ahK bG lB;have iz:q<128:=by have:=h.ar;omega
   by_cases aG:(ha (x::t1)).2=1
   ·exact ahv h eu (d1 aG) aG lB g ec dc eE dv dD dE eQ eR
   ·have hi:=h.inv.rune iz bG eu lB;by_cases aA:(ha (x::t1)).1=65533
    ·rcases h.ar with ar|ar
     ·exact ago h ar 65533 _ eu (by rw[aA];rfl) rfl ⟨rfl,aG⟩ (by decide) (by decide) (by decide) (by decide) (ar▸hi) g ec dc eE dv dD dE eQ eR
     ·exact agp h ar 65533 _ eu (by rw[aA];rfl) rfl ⟨rfl,aG⟩ (by decide) (by decide) (by decide) (by decide) (ar▸hi) g ec dc eE dv dD dE eQ eR
    ·rcases h.ar with ar|ar
     ·exact Wt h ar _ _ eu rfl rfl (by omega) (by omega) (by omega) (by omega) (by omega) (ar▸hi) g ec dc eE dv dD dE eQ eR
     ·exact Wu h ar _ _ eu rfl rfl (by omega) (by omega) (by omega) (by omega) (by omega) (ar▸hi) g ec dc eE dv dD dE eQ eR
  by_cases h0:x=0
  ·subst h0;exact ahw h rfl g ec dc eE dv dD dE eQ eR
  by_cases h1:x=10
  ·subst h1;exact ahx h rfl g ec dc eE dv dD dE eQ eR
  by_cases h2:x=92
  ·subst h2;cases t1 with
   |nil=>exact ag0 h rfl g ec dc eE dv dD dE eQ eR
   |cons y t2=>
    cases h3:qt y with
    |true=>
     have ahM:=h3;simp only[qt,Bool.or_eq_true,beq_iff_eq]at ahM;by_cases a:y=34
     ·subst a;exact ag1 h rfl g ec dc eE dv dD dE eQ eR
     by_cases b:y=39
     ·subst b;exact ag2 h rfl g ec dc eE dv dD dE eQ eR
     by_cases a:y=92
     ·subst a;exact ag3 h rfl g ec dc eE dv dD dE eQ eR
     by_cases a:y=63
     ·subst a;exact ag4 h rfl g ec dc eE dv dD dE eQ eR
     by_cases a:y=97
     ·subst a;exact ag5 h rfl g ec dc eE dv dD dE eQ eR
     by_cases a:y=98
     ·subst a;exact ag6 h rfl g ec dc eE dv dD dE eQ eR
     by_cases a:y=110
     ·subst a;exact ag7 h rfl g ec dc eE dv dD dE eQ eR
     by_cases a:y=114
     ·subst a;exact ag8 h rfl g ec dc eE dv dD dE eQ eR
     by_cases a:y=116
     ·subst a;exact ag9 h rfl g ec dc eE dv dD dE eQ eR
     by_cases a:y=118
     ·subst a;exact aha h rfl g ec dc eE dv dD dE eQ eR
     by_cases a:y=102
     ·subst a;exact ahb h rfl g ec dc eE dv dD dE eQ eR
     omega
    |false=>
     cases h4:eC.en y with
     |true=>
      simp only[eC.en,Bool.and_eq_true,decide_eq_true_eq]at h4;exact ahh h rfl h4 g ec dc eE dv dD dE eQ eR
     |false=>
      by_cases h5:y=120
      ·subst h5;by_cases aq:min 2 (dt dr t2)=0
       ·exact agK h rfl aq g ec dc eE dv dD dE eQ eR
       ·exact ahc h rfl (Nat.pos_of_ne_zero aq) g ec dc eE dv dD dE eQ eR
      by_cases h6:y=117∨y=85
      ·obtain⟨D,pg⟩:∃D,(y=117∧D=4)∨(y=85∧D=8):=by
        rcases h6 with e|e
        ·exact⟨4,.inl ⟨e,rfl⟩⟩
        ·exact⟨8,.inr ⟨e,rfl⟩⟩
       by_cases ak:∃v,D≤t2.length∧pu 16 4294967295 0 (t2.take D)=some v∧55296≤v∧v<57344
       ·obtain⟨v,aD,bx,db⟩:=ak;exact ahn h rfl ⟨pg,rfl⟩ aD v bx db g ec dc eE dv dD dE eQ eR
       ·by_cases an:D≤t2.length
        ·exact ahm h rfl ⟨pg,rfl⟩ an (fun v aZ au=>ak ⟨v,an,aZ,au⟩) g ec dc eE dv dD dE eQ eR
        ·exact ahl h rfl ⟨pg,rfl⟩ (by omega) g ec dc eE dv dD dE eQ eR
      ·exact ahJ h rfl h3 h4 h5 (fun e=>h6 (.inl e)) (fun e=>h6 (.inr e)) g ec dc eE dv dD dE eQ eR
  ·have hd:=ah (t1:=t1) ae.1 (by omega);have hi:=h.inv.other oF h1 h2 (by omega);have aG:(ha (x::t1)).2=1:=by have:=hd.2;omega
   rcases h.ar with ar|ar
   ·exact Wt h ar x 1 eu hd.1 aG (by omega) h0 h1 h2 (fun e=>oF (e.trans ar.symm)) (ar▸hi) g ec dc eE dv dD dE eQ eR
   ·exact Wu h ar x 1 eu hd.1 aG (by omega) h0 h1 h2 (fun e=>oF (e.trans ar.symm)) (ar▸hi) g ec dc eE dv dD dE eQ eR
theorem D7.mk{l:List Value}(an:l.length=358)(h0:l.getD 0 undef=.pointer (some ⟨aJ,0,none⟩))(h2:l.getD 2 undef=.string ⟨#[]⟩)(h3:l.getD 3 undef=.nilIface)(h4:l.getD 4 undef=.slice A n c)(h5:l.getD 5 undef=.int .u8 q)(h7:l.getD 7 undef=v7)(h:lG w0 w ay aJ B s st lc af q r t A n c v7 m):D7 w0 w aJ B s st lc af q r n ⟨l.toArray,[]⟩ ay:=by
 obtain⟨g,aw⟩:=M7 an h0 h2 h3 h4 h5 h7;exact⟨A,c,v7,m,t,g,h,aw⟩
end
theorem W8{w0 w:World}{aJ:Nat}{B s st:List Int}{lc af q:Int}{r:List Int}(h:dK w0 w aJ B s st lc af)(ak:s=q::r)(ar:q=34∨q=39)(cV:Lib.Utf8Tabs 4 5 w0)(cG:iS w0)(bN:0<w0.heap.size∧∃ty v,w0.cell? ⟨0,0,none⟩=some (.iface ty v)):
 Calls Tryz.prog 87 #[.pointer (some ⟨aJ,0,none⟩)] w (zg w0 w aJ B s st lc af q r):=by
 have cf:=I h;have cb:=h.len;have bG:=h.bytes;obtain⟨f,aA⟩:=h;have c5:=aA.c5;have lQ:=aA.bu;obtain⟨bn,cR⟩:∃bn,bn=s.length:=⟨_,rfl⟩;have ke:=aA.gm;rw[←cR]at c5 ke;have bP:s.length=r.length+1:=by rw[ak];rfl
 obtain⟨bt,bR,hA0,al⟩:=(ke.below lQ).cell 0 (by omega);rw[Nat.add_zero,show rd s ((0:Nat):Int)=q by rw[ak];rfl]at al;rw[hA0]at c5 ke;obtain⟨ao,c1,bs,bO⟩:=ke.from_ 1 (by omega);rw[show s.drop 1=r by rw[ak];rfl]at bO;have jN:∀aQ:World,(Instr.slice 22 (.slice (some ⟨bt,bR,none⟩) bn f.ci) (some (.int .i64 1)) none none).run Tryz.prog aQ=.ok (.slice ao (bn-1) c1) aQ:=bs;obtain⟨i,hi⟩:∃i,i=uf r:=⟨_,rfl⟩;have jz:i≤bn-1:=by have:=SV r;omega
 obtain⟨bd,c2,hn,hU⟩:=bO.from_ i jz;obtain⟨oD,iL⟩:=bO.full i jz;have FT:=eq_true (show(0:Int)<(bn:Int)by omega);have akD:=eq_true (show 0<bn by omega);have akE:((bn:Int)==0)=false:=beq_eq_false_iff_ne.mpr (by omega);have bl:=I (bO.below lQ);have DJ:=I (show∀x∈r,0≤x∧x<256 from fun x ae=>bG x (by rw[ak];simp[ae]));have dY:=I (show bn-1≤100000 by omega);have dx:=I hi
 have hI:∀cJ,Below w.heap.size w cJ→lG w0 w cJ aJ B s st lc af q r (r.drop i) bd (bn-1-i) c2 (.slice ao i i) i:=fun cJ U=>
  ⟨cf.1,U,hU,.inl ⟨ao,r.take i,rfl,Cb,iL.C⟩,(by rw[hi];exact Inv.plain ar _ (Inv.start q r)),ak,ar,Fp,⟨1+i,(by rw[←List.drop_drop,ak];rfl)⟩,cV,cG,bN⟩
 have yW:=I hI;have fk:=I bN;have akF:=I lQ;clear aA cb bG ke hA0 ak ar cV cG bN lQ bs bO hU iL cR bP hi jz hI;go_enter Tryz.func87,Tryz.ntmps87
 go_upto_block 0 with(first|(go_at_call 101;refine(SC bl.1 DJ.1 dY.1).mono ?_;rintro bk w1 ⟨rfl,⟨iX,rfl⟩⟩;rw[←dx.1]))
 repeat(go_quiet(fail);try go_upto_block 0 with(fail))
 refine wp_cut (Bo w0 w aJ B s st lc af q r) (fun a' w' au=>?rest) (fun lF ic mJ aH=>?first)
 case rest=>
  obtain⟨A,n,c,v0,m,g,h,rfl⟩:=au;have dx:=I (h.inv.M0);have av:=I h;have u0:=(h.bu.cell (p:=⟨0,0,none⟩) fk.1.1).trans fk.1.2.choose_spec.choose_spec;have u1:=u0;generalize fk.1.2.choose_spec.choose=VM at u0 u1;generalize fk.1.2.choose=tE at u0 u1;clear h;go_step
  go_wp2_with fail
  repeat(go_quiet(fail);try go_wp2_with(fail))
  go_ret2;exact sV av.1 dx.1 cX
 case first=>
  refine wp_block ?_;refine wp_loop_ghost (fun k a cJ=>D7 w0 w aJ B s st lc af q r k a cJ) (bn-1-i) (D7.mk aM rfl rfl rfl rfl rfl rfl (yW.1 _ cX)) ?_;rintro k a cJ ⟨A,c,v0,m,t,g,ak,rfl⟩;exact ahL ak g (l8 w0 w aJ B s st lc af q r k) _ lF ic (fun _ _ h=>h) (fun _ _ h=>h) mJ aH
end fx
namespace fx
open RowKit YtmpeadgiclfapaaGreatDoorW.PrintWords YtmpeadgiclfapaaGreatDoorW.PrintLast YtmpeadgiclfapaaGreatDoorW.PrintMore ei cP gJ eI eC gi
section
variable (ss:List ByteArray) (ak:∀x∈ss,x.size≤100000)
include ss ak
theorem ahN:Lib.lens (ss.map (·.data.toList))≤ss.length*100000:=by
 induction ss with
 |nil=>simp[Lib.lens]
 |cons x r bb=>
  have h0:=bb (fun y aX=>ak y (by simp[aX]));have h1:=ak x (by simp);have h2:x.data.toList.length≤100000:=by rw[Array.length_toList];exact h1
  simp only[Lib.lens,List.map_cons,List.sum_cons,List.length_cons]at h0⊢;omega
theorem join_le:(Lib.join (ss.map (·.data.toList)) []).length≤ss.length*100000:=by
 cases ss with
 |nil=>simp[Lib.join_nil]
 |cons x r=>
  have h0:=ahN r (fun y aX=>ak y (by simp[aX]));have h1:=ak x (by simp);have h2:x.data.toList.length≤100000:=by rw[Array.length_toList];exact h1
  rw[List.map_cons,Lib.join_cons,List.length_append,Lib.joinTail_length,List.length_nil,Nat.zero_mul,Nat.zero_add,List.length_cons];omega
end
theorem ahO{W:World}{base:Nat}{ok:Nat→Prop}{v:Value}{ss:List ByteArray}(h:ab.R ab.string 9 W base ok v ss)(an:ss.length≤100000)(ak:∀x∈ss,x.size≤100000)(bL:0<ss.length):
 Calls Tryz.prog 88 #[v,.string ⟨#[]⟩] W fun e w'=>(∃str,e=.returned (.string str))∧Below W.heap.size W w':=by
 obtain⟨g,cap,rfl,_,fo,_⟩:=ab.Om h bL;have pN:=(ab.pt h).2.1;refine(Tryz.strings_Join g 0 cap ss ⟨#[]⟩ W (fun j x ae=>?_) fo (by omega) pN ?_).mono fun e w' ⟨h0,h1⟩=>⟨⟨_,h0⟩,h1⟩
 ·obtain⟨bq,ae⟩:=List.getElem?_eq_some_iff.1 ae;obtain⟨c,ai,uJ,rJ,_⟩:=ab.Ou h ⟨#[]⟩ (j:Int) (by omega) (by omega);rw[Int.toNat_natCast,List.getD_eq_getElem?_getD,List.getElem?_eq_getElem bq]at uJ;have ahP:c=[.string x]:=by rw[←ae];exact uJ
  have:=rJ 0 (.string x) (by rw[ahP];rfl);rw[Int.toNat_natCast]at this;rw[Nat.zero_add];have e:j*ab.string.sz+0=j:=by rw[show ab.string.sz=1 from rfl];omega
  rw[e]at this;exact this
 ·have:=join_le ss ak
  show(Lib.join (ss.map (·.data.toList)) []).length≤_
  omega
section
variable {w0 w w1:World} {g:Nat} {B s st:List Int} {lc af:Int}
theorem dK.grown{α:Type}{d:ab α}{e base:Nat}{ok:Nat→Prop}{v:Value}{xs:List α}(h:dK w0 w g B s st lc af)(aY:d.R e w base ok v xs)(h5:5≠e)(h6:e≠56)(U:w0.heap.size≤base)(aw:w.grownBy w1 v.ownBlock):dK w0 w1 g B s st lc af:=by
 obtain⟨f,aA⟩:=h;refine⟨f,qF aA.ft aw (ab.pV aY aA.ft h6),aA.ge,DY aA.bu aw (fun k ad=>Nat.le_trans U (ab.xy aY k ad)),aA.pQ,aA.gm,aA.jE,ab.ZG aA.hS rfl aw (fun k ad=>?_),aA.sz,aA.sl,aA.lP⟩;obtain⟨cells,ai⟩:=ab.YD aY k ad;exact ab.pV aA.hS ai h5
theorem c6.grown{α:Type}{d:ab α}{e:Nat}{ok:Nat→Prop}{v:Value}{xs:List α}{bf:World}(h:c6 w0 w w1 g B s st lc af)(aY:d.R e w1 w.heap.size ok v xs)(h5:5≠e)(h6:e≠56)(U:w0.heap.size≤w.heap.size)(aw:w1.grownBy bf v.ownBlock)(lQ:Below w.heap.size w1 bf):c6 w0 w bf g B s st lc af:=
 ⟨h.d.grown aY h5 h6 U aw,⟨Nat.le_trans h.k.1 aw.size,fun k ad bL ae=>(lQ.block k ad).trans (h.k.2 k ad bL ae)⟩⟩
end
theorem ahQ{q:Int}{r r1:List Int}(ar:q<128)(an:r1.length≤r.length)(h:iQ ((q::r).take (r.length+1-r1.length))):iQ (r.take (r.length-r1.length)):=by
 rw[show r.length+1-r1.length=(r.length-r1.length)+1 by omega,List.take_succ_cons]at h;exact HG h ar
theorem ahR{m:Nat}{q:Int}{r:List Int}(ar:q=34∨q=39)(hm:(q::r).length<m)(dR:k6 m (q::r)≠ .op):
 (gB q false r=none∧k6 m (q::r)=.no)∨
 ∃r1,gB q false r=some (false,r1)∧iQ (r.take (r.length-r1.length))∧r1.length<r.length∧
  ((fY (bc false r1)=true∧(bc false r1).length<m-1∧k6 m (q::r)=k6 (m-1) (bc false r1))∨(fY (bc false r1)=false∧k6 m (q::r)=.yes r1)):=by
 obtain⟨m,rfl⟩:∃k,m=k+1:=⟨m-1,(by omega)⟩;cases ak:gB q false r with
 |none=>exact .inl ⟨rfl,(by simp only[k6,ak])⟩
 |some x=>
  obtain⟨o,r1⟩:=x;have an:=w8 ak;have ad:=kC r1 false;simp only[k6,ak]at dR⊢;by_cases h0:o=true∨¬iQ ((q::r).take (r.length+1-r1.length))
  ·rw[if_pos h0]at dR;exact absurd rfl dR
  ·rw[if_neg h0]at dR⊢;simp only[not_or,Classical.not_not]at h0;obtain⟨aY,hu⟩:=h0;obtain rfl:o=false:=by simpa using aY
   refine .inr ⟨r1,rfl,ahQ (by omega) (by omega) hu,an,?_⟩;by_cases h1:fF r1=true
   ·rw[if_pos h1]at dR;exact absurd rfl dR
   ·rw[if_neg h1]at dR⊢;by_cases h2:jP (bc false r1)=true
    ·rw[if_pos h2]at dR;exact absurd rfl dR
    ·rw[if_neg h2]at dR⊢;by_cases h3:a8 (bc false r1) 34=true∨a8 (bc false r1) 39=true
     ·rw[if_pos h3];refine .inl ⟨(by unfold fY;rw[Bool.or_eq_true];exact h3),Jj,rfl⟩
     ·rw[if_neg h3];refine .inr ⟨(by unfold fY;rw[←Bool.not_eq_true,Bool.or_eq_true];exact h3),rfl⟩
end fx
namespace fx
open RowKit YtmpeadgiclfapaaGreatDoorW.PrintWords YtmpeadgiclfapaaGreatDoorW.PrintLast YtmpeadgiclfapaaGreatDoorW.PrintMore ei cP gJ eI eC gi j6
noncomputable def W9 (n:Nat):Code:=DS n (Tryz.f65.body.getD .skip)
noncomputable def ahS:Code:=M6 (W9 3)
def NC(w0 w:World)(aJ:Nat)(B s st:List Int)(lc af:Int)(e:Ending)(w':World):Prop:=
 (hB s=.no→∃ty v,e=.returned (.tuple #[eA,.iface ty v])∧∃eW,c6 w0 w w' aJ B eW st lc af)∧
 (∀r1,hB s=.yes r1→∃A n c str xs,e=.returned (.tuple #[.agg #[.int .u8 3,.int .u8 2,.int .u8 0,.int .i64 ((B.length-s.length:Nat):Int),.slice A n c,.string str],.nilIface])∧dZ w0 A n c xs∧c6 w0 w w' aJ B (bc false r1) st lc af)
structure vJ(w0 w ay:World)(aJ:Nat)(B s st u:List Int)(lc af:Int)(A:Option Addr)(n c:Nat)(v5:Value)(ss:List ByteArray):Prop where
 d:c6 w0 w ay aJ B u st lc af
 x:ay.heap[w.heap.size]?=some (.cells #[.int .u8 0,.int .u8 0,.int .u8 0,.int .i64 0,.slice none 0 0,.string ⟨#[]⟩] 47 (0,0))
 o:ab.R ab.string 9 ay w.heap.size (fun k=>k≠aJ) v5 ss
 ls:∀x∈ss,x.size≤100000
 sz:ss.length+u.length≤100000
 ne:ss=[]→fY u=true
 v:dZ w0 A n c s
 jE:u.length≤s.length
 g:aJ<w.heap.size∧w0.heap.size≤w.heap.size
 b:s.length≤B.length∧B.length≤100000
 T:Lib.Utf8Tabs 4 5 w0
 E:iS w0
 sc:0<w0.heap.size∧∃ty v,w0.cell? ⟨0,0,none⟩=some (.iface ty v)
theorem Xa{l:List Value}{v0 v2 v3 v4 v5:Value}(an:l.length=70)(h0:l.getD 0 undef=v0)(h2:l.getD 2 undef=v2)(h3:l.getD 3 undef=v3)(h4:l.getD 4 undef=v4)(h5:l.getD 5 undef=v5):∃g:Nat→Value,(⟨l.toArray,[]⟩:Act)=(⟨List.toArray (v0::g 1::v2::v3::v4::v5::xG g ([])),[]⟩:Act):=by
 simp only[xG];refine⟨fun i=>l.getD i undef,?_⟩;subst h0;subst h2;subst h3;subst h4;subst h5;exact oZ
def Br(w0 w:World)(aJ:Nat)(B s st:List Int)(lc af:Int)(A:Option Addr)(n c k:Nat)(a:Act)(ay:World):Prop:=
 ∃(u:List Int) (v5:Value) (ss:List ByteArray) (g:Nat→Value),u.length=k∧vJ w0 w ay aJ B s st u lc af A n c v5 ss∧((fY u=true∧∃m,u.length<m∧hB s=k6 m u)∨(fY u=false∧∃r1,u=bc false r1∧hB s=.yes r1))∧a=(⟨#[.pointer (some ⟨aJ,0,none⟩),g 1,.pointer (some ⟨w.heap.size,0,none⟩),.nilIface,.slice A n c,v5,g 6,g 7,g 8,g 9,g 10,g 11,g 12,g 13,g 14,g 15,g 16,g 17,g 18,g 19,g 20,g 21,g 22,g 23,g 24,g 25,g 26,g 27,g 28,g 29,g 30,g 31,g 32,g 33,g 34,g 35,g 36,g 37,g 38,g 39,g 40,g 41,g 42,g 43,g 44,g 45,g 46,g 47,g 48,g 49,g 50,g 51,g 52,g 53,g 54,g 55,g 56,g 57,g 58,g 59,g 60,g 61,g 62,g 63,g 64,g 65,g 66,g 67,g 68,g 69],[]⟩:Act)
def Ec(w0 w:World)(aJ:Nat)(B s st:List Int)(lc af:Int)(A:Option Addr)(n c k:Nat)(a:Act)(ay:World):Prop:=∃k',k'<k∧Br w0 w aJ B s st lc af A n c k' a ay
def we(w0 w:World)(aJ:Nat)(B s st:List Int)(lc af:Int)(A:Option Addr)(n c:Nat)(a:Act)(ay:World):Prop:=
 ∃(u:List Int) (v5:Value) (ss:List ByteArray) (g:Nat→Value),vJ w0 w ay aJ B s st u lc af A n c v5 ss∧fY u=false∧(∃r1,u=bc false r1∧hB s=.yes r1)∧a=(⟨#[.pointer (some ⟨aJ,0,none⟩),g 1,.pointer (some ⟨w.heap.size,0,none⟩),.nilIface,.slice A n c,v5,g 6,g 7,g 8,g 9,g 10,g 11,g 12,g 13,g 14,g 15,g 16,g 17,g 18,g 19,g 20,g 21,g 22,g 23,g 24,g 25,g 26,g 27,g 28,g 29,g 30,g 31,g 32,g 33,g 34,g 35,g 36,g 37,g 38,g 39,g 40,g 41,g 42,g 43,g 44,g 45,g 46,g 47,g 48,g 49,g 50,g 51,g 52,g 53,g 54,g 55,g 56,g 57,g 58,g 59,g 60,g 61,g 62,g 63,g 64,g 65,g 66,g 67,g 68,g 69],[]⟩:Act)
section
variable {w0 w ay:World} {aJ:Nat} {B s st u:List Int} {lc af:Int} {A:Option Addr} {n c:Nat} {v5:Value} {ss:List ByteArray}
theorem Br.mk{l:List Value}(an:l.length=70)(h0:l.getD 0 undef=.pointer (some ⟨aJ,0,none⟩))(h2:l.getD 2 undef=.pointer (some ⟨w.heap.size,0,none⟩))(h3:l.getD 3 undef=.nilIface)(h4:l.getD 4 undef=.slice A n c)(h5:l.getD 5 undef=v5)(h:vJ w0 w ay aJ B s st u lc af A n c v5 ss)(dA:(fY u=true∧∃m,u.length<m∧hB s=k6 m u)∨(fY u=false∧∃r1,u=bc false r1∧hB s=.yes r1)):Br w0 w aJ B s st lc af A n c u.length ⟨l.toArray,[]⟩ ay:=by
 obtain⟨g,aw⟩:=Xa an h0 h2 h3 h4 h5;exact⟨u,v5,ss,g,rfl,h,dA,aw⟩
theorem Ec.mk{l:List Value}{k:Nat}(an:l.length=70)(h0:l.getD 0 undef=.pointer (some ⟨aJ,0,none⟩))(h2:l.getD 2 undef=.pointer (some ⟨w.heap.size,0,none⟩))(h3:l.getD 3 undef=.nilIface)(h4:l.getD 4 undef=.slice A n c)(h5:l.getD 5 undef=v5)(fo:u.length<k)(h:vJ w0 w ay aJ B s st u lc af A n c v5 ss)(dA:(fY u=true∧∃m,u.length<m∧hB s=k6 m u)∨(fY u=false∧∃r1,u=bc false r1∧hB s=.yes r1)):Ec w0 w aJ B s st lc af A n c k ⟨l.toArray,[]⟩ ay:=⟨_,fo,Br.mk an h0 h2 h3 h4 h5 h dA⟩
theorem we.mk{l:List Value}(an:l.length=70)(h0:l.getD 0 undef=.pointer (some ⟨aJ,0,none⟩))(h2:l.getD 2 undef=.pointer (some ⟨w.heap.size,0,none⟩))(h3:l.getD 3 undef=.nilIface)(h4:l.getD 4 undef=.slice A n c)(h5:l.getD 5 undef=v5)(h:vJ w0 w ay aJ B s st u lc af A n c v5 ss)(ar:fY u=false)(au:∃r1,u=bc false r1∧hB s=.yes r1):we w0 w aJ B s st lc af A n c ⟨l.toArray,[]⟩ ay:=by
 obtain⟨g,aw⟩:=Xa an h0 h2 h3 h4 h5;exact⟨u,v5,ss,g,h,ar,au,aw⟩
end
def H0(w0:World)(w:World)(ay:World)(aJ:Nat)(B:List Int)(s:List Int)(st:List Int)(u:List Int)(lc:Int)(af:Int)(A:Option Addr)(n:Nat)(c:Nat)(v5:Value):Prop:=∀(g:Nat→Value) (iY gf jD gF:Act→World→Prop) (nF:∀a' w',Ec w0 w aJ B s st lc af A n c u.length a' w'→iY a' w') (nG:∀a' w',Met iY a' w'→gf a' w') (qA:∀a' w',we w0 w aJ B s st lc af A n c a' w'→jD a' w') (qB:∀a' w',Met jD a' w'→gF a' w'),ahS.wp Tryz.prog (Exit.then gf (Exit.inBlock 0 (Exit.then gF (bodyPost Tryz.prog Tryz.f65 (NC w0 w aJ B s st lc af))))) (⟨List.toArray (.pointer (some ⟨aJ,0,none⟩)::g 1::.pointer (some ⟨w.heap.size,0,none⟩)::.nilIface::.slice A n c::v5::xG g ([])),[]⟩:Act) ay
section
variable {w0 w ay:World} {aJ:Nat} {B s st u:List Int} {lc af:Int} {A:Option Addr} {n c:Nat} {v5:Value} {ss:List ByteArray} (h:vJ w0 w ay aJ B s st u lc af A n c v5 ss)
include h
theorem ahT(ar:fY u=false)(au:∃r1,u=bc false r1∧hB s=.yes r1):H0 w0 w ay aJ B s st u lc af A n c v5:=by
 intro g ec dc eE dv dD dE eQ eR;simp only[xG];have av:=I h;obtain⟨f,aA⟩:=h.d.d;have c5:=aA.c5;have ke:=aA.gm;have lQ:=aA.bu;have fz:=I ar;have hI:=I au;cases u with
 |nil=>
  rw[show([]:List Int).length=0 from rfl]at c5;clear au ar aA ke lQ h;exact PV
 |cons x t=>
  obtain⟨bt,bR,hA0,al⟩:=(ke.below lQ).cell 0 (by simp);rw[Nat.add_zero,show rd (x::t) ((0:Nat):Int)=x from rfl]at al;rw[hA0]at c5;have ae:(x==34)=false∧(x==39)=false:=by simpa [fY,a8]using ar
  obtain⟨eg,j4⟩:=ae;obtain⟨m,hm⟩:∃m,m=(x::t).length:=⟨_,rfl⟩;rw[←hm]at c5;have dV:0<m:=by rw[hm];simp
  have m0:decide ((m:Int)>0)=true:=decide_eq_true (by omega);have m1:=eq_true (show(0:Int)<(m:Int)by omega);have m2:=eq_true dV;clear au ar aA ke lQ h hA0 hm dV;exact PV
theorem ahU(zm:fY u=true)(aq:∀q r,u=q::r→gB q false r=none)(vQ:hB s=.no):H0 w0 w ay aJ B s st u lc af A n c v5:=by
 intro g ec dc eE dv dD dE eQ eR;simp only[xG];have av:=I h
 obtain⟨q,r,hu,ar⟩:∃q r,u=q::r∧(q=34∨q=39):=by
  cases u with
  |nil=>simp[fY,a8]at zm
  |cons q r=>exact⟨q,r,rfl,(by simpa [fY,a8]using zm)⟩
 refine Tx ?_;intro f aA ke lQ bt bR hA0 k ad dV m0 m1 m2 fk C6 aV al c5;have lM:=I (aq q r hu);have tN:=I vQ;clear zm aq vQ hu aA ke lQ hA0 ad dV h;rcases ar with ar|ar
 all_goals(
  have lJ:=I ar;rw[ar]at al;clear ar
  conv=>arg 2;whnf
  go_wp2_with(first|(go_at_call 87;refine(W8 av.1.d.d fk.1 C6.1 av.1.T av.1.E av.1.sc).mono ?_;rintro bk w1 hp;obtain⟨str,ty,Eb,rfl,h0⟩:=hp.1 lM.1;have bj:=I (h0.k.ft av.1.x tO (by simp));have bZ:=fy bj.1 0;have b1:=fy bj.1 1;have Z2:=fy bj.1 2;have b4:=fy bj.1 3;have b6:=fy bj.1 4;have b8:=fy bj.1 5;obtain⟨bW,b0,b2,b3,b5,b7⟩:=kZ bj.1;have dW:=I h0;clear hp h0))
  refine bodyPost_ret (v:=.tuple #[eA,.iface ty Eb]) (by simp[results,Tryz.results65,go_sem,eA,bW,b0,b2,b3,b5,b7,bZ,b1,Z2,b4,b6,b8]) rfl ⟨fun _=>⟨_,_,rfl,_,c6.gg (c6.after av.1.d.k dW.1) ⟨_,bj.1⟩ tO tO (Nat.le_refl _) _ _ _ _ _ _⟩,fun gd h=>by rw[tN.1]at h;cases h⟩)
end
theorem ahV:(Tryz.prog.info? 9).map (fun i=>(i.zero,i.size,i.bytes))=some (some (.string ⟨#[]⟩),1,16):=by kernel_rfl
section
variable {w0 w ay:World} {aJ:Nat}
theorem ahW{B s st u:List Int}{lc af:Int}{A:Option Addr}{n c:Nat}{v5:Value}{ss:List ByteArray}(h:vJ w0 w ay aJ B s st u lc af A n c v5 ss)(zm:fY u=true){r1:List Int}(aq:∀q r,u=q::r→gB q false r=some (false,r1)∧iQ (r.take (r.length-r1.length))∧r1.length<r.length)(dA:(fY (bc false r1)=true∧∃m,(bc false r1).length<m∧hB s=k6 m (bc false r1))∨(fY (bc false r1)=false∧∃fe,bc false r1=bc false fe∧hB s=.yes fe)):H0 w0 w ay aJ B s st u lc af A n c v5:=by
 intro g ec dc eE dv dD dE eQ eR;simp only[xG];have av:=I h
 obtain⟨q,r,hu,ar⟩:∃q r,u=q::r∧(q=34∨q=39):=by
  cases u with
  |nil=>simp[fY,a8]at zm
  |cons q r=>exact⟨q,r,rfl,(by simpa [fY,a8]using zm)⟩
 refine Tx ?_;intro f aA ke lQ bt bR hA0 k ad dV m0 m1 m2 fk C6 aV al c5;obtain⟨bs,hn,oD⟩:=aq q r hu;have lM:=I (And.intro bs hn);have hle:=kC r1 false;have k1:=I (show(bc false r1).length<u.length by rw[hu];simp only[List.length_cons];omega);have lg:=I dA;clear zm aq hu aA ke lQ hA0 ad dV h bs hn oD hle dA;rcases ar with ar|ar
 all_goals(
  have lJ:=I ar;rw[ar]at al;clear ar
  conv=>arg 2;whnf
  go_wp2_with(first|(go_at_call 87;refine(W8 av.1.d.d fk.1 C6.1 av.1.T av.1.E av.1.sc).mono ?_;rintro bk w1 hp;obtain⟨str,dd,rfl,h0⟩:=hp.2 r1 lM.1.1 lM.1.2;have bj:=I (h0.k.ft av.1.x tO (by simp));have dW:=I h0;have dS:=I dd;have ND:=I (ab.tC av.1.o h0.k (fun k ad=>ad));clear hp h0 dd)|(at_builtin;refine ab.sy ab.string w.heap.size rfl (.tmp 45) (.tmp 47) 96 9 (.string ⟨#[]⟩) 16 rfl Tryz.underlying96 ahV rfl (by decide) (by omega) v5 ss str [.string str] (fun k=>k≠aJ) (fun _=>False) rfl iW rfl (fun _ ad=>ad.elim) ?aF ?aO (Below.refl _ _) ?aS ?aL ?_;(case aF=>exact(fun k ad e=>by have:=av.1.g;have:=dW.1.k.1;have:=av.1.d.k.1;omega));(case aO=>exact ND.1);(case aS=>exact(by have:=dW.1.k.1;have:=av.1.d.k.1;omega));(case aL=>exact pA);intro v0 w1 aY U aw ea;have hT:=I aY;have l7:=I U;have qb:=I aw;clear aY U aw ea))
  have pJ:=qF bj.1 qb.1 (ab.pV ND.1 bj.1 (by decide));have pg:=c6.grown (c6.after av.1.d.k dW.1) ND.1 (by decide) (by decide) av.1.g.2 qb.1 l7.1;refine Met.intro ?_;go_step
  exact Ec.mk aM rfl rfl rfl rfl rfl k1.1 ⟨pg,pJ,hT.1,(fun x ae=>by
   rcases List.mem_append.1 ae with ae|ae
   ·exact av.1.ls x ae
   ·rw[List.mem_singleton.1 ae];exact dS.1),(by have:=av.1.sz;have:=k1.1;rw[List.length_append,List.length_cons,List.length_nil];omega),(fun e=>by simp at e),av.1.v,(by have:=av.1.jE;have:=k1.1;omega),av.1.g,av.1.b,av.1.T,av.1.E,av.1.sc⟩ lg.1)
theorem we.end_{B s st:List Int}{lc af:Int}{A:Option Addr}{n c:Nat}{a:Act}(h:we w0 w aJ B s st lc af A n c a ay):(W9 4).wp Tryz.prog (bodyPost Tryz.prog Tryz.f65 (NC w0 w aJ B s st lc af)) a ay:=by
 obtain⟨u,v0,ss,g,h,ar,⟨gd,hu,au⟩,rfl⟩:=h;have av:=I h;obtain⟨f,aA⟩:=h.d.d;have dz:=I aA;have hI:=I (And.intro hu au);have ix:=I (show 0<ss.length from List.length_pos_iff.mpr (fun e=>by have:=h.ne e;rw[ar]at this;cases this));have U:=h.b;have mj:=h.jE;have aq:=h.v.dN;obtain⟨pos,oE⟩:∃pos:Nat,pos=B.length-s.length:=⟨_,rfl⟩;obtain⟨k,ad⟩:∃k:Nat,k=n-u.length:=⟨_,rfl⟩;have hX:wrap64 ((B.length:Int)-(n:Int))=(pos:Int):=by unfold wrap64;omega
 have q3:wrap64 ((n:Int)-(u.length:Int))=(k:Int):=by unfold wrap64;omega
 obtain⟨hcut,nL⟩:=h.v.pI k (by omega);have x3:=I nL;have s6:=I oE;clear aA ar hu au U mj aq nL oE ad h
 conv=>arg 2;whnf
 go_wp2_with fail
 refine fX (n:=23) (S:=fun w'=>w'.cell? ⟨aJ,9,none⟩=some (.slice f.xd B.length f.co)∧w'.cell? ⟨aJ,10,none⟩=some (.slice f.gX u.length f.ci)) (ds:=[21]) #[false,false,false,false,false,false,false,false,false,false,false,false,false,false,false,false,false,false,false,false,false,false,false] aM rfl rfl ⟨(dz.1.below (Below.drew (Below.refl _ _))).c4,(dz.1.below (Below.drew (Below.refl _ _))).c5⟩ (fun hHeld=>?_);refine ax 0 49 ?_;refine ax 1 50 ?_;refine ax 2 51 ?_;refine ax 5 54 ?_;refine ax 6 55 ?_;refine ax 8 57 ?_;refine ax 9 58 ?_;refine ax 10 59 ?_;refine ax 11 60 ?_;refine ax 12 61 ?_;refine ax 13 62 ?_;refine ax 18 67 ?_;refine eb 3 52 ?_;refine ax 4 53 ?_;refine ax 7 56 ?_;refine eb 14 63 ?_;refine ax 15 64 ?_;refine ax 16 65 ?_;refine ax 17 66 ?_;refine gb 19 68 fun K aH=>?_;refine mQ Tryz.func88 aM rfl #[v0,.string ⟨#[]⟩] (by rfl) rfl rfl mX ?_
 with_reducible refine(ahO (ab.pW av.1.o) pA av.1.ls ix.1).mono ?_
 rintro aD w1 ⟨⟨str,rfl⟩,az⟩;refine⟨_,rfl,?_⟩;have aC:=I (dq (Below.drew (Below.refl _ _)) (Nat.le_refl _) az);have bj:=I (cn av.1.x aC.1);have bZ:=fy bj.1 0;have b1:=fy bj.1 1;have Z2:=fy bj.1 2;have b4:=fy bj.1 3;have b6:=fy bj.1 4;have b8:=fy bj.1 5;obtain⟨bW,b0,b2,b3,b5,b7⟩:=kZ bj.1;clear az;refine aH.out _ _ ⟨(dz.1.below aC.1).c4,(dz.1.below aC.1).c5⟩ (fun hHeld=>?_);clear aH K;refine ik ?_;refine ax 20 69 ?_;refine pZ 21 fun K aH=>?_;refine tG ?_;refine aH.out _ _ ?_;clear aH K;refine ax 22 3 ?_;refine jX aM ?_
 go_wp2_with fail
 refine bodyPost_ret (v:=.tuple #[.agg #[.int .u8 3,.int .u8 2,.int .u8 0,.int .i64 (pos:Int),.slice A k c,.string str],.nilIface]) (by simp[results,Tryz.results65,go_sem,bW,b0,b2,b3,b5,b7,bZ,b1,Z2,b4,b6,b8]) rfl ⟨fun h=>(by rw[hI.1.2]at h;cases h),fun r1 h=>?_⟩;rw[hI.1.2]at h;cases h;refine⟨A,k,c,str,_,(by rw[s6.1]),x3.1,?_⟩;rw[←hI.1.1];exact c6.gg (av.1.d.below aC.1) ⟨_,bj.1⟩ tO tO (Nat.le_refl _) _ _ _ _ _ _
theorem ahX{B s st u:List Int}{lc af:Int}{A:Option Addr}{n c:Nat}{v5:Value}{ss:List ByteArray}(h:vJ w0 w ay aJ B s st u lc af A n c v5 ss)(dA:(fY u=true∧∃m,u.length<m∧hB s=k6 m u)∨(fY u=false∧∃r1,u=bc false r1∧hB s=.yes r1))(dR:hB s≠ .op):H0 w0 w ay aJ B s st u lc af A n c v5:=by
 intro g ec dc eE dv dD dE eQ eR;simp only[xG];rcases dA with⟨ar,m,hm,ak⟩|⟨ar,au⟩
 ·obtain⟨q,r,hu,iR⟩:∃q r,u=q::r∧(q=34∨q=39):=by
   cases u with
   |nil=>simp[fY,a8]at ar
   |cons q r=>exact⟨q,r,rfl,(by simpa [fY,a8]using ar)⟩
  rw[ak]at dR;subst hu;rcases ahR iR hm dR with⟨bx,db⟩|⟨r1,bx,db,fO,gW⟩
  ·exact ahU h ar (fun iP bH e=>by cases e;exact bx) (ak.trans db) g ec dc eE dv dD dE eQ eR
  ·refine ahW h ar (r1:=r1) (fun iP bH e=>by cases e;exact⟨bx,db,fO⟩) ?_ g ec dc eE dv dD dE eQ eR;rcases gW with⟨gW,aE,k3⟩|⟨gW,aE⟩
   ·exact .inl ⟨gW,m-1,aE,ak.trans k3⟩
   ·exact .inr ⟨gW,r1,rfl,ak.trans aE⟩
 ·exact ahT h ar au g ec dc eE dv dD dE eQ eR
end
theorem Xb{w0 w:World}{aJ:Nat}{B s st:List Int}{lc af:Int}(h:dK w0 w aJ B s st lc af)(ar:fY s=true)(dR:hB s≠ .op)(cV:Lib.Utf8Tabs 4 5 w0)(cG:iS w0)(bN:0<w0.heap.size∧∃ty v,w0.cell? ⟨0,0,none⟩=some (.iface ty v)):
 Calls Tryz.prog 65 #[.pointer (some ⟨aJ,0,none⟩)] w (NC w0 w aJ B s st lc af):=by
 refine CV ?_;intro bS;have cb:=h.len;have gM:=h.here.below (da (Below.refl _ _) (.cells #[.int .u8 0,.int .u8 0,.int .u8 0,.int .i64 0,.slice none 0 0,.string ⟨#[]⟩] 47));have bz:=gV w (.cells #[.int .u8 0,.int .u8 0,.int .u8 0,.int .i64 0,.slice none 0 0,.string ⟨#[]⟩] 47);obtain⟨f,aA⟩:=gM.d;have c5:=aA.c5;have bU:=I (vJ.mk (A:=f.gX) (n:=s.length) (c:=f.ci) (v5:=.slice none 0 0) (ss:=[]) gM bz (ab.sw _ _ _ _ _) (fun x ae=>by cases ae) (by have:=cb;simp;omega) (fun _=>ar) aA.gm (Nat.le_refl _) bS.1 cb cV cG bN);have hW:=I (And.intro ar dR);clear aA gM bz cb ar dR cV cG bN;go_enter Tryz.func65,Tryz.ntmps65
 go_upto_block 0 with fail
 refine wp_cut (we w0 w aJ B s st lc af f.gX s.length f.ci) (fun a' w' au=>?rest) (fun lF ic mJ aH=>?first)
 case rest=>
  go_step;exact we.end_ au
 case first=>
  refine wp_block ?_;refine wp_loop_ghost (fun k a cJ=>Br w0 w aJ B s st lc af f.gX s.length f.ci k a cJ) s.length (Br.mk (u:=s) aM rfl rfl rfl rfl rfl bU.1 (.inl ⟨hW.1.1,s.length+1,Nat.lt_succ_self _,rfl⟩)) ?_;rintro k a cJ ⟨u,v5,ss,g,rfl,ak,dA,rfl⟩;exact ahX ak dA hW.1.2 g (Ec w0 w aJ B s st lc af f.gX s.length f.ci u.length) _ lF ic (fun _ _ h=>h) (fun _ _ h=>h) mJ aH
def qC(w0 w:World)(g:Nat)(B s st:List Int)(lc af:Int)(e:Ending)(w':World):Prop:=
 (ga s=.no→∃ty v,e=.returned (.tuple #[eA,.iface ty v])∧∃eW,c6 w0 w w' g B eW st lc af)∧
 (∀n,ga s=.yes n→∃at_ kU A m c str xs,e=.returned (.tuple #[.agg #[.int .u8 3,.int .u8 at_,.int .u8 kU,.int .i64 ((B.length-s.length:Nat):Int),.slice A m c,.string str],.nilIface])∧dZ w0 A m c xs∧(fY s=false→m=n∧xs=s.take n)∧c6 w0 w w' g B (bc false (s.drop n)) st lc af)
theorem ahY:∀(n:Nat) (s r:List Int),k6 n s=.yes r→∃m,r=s.drop m:=by
 intro n
 induction n with
 |zero=>intro s r h;cases h
 |succ n bb=>
  intro s r h;cases s with
  |nil=>cases h
  |cons c t=>
   simp only[k6]at h;cases ak:gB c false t with
   |none=>rw[ak]at h;cases h
   |some x=>
    obtain⟨o,gd⟩:=x;rw[ak]at h;simp only at h;obtain⟨m0,aD⟩:=US c _ _ _ _ _ ak;obtain⟨m1,_,bx⟩:=pL gd false;split at h
    ·cases h
    ·split at h
     ·cases h
     ·split at h
      ·cases h
      ·split at h
       ·obtain⟨m2,db⟩:=bb _ _ h;exact⟨m0+(m1+m2)+1,(by rw[List.drop_succ_cons,db,bx,aD,List.drop_drop,List.drop_drop])⟩
       ·simp only[jh.yes.injEq]at h;exact⟨m0+1,(by rw[List.drop_succ_cons,←h,aD])⟩
theorem Xc{s:List Int}(ar:fY s=true):(ga s=.no→hB s=.no)∧(∀n,ga s=.yes n→hB s=.yes (s.drop n))∧(ga s≠ .op→hB s≠ .op):=by
 cases s with
 |nil=>simp[fY,a8]at ar
 |cons c r=>
  have ai:c=34∨c=39:=by simpa [fY,a8]using ar
  simp only[ga];rw[if_pos ai];cases ak:hB (c::r)with
  |no=>exact⟨fun _=>rfl,(fun n h=>by cases h),(fun _ h=>by cases h)⟩
  |op=>exact⟨(fun h=>by cases h),(fun n h=>by cases h),fun h=>absurd rfl h⟩
  |yes r1=>
   refine⟨(fun h=>by cases h),fun n h=>?_,(fun _ h=>by cases h)⟩;simp only[jh.yes.injEq]at h;obtain⟨m,hm⟩:=ahY _ _ _ ak;have an:r1.length=(c::r).length-m:=by rw[hm,List.length_drop]
   rw[←h];by_cases VY:m≤(c::r).length
   ·rw[show(c::r).length-r1.length=m by omega,←hm]
   ·have au:r1=[]:=List.eq_nil_of_length_eq_zero (by omega);rw[au];simp
section
variable {w0 w:World} {g:Nat} {B s st:List Int} {lc af:Int} (h:dK w0 w g B s st lc af) (bL:s≠[])
include h bL
theorem ahZ(cV:Lib.Utf8Tabs 4 5 w0)(cG:iS w0)(bN:0<w0.heap.size∧∃ty v,w0.cell? ⟨0,0,none⟩=some (.iface ty v))(ar:fY s=true)(dR:ga s≠ .op):Calls Tryz.prog 47 #[.pointer (some ⟨g,0,none⟩)] w (qC w0 w g B s st lc af):=by
 refine Gh ?_;intro cf bS cb bG dL bz f aA c5
 obtain⟨x,t,ak⟩:∃x t,s=x::t:=by
  cases s with
  |nil=>exact absurd rfl bL
  |cons x t=>exact⟨x,t,rfl⟩
 refine Az ?_;clear c5;intro bt bR hA0 n aq dV m0 m1 al c5;have fh:=I (And.intro cb bG);have fz:=I ar;have hW:=I (Xc ar);have NF:=I dR;have uG:=I (And.intro cV (And.intro cG bN));have oF:x=34∨x=39:=by simpa [fY,a8,ak]using ar
 clear aA h cb bG bL aq ak hA0 dV ar dR cV cG bN;rcases oF with rfl|rfl
 all_goals(
  cases lZ:ga s with
  |op=>exact absurd lZ NF.1
  |no=>
   have kt:=I lZ;clear lZ;go_enter Tryz.func47,Tryz.ntmps47
   go_wp2_with(first|(go_at_call 65;refine(Xb dL.1.d fz.1 (hW.1.2.2 NF.1) uG.1.1 uG.1.2.1 uG.1.2.2).mono ?_;rintro bk w1 hp;obtain⟨ty,Eb,rfl,eW,h0⟩:=hp.1 (hW.1.1 kt.1);refine AF ?_;have bj:=I (h0.k.ft bz.1 cA (by simp));obtain⟨bW,bZ,b0,b1,b2,Z2,b3,b4,b5,b6,b7,b8⟩:=gO bj.1;have dW:=I h0;clear hp h0))
   refine bodyPost_ret (v:=.tuple #[eA,.iface ty Eb]) (by simp[results,Tryz.results47,go_sem,eA,bW,b0,b2,b3,b5,b7,bZ,b1,Z2,b4,b6,b8]) rfl ⟨fun _=>⟨_,_,rfl,_,c6.gg (c6.after dL.1.k dW.1) ⟨_,bj.1⟩ cA cA (Nat.le_refl _) _ _ _ _ _ _⟩,fun n h=>by rw[kt.1]at h;cases h⟩
  |yes k=>
   have kt:=I lZ;clear lZ;go_enter Tryz.func47,Tryz.ntmps47
   go_wp2_with(first|(go_at_call 65;refine(Xb dL.1.d fz.1 (hW.1.2.2 NF.1) uG.1.1 uG.1.2.1 uG.1.2.2).mono ?_;rintro bk w1 hp;obtain⟨ao,bn,c9,kQ,FU,rfl,bO,h0⟩:=hp.2 _ (hW.1.2.1 k kt.1);have bj:=I (h0.k.ft bz.1 cA (by simp));obtain⟨bW,bZ,b0,b1,b2,Z2,b3,b4,b5,b6,b7,b8⟩:=gO bj.1;have dW:=I h0;have bl:=I bO;clear hp h0 bO))
   refine bodyPost_ret (v:=.tuple #[.agg #[.int .u8 3,.int .u8 2,.int .u8 0,.int .i64 ((B.length-s.length:Nat):Int),.slice ao bn c9,.string kQ],.nilIface]) (by simp[results,Tryz.results47,go_sem,eA,bW,b0,b2,b3,b5,b7,bZ,b1,Z2,b4,b6,b8]) rfl ⟨fun h=>(by rw[kt.1]at h;cases h),fun n h=>?_⟩;rw[kt.1]at h;cases h;exact⟨_,_,ao,bn,c9,kQ,FU,rfl,bl.1,fun e=>(by rw[fz.1]at e;cases e),c6.gg (c6.after dL.1.k dW.1) ⟨_,bj.1⟩ cA cA (Nat.le_refl _) _ _ _ _ _ _⟩)
theorem ah0(ar:fY s=false)(lB:0<hs true s)(lZ:ga s=.yes (hs true s)):Calls Tryz.prog 47 #[.pointer (some ⟨g,0,none⟩)] w (qC w0 w g B s st lc af):=by
 refine Gh ?_;intro cf bS cb bG dL bz f aA c5
 obtain⟨x,t,ak⟩:∃x t,s=x::t:=by
  cases s with
  |nil=>exact absurd rfl bL
  |cons x t=>exact⟨x,t,rfl⟩
 refine Az ?_;clear c5;intro bt bR hA0 n aq dV m0 m1 al c5;have fh:=I (And.intro cb bG);have oF:¬(x=34∨x=39):=fun e=>by rw[ak]at ar;simp[fY,a8]at ar;omega
 refine K8 ?_;intro a1 bQ cr;have kt:=I lZ;clear aA h cb bG bL aq ak hA0 dV ar oF lB lZ;go_enter Tryz.func47,Tryz.ntmps47
 go_upto_region 4 with(first|(go_at_call 66;refine(MK dL.1.d).mono ?_;rintro bk w1 hp;obtain⟨ao,c9,rfl,bO,h0⟩:=hp.2 cr.1;have bj:=I (h0.k.ft bz.1 cA (by simp));have dW:=I (c6.after dL.1.k h0);have bl:=I bO;clear hp h0 bO))
 have ma:=iU bj.1 (.cells #[.int .u8 3,.int .u8 3,.int .u8 0,.int .i64 ((B.length-s.length:Nat):Int),.slice ao (hs true s) c9,.string ⟨#[]⟩] 47);have jg:=gV w1 (.cells #[.int .u8 3,.int .u8 3,.int .u8 0,.int .i64 ((B.length-s.length:Nat):Int),.slice ao (hs true s) c9,.string ⟨#[]⟩] 47);have mC:=(dW.1).below (da (Below.refl _ _) (.cells #[.int .u8 3,.int .u8 3,.int .u8 0,.int .i64 ((B.length-s.length:Nat):Int),.slice ao (hs true s) c9,.string ⟨#[]⟩] 47));generalize w1.alloc (.cells #[.int .u8 3,.int .u8 3,.int .u8 0,.int .i64 ((B.length-s.length:Nat):Int),.slice ao (hs true s) c9,.string ⟨#[]⟩] 47)=cJ at ma jg mC⊢;refine Ld ?_;clear jg;intro GM yq vl jg;obtain⟨dc,jc,dv,rD,gf,rE,gF,rF,nv,rG,nw,rH⟩:=gO jg;obtain⟨bW,bZ,b0,b1,b2,Z2,b3,b4,b5,b6,b7,b8⟩:=gO ma;clear ma jg mC c5 al
 go_wp2_with fail
 refine bodyPost_ret (v:=.tuple #[.agg #[.int .u8 3,.int .u8 3,.int .u8 0,.int .i64 ((B.length-s.length:Nat):Int),.slice ao (hs true s) c9,.string ⟨#[]⟩],.nilIface]) (by simp[results,Tryz.results47,go_sem,eA,bW,b0,b2,b3,b5,b7,bZ,b1,Z2,b4,b6,b8,dc,dv,gf,gF,nv,nw]) rfl ⟨fun h=>(by rw[kt.1]at h;cases h),fun n h=>?_⟩;rw[kt.1]at h;cases h;exact⟨_,_,ao,_,c9,_,_,rfl,bl.1,fun _=>⟨rfl,rfl⟩,c6.gg vl.1 ⟨_,yq.1⟩ cA cA (Nat.le_refl _) _ _ _ _ _ _⟩
theorem ah1(ar:fY s=false)(lB:hs true s=0)(er:Int)(r:List Int)(q2:ht s=some (er,r))(lZ:ga s=.yes (s.length-r.length)):Calls Tryz.prog 47 #[.pointer (some ⟨g,0,none⟩)] w (qC w0 w g B s st lc af):=by
 refine Gh ?_;intro cf bS cb bG dL bz f aA c5
 obtain⟨x,t,ak⟩:∃x t,s=x::t:=by
  cases s with
  |nil=>exact absurd rfl bL
  |cons x t=>exact⟨x,t,rfl⟩
 refine Az ?_;clear c5;intro bt bR hA0 n aq dV m0 m1 al c5;have fh:=I (And.intro cb bG);have oF:¬(x=34∨x=39):=fun e=>by rw[ak]at ar;simp[fY,a8]at ar;omega
 refine K8 ?_;intro a1 bQ cr;have Ed:=I q2;have kt:=I lZ;clear aA h cb bG bL aq ak hA0 dV ar oF lB lZ q2;go_enter Tryz.func47,Tryz.ntmps47
 go_upto_region 4 with(first|(go_at_call 66;refine(MK dL.1.d).mono ?_;rintro bk w1 hp;obtain⟨rfl,h0⟩:=hp.1 cr.1;refine AF ?_;have bj:=I (h0.k.ft bz.1 cA (by simp));have dW:=I (c6.after dL.1.k h0);clear hp h0))
 refine KR ?_;intro ma jg mC;generalize w1.alloc (.cells #[.int .u8 0,.int .u8 0,.int .u8 0,.int .i64 0,.slice none 0 0,.string ⟨#[]⟩] 47)=cJ at ma jg mC⊢;refine Ld ?_;clear jg;intro GM yq vl jg;clear ma jg mC c5 al
 go_upto_region 7 with(first|(go_at_call 67;refine(afZ vl.1.d er r Ed.1).mono ?_;rintro bk w1 hp;obtain⟨ao,j9,kQ,kU,rfl,bO,h0⟩:=hp.2 er r Ed.1;have bj:=I (h0.k.ft yq.1 cA (by simp));have dW:=I (c6.after vl.1.k h0);have bl:=I bO;clear hp h0 bO))
 have ma:=iU bj.1 (.cells #[.int .u8 3,.int .u8 1,.int .u8 kU,.int .i64 ((B.length-s.length:Nat):Int),.slice ao (s.length-r.length) j9,.string kQ] 47);have jg:=gV w1 (.cells #[.int .u8 3,.int .u8 1,.int .u8 kU,.int .i64 ((B.length-s.length:Nat):Int),.slice ao (s.length-r.length) j9,.string kQ] 47);have mC:=(dW.1).below (da (Below.refl _ _) (.cells #[.int .u8 3,.int .u8 1,.int .u8 kU,.int .i64 ((B.length-s.length:Nat):Int),.slice ao (s.length-r.length) j9,.string kQ] 47));generalize w1.alloc (.cells #[.int .u8 3,.int .u8 1,.int .u8 kU,.int .i64 ((B.length-s.length:Nat):Int),.slice ao (s.length-r.length) j9,.string kQ] 47)=ay at ma jg mC⊢;obtain⟨ah2,wG⟩:∃mb,mb=w1.heap.size:=⟨_,rfl⟩;rw[←wG]at jg⊢;clear wG;have NG:=I ma;have NH:=I mC;obtain⟨dc,jc,dv,rD,gf,rE,gF,rF,nv,rG,nw,rH⟩:=gO jg;obtain⟨bW,bZ,b0,b1,b2,Z2,b3,b4,b5,b6,b7,b8⟩:=gO ma;clear ma jg mC
 go_wp2_with fail
 refine bodyPost_ret (v:=.tuple #[.agg #[.int .u8 3,.int .u8 1,.int .u8 kU,.int .i64 ((B.length-s.length:Nat):Int),.slice ao (s.length-r.length) j9,.string kQ],.nilIface]) (by simp[results,Tryz.results47,go_sem,eA,bW,b0,b2,b3,b5,b7,bZ,b1,Z2,b4,b6,b8,dc,dv,gf,gF,nv,nw]) rfl ⟨fun h=>(by rw[kt.1]at h;cases h),fun n h=>?_⟩;rw[kt.1]at h;cases h;exact⟨_,_,ao,_,j9,_,_,rfl,bl.1,fun _=>⟨rfl,rfl⟩,c6.gg NH.1 ⟨_,NG.1⟩ cA cA (Nat.le_refl _) _ _ _ _ _ _⟩
theorem ah3(cV:Lib.Utf8Tabs 4 5 w0)(ar:fY s=false)(lB:hs true s=0)(q2:ht s=none)(lZ:ga s=.no):Calls Tryz.prog 47 #[.pointer (some ⟨g,0,none⟩)] w (qC w0 w g B s st lc af):=by
 refine Gh ?_;intro cf bS cb bG dL bz f aA c5
 obtain⟨x,t,ak⟩:∃x t,s=x::t:=by
  cases s with
  |nil=>exact absurd rfl bL
  |cons x t=>exact⟨x,t,rfl⟩
 refine Az ?_;clear c5;intro bt bR hA0 n aq dV m0 m1 al c5;have fh:=I (And.intro cb bG);have oF:¬(x=34∨x=39):=fun e=>by rw[ak]at ar;simp[fY,a8]at ar;omega
 refine K8 ?_;intro a1 bQ cr;have Ed:=I q2;have kt:=I lZ;have et:=I cV;clear aA h cb bG bL aq ak hA0 dV ar oF lB lZ q2 cV;go_enter Tryz.func47,Tryz.ntmps47
 go_upto_region 4 with(first|(go_at_call 66;refine(MK dL.1.d).mono ?_;rintro bk w1 hp;obtain⟨rfl,h0⟩:=hp.1 cr.1;refine AF ?_;have bj:=I (h0.k.ft bz.1 cA (by simp));have dW:=I (c6.after dL.1.k h0);clear hp h0))
 refine KR ?_;intro ma jg mC;generalize w1.alloc (.cells #[.int .u8 0,.int .u8 0,.int .u8 0,.int .i64 0,.slice none 0 0,.string ⟨#[]⟩] 47)=cJ at ma jg mC⊢;refine Ld ?_;clear jg;intro GM yq vl jg;clear ma jg mC c5 al
 go_upto_region 7 with(first|(go_at_call 67;refine(afY vl.1.d Ed.1).mono ?_;rintro bk w1 hp;obtain⟨rfl,h0⟩:=hp.1 Ed.1;refine AF ?_;have bj:=I (h0.k.ft yq.1 cA (by simp));have dW:=I (c6.after vl.1.k h0);clear hp h0))
 refine KR ?_;intro ma jg mC;generalize w1.alloc (.cells #[.int .u8 0,.int .u8 0,.int .u8 0,.int .i64 0,.slice none 0 0,.string ⟨#[]⟩] 47)=ay at ma jg mC⊢;obtain⟨ah2,wG⟩:∃mb,mb=w1.heap.size:=⟨_,rfl⟩;rw[←wG]at jg⊢;clear wG;have NG:=I ma;have NH:=I mC;clear ma jg;obtain⟨f0,gQ⟩:=mC.d;have c7:=gQ.c5;have bl:=I (gQ.gm.below gQ.bu);have gx:=I (Utf8Tabs_below et.1 gQ.bu);clear mC gQ
 go_wp2_with(first|(go_at_call 64;refine(VT bl.1 gx.1 fh.1.2 (by have:=fh.1.1;omega)).mono ?_;rintro bk w1 ⟨⟨ao,bn,kr,rfl⟩,az⟩;have aC:=I az;clear az)|(refine rZ ?_;rintro bk bf ⟨⟨dI,dQ,rfl⟩,az⟩;refine yc ?_;intro bM;have bj:=I (cn NG.1 bM.1);obtain⟨bW,bZ,b0,b1,b2,Z2,b3,b4,b5,b6,b7,b8⟩:=gO bj.1;clear az))
 refine bodyPost_ret (v:=.tuple #[eA,.iface dI dQ]) (by simp[results,Tryz.results47,go_sem,eA,bW,b0,b2,b3,b5,b7,bZ,b1,Z2,b4,b6,b8]) rfl ⟨fun _=>⟨_,_,rfl,_,c6.gg (NH.1.below bM.1) ⟨_,bj.1⟩ cA cA (Nat.le_refl _) _ _ _ _ _ _⟩,fun n h=>by rw[kt.1]at h;cases h⟩
theorem aaP(cV:Lib.Utf8Tabs 4 5 w0)(cG:iS w0)(bN:0<w0.heap.size∧∃ty v,w0.cell? ⟨0,0,none⟩=some (.iface ty v))(dR:ga s≠ .op):Calls Tryz.prog 47 #[.pointer (some ⟨g,0,none⟩)] w (qC w0 w g B s st lc af):=by
 cases ar:fY s with
 |true=>exact ahZ h bL cV cG bN ar dR
 |false=>
  cases s with
  |nil=>exact absurd rfl bL
  |cons x t=>
   have oF:¬(x=34∨x=39):=fun e=>by simp[fY,a8]at ar;omega
   cases lZ:ga (x::t)with
   |op=>exact absurd lZ dR
   |no=>
    obtain⟨h0,h1⟩:=aeT lZ oF;exact ah3 h bL cV ar h0 h1 lZ
   |yes n=>
    rcases aeR lZ oF with⟨h0,h1⟩|⟨h0,af,r,h1,h3,h4,h5,h6⟩
    ·subst h1;exact ah0 h bL ar h0 lZ
    ·subst h3;exact ah1 h bL ar h0 af r h1 lZ
end
end fx
