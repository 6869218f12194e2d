/- Part 20 of the proof (Pn0, Py2, Tg2, Tg3). Conditions: each theorem's own. -/
import Derived.Test.YtmpeadgiclfapaaGreatDoorZ20
set_option linter.all false
set_option maxHeartbeats 0
set_option maxRecDepth 100000
namespace Go.Proofs.YtmpeadgiclfapaaGreatDoor
namespace gi
open RowKit YtmpeadgiclfapaaGreatDoorW.PrintWords YtmpeadgiclfapaaGreatDoorW.PrintLast YtmpeadgiclfapaaGreatDoorW.PrintMore ei cP gJ
def pP(rest:List Int)(x:Int)(P:Option (Int×List Int)):Prop:=
 x= -1∨(x≠ -1∧x≠0∧(fF rest=true→P=none)∧(fF rest=false→∃k,P=some (k,rest)))∨(x=0∧P=none)
def Dy(c:Int):Bool:=cN c||fR c||c==46||c==43||c==45
def qv(rest:List Int):Prop:=∀c r,rest=c::r→cN c=false∧fR c=false∧c≠46
def nR(u:List Int):Prop:=∀c∈u,Dy c=true
theorem nR.tail{c:Int}{u:List Int}(h:nR (c::u)):nR u:=fun x ae=>h x tQ
theorem nR.drop{u:List Int}(h:nR u)(n:Nat):nR (u.drop n):=fun x ae=>h x (List.mem_of_mem_drop ae)
theorem aea{c:Int}(h:Dy c=true):iH c=true:=by
 unfold Dy at h;unfold iH;simp only[Bool.or_eq_true]at h⊢;rcases h with(((h|h)|h)|h)|h
 ·exact .inl (.inl (.inl (.inr h)))
 ·exact .inl (.inl (.inl (.inl h)))
 ·exact .inr h
 ·exact .inl (.inr h)
 ·exact .inl (.inl (.inr h))
theorem y0{u rest:List Int}{k:Int}(h:u≠[]):a8 (u++rest) k=a8 u k:=by
 cases u with
 |nil=>exact absurd rfl h
 |cons c r=>rfl
theorem qw{rest:List Int}(h:qv rest){k:Int}(ad:cN k=true∨fR k=true∨k=46):a8 rest k=false:=by
 cases rest with
 |nil=>rfl
 |cons c r=>
  obtain⟨h0,h1,h2⟩:=h c r rfl;simp only[a8,beq_eq_false_iff_ne];rintro rfl;rcases ad with ad|ad|ad
  ·rw[h0]at ad;cases ad
  ·rw[h1]at ad;cases ad
  ·exact h2 ad
theorem xa{c a b:Int}:((c==a)=true∨(c==b)=true)↔(c=a∨c=b):=by rw[beq_iff_eq,beq_iff_eq]
theorem y1{c:Int}{r:List Int}{k:Int}:a8 (c::r) k=(c==k):=rfl
theorem Dz{k:Int}{u rest:List Int}(hu:nR u):kP k (u++rest)=if u=[]then(if fF rest=true then none else some (k,rest))else none:=by
 cases u with
 |nil=>rfl
 |cons c r=>
  rw[if_neg (List.cons_ne_nil c r)];unfold kP;have:fF (c::r++rest)=true:=aea (hu c (by simp));rw[if_pos this]
theorem A6{x k:Int}{rest:List Int}(h1:x≠ -1)(h0:x≠0):pP rest x (kP k rest):=by
 refine .inr (.inl ⟨h1,h0,fun h=>?_,fun h=>⟨k,?_⟩⟩)
 ·unfold kP;rw[if_pos h]
 ·unfold kP;rw[if_neg zK]
theorem vB{rest:List Int}{P:Option (Int×List Int)}(h:P=none):pP rest 0 P:=.inr (.inr ⟨rfl,h⟩)
theorem Ho{k:Int}{u rest:List Int}(hu:nR u)(au:qv rest):pP rest (tj u) (pD k (u++rest)):=by
 cases u with
 |nil=>
  have h0:a8 rest 102=false:=qw au (.inr (.inl (by decide)));have h1:a8 rest 70=false:=qw au (.inr (.inl (by decide)))
  show pP rest 4 (pD k rest)
  unfold pD;rw[if_neg (by rw[h0,h1];decide)];exact A6 (by decide) (by decide)
 |cons c r=>
  simp only[tj];unfold pD;rw[y0 (List.cons_ne_nil c r),y0 (List.cons_ne_nil c r),y1,y1];by_cases h:c=102∨c=70
  ·rw[if_pos h,if_pos (xa.mpr h)]
   show pP rest _ (kP 4 (r++rest))
   rw[Dz hu.tail];by_cases aq:r=[]
   ·rw[if_pos aq,if_pos aq];exact A6 (k:=4) (by decide) (by decide)
   ·rw[if_neg aq,if_neg aq];exact vB rfl
  ·rw[if_neg h,if_neg (fun h1=>h (xa.mp h1))];refine vB ?_;rw[Dz hu,if_neg (List.cons_ne_nil c r)]
theorem Me{p:Int→Bool}{u rest:List Int}(au:∀c r,rest=c::r→p c=false):dt p (u++rest)=dt p u:=by
 induction u with
 |nil=>
  cases rest with
  |nil=>rfl
  |cons c r=>
   show dt p (c::r)=0
   simp only[dt];rw[if_neg (by rw[au c r rfl];decide)]
 |cons c r bb=>
  show dt p (c::(r++rest))=dt p (c::r)
  simp only[dt];rw[bb]
theorem Mf{u rest:List Int}{n:Nat}(h:n≤u.length):(u++rest).drop n=u.drop n++rest:=by
 rw[List.drop_append_of_le_length h]
theorem U4(u:List Int):dt cN u=bI u:=by
 induction u with
 |nil=>rfl
 |cons c r bb=>simp only[dt,bI];rw[bb]
theorem qv.aeb{rest:List Int}(h:qv rest):∀c r,rest=c::r→cN c=false:=fun c r e=>(h c r e).1
theorem Hp{u rest:List Int}(au:qv rest):(u++rest).drop (dt cN (u++rest))=u.drop (bI u)++rest:=by
 rw[Me au.aeb,U4,Mf (uh u)]
theorem Mg{k:Int}{u rest:List Int}(hu:nR u)(au:qv rest):pP rest (uz u) (pC k (u++rest)):=by
 cases u with
 |nil=>
  have h0:a8 rest 101=false:=qw au (.inr (.inl (by decide)));have h1:a8 rest 69=false:=qw au (.inr (.inl (by decide)))
  show pP rest (tj []) (pC k rest)
  unfold pC;rw[if_neg (by rw[h0,h1];simp)];exact Ho (u:=[]) hu au
 |cons c r=>
  simp only[uz];unfold pC;rw[y0 (List.cons_ne_nil c r),y0 (List.cons_ne_nil c r),y1,y1];by_cases h:c=101∨c=69
  ·rw[if_pos h];by_cases hd:bI (wU r)=0
   ·rw[if_pos hd];exact .inl rfl
   ·rw[if_neg hd];cases r with
    |nil=>exact absurd rfl hd
    |cons d t=>
     rw[if_pos (show 2≤(c::d::t++rest).length∧((c==101)=true∨(c==69)=true)from⟨(by simp only[List.cons_append,List.length_cons];omega),xa.mpr h⟩)]
     show pP rest _ (w6 (d::t++rest))
     unfold w6;rw[y0 (List.cons_ne_nil d t),y0 (List.cons_ne_nil d t),y1,y1];simp only[wU]at hd⊢;by_cases ak:d=43∨d=45
     ·rw[if_pos ak]at hd⊢;cases t with
      |nil=>exact absurd rfl hd
      |cons a b=>
       rw[if_pos (xa.mpr ak),if_neg (show¬(d::a::b++rest).length=1 by simp only[List.cons_append,List.length_cons];omega)]
       show pP rest _ (vz (a::b++rest))
       unfold vz;rw[Hp au];exact Ho (nR.drop hu.tail.tail _) au
     ·rw[if_neg ak]at hd⊢;rw[if_neg (fun h1=>ak (xa.mp h1))];unfold vz;rw[Hp au];exact Ho (nR.drop hu.tail _) au
  ·rw[if_neg h,if_neg (show¬(2≤(c::r++rest).length∧((c==101)=true∨(c==69)=true))from fun h1=>h (xa.mp h1.2))];exact Ho hu au
theorem Mh{k:Int}{w:Nat}{u rest:List Int}(hu:nR u)(au:qv rest)(ad:k=4→w=0):pP rest (vt w u) (ie k (u++rest)):=by
 cases u with
 |nil=>
  have h0:a8 rest 46=false:=qw au (.inr (.inr rfl))
  show pP rest (if w=0 then -1 else uz []) (ie k rest)
  by_cases hw:w=0
  ·rw[if_pos hw];exact .inl rfl
  ·rw[if_neg hw];unfold ie;rw[if_neg (by rw[h0];decide)];exact Mg (u:=[]) hu au
 |cons c r=>
  simp only[vt];unfold ie;rw[y0 (List.cons_ne_nil c r),y1];by_cases h:c=46
  ·rw[if_pos h,if_pos (beq_iff_eq.mpr h)];by_cases aG:w+bI r=0
   ·rw[if_pos aG];exact .inl rfl
   ·rw[if_neg aG,if_neg (by
     rintro⟨h0,h1⟩;have:=ad h1
     have h2:r=[]:=by
      have:(c::r++rest).length=1:=h0;simp only[List.cons_append,List.length_cons,List.length_append]at this;exact List.eq_nil_of_length_eq_zero (by omega)
     subst h2;simp[bI]at aG;omega)]
    show pP rest _ (AZ (r++rest))
    unfold AZ;rw[Hp au];exact Mg (nR.drop hu.tail _) au
  ·rw[if_neg h,if_neg (fun h1=>h (beq_iff_eq.mp h1))];by_cases hw:w=0
   ·rw[if_pos hw];exact .inl rfl
   ·rw[if_neg hw];exact Mg hu au
theorem aec{rest:List Int}(h:qv rest):∀c r,rest=c::r→dr c=false:=fun c r e=>by
 obtain⟨h1,h2,_⟩:=h c r e;unfold cN at h1;unfold fR at h2;unfold dr;simp only[Bool.or_eq_false_iff,Bool.and_eq_false_iff,decide_eq_false_iff_not,beq_eq_false_iff_ne]at h1 h2⊢;omega
theorem U5{rest:List Int}(h:qv rest):∀c r,rest=c::r→en c=false:=fun c r e=>by
 obtain⟨h1,h2,_⟩:=h c r e;unfold cN at h1;unfold en;simp only[Bool.or_eq_false_iff,Bool.and_eq_false_iff,decide_eq_false_iff_not,beq_eq_false_iff_ne]at h1⊢;omega
theorem aed(u:List Int):tk u=decide (dt dr u=u.length):=by
 induction u with
 |nil=>rfl
 |cons c r bb=>
  rw[Bool.eq_iff_iff,decide_eq_true_eq];have:=nD dr r;simp only[tk,dt,List.length_cons,bb,Bool.and_eq_true,decide_eq_true_eq];by_cases h:dr c=true
  ·rw[if_pos h];exact⟨fun h0=>by omega,fun h0=>⟨h,(by omega)⟩⟩
  ·rw[if_neg h];exact⟨fun h0=>absurd h0.1 h,fun h0=>by omega⟩
theorem aee{u rest:List Int}(hu:nR u)(au:qv rest)(n:Nat)(aq:n=u.length+2):pP rest (if tk u=true then(if n=2 then 0 else 2)else 0) (wm (u++rest)):=by
 have ai:=nD dr u;unfold wm;rw[Me (aec au),Mf ai,Dz (hu.drop _),aed];by_cases h:dt dr u=u.length
 ·rw[if_pos (decide_eq_true h)];by_cases aG:n=2
  ·rw[if_pos aG,if_pos (by omega)];exact vB rfl
  ·rw[if_neg aG,if_neg (by omega),if_pos (by rw[h];exact List.drop_length ..)];exact A6 (k:=1) (by decide) (by decide)
 ·rw[if_neg (by rw[decide_eq_false h];decide)];refine vB ?_;split
  ·rfl
  ·rw[if_neg];exact Rs
theorem aef{u:List Int}(h:lT u=true):rf u=decide (dt en u<u.length):=by
 induction u with
 |nil=>rfl
 |cons c r bb=>
  simp only[lT,Bool.and_eq_true]at h;have ai:=nD en r;rw[Bool.eq_iff_iff,decide_eq_true_eq];have h0:=h.1;unfold cN at h0;simp only[Bool.and_eq_true,decide_eq_true_eq]at h0;simp only[rf,dt,List.length_cons,bb h.2,Bool.or_eq_true,beq_iff_eq,decide_eq_true_eq];by_cases aY:en c=true
  ·rw[if_pos aY];unfold en at aY;simp only[Bool.and_eq_true,decide_eq_true_eq]at aY;omega
  ·rw[if_neg aY];have bK:en c=false:=by simpa using aY
   unfold en at bK;simp only[Bool.and_eq_false_iff,decide_eq_false_iff_not]at bK;omega
theorem aeg{u:List Int}(h:dt en u=u.length):lT u=true:=by
 induction u with
 |nil=>rfl
 |cons c r bb=>
  have ai:=nD en r;simp only[dt,List.length_cons]at h;by_cases aY:en c=true
  ·rw[if_pos aY]at h;simp only[lT,Bool.and_eq_true];unfold en at aY;unfold cN;simp only[Bool.and_eq_true,decide_eq_true_eq]at aY⊢;exact⟨(by omega),bb (by omega)⟩
  ·rw[if_neg aY]at h;omega
theorem aeh{u rest:List Int}(hu:nR u)(au:qv rest):yT (u++rest)=if dt en u=u.length then(if fF rest=true then none else some (2,rest))else none:=by
 have ai:=nD en u;unfold yT;rw[Me (U5 au),Mf ai,Dz (hu.drop _)];by_cases h:dt en u=u.length
 ·rw[if_pos h,if_pos (by rw[h];exact List.drop_length ..)]
 ·rw[if_neg h,if_neg];exact Rs
theorem aei(u:List Int):lT u=decide (bI u=u.length):=by
 induction u with
 |nil=>rfl
 |cons c r bb=>
  rw[Bool.eq_iff_iff,decide_eq_true_eq];have:=uh r;simp only[lT,bI,List.length_cons,bb,Bool.and_eq_true,decide_eq_true_eq];by_cases h:cN c=true
  ·rw[if_pos h];exact⟨fun h0=>by omega,fun h0=>⟨h,(by omega)⟩⟩
  ·rw[if_neg h];exact⟨fun h0=>absurd h0.1 h,fun h0=>by omega⟩
theorem aej{k:Int}{c:Int}{r rest:List Int}(hu:nR (c::r))(ai:cN c=true):ie k (c::r++rest)=none:=by
 unfold cN at ai;simp only[Bool.and_eq_true,decide_eq_true_eq]at ai;unfold ie pC pD;simp only[List.cons_append,a8,beq_iff_eq];rw[if_neg (by omega),if_neg (by omega),if_neg (by omega)];exact(Dz (u:=c::r) (rest:=rest) hu).trans (if_neg (List.cons_ne_nil c r))
theorem QR{d:Int}{s:List Int}(h:d=120∨d=88):kl (48::d::s)=wm s:=by
 unfold kl;rw[if_pos (show a8 (48::d::s) 48=true from rfl),show(48::d::s).drop 1=d::s from rfl,if_pos (show a8 (d::s) 120=true∨a8 (d::s) 88=true from xa.mpr h)];rfl
theorem U6{d:Int}{s:List Int}(h:en d=true):kl (48::d::s)=yT s:=by
 have h0:=h;unfold en at h0;simp only[Bool.and_eq_true,decide_eq_true_eq]at h0;unfold kl;rw[if_pos (show a8 (48::d::s) 48=true from rfl),show(48::d::s).drop 1=d::s from rfl,show a6 (48::d::s) 1=d from rfl,if_neg (show¬(a8 (d::s) 120=true∨a8 (d::s) 88=true)from fun h=>by have:=xa.mp h;omega),if_pos (show 1<(48::d::s).length∧en d=true from⟨uS,h⟩)];rfl
theorem DA{s:List Int}(h1:a8 s 120=false)(h2:a8 s 88=false)(h3:∀c r,s=c::r→en c=false):kl (48::s)=ie 0 s:=by
 unfold kl;rw[if_pos (show a8 (48::s) 48=true from rfl),show(48::s).drop 1=s from rfl,if_neg (show¬(a8 s 120=true∨a8 s 88=true)by rw[h1,h2];decide),if_neg ?_];rintro⟨h0,h4⟩;cases s with
 |nil=>simp at h0
 |cons c r=>
  have:en c=true:=h4;rw[h3 c r rfl]at this;cases this
theorem Mi{c:Int}{s:List Int}(h:49≤c∧c≤57):kl (c::s)=ie 0 (s.drop (dt cN s)):=by
 unfold kl;rw[if_neg (show¬a8 (c::s) 48=true by simp only[a8,beq_iff_eq];omega),show a6 (c::s) 0=c from rfl,if_pos (show(c::s)≠[]∧49≤c∧c≤57 from⟨List.cons_ne_nil c s,h⟩)];rfl
theorem U7{s:List Int}:kl (46::s)=ie 4 (46::s):=by
 unfold kl;rw[if_neg (show¬a8 (46::s) 48=true by simp[a8]),show a6 (46::s) 0=46 from rfl,if_neg (show¬((46::s)≠[]∧(49:Int)≤46∧(46:Int)≤57)from fun h=>absurd h.2.1 (by decide)),if_pos (show a8 (46::s) 46=true from rfl)]
theorem U8{k:Int}{rest:List Int}(au:qv rest):ie k rest=kP k rest:=by
 unfold ie pC pD;rw[if_neg (by rw[qw au (.inr (.inr rfl))];decide),if_neg (by rw[qw au (k:=101) (.inr (.inl (by decide))),qw au (k:=69) (.inr (.inl (by decide)))];simp),if_neg (by rw[qw au (k:=102) (.inr (.inl (by decide))),qw au (k:=70) (.inr (.inl (by decide)))];decide)]
theorem aek{t rest:List Int}(aU:nR t)(au:qv rest):pP rest (si t) (kl (t++rest)):=by
 cases t with
 |nil=>
  refine vB ?_
  show kl rest=none
  unfold kl;rw[if_neg (by rw[qw au (.inl (by decide))];decide),if_neg ?_,if_neg (by rw[qw au (.inr (.inr rfl))];decide)];rintro⟨h0,h1⟩;cases rest with
  |nil=>exact h0 rfl
  |cons c r=>
   have:=(au c r rfl).1;unfold cN at this;simp only[Bool.and_eq_false_iff,decide_eq_false_iff_not]at this;simp only[a6,List.getD_cons_zero]at h1;omega
 |cons c r=>
  have aA:si (c::r)=if kE (c::r)=true then(if tk ((c::r).drop 2)=true then(if(c::r).length=2 then 0 else 2)else 0)else if lT (c::r)=true then(if c=48∧1<(c::r).length then(if rf (c::r)=true then 0 else 3)else 1)else oJ (c::r):=by
   unfold si;rw[if_neg (List.cons_ne_nil c r)];rfl
  rw[aA];by_cases ck:c=48
  ·subst ck;have h0:cN 48=true:=by decide
   cases r with
   |nil=>
    have hm:kl ([48]++rest)=kP 0 rest:=by
     rw[show [48]++rest=48::rest from rfl,DA (qw au (.inr (.inl (by decide)))) (qw au (.inr (.inl (by decide)))) (U5 au),U8 au]
    rw[hm];exact A6 (by decide) (by decide)
   |cons d u=>
    have U9:kE (48::d::u)=(d==120||d==88):=by
     unfold kE;rw[show a6 (48::d::u) 0=48 from rfl,show a6 (48::d::u) 1=d from rfl];rw[Bool.eq_iff_iff];simp
    rw[show 48::d::u++rest=48::d::(u++rest)from rfl];by_cases tr:d=120∨d=88
    ·rw[if_pos (show kE (48::d::u)=true by rw[U9];simpa using tr),QR tr];exact aee (n:=(48::d::u).length) aU.tail.tail au (by simp)
    ·rw[if_neg (show¬kE (48::d::u)=true by rw[U9];simpa using tr)];by_cases aY:en d=true
     ·rw[U6 aY,aeh aU.tail.tail au];have Va:cN d=true:=by unfold en at aY;unfold cN;simp only[Bool.and_eq_true,decide_eq_true_eq]at aY⊢;omega
      by_cases jW:lT (48::d::u)=true
      ·have ael:lT u=true:=by simp only[lT,Bool.and_eq_true]at jW;exact jW.2.2
       have h1:rf (48::d::u)=rf u:=by
        unfold en at aY;simp only[Bool.and_eq_true,decide_eq_true_eq]at aY;simp only[rf];rw[show(d==56||d==57)=false by simp only[Bool.or_eq_false_iff,beq_eq_false_iff_ne];omega];rfl
       rw[if_pos jW,if_pos (show(48:Int)=48∧1<(48::d::u).length from⟨rfl,uS⟩),h1,aef ael];have:=nD en u;by_cases ai:dt en u<u.length
       ·rw[if_pos (decide_eq_true ai),if_neg (show¬dt en u=u.length by omega)];exact vB rfl
       ·rw[if_neg (show¬decide (dt en u<u.length)=true by rw[decide_eq_false ai];decide),if_pos (show dt en u=u.length by omega)];exact A6 (k:=2) (by decide) (by decide)
      ·have sj:oJ (48::d::u)=0:=by
        unfold oJ;rw[if_pos (show 1<bI (48::d::u)∧a6 (48::d::u) 0=48 from⟨(by simp only[bI];rw[if_pos h0,if_pos Va];omega),rfl⟩)]
       rw[if_neg jW,sj];refine vB (if_neg fun h=>jW ?_);simp only[lT,Bool.and_eq_true];exact⟨h0,Va,aeg h⟩
     ·have hm:kl (48::d::(u++rest))=ie 0 (d::(u++rest)):=DA Fk Fk (fun c r e=>by simp only[List.cons.injEq]at e;rw[←e.1];simpa using aY);rw[hm];by_cases tq:cN d=true
      ·have aG:ie 0 (d::(u++rest))=none:=aej (r:=u) (rest:=rest) aU.tail tq;rw[aG]
       have h1:(d==56||d==57)=true:=by
        unfold cN at tq;unfold en at aY;simp only[Bool.and_eq_true,decide_eq_true_eq,Bool.or_eq_true,beq_iff_eq]at tq aY⊢;omega
       by_cases jW:lT (48::d::u)=true
       ·rw[if_pos jW,if_pos (show(48:Int)=48∧1<(48::d::u).length from⟨rfl,uS⟩),if_pos (by simp only[rf];rw[h1];simp)];exact vB rfl
       ·have sj:oJ (48::d::u)=0:=by
         unfold oJ;rw[if_pos (show 1<bI (48::d::u)∧a6 (48::d::u) 0=48 from⟨(by simp only[bI];rw[if_pos h0,if_pos tq];omega),rfl⟩)]
        rw[if_neg jW,sj];exact vB rfl
      ·have DB:cN d=false:=by simpa using tq
       have iD:bI (48::d::u)=1:=by
        show(if cN 48=true then(if cN d=true then bI u+1 else 0)+1 else 0)=1
        rw[DB];rfl
       have sj:oJ (48::d::u)=vt 1 (d::u):=by
        unfold oJ;rw[iD,if_neg (fun h=>absurd h.1 (by decide))];rfl
       rw[if_neg (by simp only[lT,DB];simp),sj];exact Mh (u:=d::u) (w:=1) aU.tail au (by decide)
  ·have ed:kE (c::r)=false:=by unfold kE;rw[show a6 (c::r) 0=c from rfl,decide_eq_false ck];rfl
   rw[if_neg (show¬kE (c::r)=true by rw[ed];decide),show c::r++rest=c::(r++rest)from rfl];by_cases tq:cN c=true
   ·have Vb:=tq;unfold cN at Vb;simp only[Bool.and_eq_true,decide_eq_true_eq]at Vb;rw[Mi (show 49≤c∧c≤57 by omega),Hp au];by_cases jW:lT (c::r)=true
    ·rw[if_pos jW,if_neg (fun h=>ck h.1)]
     have aem:bI r=r.length:=by
      simp only[lT,Bool.and_eq_true]at jW;have:=jW.2;rw[aei]at this
      simpa using this
     rw[aem,List.drop_length,List.nil_append,U8 au];exact A6 (by decide) (by decide)
    ·have iD:bI (c::r)=bI r+1:=by simp only[bI,tq];simp
     have sj:oJ (c::r)=vt (bI r+1) (r.drop (bI r)):=by
      unfold oJ;rw[if_neg (fun h=>ck h.2),iD];rfl
     rw[if_neg jW,sj];exact Mh (aU.tail.drop _) au (fun h=>absurd h (by decide))
   ·have DB:cN c=false:=by simpa using tq
    have iD:bI (c::r)=0:=by simp only[bI,DB];simp
    have sj:oJ (c::r)=vt 0 (c::r):=by
     unfold oJ;rw[iD,if_neg (fun h=>absurd h.1 (by decide)),List.drop_zero]
    rw[if_neg (by simp only[lT,DB];simp),sj];by_cases h0:c=46
    ·subst h0;rw[U7];exact Mh (u:=46::r) aU au (fun _=>rfl)
    ·simp only[vt];rw[if_neg h0];exact .inl (if_pos True.intro)
end gi
namespace gi
open RowKit YtmpeadgiclfapaaGreatDoorW.PrintWords YtmpeadgiclfapaaGreatDoorW.PrintLast YtmpeadgiclfapaaGreatDoorW.PrintMore ei cP gJ eI mG nt
theorem Mj:∀(n:Nat) (acc s br r:List Int),oM n acc s=some (br,r)→(∃ext,br=acc++ext)∧∃k,0<k∧r=s.drop k:=by
 intro n
 induction n with
 |zero=>intro acc s br r h;cases h
 |succ n bb=>
  intro acc s br r h;cases s with
  |nil=>cases h
  |cons c t=>
   simp only[oM]at h;split at h
   ·refine r2 ?_;clear h;rintro⟨rfl,rfl⟩;exact⟨⟨[],(by simp)⟩,1,(by omega),rfl⟩
   ·split at h
    ·obtain⟨⟨ext,aD⟩,k,_,bx⟩:=bb _ _ _ _ h;obtain⟨j,_,bq⟩:=pL t false;exact⟨⟨c::ext,(by rw[aD];simp)⟩,1+(j+k),(by omega),(by rw[bx,bq,List.drop_drop,Nat.add_comm 1];rfl)⟩
    ·split at h
     ·obtain⟨⟨ext,aD⟩,k,_,bx⟩:=bb _ _ _ _ h;obtain⟨j,_,bq⟩:=pL (t.drop 2) false;exact⟨⟨37::a6 t 0::a6 t 1::ext,(by rw[aD];simp)⟩,1+(2+(j+k)),(by omega),(by rw[bx,bq,List.drop_drop,List.drop_drop,Nat.add_comm 1,←Nat.add_assoc];rfl)⟩
     ·cases h
theorem Mk{n:Nat}{s br r:List Int}(h:oM n [] s=some (br,r))(h47:a6 s 0≠47):a6 br 0≠47:=by
 cases n with
 |zero=>cases h
 |succ n=>
  cases s with
  |nil=>cases h
  |cons c t=>
   have ai:c≠47:=h47;simp only[oM]at h;split at h
   ·refine r2 ?_;clear h;rintro⟨rfl,rfl⟩;decide
   ·split at h
    ·obtain⟨⟨ext,aD⟩,_⟩:=Mj _ _ _ _ _ h;rw[aD];exact ai
    ·split at h
     ·obtain⟨⟨ext,aD⟩,_⟩:=Mj _ _ _ _ _ h;rw[aD];exact(by decide:(37:Int)≠47)
     ·cases h
def hQ(r:List Int):Option (List Int×List Int):=oM (r.length+1) [] (bc false r)
section
variable {r:List Int} (h47:a6 (bc false r) 0≠47)
include h47
theorem aen:
 (∀br bH,pf r=.yes (br,bH)→hQ r=some (br,bH)∧lE br=true)∧(pf r=.no→∀br bH,hQ r=some (br,bH)→lE br=false):=by
 have hle:=kC r false;have key:=fun dR=>acz r.length (r.length+1) (r.length+1) [] r (Nat.le_refl _) (by omega) (by omega) .nil dR;constructor
 ·intro br bH h;obtain⟨cY,cd⟩:=key (by show pf r≠ .op;rw[h];exact fun e=>by cases e);cases hp:hQ r with
  |none=>have:=cd hp;rw[show hH (r.length+1) [] r=pf r from rfl,h]at this;cases this
  |some x=>
   obtain⟨Vc,gd⟩:=x;obtain⟨ak,_,fG,hx⟩:=cY Vc gd hp;have aA:=Mk hp h47;obtain⟨p0,ba⟩:=UA ak aA;cases ai:lE Vc with
   |true=>
    have:=fG (p0 ai);rw[show hH (r.length+1) [] r=pf r from rfl,h]at this;simp only[jh.yes.injEq,Prod.mk.injEq]at this;obtain⟨rfl,rfl⟩:=this;exact⟨rfl,ai⟩
   |false=>
    have:=hx (by rw[ba ai];decide);rw[show hH (r.length+1) [] r=pf r from rfl,h]at this;cases this
 ·intro h br bH hp;obtain⟨cY,_⟩:=key (by show pf r≠ .op;rw[h];exact fun e=>by cases e);obtain⟨ak,_,fG,_⟩:=cY br bH hp;cases ai:lE br with
  |false=>rfl
  |true=>
   have:=fG ((UA ak (Mk hp h47)).1 ai);rw[show hH (r.length+1) [] r=pf r from rfl,h]at this;cases this
theorem Vd:
 (∀k n str,fW (91::r)=.yes (k,n,str)→∃br bH,hQ r=some (br,bH)∧lE br=true∧k=2∧n=r.length+1-bH.length∧str=strOfNums br∧bH=(91::r).drop n)∧
 (fW (91::r)=.no→∀br bH,hQ r=some (br,bH)→lE br=false):=by
 obtain⟨cC,gA⟩:=aen h47;simp only[fW,if_true];constructor
 ·intro k n str h;cases aU:pf r with
  |no=>rw[aU]at h;cases h
  |op=>rw[aU]at h;cases h
  |yes x=>
   obtain⟨br,bH⟩:=x;rw[aU]at h;simp only[jh.yes.injEq,Prod.mk.injEq]at h;obtain⟨rfl,rfl,rfl⟩:=h;obtain⟨h0,h1⟩:=cC br bH aU;refine⟨br,bH,h0,h1,rfl,rfl,rfl,?_⟩;obtain⟨_,j,Ml,bq⟩:=Mj _ _ _ _ _ h0;obtain⟨i,hi,iJ⟩:=pL r false;rw[iJ,List.drop_drop]at bq;have an:bH.length=r.length-(i+j):=by rw[bq,List.length_drop]
   by_cases fo:i+j≤r.length
   ·rw[show r.length+1-bH.length=1+(i+j)by omega,←List.drop_drop];exact bq
   ·rw[List.eq_nil_of_length_eq_zero (show bH.length=0 by omega)];simp
 ·intro h br bH hp;refine gA ?_ br bH hp;cases aU:pf r with
  |no=>rfl
  |op=>rw[aU]at h;cases h
  |yes x=>obtain⟨a,b⟩:=x;rw[aU]at h;cases h
end
end gi
namespace nt
open RowKit YtmpeadgiclfapaaGreatDoorW.PrintWords YtmpeadgiclfapaaGreatDoorW.PrintLast YtmpeadgiclfapaaGreatDoorW.PrintMore ei cP gJ eI eC mG
theorem zL{w0 w:World}{g:Nat}{B:List Int}{p:Nat}{told:Int}{l:List cx}(h:cu w0 w g B p told l)(kind:Int)(from_:Nat)(aA:from_≤p)(an:l.length≤1000000){v:Int}(aZ:v=(from_:Int)):
 Calls Tryz.prog 17 #[.pointer (some ⟨g,0,none⟩),.int .i64 kind,.int .i64 v] w fun e w'=>e=.returned (.tuple #[])∧cu w0 w' g B p told (l++[⟨kind,0,from_,false,cP.sub B from_ p,⟨#[]⟩⟩]):=by
 subst aZ;exact T0 h kind from_ aA an
def y2(w0:World)(g:Nat)(B:List Int)(c:fl)(l:List cx)(G:Nat→fl→Prop)(p:Nat)(e:Ending)(w':World):Prop:=
 e=.returned (.tuple #[])∧∃(q:Nat) (t:Int) (cU:List cx),cu w0 w' g B q t cU∧Out B c l (G q) q t cU∧(t=1→p≤q)
def tR(B:List Int)(st:List Int)(e:Int)(q:Nat)(cw:fl):Prop:=if e=0 then read ca B cw=.eof else mD cw st.tail (B.drop q)
def A8(w0:World)(g:Nat)(B:List Int)(p:Nat):Prop:=∀(w:World) (l:List cx) (c:fl) (st:List Int) (e deep:Int),cu w0 w g B p 1 l→l.length≤p→rq e st→nn ca B c st (B.drop p)→
 Calls Tryz.prog 9 #[.pointer (some ⟨g,0,none⟩),.int .u8 e,.int .i64 deep] w (y2 w0 g B c l (tR B st e) p)
def A9(w0:World)(g:Nat)(B:List Int)(p:Nat):Prop:=∀(w:World) (l:List cx) (c:fl) (st:List Int) (deep:Int),cu w0 w g B p 1 l→l.length≤p→read ca B c=jG ca B st (B.drop p)→
 Calls Tryz.prog 26 #[.pointer (some ⟨g,0,none⟩),.int .i64 deep] w (y2 w0 g B c l (fun q cw=>mD cw st (B.drop q)) (p+1))
theorem Ve{w0 w':World}{g:Nat}{B:List Int}{c:fl}{l:List cx}{st:List Int}{p ba:Nat}{k:Int}{e:Ending}(ai:read ca B c=jG ca B st (B.drop p))(U:a8 (B.drop p) k=true)(ad:k=123∨k=60)(DC:ba=p+1)(h:y2 w0 g B ⟨4,k::st,eM (B.drop ba)⟩ (l++[⟨4,0,p,false,cP.sub B p ba,⟨#[]⟩⟩]) (tR B (k::st) (lC k)) ba e w')(hp:ba≤B.length):y2 w0 g B c l (fun q cw=>mD cw st (B.drop q)) (p+1) e w':=by
 subst DC;obtain⟨he,q,t,cU,ae,aY,ar⟩:=h;refine⟨he,q,t,cU,ae,?_,ar⟩;have ak:=yX (ai.trans (adH (st:=st) U ad));refine Out.from_ ak (?_:Out B _ _ _ _ _ _);have aG:lC k≠0:=by rcases ad with rfl|rfl<;>decide
 exact⟨fun e=>by
  obtain⟨d,cw,h0,h1,h2,h3⟩:=aY.yes e;unfold tR at h2;rw[if_neg aG]at h2;exact⟨d,cw,h0,h1,h2,h3⟩,aY.no,aY.r⟩
theorem aeo{s:List Int}{n:Nat}(h:qu s=.yes n)(ak:a8 s 45=true∨∃c r,s=c::r∧(cN c=true∨c=46)):0<n:=by
 unfold qu at h;split at h
 ·cases h
 ·unfold Dt at h;split at h
  ·cases h
  ·split at h
   ·simp only[jh.yes.injEq]at h;rw[←h];by_cases U:a8 s 45=true
    ·obtain⟨r,au⟩:=UZ U;unfold kG;rw[if_pos U,au];have:=kC r false;simp only[List.length_cons,List.drop_succ_cons,List.drop_zero];omega
    ·obtain⟨c,r,rfl,ai⟩:=ak.resolve_left U
     have bL:¬(c=43∨c=45):=by
      rcases ai with ai|ai
      ·have:48≤c∧c≤57:=by simpa [cN]using ai
       omega
      ·omega
     have sa:∀ae,qm ae false c=true:=fun ae=>by
      unfold qm;rw[if_neg bL];rcases ai with ai|ai
      ·rw[ai];rfl
      ·rw[ai];simp
     have:0<me (c::r):=by
      unfold me;simp only[oK];rw[if_pos (sa _)];omega
     unfold kG;rw[if_neg U];omega
   ·cases h
theorem Vf{s:List Int}{n:Nat}(h:ga s=.yes n):0<n:=by
 cases s with
 |nil=>cases h
 |cons c r=>
  simp only[ga]at h;split at h
  ·cases ak:hB (c::r)with
   |yes r1=>
    rw[ak]at h;simp only[jh.yes.injEq]at h;have:=L5 _ _ _ ak;simp only[List.length_cons]at this h;omega
   |no=>rw[ak]at h;cases h
   |op=>rw[ak]at h;cases h
  ·split at h
   ·unfold xO at h;split at h
    ·cases h
    ·simp only[jh.yes.injEq]at h;omega
   ·split at h
    ·rename_i hd
     refine aeo h ?_;rcases hd with hd|hd|hd
     ·exact .inr ⟨c,r,rfl,.inl hd⟩
     ·exact .inl (by rw[hd];rfl)
     ·exact .inr ⟨c,r,rfl,.inr hd⟩
    ·cases h
theorem aep{w0 w':World}{g:Nat}{B:List Int}{c:fl}{l:List cx}{st:List Int}{p:Nat}{e:Ending}(hp:p<B.length)(ai:read ca B c=jG ca B st (B.drop p))(h1:a8 (B.drop p) 123=false)(h2:a8 (B.drop p) 60=false)(an:l.length≤p)(h:UU w0 g B p l e w'):
 y2 w0 g B c l (fun q cw=>mD cw st (B.drop q)) (p+1) e w':=by
 obtain⟨he,q,t,cU,ae,ak,h0,h3⟩:=h
 have Ds:t=1→p<q:=fun aU=>by
  obtain⟨h4,h5⟩:=ak.2.1 aU;have:=Vf h4;omega
 exact⟨he,q,t,cU,ae,adJ hp (ai.trans (adI hp h1 h2)) ak an ae.le h0 h3 Ds,Ds⟩
theorem aeq{w0 w:World}{g:Nat}{B:List Int}{p:Nat}{t:Int}{l:List cx}(h:cu w0 w g B p t l)(aU:t≠1)(deep:Int):
 Calls Tryz.prog 26 #[.pointer (some ⟨g,0,none⟩),.int .i64 deep] w fun e w'=>e=.returned (.tuple #[])∧cu w0 w' g B p t l:=by
 have dG:=I h;have bB:(t==1)=false:=beq_eq_false_iff_ne.mpr aU;clear h aU;go_enter Tryz.func26,Tryz.ntmps26
 go_wp2_with(first|(refine CK ?_;refine AE ?_;intro ur bS))
 go_end0
 exact⟨rfl,bS.1⟩
theorem aer{w0:World}{g:Nat}{B:List Int}{p:Nat}(hF:∀ba,p<ba→A8 w0 g B ba)(bG:∀x∈B,0≤x∧x<256):A9 w0 g B p:=by
 intro w l c st deep h an ai;have dz:=I hF;have fq:=I bG
 have dG:=I h;have dS:=I h.sz;have ef:=I an;have fU:=I ai;have k1:=I h.le;clear h an ai hF bG
 go_enter Tryz.func26,Tryz.ntmps26;by_cases hp:p<B.length
 ·have a1:decide ((p:Int)≥(B.length:Int))=false:=decide_eq_false (by omega);have bQ:decide ((B.length:Int)≤(p:Int))=false:=decide_eq_false (by omega);have fs:decide (B.length≤p)=false:=decide_eq_false (by omega);have cr:=I hp;clear hp;cases h0:a8 (B.drop p) 123
  ·cases h1:a8 (B.drop p) 60
   ·have aC:=I h0;have bM:=I h1;clear h0 h1
    go_wp2_with(first|(refine F6 ?_;intro w1 bS ao c3 bd ck aT bh bA y3 z0 cp z2 bP))
    repeat(go_quiet(fail);try go_wp2_with(first|(go_at_call 24;first|(refine KS ?_;intro bf td bF c5 cZ c12 aT bh bA y3 z0 cp z2 ff)|(refine(nk Fa 123).mono ?_;rintro bk w3 ⟨rfl,cq⟩;rw[aC.1];have bE:=I cq;obtain⟨kc,c4,uw,eN,aT,bh,bA,y3,z0,cp,z2,xT⟩:=cq.fL;clear cq))|(go_at_call 42;refine(adA td.1 cr.1 fq.1 (by have:=ef.1;have:=dS.1;have:=k1.1;omega)).mono ?_;rintro bk rY fV;obtain⟨rfl,te⟩:=fV;have kt:=I te;clear te)))
    go_end0
    exact aep cr.1 fU.1 aC.1 bM.1 ef.1 ⟨rfl,kt.1⟩
   ·have aC:=I h0;have bM:=I h1;clear h0 h1
    go_wp2_with(first|(refine F6 ?_;intro w1 bS ao c3 bd ck aT bh bA y3 z0 cp z2 bP))
    repeat(go_quiet(fail);try go_upto_region 9 with(first|(go_at_call 24;first|(refine KS ?_;intro bf td bF c5 cZ c12 aT bh bA y3 z0 cp z2 ff)|(refine(nk Fa 123).mono ?_;rintro bk w3 ⟨rfl,cq⟩;rw[aC.1];have bE:=I cq;obtain⟨kc,c4,uw,eN,aT,bh,bA,y3,z0,cp,z2,xT⟩:=cq.fL;clear cq))))
    go_upto_region 9 with(first|fail)
    go_cut [] (fun wc=>∃ba:Nat,aN (ba=p+1)∧aN (cu w0 wc g B ba 1 l))
    case first=>
     refine KX ?_;intro hX
     go_wp2_with fail
     go_meet
     case rel=>
      refine⟨p+1,⟨rfl⟩,⟨?_⟩⟩;exact cu.setAt (p:=p) (by refine x4 ?_;exact td.1) (p+1) cr.1
    case rest=>
     clear aT bh bA y3 z0 cp z2;obtain⟨ba,gP,qN⟩:=hcut;obtain⟨yH,c7,A7,ia,aT,bh,bA,y3,z0,cp,z2,Ls⟩:=qN.1.fL;refine S7 ?_;intro az ee eP oX
     go_wp2_with(first|(go_at_call 17;refine(zL qN.1 4 p (by have:=gP.1;omega) PH Pr).mono ?_;rintro bk wp ⟨rfl,cq⟩;have DD:=I cq;clear cq)|(go_at_call 9;refine(dz.1 ba (by have:=gP.1;omega) _ _ ⟨4,60::st,eM (B.drop ba)⟩ (60::st) 62 _ DD.1 PA (.inr ⟨60,st,rfl,(by decide),rfl⟩) (LY (.inr rfl) rfl)).mono ?_;rintro bk rY Mm;obtain⟨rfl,DE⟩:=Mm;have Mn:=I DE;clear DE))
     go_end0
     exact Ve fU.1 bM.1 (by decide) gP.1 ⟨rfl,Mn.1⟩ (by have:=gP.1;have:=qN.1.le;omega)
  ·have aC:=I h0;clear h0
   go_wp2_with(first|(refine F6 ?_;intro w1 bS ao c3 bd ck aT bh bA y3 z0 cp z2 bP))
   repeat(go_quiet(fail);try go_upto_region 5 with(first|(go_at_call 24;first|(refine KS ?_;intro bf td bF c5 cZ c12 aT bh bA y3 z0 cp z2 ff)|(refine(nk Fa 123).mono ?_;rintro bk w3 ⟨rfl,cq⟩;rw[aC.1];have bE:=I cq;obtain⟨kc,c4,uw,eN,aT,bh,bA,y3,z0,cp,z2,xT⟩:=cq.fL;clear cq))))
   go_upto_region 5 with(first|fail)
   go_cut [] (fun wc=>∃ba:Nat,aN (ba=p+1)∧aN (cu w0 wc g B ba 1 l))
   case first=>
    refine KX ?_;intro hX
    go_wp2_with fail
    go_meet
    case rel=>
     refine⟨p+1,⟨rfl⟩,⟨?_⟩⟩;exact cu.setAt (p:=p) (by refine x4 ?_;exact bE.1) (p+1) cr.1
   case rest=>
    clear aT bh bA y3 z0 cp z2;obtain⟨ba,gP,qN⟩:=hcut;obtain⟨yH,c7,A7,ia,aT,bh,bA,y3,z0,cp,z2,Ls⟩:=qN.1.fL;refine S7 ?_;intro az ee eP oX
    go_wp2_with(first|(go_at_call 17;refine(zL qN.1 4 p (by have:=gP.1;omega) PH Pr).mono ?_;rintro bk wp ⟨rfl,cq⟩;have DD:=I cq;clear cq)|(go_at_call 9;refine(dz.1 ba (by have:=gP.1;omega) _ _ ⟨4,123::st,eM (B.drop ba)⟩ (123::st) 125 _ DD.1 PA (.inr ⟨123,st,rfl,(by decide),rfl⟩) (LY (.inr rfl) rfl)).mono ?_;rintro bk rY Mm;obtain⟨rfl,DE⟩:=Mm;have Mn:=I DE;clear DE))
    go_end0
    exact Ve fU.1 aC.1 (by decide) gP.1 ⟨rfl,Mn.1⟩ (by have:=gP.1;have:=qN.1.le;omega)
 ·have a1:decide ((p:Int)≥(B.length:Int))=true:=decide_eq_true (by omega);have bQ:decide ((B.length:Int)≤(p:Int))=true:=decide_eq_true (by omega);have fs:decide (B.length≤p)=true:=decide_eq_true (by omega);have DF:=I (show read ca B c=.err by rw[fU.1,List.drop_eq_nil_of_le (by omega)];rfl);clear hp
  go_wp2_with(first|(refine F6 ?_;intro w1 bS ao c3 bd ck aT bh bA y3 z0 cp z2 bP))
  repeat(go_quiet(fail);try go_wp2_with(first|(go_at_call 16;refine(p3 Fa).mono ?_;rintro bk wr ⟨rfl,cq⟩;have hI:=I cq;clear cq)))
  go_end0
  exact⟨rfl,p,0,l,hI.1,.fail DF.1,fun h=>absurd h (by decide)⟩
structure mh(B:List Int)(p:Nat)(told:Int)(q:Nat)(t:Int):Prop where
 at_:B.drop q=eM (B.drop p)
 ge:p≤B.length→p≤q
 DG:t=hD told (eM (B.drop p))
theorem y5{w0 w:World}{g:Nat}{B:List Int}{p:Nat}{told:Int}{l:List cx}(h:cu w0 w g B p told l):Calls Tryz.prog 15 #[.pointer (some ⟨g,0,none⟩)] w fun e w'=>∃(q:Nat) (t:Int),mh B p told q t∧e=.returned (.tuple #[])∧cu w0 w' g B q t l:=
 (Cv h).mono fun e w' ⟨h1,h2⟩=>⟨_,_,⟨adE B p,adF B p,rfl⟩,h1,h2⟩
theorem mh.t1{B:List Int}{p q:Nat}{t:Int}(h:mh B p 1 q t):t=1∨(t=2∧jP (B.drop q)=true):=by
 rcases adG 1 (eM (B.drop p))with e|⟨_,e,aZ⟩
 ·exact .inl (h.DG.trans e)
 ·exact .inr ⟨h.DG.trans e,(by rw[h.at_];exact aZ)⟩
theorem mh.BP{B:List Int}{p q:Nat}{t k:Int}(h:mh B p 1 q t)(U:a8 (B.drop q) k=true)(h1:k≠11)(h2:k≠12):t=1:=by
 rcases h.t1 with e|⟨_,aZ⟩
 ·exact e
 ·rw[UY aZ k h1 h2]at U;cases U
theorem Out.Jt{B:List Int}{c:fl}{l:List cx}{G aes:fl→Prop}{q iP:Nat}{t:Int}{cU:List cx}(h:Out B c l G q t cU)(aU:t≠1):Out B c l aes iP t cU:=⟨fun e=>absurd e aU,h.no,h.r⟩
def DH(w0:World)(g:Nat)(B:List Int)(p:Nat):Prop:=∀(w:World) (l:List cx) (c:fl) (st:List Int) (deep:Int),cu w0 w g B p 1 l→l.length≤p→a8 (B.drop p) 91=true→read ca B c=one B 6 (91::st) (B.drop p)→
 Calls Tryz.prog 25 #[.pointer (some ⟨g,0,none⟩),.int .i64 deep] w (y2 w0 g B c l (fun q cw=>mD cw st (B.drop q)) (p+1))
structure DI(B:List Int)(c:fl)(l:List cx)(st:List Int)(p q:Nat)(t:Int)(cU:List cx):Prop where
 out:Out B c l (fun cw=>read ca B cw=jG ca B (91::st) (B.drop q)) q t cU
 ge:t=1→p+1≤q
section
variable {B:List Int} {c:fl} {l:List cx} {st:List Int}
theorem aet{p ba dy:Nat}{t2:Int}(hp:p<B.length)(ai:read ca B c=one B 6 (91::st) (B.drop p))(DC:ba=p+1)(an:l.length≤p)(ak:mh B ba 1 dy t2)(U:a8 (B.drop dy) 93=false):
 DI B c l st p dy t2 (l++[⟨6,0,p,false,cP.sub B p ba,⟨#[]⟩⟩]):=by
 subst DC;have hR:=ak.ge (by omega);refine⟨?_,fun _=>hR⟩;rcases ak.t1 with rfl|⟨rfl,_⟩
 ·refine .done (c1:=⟨6,91::st,eM (B.drop (p+1))⟩) (yX (ai.trans (A4 B 6 (91::st) p (by omega)))) ?_ Jg;have:=ac3 (L:=ca) (B:=B) (c:=⟨6,91::st,eM (B.drop (p+1))⟩) (s:=B.drop (p+1)) rfl rfl (by rw[←ak.at_];exact U);unfold yB at this;rw[ak.at_];exact this
 ·exact .w9 (by decide)
theorem aeu{p ba dy gH:Nat}{t2:Int}(hp:p<B.length)(ai:read ca B c=one B 6 (91::st) (B.drop p))(DC:ba=p+1)(an:l.length≤p)(ak:mh B ba 1 dy t2)(U:a8 (B.drop dy) 93=true)(aev:gH=dy+1):
 Out B c l (fun cw=>mD cw st (B.drop gH)) gH 1 (l++[⟨6,0,p,false,cP.sub B p ba,⟨#[]⟩⟩]++[⟨7,0,dy,false,cP.sub B dy gH,⟨#[]⟩⟩]):=by
 subst DC aev;have hR:=ak.ge (by omega);rw[List.append_assoc];refine .done (c1:=⟨7,st,eM (B.drop (dy+1))⟩) (Mb (yX (ai.trans (A4 B 6 (91::st) p (by omega)))) ?_) ⟨.inr (.inr rfl),rfl,rfl⟩ (by simp;omega);exact adW rfl rfl ak.at_.symm U
theorem aew{p q:Nat}{cU:List cx}{G:fl→Prop}(h:DI B c l st p q 1 cU)(U:a8 (B.drop q) 91=true):Out B c l G q 0 cU:=by
 obtain⟨d,cw,rfl,h0,h1,_⟩:=h.out.yes rfl;exact .Hm h0 (h1.trans (adV U))
theorem aex{p fs gH mx Ba:Nat}{t3 t5:Int}{gA:List cx}(h:Out B c l (fun cw=>mD cw (91::st) (B.drop fs)) fs 1 gA)(ar:p+1≤fs)(qU:fs≤B.length)(ak:mh B fs 1 gH t3)(U:a8 (B.drop gH) 44=true)(Mo:mx=gH+1)(Hq:mh B mx 1 Ba t5):
 DI B c l st p Ba t5 gA:=by
 subst Mo;obtain⟨lB,np⟩:=ph U;have hR:=ak.ge qU;have akc:=Hq.ge (by omega);refine⟨?_,fun _=>by omega⟩;rcases Hq.t1 with rfl|⟨rfl,_⟩
 ·obtain⟨d,cw,rfl,h0,h1,h2⟩:=h.yes rfl;refine .done h0 ?_ (by omega);have:=ac4 (L:=ca) (B:=B) (r:=B.drop (gH+1)) h1 rfl (by rw[←ak.at_];exact np);unfold yB at this;rw[←Hq.at_]at this;exact this
 ·exact .w9 (by decide)
theorem aey{fs gH mx:Nat}{t3:Int}{gA:List cx}(h:Out B c l (fun cw=>mD cw (91::st) (B.drop fs)) fs 1 gA)(qU:fs≤B.length)(ak:mh B fs 1 gH t3)(U:a8 (B.drop gH) 93=true)(Mo:mx=gH+1):
 Out B c l (fun cw=>mD cw st (B.drop mx)) mx 1 (gA++[⟨7,0,gH,false,cP.sub B gH mx,⟨#[]⟩⟩]):=by
 subst Mo;have hR:=ak.ge qU;obtain⟨d,cw,rfl,h0,h1,h2⟩:=h.yes rfl;rw[List.append_assoc];refine .done (c1:=⟨7,st,eM (B.drop (gH+1))⟩) (Mb h0 (adX h1 ak.at_.symm U)) ⟨.inr (.inr rfl),rfl,rfl⟩ (by simp at h2⊢;omega)
theorem aez{p fs gH:Nat}{t3:Int}{gA:List cx}(h:Out B c l (fun cw=>mD cw (91::st) (B.drop fs)) fs 1 gA)(ak:mh B fs 1 gH t3)(h1:a8 (B.drop gH) 93=false)(h2:a8 (B.drop gH) 44=false):DI B c l st p gH 0 gA:=by
 obtain⟨d,cw,rfl,h0,h3,_⟩:=h.yes rfl;exact⟨.Hm h0 (adY h3 ak.at_.symm h1 h2),fun e=>absurd e (by decide)⟩
end
theorem aeA{w0:World}{g:Nat}{B:List Int}{p:Nat}(pj:∀ba,p<ba→A9 w0 g B ba):DH w0 g B p:=by
 intro w l c st deep h an U ai;have bU:=I pj;have dG:=I h;have dS:=I h.sz;have ef:=I an;have fU:=I ai;have cr:=I (show p+1≤B.length from(ph U).1);clear h an ai pj U;go_enter Tryz.func25,Tryz.ntmps25
 go_upto_region 0 with fail
 obtain⟨ao,c7,bd,ck,aT,bh,bA,y3,z0,cp,z2,bP⟩:=dG.1.fL
 go_cut [] (fun wc=>∃ba:Nat,aN (ba=p+1)∧aN (cu w0 wc g B ba 1 l))
 case first=>
  refine KX ?_;intro hX
  go_wp2_with fail
  go_meet
  case rel=>
   refine⟨p+1,⟨rfl⟩,⟨?_⟩⟩;exact cu.setAt (p:=p) rS (p+1) cr.1
 case rest=>
  clear aT bh bA y3 z0 cp z2;obtain⟨ba,gP,qN⟩:=hcut;obtain⟨ao,c7,bd,ck,aT,bh,bA,y3,z0,cp,z2,bP⟩:=qN.1.fL;have az:(1:Int)≤(ba:Int):=by have:=gP.1;omega
  have ee:(ba:Int)≤100000:=by have:=qN.1.le;have:=dS.1;omega
  have aC:=I (And.intro az ee);have oX:=I (show∀v:Int,v=(ba:Int)-1→v=(p:Int)from fun v aZ=>by have:=gP.1;omega)
  go_upto_if 21 with(first|(go_at_call 17;refine(zL qN.1 6 p Pz Pz (by first|exact oX.1 _ rfl|(have:=And.intro gP.1 (And.intro aC.1 (And.intro ef.1 (And.intro dS.1 cr.1)));first|omega|(unfold wrap64;omega)))).mono ?_;rintro bk wp ⟨rfl,cq⟩;have DD:=I cq;clear cq)|(go_at_call 15;refine(y5 DD.1).mono ?_;rintro bk ws ⟨p0,t0,fV,rfl,cq⟩;have wH:=I cq;have ej:=I fV;clear cq fV)|(go_at_call 24;refine(nk wH.1 93).mono ?_;rintro bk wi ⟨rfl,cq⟩;have Bb:=I cq;clear cq))
  clear aT bh bA y3 z0 cp z2;cases U:a8 (B.drop p0) 93
  ·have bM:=I U;have lg:=I (aet (show p<B.length from cr.1) fU.1 gP.1 ef.1 ej.1 U);clear U
   go_wp2_with fail
   go_loopg [] (if t0=1 then B.length+1-p0 else 0) (fun k w'=>∃(q:Nat) (t:Int) (cU:List cx),aN (k=if t=1 then B.length+1-q else 0)∧aN (DI B c l st p q t cU)∧aN (cu w0 w' g B q t cU))
   case atStart=>exact⟨p0,t0,_,⟨rfl⟩,lg,⟨Bb.1⟩⟩
   case round=>
    obtain⟨q,t,cU,aV,dx,cT⟩:=hrel;by_cases aU:t=1
    ·subst aU;have y7:=I (show gk=B.length+1-q by have h0:=aV.1;simp only[eq_self,if_true]at h0;exact h0);obtain⟨d,c1,hd,dA,oe,cb⟩:=dx.1.out.yes rfl;have cf:=I hd;have Mp:=I dA;have y8:=I oe;have ES:=I cb;have nC:=I (dx.1.ge rfl);have xM:=I cT.1.le;clear hd dA oe cb
     go_upto_if 39 with(first|(go_at_call 14;refine(na cT.1).mono ?_;refine AE ?_;intro ur bS)|(go_at_call 24;refine(nk bS.1 91).mono ?_;rintro bk wi ⟨rfl,cq⟩;have bE:=I cq;clear cq))
     cases U:a8 (B.drop q) 91
     ·clear U
      go_upto_if 47 with(first|(go_at_call 26;refine(bU.1 q (by have:=nC.1;omega) _ _ c1 (91::st) _ bE.1 ES.1 y8.1).mono ?_;rintro bk Bc hr;obtain⟨rfl,sT,rV,qS,cq,qx,ts⟩:=hr;have sU:=I cq;have tS:=I qx;have wg:=I ts;clear cq qx ts)|(go_at_call 14;refine(na sU.1).mono ?_;rintro bk ur ⟨rfl,cq⟩;have Bd:=I cq;clear cq))
      have gK:=I (show Out B c l (fun cw=>mD cw (91::st) (B.drop sT)) sT rV qS from Out.from_ Mp.1 (cf.1▸tS.1));cases mg:(rV==1)
      ·have yN:rV≠1:=beq_eq_false_iff_ne.mp mg;have Vg:=I yN;clear yN mg
       go_wp2_with fail
       refine tf ?_;exact⟨rfl,sT,rV,qS,Bd.1,gK.1.Jt Vg.1,fun h=>absurd h Vg.1⟩
      ·have yN:rV=1:=beq_iff_eq.mp mg;clear mg;subst yN;have Vh:=I (show p+1≤sT by have:=wg.1 rfl;have:=nC.1;omega);have aeB:=I (show q+1≤sT from wg.1 rfl)
       go_upto_region 13 with(first|(go_at_call 15;refine(y5 Bd.1).mono ?_;rintro bk akd ⟨dy,t2,fV,rfl,cq⟩;have Vi:=I cq;have xb:=I fV;clear cq fV))
       by_cases hv:t2=1
       ·subst hv
        go_upto_if 56 with(first|(go_at_call 14;refine(na Vi.1).mono ?_;rintro bk ur ⟨rfl,cq⟩;have Mq:=I cq;clear cq)|(go_at_call 24;refine(nk Mq.1 44).mono ?_;rintro bk C7 ⟨rfl,cq⟩;have qf:=I cq;clear cq))
        have Vj:=I (xb.1.ge Bd.1.le);cases h1:a8 (B.drop dy) 44
        ·have eP:=I h1;clear h1
         go_upto_if 68 with(first|(go_at_call 24;refine(nk qf.1 93).mono ?_;rintro bk Vk ⟨rfl,cq⟩;have xc:=I cq;clear cq))
         cases h2:a8 (B.drop dy) 93
         ·have Ci:=I (aez (p:=p) gK.1 xb.1 h2 eP.1);clear h2
          go_wp2_with(first|(go_at_call 16;refine(p3 xc.1).mono ?_;rintro bk wr ⟨rfl,cq⟩;have Mr:=I cq;clear cq))
          go_roundg(0:Nat)
          case measure=>have:=y7.1;have:=xM.1;omega
          case rel=>exact⟨dy,0,qS,⟨rfl⟩,Ci,⟨Mr.1⟩⟩
         ·have kL:=I (show dy+1≤B.length from(ph h2).1);have aeC:=I h2;have PC:=I (show qS.length≤1000000 by obtain⟨_,_,_,_,_,ed⟩:=gK.1.yes rfl;have:=Bd.1.le;have:=dS.1;omega);clear h2
          go_upto_region 18 with fail
          obtain⟨ao,c7,bd,ck,aT,bh,bA,y3,z0,cp,z2,bP⟩:=xc.1.fL
          go_cut [] (fun wc=>∃gH:Nat,aN (gH=dy+1)∧aN (cu w0 wc g B gH 1 qS))
          case first=>
           refine GA ?_;intro hX
           go_wp2_with fail
           go_meet
           case rel=>
            refine⟨dy+1,⟨rfl⟩,⟨?_⟩⟩;exact cu.setAt (p:=dy) (by refine x4 ?_;exact xc.1) (dy+1) kL.1
          case rest=>
           clear aT bh bA y3 z0 cp z2;obtain⟨gH,nB,mY⟩:=hcut;obtain⟨ao,c7,bd,ck,aT,bh,bA,y3,z0,cp,z2,bP⟩:=mY.1.fL;refine S8 ?_;intro az ee aC oX
           go_wp2_with(first|(go_at_call 17;refine(zL mY.1 7 dy PB PB (by first|exact oX.1 _ rfl|(have:=And.intro nB.1 (And.intro aC.1 (And.intro PC.1 dS.1));first|omega|(unfold wrap64;omega)))).mono ?_;rintro bk wp ⟨rfl,cq⟩;have uW:=I cq;clear cq))
           refine tf ?_;exact⟨rfl,gH,1,_,uW.1,aey gK.1 Bd.1.le xb.1 aeC.1 nB.1,fun _=>by have:=nB.1;have:=Vj.1;have:=Vh.1;omega⟩
        ·have kL:=I (show dy+1≤B.length from(ph h1).1);have eP:=I h1;clear h1
         go_upto_region 15 with fail
         obtain⟨ao,c7,bd,ck,aT,bh,bA,y3,z0,cp,z2,bP⟩:=qf.1.fL
         go_cut [] (fun wc=>∃gH:Nat,aN (gH=dy+1)∧aN (cu w0 wc g B gH 1 qS))
         case first=>
          refine GA ?_;intro hX
          go_wp2_with fail
          go_meet
          case rel=>
           refine⟨dy+1,⟨rfl⟩,⟨?_⟩⟩;exact cu.setAt (p:=dy) (by refine x4 ?_;exact qf.1) (dy+1) kL.1
         case rest=>
          clear aT bh bA y3 z0 cp z2;obtain⟨gH,nB,mY⟩:=hcut;obtain⟨ao,c7,bd,ck,aT,bh,bA,y3,z0,cp,z2,bP⟩:=mY.1.fL;refine S8 ?_;intro az ee aC oX
          go_wp2_with(first|(go_at_call 15;refine(y5 mY.1).mono ?_;rintro bk wf ⟨gH,t3,fV,rfl,cq⟩;have uW:=I cq;have Hr:=I fV;clear cq fV))
          have aeD:=I (aex gK.1 Vh.1 Bd.1.le xb.1 eP.1 nB.1 Hr.1);go_roundg(if t3=1 then B.length+1-gH else 0)
          case measure=>
           have h0:=y7.1;have h0:=Hr.1.ge mY.1.le;have h1:=nB.1;have h2:=Vj.1;have h3:=aeB.1;have h4:=xM.1;split<;>omega
          case rel=>exact⟨gH,t3,qS,⟨rfl⟩,aeD,⟨uW.1⟩⟩
       ·have bt:(t2==1)=false:=beq_eq_false_iff_ne.mpr hv;have gx:=I (show t2=2 by rcases xb.1.t1 with h|h;exact absurd h hv;exact h.1);clear hv
        go_wp2_with(first|(go_at_call 14;refine(na Vi.1).mono ?_;rintro bk ur ⟨rfl,cq⟩;have Mq:=I cq;clear cq))
        go_roundg(0:Nat)
        case measure=>have:=y7.1;have:=xM.1;omega
        case rel=>exact⟨dy,t2,qS,⟨(by rw[gx.1];rfl)⟩,⟨⟨.w9 gx.1,fun h=>by rw[gx.1]at h;exact absurd h (by decide)⟩⟩,⟨Mq.1⟩⟩
     ·have DJ:=I (aew (G:=fun cw=>mD cw st (B.drop q)) dx.1 U);clear U
      go_wp2_with(first|(go_at_call 16;refine(p3 bE.1).mono ?_;rintro bk wr ⟨rfl,cq⟩;have Mr:=I cq;clear cq))
      refine tf ?_;exact⟨rfl,q,0,cU,Mr.1,DJ.1,fun h=>absurd h (by decide)⟩
    ·have bB:(t==1)=false:=beq_eq_false_iff_ne.mpr aU;have et:=I aU;clear aU
     go_wp2_with(first|(go_at_call 14;refine(na cT.1).mono ?_;refine AE ?_;intro ur bS))
     exact P5
  ·have bM:=I U;have hv:t0=1:=ej.1.BP U (by decide) (by decide);subst hv;have kL:=I (show p0+1≤B.length from(ph U).1);clear U
   go_upto_region 4 with fail
   obtain⟨ao,c7,bd,ck,aT,bh,bA,y3,z0,cp,z2,bP⟩:=Bb.1.fL
   go_cut [] (fun wc=>∃dy:Nat,aN (dy=p0+1)∧aN (cu w0 wc g B dy 1 (l++[⟨6,0,p,false,cP.sub B p ba,⟨#[]⟩⟩])))
   case first=>
    have hX:wrap64 ((p0:Int)+1)=((p0+1:Nat):Int):=by have:=dS.1;have:=kL.1;unfold wrap64;omega
    go_wp2_with fail
    go_meet
    case rel=>
     refine⟨p0+1,⟨rfl⟩,⟨?_⟩⟩;exact cu.setAt (p:=p0) (by refine x4 ?_;exact Bb.1) (p0+1) kL.1
   case rest=>
    clear aT bh bA y3 z0 cp z2;obtain⟨dy,nB,mY⟩:=hcut;obtain⟨ao,c7,bd,ck,aT,bh,bA,y3,z0,cp,z2,bP⟩:=mY.1.fL;have az:(1:Int)≤(dy:Int):=by have:=nB.1;omega
    have ee:(dy:Int)≤100000:=by have:=mY.1.le;have:=dS.1;omega
    have aC:=I (And.intro az ee);have oX:=I (show∀v:Int,v=(dy:Int)-1→v=(p0:Int)from fun v aZ=>by have:=nB.1;omega)
    go_wp2_with(first|(go_at_call 17;refine(zL mY.1 7 p0 Pb Pb (by first|exact oX.1 _ rfl|(have:=And.intro nB.1 (And.intro aC.1 (And.intro ef.1 (And.intro dS.1 (And.intro cr.1 (And.intro kL.1 (show(l++[(⟨6,0,p,false,cP.sub B p ba,⟨#[]⟩⟩:cx)]).length≤1000000 by rw[List.length_append,List.length_singleton];have:=ef.1;have:=dS.1;have:=cr.1;omega))))));first|omega|(unfold wrap64;omega)))).mono ?_;rintro bk wp ⟨rfl,cq⟩;have uW:=I cq;clear cq))
    refine tf ?_;exact⟨rfl,dy,1,_,uW.1,aeu (show p<B.length from cr.1) fU.1 gP.1 ef.1 ej.1 bM.1 nB.1,fun _=>by have:=nB.1;have:=ej.1.ge (by have:=gP.1;have:=cr.1;omega);have:=gP.1;omega⟩
end nt
