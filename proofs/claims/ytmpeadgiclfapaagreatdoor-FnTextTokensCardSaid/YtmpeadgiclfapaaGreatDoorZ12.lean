/- Part 10 of the proof (Tn0, Tn1). Conditions: each theorem's own. -/
import Derived.Test.YtmpeadgiclfapaaGreatDoorZ7
import Derived.Test.YtmpeadgiclfapaaGreatDoorZ10
set_option linter.all false
set_option maxHeartbeats 0
set_option maxRecDepth 100000
namespace Go.Proofs.YtmpeadgiclfapaaGreatDoor
namespace gJ
open RowKit YtmpeadgiclfapaaGreatDoorW.PrintWords YtmpeadgiclfapaaGreatDoorW.PrintLast YtmpeadgiclfapaaGreatDoorW.PrintMore ei cP
def tj:List Int→Int
 |[]=>4
 |c::r=>if c=102∨c=70 then(if r=[]then 4 else 0)else 0
def wU:List Int→List Int
 |[]=>[]
 |d::r=>if d=43∨d=45 then r else d::r
def uz:List Int→Int
 |[]=>tj []
 |c::r=>if c=101∨c=69 then(if bI (wU r)=0 then -1 else tj ((wU r).drop (bI (wU r))))else tj (c::r)
def vt(w:Nat):List Int→Int
 |[]=>if w=0 then -1 else uz []
 |c::r=>if c=46 then(if w+bI r=0 then -1 else uz (r.drop (bI r)))else if w=0 then -1 else uz (c::r)
def oJ(s:List Int):Int:=if 1<bI s∧a6 s 0=48 then 0 else vt (bI s) (s.drop (bI s))
def dr(c:Int):Bool:=(decide (48≤c)&&decide (c≤57))||(decide (97≤c)&&decide (c≤102))||(decide (65≤c)&&decide (c≤70))
def tk:List Int→Bool
 |[]=>true
 |c::r=>dr c&&tk r
def lT:List Int→Bool
 |[]=>true
 |c::r=>cN c&&lT r
def rf:List Int→Bool
 |[]=>false
 |c::r=>(c==56||c==57)||rf r
def kE(s:List Int):Bool:=decide (a6 s 0=48)&&(decide (a6 s 1=120)||decide (a6 s 1=88))
def si(s:List Int):Int:=
 if s=[]then 0
 else if kE s=true then(if tk (s.drop 2)=true then(if s.length=2 then 0 else 2)else 0)
 else if lT s=true then
  (if a6 s 0=48∧1<s.length then(if rf s=true then 0 else 3)else 1)
 else oJ s
def ih(c:Int):Int:=if 48≤c∧c≤57 then c-48 else if 97≤c∧c≤102 then c-97+10 else if 65≤c∧c≤70 then c-65+10 else -1
theorem AN{c:Int}(h:dr c=true):0≤ih c:=by
 unfold dr at h;unfold ih;simp only[Bool.or_eq_true,Bool.and_eq_true,decide_eq_true_eq]at h;split
 ·omega
 ·split
  ·omega
  ·split<;>omega
theorem AO{c:Int}(h:dr c=false):ih c<0:=by
 unfold dr at h;unfold ih;simp only[Bool.or_eq_false_iff,Bool.and_eq_false_iff,decide_eq_false_iff_not]at h;rw[if_neg (by omega),if_neg (by omega),if_neg (by omega)];omega
theorem Hb(k:Nat)(c:Int):fQ.f (k+2) c=some (ih c):=by
 have h0:∀m,fQ.cD (m+1) c (decide (c≤102)&&decide (97≤c))=some (if 97≤c∧c≤102 then c-97+10 else if 65≤c∧c≤70 then c-65+10 else -1):=by
  intro m;rw[fQ.cD];by_cases e:97≤c∧c≤102
  ·rw[if_pos (by simp[e]),if_pos e];congr 1;omega
  ·rw[if_neg (by simp only[Bool.and_eq_true,decide_eq_true_eq];omega),if_neg e];by_cases f:c≥65
   ·rw[if_pos f];by_cases g:c≤70
    ·rw[if_pos g,if_pos ⟨f,g⟩];congr 1;omega
    ·rw[if_neg g,if_neg (by omega)]
   ·rw[if_neg f,if_neg (by omega)]
 have h1:∀m,fQ.fB (m+2) c (decide (48≤c)&&decide (c≤57))=some (ih c):=by
  intro m;rw[show m+2=(m+1)+1 from rfl,fQ.fB];unfold ih;by_cases e:48≤c∧c≤57
  ·rw[if_pos (by simp[e]),if_pos e];congr 1;omega
  ·rw[if_neg (by simp only[Bool.and_eq_true,decide_eq_true_eq];omega),if_neg e];by_cases f:c≥97
   ·rw[if_pos f,←h0 m];congr 1;rw[show decide (97≤c)=true from decide_eq_true f,Bool.and_true]
   ·rw[if_neg f,←h0 m];congr 1;rw[show decide (97≤c)=false from decide_eq_false f,Bool.and_false]
 unfold fQ.f;by_cases f:c≥48
 ·rw[if_pos f,←h1 k];congr 1;rw[show decide (48≤c)=true from decide_eq_true f,Bool.true_and]
 ·rw[if_neg f,←h1 k];congr 1;rw[show decide (48≤c)=false from decide_eq_false f,Bool.false_and]
structure Hc(s:ByteArray)(xs:List Int):Prop where
 size:s.size=xs.length
 at_:∀i:Nat,i<xs.length→bB s (i:Int)=rd xs (i:Int)
 le:xs.length≤1000000
theorem abJ(s:ByteArray):∀(n i:Nat) (r:List UInt8),i+n=s.size→(ByteArray.toList.loop s i r).length=r.length+n:=by
 intro n
 induction n with
 |zero=>
  intro i r h;unfold ByteArray.toList.loop;rw[if_neg (by omega),List.length_reverse];omega
 |succ n bb=>
  intro i r h;unfold ByteArray.toList.loop;rw[if_pos (by omega),bb (i+1) _ (by omega),List.length_cons];omega
theorem Uj(s:ByteArray):s.toList.length=s.size:=by
 unfold ByteArray.toList;rw[abJ s s.size 0 [] (by omega)];simp
section
variable {s:ByteArray} {xs:List Int}
theorem wr(p:Nat)(h:p≤1000000):wrap64 ((p:Int)+1)=((p+1:Nat):Int):=by unfold wrap64;omega
section
variable (h:Hc s xs)
include h
theorem here(p:Nat)(hp:p≤xs.length):(p=xs.length∧xs.drop p=[]∧¬((p:Int)<(s.size:Int)))∨(p<xs.length∧xs.drop p=bB s (p:Int)::xs.drop (p+1)∧(p:Int)<(s.size:Int)∧(0:Int)≤(p:Int)):=by
 have aG:=h.size;by_cases e:p=xs.length
 ·exact .inl ⟨e,List.drop_eq_nil_of_le (by omega),(by omega)⟩
 ·exact .inr ⟨(by omega),(by rw[gz xs p (by omega),h.at_ p (by omega)]),(by omega),(by omega)⟩
theorem Uk(eB:Int):∀(n k p w:Nat),p≤xs.length→bI (xs.drop p)=n→w≤p→cy.aj (k+n+1) s (p:Int) (w:Int) eB=cy.cD k s ((p+n:Nat):Int) ((w+n:Nat):Int) eB:=by
 intro n
 induction n with
 |zero=>
  intro k p w hp hd hw;rw[show k+0+1=k+1 from rfl];rw[cy.aj];exact RA
 |succ n bb=>
  intro k p w hp hd hw;rw[show k+(n+1)+1=(k+n+1)+1 from rfl];rw[cy.aj];exact Rz
theorem abK(dk:Int):∀(n k p w:Nat),p≤xs.length→bI (xs.drop p)=n→w≤p→cy.cC (k+n+1) s (p:Int) dk (w:Int)=cy.iI k s ((p+n:Nat):Int) dk ((w+n:Nat):Int):=by
 intro n
 induction n with
 |zero=>
  intro k p w hp hd hw;rw[show k+0+1=k+1 from rfl];rw[cy.cC];exact RA
 |succ n bb=>
  intro k p w hp hd hw;rw[show k+(n+1)+1=(k+n+1)+1 from rfl];rw[cy.cC];exact Rz
theorem abL(dX:Nat):∀(n k p:Nat),p≤xs.length→bI (xs.drop p)=n→cy.gA (k+n+1) s (p:Int) (dX:Int)=if p+n=dX then some (-1)else cy.vs k s ((p+n:Nat):Int):=by
 intro n
 induction n with
 |zero=>
  intro k p hp hd;rw[show k+0+1=k+1 from rfl];rw[cy.gA];have aD:((p:Int)=(dX:Int))=(p+0=dX):=propext ⟨fun h=>by omega,fun h=>by omega⟩;rcases here h p hp with⟨e,h1,h2⟩|⟨e,h1,h2,h3⟩
  ·rw[if_neg h2];simp only[aD,Nat.add_zero]
  ·rw[h1]at hd
   have ai:cN (bB s (p:Int))=false:=by
    simp only[bI]at hd;cases ae:cN (bB s (p:Int))with
    |false=>rfl
    |true=>rw[ae]at hd;simp at hd
   rw[if_pos h2,if_pos h3,wD,ai];simp only[Option.bind_some,Bool.false_eq_true,if_false,aD,Nat.add_zero]
 |succ n bb=>
  intro k p hp hd;rw[show k+(n+1)+1=(k+n+1)+1 from rfl];rw[cy.gA];rcases here h p hp with⟨e,h1,h2⟩|⟨e,h1,h2,h3⟩
  ·rw[h1]at hd;cases hd
  ·rw[h1]at hd
   have ai:cN (bB s (p:Int))=true:=by
    simp only[bI]at hd;cases ae:cN (bB s (p:Int))with
    |true=>rfl
    |false=>rw[ae]at hd;simp at hd
   have gM:bI (xs.drop (p+1))=n:=by simp only[bI,ai]at hd;simpa using hd
   have:=h.le;rw[if_pos h2,if_pos h3,wD,ai];rw[Option.bind_some,if_pos rfl];rw[wr p (by omega),bb k (p+1) (by omega) gM];rw[show p+1+n=p+(n+1)by omega]
theorem LG(k p:Nat)(hp:p≤xs.length):cy.vs (k+2) s (p:Int)=some (tj (xs.drop p)):=by
 have sh:∀b:Bool,(b=true→p<xs.length)→cy.sh (k+1) s (p:Int) b=some (if b=true then(if xs.drop (p+1)=[]then 4 else 0)else(if xs.drop p=[]then 4 else 0)):=by
  intro b U;rw[cy.sh];cases b
  ·rw[if_neg (show¬(false=true)by decide),if_neg (show¬(false=true)by decide)];rcases here h p hp with⟨e,h1,h2⟩|⟨e,h1,h2,h3⟩
   ·rw[if_neg h2,if_pos h1]
   ·rw[if_pos h2,if_neg (by rw[h1];simp)]
  ·rw[if_pos rfl,if_pos rfl,wr p Cf];rcases here h (p+1) (by have:=U rfl;omega)with⟨e,h1,h2⟩|⟨e,h1,h2,h3⟩
   ·rw[if_neg h2,if_pos h1]
   ·rw[if_pos h2,if_neg (by rw[h1];simp)]
 rw[show k+2=(k+1)+1 from rfl];rw[cy.vs];rcases here h p hp with⟨e,h1,h2⟩|⟨e,h1,h2,h3⟩
 ·rw[if_neg h2,sh _ (fun h=>by cases h),h1];rfl
 ·rw[if_pos h2,if_pos h3];by_cases c1:bB s (p:Int)=102
  ·rw[if_pos c1,sh _ (fun _=>e),h1];simp[tj,c1]
  ·rw[if_neg c1,sh _ (fun _=>e),h1];by_cases c2:bB s (p:Int)=70
   ·simp[tj,c2]
   ·simp[tj,c1,c2]
theorem abM(p:Nat)(hp:p≤xs.length):∃cd,∀k,cd≤k→cy.wR k s (p:Int)=some (if bI (xs.drop p)=0 then -1 else tj ((xs.drop p).drop (bI (xs.drop p)))):=by
 refine⟨bI (xs.drop p)+4,fun k ad=>?_⟩;obtain⟨m,rfl⟩:∃m,k=((m+2)+bI (xs.drop p)+1)+1:=⟨k-(bI (xs.drop p)+4),(by omega)⟩;rw[cy.wR];rw[abL h p _ (m+2) p hp rfl];by_cases h0:bI (xs.drop p)=0
 ·rw[if_pos (by omega),if_pos h0]
 ·rw[if_neg (by omega),if_neg h0,LG h m _ (by have:=uh (xs.drop p);rw[List.length_drop]at this;omega),List.drop_drop]
theorem LH(p w u:Nat)(hp:p≤xs.length)(hw:w+u≤2000000):∃cd,∀k,cd≤k→cy.iI k s (p:Int) (w:Int) (u:Int)=some (if w+u=0 then -1 else uz (xs.drop p)):=by
 have LI:wrap64 ((w:Int)+(u:Int))=((w+u:Nat):Int):=by unfold wrap64;omega
 rcases here h p hp with⟨e,h1,h2⟩|⟨e,h1,h2,h3⟩
 ·refine⟨6,fun k ad=>?_⟩;obtain⟨m,rfl⟩:∃m,k=((m+2)+1)+1:=⟨k-4,(by omega)⟩;rw[cy.iI];rw[LI];by_cases h0:w+u=0
  ·rw[if_pos (by omega),if_pos h0]
  ·rw[if_neg (by omega),if_neg h0,if_neg h2];rw[cy.re];rw[if_neg (by decide),LG h m p hp,h1];rfl
 ·by_cases c1:bB s (p:Int)=101∨bB s (p:Int)=69
  ·have lB:p+1≤xs.length:=by omega
   have LJ:=wr p Cf
   have key:∃q,q≤xs.length∧wU (xs.drop (p+1))=xs.drop q∧∀k,2≤k→cy.re k s (p:Int) true=cy.wR (k-2) s (q:Int):=by
    rcases here h (p+1) lB with⟨f,g1,g2⟩|⟨f,g1,g2,g3⟩
    ·refine⟨p+1,lB,(by rw[g1];rfl),fun k ad=>?_⟩;obtain⟨m,rfl⟩:∃m,k=m+1+1:=⟨k-2,(by omega)⟩;rw[cy.re];rw[if_pos rfl,LJ,if_neg g2];rw[cy.iO];rw[if_neg (by decide)];rfl
    ·by_cases d0:bB s ((p+1:Nat):Int)=43∨bB s ((p+1:Nat):Int)=45
     ·refine⟨p+2,(by omega),(by rw[g1,wU,if_pos d0]),fun k ad=>?_⟩;obtain⟨m,rfl⟩:∃m,k=m+1+1:=⟨k-2,(by omega)⟩;have hX:=wr (p+1) Cf;rw[cy.re];rw[if_pos rfl,LJ,if_pos g2,if_pos g3];rcases d0 with d0|d0
      ·rw[if_pos d0];rw[cy.iO];rw[if_pos rfl,hX];rfl
      ·rw[if_neg (by omega)];rw[cy.iO];rw[if_pos (beq_iff_eq.mpr d0),hX];rfl
     ·refine⟨p+1,lB,(by rw[g1,wU,if_neg d0]),fun k ad=>?_⟩;obtain⟨m,rfl⟩:∃m,k=m+1+1:=⟨k-2,(by omega)⟩;rw[cy.re];rw[if_pos rfl,LJ,if_pos g2,if_pos g3,if_neg (fun h=>d0 (.inl h))];rw[cy.iO];rw[if_neg (by simp only[beq_iff_eq];exact fun h=>d0 (.inr h))];rfl
   obtain⟨q,ar,aD,bx⟩:=key;obtain⟨cd,hh⟩:=abM h q ar;refine⟨cd+4,fun k ad=>?_⟩;obtain⟨m,rfl⟩:∃m,k=m+1:=⟨k-1,(by omega)⟩;rw[cy.iI];rw[LI];by_cases h0:w+u=0
   ·rw[if_pos (by omega),if_pos h0]
   ·rw[if_neg (by omega),if_neg h0,if_pos h2,if_pos h3]
    have db:cy.re m s (p:Int) true=some (uz (xs.drop p)):=by
     rw[bx m (by omega),hh _ (by omega),h1];rw[uz,if_pos c1,aD]
    rcases c1 with c1|c1
    ·rw[if_pos c1];exact db
    ·rw[if_neg (by omega),show(bB s (p:Int)==69)=true from beq_iff_eq.mpr c1];exact db
  ·refine⟨6,fun k ad=>?_⟩;obtain⟨m,rfl⟩:∃m,k=((m+2)+1)+1:=⟨k-4,(by omega)⟩;rw[cy.iI];rw[LI];by_cases h0:w+u=0
   ·rw[if_pos (by omega),if_pos h0]
   ·rw[if_neg (by omega),if_neg h0,if_pos h2,if_pos h3,if_neg (fun h=>c1 (.inl h))];rw[cy.re];rw[if_neg (by simp only[beq_iff_eq];exact fun h=>c1 (.inr h)),LG h m p hp,h1];rw[uz,if_neg c1]
theorem AP(i:Nat)(hi:i<xs.length):a6 xs i=bB s (i:Int):=by
 rw[h.at_ i hi];simp[a6,rd]
theorem abN:∃cd,∀k,cd≤k→cy.f k s=some (oJ xs):=by
 have hd:=uh xs;have kd:bI xs≤1000000:=by have:=h.le;omega
 have aG:=h.size;by_cases tl:1<bI xs∧a6 xs 0=48
 ·refine⟨bI xs+4,fun k ad=>?_⟩;obtain⟨m,rfl⟩:∃m,k=((m+1)+1)+bI xs+1:=⟨k-(bI xs+3),(by omega)⟩;unfold cy.f;have:=Uk h 0 (bI xs) (m+1+1) 0 0 (by omega) rfl (Nat.le_refl _);simp only[Nat.zero_add,Int.ofNat_zero]at this;rw[this];rw[cy.cD];have az:=AP h 0 (by omega);rw[if_pos (by omega),if_pos (by omega),show(bB s 0==48)=true by rw[show(0:Int)=((0:Nat):Int)from rfl,←az,tl.2];rfl];rw[cy.gL];rw[if_pos rfl];unfold oJ;rw[if_pos tl]
 ·have gL:∀m,1≤m→cy.cD m s (bI xs:Int) (bI xs:Int) 0=cy.gL (m-1) s (bI xs:Int) (bI xs:Int) 0 false:=by
   intro m hm;obtain⟨m,rfl⟩:∃j,m=j+1:=⟨m-1,(by omega)⟩;rw[cy.cD];by_cases h0:1<bI xs
   ·have az:=AP h 0 (by omega);rw[if_pos (by omega),if_pos (by omega),show(bB s 0==48)=false by rw[beq_eq_false_iff_ne];intro e;exact tl ⟨h0,az.trans e⟩];rfl
   ·rw[if_neg (by omega)];rfl
  have aj:=fun m=>Uk h 0 (bI xs) m 0 0 (by omega) rfl (Nat.le_refl _);simp only[Nat.zero_add]at aj
  have fin:∀m,cy.f (m+1+bI xs+1) s=cy.gL m s (bI xs:Int) (bI xs:Int) 0 false:=by
   intro m;unfold cy.f;have:=aj (m+1);rw[show((0:Nat):Int)=0 from rfl]at this;rw[this,gL (m+1) (by omega)];rfl
  unfold oJ;rw[if_neg tl];rcases here h (bI xs) hd with⟨e,h0,h2⟩|⟨e,h0,h2,h3⟩
  ·obtain⟨cd,hh⟩:=LH h (bI xs) (bI xs) 0 hd (by omega);refine⟨cd+bI xs+10,fun k ad=>?_⟩;obtain⟨m,rfl⟩:∃m,k=(m+1+1)+1+bI xs+1:=⟨k-(bI xs+4),(by omega)⟩;rw[fin];rw[cy.gL];rw[if_neg (by decide),if_neg h2];rw[cy.gZ];rw[if_neg (by decide)];have:=hh m (by omega);rw[show((0:Nat):Int)=0 from rfl]at this;rw[this,h0];rfl
  ·by_cases c1:bB s (bI xs:Int)=46
   ·rw[c1]at h0;have gM:bI xs+1+bI (xs.drop (bI xs+1))≤xs.length:=by have:=uh (xs.drop (bI xs+1));rw[List.length_drop]at this;omega
    obtain⟨cd,hh⟩:=LH h (bI xs+1+bI (xs.drop (bI xs+1))) (bI xs) (bI (xs.drop (bI xs+1))) gM Cf;refine⟨cd+bI xs+bI (xs.drop (bI xs+1))+10,fun k ad=>?_⟩;obtain⟨m,rfl⟩:∃m,k=((m+bI (xs.drop (bI xs+1))+1)+1+1)+1+bI xs+1:=⟨k-(bI xs+5+bI (xs.drop (bI xs+1))),(by omega)⟩;rw[fin];rw[cy.gL];rw[if_neg (by decide),if_pos h2,if_pos h3,show(bB s (bI xs:Int)==46)=true from beq_iff_eq.mpr c1];rw[cy.gZ];rw[if_pos rfl,wr _ kd];have cC:=abK h (bI xs:Int) _ m (bI xs+1) 0 (by omega) rfl (by omega);rw[show((0:Nat):Int)=0 from rfl,Nat.zero_add]at cC;rw[cC,hh m (by omega),h0];rw[vt,if_pos rfl,List.drop_drop]
   ·obtain⟨cd,hh⟩:=LH h (bI xs) (bI xs) 0 hd (by omega);refine⟨cd+bI xs+10,fun k ad=>?_⟩;obtain⟨m,rfl⟩:∃m,k=(m+1+1)+1+bI xs+1:=⟨k-(bI xs+4),(by omega)⟩;rw[fin];rw[cy.gL];rw[if_neg (by decide),if_pos h2,if_pos h3,show(bB s (bI xs:Int)==46)=false from beq_eq_false_iff_ne.mpr c1];rw[cy.gZ];rw[if_neg (by decide)];have:=hh m (by omega);rw[show((0:Nat):Int)=0 from rfl]at this;rw[this,h0,vt,if_neg c1];rfl
theorem abO:∀(n p k:Nat),p+n=xs.length→2*n+4≤k→fm.aj k s (p:Int)=some (if tk (xs.drop p)=true then(if xs.length=2 then 0 else 2)else 0):=by
 intro n
 induction n with
 |zero=>
  intro p k hp ad;obtain⟨m,rfl⟩:∃m,k=m+1:=⟨k-1,(by omega)⟩;have aG:=h.size;have aD:((s.size:Int)=2)=(xs.length=2):=propext ⟨fun h=>by omega,fun h=>by omega⟩;rw[fm.aj,if_neg (by omega),List.drop_eq_nil_of_le (by omega)];simp only[tk,if_true,aD];split<;>rfl
 |succ n bb=>
  intro p k hp ad;obtain⟨m,rfl⟩:∃m,k=m+2:=⟨k-2,(by omega)⟩;have hle:=h.le;rcases here h p (by omega)with⟨e,h1,h2⟩|⟨e,h1,h2,h3⟩
  ·omega
  ·rw[show m+2=(m+1)+1 from rfl,fm.aj,if_pos h2,if_pos h3,show fQ.f (m+1) (bB s (p:Int))=some (ih (bB s (p:Int)))from by obtain⟨j,rfl⟩:∃j,m=j+1:=⟨m-1,(by omega)⟩;exact Hb j _,Option.bind_some,h1,wr p (by omega)];by_cases ae:dr (bB s (p:Int))=true
   ·rw[if_neg (by have:=AN ae;omega),bb (p+1) (m+1) (by omega) (by omega)];simp only[tk,ae,Bool.true_and]
   ·rw[if_pos (AO (by simpa using ae))];simp only[tk,Bool.eq_false_iff.mpr ae,Bool.false_and,Bool.false_eq_true,if_false]
end
def LK(xs:List Int)(d e:Bool):Int:=if d=true then(if a6 xs 0=48∧1<xs.length then(if e=true then 0 else 3)else 1)else oJ xs
theorem Ul(k:Nat)(b:Bool):fm.de (k+1) s true b=some (if b=true then 0 else 1):=by
 rw[fm.de];cases b
 ·rw[if_neg Bool.false_ne_true,if_pos rfl,if_neg Bool.false_ne_true]
 ·rw[if_pos rfl,if_pos rfl]
section
variable (h:Hc s xs)
include h
theorem abP(bL:xs≠[])(d e:Bool):∃cd,∀k,cd≤k→fm.cC k s d e (xs.length:Int)=some (LK xs d e):=by
 have aG:=h.size;have hlen:0<xs.length:=List.length_pos_iff.mpr bL;have az:a6 xs 0=bB s 0:=AP h 0 hlen;obtain⟨LL,Dk⟩:=abN h;refine⟨LL+3,fun k ad=>?_⟩;obtain⟨m,rfl⟩:∃m,k=m+1+1+1:=⟨k-3,(by omega)⟩;rw[fm.cC,if_neg (show¬(xs.length:Int)<(s.size:Int)by omega)];unfold LK;cases d
 ·rw[if_neg Bool.false_ne_true,if_neg Bool.false_ne_true,fm.gZ,if_neg Bool.false_ne_true,if_neg Bool.false_ne_true,fm.de,if_neg Bool.false_ne_true,if_neg Bool.false_ne_true,Dk m (by omega)];rfl
 ·rw[if_pos rfl,if_pos rfl,if_pos (show(0:Int)<(s.size:Int)by omega)]
  have wV:fm.gZ (m+1+1) s true false=some (if bB s 0=48∧1<xs.length then 0 else 1):=by
   rw[fm.gZ,if_neg Bool.false_ne_true,if_pos rfl,if_pos (show(0:Int)<(s.size:Int)by omega)];by_cases c1:bB s 0=48
   ·rw[if_pos c1,Ul];by_cases c2:1<xs.length
    ·rw[if_pos (decide_eq_true (show(s.size:Int)>1 by omega)),if_pos ⟨c1,c2⟩]
    ·rw[if_neg (show¬decide ((s.size:Int)>1)=true by simp only[decide_eq_true_eq];omega),if_neg (fun h=>c2 h.2)]
   ·rw[if_neg c1,Ul,if_neg Bool.false_ne_true,if_neg (fun h=>c1 h.1)]
  rw[az];by_cases c1:bB s 0=48
  ·rw[if_pos c1];by_cases c2:1<xs.length
   ·rw[if_pos (show(s.size:Int)>1 by omega),if_pos (show bB s 0=48∧1<xs.length from⟨c1,c2⟩)];cases e
    ·rw[Bool.not_false,fm.gZ,if_pos rfl,if_neg Bool.false_ne_true]
    ·rw[Bool.not_true,wV,if_pos ⟨c1,c2⟩,if_pos rfl]
   ·rw[if_neg (show¬(s.size:Int)>1 by omega),wV,if_neg (show¬(bB s 0=48∧1<xs.length)from fun h=>c2 h.2),if_neg (show¬(bB s 0=48∧1<xs.length)from fun h=>c2 h.2)]
  ·rw[if_neg c1,wV,if_neg (show¬(bB s 0=48∧1<xs.length)from fun h=>c1 h.1),if_neg (show¬(bB s 0=48∧1<xs.length)from fun h=>c1 h.1)]
theorem abQ(p:Nat)(hp:p<xs.length)(d e:Bool)(k:Nat):fm.cC (k+1) s d e (p:Int)=fm.cC k s (d&&cN (bB s (p:Int))) (e||(bB s (p:Int)==56||bB s (p:Int)==57)) ((p+1:Nat):Int):=by
 have aG:=h.size;have hle:=h.le;rw[fm.cC,if_pos (show(p:Int)<(s.size:Int)by omega),wr p (by omega)];have h0:(0:Int)≤(p:Int):=by omega
 generalize bB s (p:Int)=c
 have aD:∀b:Bool,(if c=56 then fm.cC k s b true ((p+1:Nat):Int)else fm.cC k s b (c==57) ((p+1:Nat):Int))=fm.cC k s b (c==56||c==57) ((p+1:Nat):Int):=fun b=>by
  by_cases ck:c=56
  ·rw[if_pos ck,show(c==56)=true from beq_iff_eq.mpr ck,Bool.true_or]
  ·rw[if_neg ck,show(c==56)=false from beq_eq_false_iff_ne.mpr ck,Bool.false_or]
 cases d
 ·rw[if_neg Bool.false_ne_true,Bool.false_and];cases e
  ·rw[if_neg Bool.false_ne_true,if_pos h0,aD,Bool.false_or]
  ·rw[if_pos rfl,Bool.true_or]
 ·rw[if_pos rfl,if_pos h0,wD,Option.bind_some,Bool.true_and];cases e
  ·rw[if_neg Bool.false_ne_true,aD,Bool.false_or]
  ·rw[if_pos rfl,Bool.true_or]
theorem LM(bL:xs≠[]):∀(n p:Nat),p+n=xs.length→∀d e:Bool,∃cd,∀k,cd≤k→fm.cC k s d e (p:Int)=some (LK xs (d&&lT (xs.drop p)) (e||rf (xs.drop p))):=by
 intro n
 induction n with
 |zero=>
  intro p hp d e;obtain rfl:p=xs.length:=by omega
  rw[List.drop_length];simp only[lT,rf,Bool.and_true,Bool.or_false];exact abP h bL d e
 |succ n bb=>
  intro p hp d e;obtain⟨cd,hh⟩:=bb (p+1) (by omega) (d&&cN (bB s (p:Int))) (e||(bB s (p:Int)==56||bB s (p:Int)==57));refine⟨cd+1,fun k ad=>?_⟩;obtain⟨m,rfl⟩:∃m,k=m+1:=⟨k-1,(by omega)⟩;have h0:xs.drop p=bB s (p:Int)::xs.drop (p+1):=by rw[gz xs p (by omega),h.at_ p (by omega)]
  rw[abQ h p (by omega),hh m (by omega),h0];simp only[lT,rf,Bool.and_assoc,Bool.or_assoc]
theorem abR:∃k,fm.f k s=some (si xs):=by
 have aG:=h.size;unfold fm.f si;by_cases aq:xs=[]
 ·refine⟨0,?_⟩;have:s.toList=[]:=List.eq_nil_of_length_eq_zero (by rw[Uj,aG,aq];rfl);rw[if_pos this,if_pos aq]
 ·have hlen:0<xs.length:=List.length_pos_iff.mpr aq
  have ev:¬s.toList=[]:=fun e=>by
   have h0:=Uj s;rw[e]at h0;simp at h0;omega
  have az:a6 xs 0=bB s 0:=AP h 0 hlen;obtain⟨cY,hh⟩:=LM h aq xs.length 0 (by omega) true false
  have wV:∀k,cY≤k→fm.fB (k+1) s false=some (if lT xs=true then(if a6 xs 0=48∧1<xs.length then(if rf xs=true then 0 else 3)else 1)else oJ xs):=by
   intro k ad;rw[fm.fB,if_neg Bool.false_ne_true];have:=hh k ad;rw[List.drop_zero,Bool.true_and,Bool.false_or]at this;exact this
  rw[if_neg aq];by_cases ae:kE xs=true
  ·have aW:a6 xs 0=48∧(a6 xs 1=120∨a6 xs 1=88):=by simpa [kE]using ae
   have jf:1<xs.length:=by
    by_cases e:xs.length=1
    ·exfalso;have:a6 xs 1=0:=by simp[a6,List.getD_eq_getElem?_getD,List.getElem?_eq_none (show xs.length≤1 by omega)]
     omega
    ·omega
   have ee:a6 xs 1=bB s 1:=AP h 1 jf;obtain⟨k,ad⟩:∃k,k=2*xs.length+4:=⟨_,rfl⟩;refine⟨k+1,?_⟩
   have bq:fm.fB (k+1) s true=some (if tk (xs.drop 2)=true then(if xs.length=2 then 0 else 2)else 0):=by
    rw[fm.fB,if_pos rfl];exact abO h (xs.length-2) 2 k (by omega) (by omega)
   rw[if_neg ev,if_pos (show(s.size:Int)>1 by omega),if_pos (show(0:Int)<(s.size:Int)by omega),if_pos (show bB s 0=48 by omega),if_pos (show(1:Int)<(s.size:Int)by omega),if_pos ae];rcases aW.2 with c|c
   ·rw[if_pos (show bB s 1=120 by omega)];exact bq
   ·rw[if_neg (show¬bB s 1=120 by omega),show(bB s 1==88)=true from beq_iff_eq.mpr (by omega)];exact bq
  ·refine⟨cY+1,?_⟩;have bq:=wV cY (Nat.le_refl _);rw[if_neg ev,if_neg ae];by_cases jf:1<xs.length
   ·rw[if_pos (show(s.size:Int)>1 by omega),if_pos (show(0:Int)<(s.size:Int)by omega)];by_cases ck:bB s 0=48
    ·have ee:a6 xs 1=bB s 1:=AP h 1 jf
     have cR:¬(bB s 1=120)∧¬(bB s 1=88):=by
      have:¬(a6 xs 0=48∧(a6 xs 1=120∨a6 xs 1=88)):=by simpa [kE]using ae
      omega
     rw[if_pos ck,if_pos (show(1:Int)<(s.size:Int)by omega),if_neg cR.1,show(bB s 1==88)=false from beq_eq_false_iff_ne.mpr cR.2];exact bq
    ·rw[if_neg ck];exact bq
   ·rw[if_neg (show¬(s.size:Int)>1 by omega)];exact bq
end
end
def qm(ae j5:Bool)(c:Int):Bool:=if c=43∨c=45 then j5&& !ae else cN c||fR c||c==46
def tm(c:Int):Bool:=c==101||c==69
def oK(ae:Bool):Bool→List Int→Nat
 |_,[]=>0
 |j5,c::r=>if qm ae j5 c=true then oK ae (tm c) r+1 else 0
def me(s:List Int):Nat:=oK (kE s) false s
theorem abS(ae:Bool)(s:List Int):∀j5,oK ae j5 s≤s.length:=by
 induction s with
 |nil=>intro j5;simp[oK]
 |cons c r bb=>
  intro j5;have:=bb (tm c);simp only[oK,List.length_cons];split<;>omega
theorem Um(s:List Int):me s≤s.length:=abS _ _ _
def mF(B:List Int)(f q:Nat):Bool:=decide (f<q)&&tm (rd B ((q:Int)-1))
section
variable (B:List Int)
include B
theorem abT(f:Nat):mF B f f=false:=by simp[mF]
theorem abU(f q:Nat)(h:f≤q):mF B f (q+1)=tm (rd B (q:Int)):=by
 unfold mF;rw[show decide (f<q+1)=true from decide_eq_true (by omega),Bool.true_and,show((q+1:Nat):Int)-1=(q:Int)by omega]
theorem ta(f k:Nat):a6 (B.drop f) k=rd B ((f+k:Nat):Int):=by
 unfold a6 rd;rw[Int.toNat_natCast,List.getD_eq_getElem?_getD,List.getD_eq_getElem?_getD,List.getElem?_drop]
theorem abV(f:Nat):kE (B.drop f)=(decide (rd B (f:Int)=48)&&(decide (rd B ((f+1:Nat):Int)=120)||decide (rd B ((f+1:Nat):Int)=88))):=by
 unfold kE;rw[ta,ta];rfl
end
theorem F5(a b:Int)(h1: -1000000≤a+b)(h2:a+b≤1000000):wrap64 (a+b)=a+b:=by unfold wrap64;omega
theorem abW(B:List Int)(f q:Nat)(aA:f≤q)(ar:q<B.length)(dw:B.length≤100000)(k:Nat):
 pc.f (k+1) B (f:Int) (q:Int)=some (qm (kE (B.drop f)) (mF B f q) (rd B (q:Int))):=by
 unfold pc.f;rw[if_pos (by omega),if_pos (by omega)];have abX:wrap64 ((q:Int)-1)=(q:Int)-1:=by unfold wrap64;omega
 have abY:wrap64 ((f:Int)+1)=((f+1:Nat):Int):=by unfold wrap64;omega
 generalize ai:rd B (q:Int)=c
 have abZ:pc.fB (k+1) B (f:Int) (q:Int) c false=some (cN c||fR c||c==46):=by
  rw[pc.fB,if_neg (by decide),wD,Option.bind_some];cases cN c
  ·rw[if_neg (by decide),G1,Option.bind_some];cases fR c
   ·rw[if_neg (by decide)];rfl
   ·rfl
  ·rfl
 have Un:c=43∨c=45→pc.fB (k+1) B (f:Int) (q:Int) c true=some (mF B f q&& !kE (B.drop f)):=by
  intro rJ;rw[pc.fB,if_pos rfl];by_cases h:f<q
  ·rw[if_pos (by omega),abX,if_pos (by omega),if_pos (by omega)]
   have inner:(if(q:Int)>wrap64 ((f:Int)+1)then(if 0≤(f:Int)then(if(f:Int)<(B.length:Int)then(if(rd B (f:Int))=48 then(if 0≤(wrap64 ((f:Int)+1))then(if(wrap64 ((f:Int)+1))<(B.length:Int)then(if(rd B (wrap64 ((f:Int)+1)))=120 then(some (!true))else(some (!((rd B (wrap64 ((f:Int)+1)))==88))))else(none))else(none))else(some (!false)))else(none))else(none))else(some (!false)))=some (!kE (B.drop f)):=by
    rw[abY,abV];by_cases h0:f+1<q
    ·rw[if_pos (by omega),if_pos (by omega),if_pos (by omega)];have g0:(0:Int)≤((f+1:Nat):Int):=by omega
     have g1:((f+1:Nat):Int)<(B.length:Int):=by omega
     generalize rd B ((f+1:Nat):Int)=d;by_cases aD:rd B (f:Int)=48
     ·rw[if_pos aD,if_pos g0,if_pos g1];by_cases bx:d=120
      ·rw[if_pos bx];simp[aD,bx]
      ·rw[if_neg bx];by_cases db:d=88<;>simp[aD,bx,db]
     ·rw[if_neg aD];simp[aD]
    ·rw[if_neg (by omega)];obtain rfl:q=f+1:=by omega
     rw[ai];rw[show decide (c=120)=false from decide_eq_false (by omega),show decide (c=88)=false from decide_eq_false (by omega)];simp
   have hp:mF B f q=tm (rd B ((q:Int)-1)):=by simp[mF,h]
   rw[hp];by_cases aD:rd B ((q:Int)-1)=101
   ·rw[if_pos aD,inner,show tm (rd B ((q:Int)-1))=true by simp[tm,aD],Bool.true_and]
   ·rw[if_neg aD];by_cases bx:rd B ((q:Int)-1)=69
    ·rw[if_pos bx,inner,show tm (rd B ((q:Int)-1))=true by simp[tm,bx],Bool.true_and]
    ·rw[if_neg bx,show tm (rd B ((q:Int)-1))=false by simp[tm,aD,bx],Bool.false_and]
  ·rw[if_neg (by omega)];have hp:mF B f q=false:=by simp[mF,h]
   rw[hp,Bool.false_and]
 unfold qm;by_cases h0:c=43
 ·rw[if_pos h0,Un (.inl h0),if_pos (.inl h0)]
 ·rw[if_neg h0];by_cases h1:c=45
  ·rw[show(c==45)=true from beq_iff_eq.mpr h1,Un (.inr h1),if_pos (.inr h1)]
  ·rw[show(c==45)=false from beq_eq_false_iff_ne.mpr h1,abZ,if_neg (by omega)]
theorem ab0(ae:Bool)(B:List Int)(f q:Nat)(aA:f≤q)(ar:q<B.length):
 oK ae (mF B f q) (B.drop q)=if qm ae (mF B f q) (rd B (q:Int))=true then oK ae (mF B f (q+1)) (B.drop (q+1))+1 else 0:=by
 rw[gz B q ar,abU B f q aA];rfl
theorem ab1(ae j5:Bool)(B:List Int)(q:Nat)(ar:B.length≤q):oK ae j5 (B.drop q)=0:=by
 rw[List.drop_eq_nil_of_le ar];rfl
theorem Dl(xs:List Int)(U:∀x∈xs,0≤x∧x<256)(an:xs.length≤1000000):Hc (strOfNums xs) xs:=by
 refine⟨(by simp[strOfNums,ByteArray.size]),fun i hi=>?_,an⟩;have ak:(strOfNums xs).size=xs.length:=by simp[strOfNums,ByteArray.size]
 unfold bB rd;rw[Int.toNat_natCast,dif_pos (by omega)];have ae:=U xs[i] (List.getElem_mem hi)
 have e:(strOfNums xs)[i]'(by omega)=UInt8.ofNat (xs[i]).toNat:=by
  simp only[strOfNums]
  show((xs.map fun n=>UInt8.ofNat n.toNat).toArray)[i]'_=_
  simp
 rw[e,List.getD_eq_getElem?_getD,List.getElem?_eq_getElem hi];simp only[Option.getD_some,UInt8.toNat_ofNat'];omega
theorem Uo(B:List Int)(U:∀x∈B,0≤x∧x<256)(an:B.length≤1000000)(f q:Nat):Hc (sub B f q) ((B.take q).drop f):=
 Dl _ (fun x ae=>U x (List.mem_of_mem_take (List.mem_of_mem_drop ae))) Jh
def qR(f:Int)(g:Bool):Int:=if f=0 then 0 else if f= -1 then 2 else if g=true then 0 else 1
def qn(B:List Int)(p:Nat):Nat:=if a8 (B.drop p) 45=true then B.length-(bc false (B.drop (p+1))).length else p
inductive AQ (B:List Int) (p:Nat):Nat→Int→Prop
 |jP (hm:a8 (B.drop p) 45=true) (aZ:jP (bc false (B.drop (p+1)))=true) (q:Nat):AQ B p q 2
 |go (aZ:a8 (B.drop p) 45=true→cP.jP (bc false (B.drop (p+1)))=false) (q:Nat) (ar:q=qn B p+me (B.drop (qn B p))):
  AQ B p q (qR (si ((B.drop (qn B p)).take (me (B.drop (qn B p))))) (fF (B.drop q)))
end gJ
