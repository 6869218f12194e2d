/- Part 12 of the proof (Rs0, Ty0, Tk7). Conditions: each theorem's own. -/
import Derived.Test.YtmpeadgiclfapaaGreatDoorZ11
import Derived.Test.YtmpeadgiclfapaaGreatDoorZ12
import Derived.Test.YtmpeadgiclfapaaGreatDoorZ13
set_option linter.all false
set_option maxHeartbeats 0
set_option maxRecDepth 100000
namespace Go.Proofs.YtmpeadgiclfapaaGreatDoor
namespace cP
open RowKit YtmpeadgiclfapaaGreatDoorW.PrintWords YtmpeadgiclfapaaGreatDoorW.PrintLast YtmpeadgiclfapaaGreatDoorW.PrintMore ei
def ri(x:cx):List Value:=[.int .i64 x.f0,.int .i64 x.f1,.int .i64 x.f2,.bool x.f3,.string x.f4,.string x.f5]
theorem Up(l:List cx):(l.flatMap ri).length=l.length*6:=by
 induction l with
 |nil=>rfl
 |cons x r bb=>rw[List.flatMap_cons,List.length_append,bb,List.length_cons];simp only[ri,List.length_cons,List.length_nil];omega
section
variable {w:World} {base:Nat} {ok:Nat→Prop}
theorem ab2:∀(l:List cx) (inner:List Value),cF (l0.M w base ok) 6 l inner→inner=l.flatMap ri:=by
 intro l
 induction l with
 |nil=>intro inner h;exact List.eq_nil_of_length_eq_zero (by simpa using h.1)
 |cons x r bb=>
  intro inner h;have h0:=ZL (h.2 0 x rfl);have hd:=ab.YA (m:=1) h;rw[Nat.one_mul]at hd;have h1:=bb _ hd;have e:inner=inner.take 6++inner.drop 6:=(List.take_append_drop 6 inner).symm;rw[e,h1]
  have aD:inner.take 6=ri x:=by
   rw[Nat.zero_mul,List.drop_zero]at h0;exact h0
  rw[aD,List.flatMap_cons]
theorem ab3(l:List cx):cF (l0.M w base ok) 6 l (l.flatMap ri):=by
 refine⟨Up l,?_⟩
 induction l with
 |nil=>intro j p bq;simp at bq
 |cons x r bb=>
  intro j p bq;cases j with
  |zero=>
   have hp:x=p:=by simpa using bq
   subst hp
   have:((List.flatMap ri (x::r)).drop (0*6)).take 6=ri x:=by
    rw[List.flatMap_cons,Nat.zero_mul,List.drop_zero];exact List.take_left' rfl
   rw[this];exact BX w base ok x
  |succ j=>
   have hp:r[j]?=some p:=by simpa using bq
   have:((List.flatMap ri (x::r)).drop ((j+1)*6))=(List.flatMap ri r).drop (j*6):=by
    rw[List.flatMap_cons,Nat.add_mul,Nat.one_mul,Nat.add_comm,←List.drop_drop];congr 1
   rw[this];exact bb j p hp
end
theorem ab4{W:World}{base:Nat}{ok:Nat→Prop}{A:Option Addr}{c:Nat}{aj:List cx}{x:cx}(h:ab.R l0 32 W base ok (.slice A (aj++[x]).length c) (aj++[x])):
 ∃b,A=some ⟨b,0,none⟩∧base≤b∧ok b∧W.cell? ⟨b,aj.length*6+3,none⟩=some (.bool x.f3)∧W.frozen? ⟨b,aj.length*6+3,none⟩=false∧
  ab.R l0 32 (W.setCell ⟨b,aj.length*6+3,none⟩ (.bool true)) base ok (.slice A (aj++[x]).length c) (aj++[⟨x.f0,x.f1,x.f2,true,x.f4,x.f5⟩]):=by
 obtain⟨bC,inner,iv,Uq⟩:=h;have dd:l0.sz=6:=rfl;rw[dd]at iv Uq;have sj:=ab2 _ _ Uq;have ab5:=iv;obtain⟨hlen,iv⟩:=iv;have aq:(aj++[x]).length=aj.length+1:=by simp
 rcases iv with⟨_,h0⟩|⟨b,cap,cur,aZ,U,ed,pN,hmx,kX,wX⟩
 ·rw[aq]at h0;omega
 ·simp only[Value.slice.injEq]at aZ;obtain⟨rfl,_,rfl⟩:=aZ;rw[aq]at pN hlen wX;have kj:inner=aj.flatMap ri++ri x:=by rw[sj,List.flatMap_append];simp
  have jf:=Up aj;have dM:cur.toList.length=c*6:=by rw[Array.length_toList,kX]
  have aj3:aj.length*6+3<cur.size:=by omega
  have ab6:cur[aj.length*6+3]?=some (.bool x.f3):=by
   rw[←Array.getElem?_toList];have h1:(cur.toList.take ((aj.length+1)*6))[aj.length*6+3]?=cur.toList[aj.length*6+3]?:=List.getElem?_take_of_lt (by omega);rw[←h1,wX,kj,List.getElem?_append_right (by omega),jf,show aj.length*6+3-aj.length*6=3 by omega];rfl
  have dA:=(ab5.stored (aj.length*6+3) (.bool true)).1
  have he:inner.set (aj.length*6+3) (.bool true)=(aj++[(⟨x.f0,x.f1,x.f2,true,x.f4,x.f5⟩:cx)]).flatMap ri:=by
   rw[kj,List.set_append_right _ _ (by omega),jf,show aj.length*6+3-aj.length*6=3 by omega,List.flatMap_append];simp[ri]
  refine⟨b,rfl,U,bC b rfl,?_,?_,bC,inner.set (aj.length*6+3) (.bool true),?_,?_⟩
  ·simp only[World.cell?,ed]
   simpa using ab6
  ·simp only[World.frozen?,ed];simp
  ·have aD:(aj++[(⟨x.f0,x.f1,x.f2,true,x.f4,x.f5⟩:cx)]).length=(aj++[x]).length:=by simp
   rw[aD];exact dA
  ·rw[he];exact ab3 _
theorem cu.sep{w0 w:World}{g:Nat}{B:List Int}{p:Nat}{told:Int}{aj:List cx}{x:cx}(h:cu w0 w g B p told (aj++[x])):
 ∃(b c3:Nat),w.cell? ⟨g,3,none⟩=some (.slice (some ⟨b,0,none⟩) (aj.length+1) c3)∧w.cell? ⟨b,aj.length*6+3,none⟩=some (.bool x.f3)∧w.frozen? ⟨b,aj.length*6+3,none⟩=false∧b≠g∧
  cu w0 (w.setCell ⟨b,aj.length*6+3,none⟩ (.bool true)) g B p told (aj++[⟨x.f0,x.f1,x.f2,true,x.f4,x.f5⟩]):=by
 obtain⟨⟨hd,fJ,hlen,ew⟩,dw,hle,dd⟩:=h;obtain⟨b,rj,U,bC,h0,h1,h2⟩:=ab4 ew;have aq:(aj++[x]).length=aj.length+1:=by simp
 have aD:(aj++[(⟨x.f0,x.f1,x.f2,true,x.f4,x.f5⟩:cx)]).length=(aj++[x]).length:=by simp
 refine⟨b,hd.c,?_,h0,h1,bC,⟨hd,fJ.jF (p:=⟨b,aj.length*6+3,none⟩) (Ne.symm bC) _,hlen.trans aD.symm,(by rw[aD];exact h2)⟩,dw.setCell U _,hle,dd⟩;obtain⟨ao,c0,bd,c3,lQ,aw,bP,rfl,rfl,eT⟩:=fJ;have this:w.cell? ⟨g,3,none⟩=some (.slice hd.A hd.length hd.c):=(bg lQ 3).trans rfl;rw[this,hlen,aq,←rj]
end cP
namespace mG
open RowKit YtmpeadgiclfapaaGreatDoorW.PrintWords YtmpeadgiclfapaaGreatDoorW.PrintLast YtmpeadgiclfapaaGreatDoorW.PrintMore ei cP gJ eI
def rk(c:Int):Bool:=c==46||c==126||c==33||c==36||c==38||c==40||c==41||c==42||c==43||c==44||c==59||c==61||c==47
theorem ab7(c:Int)(k:Nat):hJ.f (k+14) c (⟨#[46,126,33,36,38,40,41,42,43,44,59,61,47]⟩:ByteArray)=some (rk c):=by
 unfold hJ.f;rw[show k+14=k+1+1+1+1+1+1+1+1+1+1+1+1+1+1 from rfl];rw[hJ.aj,if_pos (show(0:Int)<((⟨#[46,126,33,36,38,40,41,42,43,44,59,61,47]⟩:ByteArray).size:Int)by decide),if_pos (show(0:Int)≤0 by decide),show bB (⟨#[46,126,33,36,38,40,41,42,43,44,59,61,47]⟩:ByteArray) 0=46 by decide,show wrap64 ((0:Int)+1)=1 by unfold wrap64;omega];by_cases aD:46=c
 ·rw[if_pos aD,←aD];rfl
 rw[if_neg aD];rw[hJ.aj,if_pos (show(1:Int)<((⟨#[46,126,33,36,38,40,41,42,43,44,59,61,47]⟩:ByteArray).size:Int)by decide),if_pos (show(0:Int)≤1 by decide),show bB (⟨#[46,126,33,36,38,40,41,42,43,44,59,61,47]⟩:ByteArray) 1=126 by decide,show wrap64 ((1:Int)+1)=2 by unfold wrap64;omega];by_cases bx:126=c
 ·rw[if_pos bx,←bx];rfl
 rw[if_neg bx];rw[hJ.aj,if_pos (show(2:Int)<((⟨#[46,126,33,36,38,40,41,42,43,44,59,61,47]⟩:ByteArray).size:Int)by decide),if_pos (show(0:Int)≤2 by decide),show bB (⟨#[46,126,33,36,38,40,41,42,43,44,59,61,47]⟩:ByteArray) 2=33 by decide,show wrap64 ((2:Int)+1)=3 by unfold wrap64;omega];by_cases db:33=c
 ·rw[if_pos db,←db];rfl
 rw[if_neg db];rw[hJ.aj,if_pos (show(3:Int)<((⟨#[46,126,33,36,38,40,41,42,43,44,59,61,47]⟩:ByteArray).size:Int)by decide),if_pos (show(0:Int)≤3 by decide),show bB (⟨#[46,126,33,36,38,40,41,42,43,44,59,61,47]⟩:ByteArray) 3=36 by decide,show wrap64 ((3:Int)+1)=4 by unfold wrap64;omega];by_cases fO:36=c
 ·rw[if_pos fO,←fO];rfl
 rw[if_neg fO];rw[hJ.aj,if_pos (show(4:Int)<((⟨#[46,126,33,36,38,40,41,42,43,44,59,61,47]⟩:ByteArray).size:Int)by decide),if_pos (show(0:Int)≤4 by decide),show bB (⟨#[46,126,33,36,38,40,41,42,43,44,59,61,47]⟩:ByteArray) 4=38 by decide,show wrap64 ((4:Int)+1)=5 by unfold wrap64;omega];by_cases gW:38=c
 ·rw[if_pos gW,←gW];rfl
 rw[if_neg gW];rw[hJ.aj,if_pos (show(5:Int)<((⟨#[46,126,33,36,38,40,41,42,43,44,59,61,47]⟩:ByteArray).size:Int)by decide),if_pos (show(0:Int)≤5 by decide),show bB (⟨#[46,126,33,36,38,40,41,42,43,44,59,61,47]⟩:ByteArray) 5=40 by decide,show wrap64 ((5:Int)+1)=6 by unfold wrap64;omega];by_cases aE:40=c
 ·rw[if_pos aE,←aE];rfl
 rw[if_neg aE];rw[hJ.aj,if_pos (show(6:Int)<((⟨#[46,126,33,36,38,40,41,42,43,44,59,61,47]⟩:ByteArray).size:Int)by decide),if_pos (show(0:Int)≤6 by decide),show bB (⟨#[46,126,33,36,38,40,41,42,43,44,59,61,47]⟩:ByteArray) 6=41 by decide,show wrap64 ((6:Int)+1)=7 by unfold wrap64;omega];by_cases k3:41=c
 ·rw[if_pos k3,←k3];rfl
 rw[if_neg k3];rw[hJ.aj,if_pos (show(7:Int)<((⟨#[46,126,33,36,38,40,41,42,43,44,59,61,47]⟩:ByteArray).size:Int)by decide),if_pos (show(0:Int)≤7 by decide),show bB (⟨#[46,126,33,36,38,40,41,42,43,44,59,61,47]⟩:ByteArray) 7=42 by decide,show wrap64 ((7:Int)+1)=8 by unfold wrap64;omega];by_cases sZ:42=c
 ·rw[if_pos sZ,←sZ];rfl
 rw[if_neg sZ];rw[hJ.aj,if_pos (show(8:Int)<((⟨#[46,126,33,36,38,40,41,42,43,44,59,61,47]⟩:ByteArray).size:Int)by decide),if_pos (show(0:Int)≤8 by decide),show bB (⟨#[46,126,33,36,38,40,41,42,43,44,59,61,47]⟩:ByteArray) 8=43 by decide,show wrap64 ((8:Int)+1)=9 by unfold wrap64;omega];by_cases wY:43=c
 ·rw[if_pos wY,←wY];rfl
 rw[if_neg wY];rw[hJ.aj,if_pos (show(9:Int)<((⟨#[46,126,33,36,38,40,41,42,43,44,59,61,47]⟩:ByteArray).size:Int)by decide),if_pos (show(0:Int)≤9 by decide),show bB (⟨#[46,126,33,36,38,40,41,42,43,44,59,61,47]⟩:ByteArray) 9=44 by decide,show wrap64 ((9:Int)+1)=10 by unfold wrap64;omega];by_cases vu:44=c
 ·rw[if_pos vu,←vu];rfl
 rw[if_neg vu];rw[hJ.aj,if_pos (show(10:Int)<((⟨#[46,126,33,36,38,40,41,42,43,44,59,61,47]⟩:ByteArray).size:Int)by decide),if_pos (show(0:Int)≤10 by decide),show bB (⟨#[46,126,33,36,38,40,41,42,43,44,59,61,47]⟩:ByteArray) 10=59 by decide,show wrap64 ((10:Int)+1)=11 by unfold wrap64;omega];by_cases e10:59=c
 ·rw[if_pos e10,←e10];rfl
 rw[if_neg e10];rw[hJ.aj,if_pos (show(11:Int)<((⟨#[46,126,33,36,38,40,41,42,43,44,59,61,47]⟩:ByteArray).size:Int)by decide),if_pos (show(0:Int)≤11 by decide),show bB (⟨#[46,126,33,36,38,40,41,42,43,44,59,61,47]⟩:ByteArray) 11=61 by decide,show wrap64 ((11:Int)+1)=12 by unfold wrap64;omega];by_cases e11:61=c
 ·rw[if_pos e11,←e11];rfl
 rw[if_neg e11];rw[hJ.aj,if_pos (show(12:Int)<((⟨#[46,126,33,36,38,40,41,42,43,44,59,61,47]⟩:ByteArray).size:Int)by decide),if_pos (show(0:Int)≤12 by decide),show bB (⟨#[46,126,33,36,38,40,41,42,43,44,59,61,47]⟩:ByteArray) 12=47 by decide,show wrap64 ((12:Int)+1)=13 by unfold wrap64;omega];by_cases e12:47=c
 ·rw[if_pos e12,←e12];rfl
 rw[if_neg e12];rw[hJ.aj,if_neg (show¬(13:Int)<((⟨#[46,126,33,36,38,40,41,42,43,44,59,61,47]⟩:ByteArray).size:Int)by decide)];congr 1;unfold rk;symm;simp only[Bool.or_eq_false_iff,beq_eq_false_iff_ne];omega
def hO(s:List Int):Nat→Nat
 |0=>0
 |i+1=>if rd s (i:Int)=47 then i+1 else hO s i
theorem Hd(s:List Int):∀i,hO s i≤i:=by
 intro i
 induction i with
 |zero=>exact Nat.le_refl _
 |succ i bb=>simp only[hO];split<;>omega
def oL:Bool→List Int→Bool
 |b,[]=>b
 |b,c::r=>if kg c=true then oL true r else if c=46 then(if b=true then oL false r else false)else false
def qo:Nat→List Int→Int
 |0,_=>1
 |_+1,[]=>1
 |n+1,c::r=>if c=37∧(2≤r.length∧dr (a6 r 0)=true∧dr (a6 r 1)=true)then qo n (r.drop 2)else if c=39 then 2 else if kg c=true∨rk c=true then qo n r else 0
def lU(l:List Int):Int:=qo (l.length+1) l
theorem Ur:∀(n m:Nat) (s:List Int),s.length<n→s.length<m→qo n s=qo m s:=by
 intro n
 induction n with
 |zero=>intro m s h;omega
 |succ n bb=>
  intro m s h0 h1;obtain⟨m,rfl⟩:∃k,m=k+1:=⟨m-1,(by omega)⟩;cases s with
  |nil=>rfl
  |cons c r=>
   simp only[List.length_cons]at h0 h1;simp only[qo];rw[bb m (r.drop 2) Fp Fp,bb m r (by omega) (by omega)]
def lV(s:List Int):Int:=
 if oL false (s.drop (hO s s.length))=true then
  (if hO s s.length=0 then 1 else if s.take (hO s s.length-1)=[]∨a6 (s.take (hO s s.length-1)) 0=47 then 0 else lU (s.take (hO s s.length-1)))
 else 0
def vv(told:Int)(b:Bool)(l:List Int):Int:=if told=1 then(if oL b l=true then 1 else 0)else told
section
variable (B:List Int) (q:Int) (hd:fC)
theorem yK(s:List Int)(i:Nat):rd s (i:Int)=a6 s i:=by unfold rd a6;rw[Int.toNat_natCast]
theorem ab8(P:List Int)(lW:P.length≤100000):∀(n i:Nat) (told:Int),i≤P.length+10→P.length-i≤n→∀k,3*n+40≤k→cz.gA k P (i:Int) B q told hd=some (q,if told=1 then lU (P.drop i)else told):=by
 have aaD:∀(i:Nat) (told:Int) (k:Nat),P.length≤i→cz.gA (k+1) P (i:Int) B q told hd=some (q,if told=1 then lU (P.drop i)else told):=by
  intro i told k hi;rw[cz.gA,if_neg (by omega),List.drop_eq_nil_of_le hi];have:lU []=1:=rfl;rw[this];split<;>simp_all
 intro n
 induction n with
 |zero=>
  intro i told hi aq k ad;exact Ry
 |succ n bb=>
  intro i told hi aq k ad;by_cases fo:i<P.length
  ·obtain⟨m,rfl⟩:∃m,k=((m+14)+1)+1:=⟨k-16,(by omega)⟩;have w0:wrap64 ((i:Int)+1)=((i+1:Nat):Int):=by unfold wrap64;omega
   have w1:wrap64 ((i:Int)+2)=((i+2:Nat):Int):=by unfold wrap64;omega
   have bf:wrap64 (((i+2:Nat):Int)+1)=((i+3:Nat):Int):=by unfold wrap64;omega
   have np:=gz P i fo;have aD:=yK P;generalize ai:rd P (i:Int)=c at np
   have ab9:lU (P.drop i)=if c=37∧(2≤(P.drop (i+1)).length∧dr (a6 (P.drop (i+1)) 0)=true∧dr (a6 (P.drop (i+1)) 1)=true)then lU (P.drop (i+3))else if c=39 then 2 else if kg c=true∨rk c=true then lU (P.drop (i+1))else 0:=by
    unfold lU;rw[np,List.length_cons,qo,List.drop_drop,show i+1+2=i+3 from rfl];rw[Ur ((P.drop (i+1)).length+1) ((P.drop (i+3)).length+1) (P.drop (i+3)) (by rw[List.length_drop,List.length_drop];omega) (by omega)]
   have iO:∀b:Bool,cz.iO (m+14+1) P (i:Int) c b B q told hd=some (q,if told=1 then(if b=true then lU (P.drop (i+3))else if c=39 then 2 else if kg c=true∨rk c=true then lU (P.drop (i+1))else 0)else told):=by
    intro b;rw[cz.iO];cases b
    ·rw[if_neg Bool.false_ne_true,if_neg Bool.false_ne_true,w0];by_cases ck:c=39
     ·rw[if_pos ck,if_pos ck];have an:nJ.f B q told hd=some (q,if told=1 then 2 else told):=by unfold nJ.f;split<;>rfl
      exact RR
     ·rw[if_neg ck,if_neg ck,T1,Option.bind_some];by_cases cR:kg c=true
      ·rw[if_pos cR,if_pos (show kg c=true∨rk c=true from .inl cR)];exact bb (i+1) told (by omega) (by omega) (m+14) (by omega)
      ·rw[if_neg cR,ab7,Option.bind_some];by_cases eh:rk c=true
       ·rw[if_pos eh,if_pos (show kg c=true∨rk c=true from .inr eh)];exact bb (i+1) told (by omega) (by omega) (m+14) (by omega)
       ·rw[if_neg eh,if_neg (show¬(kg c=true∨rk c=true)from fun h=>h.elim cR eh)];have an:k4.f B q told hd=some (q,if told=1 then 0 else told):=by unfold k4.f;split<;>rfl
        exact RR
    ·rw[if_pos rfl,if_pos rfl,w1,bf];exact bb (i+3) told (by omega) (by omega) (m+14) (by omega)
   rw[ab9];rw[cz.gA,if_pos (by omega),if_pos (by omega),ai,w0,w1];have p0:a6 (P.drop (i+1)) 0=rd P ((i+1:Nat):Int):=by rw[ta]
   have ba:a6 (P.drop (i+1)) 1=rd P ((i+2:Nat):Int):=by rw[ta]
   have hle:(2≤(P.drop (i+1)).length)↔(i+2<P.length):=by rw[List.length_drop];omega
   by_cases ck:c=37
   ·rw[if_pos ck];by_cases h0:i+2<P.length
    ·rw[if_pos (show((i+2:Nat):Int)<(P.length:Int)by omega),if_pos (show(0:Int)≤((i+1:Nat):Int)by omega),if_pos (show((i+1:Nat):Int)<(P.length:Int)by omega)];rw[show fQ.f (m+14+1) (rd P ((i+1:Nat):Int))=some (ih (rd P ((i+1:Nat):Int)))from Hb (m+13) _,Option.bind_some];by_cases al:dr (rd P ((i+1:Nat):Int))=true
     ·have:=AN al;rw[if_pos (show ih (rd P ((i+1:Nat):Int))≥0 from this),if_pos (show(0:Int)≤((i+2:Nat):Int)by omega)];rw[show fQ.f (m+14+1) (rd P ((i+2:Nat):Int))=some (ih (rd P ((i+2:Nat):Int)))from Hb (m+13) _,Option.bind_some,iO];by_cases eg:dr (rd P ((i+2:Nat):Int))=true
      ·have:=AN eg;rw[if_pos (show decide (ih (rd P ((i+2:Nat):Int))≥0)=true from decide_eq_true this),if_pos (show c=37∧_ from⟨ck,hle.mpr h0,(by rw[p0];exact al),(by rw[ba];exact eg)⟩)]
      ·have:=AO (show dr (rd P ((i+2:Nat):Int))=false by simpa using eg);rw[if_neg (show¬decide (ih (rd P ((i+2:Nat):Int))≥0)=true by simp only[decide_eq_true_eq];omega),if_neg (show¬(c=37∧_)from fun h=>eg (by rw[←ba];exact h.2.2.2))]
     ·have:=AO (show dr (rd P ((i+1:Nat):Int))=false by simpa using al);rw[if_neg (show¬ih (rd P ((i+1:Nat):Int))≥0 by omega),iO,if_neg Bool.false_ne_true,if_neg (show¬(c=37∧_)from fun h=>al (by rw[←p0];exact h.2.2.1))]
    ·rw[if_neg (show¬((i+2:Nat):Int)<(P.length:Int)by omega),iO,if_neg Bool.false_ne_true,if_neg (show¬(c=37∧_)from fun h=>h0 (hle.mp h.2.1))]
   ·rw[if_neg ck,iO,if_neg Bool.false_ne_true,if_neg (show¬(c=37∧_)from fun h=>ck h.1)]
  ·exact Ry
theorem LM(s:List Int)(a:Int)(xs:List Int)(ae:xs.length≤100000)(R:Option (Int×Int))(K:Nat)(Us:Int)(ew:∀k yA,K≤k→yA=Us→cz.gZ k s a B q yA hd=R):
 ∀(d i:Nat) (told n:Int),i+d=xs.length→0≤n→n≤i→vv told (decide (0<n)) (xs.drop i)=Us→∀k,K+d+1≤k→cz.cC k s a n xs (xs.length:Int) (i:Int) B q told hd=R:=by
 have yL:∀told:Int,k4.f B q told hd=some (q,if told=1 then 0 else told):=fun told=>by unfold k4.f;split<;>rfl
 intro d
 induction d with
 |zero=>
  intro i told n hi h0 aq aU k ad;obtain⟨m,rfl⟩:∃m,k=m+1:=⟨k-1,(by omega)⟩;rw[List.drop_eq_nil_of_le (by omega)]at aU;rw[cz.cC,if_neg (by omega)];by_cases aG:n=0
  ·rw[if_pos aG,yL,Option.bind_some];refine ew m _ (by omega) ?_;rw[←aU,aG];unfold vv;rfl
  ·rw[if_neg aG];refine ew m _ (by omega) ?_;rw[←aU];unfold vv;rw[show decide (0<n)=true from decide_eq_true (by omega)];simp only[oL,if_true];split
   ·assumption
   ·rfl
 |succ d bb=>
  intro i told n hi h0 aq aU k ad;obtain⟨m,rfl⟩:∃m,k=m+1:=⟨k-1,(by omega)⟩;rw[gz xs i (by omega)]at aU;rw[cz.cC,if_pos (by omega),if_pos (by omega),if_pos (by omega),T1,Option.bind_some];generalize rd xs (i:Int)=c at aU⊢;have w0:wrap64 ((i:Int)+1)=((i+1:Nat):Int):=by unfold wrap64;omega
  rw[w0];by_cases cR:kg c=true
  ·rw[if_pos cR,show wrap64 (n+1)=n+1 by unfold wrap64;omega];refine bb (i+1) told (n+1) (by omega) (by omega) (by omega) ?_ m (by omega);rw[←aU];unfold vv;simp only[oL,cR,if_true];rw[show decide (0<n+1)=true from decide_eq_true (by omega)]
  ·rw[if_neg cR];by_cases ck:c=46
   ·rw[if_pos ck];by_cases hp:n>0
    ·rw[if_pos hp];refine bb (i+1) told 0 (by omega) (by omega) (by omega) ?_ m (by omega);rw[←aU];unfold vv;rw[show decide (0<n)=true from decide_eq_true hp];simp only[oL,cR,ck,if_true];rfl
    ·rw[if_neg hp,yL,Option.bind_some];refine bb (i+1) _ n (by omega) (by omega) (by omega) ?_ m (by omega);rw[←aU];unfold vv;rw[show decide (0<n)=false from decide_eq_false hp];simp only[oL,ck,if_true];by_cases t1:told=1
     ·simp[t1,show kg 46=false from by decide]
     ·simp[t1]
   ·rw[if_neg ck,yL,Option.bind_some];refine bb (i+1) _ n (by omega) (by omega) (by omega) ?_ m (by omega);rw[←aU];unfold vv;simp only[oL,cR,ck,if_false];exact J5
theorem aca(s:List Int)(ak:s.length≤100000):∀k,5*s.length+100≤k→cz.f k B q 1 hd s=some (q,lV s):=by
 have yL:∀told:Int,k4.f B q told hd=some (q,if told=1 then 0 else told):=fun told=>by unfold k4.f;split<;>rfl
 have ea:=Hd s s.length;generalize rj:hO s s.length=a at ea
 have iI:∀(k:Nat) (P:List Int) (told:Int),P.length≤100000→3*P.length+41≤k→cz.iI k P B q told hd=some (q,if told=1 then lU P else told):=by
  intro k P told lW ad;obtain⟨m,rfl⟩:∃m,k=m+1:=⟨k-1,(by omega)⟩;rw[cz.iI];have:=ab8 B q hd P lW P.length 0 told (by omega) (by omega) m (by omega);rw[List.drop_zero]at this;exact this
 have de:∀(k:Nat) (P:List Int) (told:Int) (b:Bool),P.length≤100000→3*P.length+42≤k→cz.de k P b B q told hd=some (q,if told=1 then(if b=true then 0 else lU P)else told):=by
  intro k P told b lW ad;obtain⟨m,rfl⟩:∃m,k=m+1:=⟨k-1,(by omega)⟩;rw[cz.de];cases b
  ·rw[if_neg Bool.false_ne_true,if_neg Bool.false_ne_true,iI m P told lW (by omega)]
  ·rw[if_pos rfl,if_pos rfl,yL,Option.bind_some];simp only;rw[iI m P _ lW (by omega)];exact J5
 have gZ:∀(k:Nat) (told:Int),3*s.length+43≤k→cz.gZ k s (a:Int) B q told hd=some (q,if told=1 then(if a=0 then 1 else if s.take (a-1)=[]∨a6 (s.take (a-1)) 0=47 then 0 else lU (s.take (a-1)))else told):=by
  intro k told ad;obtain⟨m,rfl⟩:∃m,k=m+1:=⟨k-1,(by omega)⟩;rw[cz.gZ];by_cases aG:a=0
  ·rw[if_pos (by omega),if_pos aG];split<;>simp_all
  ·have hw:wrap64 ((a:Int)-1)=((a-1:Nat):Int):=by unfold wrap64;omega
   rw[if_neg (by omega),hw,if_pos (by omega),if_pos (by omega),if_neg aG,Int.toNat_natCast];have an:(s.take (a-1)).length=a-1:=by rw[List.length_take];omega
   generalize hPd:s.take (a-1)=P at an;by_cases hP0:P.length=0
   ·have LN:P=[]:=List.eq_nil_of_length_eq_zero hP0;rw[if_pos (by omega),de m P told true (by omega) (by omega),if_pos rfl,if_pos (show P=[]∨a6 P 0=47 from .inl LN)]
   ·have LN:¬P=[]:=fun h=>hP0 (by rw[h];rfl);rw[if_neg (by omega),if_pos (by omega),de m P told _ (by omega) (by omega)];have hz:rd P 0=a6 P 0:=rfl;rw[hz];by_cases h0:a6 P 0=47
    ·rw[show(a6 P 0==47)=true from beq_iff_eq.mpr h0,if_pos rfl,if_pos (show P=[]∨a6 P 0=47 from .inr h0)]
    ·rw[show(a6 P 0==47)=false from beq_eq_false_iff_ne.mpr h0,if_neg Bool.false_ne_true,if_neg (show¬(P=[]∨a6 P 0=47)from fun h=>h.elim LN h0)]
 have cD:∀k,4*s.length+50≤k→cz.cD k s (a:Int) B q 1 hd=some (q,lV s):=by
  intro k ad;obtain⟨m,rfl⟩:∃m,k=m+1:=⟨k-1,(by omega)⟩;rw[cz.cD,if_pos (by omega),if_pos (by omega),Int.toNat_natCast];have an:(s.drop a).length=s.length-a:=List.length_drop
  have:=LM B q hd s (a:Int) (s.drop a) (by omega) (some (q,lV s)) (3*s.length+43) (vv 1 false (s.drop a)) (fun k yA ad aU=>by
   rw[gZ k yA ad,aU];unfold lV vv;rw[rj,if_pos rfl];by_cases bC:oL false (s.drop a)=true
   ·simp only[bC,if_true]
   ·simp only[bC];rfl) (s.drop a).length 0 1 0 (by omega) (by omega) (by omega) (by rw[List.drop_zero];rfl) m (by omega)
  exact this
 intro k ad;unfold cz.f
 have aj:∀(i:Nat),i≤s.length→hO s i=a→∀k,4*s.length+50+i+1≤k→cz.aj k s (i:Int) B q 1 hd=some (q,lV s):=by
  intro i
  induction i with
  |zero=>
   intro hi bs k ad;obtain⟨m,rfl⟩:∃m,k=m+1:=⟨k-1,(by omega)⟩;rw[cz.aj,if_neg (by omega)];have:a=0:=bs.symm;rw[show((0:Nat):Int)=(a:Int)by rw[this]];exact cD m (by omega)
  |succ i bb=>
   intro hi bs k ad;obtain⟨m,rfl⟩:∃m,k=m+1:=⟨k-1,(by omega)⟩;have hw:wrap64 (((i+1:Nat):Int)-1)=(i:Int):=by unfold wrap64;omega
   rw[cz.aj,if_pos (by omega),hw,if_pos (by omega),if_pos (by omega)];simp only[hO]at bs;by_cases h0:rd s (i:Int)=47
   ·rw[if_pos h0]at bs⊢;rw[bs];exact cD m (by omega)
   ·rw[if_neg h0]at bs⊢;exact bb (by omega) bs m (by omega)
 exact aj s.length (Nat.le_refl _) rj k (by omega)
end
end mG
namespace cP
open RowKit YtmpeadgiclfapaaGreatDoorW.PrintWords YtmpeadgiclfapaaGreatDoorW.PrintLast YtmpeadgiclfapaaGreatDoorW.PrintMore ei
theorem acb(s:ByteArray)(W:World)(nO:Calls Tryz.prog 91 #[.string s] W fun e w'=>∃r:ByteArray,e=.returned (.string r)∧Below W.heap.size W w'):
 Calls Tryz.prog 73 #[.string s] W fun e w'=>∃z:Int,e=.returned (.int .i64 z)∧Below W.heap.size W w':=by
 have av:=I nO;clear nO;go_enter Tryz.func73,Tryz.ntmps73
 go_wp2_with(first|(go_at_call 91;refine av.1.mono ?_;rintro aD w0 ⟨r,rfl,U⟩;have a7:=I U;clear U))
 all_goals(
  go_ret;exact⟨_,rfl,a7.1⟩)
end cP
