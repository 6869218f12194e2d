/- Part 18 of the proof (Ts3, Ts4, Tg0, Tg1). Conditions: each theorem's own. -/
import Derived.Test.YtmpeadgiclfapaaGreatDoorZ15
import Derived.Test.YtmpeadgiclfapaaGreatDoorZ19
set_option linter.all false
set_option maxHeartbeats 0
set_option maxRecDepth 100000
namespace Go.Proofs.YtmpeadgiclfapaaGreatDoor
namespace eC
open RowKit YtmpeadgiclfapaaGreatDoorW.PrintWords YtmpeadgiclfapaaGreatDoorW.PrintLast YtmpeadgiclfapaaGreatDoorW.PrintMore ei cP gJ eI
open Classical in
noncomputable def k6:Nat→List Int→jh (List Int)
 |0,_=> .op
 |_+1,[]=> .op
 |n+1,c::r=>match gB c false r with
  |none=> .no
  |some (o,r1)=>if o=true∨¬iQ ((c::r).take (r.length+1-r1.length))then .op else if fF r1=true then .op else if jP (bc false r1)=true then .op else if a8 (bc false r1) 34=true∨a8 (bc false r1) 39=true then k6 n (bc false r1)else .yes r1
noncomputable def hB (s:List Int):jh (List Int):=k6 (s.length+1) s
def fY(s:List Int):Bool:=a8 s 34||a8 s 39
theorem adw:∀(n m:Nat) (s:List Int),s.length<n→s.length<m→k6 n s=k6 m s:=by
 intro n
 induction n with
 |zero=>intro m s h;omega
 |succ n bb=>
  intro m s h0 h1;obtain⟨m,rfl⟩:∃k,m=k+1:=⟨m-1,(by omega)⟩;cases s with
  |nil=>rfl
  |cons c r=>
   simp only[List.length_cons]at h0 h1;simp only[k6];cases ak:gB c false r with
   |none=>rfl
   |some x=>
    obtain⟨o,gd⟩:=x;have an:=UO c _ _ _ _ _ ak;have ad:=kC gd false;simp only;rw[bb m (bc false gd) (by omega) (by omega)]
theorem w8{q:Int}{op o:Bool}{s r:List Int}(h:gB q op s=some (o,r)):r.length<s.length:=UO q _ _ _ _ _ h
theorem US(q:Int):∀(n:Nat) (op:Bool) (s:List Int) (o:Bool) (r:List Int),mf n q op s=some (o,r)→∃m,r=s.drop m:=by
 intro n
 induction n with
 |zero=>intro op s o r h;cases h
 |succ n bb=>
  intro op s o r h;cases s with
  |nil=>cases h
  |cons c t=>
   have up:(∃m,r=t.drop m)→∃m,r=(c::t).drop m:=fun⟨m,hm⟩=>⟨m+1,hm⟩;refine up ?_;simp only[mf]at h;split at h
   ·exact F1
   ·split at h
    ·cases h
    ·split at h
     ·cases he:hP t with
      |none=>rw[he]at h;cases h
      |some x=>
       obtain⟨o',bH⟩:=x;rw[he]at h;obtain⟨m0,h0⟩:=UK t o' bH he;obtain⟨m1,h1⟩:=bb _ _ _ _ h;exact⟨m0+m1,(by rw[h1,h0,List.drop_drop])⟩
     ·exact bb _ _ _ _ h
theorem aau{B:List Int}{p q:Nat}{hZ:Int}(h:uC B p q hZ):hZ=0∨hZ=1∨hZ=2:=by
 cases h with
 |no h=>exact .inl rfl
 |yes o r h q ar told aU=>rcases aU with h|h<;>omega
def L3(B:List Int)(p0 p e:Nat)(t:Int):Prop:=
 (t=1∧fY (B.drop p)=true∧hB (B.drop p)=hB (B.drop p0))∨(t=1∧fY (B.drop p)=false∧hB (B.drop p0)=.yes (B.drop e)∧e≤B.length)∨(t=0∧hB (B.drop p0)=.no)∨t=2
theorem Hj{t:Int}{s:List Int}(h:t≠1):hD t s=t:=by unfold hD;rw[if_neg (fun h2=>h h2.2)]
theorem aav{B:List Int}{p q:Nat}{hZ:Int}(au:uC B p q hZ)(t2:Int)(aU:t2=(if fF (B.drop q)=true then(if hZ=1 then 2 else hZ)else hZ)){k:Nat}(ad:B.length+1-p≤k∧p<B.length)(ar:q≤B.length):
 (if hD t2 (bc false (B.drop q))=1 then B.length+1-(B.length-(bc false (B.drop q)).length)else 0)<k:=by
 have ak:=kC (B.drop q) false;rw[List.length_drop]at ak;split
 ·rename_i h
  have h0:hZ=1:=by
   by_cases e:hZ=1
   ·exact e
   ·exfalso;have:t2≠1:=by rw[aU];split<;>(try rw[if_neg e])<;>exact e
    rw[Hj this]at h;exact this h
  have Ds:p<q:=by
   cases au with
   |no h=>omega
   |yes o r h q ar told aU=>
    have:=w8 h;rw[List.length_drop]at this;omega
  omega
 ·omega
theorem aaw{B:List Int}{p0 p q:Nat}{hZ:Int}(ar:fY (B.drop p)=true)(dA:hB (B.drop p)=hB (B.drop p0))(hp:p<B.length)(au:uC B p q hZ)(adx:q≤B.length)(t2:Int)(aU:t2=(if fF (B.drop q)=true then(if hZ=1 then 2 else hZ)else hZ)):
 L3 B p0 (B.length-(bc false (B.drop q)).length) q (hD t2 (bc false (B.drop q))):=by
 have AM:=gz B p hp;unfold hB at dA;cases au with
 |no h=>
  have e:t2=0:=by rw[aU];split<;>rfl
  refine .inr (.inr (.inl ⟨(by rw[e];exact Hj (by decide)),?_⟩));unfold hB;rw[←dA,AM,List.length_cons,k6,h]
 |yes o r h q qU told L4=>
  rcases L4 with h2|⟨h2,aY,hu⟩
  ·have e:t2=2:=by rw[aU,h2];split<;>rfl
   exact .inr (.inr (.inr (by rw[e];exact Hj (by decide))))
  ·rw[h2,if_pos rfl]at aU;have an:=w8 h;rw[List.length_drop]at an
   have np:B.drop q=r:=by
    obtain⟨m,hm⟩:=US _ _ _ _ _ _ h;rw[qU];exact yV B (p+1+m) r (by rw[hm,List.drop_drop])
   cases aw:fF (B.drop q)
   ·rw[aw,if_neg Bool.false_ne_true]at aU;cases aZ:jP (bc false (B.drop q))
    ·have e:hD t2 (bc false (B.drop q))=1:=by rw[aU];unfold hD;rw[if_neg (fun h=>by rw[aZ]at h;cases h.1)]
     have vw:B.drop (B.length-(bc false (B.drop q)).length)=bc false (B.drop q):=by
      obtain⟨m,_,hm⟩:=pL (B.drop q) false;exact yV B (q+m) _ (by rw[hm,List.drop_drop])
     have kS:iQ ((rd B (p:Int)::B.drop (p+1)).take ((B.drop (p+1)).length+1-r.length)):=by
      rw[←AM]
      have aD:(B.drop p).take ((B.drop (p+1)).length+1-r.length)=(B.take q).drop p:=by
       rw[List.drop_take];congr 1;rw[List.length_drop];omega
      rw[aD];exact hu
     have step:hB (B.drop p0)=if a8 (bc false r) 34=true∨a8 (bc false r) 39=true then k6 ((B.drop (p+1)).length+1) (bc false r)else .yes r:=by
      unfold hB;rw[←dA,AM,List.length_cons,k6,h];simp only;rw[if_neg (show¬(o=true∨¬iQ _)from fun h=>by rcases h with h|h;rw[aY]at h;cases h;exact h kS),←np,if_neg (by rw[aw];decide),if_neg (by rw[aZ];decide)]
     have rl:=kC r false;rw[e];rw[←np]at step rl;by_cases iR:a8 (bc false (B.drop q)) 34=true∨a8 (bc false (B.drop q)) 39=true
     ·refine .inl ⟨rfl,?_,?_⟩
      ·rw[vw];unfold fY;rw[Bool.or_eq_true];exact iR
      ·rw[step,if_pos iR,vw];unfold hB;refine adw _ _ _ (by omega) ?_;have h0:=List.length_drop (l:=B) (i:=p+1);have h1:=List.length_drop (l:=B) (i:=q);omega
     ·refine .inr (.inl ⟨rfl,?_,?_,adx⟩)
      ·rw[vw];unfold fY;rw[Bool.eq_false_iff];intro h;rw[Bool.or_eq_true]at h;exact iR h
      ·rw[step,if_neg iR]
    ·have e:hD t2 (bc false (B.drop q))=2:=by rw[aU];unfold hD;rw[if_pos ⟨aZ,rfl⟩]
     exact .inr (.inr (.inr e))
   ·rw[aw,if_pos rfl]at aU;exact .inr (.inr (.inr (by rw[aU];exact Hj (by decide))))
theorem aas{w0 w:World}{g:Nat}{B:List Int}{p0:Nat}{l:List cx}(h:cu w0 w g B p0 1 l)(hp:p0<B.length)(iz:fY (B.drop p0)=true)(bG:∀x∈B,0≤x∧x<256):
 Calls Tryz.prog 53 #[.pointer (some ⟨g,0,none⟩)] w fun e w'=>∃(p q:Nat) (t:Int),e=.returned (.int .i64 (q:Int))∧cu w0 w' g B p t l∧L3 B p0 p q t∧(t=1→fY (B.drop p)=false):=by
 have cT:=I h;have gP:=I hp;have lJ:=I iz;have dS:=I h.sz;have fq:=I bG
 obtain⟨ao,c0,bd,ck,aT,bh,bA,y3,z0,cp,z2,bP⟩:=h.fL;clear h hp bG iz;go_enter Tryz.func53,Tryz.ntmps53
 go_wp2_with fail
 go_loopg [3] (B.length+1-p0) (fun k v0 w'=>∃(p q:Nat) (t:Int),v0=.int .i64 (q:Int)∧aN (k=if t=1 then B.length+1-p else 0)∧aN (L3 B p0 p q t)∧aN (cu w0 w' g B p t l))
 case atStart=>exact⟨p0,p0,1,rfl,⟨(by rw[if_pos rfl])⟩,⟨.inl ⟨rfl,lJ.1,rfl⟩⟩,⟨PD⟩⟩
 case round=>
  clear aT bh bA y3 z0 cp z2;obtain⟨p,UT,t,rfl,aV,dx,dG⟩:=hrel;by_cases aU:t=1
  ·subst aU;cases ar:fY (B.drop p)
   ·have a7:=I ar;have az:a8 (B.drop p) 34=false:=by unfold fY at ar;rw[Bool.or_eq_false_iff]at ar;exact ar.1
    have ee:a8 (B.drop p) 39=false:=by unfold fY at ar;rw[Bool.or_eq_false_iff]at ar;exact ar.2
    have aC:=I az;have bM:=I ee;clear az ee ar
    go_wp2_with(first|(go_at_call 14;refine(na rS).mono ?_;rintro aD w1 ⟨rfl,aW⟩;have df:=I aW;clear aW)|(go_at_call 24;first|(have eY:=gS.1;clear eY;refine(nk gS.1 39).mono ?_;rintro bx bf ⟨rfl,cv⟩;rw[bM.1];have rh:=I cv;clear cv)|(refine(nk df.1 34).mono ?_;rintro db w3 ⟨rfl,eK⟩;rw[aC.1];have gS:=I eK;clear eK)))
    go_ret;exact⟨p,UT,1,rfl,rh.1,dx.1,fun _=>a7.1⟩
   ·have fz:=I ar
    have tL:=I (show p<B.length by
     by_cases e:p<B.length
     ·exact e
     ·exfalso;rw[List.drop_eq_nil_of_le (by omega)]at ar;cases ar)
    have lg:=I (show hB (B.drop p)=hB (B.drop p0)by
     rcases dx.1 with h|h|h|h
     ·exact h.2.2
     ·rw[fz.1]at h;cases h.2.1
     ·cases h.1
     ·cases h)
    have kX:a8 (B.drop p) 34=true∨(a8 (B.drop p) 34=false∧a8 (B.drop p) 39=true):=by
     unfold fY at ar;cases h:a8 (B.drop p) 34
     ·rw[h,Bool.false_or]at ar;exact .inr ⟨rfl,ar⟩
     ·exact .inl rfl
    clear ar;rcases kX with h34|⟨h34,h39⟩
    ·have aC:=I h34;clear h34
     go_upto_if 26 with(first|(go_at_call 14;refine(na rS).mono ?_;rintro aD w1 ⟨rfl,aW⟩;have df:=I aW;clear aW)|(go_at_call 24;refine(nk df.1 34).mono ?_;rintro db w3 ⟨rfl,eK⟩;rw[aC.1];have gS:=I eK;clear eK)|(go_at_call 72;refine(UQ gS.1 tL.1 fq.1).mono ?_;rintro fO rY bs;obtain⟨v1,hZ,q,rfl,jQ,ff⟩:=bs;have JQ:=I jQ;have cK:=I ff;clear jQ ff))
     exact Q6
    ·have aC:=I h34;have bM:=I h39;clear h34 h39
     go_upto_if 26 with(first|(go_at_call 14;refine(na rS).mono ?_;rintro aD w1 ⟨rfl,aW⟩;have df:=I aW;clear aW)|(go_at_call 24;first|(have eY:=gS.1;clear eY;refine(nk gS.1 39).mono ?_;rintro bx bf ⟨rfl,cv⟩;rw[bM.1];have rh:=I cv;clear cv)|(refine(nk df.1 34).mono ?_;rintro db w3 ⟨rfl,eK⟩;rw[aC.1];have gS:=I eK;clear eK))|(go_at_call 72;refine(UQ rh.1 tL.1 fq.1).mono ?_;rintro fO rY bs;obtain⟨v1,hZ,q,rfl,jQ,ff⟩:=bs;have JQ:=I jQ;have cK:=I ff;clear jQ ff))
     exact Q6
  ·have bB:(t==1)=false:=beq_eq_false_iff_ne.mpr aU;have et:=I aU;clear aU
   go_wp2_with(first|(go_at_call 14;refine(na rS).mono ?_;rintro aD w1 ⟨rfl,aW⟩;have df:=I aW;clear aW))
   go_ret;exact⟨p,UT,t,rfl,df.1,dx.1,fun h=>absurd h et.1⟩
def xO(s:List Int):jh Nat:=if fF (s.drop (1+eU (s.drop 1)))=true then .op else .yes (1+eU (s.drop 1))
def kG(s:List Int):List Int:=if a8 s 45=true then bc false (s.drop 1)else s
def Dt(n:Nat)(t:Int):jh Nat:=if t=0 then .no else if t=1 then .yes n else .op
def qu(s:List Int):jh Nat:=
 if a8 s 45=true∧jP (bc false (s.drop 1))=true then .op
 else Dt (s.length-(kG s).length+me (kG s)) (qR (si ((kG s).take (me (kG s)))) (fF ((kG s).drop (me (kG s)))))
noncomputable def ga:List Int→jh Nat
 |[]=> .op
 |c::r=>if c=34∨c=39 then(match hB (c::r)with
  | .yes r1=> .yes ((c::r).length-r1.length)
  | .no=> .no
  | .op=> .op)
  else if fR c=true∨(c=45∧fR (a6 (c::r) 1)=true)then xO (c::r)
  else if cN c=true∨c=45∨c=46 then qu (c::r)
  else .no
theorem ady(B:List Int)(p:Nat)(hp:p≤B.length):B.drop (qn B p)=kG (B.drop p)∧qn B p+(kG (B.drop p)).length=B.length:=by
 unfold qn kG;by_cases h:a8 (B.drop p) 45=true
 ·rw[if_pos h,if_pos h,List.drop_drop];obtain⟨m,h0,h1⟩:=pL (B.drop (p+1)) false;have h2:=kC (B.drop (p+1)) false;rw[List.length_drop]at h2;exact⟨yV B (p+1+m) _ (by rw[h1,List.drop_drop]),(by omega)⟩
 ·rw[if_neg h,if_neg h,List.length_drop];exact⟨rfl,(by omega)⟩
theorem aam{B:List Int}{p q:Nat}{t:Int}(h:AQ B p q t)(hp:p<B.length):(t=0∨t=1∨t=2)∧(t=1→qu (B.drop p)=.yes (q-p)∧p≤q)∧(t=0→qu (B.drop p)=.no):=by
 cases h with
 |jP hm aZ q=>exact⟨.inr (.inr rfl),fun h=>absurd h (by decide),fun h=>absurd h (by decide)⟩
 |go aZ q ar=>
  obtain⟨h0,h1⟩:=ady B p (by omega);have ev:=Um (kG (B.drop p))
  have sj:(kG (B.drop p)).length≤B.length-p:=by
   unfold kG;split
   ·have h2:=kC ((B.drop p).drop 1) false;rw[List.length_drop,List.length_drop]at h2;omega
   ·rw[List.length_drop];exact Nat.le_refl _
  have e:qu (B.drop p)=Dt (q-p) (qR (si ((B.drop (qn B p)).take (me (B.drop (qn B p))))) (fF (B.drop q))):=by
   unfold qu;rw[if_neg (fun h=>by rw[List.drop_drop]at h;have:=aZ h.1;rw[h.2]at this;cases this),h0,←h0,List.drop_drop,←ar,h0,List.length_drop];congr 1;rw[ar,h0];omega
  have iz:p≤q:=by rw[ar];omega
  rw[e];generalize si ((B.drop (qn B p)).take (me (B.drop (qn B p))))=F;generalize fF (B.drop q)=G
  have aU:qR F G=0∨qR F G=1∨qR F G=2:=by
   unfold qR;split
   ·exact .inl rfl
   ·split
    ·exact .inr (.inr rfl)
    ·split
     ·exact .inl rfl
     ·exact .inr (.inl rfl)
  exact⟨aU,fun h=>⟨(by rw[h];rfl),iz⟩,fun h=>by rw[h];rfl⟩
theorem L5:∀(n:Nat) (s r:List Int),k6 n s=.yes r→r.length<s.length:=by
 intro n
 induction n with
 |zero=>intro s r h;cases h
 |succ n bb=>
  intro s r h;cases s with
  |nil=>cases h
  |cons c t=>
   simp only[k6]at h;cases ak:gB c false t with
   |none=>rw[ak]at h;cases h
   |some x=>
    obtain⟨o,gd⟩:=x;rw[ak]at h;have an:=w8 ak;have ad:=kC gd false;simp only at h;simp only[List.length_cons];split at h
    ·cases h
    ·split at h
     ·cases h
     ·split at h
      ·cases h
      ·split at h
       ·have:=bb _ _ h;omega
       ·cases h;omega
theorem aat{B:List Int}{p e:Nat}(hp:p<B.length)(h:hB (B.drop p)=.yes (B.drop e))(he:e≤B.length):p≤e:=by
 have:=L5 _ _ _ h;exact CC
def L6(B:List Int)(p q:Nat)(t:Int):Prop:=(t=0∨t=1∨t=2)∧(t=1→ga (B.drop p)=.yes (q-p)∧p≤q)∧(t=0→ga (B.drop p)=.no)
def UU(w0:World)(g:Nat)(B:List Int)(p:Nat)(l:List cx)(e:Ending)(w':World):Prop:=
 e=.returned (.tuple #[])∧∃(q:Nat) (t:Int) (cU:List cx),cu w0 w' g B q t cU∧L6 B p q t∧(t=1→cU=l++[⟨3,0,p,false,sub B p q,⟨#[]⟩⟩])∧(t≠1→cU=l)
theorem adz(s:ByteArray)(W:World)(ak:s.size≤1000000):Calls Tryz.prog 73 #[.string s] W fun e w'=>∃z:Int,e=.returned (.int .i64 z)∧Below W.heap.size W w':=acb s W (ac6 s W ak)
theorem adA{w0 w:World}{g:Nat}{B:List Int}{p:Nat}{l:List cx}(h:cu w0 w g B p 1 l)(hp:p<B.length)(bG:∀x∈B,0≤x∧x<256)(an:l.length≤1000000):
 Calls Tryz.prog 42 #[.pointer (some ⟨g,0,none⟩)] w (UU w0 g B p l):=by
 have dG:=I h;have cr:=I hp;have fq:=I bG
 have ef:=I an;have Cm:=I adz;have cf:=I (gz B p hp);obtain⟨ao,c4,bd,ck,aT,bh,bA,y3,z0,cp,z2,bP⟩:=h.fL;obtain⟨dp,aD,al⟩:=ab.iV bP.out.1 (p:Int) (by omega) (by omega);cases aD;refine GU ?_;clear al;intro al;refine GG ?_;intro p0 ba;obtain⟨c,ai⟩:∃c,c=rd B (p:Int):=⟨_,rfl⟩;rw[←ai]at al;have fZ:=I ai;clear h hp bG an ai;go_enter Tryz.func42,Tryz.ntmps42
 go_upto_block 0 with fail
 repeat(go_quiet(fail);try go_upto_block 0 with fail)
 go_cut [] (fun wc=>∃(q:Nat) (t:Int),aN (L6 B p q t)∧aN (cu w0 wc g B q t l))
 case first=>
  clear aT bh bA y3 z0 cp z2 al p0 ba bP;by_cases h0:c=34
  ·have ct:=I h0;have bt:(c==34)=true:=beq_iff_eq.mpr (by omega);clear h0;exact Q3
  by_cases h1:c=39
  ·have ct:=I h1;have bt:(c==34)=false:=beq_eq_false_iff_ne.mpr (by omega);have di:(c==39)=true:=beq_iff_eq.mpr (by omega);clear h0 h1;exact Q3
  cases an:fR c
  ·by_cases h3:c=45
   ·cases hlp:fR (a6 (B.drop p) 1)
    ·have fh:=I an;have FC:=I hlp;have eZ:=I (show cN c=false by rw[h3];decide);refine C2 ?_;intro nm bt di;have eS:(c==45)=true:=beq_iff_eq.mpr (by omega);have kt:=I (show ga (B.drop p)=qu (B.drop p)by rw[cf.1,←fZ.1];simp only[ga];rw[if_neg nm];rw[if_neg (fun h=>by rcases h with h|h;rw[an]at h;cases h;rw[cf.1,←fZ.1]at hlp;rw[hlp]at h;cases h.2),if_pos (.inr (.inl h3))]);clear nm an hlp h3;exact JB
    ·have fh:=I an;have FC:=I hlp;refine C2 ?_;intro nm bt di;have eS:(c==45)=true:=beq_iff_eq.mpr (by omega);have kt:=I (show ga (B.drop p)=xO (B.drop p)by rw[cf.1,←fZ.1];simp only[ga];rw[if_neg nm];rw[if_pos (.inr ⟨h3,(by rw[←hlp,cf.1,←fZ.1])⟩)]);clear nm an hlp h3;exact Qr
   ·cases iD:cN c
    ·by_cases h4:c=46
     ·have fh:=I an;have eZ:=I iD;refine C2 ?_;intro nm bt di;have eS:(c==45)=false:=beq_eq_false_iff_ne.mpr (by omega);have hM:(c==46)=true:=beq_iff_eq.mpr (by omega);have kt:=I (show ga (B.drop p)=qu (B.drop p)by rw[cf.1,←fZ.1];simp only[ga];rw[if_neg nm];rw[if_neg (fun h=>by rcases h with h|h;rw[an]at h;cases h;omega),if_pos (.inr (.inr h4))]);clear nm an iD h4;exact JB
     ·have fh:=I an;have eZ:=I iD;refine C2 ?_;intro nm bt di;have eS:(c==45)=false:=beq_eq_false_iff_ne.mpr (by omega);have hM:(c==46)=false:=beq_eq_false_iff_ne.mpr (by omega);have kt:=I (show ga (B.drop p)=.no by rw[cf.1,←fZ.1];simp only[ga];rw[if_neg nm];rw[if_neg (fun h=>by rcases h with h|h;rw[an]at h;cases h;omega),if_neg (fun h=>by rcases h with h|h;rw[iD]at h;cases h;omega)]);clear nm an iD h0 h1 h3 h4
      go_wp2_with(first|(go_at_call 37;first|(have Cl:=qL.1;clear Cl;refine(uX (a6 (B.drop p) 1) _).mono ?_;rintro fO w3 ⟨rfl,⟨iX,rfl⟩⟩;rw[FC.1])|(refine(uX c _).mono ?_;rintro gW rY ⟨rfl,⟨wj,rfl⟩⟩;rw[fh.1]))|(go_at_call 38;refine(JC I7).mono ?_;rintro aE kb ⟨rfl,wk⟩;have qL:=I wk;clear wk)|(go_at_call 39;refine(xN c _).mono ?_;rintro aD uY ⟨rfl,⟨Qq,rfl⟩⟩;rw[eZ.1])|(go_at_call 54;refine(JD uO cr.1 Cm.1).mono ?_;rintro bx w1 ⟨q,ar,rfl,told,aW,ff⟩;have cT:=I aW;have cK:=I ff;have lJ:=I ar;clear aW ff ar)|(go_at_call 55;refine(JE uO cr.1 fq.1).mono ?_;rintro bx w1 ⟨rfl,q,told,aW,ff⟩;have cT:=I aW;have cK:=I ff;clear aW ff)|(go_at_call 16;refine(p3 uO).mono ?_;rintro k3 uZ ⟨rfl,eK⟩;have gS:=I eK;clear eK))
      go_meet
      case rel=>exact⟨p,0,⟨.inl rfl,fun h=>absurd h (by decide),fun _=>kt.1⟩,⟨gS.1⟩⟩
    ·have fh:=I an;have eZ:=I iD;have tq:48≤c∧c≤57:=by simpa [cN]using iD
     refine C2 ?_;intro nm bt di;have eS:(c==45)=false:=beq_eq_false_iff_ne.mpr (by omega);have kt:=I (show ga (B.drop p)=qu (B.drop p)by rw[cf.1,←fZ.1];simp only[ga];rw[if_neg nm];rw[if_neg (fun h=>by rcases h with h|h;rw[an]at h;cases h;omega),if_pos (.inl iD)]);clear nm an iD tq;exact JB
  ·have fh:=I an;have nm:¬(c=34∨c=39):=by rintro(h|h)<;>(rw[h]at an;revert an;decide)
   have bt:(c==34)=false:=beq_eq_false_iff_ne.mpr (by omega);have di:(c==39)=false:=beq_eq_false_iff_ne.mpr (by omega);have kt:=I (show ga (B.drop p)=xO (B.drop p)by rw[cf.1,←fZ.1];simp only[ga];rw[if_neg nm];rw[if_pos (.inl an)]);clear nm an;exact Qr
 case rest=>
  clear aT bh bA y3 z0 cp z2 al p0 ba bP;obtain⟨q,t,yW,dG⟩:=hcut;by_cases aU:t=1
  ·subst aU;have adB:=I (yW.1.2.1 rfl).2
   go_wp2_with(first|(refine CK ?_;rintro db bf ⟨rfl,cv⟩;have df:=I cv;obtain⟨bF,kr,cZ,c12,aT,bh,bA,y3,z0,cp,z2,xT⟩:=cv.fL;clear cv)|(go_at_call 17;refine(T0 df.1 3 p adB.1 ef.1).mono ?_;rintro bx w1 ⟨rfl,aW⟩;have cT:=I aW;clear aW))
   go_end0
   exact⟨rfl,q,1,_,cT.1,yW.1,fun _=>rfl,fun h=>absurd rfl h⟩
  ·have bB:(t==1)=false:=beq_eq_false_iff_ne.mpr aU;have et:=I aU;clear aU
   go_wp2_with(first|(refine CK ?_;rintro db bf ⟨rfl,cv⟩;have df:=I cv;obtain⟨bF,kr,cZ,c12,aT,bh,bA,y3,z0,cp,z2,xT⟩:=cv.fL;clear cv))
   go_end0
   exact⟨rfl,q,t,l,df.1,yW.1,fun h=>absurd h et.1,fun _=>rfl⟩
end eC
namespace nt
open RowKit YtmpeadgiclfapaaGreatDoorW.PrintWords YtmpeadgiclfapaaGreatDoorW.PrintLast YtmpeadgiclfapaaGreatDoorW.PrintMore ei cP gJ eI eC mG
def Du(s:List Int):jh (Int×Nat×ByteArray):=
 if(a6 s 0=48∧1<bI s)∨fF (s.drop (bI s))=true then .op else if 2147483647<jx 0 s then .no else .yes (3,bI s,strOfNums (s.take (bI s)))
def fW:List Int→jh (Int×Nat×ByteArray)
 |[]=> .op
 |c::r=>if c=91 then(match pf r with
  | .yes (br,bH)=> .yes (2,r.length+1-bH.length,strOfNums br)
  | .no=> .no
  | .op=> .op)
  else if fR c=true then(if fF ((c::r).drop (eU (c::r)))=true then .op else .yes (1,eU (c::r),strOfNums ((c::r).take (eU (c::r)))))
  else if cN c=true then Du (c::r)
  else if c=45∨c=46∨c=43 then .op
  else .no
noncomputable def ca:Lex:=⟨fW,ga⟩
theorem sub_eq(B:List Int)(p n:Nat):cP.sub B p (p+n)=strOfNums ((B.drop p).take n):=by
 unfold cP.sub;rw[List.drop_take];congr 2;omega
theorem Hk(B:List Int)(p:Nat)(h:p≤B.length):eI.pos B (B.drop p)=p:=by
 unfold eI.pos;rw[List.length_drop];omega
def L7(B:List Int)(p:Nat)(kind:Int)(str:ByteArray)(q:Nat)(told:Int):Prop:=
 (told=0∨told=1∨told=2)∧(told=1→fW (B.drop p)=.yes (kind,q-p,str)∧p<q)∧(told=0→fW (B.drop p)=.no)
theorem adC{c:Int}(h:fR c=true):c≠91:=by rintro rfl;revert h;decide
theorem adD{w0 w:World}{g:Nat}{B:List Int}{p:Nat}{l:List cx}(h:cu w0 w g B p 1 l)(hp:p<B.length)(bG:∀x∈B,0≤x∧x<256)(aq:l.length≤1000000):
 Calls Tryz.prog 23 #[.pointer (some ⟨g,0,none⟩)] w fun e w'=>∃kind str q told,L7 B p kind str q told∧e=.returned (.bool (told==1))∧cu w0 w' g B q told (if told=1 then l++[⟨2,kind,p,false,cP.sub B p q,str⟩]else l):=by
 have hd:=gz B p hp;cases an:fR (rd B (p:Int))
 ·obtain⟨UW,L8,UX,mE,hv,Hl,L4⟩:=aco B h.sz p hp;refine(abI h hp an bG (fun _=>⟨UW,L8,UX,mE⟩) aq).mono fun e w' he=>?_;obtain⟨kind,str,q,told,eD,he,ae⟩:=he;refine⟨kind,str,q,told,?_,he,ae⟩;cases eD with
  |LD ai str q told cV=>
   obtain⟨⟨cY,h0⟩,_,_⟩:=cV;obtain⟨⟨cd,h1⟩,_,_⟩:=mE
   have heq:some (str,(q:Int),told)=some (UW,(L8:Int),UX):=by
    have a0:=Bx (fun k=>fM.mono B (p:Int) 1 h.st.choose k) (Nat.le_max_left cY cd) (h0 h.st.choose);have cg:=Bx (fun k=>fM.mono B (p:Int) 1 h.st.choose k) (Nat.le_max_right cY cd) (h1 h.st.choose);exact a0.symm.trans cg
   simp only[Option.some.injEq,Prod.mk.injEq]at heq;obtain⟨rfl,ar,rfl⟩:=heq;have iz:q=L8:=by omega
   subst iz;refine⟨hv,fun h0=>?_,fun h2=>?_⟩
   ·obtain⟨br,aD,bx,db,fO⟩:=Hl h0;rw[hd];simp only[fW];rw[if_pos ai,aD];simp only;rw[bx,List.length_drop,List.length_drop,show B.length-(p+1)+1-(B.length-q)=q-p by omega];exact⟨rfl,(by omega)⟩
   ·rw[hd];simp only[fW];rw[if_pos ai,L4 h2]
  |num iD q ar=>
   have h0:rd B (p:Int)≠91:=by intro e;rw[e]at iD;revert iD;decide
   have hle:=uh (B.drop p);rw[List.length_drop]at hle;have eu:0<bI (B.drop p):=by rw[hd];simp only[bI,iD,if_true];omega
   have mg:bB (cP.sub B p q) 0=rd B (p:Int):=by
    have aU:=(Uo B bG (by have:=h.sz;omega) p q).at_ 0 Jh;rw[show((0:Nat):Int)=0 from rfl]at aU;rw[aU];unfold rd;rw[List.drop_take,ar,show p+bI (B.drop p)-p=bI (B.drop p)by omega,Int.toNat_natCast];rw[List.getD_eq_getElem?_getD,List.getD_eq_getElem?_getD,show Int.toNat 0=0 from rfl,List.getElem?_take_of_lt eu,List.getElem?_drop];rfl
   have L9:fW (B.drop p)=Du (B.drop p):=by
    rw[hd];simp only[fW];rw[if_neg h0,if_neg (by rw[an];decide),if_pos iD]
   have Dv:a6 (B.drop p) 0=rd B (p:Int):=by rw[hd];rfl
   have A3:fF ((B.drop p).drop (bI (B.drop p)))=fF (B.drop q):=by rw[List.drop_drop,ar]
   have yI:q-p=bI (B.drop p):=by omega
   unfold L7;rw[L9];unfold Du nb;rw[Dv,A3,mg,yI];have Ma:cP.sub B p q=strOfNums ((B.drop p).take (bI (B.drop p))):=by rw[ar,sub_eq]
   by_cases c1:(rd B (p:Int)=48∧1<bI (B.drop p))∨fF (B.drop q)=true
   ·rw[if_pos c1,if_pos c1];exact P2
   ·rw[if_neg c1,if_neg c1];by_cases c2:2147483647<jx 0 (B.drop p)
    ·rw[if_pos c2,if_pos c2];exact⟨.inl rfl,fun h=>absurd h (by decide),fun _=>rfl⟩
    ·rw[if_neg c2,if_neg c2,Ma];exact P1
  |sign ai=>exact⟨.inr (.inr rfl),fun h=>absurd h (by decide),fun h=>absurd h (by decide)⟩
  |other ai=>
   refine⟨.inl rfl,fun h=>absurd h (by decide),fun _=>?_⟩;rw[hd];simp only[fW];rw[if_neg ai.1,if_neg (by rw[an];decide),if_neg (by rw[ai.2.1];decide),if_neg ai.2.2]
 ·refine(abD h hp an aq).mono fun e w' he=>?_;obtain⟨kind,str,q,told,eD,he,ae⟩:=he;refine⟨kind,str,q,told,?_,he,ae⟩;cases eD with
  |ident O1 q ar=>
   have eu:0<eU (B.drop p):=by rw[hd];simp only[eU,p5,an,Bool.true_or,if_true];omega
   have A3:fF ((B.drop p).drop (eU (B.drop p)))=fF (B.drop q):=by rw[List.drop_drop,ar]
   have Ma:cP.sub B p q=strOfNums ((B.drop p).take (eU (B.drop p))):=by rw[ar,sub_eq]
   have rm:fW (B.drop p)=if fF ((B.drop p).drop (eU (B.drop p)))=true then .op else .yes (1,eU (B.drop p),strOfNums ((B.drop p).take (eU (B.drop p)))):=by
    rw[hd];simp only[fW];rw[if_neg (adC an),if_pos an]
   unfold L7;rw[rm,A3];cases aw:fF (B.drop q)
   ·rw[if_neg Bool.false_ne_true,if_neg Bool.false_ne_true,Ma];rw[show q-p=eU (B.drop p)by omega];exact P1
   ·rw[if_pos rfl,if_pos rfl];exact P2
structure Out(B:List Int)(c:fl)(l:List cx)(G:fl→Prop)(q:Nat)(t:Int)(cU:List cx):Prop where
 yes:t=1→∃d cw,cU=l++d∧eI.Steps ca B c d cw∧G cw∧cU.length≤q
 no:t=0→∃d,cU=l++d∧G3 ca B c d
 r:t=0∨t=1∨t=2
section
variable {B:List Int} {c:fl} {l:List cx} {G:fl→Prop} {q:Nat}
theorem Out.w9{t:Int}{cU:List cx}(h:t=2):Out B c l G q t cU:=⟨fun e=>absurd (h.symm.trans e) (by decide),fun e=>absurd (h.symm.trans e) (by decide),.inr (.inr h)⟩
theorem Out.fail(h:read ca B c=.err):Out B c l G q 0 l:=
 ⟨fun e=>absurd e (by decide),fun _=>⟨[],(by simp),c,.nil c,h⟩,.inl rfl⟩
end
section
variable {B:List Int} {c c1:fl} {l d:List cx} {G:fl→Prop} {q:Nat}
theorem Out.Hm(ak:eI.Steps ca B c d c1)(h:read ca B c1=.err):Out B c l G q 0 (l++d):=
 ⟨fun e=>absurd e (by decide),fun _=>⟨d,rfl,c1,ak,h⟩,.inl rfl⟩
theorem Out.done(ak:eI.Steps ca B c d c1)(aw:G c1)(an:(l++d).length≤q):Out B c l G q 1 (l++d):=
 ⟨fun _=>⟨d,c1,rfl,ak,aw,an⟩,fun e=>absurd e (by decide),.inr (.inl rfl)⟩
theorem Out.from_{t:Int}{cU:List cx}(ak:eI.Steps ca B c d c1)(h:Out B c1 (l++d) G q t cU):Out B c l G q t cU:=by
 refine⟨fun e=>?_,fun e=>?_,h.r⟩
 ·obtain⟨d',cw,h0,h1,h2,h3⟩:=h.yes e;exact⟨d++d',cw,(by rw[h0,List.append_assoc]),ak.append h1,h2,h3⟩
 ·obtain⟨d',h0,h1⟩:=h.no e;exact⟨d++d',(by rw[h0,List.append_assoc]),ak.abl h1⟩
end
theorem yX{B:List Int}{c c1:fl}{t:cx}(h:read ca B c=.tok t c1):eI.Steps ca B c [t] c1:=.cons c t c1 [] c1 h (.nil c1)
theorem Mb{B:List Int}{c c1 c2:fl}{d:List cx}{t:cx}(ak:eI.Steps ca B c d c1)(h:read ca B c1=.tok t c2):eI.Steps ca B c (d++[t]) c2:=ak.append (yX h)
theorem A4(B:List Int)(kind:Int)(st:List Int)(p:Nat)(h:p≤B.length):one B kind st (B.drop p)=.tok ⟨kind,0,p,false,cP.sub B p (p+1),⟨#[]⟩⟩ ⟨kind,st,eM (B.drop (p+1))⟩:=by
 unfold one qj;rw[Hk B p h,List.drop_drop]
theorem adE(B:List Int)(q:Nat):B.drop (B.length-(bc false (B.drop q)).length)=eM (B.drop q):=by
 obtain⟨m,h0,h1⟩:=pL (B.drop q) false;exact yV B (q+m) _ (by rw[h1,List.drop_drop])
theorem adF(B:List Int)(q:Nat)(h:q≤B.length):q≤B.length-(bc false (B.drop q)).length:=by
 have:=kC (B.drop q) false;rw[List.length_drop]at this;omega
theorem vA(s:List Int):eM (eM s)=eM s:=abh s false
theorem adG(t:Int)(s:List Int):hD t s=t∨(t=1∧hD t s=2∧jP s=true):=by
 unfold hD;by_cases h:jP s=true∧t=1
 ·rw[if_pos h];exact .inr ⟨h.2,rfl,h.1⟩
 ·rw[if_neg h];exact .inl rfl
theorem UY{s:List Int}(h:jP s=true)(k:Int)(h1:k≠11)(h2:k≠12):a8 s k=false:=by
 cases s with
 |nil=>rfl
 |cons c r=>
  simp only[jP,Bool.or_eq_true,beq_iff_eq]at h;simp only[a8,beq_eq_false_iff_ne];omega
theorem UZ{s:List Int}{k:Int}(h:a8 s k=true):∃r,s=k::r:=by
 cases s with
 |nil=>cases h
 |cons c r=>simp only[a8,beq_iff_eq]at h;exact⟨r,(by rw[h])⟩
theorem ph{B:List Int}{p:Nat}{k:Int}(h:a8 (B.drop p) k=true):p<B.length∧B.drop p=k::B.drop (p+1):=by
 have hp:p<B.length:=by
  by_cases e:p<B.length
  ·exact e
  ·rw[List.drop_eq_nil_of_le (by omega)]at h;cases h
 obtain⟨r,au⟩:=UZ h;refine⟨hp,?_⟩;rw[gz B p hp]at au⊢;simp only[List.cons.injEq]at au;rw[au.1]
def rq(e:Int)(st:List Int):Prop:=(e=0∧st=[])∨∃o fa,st=o::fa∧(o=123∨o=60)∧e=lC o
theorem rq.U0{e:Int}{st:List Int}(h:rq e st):hN st=false:=by
 rcases h with⟨_,rfl⟩|⟨o,fa,rfl,h,_⟩
 ·rfl
 ·rcases h with rfl|rfl<;>rfl
def Mc(st:List Int):Prop:=∃e,rq e st
section
variable {B:List Int} {st:List Int}
theorem adH{p:Nat}{k:Int}(h:a8 (B.drop p) k=true)(ad:k=123∨k=60):
 jG ca B st (B.drop p)=.tok ⟨4,0,p,false,cP.sub B p (p+1),⟨#[]⟩⟩ ⟨4,k::st,eM (B.drop (p+1))⟩:=by
 obtain⟨h0,h1⟩:=ph h;have h2:=A4 B 4 (k::st) p (by omega);rw[h1]at h2⊢;simp only[jG];rw[if_pos ad];exact h2
theorem adI{p:Nat}(hp:p<B.length)(h1:a8 (B.drop p) 123=false)(h2:a8 (B.drop p) 60=false):jG ca B st (B.drop p)=pb ca B st (B.drop p):=by
 rw[gz B p hp]at h1 h2⊢;simp only[a8,beq_eq_false_iff_ne]at h1 h2;simp only[jG];rw[if_neg (by omega)]
theorem adJ{p q:Nat}{t:Int}{l cU:List cx}{c:fl}(hp:p<B.length)(ai:read ca B c=pb ca B st (B.drop p))(ak:L6 B p q t)(an:l.length≤p)(ar:q≤B.length)(h1:t=1→cU=l++[⟨3,0,p,false,cP.sub B p q,⟨#[]⟩⟩])(h2:t≠1→cU=l)(Ds:t=1→p<q):
 Out B c l (fun cw=>mD cw st (B.drop q)) q t cU:=by
 rcases ak.1 with rfl|rfl|rfl
 ·rw[h2 (by decide)];refine .fail ?_;rw[ai];unfold pb;rw[show ca.vr (B.drop p)=ga (B.drop p)from rfl,ak.2.2 rfl]
 ·rw[h1 rfl];obtain⟨h0,h3⟩:=ak.2.1 rfl;have h4:=Ds rfl;refine .done (c1:=⟨3,st,eM (B.drop q)⟩) (yX ?_) ⟨.inl rfl,rfl,rfl⟩ Jg;rw[ai];unfold pb;rw[show ca.vr (B.drop p)=ga (B.drop p)from rfl,h0];simp only;unfold qj;rw[Hk B p (by omega),List.drop_drop,show p+(q-p)=q by omega]
 ·exact .w9 (by decide)
theorem adK{p:Nat}{c:fl}(ai:read ca B c=kD ca B st (B.drop p))(h:fW (B.drop p)=.no):read ca B c=.err:=by
 rw[ai];unfold kD;rw[show ca.br (B.drop p)=fW (B.drop p)from rfl,h]
end
section
variable {B:List Int} {st:List Int} {p q:Nat} {c:fl} {kind:Int} {str:ByteArray} (hp:p≤q) (yY:p≤B.length) (ai:read ca B c=kD ca B st (B.drop p)) (h:fW (B.drop p)=.yes (kind,q-p,str))
include hp yY ai h
theorem adL{r:List Int}(ak:eM (B.drop q)=58::r):
 read ca B c=.tok ⟨2,kind,p,true,cP.sub B p q,str⟩ ⟨2,st,eM r⟩:=by
 rw[ai];unfold kD;rw[show ca.br (B.drop p)=fW (B.drop p)from rfl,h];simp only;rw[List.drop_drop,show p+(q-p)=q by omega,ak];simp only;unfold qj;rw[Hk B p yY,show p+(q-p)=q by omega]
theorem adM(ak:a8 (eM (B.drop q)) 58=false):
 read ca B c=.tok ⟨2,kind,p,false,cP.sub B p q,str⟩ ⟨2,st,eM (B.drop q)⟩:=by
 rw[ai];unfold kD;rw[show ca.br (B.drop p)=fW (B.drop p)from rfl,h];simp only;rw[List.drop_drop,show p+(q-p)=q by omega];split
 ·rename_i r e
  rw[e]at ak;exact absurd ak (by simp[a8])
 ·unfold qj;rw[Hk B p yY,show p+(q-p)=q by omega]
end
theorem adN{B:List Int}{c:fl}{p:Nat}(h:c.mode=2)(ak:c.s=B.drop p)(h1:a8 (B.drop p) 91=true):read ca B c=one B 6 (91::c.st) (B.drop p):=by
 obtain⟨_,h0⟩:=ph h1;refine vy ?_ (LX _ _ _ _);unfold next;rw[if_neg (by omega),if_pos h,ak,h0];rfl
theorem adO{B:List Int}{st:List Int}(h:rq 0 st):iF ca B st []=.eof:=by
 rcases h with⟨_,rfl⟩|⟨o,fa,rfl,aY,he⟩
 ·rfl
 ·exfalso;rcases aY with rfl|rfl<;>(revert he;decide)
theorem adP{B:List Int}{st:List Int}{e:Int}(h:rq e st)(he:e≠0):iF ca B st []=.err:=by
 rcases h with⟨h,_⟩|⟨o,fa,rfl,aY,h⟩
 ·exact absurd h he
 ·rfl
theorem adQ{r:List Int}{c:Int}(h:c=125∨c=62):fW (c::r)=.no:=by
 simp only[fW];rcases h with rfl|rfl<;>rfl
section
variable {B:List Int} {st:List Int}
theorem adR{e c:Int}{r:List Int}(h:rq e st)(ai:c=125∨c=62)(sS:c≠e):iF ca B st (c::r)=.err:=by
 rcases h with⟨_,rfl⟩|⟨o,fa,rfl,aY,rfl⟩
 ·simp only[iF];unfold kD;rw[show ca.br (c::r)=fW (c::r)from rfl,adQ ai]
 ·simp only[iF];rw[if_neg sS,if_pos];rcases aY with rfl|rfl<;>rcases ai with rfl|rfl<;>first|rfl|exact absurd rfl sS
theorem adS{e:Int}{p:Nat}(h:rq e st)(ai:e=125∨e=62)(hp:p<B.length)(sS:rd B (p:Int)=e):
 iF ca B st (B.drop p)=.tok ⟨5,0,p,false,cP.sub B p (p+1),⟨#[]⟩⟩ ⟨5,st.tail,eM (B.drop (p+1))⟩:=by
 rcases h with⟨h,_⟩|⟨o,fa,rfl,aY,he⟩
 ·omega
 ·have h0:=A4 B 5 fa p (by omega);rw[gz B p hp]at h0⊢;simp only[iF];rw[if_pos (sS.trans he)];exact h0
theorem adT{e:Int}{p:Nat}(h:rq e st)(hp:p<B.length)(h1:rd B (p:Int)≠125)(h2:rd B (p:Int)≠62):iF ca B st (B.drop p)=kD ca B st (B.drop p):=by
 rw[gz B p hp];rcases h with⟨_,rfl⟩|⟨o,fa,rfl,aY,he⟩
 ·rfl
 ·simp only[iF];rcases aY with rfl|rfl
  ·rw[if_neg (show¬rd B (p:Int)=lC 123 from h1),if_neg (show¬rd B (p:Int)=other (lC 123)from h2)]
  ·rw[if_neg (show¬rd B (p:Int)=lC 60 from h2),if_neg (show¬rd B (p:Int)=other (lC 60)from h1)]
end
theorem adU{r:List Int}:ga (91::r)=.no:=by
 simp only[ga];rw[if_neg (by decide),if_neg (fun h=>by rcases h with h|h;revert h;decide;exact absurd h.1 (by decide)),if_neg (by decide)]
theorem adV{B:List Int}{st:List Int}{p:Nat}(h:a8 (B.drop p) 91=true):jG ca B st (B.drop p)=.err:=by
 obtain⟨_,h0⟩:=ph h;rw[h0];simp only[jG];rw[if_neg (by decide)];unfold pb;rw[show ca.vr (91::B.drop (p+1))=ga (91::B.drop (p+1))from rfl,adU]
theorem adW{B:List Int}{c:fl}{p:Nat}{st:List Int}(h:c.mode=6)(dA:c.st=91::st)(ak:c.s=B.drop p)(h1:a8 (B.drop p) 93=true):
 read ca B c=.tok ⟨7,0,p,false,cP.sub B p (p+1),⟨#[]⟩⟩ ⟨7,st,eM (B.drop (p+1))⟩:=by
 obtain⟨hp,h0⟩:=ph h1;have h2:=A4 B 7 st p (by omega);refine vy ?_ (fun c h=>by cases h);unfold next;rw[if_neg (by omega),if_neg (by omega),if_neg (by omega),if_pos h,ak,h0,dA];rw[h0]at h2;exact h2
section
variable {B:List Int} {c:fl} {q p:Nat} {st:List Int} (h:mD c (91::st) (B.drop q)) (ak:eM (B.drop q)=B.drop p)
include h ak
theorem adX(h1:a8 (B.drop p) 93=true):
 read ca B c=.tok ⟨7,0,p,false,cP.sub B p (p+1),⟨#[]⟩⟩ ⟨7,st,eM (B.drop (p+1))⟩:=by
 obtain⟨hm,dA,kX⟩:=h;obtain⟨hp,h0⟩:=ph h1;have h2:=A4 B 7 st p (by omega);refine vy ?_ (fun c h=>by cases h);unfold next;rw[if_neg (by omega),if_neg (by omega),if_pos hm,dA,kX,ak,h0];rw[h0]at h2;exact h2
theorem adY(h1:a8 (B.drop p) 93=false)(h2:a8 (B.drop p) 44=false):read ca B c=.err:=by
 obtain⟨hm,dA,kX⟩:=h;refine vy ?_ (fun c h=>by cases h);unfold next;rw[if_neg (by omega),if_neg (by omega),if_pos hm,dA,kX,ak];rw[if_pos (show hN (91::st)=true from rfl)];exact St
end
end nt
