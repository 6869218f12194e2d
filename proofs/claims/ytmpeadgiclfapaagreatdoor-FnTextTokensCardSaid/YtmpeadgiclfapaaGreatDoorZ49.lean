/- Part 47 of the proof (Px8, Rd2, Rd3, Rd4). Conditions: each theorem's own. -/
import Derived.Test.YtmpeadgiclfapaaGreatDoorZ44
import Derived.Test.YtmpeadgiclfapaaGreatDoorZ45
import Derived.Test.YtmpeadgiclfapaaGreatDoorZ46
import Derived.Test.YtmpeadgiclfapaaGreatDoorZ47
import Derived.Test.YtmpeadgiclfapaaGreatDoorZ48
set_option linter.all false
set_option maxHeartbeats 0
set_option maxRecDepth 100000
namespace Go.Proofs.YtmpeadgiclfapaaGreatDoor
namespace fx
open RowKit YtmpeadgiclfapaaGreatDoorW.PrintWords YtmpeadgiclfapaaGreatDoorW.PrintLast YtmpeadgiclfapaaGreatDoorW.PrintMore ei cP gJ eI eC gi j6 mG nt
theorem Xs(st:List Int):st.dropLast=st.reverse.tail.reverse:=by
 have:st=st.reverse.reverse:=(List.reverse_reverse st).symm;cases h:st.reverse with
 |nil=>rw[this,h];rfl
 |cons o r=>rw[this,h];simp
theorem shape{st:List Int}(bC:hV st):st=[]∨(∃r,st.reverse=91::r∧st≠[]∧hN st.reverse=true∧(eF st.reverse).1=6∧(eF st.reverse).2=93)∨
 (∃o r,st.reverse=o::r∧st≠[]∧hN st.reverse=false∧(eF st.reverse).1=4∧(eF st.reverse).2=lC o∧(lC o=125∨lC o=62)):=by
 cases h:st.reverse with
 |nil=>exact .inl (by simpa using h)
 |cons o r=>
  have bL:st≠[]:=by rintro rfl;cases h
  have aY:o∈st:=by
   have:o∈st.reverse:=by rw[h];exact List.mem_cons_self
   simpa using this
  rcases bC o aY with rfl|rfl|rfl
  ·exact .inr (.inr ⟨123,r,rfl,bL,rfl,rfl,rfl,.inl rfl⟩)
  ·exact .inr (.inr ⟨60,r,rfl,bL,rfl,rfl,rfl,.inr rfl⟩)
  ·exact .inr (.inl ⟨r,rfl,bL,rfl,rfl,rfl⟩)
section
variable {w0 w:World} {g:Nat} {B s st:List Int} {lc af m:Int}
section
variable (h:dK w0 w g B s st lc af) (ak:bc false s=s) (cV:Lib.Utf8Tabs 4 5 w0) (cG:iS w0) (bN:0<w0.heap.size∧∃ty v,w0.cell? ⟨0,0,none⟩=some (.iface ty v)) (h47:∀r,s=91::r→a6 (bc false r) 0≠47)
include h ak cV cG bN h47
theorem NS(hm:m=3∨m=5∨m=7)(hi:iT m st.reverse)(dR:next ca B ⟨m,st.reverse,s⟩≠ .op):lH g m w (gC w0 w g B lc af (next ca B ⟨m,st.reverse,s⟩)):=by
 have mj:∃k,s=B.drop k:=by obtain⟨f,aA⟩:=h;exact aA.jE
 have bC:hV st:=fun c ai=>hi.ok c (by simpa using ai);rcases shape bC with dA|⟨r,au,bL,an,bR,ek⟩|⟨o,r,au,bL,an,bR,ek,dM⟩
 ·have an:hN st.reverse=false:=by rw[dA];rfl
  have bR:(eF st.reverse).1=0:=by rw[dA];rfl
  have ek:(eF st.reverse).2=0:=by rw[dA];rfl
  cases s with
  |nil=>
   rw[H7 hm an];have e:iF ca B st.reverse []=.eof:=by rw[dA];rfl
   rw[e];exact(ain h ak rfl hm bC bR ek).mono fun e w' hp=>gC.H4 hp
  |cons x t=>
   by_cases h0:x=44
   ·subst h0;rw[Em hm];exact(aio h ak rfl hm bC bR ek).mono fun e w' hp=>gC.El hp (List.reverse_reverse st).symm
   ·by_cases h1:x=59
    ·subst h1;rw[H8 hm an];exact(aip h ak rfl hm bC bR ek).mono fun e w' hp=>gC.El hp (List.reverse_reverse st).symm
    ·rw[H6 hm an h0 h1]at dR⊢;exact H5 mj dA rfl dR (aiq h ak rfl hm bC bR ek h0 h1 cV cG bN h47) (fun k n str=>air h ak rfl hm bC bR ek h0 h1 cV cG bN h47)
 ·have dV:m=3∨m=5:=by
   rcases hm with h|h|h
   ·exact .inl h
   ·exact .inr h
   ·have:=hi.i2 (.inr (.inr (.inl h)));rw[an]at this;cases this
  cases s with
  |nil=>
   rw[Bs hm an (fun t=>by simp) (fun t=>by simp)];rcases dV with rfl|rfl
   ·exact(aiW h ak rfl bC bR ek bN).mono fun e w' hp=>gC.su hp
   ·exact(aiZ h ak rfl bC bR ek bN).mono fun e w' hp=>gC.su hp
  |cons x t=>
   by_cases h0:x=93
   ·subst h0;rw[NM hm an];exact(ais h ak rfl dV bL bC bR ek).mono fun e w' hp=>gC.Ek hp mj (Xs st) (by decide)
   ·by_cases h1:x=44
    ·subst h1;rw[Em hm];exact(ait h ak rfl dV bC bR ek).mono fun e w' hp=>gC.El hp (List.reverse_reverse st).symm
    ·rw[Bs hm an (fun qq=>by simp[h0]) (fun qq=>by simp[h1])];exact(aiu h ak rfl dV bC bR ek h0 h1).mono fun e w' hp=>gC.su hp
 ·cases s with
  |nil=>
   rw[H7 hm an];have e:iF ca B st.reverse []=.err:=by rw[au];rfl
   rw[e];rcases hm with rfl|rfl|rfl
   ·exact(aiV h ak rfl bC bR ek dM bN).mono fun e w' hp=>gC.su hp
   ·exact(aiY h ak rfl bC bR ek dM bN).mono fun e w' hp=>gC.su hp
   ·exact(ai1 h ak rfl bC bR ek dM bN).mono fun e w' hp=>gC.su hp
  |cons x t=>
   by_cases h0:x=44
   ·subst h0;rw[Em hm];exact(aix h ak rfl hm dM bC bR ek).mono fun e w' hp=>gC.El hp (List.reverse_reverse st).symm
   ·by_cases h1:x=59
    ·subst h1;rw[H8 hm an];exact(aiz h ak rfl hm dM bC bR ek).mono fun e w' hp=>gC.El hp (List.reverse_reverse st).symm
    ·rw[H6 hm an h0 h1]at dR⊢
     exact NK mj au rfl dR (fun e=>aiv h ak (by rw[e]) hm dM bL bC bR ek) (fun e=>aiw h ak (by rw[e]) hm dM bC bR ek)
      (fun a b=>aiA h ak rfl hm dM bC bR ek a b h0 h1 cV cG bN h47) (fun a b k n str=>aiB h ak rfl hm dM bC bR ek a b h0 h1 cV cG bN h47)
theorem Xt(hm:m=8∨m=9)(hi:iT m st.reverse)(hlen:st.length+1≤200000)(dR:next ca B ⟨m,st.reverse,s⟩≠ .op):lH g m w (gC w0 w g B lc af (next ca B ⟨m,st.reverse,s⟩)):=by
 have mj:∃k,s=B.drop k:=by obtain⟨f,aA⟩:=h;exact aA.jE
 have bC:hV st:=fun c ai=>hi.ok c (by simpa using ai);rcases shape bC with dA|⟨r,au,bL,an,bR,ek⟩|⟨o,r,au,bL,an,bR,ek,dM⟩
 ·have an:hN st.reverse=false:=by rw[dA];rfl
  have bR:(eF st.reverse).1=0:=by rw[dA];rfl
  have ek:(eF st.reverse).2=0:=by rw[dA];rfl
  rw[En hm an]at dR⊢;cases s with
  |nil=>
   have e:iF ca B st.reverse []=.eof:=by rw[dA];rfl
   rw[e];exact(aiK h ak rfl hm bC bR ek).mono fun e w' hp=>gC.H4 hp
  |cons x t=>exact H5 mj dA rfl dR (aiL h ak rfl hm bC bR ek cV cG bN h47) (fun k n str=>aiM h ak rfl hm bC bR ek cV cG bN h47)
 ·have dV:m=8:=by
   rcases hm with h|h
   ·exact h
   ·have:=hi.i2 (.inr (.inr (.inr h)));rw[an]at this;cases this
  subst dV;rw[NO an]at dR⊢;cases s with
  |nil=>exact(ai3 h ak rfl bC bR ek bN).mono fun e w' hp=>gC.su hp
  |cons x t=>exact NJ mj rfl dR (fun aY=>aiR h ak rfl aY hlen bC bR ek) (fun a b=>aiS h ak rfl bC bR ek a b cV cG bN) (fun a b n=>aiT h ak rfl bC bR ek a b cV cG bN)
 ·rw[En hm an]at dR⊢;cases s with
  |nil=>
   have e:iF ca B st.reverse []=.err:=by rw[au];rfl
   rw[e];exact(ai2 h ak rfl hm dM bC bR ek bN).mono fun e w' hp=>gC.su hp
  |cons x t=>
   exact NK mj au rfl dR (fun e=>aiN h ak (by rw[e]) hm dM bL bC bR ek) (fun e=>aiO h ak (by rw[e]) hm dM bC bR ek)
    (fun a b=>aiP h ak rfl hm dM bC bR ek a b cV cG bN h47) (fun a b k n str=>aiQ h ak rfl hm dM bC bR ek a b cV cG bN h47)
theorem Xu(hi:iT m st.reverse)(hlen:st.length+1≤200000)(dR:next ca B ⟨m,st.reverse,s⟩≠ .op):lH g m w (gC w0 w g B lc af (next ca B ⟨m,st.reverse,s⟩)):=by
 have mj:∃k,s=B.drop k:=by obtain⟨f,aA⟩:=h;exact aA.jE
 have bC:hV st:=fun c ai=>hi.ok c (by simpa using ai);rcases hi.md with e|e|e|e|e|e|e|e|e
 ·subst e;have dA:st=[]:=by simpa using hi.i0 rfl
  rw[zo (.inl rfl)]at dR⊢;cases s with
  |nil=>
   have e:iF ca B st.reverse []=.eof:=by rw[dA];rfl
   rw[e];exact(Xd h ak rfl).mono fun e w' hp=>gC.H4 hp
  |cons x t=>exact H5 mj dA rfl dR (Xe h ak rfl cV cG bN h47) (fun k n str=>Xf h ak rfl cV cG bN h47)
 ·subst e;cases s with
  |nil=>exact(aiU h ak rfl bN).mono fun e w' hp=>gC.su hp
  |cons x t=>
   by_cases ae:x=91
   ·subst ae;rw[aic];exact(ah5 h ak rfl hlen).mono fun e w' hp=>gC.Ek hp mj (by simp) (by decide)
   ·rw[NL ae]at dR⊢;exact NJ mj rfl dR (fun aY=>ah4 h ak rfl aY hlen) (fun a b=>ah6 h ak rfl a b ae cV cG bN) (fun a b n=>ah7 h ak rfl a b ae cV cG bN)
 ·exact NS h ak cV cG bN h47 (.inl e) hi dR
 ·subst e;have jf:=hi.i2 (.inr (.inl rfl));rcases shape bC with dA|⟨r,au,bL,an,ek,o1⟩|⟨o,r,au,bL,an,ek,o1,dM⟩
  ·exact absurd (by rw[dA];rfl) (hi.i4 rfl)
  ·rw[an]at jf;cases jf
  ·rw[zo (.inr rfl)]at dR⊢;cases s with
   |nil=>
    have e:iF ca B st.reverse []=.err:=by rw[au];rfl
    rw[e];exact(aiX h ak rfl bN).mono fun e w' hp=>gC.su hp
   |cons x t=>
    exact NK mj au rfl dR (fun e=>aiC h ak (by rw[e]) dM bL bC ek o1) (fun e=>aiD h ak (by rw[e]) dM bC ek o1)
     (fun a b=>aiE h ak rfl dM bC ek o1 a b cV cG bN h47) (fun a b k n str=>aiF h ak rfl dM bC ek o1 a b cV cG bN h47)
 ·exact NS h ak cV cG bN h47 (.inr (.inl e)) hi dR
 ·subst e;have jf:=hi.i6 rfl;have bL:st≠[]:=by rintro rfl;cases jf
  cases s with
  |nil=>exact(ai0 h ak rfl bN).mono fun e w' hp=>gC.su hp
  |cons x t=>
   by_cases ae:x=93
   ·subst ae;rw[aid];exact(aiG h ak rfl bL).mono fun e w' hp=>gC.Ek hp mj (Xs st) (by decide)
   ·rw[NN (fun qq=>by simp[ae])]at dR⊢;exact NJ mj rfl dR (fun aY=>aiH h ak rfl aY hlen) (fun a b=>aiI h ak rfl ae a b cV cG bN) (fun a b n=>aiJ h ak rfl ae a b cV cG bN)
 ·exact NS h ak cV cG bN h47 (.inr (.inr e)) hi dR
 ·exact Xt h ak cV cG bN h47 (.inl e) hi hlen dR
 ·exact Xt h ak cV cG bN h47 (.inr e) hi hlen dR
end
end
def Ia(w0 w:World)(g:Nat)(B:List Int)(r:nN)(e:Ending)(w':World):Prop:=
 match r with
 | .op=>True
 | .sep _=>True
 | .err=>∃ty v,e=.returned (.tuple #[eA,.iface ty v])∧∃eW fa sq,ey w0 w w' g B eW fa 0 sq
 | .eof=>∃po A c,e=.returned (.tuple #[.agg #[.int .u8 1,.int .u8 0,.int .u8 0,.int .i64 po,.slice A 0 c,.string ⟨#[]⟩],.nilIface])∧dZ w0 A 0 c []∧∃eW fa sq,ey w0 w w' g B eW fa 0 sq
 | .tok t c=>∃v,e=.returned (.tuple #[v,.nilIface])∧NI w0 v t∧c.mode=t.f0∧ey w0 w w' g B c.s c.st.reverse 0 c.mode
section
variable {L:Lex} {B:List Int}
theorem NT{m nW:Int}{st fa s eW:List Int}(hm:m=3∨m=5∨m=7)(h:next L B ⟨m,st,s⟩=.sep ⟨nW,fa,eW⟩):nW=8∨nW=9:=by
 have aA:hN st=false∨hN st=true:=by cases hN st<;>simp
 cases s with
 |nil=>
  rcases aA with aA|aA
  ·rw[H7 hm aA]at h;exact absurd h (yS _ _ _ _ _)
  ·rw[Bs hm aA (fun t=>by simp) (fun t=>by simp)]at h;cases h
 |cons x t=>
  by_cases h0:x=44
  ·subst h0;rw[Em hm]at h;cases h;exact .inl rfl
  ·rcases aA with aA|aA
   ·by_cases h1:x=59
    ·subst h1;rw[H8 hm aA]at h;cases h;exact .inr rfl
    ·rw[H6 hm aA h0 h1]at h;exact absurd h (yS _ _ _ _ _)
   ·by_cases h1:x=93
    ·subst h1;rw[NM hm aA]at h;cases h
    ·rw[Bs hm aA (fun qq=>by simp[h1]) (fun qq=>by simp[h0])]at h;cases h
section
variable {m:Int} {st s:List Int} {c:fl}
theorem Xv(hi:iT m st)(hm:m=8∨m=9)(h:next L B ⟨m,st,s⟩=.sep c):False:=by
 have aA:hN st=false∨hN st=true:=by cases hN st<;>simp
 rcases aA with aA|aA
 ·rw[En hm aA]at h;exact yS _ _ _ _ _ h
 ·rcases hm with e|e
  ·subst e;rw[NO aA]at h;exact Dq _ _ _ _ _ h
  ·rw[hi.i2 (.inr (.inr (.inr e)))]at aA;cases aA
theorem Ht{P:Prop}(hi:iT m st)(hm:m=8∨m=9)(h:next L B ⟨m,st,s⟩=.sep c):P:=(Xv hi hm h).elim
end
theorem ai4{c cw:fl}(aw:Good B c)(h:next L B c=.sep cw):(cw.mode=8∨cw.mode=9)∧yR (next L B cw):=by
 have ai5:=aw.step.s cw h;obtain⟨nW,fa,eW⟩:=cw
 have h0:nW=8∨nW=9:=by
  obtain⟨m,st,s⟩:=c;rcases aw.i.md with e|e|e|e|e|e|e|e|e
  ·have e:m=0:=e;rw[zo (.inl e)]at h;exact absurd h (yS _ _ _ _ _)
  ·have e:m=2:=e;subst e;cases s with
   |nil=>cases h
   |cons x t=>
    by_cases ae:x=91
    ·subst ae;cases h
    ·rw[NL ae]at h;exact absurd h (Dq _ _ _ _ _)
  ·exact NT (.inl e) h
  ·have e:m=4:=e;rw[zo (.inr e)]at h;exact absurd h (yS _ _ _ _ _)
  ·exact NT (.inr (.inl e)) h
  ·have e:m=6:=e;subst e;cases s with
   |nil=>cases h
   |cons x t=>
    by_cases ae:x=93
    ·subst ae;cases h
    ·rw[NN (fun qq=>by simp[ae])]at h;exact absurd h (Dq _ _ _ _ _)
  ·exact NT (.inr (.inr e)) h
  ·exact Ht aw.i (.inl e) h
  ·exact Ht aw.i (.inr e) h
 refine⟨h0,fun c2 h1=>?_⟩;exact Xv ai5.i h0 h1
end
theorem Ib{w0 w W:World}{g di eS:Nat}{B s st:List Int}{lc af:Int}{tmps:Array Value}{v0 v1 v2 v3 v4 v5 u:Value}{P:Ending→World→Prop}(t2:tmps[2]?.getD undef=.pointer (some ⟨eS,0,none⟩))(t3:tmps[3]?.getD undef=u)(eg:W.heap[di]?=some (.cells #[.pointer (some ⟨g,0,none⟩)] 38 (0,0)))(j4:W.heap[eS]?=some (.cells #[v0,v1,v2,v3,v4,v5] 47 (0,0)))(uF:eS≠g)(hd:ey w0 w W g B s st lc af)(hp:∀aQ,ey w0 w aQ g B s st 0 af→P (.returned (.tuple #[.agg #[v0,v1,v2,v3,v4,v5],u])) aQ):
 bodyPostD Tryz.prog Tryz.f20 P Exit.ret ⟨tmps,[⟨.fn (.func 28) #[.pointer (some ⟨di,0,none⟩)],#[]⟩]⟩ W:=by
 obtain⟨f,aA⟩:=hd.d;refine leaves_cons (f:=28) (args:=#[.pointer (some ⟨di,0,none⟩)]) (by simp) (by simp[go_sem]) ?_;refine(aim .returning ((bg eg 0).trans rfl) aA.c0 (aA.z 0)).mono ?_;rintro e rp BN ⟨rfl,rfl,rfl⟩;have aT:=(Below.heap_setCell W ⟨g,0,none⟩ (.int .u8 0) eS uF).trans j4;have cr:=I (hp _ (hd.DW 0));clear hp hd aA;obtain⟨c0,c1,c2,c3,c4,c5⟩:=kZ aT;clear aT eg j4;generalize W.setCell ⟨g,0,none⟩ (.int .u8 0)=aQ at*;simp[Leaves,settle,results,Tryz.results20,go_sem,t2,t3,c0,c1,c2,c3,c4,c5];exact cr.1
theorem ey.left{w0 w w1 bf:World}{g:Nat}{B s st:List Int}{lc af:Int}(U:Below w.heap.size w w1)(h:ey w0 w1 bf g B s st lc af):ey w0 w bf g B s st lc af:=
 ⟨h.d,Nat.le_trans U.size h.sz,fun b cells t ae aU aw=>h.k b cells t (cn ae U) aU aw,h.l⟩
theorem ey.below{w0 w w1 bf:World}{g:Nat}{B s st:List Int}{lc af:Int}(h:ey w0 w w1 g B s st lc af)(U:Below w1.heap.size w1 bf):ey w0 w bf g B s st lc af:=ey.n h (h.d.here.below U)
theorem ey.then{w0 w w1 bf:World}{g:Nat}{B s st s2 Ee:List Int}{lc af Xw Xx:Int}(h:ey w0 w w1 g B s st lc af)(k:ey w0 w1 bf g B s2 Ee Xw Xx):ey w0 w bf g B s2 Ee Xw Xx:=
 ⟨k.d,Nat.le_trans h.sz k.sz,fun b cells t U aU aw=>k.k b cells t (h.k b cells t U aU aw) aU aw,k.l⟩
theorem dK.cY{w0 w:World}{g:Nat}{B s st:List Int}{lc af:Int}(h:dK w0 w g B s st lc af):w.cell? ⟨g,1,none⟩=some (.int .u8 af):=by obtain⟨f,aA⟩:=h;exact aA.c1
abbrev NU:=Value→Int→Int→Int→Int→Option Addr→Nat→Nat→ByteArray→List Int→List Int→Prop
abbrev NV(k a n po:Int)(A:Option Addr)(m c:Nat)(x:ByteArray):Value:=.agg #[.int .u8 k,.int .u8 a,.int .u8 n,.int .i64 po,.slice A m c,.string x]
def Ep(w0 w:World)(g:Nat)(B:List Int)(af:Int)(Z:NU)(e:Ending)(w':World):Prop:=
 ∃hz k a n po A m c x eW fa,e=.returned (.tuple #[.agg #[.int .u8 k,.int .u8 a,.int .u8 n,.int .i64 po,.slice A m c,.string x],hz])∧Z hz k a n po A m c x eW fa∧ey w0 w w' g B eW fa 0 af
def ai6(w0 w:World)(g:Nat)(B:List Int)(af:Int)(Z:NU):Value×Int×Int×Int×Int×Option Addr×Nat×Nat×ByteArray×List Int×List Int×Nat→World→Prop
 |(hz,k,a,n,po,A,m,c,x,eW,fa,dC),w'=>Z hz k a n po A m c x eW fa∧ey w0 w w' g B eW fa 0 af∧w'.heap[dC]?=some (.cells #[.int .u8 0,.int .u8 0,.int .u8 0,.int .i64 0,.slice none 0 0,.string ⟨#[]⟩] 47 (0,0))∧w.heap.size≤dC
theorem C3{w0 w w1:World}{g dC:Nat}{B s st:List Int}{lc af:Int}{a0 cg a2 a3 a4 a5:Value}(hd:ey w0 w w1 g B s st lc af)(U:w1.heap[dC]?=some (.cells #[a0,cg,a2,a3,a4,a5] 47 (0,0)))(ad:w.heap.size≤dC)(aw:g<w.heap.size)(h0:w0.heap.size≤w.heap.size)(v0 v1 v2 v3 v4 v5:Value):
 ey w0 w ((((((w1.setCell ⟨dC,0,none⟩ v0).setCell ⟨dC,1,none⟩ v1).setCell ⟨dC,2,none⟩ v2).setCell ⟨dC,3,none⟩ v3).setCell ⟨dC,4,none⟩ v4).setCell ⟨dC,5,none⟩ v5) g B s st lc af∧
 ((((((w1.setCell ⟨dC,0,none⟩ v0).setCell ⟨dC,1,none⟩ v1).setCell ⟨dC,2,none⟩ v2).setCell ⟨dC,3,none⟩ v3).setCell ⟨dC,4,none⟩ v4).setCell ⟨dC,5,none⟩ v5).heap[dC]?=some (.cells #[v0,v1,v2,v3,v4,v5] 47 (0,0)):=
 ⟨ey.gg hd ⟨_,U⟩ (by omega) (by omega) ad v0 v1 v2 v3 v4 v5,Bl U v0 v1 v2 v3 v4 v5⟩
theorem Bu{w:World}{g b:Nat}(U:b≠g)(v1 v2 v3 v4 v5 v6:Value):
 ((((((w.setCell ⟨g,1,none⟩ v1).setCell ⟨g,2,none⟩ v2).setCell ⟨g,3,none⟩ v3).setCell ⟨g,4,none⟩ v4).setCell ⟨g,5,none⟩ v5).setCell ⟨g,6,none⟩ v6).heap[b]?=w.heap[b]?:=by
 rw[Below.heap_setCell _ _ _ _ U,Below.heap_setCell _ _ _ _ U,Below.heap_setCell _ _ _ _ U,Below.heap_setCell _ _ _ _ U,Below.heap_setCell _ _ _ _ U,Below.heap_setCell _ _ _ _ U]
theorem Ic{Z Z2:NU}{Q:Ending→World→Prop}{w0 w:World}{g:Nat}{B s st:List Int}{af:Int}(h:dK w0 w g B s st 0 af)(lW:∀W,dK w0 W g B s st 0 af→lH g af W (Ep w0 W g B af Z))(Xy:∀hz k a n po A m c x eW fa,Z hz k a n po A m c x eW fa→hz=.nilIface∨∃ty v,hz=.iface ty v)(cG:∀ty v k a n po A m c x eW fa aQ,Z (.iface ty v) k a n po A m c x eW fa→ey w0 w aQ g B eW fa 0 af→Q (.returned (.tuple #[eA,.iface ty v])) aQ)(oP:∀k a n po A m c x eW fa aQ,Z .nilIface k a n po A m c x eW fa→k≠8→k≠9→ey w0 w aQ g B eW fa 0 k→Q (.returned (.tuple #[NV k a n po A m c x,.nilIface])) aQ)(Xz:∀k a n po A m c x eW fa W,Z .nilIface k a n po A m c x eW fa→k=8∨k=9→dK w0 W g B eW fa 0 af→lH g k W (Ep w0 W g B af Z2))(XA:∀hz k a n po A m c x eW fa,Z2 hz k a n po A m c x eW fa→hz=.nilIface∨∃ty v,hz=.iface ty v)(XB:∀ty v k a n po A m c x eW fa aQ,Z2 (.iface ty v) k a n po A m c x eW fa→ey w0 w aQ g B eW fa 0 af→Q (.returned (.tuple #[eA,.iface ty v])) aQ)(XC:∀k a n po A m c x eW fa aQ,Z2 .nilIface k a n po A m c x eW fa→ey w0 w aQ g B eW fa 0 k→Q (.returned (.tuple #[NV k a n po A m c x,.nilIface])) aQ):Calls Tryz.prog 20 #[.pointer (some ⟨g,0,none⟩)] w Q:=by
 have cr:=I lW;have ai7:=I Xy;have gE:=I cG;have hW:=I oP;have gP:=I Xz;have ai8:=I XA;have jJ:=I XB;have gK:=I XC;clear lW Xy cG oP Xz XA XB XC;refine CV ?_;intro bS;refine SS ?_;intro ni aW fH cv iu;have az:=da ni (.cells #[.int .u8 0,.int .u8 0,.int .u8 0,.int .i64 0,.slice none 0 0,.string ⟨#[]⟩] 47);rw[fH]at cv;have kR:=iU aW (.cells #[.int .u8 0,.int .u8 0,.int .u8 0,.int .i64 0,.slice none 0 0,.string ⟨#[]⟩] 47);clear aW ni;refine yj ?_;intro wF;go_enter_defers Tryz.func20,Tryz.ntmps20
 go_upto_region 1 with fail
 have dO:=I (h.below az);have bz:=I kR;have im:=I cv;have sO:=I iu;have aC:=I az;clear fH;generalize (w.alloc (.cells #[.pointer (some ⟨g,0,none⟩)] 38)).alloc (.cells #[.int .u8 0,.int .u8 0,.int .u8 0,.int .i64 0,.slice none 0 0,.string ⟨#[]⟩] 47)=cJ at kR cv az iu dO bz im sO aC⊢;have c1:=(bg kR 0).trans rfl;obtain⟨f,aA⟩:=dO.1;have c0:=aA.c0;clear kR cv az iu aA h
 go_upto_region 4 with fail
 refine HX ?_;refine fX (n:=13) (S:=fun w'=>w'.cell? ⟨w.heap.size,0,none⟩=some (.pointer (some ⟨g,0,none⟩))∧w'.cell? ⟨g,1,none⟩=some (.int .u8 af)) (ds:=[11]) #[false,false,false,false,false,false,false,false,false,false,false,false,false] aM rfl rfl ⟨(bg (gl bz.1) 0).trans rfl,dK.cY (dO.1.below (Below.drew (Below.refl _ _)))⟩ (fun hHeld=>?_);refine eb 0 21 ?_;refine eb 1 22 ?_;refine ax 2 23 ?_;refine ax 3 24 ?_;refine ax 4 25 ?_;refine eb 5 26 ?_;refine OF (σ:=Value×Int×Int×Int×Int×Option Addr×Nat×Nat×ByteArray×List Int×List Int×Nat) 2 #[true,true,true,true,true,true,true,true,true,true,true,false,false] (fun(hz,k,a,n,po,A,m,c,x,hf,ru,dC)=>[(27,.tuple #[.agg #[.int .u8 k,.int .u8 a,.int .u8 n,.int .i64 po,.slice A m c,.string x],hz]),(20,.tuple #[.agg #[.int .u8 k,.int .u8 a,.int .u8 n,.int .i64 po,.slice A m c,.string x],hz]),(28,.agg #[.int .u8 k,.int .u8 a,.int .u8 n,.int .i64 po,.slice A m c,.string x]),(29,hz),(4,.pointer (some ⟨dC,0,none⟩))]) (ai6 w0 cJ g B af Z) ?_ ?_
 rotate_left
 ·intro zn;refine EF (i:=6) (j:=10) (Ni:=some 27) (Nj:=some 4) #[true,true,true,true,true,true,true,false,false,false,false,false,false] #[true,true,true,true,true,true,false,false,false,false,true,false,false] rfl rfl rfl rfl aM (by decide) (by decide) (fun K aH=>?_) (fun K aH=>?_)
  ·skip
   refine mQ Tryz.func29 aM rfl #[.pointer (some ⟨g,0,none⟩),.int .u8 af] (by rfl) rfl rfl mX ?_
   with_reducible refine(cr.1 _ (dO.1.below (Below.drew (Below.refl _ _)))).mono ?_
   rintro e w1 ⟨hz,k,a,n,po,A,m,c,x,hf,ru,rfl,fH,gM⟩;refine⟨_,rfl,?_⟩;have xn:=I fH;have fP:=I gM;clear fH gM;refine aH.out _ _ ⟨(bg (fP.1.k _ _ _ (gl bz.1) (by decide) cA) 0).trans rfl,dK.cY fP.1.d⟩ (fun hHeld=>?_);clear aH K;refine ik ?_;refine ax 7 20 ?_;refine ax 8 28 ?_;refine ax 9 29 ?_;refine gb 10 4 fun K aH=>?_;refine px ?_;refine aH.out _ _ ⟨(bg (iU (fP.1.k _ _ _ (gl bz.1) (by decide) cA) _) 0).trans rfl,dK.cY (fP.1.d.below (da (Below.refl _ _) _))⟩ (fun hHeld=>?_);clear aH K;refine ik ?_;exact uM zD (zn (hz,k,a,n,po,A,m,c,x,hf,ru,w1.heap.size) _ ⟨xn.1,(ey.left (Below.drew (Below.refl _ _)) fP.1).below (da (Below.refl _ _) _),gV w1 _,fP.1.sz⟩)
  ·skip
   refine px ?_;refine aH.out _ _ ⟨(bg (iU (gl bz.1) _) 0).trans rfl,dK.cY (dO.1.below (da (Below.drew (Below.refl _ _)) (.cells #[.int .u8 0,.int .u8 0,.int .u8 0,.int .i64 0,.slice none 0 0,.string ⟨#[]⟩] 47)))⟩ (fun hHeld=>?_);clear aH K;refine ik ?_;refine gb 6 27 fun K aH=>?_;refine mQ Tryz.func29 aM rfl #[.pointer (some ⟨g,0,none⟩),.int .u8 af] (by rfl) rfl rfl mX ?_
   with_reducible refine(cr.1 _ (dO.1.below (kH (da (Below.refl _ _) (.cells #[.int .u8 0,.int .u8 0,.int .u8 0,.int .i64 0,.slice none 0 0,.string ⟨#[]⟩] 47))))).mono ?_
   rintro e w1 ⟨hz,k,a,n,po,A,m,c,x,hf,ru,rfl,fH,gM⟩;refine⟨_,rfl,?_⟩;have xn:=I fH;have fP:=I gM;clear fH gM;refine aH.out _ _ ⟨(bg (fP.1.k _ _ _ (gl (iU bz.1 _)) (by decide) cA) 0).trans rfl,dK.cY fP.1.d⟩ (fun hHeld=>?_);clear aH K;refine ik ?_;refine ax 7 20 ?_;refine ax 8 28 ?_;refine ax 9 29 ?_;exact uM zD (zn (hz,k,a,n,po,A,m,c,x,hf,ru,cJ.heap.size) _ ⟨xn.1,ey.left (kH (da (Below.refl _ _) (.cells #[.int .u8 0,.int .u8 0,.int .u8 0,.int .i64 0,.slice none 0 0,.string ⟨#[]⟩] 47))) fP.1,fP.1.k _ _ _ (gl (gV cJ _)) (by decide) (by have:=bS.1;have:=sO.1;show cJ.heap.size≠g;omega),Nat.le_refl _⟩)
 rintro⟨hz,k,a,n,po,A,m,c,x,hf,ru,dC⟩ w1 ⟨fH,gM,hh,nK⟩;have xn:=I fH;have fP:=I gM;have dn:=I hh;have nC:=I nK;have hHeld:w1.cell? ⟨w.heap.size,0,none⟩=some (.pointer (some ⟨g,0,none⟩))∧w1.cell? ⟨g,1,none⟩=some (.int .u8 af):=⟨(bg (gM.k _ _ _ bz.1 (by decide) cA) 0).trans rfl,dK.cY gM.d⟩;obtain⟨bW,bZ,b0,b1,b2,Z2,b3,b4,b5,b6,b7,b8⟩:=gO dn.1;clear gM hh nK fH;refine uM (a':=?_) ?_ ?_
 rotate_left
 ·exact RX
 refine pZ 11 fun K aH=>?_;refine tG ?_;refine aH.out _ _ ?_;clear aH K;refine ax 12 5 ?_;refine jX aM ?_;refine KA ?_;clear bW b0 b2 b3 b5 b7 bZ b1 Z2 b4 b6 b8;have bs:=C3 (ey.left aC.1 fP.1) dn.1 l4 bS.1.1 bS.1.2 (.int .u8 k) (.int .u8 a) (.int .u8 n) (.int .i64 po) (.slice A m c) (.string x);have cL:=(nT w1 dC (.int .u8 k) (.int .u8 a) (.int .u8 n) (.int .i64 po) (.slice A m c) (.string x) w.heap.size l4).trans (fP.1.k _ _ _ bz.1 (by decide) l4);have iG:=(nT w1 dC (.int .u8 k) (.int .u8 a) (.int .u8 n) (.int .i64 po) (.slice A m c) (.string x) (w.heap.size+1) l4).trans (fP.1.k _ _ _ im.1 (by decide) l4);generalize ((((((w1.setCell ⟨dC,0,none⟩ (.int .u8 k)).setCell ⟨dC,1,none⟩ (.int .u8 a)).setCell ⟨dC,2,none⟩ (.int .u8 n)).setCell ⟨dC,3,none⟩ (.int .i64 po)).setCell ⟨dC,4,none⟩ (.slice A m c)).setCell ⟨dC,5,none⟩ (.string x))=ay at bs cL iG⊢;have cf:=I bs.1;have aV:=I bs.2;have bj:=I cL;have hE:=I iG;clear bs cL iG;clear fP dn bz im;rcases ai7.1 _ _ _ _ _ _ _ _ _ _ _ xn.1 with rfl|⟨ty,v,rfl⟩
 ·by_cases h0:k=8∨k=9
  ·rcases h0 with rfl|rfl
   all_goals(
    have d0:=(bg bj.1 0).trans rfl;obtain⟨cd,cY,fG,hx,cM,nE⟩:=kZ aV.1
    go_upto_region 11 with(first|(go_at_call 29;refine(gP.1 _ _ _ _ _ _ _ _ _ _ _ xn.1 (by decide) cf.1.d).mono ?_;rintro bk bf ⟨akG,k',a',j8,tA,ib,nW,cw,tB,s1,DX,rfl,fH,gM⟩;have NW:=I fH;have fP:=I (ey.then cf.1 gM);have dn:=I (gM.k _ _ _ aV.1 (by decide) l4);have iZ:=I (gM.k _ _ _ bj.1 (by decide) l4);have vm:=I (gM.k _ _ _ hE.1 (by decide) l4);clear fH gM;obtain⟨bW,bZ,b0,b1,b2,Z2,b3,b4,b5,b6,b7,b8⟩:=gO dn.1))
    clear cd cY fG hx cM nE;clear d0;clear bW b0 b2 b3 b5 b7 bZ b1 Z2 b4 b6 b8;clear cf aV bj hE;have bs:=C3 fP.1 dn.1 l4 bS.1.1 bS.1.2 (.int .u8 k') (.int .u8 a') (.int .u8 j8) (.int .i64 tA) (.slice ib nW cw) (.string tB);have cL:=(nT bf dC (.int .u8 k') (.int .u8 a') (.int .u8 j8) (.int .i64 tA) (.slice ib nW cw) (.string tB) w.heap.size l4).trans iZ.1;have iG:=(nT bf dC (.int .u8 k') (.int .u8 a') (.int .u8 j8) (.int .i64 tA) (.slice ib nW cw) (.string tB) (w.heap.size+1) l4).trans vm.1;generalize ((((((bf.setCell ⟨dC,0,none⟩ (.int .u8 k')).setCell ⟨dC,1,none⟩ (.int .u8 a')).setCell ⟨dC,2,none⟩ (.int .u8 j8)).setCell ⟨dC,3,none⟩ (.int .i64 tA)).setCell ⟨dC,4,none⟩ (.slice ib nW cw)).setCell ⟨dC,5,none⟩ (.string tB))=eJ at bs cL iG⊢;have cf:=I bs.1;have aV:=I bs.2;have bj:=I cL;have hE:=I iG;clear bs cL iG;clear fP dn iZ vm;rcases ai8.1 _ _ _ _ _ _ _ _ _ _ _ NW.1 with rfl|⟨ty,v,rfl⟩
    ·have d0:=(bg bj.1 0).trans rfl;obtain⟨cd,cY,fG,hx,cM,nE⟩:=kZ aV.1;obtain⟨f0,gQ⟩:=cf.1.d;have g0:eJ.cell? ⟨g,1,none⟩=some (.int .u8 af):=gQ.c 1;have NX:=gQ.z 1;have g1:eJ.cell? ⟨g,2,none⟩=some (.int .u8 f0.at_):=gQ.c 2;have NY:=gQ.z 2;have g2:eJ.cell? ⟨g,3,none⟩=some (.int .u8 f0.kU):=gQ.c 3;have NZ:=gQ.z 3;have g3:eJ.cell? ⟨g,4,none⟩=some (.int .i64 f0.po):=gQ.c 4;have N0:=gQ.z 4;have g4:eJ.cell? ⟨g,5,none⟩=some (f0.Hy):=gQ.c 5;have N1:=gQ.z 5;have g5:eJ.cell? ⟨g,6,none⟩=some (.string f0.str):=gQ.c 6;have N2:=gQ.z 6;clear gQ
     go_upto_region 14 with fail
     have bs:=ey.NR cf.1 k' a' j8 tA (.slice ib nW cw) tB;have cL:=(Bu (w:=eJ) (g:=g) (b:=w.heap.size) l4 (.int .u8 k') (.int .u8 a') (.int .u8 j8) (.int .i64 tA) (.slice ib nW cw) (.string tB)).trans bj.1;have iG:=(Bu (w:=eJ) (g:=g) (b:=w.heap.size+1) l4 (.int .u8 k') (.int .u8 a') (.int .u8 j8) (.int .i64 tA) (.slice ib nW cw) (.string tB)).trans hE.1;have zq:=(Bu (w:=eJ) (g:=g) (b:=dC) l4 (.int .u8 k') (.int .u8 a') (.int .u8 j8) (.int .i64 tA) (.slice ib nW cw) (.string tB)).trans aV.1;clear d0 g0 NX g1 NY g2 NZ g3 N0 g4 N1 g5 N2;clear cd cY fG hx cM nE;generalize ((((((eJ.setCell ⟨g,1,none⟩ (.int .u8 k')).setCell ⟨g,2,none⟩ (.int .u8 a')).setCell ⟨g,3,none⟩ (.int .u8 j8)).setCell ⟨g,4,none⟩ (.int .i64 tA)).setCell ⟨g,5,none⟩ (.slice ib nW cw)).setCell ⟨g,6,none⟩ (.string tB))=rv at bs cL iG zq⊢;have w7:=I bs;have dW:=I cL;have H1:=I iG;have kM:=I zq;clear bs cL iG zq;obtain⟨cd,cY,fG,hx,cM,nE⟩:=kZ kM.1;obtain⟨bW,bZ,b0,b1,b2,Z2,b3,b4,b5,b6,b7,b8⟩:=gO H1.1
     go_wp2_with fail
     have hn:=C3 w7.1 H1.1 (by omega) bS.1.1 bS.1.2 (.int .u8 k') (.int .u8 a') (.int .u8 j8) (.int .i64 tA) (.slice ib nW cw) (.string tB);refine Ib (P:=Q) (u:=.nilIface) ?_ ?_ ((nT _ (w.heap.size+1) (.int .u8 k') (.int .u8 a') (.int .u8 j8) (.int .i64 tA) (.slice ib nW cw) (.string tB) w.heap.size (by omega)).trans dW.1) hn.2 l4 hn.1 (fun aQ hd=>gK.1 _ _ _ _ _ _ _ _ _ _ aQ NW.1 hd);rfl;rfl
    ·have d0:=(bg bj.1 0).trans rfl;obtain⟨bW,bZ,b0,b1,b2,Z2,b3,b4,b5,b6,b7,b8⟩:=gO hE.1
     go_wp2_with fail
     refine Tk ?_;intro hn;refine Ib (P:=Q) (u:=.iface ty v) ?_ ?_ ((nT _ (w.heap.size+1) (.int .u8 0) (.int .u8 0) (.int .u8 0) (.int .i64 0) (.slice none 0 0) (.string ⟨#[]⟩) w.heap.size (by omega)).trans bj.1) hn.2 l4 hn.1 (fun aQ hd=>jJ.1 _ _ _ _ _ _ _ _ _ _ _ _ aQ NW.1 hd);rfl;rfl)
  ·have h1:k≠8:=fun e=>h0 (.inl e);have h2:k≠9:=fun e=>h0 (.inr e);clear h0;have dn:=I (And.intro h1 h2);have a1:(k==8)=false:=beq_eq_false_iff_ne.mpr h1;have bQ:(k==9)=false:=beq_eq_false_iff_ne.mpr h2;clear h1 h2;have d0:=(bg bj.1 0).trans rfl;obtain⟨cd,cY,fG,hx,cM,nE⟩:=kZ aV.1;obtain⟨f0,gQ⟩:=cf.1.d;have g0:ay.cell? ⟨g,1,none⟩=some (.int .u8 af):=gQ.c 1;have NX:=gQ.z 1;have g1:ay.cell? ⟨g,2,none⟩=some (.int .u8 f0.at_):=gQ.c 2;have NY:=gQ.z 2;have g2:ay.cell? ⟨g,3,none⟩=some (.int .u8 f0.kU):=gQ.c 3;have NZ:=gQ.z 3;have g3:ay.cell? ⟨g,4,none⟩=some (.int .i64 f0.po):=gQ.c 4;have N0:=gQ.z 4;have g4:ay.cell? ⟨g,5,none⟩=some (f0.Hy):=gQ.c 5;have N1:=gQ.z 5;have g5:ay.cell? ⟨g,6,none⟩=some (.string f0.str):=gQ.c 6;have N2:=gQ.z 6;clear gQ
   go_upto_region 14 with fail
   have bs:=ey.NR cf.1 k a n po (.slice A m c) x;have cL:=(Bu (w:=ay) (g:=g) (b:=w.heap.size) l4 (.int .u8 k) (.int .u8 a) (.int .u8 n) (.int .i64 po) (.slice A m c) (.string x)).trans bj.1;have iG:=(Bu (w:=ay) (g:=g) (b:=w.heap.size+1) l4 (.int .u8 k) (.int .u8 a) (.int .u8 n) (.int .i64 po) (.slice A m c) (.string x)).trans hE.1;have zq:=(Bu (w:=ay) (g:=g) (b:=dC) l4 (.int .u8 k) (.int .u8 a) (.int .u8 n) (.int .i64 po) (.slice A m c) (.string x)).trans aV.1;clear d0 g0 NX g1 NY g2 NZ g3 N0 g4 N1 g5 N2;clear cd cY fG hx cM nE;generalize ((((((ay.setCell ⟨g,1,none⟩ (.int .u8 k)).setCell ⟨g,2,none⟩ (.int .u8 a)).setCell ⟨g,3,none⟩ (.int .u8 n)).setCell ⟨g,4,none⟩ (.int .i64 po)).setCell ⟨g,5,none⟩ (.slice A m c)).setCell ⟨g,6,none⟩ (.string x))=rv at bs cL iG zq⊢;have w7:=I bs;have dW:=I cL;have H1:=I iG;have kM:=I zq;clear bs cL iG zq;obtain⟨cd,cY,fG,hx,cM,nE⟩:=kZ kM.1;obtain⟨bW,bZ,b0,b1,b2,Z2,b3,b4,b5,b6,b7,b8⟩:=gO H1.1
   go_wp2_with fail
   have hn:=C3 w7.1 H1.1 (by omega) bS.1.1 bS.1.2 (.int .u8 k) (.int .u8 a) (.int .u8 n) (.int .i64 po) (.slice A m c) (.string x);refine Ib (P:=Q) (u:=.nilIface) ?_ ?_ ((nT _ (w.heap.size+1) (.int .u8 k) (.int .u8 a) (.int .u8 n) (.int .i64 po) (.slice A m c) (.string x) w.heap.size (by omega)).trans dW.1) hn.2 l4 hn.1 (fun aQ hd=>hW.1 _ _ _ _ _ _ _ _ _ _ aQ xn.1 dn.1.1 dn.1.2 hd);rfl;rfl
 ·have d0:=(bg bj.1 0).trans rfl;obtain⟨bW,bZ,b0,b1,b2,Z2,b3,b4,b5,b6,b7,b8⟩:=gO hE.1
  go_wp2_with fail
  refine Tk ?_;intro hn;refine Ib (P:=Q) (u:=.iface ty v) ?_ ?_ ((nT _ (w.heap.size+1) (.int .u8 0) (.int .u8 0) (.int .u8 0) (.int .i64 0) (.slice none 0 0) (.string ⟨#[]⟩) w.heap.size (by omega)).trans bj.1) hn.2 l4 hn.1 (fun aQ hd=>gE.1 _ _ _ _ _ _ _ _ _ _ _ _ aQ xn.1 hd);rfl;rfl
end fx
