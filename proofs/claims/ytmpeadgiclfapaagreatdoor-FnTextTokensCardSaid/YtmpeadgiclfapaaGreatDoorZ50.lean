/- Part 48 of the proof (Rd5, Rd6, Rt1, Rt2, Lw2). Conditions: each theorem's own. -/
import Derived.Test.YtmpeadgiclfapaaGreatDoorZ49
set_option linter.all false
set_option maxHeartbeats 0
set_option maxRecDepth 100000
namespace Go.Proofs.YtmpeadgiclfapaaGreatDoor
namespace fx
open RowKit YtmpeadgiclfapaaGreatDoorW.PrintWords YtmpeadgiclfapaaGreatDoorW.PrintLast YtmpeadgiclfapaaGreatDoorW.PrintMore ei cP gJ eI eC gi j6 mG nt
theorem ai9:∀(n:Nat) (acc s br r:List Int),hH n acc s=.yes (br,r)→r.length<s.length:=by
 intro n
 induction n with
 |zero=>intro acc s br r h;cases h
 |succ n bb=>
  intro acc s br r h;obtain⟨m,c,t,aq,ak,_,_,h0⟩:=LV h;have h1:=kC s false;rw[ak,List.length_cons]at h1;obtain rfl:n=m:=by omega
  rcases h0 with⟨_,_,rfl⟩|⟨_,h0⟩
  ·omega
  ·have:=bb _ _ _ _ h0;omega
theorem aja{s:List Int}{k:Int}{n:Nat}{str:ByteArray}(h:fW s=.yes (k,n,str)):0<n:=by
 cases s with
 |nil=>cases h
 |cons c r=>
  by_cases ai:c=91
  ·subst ai;simp only[fW,if_true]at h;cases aU:pf r with
   |op=>rw[aU]at h;cases h
   |no=>rw[aU]at h;cases h
   |yes p=>
    obtain⟨br,bH⟩:=p;rw[aU]at h;simp only[jh.yes.injEq,Prod.mk.injEq]at h;have:=ai9 _ _ _ _ _ aU;omega
  ·rcases Vu h ai with h|h
   ·exact h.2.2.1
   ·exact h.2.2.2.1
structure gN(n:Nat)(r:nN):Prop where
 t:∀t c,r=.tok t c→c.s.length<n∧c.mode=t.f0∧(2≤t.f0∧t.f0≤7)
 s:∀c,r=.sep c→c.s.length<n
section
variable {B st jS s:List Int} {m k:Int}
theorem gN.err{n:Nat}:gN n .err:=⟨fun t c h=>(by cases h),fun c h=>(by cases h)⟩
theorem gN.eof{n:Nat}:gN n .eof:=⟨fun t c h=>(by cases h),fun c h=>(by cases h)⟩
theorem gN.op{n:Nat}:gN n .op:=⟨fun t c h=>(by cases h),fun c h=>(by cases h)⟩
theorem gN.one(ad:2≤k∧k≤7)(ak:s≠[]):gN s.length (one B k jS s):=by
 refine⟨fun t c h=>?_,fun c h=>by cases h⟩;cases h;have h0:=rI (s.drop 1);rw[List.length_drop]at h0;have h1:0<s.length:=List.length_pos_iff.mpr ak;exact⟨(by show(eM (s.drop 1)).length<s.length;omega),rfl,ad⟩
theorem gN.sep{r:List Int}{x:Int}:gN (x::r).length (.sep ⟨k,st,eM r⟩):=by
 refine⟨fun t c h=>(by cases h),fun c h=>?_⟩;cases h;have h0:=rI r
 show(eM r).length<(x::r).length
 rw[List.length_cons];omega
theorem gN.name:gN s.length (kD ca B st s):=by
 unfold kD;split
 ·exact gN.err
 ·exact gN.op
 ·rename_i k n str aX
  have hp:=aja aX;have h0:=rI (s.drop n);rw[List.length_drop]at h0
  have h1:0<s.length:=by
   cases s with
   |nil=>cases aX
   |cons a b=>simp
  split
  ·rename_i r au
   have h2:=rI r;have h3:r.length+1=(eM (s.drop n)).length:=by rw[au];rfl
   refine⟨fun t c ed=>?_,fun c ed=>by cases ed⟩;cases ed;exact⟨(by show(eM r).length<s.length;omega),rfl,show(2:Int)≤2∧(2:Int)≤7 by decide⟩
  ·refine⟨fun t c ed=>?_,fun c ed=>by cases ed⟩;cases ed;exact⟨(by show(eM (s.drop n)).length<s.length;omega),rfl,show(2:Int)≤2∧(2:Int)≤7 by decide⟩
theorem gN.NP:gN s.length (pb ca B st s):=by
 unfold pb;split
 ·exact gN.err
 ·exact gN.op
 ·rename_i n aX
  have hp:=Vf aX;have h0:=rI (s.drop n);rw[List.length_drop]at h0
  have h1:0<s.length:=by
   cases s with
   |nil=>cases aX
   |cons a b=>simp
  refine⟨fun t c ed=>?_,fun c ed=>by cases ed⟩;cases ed;exact⟨(by show(eM (s.drop n)).length<s.length;omega),rfl,show(2:Int)≤3∧(3:Int)≤7 by decide⟩
theorem gN.val:gN s.length (jG ca B st s):=by
 unfold jG;split
 ·exact gN.err
 ·split
  ·exact gN.one (by decide) (by simp)
  ·exact gN.NP
theorem gN.field:gN s.length (iF ca B st s):=by
 unfold iF;split
 ·exact gN.eof
 ·exact gN.err
 ·exact gN.name
 ·split
  ·exact gN.one (by decide) (by simp)
  ·split
   ·exact gN.err
   ·exact gN.name
theorem gN.step{c:fl}:gN c.s.length (next ca B c):=by
 obtain⟨m,st,s⟩:=c
 show gN s.length (next ca B ⟨m,st,s⟩)
 unfold next;split
 ·exact gN.field
 ·split
  ·split
   ·rename_i heq
    have heq:s=91::_:=heq;subst heq;exact gN.one (by decide) (by simp)
   ·exact gN.val
  ·split
   ·split
    ·split
     ·exact RL
     ·rename_i heq
      have heq:s=44::_:=heq;subst heq;exact gN.sep
     ·exact gN.err
    ·split
     ·rename_i heq
      have heq:s=44::_:=heq;subst heq;exact gN.sep
     ·rename_i heq
      have heq:s=59::_:=heq;subst heq;exact gN.sep
     ·exact gN.field
   ·split
    ·split
     ·exact RL
     ·exact gN.val
    ·split
     ·exact gN.val
     ·exact gN.field
theorem N3{c c1:fl}{t:cx}(h:eI.read ca B c=.tok t c1):c1.s.length<c.s.length∧c1.mode=t.f0∧(2≤t.f0∧t.f0≤7):=by
 unfold eI.read at h;split at h
 ·rename_i cw aq
  have h0:=gN.step.s cw aq;have h1:=gN.step.t t c1 h;exact⟨(by omega),h1.2⟩
 ·exact gN.step.t t c1 h
theorem ajb{c c1:fl}{t:cx}(aw:Good B c)(h:eI.read ca B c=.tok t c1):Good B c1:=by
 unfold eI.read at h;split at h
 ·rename_i cw aq
  exact(aw.step.s cw aq).step.t t c1 h
 ·exact aw.step.t t c1 h
theorem XD{c c1:fl}{l:List cx}(h:eI.Steps ca B c l c1):l.length+c1.s.length≤c.s.length:=by
 induction h with
 |nil c=>simp
 |cons c t c1 l c2 h1 _ bb=>
  have:=(N3 h1).1;rw[List.length_cons];omega
end
def Bv(w0:World)(r:nN)(hz:Value)(k a n po:Int)(A:Option Addr)(m c:Nat)(x:ByteArray)(eW fa:List Int):Prop:=
 match r with
 | .op=>False
 | .err=>∃ty v,hz=.iface ty v
 | .eof=>hz=.nilIface∧k=1∧a=0∧n=0∧m=0∧x=⟨#[]⟩∧dZ w0 A 0 c []
 | .tok t c1=>hz=.nilIface∧NI w0 (NV k a n po A m c x) t∧k=t.f0∧eW=c1.s∧fa=c1.st.reverse
 | .sep c1=>hz=.nilIface∧k=c1.mode∧eW=c1.s∧fa=c1.st.reverse
section
variable {w0 w w':World} {g:Nat} {B:List Int} {af:Int} {r:nN} {e:Ending}
theorem Bv.hz{hz:Value}{k a n po:Int}{A:Option Addr}{m c:Nat}{x:ByteArray}{eW fa:List Int}(h:Bv w0 r hz k a n po A m c x eW fa):hz=.nilIface∨∃ty v,hz=.iface ty v:=by
 cases r with
 |op=>exact h.elim
 |err=>exact .inr h
 |eof=>exact .inl h.1
 |tok t c1=>exact .inl h.1
 |sep c1=>exact .inl h.1
theorem gC.any(hp:gC w0 w g B 0 af r e w')(dR:r≠ .op):Ep w0 w g B af (Bv w0 r) e w':=by
 cases r with
 |op=>exact absurd rfl dR
 |err=>
  obtain⟨ty,v,he,eW,fa,hd⟩:=hp;exact⟨.iface ty v,0,0,0,0,none,0,0,⟨#[]⟩,eW,fa,he,⟨ty,v,rfl⟩,hd⟩
 |eof=>
  obtain⟨po,A,c,he,aZ,eW,fa,hd⟩:=hp;exact⟨.nilIface,1,0,0,po,A,0,c,⟨#[]⟩,eW,fa,he,⟨rfl,rfl,rfl,rfl,rfl,rfl,aZ⟩,hd⟩
 |tok t c=>
  obtain⟨v,he,aU,hm,hd⟩:=hp;have ajc:=aU;obtain⟨at_,kU,A,m,mR,mK,xs,rfl,_⟩:=ajc;exact⟨.nilIface,t.f0,at_,kU,t.f2,A,m,mR,mK,_,_,he,⟨rfl,aU,rfl,rfl,rfl⟩,hd⟩
 |sep c=>
  obtain⟨po,A,m,k,he,hd⟩:=hp;exact⟨.nilIface,c.mode,0,0,po,A,m,k,⟨#[]⟩,_,_,he,⟨rfl,rfl,rfl,rfl⟩,hd⟩
theorem ajd{hf s:List Int}{lc af:Int}(h:dK w0 w g B hf [] lc af)(ak:bc false hf=s)(cV:Lib.Utf8Tabs 4 5 w0)(cG:iS w0)(bN:0<w0.heap.size∧∃ty v,w0.cell? ⟨0,0,none⟩=some (.iface ty v))(h47:∀r,s=91::r→a6 (bc false r) 0≠47)(dR:next ca B ⟨0,[],s⟩≠ .op):lH g 0 w (gC w0 w g B lc af (next ca B ⟨0,[],s⟩)):=by
 have mj:∃k,s=B.drop k:=by
  obtain⟨f,aA⟩:=h;have:=MI aA.jE 0
  rwa[List.drop_zero,ak]at this
 rw[zo (.inl rfl)]at dR⊢;cases s with
 |nil=>exact(Xd h ak rfl).mono fun e w' hp=>gC.H4 hp
 |cons x t=>exact H5 (st:=[]) mj rfl rfl dR (Xe h ak rfl cV cG bN h47) (fun k n str=>Xf h ak rfl cV cG bN h47)
theorem aje{c:fl}{s1:List Int}(h:dK w0 w g B s1 c.st.reverse 0 c.mode)(h1:s1=c.s∨(c.mode=0∧bc false s1=c.s))(aw:Good B c)(cV:Lib.Utf8Tabs 4 5 w0)(cG:iS w0)(bN:0<w0.heap.size∧∃ty v,w0.cell? ⟨0,0,none⟩=some (.iface ty v))(h47:∀m r,B.drop m=91::r→a6 (bc false r) 0≠47)(dR:eI.read ca B c≠ .op):
 Calls Tryz.prog 20 #[.pointer (some ⟨g,0,none⟩)] w (Ia w0 w g B (eI.read ca B c)):=by
 have cR:∀{w1:World} {s st:List Int} {af:Int},dK w0 w1 g B s st 0 af→∀r,s=91::r→a6 (bc false r) 0≠47:=by
  intro w1 s st af h r au;obtain⟨f,aA⟩:=h;obtain⟨m,hm⟩:=aA.jE;exact h47 m r (hm▸au)
 have hlen:=h.len
 have an:c.st.reverse.length+1≤200000:=by
  have:=aw.l;rw[List.length_reverse];omega
 have xo:∀(bL:next ca B c≠ .op) W,dK w0 W g B s1 c.st.reverse 0 c.mode→lH g c.mode W (Ep w0 W g B c.mode (Bv w0 (next ca B c))):=by
  intro bL W fD;rcases h1 with rfl|⟨dV,bs⟩
  rotate_left
  ·obtain⟨m,st,s⟩:=c;have dV:m=0:=dV;subst dV;obtain rfl:st=[]:=aw.i.i0 rfl;have bs:bc false s1=s:=bs
   have hn:∀r,s=91::r→a6 (bc false r) 0≠47:=by
    obtain⟨f,aA⟩:=fD;have mj:=MI aA.jE 0;rw[List.drop_zero,bs]at mj;obtain⟨m,hm⟩:=mj;exact fun r au=>h47 m r (hm▸au)
   exact(ajd fD bs cV cG bN hn bL).mono fun e w' hp=>hp.any bL
  have e:(⟨c.mode,c.st.reverse.reverse,c.s⟩:fl)=c:=by rw[List.reverse_reverse]
  have hm:=Xu fD aw.k cV cG bN (cR fD) (by rw[List.reverse_reverse];exact aw.i) an (by rw[e];exact bL);rw[e]at hm;exact hm.mono fun e w' hp=>hp.any bL
 have Ie:∀r,next ca B c=r→(∀cw,r≠ .sep cw)→eI.read ca B c=r:=fun r h1 h0=>vy h1 h0;cases aq:next ca B c with
 |op=>exact absurd (Ie _ aq (fun cw h=>by cases h)) dR
 |err=>
  rw[Ie _ aq (fun cw h=>by cases h)];rw[aq]at xo
  exact Ic (Z2:=fun _ _ _ _ _ _ _ _ _ _ _=>False) h (xo (fun h=>by cases h)) (fun _ _ _ _ _ _ _ _ _ _ _ aG=>aG.hz)
   (fun ty v _ _ _ _ _ _ _ _ _ _ aQ aG hd=>⟨ty,v,rfl,_,_,_,hd⟩)
   (fun _ _ _ _ _ _ _ _ _ _ aQ aG _ _ hd=>by obtain⟨ty,v,aG⟩:=aG;cases aG)
   (fun _ _ _ _ _ _ _ _ _ _ W aG _ _=>by obtain⟨ty,v,aG⟩:=aG;cases aG)
   (fun _ _ _ _ _ _ _ _ _ _ _ aG=>aG.elim) (fun _ _ _ _ _ _ _ _ _ _ _ _ aQ aG=>aG.elim) (fun _ _ _ _ _ _ _ _ _ _ aQ aG=>aG.elim)
 |eof=>
  rw[Ie _ aq (fun cw h=>by cases h)];rw[aq]at xo
  exact Ic (Z2:=fun _ _ _ _ _ _ _ _ _ _ _=>False) h (xo (fun h=>by cases h)) (fun _ _ _ _ _ _ _ _ _ _ _ aG=>aG.hz)
   (fun ty v _ _ _ _ _ _ _ _ _ _ aQ aG hd=>by cases aG.1)
   (fun k a n po A m mR x eW fa aQ aG _ _ hd=>by obtain⟨_,rfl,rfl,rfl,rfl,rfl,aZ⟩:=aG;exact⟨po,A,mR,rfl,aZ,_,_,_,hd⟩)
   (fun k _ _ _ _ _ _ _ _ _ W aG ad _=>by have:=aG.2.1;omega)
   (fun _ _ _ _ _ _ _ _ _ _ _ aG=>aG.elim) (fun _ _ _ _ _ _ _ _ _ _ _ _ aQ aG=>aG.elim) (fun _ _ _ _ _ _ _ _ _ _ aQ aG=>aG.elim)
 |tok t c1=>
  have nr:=(gN.step (B:=B) (c:=c)).t t c1 aq;rw[Ie _ aq (fun cw h=>by cases h)];rw[aq]at xo
  exact Ic (Z2:=fun _ _ _ _ _ _ _ _ _ _ _=>False) h (xo (fun h=>by cases h)) (fun _ _ _ _ _ _ _ _ _ _ _ aG=>aG.hz)
   (fun ty v _ _ _ _ _ _ _ _ _ _ aQ aG hd=>by cases aG.1)
   (fun k a n po A m mR x eW fa aQ aG _ _ hd=>by obtain⟨_,aU,rfl,rfl,rfl⟩:=aG;exact⟨_,rfl,aU,nr.2.1,(by rw[nr.2.1];exact hd)⟩)
   (fun k _ _ _ _ _ _ _ _ _ W aG ad _=>by have:=aG.2.2.1;have:=nr.2.2;omega)
   (fun _ _ _ _ _ _ _ _ _ _ _ aG=>aG.elim) (fun _ _ _ _ _ _ _ _ _ _ _ _ aQ aG=>aG.elim) (fun _ _ _ _ _ _ _ _ _ _ aQ aG=>aG.elim)
 |sep c1=>
  obtain⟨dV,HP⟩:=ai4 aw aq;have nK:=aw.step.s c1 aq;have hz:eI.read ca B c=next ca B c1:=by unfold eI.read;rw[aq]
  have Ig:next ca B c1≠ .op:=by rw[←hz];exact dR
  have jf:c1.st.reverse.length+1≤200000:=by
   have:=nK.l;rw[List.length_reverse];omega
  have ajf:∀W,dK w0 W g B c1.s c1.st.reverse 0 c.mode→lH g c1.mode W (Ep w0 W g B c.mode (Bv w0 (next ca B c1))):=by
   intro W fD;have e:(⟨c1.mode,c1.st.reverse.reverse,c1.s⟩:fl)=c1:=by rw[List.reverse_reverse]
   have hm:=Xu fD nK.k cV cG bN (cR fD) (by rw[List.reverse_reverse];exact nK.i) jf (by rw[e];exact Ig);rw[e]at hm;exact hm.mono fun e w' hp=>hp.any Ig
  rw[hz];rw[aq]at xo
  refine Ic (Z2:=Bv w0 (next ca B c1)) h (xo (fun h=>by cases h)) (fun _ _ _ _ _ _ _ _ _ _ _ aG=>aG.hz)
   (fun ty v _ _ _ _ _ _ _ _ _ _ aQ aG hd=>by cases aG.1)
   (fun k _ _ _ _ _ _ _ _ _ aQ aG h2 h3 hd=>by have:=aG.2.1;omega)
   (fun k _ _ _ _ _ _ _ eW fa W aG ad hd=>by obtain⟨_,rfl,rfl,rfl⟩:=aG;exact ajf W hd)
   (fun _ _ _ _ _ _ _ _ _ _ _ aG=>aG.hz) ?_ ?_
  ·intro ty v k a n po A m mR x eW fa aQ aG hd;cases ry:next ca B c1 with
   |op=>exact absurd ry Ig
   |err=>exact⟨ty,v,rfl,_,_,_,hd⟩
   |eof=>rw[ry]at aG;cases aG.1
   |tok t c2=>rw[ry]at aG;cases aG.1
   |sep c2=>exact absurd ry (HP c2)
  ·intro k a n po A m mR x eW fa aQ aG hd;cases ry:next ca B c1 with
   |op=>exact absurd ry Ig
   |err=>rw[ry]at aG;obtain⟨ty,v,aG⟩:=aG;cases aG
   |eof=>
    rw[ry]at aG;obtain⟨_,rfl,rfl,rfl,rfl,rfl,aZ⟩:=aG;exact⟨po,A,mR,rfl,aZ,_,_,_,hd⟩
   |tok t c2=>
    have nr:=(gN.step (B:=B) (c:=c1)).t t c2 ry;rw[ry]at aG;obtain⟨_,aU,rfl,rfl,rfl⟩:=aG;exact⟨_,rfl,aU,nr.2.1,(by rw[nr.2.1];exact hd)⟩
   |sep c2=>exact absurd ry (HP c2)
end
end fx
namespace fx
open RowKit YtmpeadgiclfapaaGreatDoorW.PrintWords YtmpeadgiclfapaaGreatDoorW.PrintLast YtmpeadgiclfapaaGreatDoorW.PrintMore ei cP gJ eI eC gi j6 mG nt Hs
theorem ajg:(Tryz.prog.info? 31).map (fun i=>(i.zero,i.size,i.bytes))=some (some (.agg #[.int .i64 0,.int .i64 0,.int .i64 0,.bool false,.string ⟨#[]⟩,.string ⟨#[]⟩]),6,64):=by kernel_rfl
def Ih(x t:cx):Prop:=x.f0=t.f0∧x.f1=t.f1∧x.f2=t.f2∧x.f3=t.f3∧x.f5=t.f5∧(Ej t.f4∨x.f4=t.f4)
def oR:List cx→List cx→Prop
 |[],[]=>True
 |x::L,t::l=>Ih x t∧oR L l
 |_,_=>False
theorem oR.len:∀{L l:List cx},oR L l→L.length=l.length
 |[],[],_=>rfl
 |_::_,_::_,h=>by simp only[List.length_cons];rw[oR.len h.2]
 |[],_::_,h=>h.elim
 |_::_,[],h=>h.elim
theorem oR.snoc{x t:cx}(ae:Ih x t):∀{L l:List cx},oR L l→oR (L++[x]) (l++[t])
 |[],[],_=>⟨ae,trivial⟩
 |_::_,_::_,h=>⟨h.1,oR.snoc ae h.2⟩
 |[],_::_,h=>h.elim
 |_::_,[],h=>h.elim
def XE(t:cx)(mK s:ByteArray):cx:=⟨wrap64 t.f0,(nV t.f0 t.f1 t.f3 mK s).1,t.f2,(nV t.f0 t.f1 t.f3 mK s).2.1,s,(nV t.f0 t.f1 t.f3 mK s).2.2⟩
theorem XF{k:Int}(h:0≤k∧k≤7):wrap64 k=k:=by unfold wrap64;omega
theorem ajh{w0:World}{k a n po:Int}{A:Option Addr}{m c:Nat}{x:ByteArray}{t:cx}{xs:List Int}(ad:2≤t.f0∧t.f0≤7)(eD:t.f0=2→a=(if t.f3=true then t.f1+128 else t.f1)∧(t.f1=1∨t.f1=2∨t.f1=3)∧strOfNums xs=t.f4∧(t.f1=2→x=t.f5)∧(t.f1≠2→t.f5=strOfNums xs))(oP:t.f0≠2→t.f1=0∧t.f3=false∧t.f5=⟨#[]⟩∧(Ej t.f4∨strOfNums xs=t.f4)):Ih (XE t x (strOfNums xs)) t:=by
 have h0:wrap64 t.f0=t.f0:=XF (by omega);by_cases h1:t.f0=2
 ·obtain⟨_,h2,h3,h4,h5⟩:=eD h1;have e:nV t.f0 t.f1 t.f3 x (strOfNums xs)=(wrap64 t.f1,t.f3,if t.f1=2 then x else strOfNums xs):=if_pos h1;refine⟨h0,?_,rfl,?_,?_,.inr h3⟩
  ·show(nV t.f0 t.f1 t.f3 x (strOfNums xs)).1=t.f1
   rw[e];exact XF (by omega)
  ·show(nV t.f0 t.f1 t.f3 x (strOfNums xs)).2.1=t.f3
   rw[e]
  ·show(nV t.f0 t.f1 t.f3 x (strOfNums xs)).2.2=t.f5
   rw[e]
   show(if t.f1=2 then x else strOfNums xs)=t.f5
   by_cases h6:t.f1=2
   ·rw[if_pos h6];exact h4 h6
   ·rw[if_neg h6];exact(h5 h6).symm
 ·obtain⟨h2,h3,h4,h5⟩:=oP h1;have e:nV t.f0 t.f1 t.f3 x (strOfNums xs)=(0,false,⟨#[]⟩):=if_neg h1;refine⟨h0,?_,rfl,?_,?_,h5⟩
  ·show(nV t.f0 t.f1 t.f3 x (strOfNums xs)).1=t.f1
   rw[e,h2]
  ·show(nV t.f0 t.f1 t.f3 x (strOfNums xs)).2.1=t.f3
   rw[e,h3]
  ·show(nV t.f0 t.f1 t.f3 x (strOfNums xs)).2.2=t.f5
   rw[e,h4]
section
variable {w0 w w1:World} {g:Nat} {B s st:List Int} {lc af:Int} {base:Nat} {ok:Nat→Prop} {v:Value} {L:List cx}
theorem N4(h:ab.R l0 31 w base (fun k=>k≠g) v L)(hd:ey w0 w w1 g B s st lc af):ab.R l0 31 w1 base (fun k=>k≠g) v L:=by
 have h0:=ab.BD h
 have h1:=ab.Ev (w1:=w1) h0 (fun k ad=>by
  obtain⟨aY,_,_,q,ar,cells,ai⟩:=ad
  have iz:q≠5:=by
   have:q∈[31]:=ar;rw[List.mem_singleton]at this;omega
  rw[hd.k k cells q ai iz aY,ai])
 exact ab.mn h1 (fun k ad=>ad.1)
theorem dK.aji(h:dK w0 w g B s st lc af)(ew:ab.R l0 31 w base ok v L)(U:w0.heap.size≤base)(sg:w.grownBy w1 v.ownBlock):dK w0 w1 g B s st lc af:=by
 obtain⟨f,aA⟩:=h
 exact⟨f,qF aA.ft sg (ab.pV ew aA.ft (by decide)),aA.ge,XU aA.bu _ aA.bu.size sg (fun k ad=>Nat.le_trans U (ab.xy ew k ad)),aA.pQ,aA.gm,aA.jE,
  ab.Yv aA.hS ew (fun q ar=>by simp only[ab.int,ab.scalar,List.mem_singleton]at ar;subst ar;decide) sg,aA.sz,aA.sl,aA.lP⟩
end
def uH(B:List Int)(fin:Bool)(c:fl)(l:List cx):Prop:=∃cw,eI.Steps ca B c l cw∧eI.read ca B cw=if fin=true then .eof else .err
section
variable {B:List Int} {fin:Bool} {c:fl}
theorem uH.M0(h:uH B fin c []):eI.read ca B c=if fin=true then .eof else .err:=by
 obtain⟨cw,h0,h1⟩:=h;cases h0;exact h1
theorem uH.ajj{t:cx}{l:List cx}(h:uH B fin c (t::l)):∃c1,eI.read ca B c=.tok t c1∧uH B fin c1 l:=by
 obtain⟨cw,h0,h1⟩:=h;cases h0 with
 |cons _ _ c1 _ _ h3 h4=>exact⟨c1,h3,cw,h4,h1⟩
end
def ajk(w0:World)(fin:Bool)(l:List cx)(e:Ending)(w':World):Prop:=
 ∃A c L,e=.returned (.tuple #[.slice A L.length c,.bool fin])∧Below w0.heap.size w0 w'∧ab.R l0 31 w' w0.heap.size (fun _=>True) (.slice A L.length c) L∧oR L l
structure XG(w0 W:World)(g:Nat)(B:List Int)(fin:Bool)(l:List cx)(c:fl)(s1:List Int)(L cC rest:List cx)(A:Option Addr)(xp:Nat):Prop where
 d:dK w0 W g B s1 c.st.reverse 0 c.mode
 h1:s1=c.s∨(c.mode=0∧bc false s1=c.s)
 xE:Good B c
 hz:uH B fin c rest
 sp:l=cC++rest
 Ii:oR L cC
 R:ab.R l0 31 W w0.heap.size (fun k=>k≠g) (.slice A L.length xp) L
theorem ajl{w0 w:World}{g:Nat}{B s1:List Int}{c0:fl}(h:dK w0 w g B s1 c0.st.reverse 0 c0.mode)(h1:s1=c0.s∨(c0.mode=0∧bc false s1=c0.s))(aw:Good B c0)(cV:Lib.Utf8Tabs 4 5 w0)(cG:iS w0)(bN:0<w0.heap.size∧∃ty v,w0.cell? ⟨0,0,none⟩=some (.iface ty v))(h47:∀m r,B.drop m=91::r→a6 (bc false r) 0≠47)(fin:Bool)(l:List cx)(an:uH B fin c0 l)(aq:l.length≤100000):
 Calls Tryz.prog 10 #[.pointer (some ⟨g,0,none⟩),.slice none 0 0] w (ajk w0 fin l):=by
 have bE:=I (show XG w0 w g B fin l c0 s1 [] [] l none 0 from⟨h,h1,aw,an,rfl,trivial,ab.sw _ _ _ _ _⟩);have uG:=I (fun(W:World) (c:fl) (s:List Int) (hd:dK w0 W g B s c.st.reverse 0 c.mode) (ak:s=c.s∨(c.mode=0∧bc false s=c.s)) (ajm:Good B c) (dR:eI.read ca B c≠ .op)=>aje hd ak ajm cV cG bN h47 dR);have bV:=I aq;clear h h1 aw cV cG bN h47 an aq;go_enter Tryz.func10,Tryz.ntmps10
 go_wp2_with fail
 go_loopg [6] l.length (fun k v0 w'=>∃(c:fl) (s:List Int) (L cC rest:List cx) (A:Option Addr) (xp:Nat),v0=.slice A L.length xp∧aN (k=rest.length)∧aN (XG w0 w' g B fin l c s L cC rest A xp))
 case atStart=>exact⟨c0,s1,[],[],l,none,0,rfl,⟨rfl⟩,bE⟩
 case round=>
  obtain⟨c,s,L,cC,rest,ao,xp,rfl,aV,dx⟩:=hrel;obtain⟨ajn,N5⟩:∃n,n=L.length:=⟨_,rfl⟩;rw[←N5];have fv:=I N5;clear N5;cases rest with
  |nil=>
   have oe:=dx.1.hz.M0;cases fin with
   |true=>
    have Er:=I (show Calls Tryz.prog 20 #[.pointer (some ⟨g,0,none⟩)] _ (Ia w0 _ g B .eof)from oe▸uG.1 _ c s dx.1.d dx.1.h1 dx.1.xE Jo);clear oe
    go_wp2_with(first|(go_at_call 20;refine Er.1.mono ?_;rintro bk w1 hp;obtain⟨po,bd,c9,rfl,bO,hf,ru,ajo,gM⟩:=hp;have dO:=I gM;clear bO gM)|(go_at_call 21;refine(C8 _ _ _ _ _ _ _ _ _).mono ?_;rintro bk bf ⟨rfl,az⟩;have cT:=I (cn (gV w1 (.cells #[.int .u8 1,.int .u8 0,.int .u8 0,.int .i64 po,.slice bd 0 c9,.string ⟨#[]⟩] 47)) az);have aC:=I (bw (da (Below.refl w1.heap.size w1) (.cells #[.int .u8 1,.int .u8 0,.int .u8 0,.int .i64 po,.slice bd 0 c9,.string ⟨#[]⟩] 47)) (Nat.le_refl _) az);clear az))
    go_ret2;refine⟨ao,xp,L,(by rw[fv.1];rfl),dq dO.1.l dO.1.l.size aC.1,ab.mn (ab.nZ (N4 dx.1.R dO.1) aC.1) (fun _ _=>trivial),?_⟩;have:=dx.1.sp;rw[List.append_nil]at this;rw[this];exact dx.1.Ii
   |false=>
    have Er:=I (show Calls Tryz.prog 20 #[.pointer (some ⟨g,0,none⟩)] _ (Ia w0 _ g B .err)from oe▸uG.1 _ c s dx.1.d dx.1.h1 dx.1.xE Jo);clear oe
    go_wp2_with(first|(go_at_call 20;refine Er.1.mono ?_;rintro bk w1 hp;obtain⟨ty,v,rfl,hf,ru,ajo,gM⟩:=hp;refine AF ?_;have dO:=I gM;clear gM))
    go_ret2;refine⟨ao,xp,L,(by rw[fv.1];rfl),dq dO.1.l dO.1.l.size (da (Below.refl _ _) _),ab.mn (ab.nZ (N4 dx.1.R dO.1) (da (Below.refl _ _) _)) (fun _ _=>trivial),?_⟩;have:=dx.1.sp;rw[List.append_nil]at this;rw[this];exact dx.1.Ii
  |cons t rest=>
   obtain⟨c1,oe,Es⟩:=dx.1.hz.ajj;have Ij:=I Es;have fU:=I oe;have Er:=I (show Calls Tryz.prog 20 #[.pointer (some ⟨g,0,none⟩)] _ (Ia w0 _ g B (.tok t c1))from oe▸uG.1 _ c s dx.1.d dx.1.h1 dx.1.xE Jo);have N6:=I (N3 oe);have a1:(t.f0==1)=false:=beq_eq_false_iff_ne.mpr (by have:=(N3 oe).2.2;omega);clear oe Es
   go_upto_region 10 with(first|(go_at_call 20;refine Er.1.mono ?_;rintro bk w1 hp;obtain⟨v1,rfl,hv,dV,gM⟩:=hp;obtain⟨at_,kU,bd,m0,c9,mK,xs,rfl,bO,Ik,XH⟩:=hv;have dO:=I gM;have bl:=I bO;have ajp:=I (ajh (w0:=w0) (k:=0) (n:=0) (po:=0) (A:=none) (m:=0) (c:=0) N6.1.2.2 Ik XH);have p7:=I (show t.f0≠2∨(t.f0=2∧(t.f1=1∨t.f1=2∨t.f1=3)∧at_=(if t.f3=true then t.f1+128 else t.f1))from by by_cases h0:t.f0=2;exact .inr ⟨h0,(Ik h0).2.1,(Ik h0).1⟩;exact .inl h0);clear bO gM Ik XH dV)|(go_at_call 21;refine(C8 _ _ _ _ _ _ _ _ _).mono ?_;rintro bk bf ⟨rfl,az⟩;have cT:=I (cn (gV w1 (.cells #[.int .u8 t.f0,.int .u8 at_,.int .u8 kU,.int .i64 t.f2,.slice bd m0 c9,.string mK] 47)) az);have aC:=I (bw (da (Below.refl w1.heap.size w1) (.cells #[.int .u8 t.f0,.int .u8 at_,.int .u8 kU,.int .i64 t.f2,.slice bd m0 c9,.string mK] 47)) (Nat.le_refl _) az);clear az;obtain⟨r4,r5,tY,tZ,ua,ub⟩:=kZ cT.1))
   have bM:=I (dq dO.1.l dO.1.l.size aC.1);have cK:=I (ab.nZ (N4 dx.1.R dO.1) aC.1);have fP:=I (dO.1.d.below aC.1)
   have nj:=I (show∀W,Below bf.heap.size bf W→(convert 22 9 (.slice bd m0 c9)).run Tryz.prog W=.ok (.string (strOfNums xs)) W from fun W fD=>by
    obtain⟨hC,rfl,_⟩:=bl.1.below (dq bM.1 bM.1.size fD);exact ab.rK (P:=Tryz.prog) (c:=c9) Tryz.underlying22 Tryz.underlying5 Tryz.underlying9 hC)
   have XI:=I (ah9 (n:=kU) (po:=t.f2) (x:=mK) nj.1 p7.1);obtain⟨al,aW⟩:∃al,al=XE t mK (strOfNums xs):=⟨_,rfl⟩;have df:=I aW;have ajq:=I (show Calls Tryz.prog 22 #[.agg #[.int .u8 t.f0,.int .u8 at_,.int .u8 kU,.int .i64 t.f2,.slice bd m0 c9,.string mK]] bf (qz bf (.agg #[.int .i64 al.f0,.int .i64 al.f1,.int .i64 al.f2,.bool al.f3,.string al.f4,.string al.f5]))from by rw[aW];exact XI.1);clear aW XI aC cT
   go_wp2_with(first|(go_at_call 22;refine ajq.1.mono ?_;rintro bk w1 ⟨rfl,az⟩;have aC:=I az;clear az)|(at_builtin;go_loud (refine ab.sy l0 (w0:=w0) w0.heap.size rfl (.tmp 36) (.tmp 39) 27 31 (.agg #[.int .i64 0,.int .i64 0,.int .i64 0,.bool false,.string ⟨#[]⟩,.string ⟨#[]⟩]) 64 rfl Tryz.underlying27 ajg rfl (by decide) (by decide) (.slice ao ajn xp) L al [.int .i64 al.f0,.int .i64 al.f1,.int .i64 al.f2,.bool al.f3,.string al.f4,.string al.f5] (fun k=>k≠g) (fun _=>False) rfl iW (BX _ _ _ al) (fun _ ad=>ad.elim) ?aF ?aO (dq bM.1 bM.1.size aC.1) ?aS ?aL ?_);(case aF=>exact(fun k ad e=>by have:=(fP.1.below aC.1).lt;omega));(case aO=>exact(by rw[fv.1];exact ab.nZ cK.1 aC.1));(case aS=>exact(dq bM.1 bM.1.size aC.1).size);(case aL=>exact(by have h0:=dx.1.sp;have h2:=dx.1.Ii.len;have h3:=bV.1;rw[h0,List.length_append,List.length_cons]at h3;omega));intro v1 w1 aY U aw ea;obtain⟨bd,m0,aZ⟩:=ab.pU aY;subst aZ;have hT:=I aY;have l7:=I U;have qb:=I aw;clear aY U aw ea))
   go_roundg rest.length
   case measure=>have:=aV.1;rw[List.length_cons]at this;omega
   case rel=>
    exact⟨c1,c1.s,L++[al],cC++[t],rest,bd,m0,(by rw[List.length_append];rfl),⟨rfl⟩,⟨⟨(by rw[N6.1.2.1];exact dK.aji (N6.1.2.1▸fP.1.below aC.1) (by rw[fv.1];exact ab.nZ cK.1 aC.1) (Nat.le_refl _) qb.1),.inl rfl,ajb dx.1.xE fU.1,Ij.1,(by rw[dx.1.sp,List.append_assoc];rfl),oR.snoc (by rw[df.1];exact ajp.1) dx.1.Ii,hT.1⟩⟩⟩
def XJ(A:Option Addr)(n c:Nat):Obj:=.cells #[.int .u8 0,.int .u8 0,.int .u8 0,.int .u8 0,.int .i64 0,.slice none 0 0,.string ⟨#[]⟩,.nilIface,.slice none 0 0,.slice A n c,.slice A n c] 56
theorem ajr(A:Option Addr)(n c:Nat)(w:World):Calls Tryz.prog 11 #[.slice A n c] w fun e w'=>e=.returned (.pointer (some ⟨w.heap.size,0,none⟩))∧w'=w.alloc (XJ A n c):=by
 go_enter Tryz.func11,Tryz.ntmps11
 go_wp2_with fail
 go_ret;exact⟨rfl,rfl⟩
theorem ajs{w:World}{A:Option Addr}{c:Nat}{B:List Int}(pj:dZ w A B.length c B)(ak:B.length≤100000)(bG:∀x∈B,0≤x∧x<256):dK w (w.alloc (XJ A B.length c)) w.heap.size B B [] 0 0:=
 ⟨⟨0,0,0,.slice none 0 0,⟨#[]⟩,.nilIface,none,0,A,c,A,c⟩,gV w _,Nat.le_refl _,da (Below.refl _ _) _,pj,pj,⟨0,rfl⟩,ab.sw _ _ _ _ _,ak,Nat.zero_le _,bG⟩
def ajt(w:World)(fin:Bool)(l:List cx)(e:Ending)(w':World):Prop:=
 ∃A c L,e=.returned (.tuple #[.slice A L.length c,.bool fin])∧Below w.heap.size w w'∧ab.C l0 w' A L.length L∧L.length≤c∧oR L l
theorem aju{w:World}{A:Option Addr}{c:Nat}{B:List Int}(hC:ab.C (ab.int .u8) w A B.length B)(ai:B.length≤c)(ak:B.length≤100000)(bG:∀x∈B,0≤x∧x<256)(cV:Lib.Utf8Tabs 4 5 w)(cG:iS w)(bN:0<w.heap.size∧∃ty v,w.cell? ⟨0,0,none⟩=some (.iface ty v))(h47:∀m r,B.drop m=91::r→a6 (bc false r) 0≠47)(fin:Bool)(l:List cx)(an:uH B fin (so B) l):
 Calls Tryz.prog 8 #[.slice A B.length c] w (ajt w fin l):=by
 have XK:=Df.calls A c B B w hC ai (by unfold Df.f;simp only[Option.bind_some,List.length_nil,List.nil_append];rw[if_pos (by omega)])
 have aq:l.length≤100000:=by
  obtain⟨cw,h0,_⟩:=an;have h1:=XD h0;have h2:=rI B;have h3:(so B).s.length=(eM B).length:=rfl;omega
 have ajv:=I XK
 have ajw:=I (fun(w1:World) (ao:Option Addr) (c1:Nat) (U:Below w.heap.size w w1) (aZ:dZ w1 ao B.length c1 B)=>
  ajl (w0:=w1) (c0:=so B) (ajs aZ ak bG) (.inr ⟨rfl,rfl⟩) (Good.so B) (Utf8Tabs_below cV U) (cG.below U) ⟨Nat.lt_of_lt_of_le bN.1 U.size,(by obtain⟨ty,v,h⟩:=bN.2;exact⟨ty,v,(U.cell bN.1).trans h⟩)⟩ h47 fin l an aq)
 clear XK aq hC ai ak bG cV cG bN h47 an;go_enter Tryz.func8,Tryz.ntmps8
 go_wp2_with(first|(go_at_call 12;refine ajv.1.mono ?_;rintro bk w1 ⟨v0,rfl,au,U⟩;obtain⟨ao,c1,rfl⟩:=ab.pU au;have aC:=I U;have bl:=I (ab.pt au);clear au U)|(go_at_call 11;refine(ajr _ _ _ _).mono ?_;rintro bk bf ⟨rfl,rfl⟩)|(go_at_call 10;refine(ajw.1 w1 ao c1 aC.1 ⟨bl.1.2.2,rfl,bl.1.2.1⟩).mono ?_;rintro bk bf ⟨bd,c3,L,rfl,az,bP,Il⟩;have dW:=I (And.intro az (And.intro bP Il));clear az bP Il))
 go_ret2;obtain⟨az,bP,Il⟩:=dW.1;obtain⟨_,h1,h2⟩:=ab.pt bP;exact⟨bd,c3,L,rfl,dq aC.1 aC.1.size az,h2,h1,Il⟩
end fx
namespace wP
open RowKit YtmpeadgiclfapaaGreatDoorW.PrintWords YtmpeadgiclfapaaGreatDoorW.PrintLast YtmpeadgiclfapaaGreatDoorW.PrintMore ei cP eI nt fx gi
def Im(w:World)(e:Ending)(w':World):Prop:=e=.returned (.bool true)∧Below w.heap.size w w'
section
variable {w:World} {A:Option Addr} {c:Nat} {B:List Int}
theorem ajx(h:2147483647<B.length):Calls Tryz.prog 3 #[.slice A B.length c] w (Im w):=by
 have a1:decide ((2147483647:Int)<(B.length:Int))=true:=decide_eq_true (by omega);have bQ:decide (2147483647<B.length)=true:=decide_eq_true h;exact P7
theorem ajy(h:4000<B.length)(h2:¬2147483647<B.length):Calls Tryz.prog 3 #[.slice A B.length c] w (Im w):=by
 have a1:decide ((2147483647:Int)<(B.length:Int))=false:=decide_eq_false (by omega);have bQ:decide (2147483647<B.length)=false:=decide_eq_false h2;have fs:decide ((4000:Int)<(B.length:Int))=true:=decide_eq_true (by omega);have ku:decide (4000<B.length)=true:=decide_eq_true h;exact P7
end
end wP
