/- Part 17 of the proof (Ts2). Conditions: each theorem's own. -/
import Derived.Test.YtmpeadgiclfapaaGreatDoorZ17
import Derived.Test.YtmpeadgiclfapaaGreatDoorZ18
set_option linter.all false
set_option maxHeartbeats 0
set_option maxRecDepth 100000
namespace Go.Proofs.YtmpeadgiclfapaaGreatDoor
namespace eC
open RowKit YtmpeadgiclfapaaGreatDoorW.PrintWords YtmpeadgiclfapaaGreatDoorW.PrintLast YtmpeadgiclfapaaGreatDoorW.PrintMore ei cP gJ
def qT(c:Int):Bool:=(decide (c<32)&&c !=9)||c==127
def mf:Nat→Int→Bool→List Int→Option (Bool×List Int)
 |0,_,_,_=>none
 |_+1,_,_,[]=>none
 |n+1,q,op,c::r=>if c=q then some (op,r)else if c=10 then none else if c=92 then(match hP r with
  |none=>none
  |some (o,bH)=>mf n q (op||o) bH)else mf n q (op||qT c) r
def gB(q:Int)(op:Bool)(s:List Int):Option (Bool×List Int):=mf (s.length+1) q op s
theorem adn:∀(i:Nat) (n:Int) (s:List Int),∃m,(ji i n s).2=s.drop m:=by
 intro i
 induction i with
 |zero=>intro n s;exact⟨0,rfl⟩
 |succ i bb=>
  intro n s;cases s with
  |nil=>exact⟨0,rfl⟩
  |cons d r=>
   simp only[ji];split
   ·obtain⟨m,hm⟩:=bb (8*n+(d-48)) r;exact⟨m+1,hm⟩
   ·exact⟨0,rfl⟩
theorem UJ:∀(d:Nat) (n:Int) (s:List Int) (o:Bool) (r:List Int),kk d n s=some (o,r)→∃m,r=s.drop m:=by
 intro d
 induction d with
 |zero=>intro n s o r h;simp only[kk,Option.some.injEq,Prod.mk.injEq]at h;exact⟨0,h.2.symm⟩
 |succ d bb=>
  intro n s o r h;cases s with
  |nil=>simp[kk]at h
  |cons c t=>
   simp only[kk]at h;split at h
   ·obtain⟨m,hm⟩:=bb _ _ _ _ h;exact⟨m+1,hm⟩
   ·cases h
theorem ado(s:List Int)(o:Bool)(r:List Int)(h:uB s=some (o,r)):∃m,r=s.drop m:=by
 cases s with
 |nil=>simp only[uB,Option.some.injEq,Prod.mk.injEq]at h;exact⟨0,h.2.symm⟩
 |cons c t=>
  simp only[uB]at h;split at h
  ·cases t with
   |nil=>simp only[Option.some.injEq,Prod.mk.injEq]at h;exact⟨1,h.2.symm⟩
   |cons c2 t2=>
    simp only at h;split at h
    ·refine r2 ?_;clear h;intro h;exact⟨2,h.2.symm⟩
    ·refine r2 ?_;clear h;intro h;exact⟨1,h.2.symm⟩
  ·exact F1
theorem UK(s:List Int)(o:Bool)(r:List Int)(h:hP s=some (o,r)):∃m,r=s.drop m:=by
 cases s with
 |nil=>cases h
 |cons c t=>
  have up:(∃m,r=t.drop m)→∃m,r=(c::t).drop m:=fun⟨m,hm⟩=>⟨m+1,hm⟩;refine up ?_;simp only[hP]at h;split at h
  ·exact F1
  ·split at h
   ·refine r2 ?_;clear h;intro h;obtain⟨m,hm⟩:=adn 2 (c-48) t;exact⟨m,h.2.symm.trans hm⟩
   ·split at h
    ·exact ado _ _ _ h
    ·split at h
     ·exact UJ _ _ _ _ _ h
     ·split at h
      ·exact UJ _ _ _ _ _ h
      ·split at h
       ·exact F1
       ·cases h
theorem adp(q:Int):∀(n m:Nat) (op:Bool) (s:List Int),s.length<n→s.length<m→mf n q op s=mf m q op s:=by
 intro n
 induction n with
 |zero=>intro m op s h;omega
 |succ n bb=>
  intro m op s h0 h1;obtain⟨m,rfl⟩:∃k,m=k+1:=⟨m-1,(by omega)⟩;cases s with
  |nil=>rfl
  |cons c r=>
   simp only[List.length_cons]at h0 h1;simp only[mf];split
   ·rfl
   ·split
    ·rfl
    ·split
     ·cases he:hP r with
      |none=>rfl
      |some x=>
       obtain⟨o,bH⟩:=x;have:=He r o bH he;exact bb m _ bH (by omega) (by omega)
     ·exact bb m _ r (by omega) (by omega)
section
variable (q:Int) (op:Bool)
include q op
theorem UL:gB q op []=none:=rfl
theorem L1(r:List Int):gB q op (q::r)=some (op,r):=by unfold gB;rw[List.length_cons,mf,if_pos rfl]
theorem UM(r:List Int)(h:¬10=q):gB q op (10::r)=none:=by unfold gB;rw[List.length_cons,mf,if_neg h,if_pos rfl]
theorem UN(r:List Int)(h:¬92=q)(he:hP r=none):gB q op (92::r)=none:=by
 unfold gB;rw[List.length_cons,mf,if_neg h,if_neg (by decide),if_pos rfl,he]
theorem Hg(r bH:List Int)(o:Bool)(h:¬92=q)(he:hP r=some (o,bH)):gB q op (92::r)=gB q (op||o) bH:=by
 unfold gB;rw[List.length_cons,mf,if_neg h,if_neg (by decide),if_pos rfl,he];have:=He r o bH he;exact adp q _ _ _ bH (by omega) (by omega)
theorem Db(c:Int)(r:List Int)(h:¬c=q)(h2:¬c=10)(h3:¬c=92):gB q op (c::r)=gB q (op||qT c) r:=by
 unfold gB;rw[List.length_cons,mf,if_neg h,if_neg h2,if_neg h3]
end
theorem UO(q:Int):∀(n:Nat) (op:Bool) (s:List Int) (o:Bool) (r:List Int),mf n q op s=some (o,r)→r.length<s.length:=by
 intro n
 induction n with
 |zero=>intro op s o r h;cases h
 |succ n bb=>
  intro op s o r h;cases s with
  |nil=>cases h
  |cons c t=>
   simp only[mf]at h;simp only[List.length_cons];split at h
   ·refine r2 ?_;clear h;intro h;rw[←h.2];omega
   ·split at h
    ·cases h
    ·split at h
     ·cases he:hP t with
      |none=>rw[he]at h;cases h
      |some x=>
       obtain⟨o',bH⟩:=x;rw[he]at h;have h0:=He t o' bH he;have h1:=bb _ _ _ _ h;omega
     ·have:=bb _ _ _ _ h;omega
inductive uC (B:List Int) (p:Nat):Nat→Int→Prop
 |no (h:gB (rd B (p:Int)) false (B.drop (p+1))=none) (q:Nat):uC B p q 0
 |yes (o:Bool) (r:List Int) (h:gB (rd B (p:Int)) false (B.drop (p+1))=some (o,r)) (q:Nat) (ar:q=B.length-r.length) (told:Int) (aU:told=2∨(told=1∧o=false∧iQ ((B.take q).drop p))):uC B p q told
structure fI(w0 w W:World)(g:Nat)(B:List Int)(q:Nat)(hd:fC)(v:Value)(xs:List Int):Prop where
 st:cj w0 W g B (q:Int) 1 hd
 bu:Below w0.heap.size w0 W
 sX:cI w W g none
 r:ab.R (ab.int .u8) 5 W w.heap.size (fun k=>k≠g) v xs
 le:q≤B.length
section
variable {w0 w W aQ:World} {g:Nat} {B:List Int} {q:Nat} {hd:fC} {v:Value} {xs:List Int}
theorem fI.below(h:fI w0 w W g B q hd v xs)(U:Below W.heap.size W aQ):fI w0 w aQ g B q hd v xs:=
 ⟨h.st.below U,dq h.bu h.bu.size U,h.sX.trans (cI.kn U g none) (.inl rfl),ab.nZ h.r U,h.le⟩
theorem fI.drewN(h:fI w0 w W g B q hd v xs)(m:Nat):fI w0 w (W.drewN m) g B q hd v xs:=h.below (jI (Below.refl _ _) m)
theorem fI.drew(h:fI w0 w W g B q hd v xs):fI w0 w W.drew g B q hd v xs:=h.below (kH (Below.refl _ _))
theorem fI.setAt(h:fI w0 w W g B q hd v xs)(iP:Nat)(ar:iP≤B.length):fI w0 w (W.setCell ⟨g,1,none⟩ (.int .i64 (iP:Int))) g B iP hd v xs:=
 ⟨h.st.xI _,h.bu.setCell h.st.ge _,h.sX.zs 1 _,ab.mo h.r (fun _ ad=>ad) _,ar⟩
theorem fI.fresh(h:fI w0 w W g B q hd v xs):∀k,W.heap.size≤k→k≠g:=h.st.fresh
theorem fI.grow(h:fI w0 w W g B q hd v xs){v1:Value}{ys:List Int}(aY:ab.R (ab.int .u8) 5 aQ w.heap.size (fun k=>k≠g) v1 ys)(U:Below w.heap.size W aQ)(aw:W.grownBy aQ v.ownBlock)(hw:w0.heap.size≤w.heap.size):fI w0 w aQ g B q hd v1 ys:=
 ⟨h.st.grown aw (cj.vM h.st h.r (by decide)),IF h.bu hw U,h.sX.trans (cI.BA aw g) (ab.EB h.r),aY,h.le⟩
theorem fI.fL(h:fI w0 w W g B q hd v xs):∃(ao:Option Addr) (c0:Nat),W.cell? ⟨g,0,none⟩=some (.slice ao B.length c0)∧W.cell? ⟨g,1,none⟩=some (.int .i64 (q:Int))∧W.frozen? ⟨g,1,none⟩=false∧aN (ab.C (ab.int .u8) w0 ao B.length B∧B.length≤c0):=by
 obtain⟨ao,c0,bd,c3,U,aw,bP,rfl,rfl,eT⟩:=h.st;exact⟨ao,c0,(bg U 0).trans rfl,(bg U 1).trans rfl,fy U 1,⟨bP,eT⟩⟩
section
variable {p:Nat} {l:List cx} (h:cu w0 w g B p 1 l)
include h
theorem fI.init:fI w0 w w g B p h.st.choose (.slice none 0 0) []:=
 ⟨h.st.choose_spec.1,h.bu,cI.refl _ _ _,ab.sw _ _ _ _ _,h.le⟩
theorem fI.tx(s:fI w0 w W g B q h.st.choose v xs):cu w0 W g B q 1 l:=h.wO rfl s.st s.bu s.sX s.le
end
section
variable (h:fI w0 w W g B q hd v xs) (dw:B.length≤100000) (ar:q<B.length)
include h dw ar
theorem adq(he:hP (B.drop (q+1))=none):
 Calls Tryz.prog 90 #[.pointer (some ⟨g,0,none⟩)] W fun e w'=>∃v0:Value,∃iP:Nat,e=.returned (.tuple #[v0,.int .i64 0])∧fI w0 w w' g B iP hd v xs:=by
 obtain⟨k,ad⟩:=UE dw hd 1 q ar;rcases ad with⟨h1,r1,iP,h2,h3⟩|⟨o,r,h1,_⟩
 ·refine(gu.calls k g B (q:Int) 1 hd r1 0 (iP:Int) 1 w0 W h.st h.bu h3).mono fun e w' hw=>?_;obtain⟨v0,aD,bx,db,fO,gW⟩:=hw;exact⟨v0,iP,aD,db,fO,h.sX.trans gW (.inl rfl),ab.tC h.r gW (fun _ ad=>ad),h2⟩
 ·rw[he]at h1;cases h1
theorem adr(o:Bool)(r:List Int)(he:hP (B.drop (q+1))=some (o,r)):
 Calls Tryz.prog 90 #[.pointer (some ⟨g,0,none⟩)] W fun e w'=>∃(Hh:Option Addr) (c9:Nat) (ys:List Int),e=.returned (.tuple #[.slice Hh ys.length c9,.int .i64 (if o=true then 2 else 1)])∧ys.length≤4∧ab.C (ab.int .u8) w' Hh ys.length ys∧fI w0 w w' g B (B.length-r.length) hd v xs:=by
 obtain⟨k,ad⟩:=UE dw hd 1 q ar;rcases ad with⟨h1,_⟩|⟨o',bH,h1,r1,an,h3⟩
 ·rw[he]at h1;cases h1
 ·rw[he]at h1;simp only[Option.some.injEq,Prod.mk.injEq]at h1;obtain⟨rfl,rfl⟩:=h1;refine(gu.calls k g B (q:Int) 1 hd r1 _ _ 1 w0 W h.st h.bu h3).mono fun e w' hw=>?_;obtain⟨v0,aD,bx,db,fO,gW⟩:=hw;obtain⟨Hh,c9,rfl⟩:=ab.pU bx;exact⟨Hh,c9,r1,aD,an,(ab.pt bx).2.2,db,fO,h.sX.trans gW (.inl rfl),ab.tC h.r gW (fun _ ad=>ad),(by omega)⟩
end
theorem ads{W:World}{A:Option Addr}{n c:Nat}{ys:List Int}{b:Bool}(hu:n=ys.length∧∃k,pd.f k ys=some b)(au:ab.C (ab.int .u8) W A n ys)(ai:n≤c):
 Calls Tryz.prog 89 #[.slice A n c] W fun e w'=>e=.returned (.bool b)∧Below W.heap.size W w':=by
 obtain⟨rfl,k,ad⟩:=hu;exact pd.calls k A c ys b W au ai ad
end
theorem yV(B:List Int)(m:Nat)(r:List Int)(h:r=B.drop m):B.drop (B.length-r.length)=r:=by
 by_cases e:m≤B.length
 ·rw[h,List.length_drop,show B.length-(B.length-m)=m by omega]
 ·obtain rfl:r=[]:=by rw[h];exact List.drop_eq_nil_of_le (by omega)
  simp
theorem UP{w0:World}{B:List Int}{ao:Option Addr}{c0:Nat}(bP:ab.C (ab.int .u8) w0 ao B.length B)(eT:B.length≤c0)(lo hi:Nat)(h1:lo≤hi)(h2:hi≤B.length):
 ∃(bd:Option Addr) (c1:Nat),(∀W:World,(Instr.slice 22 (.slice ao B.length c0) (some (.int .i64 (lo:Int))) (some (.int .i64 (hi:Int))) none).run Tryz.prog W=.ok (.slice bd (hi-lo) c1) W)∧ab.C (ab.int .u8) w0 bd (hi-lo) ((B.take hi).drop lo)∧hi-lo≤c1:=by
 refine Tc ?_;intro aq aD hC hcut;exact⟨_,_,hcut,hC,(by omega)⟩
def adt(w0:World)(g:Nat)(B:List Int)(p:Nat)(l:List cx)(e:Ending)(w':World):Prop:=∃(v0:Value) (told:Int) (q:Nat),e=.returned (.tuple #[v0,.int .i64 told])∧cu w0 w' g B q 1 l∧uC B p q told
theorem UQ{w0 w:World}{g:Nat}{B:List Int}{p:Nat}{l:List cx}(h:cu w0 w g B p 1 l)(hp:p<B.length)(bG:∀x∈B,0≤x∧x<256):
 Calls Tryz.prog 72 #[.pointer (some ⟨g,0,none⟩)] w (adt w0 g B p l):=by
 have et:=I h;have cr:=I (show p+1≤B.length from hp);have dS:=I h.sz;have fq:=I bG
 have w7:=I (fI.init h);have bT:=I h.bu.size;have A2:=I (fun(W:World) (q:Nat) (v:Value) (xs:List Int) (s:fI w0 w W g B q h.st.choose v xs)=>fI.tx h s);generalize h.st.choose=hd at w7 A2;obtain⟨ao,c4,aT,bh,z0,bP⟩:=w7.1.fL;obtain⟨dp,aD,al⟩:=ab.iV bP.out.1 (p:Int) (by omega) (by omega);cases aD;refine GU ?_;clear al;intro al;refine GG ?_;intro p0 ba;obtain⟨qh,L2⟩:∃c,c=rd B (p:Int):=⟨_,rfl⟩;rw[←L2]at al;have Hi:=I L2;have hX:wrap64 ((p:Int)+1)=((p+1:Nat):Int):=by have:=h.sz;unfold wrap64;omega
 clear h hp bG L2;go_enter Tryz.func72,Tryz.ntmps72
 go_wp2_with fail
 repeat(go_quiet(fail);try go_wp2_with fail)
 go_loopg [6,7] (B.length-(p+1)) (fun k v0 v1 w'=>∃(q:Nat) (xs:List Int) (told:Int),v1=.int .i64 told∧aN (q+k=B.length∧p+1≤q∧(told=1∨told=2)∧gB qh (decide (told=2)) (B.drop q)=gB qh false (B.drop (p+1))∧xs.length≤4*(q-(p+1)))∧aN (fI w0 w w' g B q hd v0 xs))
 case atStart=>
  refine⟨p+1,[],1,rfl,⟨(by have:=cr.1;omega),Nat.le_refl _,.inl rfl,rfl,Nat.zero_le _⟩,⟨?_⟩⟩;refine fI.setAt (q:=p) ?_ (p+1) cr.1;exact(by(with_reducible repeat(first|apply fI.drewN|apply fI.drew));exact w7.1)
 case round=>
  clear aT bh z0 al p0 ba hX bP;obtain⟨q,xs,told,rfl,aV,av⟩:=hrel;obtain⟨ao,c4,aT,bh,z0,bP⟩:=av.1.fL;by_cases ar:q<B.length
  ·obtain⟨dp,aD,al⟩:=ab.iV bP.out.1 (q:Int) (by omega) (by omega);cases aD;rw[Int.toNat_natCast]at al;replace al:=(av.1.bu.cell (World.block_lt_of_cell? w0 _ al)).trans al;refine GK ?_;intro a1 bQ fs;have fz:=I ar;have cf:=I (gz B q ar);obtain⟨c,ai⟩:∃c,c=rd B (q:Int):=⟨_,rfl⟩;rw[←ai]at al;have fZ:=I ai;have hX:wrap64 ((q:Int)+1)=((q+1:Nat):Int):=by have:=dS.1;unfold wrap64;omega
   clear ar ai
   go_upto_block 2 with fail
   repeat(go_quiet(fail);try go_upto_block 2 with fail)
   by_cases h0:c=qh
   ·have bt:(c==qh)=true:=beq_iff_eq.mpr h0;have dW:=I h0;clear h0
    go_upto_region 11 with fail
    go_cut [] (fun wc=>∃bQ:Nat,aN (bQ=q+1)∧aN (fI w0 w wc g B bQ hd u6 xs))
    case first=>
     go_wp2_with fail
     go_meet
     case rel=>
      refine⟨q+1,⟨rfl⟩,⟨?_⟩⟩;refine fI.setAt (q:=q) ?_ (q+1) uV;exact l3
    case rest=>
     clear aT bh z0 al a1 bQ fs hX bP;obtain⟨bQ,lJ,sN⟩:=hcut;obtain⟨ao,c4,aT,bh,z0,bP⟩:=sN.1.fL;obtain⟨bd,c5,nO,kh,rb⟩:=UP bP.out.1 bP.out.2 p bQ (by have:=aV.1;have:=lJ.1;omega) sN.1.le;have dj:=I kh;have ja:=I rb;obtain⟨adu,b,hu,UR⟩:=adm ((B.take bQ).drop p) (by rw[List.length_drop,List.length_take];have:=dS.1;omega) (fun x ae=>fq.1 x (List.mem_of_mem_take (List.mem_of_mem_drop ae)));have fk:=I (show bQ-p=((B.take bQ).drop p).length∧∃k,pd.f k ((B.take bQ).drop p)=some b from⟨(by rw[List.length_drop,List.length_take];have:=sN.1.le;omega),adu,hu⟩);have adv:=I UR;clear kh rb hu UR
     go_wp2_with fail
     refine fX (n:=12) (S:=fun w'=>w'.cell? ⟨g,0,none⟩=some (.slice ao B.length c4)∧w'.cell? ⟨g,1,none⟩=some (.int .i64 (bQ:Int))) (ds:=[10]) #[false,false,false,false,false,false,false,false,false,false,false,false] aM rfl rfl ⟨aT,bh⟩ (fun hHeld=>?_);refine ax 0 74 ?_;refine ax 1 75 ?_;refine ax 2 76 ?_;refine ax 4 78 ?_;refine ax 5 79 ?_;refine ax 6 80 ?_;refine ax 7 81 ?_;refine eb 3 77 ?_;refine eb 8 82 ?_;refine ax 9 83 ?_;refine ZM 10 84 fun K aH=>?_;refine mQ Tryz.func89 aM rfl #[.slice bd (bQ-p) c5] (by rfl) rfl rfl mX ?_
     with_reducible refine(ads fk.1 (ab.ko dj.1 (kH sN.1.bu)) ja.1).mono ?_
     rintro bx w1 ⟨rfl,az⟩;refine⟨_,rfl,?_⟩;refine aH.out _ _ ?_;clear aH K;refine ik ?_;refine ax 11 85 ?_;refine jX aM ?_;have aC:=I az;clear az;have dz:=I (show∀t,(t=2∨(t=1∧decide (told=2)=false∧iQ ((B.take bQ).drop p)))→uC B p bQ t from fun t aU=> .yes (decide (told=2)) (B.drop (q+1)) (by rw[←Hi.1,←aV.1.2.2.2.1,cf.1,←fZ.1,dW.1,L1]) bQ (by rw[List.length_drop];have:=fz.1;have:=lJ.1;omega) t aU);cases b
     ·go_wp2_with fail
      go_ret2;exact⟨_,2,bQ,rfl,A2.1 _ _ _ _ (fI.below Jc aC.1),dz.1 2 (.inl rfl)⟩
     ·go_wp2_with fail
      go_ret2;refine⟨_,told,bQ,rfl,A2.1 _ _ _ _ (fI.below Jc aC.1),dz.1 told ?_⟩;rcases aV.1.2.2.1 with h|h
      ·exact .inr ⟨h,zK,adv.1 (by first|trivial|rfl)⟩
      ·exact .inl h
   have bt:(c==qh)=false:=beq_eq_false_iff_ne.mpr h0;have dW:=I h0;clear h0;by_cases h0:c=10
   ·have bt:(c==10)=true:=beq_iff_eq.mpr h0;have dz:=I (show∀iP,uC B p iP 0 from fun iP=> .no (by rw[←Hi.1,←aV.1.2.2.2.1,cf.1,←fZ.1,h0,UM _ _ _ (by rw[←h0];exact dW.1)]) iP);clear h0
    go_wp2_with fail
    go_ret2;exact⟨_,0,q,rfl,A2.1 _ _ _ _ l3,dz.1 q⟩
   have bt:(c==10)=false:=beq_eq_false_iff_ne.mpr h0;have H1:=I h0;clear h0;by_cases h0:c=92
   ·have bt:(c==92)=true:=beq_iff_eq.mpr h0;have AG:=I h0;clear h0;rcases he:hP (B.drop (q+1))with _|⟨o,r⟩
    ·have gE:=I he;have dz:=I (show∀iP,uC B p iP 0 from fun iP=> .no (by rw[←Hi.1,←aV.1.2.2.2.1,cf.1,←fZ.1,AG.1,UN _ _ _ (by rw[←AG.1];exact dW.1) he]) iP);clear he
     go_wp2_with(first|(go_at_call 90;refine(adq (v:=u6) (xs:=xs) l3 dS.1 fz.1 gE.1).mono ?_;rintro bx cJ ⟨v2,ku,rfl,bs⟩;have sN:=I bs;clear bs))
     go_ret2;exact⟨_,0,ku,rfl,A2.1 _ _ _ _ Jc,dz.1 ku⟩
    ·have gE:=I he;have k2:=I (He _ _ _ he);have bV:=I (show gB qh (decide (told=2)||o) r=gB qh false (B.drop (p+1))by rw[←aV.1.2.2.2.1,cf.1,←fZ.1,AG.1,Hg _ _ _ r o (by rw[←AG.1];exact dW.1) he]);have fU:=I (show B.drop (B.length-r.length)=r from by obtain⟨n,aq⟩:=UK _ _ _ he;exact yV B (q+1+n) r (by rw[aq,List.drop_drop]));clear he;cases o
     all_goals(
      rcases aV.1.2.2.1 with h|h
      all_goals(
       subst h
       go_wp2_with(first|(go_at_call 90;refine(adr (v:=u6) (xs:=xs) l3 dS.1 fz.1 _ r gE.1).mono ?_;rintro bx cJ ⟨bd,c9,ys,rfl,cL,eT,bs⟩;have sN:=I bs;have wq:=I cL;have dj:=I eT;clear bs cL eT)|(at_builtin;refine ab.Ow (ab.int .u8) (w0:=cJ) w.heap.size rfl (.tmp 104) (.tmp 105) 22 5 (.int .u8 0) 1 rfl Tryz.underlying22 n2 rfl (by decide) (by omega) u6 xs ys bd ys.length c9 (fun k=>k≠g) (fun _=>False) rfl rfl sN.1.r ?aR (fun _ _ h=>h) (fun _ h=>h.elim) sN.1.fresh (Below.refl _ _) sN.1.sX.1 (by have:=aV.1.2.2.2.2;have:=dS.1;have:=fz.1;have:=wq.1;omega) ?_;(case aR=>exact dj.1);intro v2 w1 aY U aw ea;have tK:=I (fI.grow sN.1 aY U aw bT.1);obtain⟨bd,c7,aT,bh,z0,ff⟩:=tK.1.fL;clear aY U aw ea))
       go_roundg(B.length-(B.length-r.length))
       case measure=>have:=aV.1.1;have:=k2.1;rw[List.length_drop]at this;omega
       case rel=>
        refine⟨B.length-r.length,xs++ys,_,rfl,⟨(by omega),(by have:=k2.1;rw[List.length_drop]at this;have:=aV.1;omega),(by decide),?_,?_⟩,⟨Jd⟩⟩
        ·rw[fU.1];exact bV.1
        ·rw[List.length_append];have:=k2.1;rw[List.length_drop]at this;have:=aV.1;have:=wq.1;omega))
   have bt:(c==92)=false:=beq_eq_false_iff_ne.mpr h0;have AG:=I h0;clear h0;have kX:(c<32∧¬c=9)∨c=127∨128≤c∨c=9∨(32≤c∧c<127):=by omega
   rcases kX with aG|aG|aG|aG|aG
   ·have bt:(decide (c<32))=true:=decide_eq_true (by omega);refine KO ?_;intro Am di;exact Rj
   ·have bt:(decide (c<32))=false:=decide_eq_false (by omega);have Am:(c !=9)=true:=bne_iff_ne.mpr (by omega);have di:(c==127)=true:=beq_iff_eq.mpr (by omega);exact Rj
   ·have bt:(decide (c<32))=false:=decide_eq_false (by omega);refine KO ?_;intro Am di;have eS:(decide (c≥128))=true:=decide_eq_true (by omega);have Cx:(decide (c<128))=false:=decide_eq_false (by omega);exact JL
   ·have bt:(decide (c<32))=true:=decide_eq_true (by omega);have Am:(c !=9)=false:=bne_eq_false_iff_eq.mpr (by omega);have di:(c==127)=false:=beq_eq_false_iff_ne.mpr (by omega);refine JW ?_;intro eS Cx;exact JL
   ·have bt:(decide (c<32))=false:=decide_eq_false (by omega);refine KO ?_;intro Am di;refine JW ?_;intro eS Cx;exact JL
  ·refine GJ ?_;intro a1 qZ;have fs:=eq_false (show¬(q:Int)<(B.length:Int)by omega);have a1:=eq_false ar;have dz:=I (show∀iP,uC B p iP 0 from fun iP=> .no (by rw[←Hi.1,←aV.1.2.2.2.1,List.drop_eq_nil_of_le (by omega),UL]) iP);clear ar
   go_wp2_with fail
   repeat(go_quiet(fail);try go_wp2_with fail)
   go_ret2;exact⟨_,0,q,rfl,A2.1 _ _ _ _ l3,dz.1 q⟩
end eC
