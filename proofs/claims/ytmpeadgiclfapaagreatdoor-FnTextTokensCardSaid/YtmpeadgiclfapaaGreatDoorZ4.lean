/- Part 2 of the proof (T6, Tk0, PFnTextTokensx19, PFnTextTokensx1, Tk1, Tk2, Tm0, Lw0). Conditions: each theorem's own. -/
import Derived.Test.YtmpeadgiclfapaaGreatDoorZ3
import Derived.Outline
import Derived.Deep.DeepMust
set_option linter.all false
set_option maxHeartbeats 0
set_option maxRecDepth 100000
namespace Go.Proofs.YtmpeadgiclfapaaGreatDoor
namespace ei
open RowKit YtmpeadgiclfapaaGreatDoorW.PrintWords YtmpeadgiclfapaaGreatDoorW.PrintLast YtmpeadgiclfapaaGreatDoorW.PrintMore
attribute [local go_sem] sB sC sD sF sG sH sI sJ
def qa.f(bY:List Int)(ez:Int)(eL:Int)(cQ:fC)(cg:Int):Option (Int×Int×Int):=if(wrap64 (ez+cg))<(bY.length:Int)then(if 0≤(wrap64 (ez+cg))then(some (rd bY (wrap64 (ez+cg)),ez,eL))else(none))else(some (0,ez,eL))
theorem qa.calls(g:Nat)(bY:List Int)(ez:Int)(eL:Int)(cQ:fC)(cg:Int)(r1:Int)(fe:Int)(iM:Int)(w0 w:World)(fJ:cj w0 w g bY ez eL cQ)(dw:Below w0.heap.size w0 w)(h:qa.f bY ez eL cQ cg=some (r1,fe,iM)):
 Calls Tryz.prog 38 #[.pointer (some ⟨g,0,none⟩),.int .i64 cg] w fun e w'=>e=.returned (.int .u8 r1)∧cj w0 w' g bY fe iM cQ∧Below w0.heap.size w0 w'∧cI w w' g none:=by
 refine ug ?_;clear fJ dw;intro bE aV fh iw a7 H;unfold qa.f at H;clear h;revert H;refine eo ?_ ?_<;>intro ho H
 ·obtain⟨cH,fN⟩:∃ki:Int,(wrap64 (ez+cg))=ki:=⟨_,rfl⟩;replace H:(if 0≤(cH)then(some (rd bY (cH),ez,eL))else(none))=some (r1,fe,iM):=by first|(rw[fN]at H;exact H)|(simp only[fN]at H⊢;exact H)
  (try rw[fN]at ho)
  have q6:(IntKind.i64.wrap (ez+cg))=cH:=(jj _).trans fN;revert H;refine fg ?_;intro hc H;refine jC ?_;clear H;rintro⟨rfl,rfl,rfl⟩;refine j1 ?_;intro jk jl jm jn iA jo jq jr js jt ju jv;obtain⟨dp,aD,eY,p0,a1⟩:=gY iA (cH);cases aD;replace eY:=mL a7.1 eY;go_enter Tryz.func38,Tryz.ntmps38;go_wp2
  repeat(go_quiet(fail);try go_wp2)
  go_ret;exact⟨B1,dU,dT,dB⟩
 ·refine jC ?_;clear H;rintro⟨rfl,rfl,rfl⟩;refine j1 ?_;intro jk jl jm jn iA jo jq jr js jt ju jv;go_enter Tryz.func38,Tryz.ntmps38;exact Jz
def AI.f(a0:Int):Option (Bool):=(p4.f a0).bind fun t170=>(if t170=true then(some true)else((ks.f a0).bind fun t171=>(if t171=true then(some true)else(if a0=45 then(some true)else(if a0=43 then(some true)else(some (a0==46)))))))
theorem AI.calls(a0:Int)(r:Bool)(w:World)(h:AI.f a0=some r):
 Calls Tryz.prog 40 #[.int .u8 a0] w fun e w'=>e=.returned (.bool r)∧eO w w':=by
 have H:=h;unfold AI.f at H;clear h;refine yy ?_;clear H;intro t0 bd H;by_cases c3:t0=true
 ·subst c3;refine mz ?_;clear H;intro H;obtain rfl:=Option.some.inj H;go_enter Tryz.func40,Tryz.ntmps40;exact Qo
 ·replace c3:=Bool.eq_false_iff.mpr c3;subst c3;refine yz ?_;clear H;rintro⟨t2,ao,H⟩
  try dsimp only at H
  have bF:=I ao;clear ao;by_cases c5:t2=true
  ·subst c5;refine mz ?_;clear H;intro H;obtain rfl:=Option.some.inj H;go_enter Tryz.func40,Tryz.ntmps40;exact Qn
  ·replace c5:=Bool.eq_false_iff.mpr c5;subst c5;refine kf ?_;clear H;refine dF ?_ ?_<;>intro ho hc H
   ·exact Kd
   ·revert H;refine dF ?_ ?_<;>intro hy gq H
    ·exact Kd
    ·exact Kd
def De.f(bY:List Int)(ez:Int)(eL:Int)(cQ:fC)(cg:Int):Option (Bool×Int×Int):=if ez<(bY.length:Int)then(if 0≤ez then(some (((rd bY ez)==cg),ez,eL))else(none))else(some (false,ez,eL))
theorem De.calls(g:Nat)(bY:List Int)(ez:Int)(eL:Int)(cQ:fC)(cg:Int)(r1:Bool)(fe:Int)(iM:Int)(w0 w:World)(fJ:cj w0 w g bY ez eL cQ)(dw:Below w0.heap.size w0 w)(h:De.f bY ez eL cQ cg=some (r1,fe,iM)):
 Calls Tryz.prog 24 #[.pointer (some ⟨g,0,none⟩),.int .u8 cg] w fun e w'=>e=.returned (.bool r1)∧cj w0 w' g bY fe iM cQ∧Below w0.heap.size w0 w'∧cI w w' g none:=by
 refine ug ?_;clear fJ dw;intro bE aV fh iw a7 H;unfold De.f at H;clear h;revert H;refine eo ?_ ?_<;>intro ho H
 ·revert H;refine fg ?_;intro hc H;refine jC ?_;clear H;rintro⟨rfl,rfl,rfl⟩;refine j1 ?_;intro jk jl jm jn iA jo jq jr js jt ju jv;obtain⟨dp,aD,eY,p0,a1⟩:=gY iA ez;cases aD;replace eY:=mL a7.1 eY;go_enter Tryz.func24,Tryz.ntmps24;exact Jz
 ·refine jC ?_;clear H;rintro⟨rfl,rfl,rfl⟩;refine j1 ?_;intro jk jl jm jn iA jo jq jr js jt ju jv;go_enter Tryz.func24,Tryz.ntmps24;exact Jz
def tW.f(a0:Int):Option (List Int):=if a0<128 then(some (([(a0)%256]:List Int)))else(if a0<2048 then(some (([(Go.bits .or .i64 192 (a0/64))%256,(Go.bits .or .i64 128 (Go.bits .and .i64 a0 63))%256]:List Int)))else(if a0<65536 then(some (([(Go.bits .or .i64 224 (a0/4096))%256,(Go.bits .or .i64 128 (Go.bits .and .i64 (a0/64) 63))%256,(Go.bits .or .i64 128 (Go.bits .and .i64 a0 63))%256]:List Int)))else(some (([(Go.bits .or .i64 240 (a0/262144))%256,(Go.bits .or .i64 128 (Go.bits .and .i64 (a0/4096) 63))%256,(Go.bits .or .i64 128 (Go.bits .and .i64 (a0/64) 63))%256,(Go.bits .or .i64 128 (Go.bits .and .i64 a0 63))%256]:List Int)))))
theorem tW.calls(a0:Int)(r:List Int)(w:World)(h:tW.f a0=some r):
 Calls Tryz.prog 124 #[.int .i64 a0] w fun e w'=>∃oI:Value,e=.returned (oI)∧ab.R (ab.int .u8) 5 w' w.heap.size (fun _=>True) oI r∧Below w.heap.size w w':=by
 have a7:=I (Below.refl w.heap.size w);have H:=h;unfold tW.f at H;clear h;revert H;refine eo ?_ ?_<;>intro ho H
 ·obtain⟨aT,cL⟩:∃iE:List Int,iE=(([(a0)%256]:List Int)):=⟨_,rfl⟩;refine wJ ?_;clear H cL;intro H gG;obtain rfl:=Option.some.inj H;go_enter Tryz.func124,Tryz.ntmps124;exact Qp
 ·revert H;refine eo ?_ ?_<;>intro hc H
  ·obtain⟨aT,cL⟩:∃iE:List Int,iE=(([(Go.bits .or .i64 192 (a0/64))%256,(Go.bits .or .i64 128 (Go.bits .and .i64 a0 63))%256]:List Int)):=⟨_,rfl⟩;refine wJ ?_;clear H cL;intro H gG;obtain rfl:=Option.some.inj H;go_enter Tryz.func124,Tryz.ntmps124
   go_wp2_with(first|((with_reducible refine la (N:=20) rfl ?_);refine ab.k9 (ab.int .u8) _ 5 ?aw (N:=20) ?hd (xs:=([(Go.bits .or .i64 192 (a0/64))%256,(Go.bits .or .i64 128 (Go.bits .and .i64 a0 63))%256]:List Int)) (inner:=[.int .u8 ((Go.bits .or .i64 192 (a0/64))%256),.int .u8 ((Go.bits .or .i64 128 (Go.bits .and .i64 a0 63))%256)]) (ok:=fun _=>True) (okp:=fun _=>True) ?au ?hp (fun _ ad=>ad) trivial (Below.refl _ _) (Nat.le_refl _) (by simp) ?_;(case hd=>rfl);(case aw=>rfl);(case au=>exact iW);(case hp=>exact(cF.one (show ab.M (ab.int .u8) _ _ _ ((Go.bits .or .i64 192 (a0/64))%256) [.int .u8 ((Go.bits .or .i64 192 (a0/64))%256)]from rfl) (cF.one (show ab.M (ab.int .u8) _ _ _ ((Go.bits .or .i64 128 (Go.bits .and .i64 a0 63))%256) [.int .u8 ((Go.bits .or .i64 128 (Go.bits .and .i64 a0 63))%256)]from rfl) (cF.none _ _))));intro v0 w0 bK U hk hl;clear hk hl;(first|rw[←gG.1]at bK|(refine lS ?_;clear bK;intro bK));have gK:=I (ab.jU bK (pv fS));replace a7:=I (jV fS U);clear U bK))
   go_ret;exact⟨_,lh,sM,fS⟩
  ·revert H;refine eo ?_ ?_<;>intro hy H
   ·obtain⟨aT,cL⟩:∃iE:List Int,iE=(([(Go.bits .or .i64 224 (a0/4096))%256,(Go.bits .or .i64 128 (Go.bits .and .i64 (a0/64) 63))%256,(Go.bits .or .i64 128 (Go.bits .and .i64 a0 63))%256]:List Int)):=⟨_,rfl⟩;refine wJ ?_;clear H cL;intro H gG;obtain rfl:=Option.some.inj H;go_enter Tryz.func124,Tryz.ntmps124
    go_wp2_with(first|((with_reducible refine la (N:=37) rfl ?_);refine ab.k9 (ab.int .u8) _ 5 ?aw (N:=37) ?hd (xs:=([(Go.bits .or .i64 224 (a0/4096))%256,(Go.bits .or .i64 128 (Go.bits .and .i64 (a0/64) 63))%256,(Go.bits .or .i64 128 (Go.bits .and .i64 a0 63))%256]:List Int)) (inner:=[.int .u8 ((Go.bits .or .i64 224 (a0/4096))%256),.int .u8 ((Go.bits .or .i64 128 (Go.bits .and .i64 (a0/64) 63))%256),.int .u8 ((Go.bits .or .i64 128 (Go.bits .and .i64 a0 63))%256)]) (ok:=fun _=>True) (okp:=fun _=>True) ?au ?hp (fun _ ad=>ad) trivial (Below.refl _ _) (Nat.le_refl _) (by simp) ?_;(case hd=>rfl);(case aw=>rfl);(case au=>exact iW);(case hp=>exact(cF.one (show ab.M (ab.int .u8) _ _ _ ((Go.bits .or .i64 224 (a0/4096))%256) [.int .u8 ((Go.bits .or .i64 224 (a0/4096))%256)]from rfl) (cF.one (show ab.M (ab.int .u8) _ _ _ ((Go.bits .or .i64 128 (Go.bits .and .i64 (a0/64) 63))%256) [.int .u8 ((Go.bits .or .i64 128 (Go.bits .and .i64 (a0/64) 63))%256)]from rfl) (cF.one (show ab.M (ab.int .u8) _ _ _ ((Go.bits .or .i64 128 (Go.bits .and .i64 a0 63))%256) [.int .u8 ((Go.bits .or .i64 128 (Go.bits .and .i64 a0 63))%256)]from rfl) (cF.none _ _)))));intro v0 w0 bK U hk hl;clear hk hl;(first|rw[←gG.1]at bK|(refine lS ?_;clear bK;intro bK));have gK:=I (ab.jU bK (pv fS));replace a7:=I (jV fS U);clear U bK))
    go_ret;exact⟨_,lh,sM,fS⟩
   ·obtain⟨aT,cL⟩:∃iE:List Int,iE=(([(Go.bits .or .i64 240 (a0/262144))%256,(Go.bits .or .i64 128 (Go.bits .and .i64 (a0/4096) 63))%256,(Go.bits .or .i64 128 (Go.bits .and .i64 (a0/64) 63))%256,(Go.bits .or .i64 128 (Go.bits .and .i64 a0 63))%256]:List Int)):=⟨_,rfl⟩;refine wJ ?_;clear H cL;intro H gG;obtain rfl:=Option.some.inj H;go_enter Tryz.func124,Tryz.ntmps124
    go_wp2_with(first|((with_reducible refine la (N:=56) rfl ?_);refine ab.k9 (ab.int .u8) _ 5 ?aw (N:=56) ?hd (xs:=([(Go.bits .or .i64 240 (a0/262144))%256,(Go.bits .or .i64 128 (Go.bits .and .i64 (a0/4096) 63))%256,(Go.bits .or .i64 128 (Go.bits .and .i64 (a0/64) 63))%256,(Go.bits .or .i64 128 (Go.bits .and .i64 a0 63))%256]:List Int)) (inner:=[.int .u8 ((Go.bits .or .i64 240 (a0/262144))%256),.int .u8 ((Go.bits .or .i64 128 (Go.bits .and .i64 (a0/4096) 63))%256),.int .u8 ((Go.bits .or .i64 128 (Go.bits .and .i64 (a0/64) 63))%256),.int .u8 ((Go.bits .or .i64 128 (Go.bits .and .i64 a0 63))%256)]) (ok:=fun _=>True) (okp:=fun _=>True) ?au ?hp (fun _ ad=>ad) trivial (Below.refl _ _) (Nat.le_refl _) (by simp) ?_;(case hd=>rfl);(case aw=>rfl);(case au=>exact iW);(case hp=>exact(cF.one (show ab.M (ab.int .u8) _ _ _ ((Go.bits .or .i64 240 (a0/262144))%256) [.int .u8 ((Go.bits .or .i64 240 (a0/262144))%256)]from rfl) (cF.one (show ab.M (ab.int .u8) _ _ _ ((Go.bits .or .i64 128 (Go.bits .and .i64 (a0/4096) 63))%256) [.int .u8 ((Go.bits .or .i64 128 (Go.bits .and .i64 (a0/4096) 63))%256)]from rfl) (cF.one (show ab.M (ab.int .u8) _ _ _ ((Go.bits .or .i64 128 (Go.bits .and .i64 (a0/64) 63))%256) [.int .u8 ((Go.bits .or .i64 128 (Go.bits .and .i64 (a0/64) 63))%256)]from rfl) (cF.one (show ab.M (ab.int .u8) _ _ _ ((Go.bits .or .i64 128 (Go.bits .and .i64 a0 63))%256) [.int .u8 ((Go.bits .or .i64 128 (Go.bits .and .i64 a0 63))%256)]from rfl) (cF.none _ _))))));intro v0 w0 bK U hk hl;clear hk hl;(first|rw[←gG.1]at bK|(refine lS ?_;clear bK;intro bK));have gK:=I (ab.jU bK (pv fS));replace a7:=I (jV fS U);clear U bK))
    go_ret;exact⟨_,lh,sM,fS⟩
end ei
namespace cP
open RowKit YtmpeadgiclfapaaGreatDoorW.PrintWords YtmpeadgiclfapaaGreatDoorW.PrintLast YtmpeadgiclfapaaGreatDoorW.PrintMore ei
def blank(c:Int):Bool:=c==32||c==9||c==13||c==10
def bc:Bool→List Int→List Int
 |_,[]=>[]
 |true,c::r=>if c=10 then bc false r else bc true r
 |false,c::r=>if blank c then bc false r else if c=35 then bc true r else c::r
def jP:List Int→Bool
 |[]=>false
 |c::_=>c==11||c==12
theorem kC(s:List Int):∀b,(bc b s).length≤s.length:=by
 induction s with
 |nil=>intro b;cases b<;>simp[bc]
 |cons c r bb=>
  intro b;cases b
  ·simp only[bc];split
   ·have:=bb false;simp only[List.length_cons];omega
   ·split
    ·have:=bb true;simp only[List.length_cons];omega
    ·exact Nat.le_refl _
  ·simp only[bc];split
   ·have:=bb false;simp only[List.length_cons];omega
   ·have:=bb true;simp only[List.length_cons];omega
theorem pL(s:List Int):∀b,∃n,n≤s.length∧bc b s=s.drop n:=by
 induction s with
 |nil=>intro b;exact⟨0,Nat.le_refl _,(by cases b<;>simp[bc])⟩
 |cons c r bb=>
  intro b;cases b
  ·simp only[bc];split
   ·obtain⟨n,h0,h1⟩:=bb false;exact⟨n+1,uS,h1⟩
   ·split
    ·obtain⟨n,h0,h1⟩:=bb true;exact⟨n+1,uS,h1⟩
    ·exact⟨0,Nat.zero_le _,rfl⟩
  ·simp only[bc];split
   ·obtain⟨n,h0,h1⟩:=bb false;exact⟨n+1,uS,h1⟩
   ·obtain⟨n,h0,h1⟩:=bb true;exact⟨n+1,uS,h1⟩
theorem abh(s:List Int):∀b,bc false (bc b s)=bc b s:=by
 induction s with
 |nil=>intro b;cases b<;>simp[bc]
 |cons c r bb=>
  intro b;cases b
  ·simp only[bc];split
   ·exact bb false
   ·split
    ·exact bb true
    ·rename_i h1 h2
     simp only[bc];rw[if_neg h1,if_neg h2]
  ·simp only[bc];split
   ·exact bb false
   ·exact bb true
theorem gz(B:List Int)(p:Nat)(h:p<B.length):B.drop p=rd B (p:Int)::B.drop (p+1):=by
 rw[List.drop_eq_getElem_cons h];congr 1;simp[rd,List.getD_eq_getElem?_getD,h]
def hD(told:Int)(s:List Int):Int:=if jP s=true∧told=1 then 2 else told
theorem TW(B:List Int)(dw:B.length≤100000)(told:Int)(h:fC):∀(d k p:Nat),p+d=B.length→4*d+4≤k→
 fu.aj k B (p:Int) told h=some (((B.length-(bc false (B.drop p)).length:Nat):Int),hD told (bc false (B.drop p)))∧
 fu.cC (k+1) B (p:Int) told h=some (((B.length-(bc true (B.drop p)).length:Nat):Int),hD told (bc true (B.drop p))):=by
 intro d
 induction d with
 |zero=>
  intro k p hp ad;obtain⟨k,rfl⟩:∃m,k=m+1:=⟨k-1,(by omega)⟩;have hd:B.drop p=[]:=List.drop_eq_nil_of_le (by omega)
  have h0:fu.aj (k+1) B (p:Int) told h=some ((p:Int),told):=by
   simp only[fu.aj];rw[if_neg (by omega)]
  have aU:hD told []=told:=by simp[hD,jP]
  rw[hd];simp only[bc,List.length_nil,Nat.sub_zero,aU];rw[show B.length=p by omega];refine⟨h0,?_⟩;simp only[fu.cC];rw[if_neg (by omega)];exact h0
 |succ d bb=>
  intro k p hp ad;obtain⟨k,rfl⟩:∃m,k=m+2:=⟨k-2,(by omega)⟩;have fo:p<B.length:=by omega
  have hw:wrap64 ((p:Int)+1)=((p+1:Nat):Int):=by unfold wrap64;omega
  rw[gz B p fo];obtain⟨i0,i1⟩:=bb k (p+1) (by omega) (by omega);generalize ai:rd B (p:Int)=c at*
  have j:∀b:Bool,fu.cD (k+1) c b B (p:Int) told h=if b=true then some (((B.length-(bc false (B.drop (p+1))).length:Nat):Int),hD told (bc false (B.drop (p+1))))else if c=35 then fu.cC k B (p:Int) told h else if c=11∨c=12 then some ((p:Int),if told=1 then 2 else told)else some ((p:Int),told):=by
   intro b;simp only[fu.cD,hw];by_cases U:b=true
   ·rw[if_pos U,if_pos U];exact i0
   ·rw[if_neg U,if_neg U];by_cases h0:c=35
    ·rw[if_pos h0,if_pos h0]
    ·rw[if_neg h0,if_neg h0];by_cases h1:c=11
     ·rw[if_pos h1,if_pos (.inl h1)];by_cases aU:told=1<;>simp[nJ.f,aU]
     ·rw[if_neg h1];by_cases h2:c=12
      ·rw[if_pos h2,if_pos (.inr h2)];by_cases aU:told=1<;>simp[nJ.f,aU]
      ·rw[if_neg h2,if_neg (by omega)]
  have an:∀b:Bool,blank c=b→fu.aj (k+2) B (p:Int) told h=fu.cD (k+1) c b B (p:Int) told h:=by
   intro b U;rw[show k+2=(k+1)+1 from rfl];simp only[fu.aj];rw[if_pos (by omega),if_pos (by omega),ai];by_cases h1:c=32
   ·rw[if_pos h1];have e:(c==32)=b:=by rw[←U];simp[blank,h1]
    rw[e]
   rw[if_neg h1];by_cases h2:c=9
   ·rw[if_pos h2];have e:(c==9)=b:=by rw[←U];simp[blank,h2]
    rw[e]
   rw[if_neg h2];by_cases h3:c=13
   ·rw[if_pos h3];have e:(c==13)=b:=by rw[←U];simp[blank,h3]
    rw[e]
   rw[if_neg h3];have e:(c==10)=b:=by rw[←U];simp[blank,h1,h2,h3]
   rw[e]
  have rb:∀m,fu.cC (m+1) B (p:Int) told h=if c=10 then fu.aj m B (p:Int) told h else fu.cC m B ((p+1:Nat):Int) told h:=by
   intro m;simp only[fu.cC,hw];rw[if_pos (by omega),if_pos (by omega),ai]
  have TX:fu.aj (k+2) B (p:Int) told h=some (((B.length-(bc false (c::B.drop (p+1))).length:Nat):Int),hD told (bc false (c::B.drop (p+1)))):=by
   rw[an _ rfl,j];simp only[bc];by_cases U:blank c=true
   ·rw[if_pos U,if_pos U]
   ·rw[if_neg U,if_neg U];by_cases h0:c=35
    ·rw[if_pos h0,if_pos h0];obtain⟨k,rfl⟩:∃m,k=m+2:=⟨k-2,(by omega)⟩;rw[show k+2=(k+1)+1 from rfl,rb,if_neg (by omega)];exact(bb k (p+1) (by omega) (by omega)).2
    ·rw[if_neg h0,if_neg h0];have hlen:B.length-(c::B.drop (p+1)).length=p:=by simp only[List.length_cons,List.length_drop];omega
     rw[hlen];by_cases aZ:c=11∨c=12
     ·rw[if_pos aZ];have:jP (c::B.drop (p+1))=true:=by rcases aZ with h|h<;>simp[jP,h]
      unfold hD;by_cases aU:told=1
      ·rw[if_pos aU,if_pos ⟨this,aU⟩]
      ·rw[if_neg aU,if_neg (fun h=>aU h.2)]
     ·rw[if_neg aZ];have:¬jP (c::B.drop (p+1))=true:=by simp only[jP,Bool.or_eq_true,beq_iff_eq];omega
      unfold hD;rw[if_neg (fun h=>this h.1)]
  refine⟨TX,?_⟩;rw[show k+2+1=(k+2)+1 from rfl,rb];by_cases h0:c=10
  ·rw[if_pos h0,TX]
   have:bc true (c::B.drop (p+1))=bc false (c::B.drop (p+1)):=by
    simp only[bc];rw[if_pos h0,if_pos (by simp[blank,h0])]
   rw[this]
  ·rw[if_neg h0];have:=(bb (k+1) (p+1) (by omega) (by omega)).2;rw[show k+1+1=k+2 from rfl]at this;rw[this];simp only[bc];rw[if_neg h0]
end cP
namespace ei
open RowKit YtmpeadgiclfapaaGreatDoorW.PrintWords YtmpeadgiclfapaaGreatDoorW.PrintLast YtmpeadgiclfapaaGreatDoorW.PrintMore
attribute [local go_sem] sB sC sD sF sG sH sI sJ
def Df.f(aj:List Int):Option (List Int):=(some (([]:List Int):List Int)).bind fun TY=>(if TY.length+aj.length<140737488355328 then(some (TY++aj))else(none))
theorem Df.calls(ao:Option Addr)(c0:Nat)(aj:List Int)(r:List Int)(w:World)(bP:ab.C (ab.int .u8) w ao aj.length aj)(eT:aj.length≤c0)(h:Df.f aj=some r):
 Calls Tryz.prog 12 #[.slice ao aj.length c0] w fun e w'=>∃oI:Value,e=.returned (oI)∧ab.R (ab.int .u8) 5 w' w.heap.size (fun _=>True) oI r∧Below w.heap.size w w':=by
 have cK:=I bP;have dj:=I eT;clear bP eT;have a7:=I (Below.refl w.heap.size w);have H:=h;unfold Df.f at H;clear h;obtain⟨aT,cL⟩:∃iE:List Int,iE=(([]:List Int)):=⟨_,rfl⟩;replace H:(if aT.length+aj.length<140737488355328 then(some (aT++aj))else(none))=some r:=by first|(rw[cL];with_reducible exact H)|(exact s0)|(exact s3)|with_reducible exact H|(rw[cL];exact H)|exact H
 have gG:=I cL;clear cL;by_cases c2:aT.length+aj.length<140737488355328
 ·rw[if_pos c2]at H;have Ft:=I c2;clear c2;obtain⟨bh,cL⟩:∃iE:List Int,iE=(aT++aj):=⟨_,rfl⟩;refine TS ?_;clear H cL;intro H uu;obtain rfl:=Option.some.inj H;go_enter Tryz.func12,Tryz.ntmps12
  go_wp2_with(first|((with_reducible refine la (N:=3) rfl ?_);refine ab.k9 (ab.int .u8) _ 5 ?aw (N:=3) ?hd (xs:=([]:List Int)) (inner:=[]) (ok:=fun _=>True) (okp:=fun _=>True) ?au ?hp (fun _ ad=>ad) trivial (Below.refl _ _) (Nat.le_refl _) (by simp) ?_;(case hd=>rfl);(case aw=>rfl);(case au=>exact iW);(case hp=>exact(cF.none _ _));intro v0 w1 bK U hk hl;clear hk hl;(first|rw[←gG.1]at bK|(refine lS ?_;clear bK;intro bK));have gK:=I (ab.jU bK (pv fS));replace a7:=I (jV fS U);clear U bK)|((with_reducible refine BS (b:=.append) (xs:=#[.tmp 3,.tmp 4]) rfl ?_);at_builtin;refine ab.Ow (ab.int .u8) (w0:=w) w.heap.size rfl (.tmp 3) (.tmp 4) 22 5 (.int .u8 0) 1 rfl Tryz.underlying22 n2 rfl (by decide) (by omega) v0 aT aj _ _ _ (fun _=>True) (fun _=>False) rfl rfl ?aO ?aR (fun _ _ h=>h) (fun _ h=>h.elim) ?aF ?aB ?aS ?aL ?_;(case aR=>exact(by repeat(first|exact(ab.ko cK.1 a7.1)|(with_reducible refine ab.Iw ?_ _)|(with_reducible refine ab.Iy ?_ _)|(with_reducible refine ab.Ix ?_))));(case aB=>exact fS);(case aF=>exact(fun _ _=>trivial));(case aO=>exact sM);(case aS=>exact(pv fS));(case aL=>exact Cd);intro v0 w1 aY U aw ea;rw[←uu.1]at aY;replace a7:=I (U);have tJ:=I (aY);clear gK;clear aY U aw ea))
  go_ret;exact⟨_,lh,(by(with_reducible repeat(first|apply ab.xx|apply ab.uI|apply ab.pW));exact tJ.1),fS⟩
 ·rw[if_neg c2]at H;exact absurd H (by simp)
def pa.aj:Nat→Bool→List Int→Int→Int→Option (Bool)
 |0,_,_,_,_=>none
 |k+1,bX,dX,x7,x8=>if x8<x7 then(if 0≤x8 then(if x8<(dX.length:Int)then(if(rd dX x8)=91 then(if(rd dX x8)=39 then(some true)else(pa.aj k true dX x7 (wrap64 (x8+1))))else(if bX=true then(if(rd dX x8)=93 then(pa.aj k ((rd dX x8) !=93) dX x7 (wrap64 (x8+1)))else(if(rd dX x8)=39 then(some true)else(pa.aj k ((rd dX x8) !=93) dX x7 (wrap64 (x8+1)))))else(pa.aj k false dX x7 (wrap64 (x8+1)))))else(none))else(none))else(some false)
def pa.f(k:Nat)(aj:List Int):Option (Bool):=pa.aj k false aj (aj.length:Int) 0
theorem pa.calls(k:Nat)(ao:Option Addr)(c0:Nat)(aj:List Int)(r:Bool)(w:World)(bP:ab.C (ab.int .u8) w ao aj.length aj)(eT:aj.length≤c0)(h:pa.f k aj=some r):
 Calls Tryz.prog 4 #[.slice ao aj.length c0] w fun e w'=>e=.returned (.bool r)∧eO w w':=by
 have cK:=I bP;have dj:=I eT;clear bP eT;have H:=h;unfold pa.f at H;clear h;have aK:=I H;clear H;go_enter Tryz.func4,Tryz.ntmps4;go_wp2
 go_loopg [3,8] k (fun bp v0 v1 w'=>∃(bm:Bool) (b9:Int),v0=.bool bm∧v1=.int .i64 b9∧aN (pa.aj bp bm aj (aj.length:Int) b9=some r)∧aN (bp≤k)∧eO w w')
 case atStart=>exact⟨(false),(0),bJ,bJ,aK,⟨Nat.le_refl _⟩,dH⟩
 case round=>
  clear aK;obtain⟨bm,b9,rfl,rfl,bo,dn,⟨m0,rfl⟩⟩:=hrel;cases gk with
  |zero=>exact absurd bo.1 (by simp[pa.aj])
  |succ cY=>
   have H:=bo.1;clear bo;simp only[pa.aj]at H;revert H;refine eo ?_ ?_<;>intro ho H
   ·revert H;refine fg ?_;intro hc;refine fg ?_;intro hy;refine dF ?_ ?_<;>intro gq gU H
    ·revert H;refine dF ?_ ?_<;>intro hG iN H
     ·exact FP
     ·exact zO
    ·by_cases c7:bm=true
     ·subst c7;refine mz ?_;clear H;refine dF ?_ ?_<;>intro hG iN H
      ·exact QJ
      ·revert H;refine dF ?_ ?_<;>intro je k5 H
       ·exact FP
       ·exact QJ
     ·replace c7:=Bool.eq_false_iff.mpr c7;subst c7;refine kf ?_;clear H;intro H;exact QK
   ·exact nc
end ei
namespace cP
open RowKit YtmpeadgiclfapaaGreatDoorW.PrintWords YtmpeadgiclfapaaGreatDoorW.PrintLast YtmpeadgiclfapaaGreatDoorW.PrintMore ei
structure cu(w0 w:World)(g:Nat)(B:List Int)(p:Nat)(told:Int)(l:List cx):Prop where
 st:∃h:fC,cj w0 w g B (p:Int) told h∧h.length=l.length∧ab.R l0 32 w w0.heap.size (fun k=>k≠g) (.slice h.A l.length h.c) l
 bu:Below w0.heap.size w0 w
 le:p≤B.length
 sz:B.length≤100000
theorem cu.below{w0 w w':World}{g:Nat}{B:List Int}{p:Nat}{told:Int}{l:List cx}(h:cu w0 w g B p told l)(U:Below w.heap.size w w'):cu w0 w' g B p told l:=by
 obtain⟨⟨hd,h0,h1,h2⟩,h3,h4,h5⟩:=h;exact⟨⟨hd,h0.below U,h1,ab.nZ h2 U⟩,dq h3 h3.size U,h4,h5⟩
theorem cu.wO{w0 w w':World}{g:Nat}{B:List Int}{p Lu:Nat}{told yA:Int}{l:List cx}{hd:fC}(h:cu w0 w g B p told l)(ew:h.st.choose=hd)(fJ:cj w0 w' g B (Lu:Int) yA hd)(U:Below w0.heap.size w0 w')(ad:cI w w' g none)(hp:Lu≤B.length):cu w0 w' g B Lu yA l:=by
 have ak:=h.st.choose_spec;rw[ew]at ak;exact⟨⟨hd,fJ,ak.2.1,ab.tC ak.2.2 ad (fun _ ad=>ad)⟩,U,hp,h.sz⟩
section
variable {w0 w:World} {g:Nat} {B:List Int} {p:Nat} {told:Int} {l:List cx}
section
variable (h:cu w0 w g B p told l)
include h
theorem pF:Calls Tryz.prog 13 #[.pointer (some ⟨g,0,none⟩)] w fun e w'=>e=.returned (.tuple #[])∧cu w0 w' g B p (if told=1 then 2 else told) l:=
 (nJ.calls g B p told h.st.choose p (if told=1 then 2 else told) w0 w h.st.choose_spec.1 h.bu (by unfold nJ.f;split<;>rfl)).mono fun e w' ⟨h1,h2,h3,h4⟩=>⟨h1,h.wO rfl h2 h3 h4 h.le⟩
theorem p3:Calls Tryz.prog 16 #[.pointer (some ⟨g,0,none⟩)] w fun e w'=>e=.returned (.tuple #[])∧cu w0 w' g B p (if told=1 then 0 else told) l:=
 (k4.calls g B p told h.st.choose p (if told=1 then 0 else told) w0 w h.st.choose_spec.1 h.bu (by unfold k4.f;split<;>rfl)).mono fun e w' ⟨h1,h2,h3,h4⟩=>⟨h1,h.wO rfl h2 h3 h4 h.le⟩
theorem na:Calls Tryz.prog 14 #[.pointer (some ⟨g,0,none⟩)] w fun e w'=>e=.returned (.bool (told==1))∧cu w0 w' g B p told l:=
 (wy.calls g B p told h.st.choose (told==1) p told w0 w h.st.choose_spec.1 h.bu rfl).mono fun e w' ⟨h1,h2,h3,h4⟩=>⟨h1,h.wO rfl h2 h3 h4 h.le⟩
end
def a8(s:List Int)(c:Int):Bool:=match s with
 |[]=>false
 |x::_=>x==c
theorem nk(h:cu w0 w g B p told l)(c:Int):Calls Tryz.prog 24 #[.pointer (some ⟨g,0,none⟩),.int .u8 c] w fun e w'=>e=.returned (.bool (a8 (B.drop p) c))∧cu w0 w' g B p told l:=by
 refine(De.calls g B p told h.st.choose c (a8 (B.drop p) c) p told w0 w h.st.choose_spec.1 h.bu ?_).mono fun e w' ⟨h0,h1,h2,h3⟩=>⟨h0,h.wO rfl h1 h2 h3 h.le⟩;unfold De.f;have:=h.le;by_cases hp:p<B.length
 ·rw[if_pos (by omega),if_pos (by omega),gz B p hp];rfl
 ·rw[if_neg (by omega),List.drop_eq_nil_of_le (by omega)];rfl
def a6(s:List Int)(k:Nat):Int:=s.getD k 0
theorem TZ(h:cu w0 w g B p told l)(k:Nat)(ad:k≤10):Calls Tryz.prog 38 #[.pointer (some ⟨g,0,none⟩),.int .i64 (k:Int)] w fun e w'=>e=.returned (.int .u8 (a6 (B.drop p) k))∧cu w0 w' g B p told l:=by
 refine(qa.calls g B p told h.st.choose k (a6 (B.drop p) k) p told w0 w h.st.choose_spec.1 h.bu ?_).mono fun e w' ⟨h0,h1,h2,h3⟩=>⟨h0,h.wO rfl h1 h2 h3 h.le⟩;unfold qa.f;have:=h.le;have:=h.sz;have hw:wrap64 ((p:Int)+(k:Int))=((p+k:Nat):Int):=by unfold wrap64;omega
 rw[hw];by_cases hp:p+k<B.length
 ·rw[if_pos (by omega),if_pos (by omega)];have e:((p:Int)+(k:Int)).toNat=p+k:=by omega
  simp[a6,rd,List.getD_eq_getElem?_getD,hp,e]
 ·rw[if_neg (by omega)];have:B[p+k]?=none:=List.getElem?_eq_none (by omega);simp[a6,List.getD_eq_getElem?_getD,this]
theorem Cv(h:cu w0 w g B p told l):Calls Tryz.prog 15 #[.pointer (some ⟨g,0,none⟩)] w fun e w'=>e=.returned (.tuple #[])∧cu w0 w' g B (B.length-(bc false (B.drop p)).length) (hD told (bc false (B.drop p))) l:=by
 have ad:=(TW B h.sz told h.st.choose (B.length-p) (4*(B.length-p)+4) p Cf (Nat.le_refl _)).1;refine(fu.calls (4*(B.length-p)+4) g B p told h.st.choose _ _ w0 w h.st.choose_spec.1 h.bu ad).mono fun e w' ⟨h0,h1,h2,h3⟩=>⟨h0,h.wO rfl h1 h2 h3 (by omega)⟩
end
def sub(B:List Int)(lo hi:Nat):ByteArray:=strOfNums ((B.take hi).drop lo)
theorem Lv:(Tryz.prog.info? 32).map (fun i=>(i.zero,i.size,i.bytes))=some (some (.agg #[.int .i64 0,.int .i64 0,.int .i64 0,.bool false,.string ⟨#[]⟩,.string ⟨#[]⟩]),6,64):=by kernel_rfl
theorem Lw{P:Program}{c:Code}{Q:Exit→Act→World→Prop}{a:Act}{w:World}(act:Option Addr→Nat→Nat→Act)(R:Option Addr→Nat→Nat→World→Prop)(h:c.wp P (fun x a' w'=>match x with| .normal=>∃A n m,a'=act A n m∧aN (R A n m w')|_=>False) a w)(k:∀A n m w',aN (R A n m w')→Q .normal (act A n m) w'):c.wp P Q a w:=
 Code.wp_mono (fun x a' w' ae=>by
  cases x<;>first|exact ae.elim|(obtain⟨A,n,m,rfl,ew⟩:=ae;exact k A n m w' ew)) h
theorem T0{w0 w:World}{g:Nat}{B:List Int}{p:Nat}{told:Int}{l:List cx}(h:cu w0 w g B p told l)(kind:Int)(from_:Nat)(aA:from_≤p)(an:l.length≤1000000):
 Calls Tryz.prog 17 #[.pointer (some ⟨g,0,none⟩),.int .i64 kind,.int .i64 (from_:Int)] w fun e w'=>e=.returned (.tuple #[])∧cu w0 w' g B p told (l++[⟨kind,0,from_,false,sub B from_ p,⟨#[]⟩⟩]):=by
 obtain⟨⟨hd,fJ,hlen,ew⟩,dw,hle,dd⟩:=h;obtain⟨ao,c0,bd,c3,U,aw,bP,rfl,rfl,eT⟩:=fJ;have hcut:=EA (P:=Tryz.prog) 22 5 .i64 .i64 Tryz.underlying22 (i:=(Tryz.prog.info? 5).getD default) aM 1 aM ao B.length c0 from_ p (by omega) (by omega) (by omega) eT;have hC:=ab.Ez bP aA hle eT;have aq:((B.take p).drop from_).length=p-from_:=by rw[List.length_drop,List.length_take];omega
 have aD:(ab.int .u8).sz=1:=rfl;rw[aq,aD]at hC;simp only[Int.toNat_natCast]at hcut;generalize (if c0=from_ then ao else Option.map (fun x=>x.add (from_*1)) ao)=bF at hcut hC;generalize c0-from_=c1 at hcut;have hq:∀W,Below w0.heap.size w0 W→(convert 22 9 (.slice bF (p-from_) c1)).run Tryz.prog W=.ok (.string (sub B from_ p)) W:=fun W fD=>ab.rK (P:=Tryz.prog) (c:=c1) Tryz.underlying22 Tryz.underlying5 Tryz.underlying9 (ab.ko hC fD);rw[hlen]at U;have hI:=I ew;have a7:=I dw;have dG:=I U;have fh:=I an;have nj:=I hq;have fz:=I (And.intro aw (And.intro bP (And.intro eT (And.intro hle dd))));clear ew dw U hC aq aD bP eT hlen an aw hq;generalize sub B from_ p=raw at*;go_enter Tryz.func17,Tryz.ntmps17
 go_wp2_with fail
 apply Lw (R:=fun A n m vq=>cu w0 vq g B p told (l++[⟨kind,0,from_,false,raw,⟨#[]⟩⟩]))
 case h=>
  refine fX (n:=24) (S:=fun w'=>w'.cell? ⟨g,0,none⟩=some (.slice ao B.length c0)∧w'.cell? ⟨g,1,none⟩=some (.int .i64 (p:Int))∧w'.cell? ⟨g,3,none⟩=some (.slice hd.A l.length hd.c)∧(convert 22 9 (.slice bF (p-from_) c1)).run Tryz.prog w'=.ok (.string raw) w') (ds:=[23]) #[false,false,false,false,false,false,false,false,false,false,false,false,false,false,false,false,false,false,false,false,false,false,false,false] aM rfl rfl ⟨(bg (gl dG.1) 0).trans rfl,(bg (gl dG.1) 1).trans rfl,(bg (gl dG.1) 3).trans rfl,nj.1 _ (Below.drew a7.1)⟩ (fun hHeld=>?_);refine ax 0 6 ?_;refine ax 1 7 ?_;refine ax 2 8 ?_;refine ax 3 9 ?_;refine ax 5 11 ?_;refine ax 6 12 ?_;refine ax 7 13 ?_;refine ax 8 14 ?_;refine ax 9 15 ?_;refine ax 11 17 ?_;refine ax 12 18 ?_;refine ax 13 19 ?_;refine ax 14 20 ?_;refine eb 4 10 ?_;refine eb 10 16 ?_;refine eb 15 21 ?_;refine ax 16 22 ?_;refine eb 17 23 ?_;refine ax 18 24 ?_;refine gb 19 25 fun K aH=>?_;refine px ?_;refine aH.out _ _ ⟨(bg (iU (gl dG.1) _) 0).trans rfl,(bg (iU (gl dG.1) _) 1).trans rfl,(bg (iU (gl dG.1) _) 3).trans rfl,nj.1 _ (da (Below.drew a7.1) _)⟩ (fun hHeld=>?_);clear aH K;refine ik ?_;refine gb 20 26 fun K aH=>?_
  refine ab.Iu l0 (w0:=w0) w0.heap.size (by rfl) (.tmp 10) (.tmp 25) 24 32 (.agg #[.int .i64 0,.int .i64 0,.int .i64 0,.bool false,.string ⟨#[]⟩,.string ⟨#[]⟩]) 64 (by rfl) Tryz.underlying24 Lv rfl (by decide) (by decide) (.slice hd.A l.length hd.c) l (⟨kind,0,from_,false,raw,⟨#[]⟩⟩:cx) [.int .i64 kind,.int .i64 0,.int .i64 (from_:Int),.bool false,.string raw,.string ⟨#[]⟩] (fun k=>k≠g) (fun _=>False) (by rfl) (by rfl) (BX _ _ _ (⟨kind,0,from_,false,raw,⟨#[]⟩⟩:cx)) (fun _ ad=>ad.elim) (fun k ad=>ab.EC (gl dG.1) k ad) (ab.pW hI.1) (Below.drew a7.1) (Below.drew a7.1).size pB ?_;intro v0 w1 ew dw sg ea;obtain⟨cZ,m0,aZ⟩:=ab.pU ew;generalize jf:List.length _=bn at aZ;subst aZ;have bz:=I (qF (gl dG.1) sg (ab.pV (ab.pW hI.1) (gl dG.1) (by decide)));refine KM ?_;clear ew dw sg ea jf aH K;intro hT l7 jc d0 Gs hHeld;refine ax 21 27 ?_;refine ax 22 28 ?_;refine pZ 23 fun K aH=>?_;exact RJ
 case k=>
  intro cZ bn m0 cJ xQ
  go_wp2_with fail
  go_end0
  exact⟨rfl,xQ.out⟩
def fR(c:Int):Bool:=c==95||(decide (97≤c)&&decide (c≤122))||(decide (65≤c)&&decide (c≤90))
def cN(c:Int):Bool:=decide (48≤c)&&decide (c≤57)
def p5(c:Int):Bool:=fR c||cN c
def iH(c:Int):Bool:=fR c||cN c||c==45||c==43||c==46
def kg(c:Int):Bool:=fR c||cN c||c==45
section
variable (c:Int)
include c
theorem G1:p4.f c=some (fR c):=by
 unfold p4.f fR;by_cases h0:c=95
 ·simp[h0]
 ·by_cases h1:c≥97
  ·by_cases h2:c≤122
   ·simp[h0,h1,h2]
   ·simp[h0,h1,h2,show 65≤c by omega]
  ·by_cases h2:c≥65
   ·simp[h0,h1,h2]
   ·simp[h0,h1,h2]
theorem wD:ks.f c=some (cN c):=by
 unfold ks.f cN;by_cases h0:c≥48
 ·simp[h0]
 ·simp[h0]
theorem abi:AI.f c=some (iH c):=by
 unfold AI.f iH;rw[G1];cases fR c
 ·simp only[Option.bind_some,Bool.false_eq_true,if_false,wD];cases cN c
  ·by_cases h0:c=45
   ·simp[h0]
   ·by_cases h1:c=43
    ·simp[h1]
    ·simp[h0,h1]
  ·simp
 ·simp
theorem T1:qX.f c=some (kg c):=by
 unfold qX.f kg;rw[G1];cases fR c
 ·simp only[Option.bind_some,Bool.false_eq_true,if_false,wD];cases cN c<;>simp
 ·simp
theorem uX(w:World):Calls Tryz.prog 37 #[.int .u8 c] w fun e w'=>e=.returned (.bool (fR c))∧eO w w':=p4.calls c _ w (G1 c)
theorem xN(w:World):Calls Tryz.prog 39 #[.int .u8 c] w fun e w'=>e=.returned (.bool (cN c))∧eO w w':=ks.calls c _ w (wD c)
theorem abe(w:World):Calls Tryz.prog 40 #[.int .u8 c] w fun e w'=>e=.returned (.bool (iH c))∧eO w w':=AI.calls c _ w (abi c)
end
def eU:List Int→Nat
 |[]=>0
 |c::r=>if p5 c then eU r+1 else 0
def bI:List Int→Nat
 |[]=>0
 |c::r=>if cN c then bI r+1 else 0
theorem G2(s:List Int):eU s≤s.length:=by
 induction s with
 |nil=>simp[eU]
 |cons c r bb=>simp only[eU];split<;>simp only[List.length_cons]<;>omega
theorem uh(s:List Int):bI s≤s.length:=by
 induction s with
 |nil=>simp[bI]
 |cons c r bb=>simp only[bI];split<;>simp only[List.length_cons]<;>omega
def fF:List Int→Bool
 |[]=>false
 |c::_=>iH c
theorem T2(s:List Int):(fR (a6 s 0)||cN (a6 s 0))=decide (0<eU s):=by
 cases s with
 |nil=>decide
 |cons c r=>
  show p5 c=_
  simp only[eU];by_cases h:p5 c=true<;>simp[h]
theorem abj(s:List Int):cN (a6 s 0)=decide (0<bI s):=by
 cases s with
 |nil=>decide
 |cons c r=>
  show cN c=_
  simp only[bI];by_cases h:cN c=true<;>simp[h]
end cP
namespace eI
open cP ei
inductive jh (α:Type)
 |yes (a:α)
 |no
 |op
structure Lex where
 br:List Int→jh (Int×Nat×ByteArray)
 vr:List Int→jh Nat
structure fl where
 mode:Int
 st:List Int
 s:List Int
inductive nN
 |eof
 |err
 |op
 |tok (t:cx) (c:fl)
 |sep (c:fl)
abbrev eM(s:List Int):List Int:=bc false s
def lC(c:Int):Int:=if c=123 then 125 else if c=60 then 62 else 93
def other(c:Int):Int:=if c=125 then 62 else 125
def pos(B s:List Int):Nat:=B.length-s.length
def qj(B s:List Int)(kind abk:Int)(n:Nat)(sep:Bool)(str:ByteArray):cx:=⟨kind,abk,(pos B s:Int),sep,cP.sub B (pos B s) (pos B s+n),str⟩
def one(B:List Int)(kind:Int)(st s:List Int):nN:=.tok (qj B s kind 0 1 false ⟨#[]⟩) ⟨kind,st,eM (s.drop 1)⟩
def kD(L:Lex)(B:List Int)(st s:List Int):nN:=
 match L.br s with
 | .no=> .err
 | .op=> .op
 | .yes (k,n,str)=>
  match eM (s.drop n)with
  |58::r=> .tok (qj B s 2 k n true str) ⟨2,st,eM r⟩
  |s1=> .tok (qj B s 2 k n false str) ⟨2,st,s1⟩
def pb(L:Lex)(B:List Int)(st s:List Int):nN:=
 match L.vr s with
 | .no=> .err
 | .op=> .op
 | .yes n=> .tok (qj B s 3 0 n false ⟨#[]⟩) ⟨3,st,eM (s.drop n)⟩
def iF(L:Lex)(B:List Int)(st s:List Int):nN:=
 match st,s with
 |[],[]=> .eof
 |_::_,[]=> .err
 |[],s=>kD L B [] s
 |o::fa,c::r=>if c=lC o then one B 5 fa (c::r)else if c=other (lC o)then .err else kD L B (o::fa) (c::r)
def jG(L:Lex)(B:List Int)(st s:List Int):nN:=
 match s with
 |[]=> .err
 |c::r=>if c=123∨c=60 then one B 4 (c::st) (c::r)else pb L B st (c::r)
def hN(st:List Int):Bool:=match st with
 |91::_=>true
 |_=>false
def next(L:Lex)(B:List Int)(c:fl):nN:=
 if c.mode=0∨c.mode=4 then iF L B c.st c.s
 else if c.mode=2 then
  match c.s with
  |91::r=>one B 6 (91::c.st) (91::r)
  |s=>jG L B c.st s
 else if c.mode=3∨c.mode=5∨c.mode=7 then
  if hN c.st then
   match c.s with
   |93::r=>one B 7 c.st.tail (93::r)
   |44::r=> .sep ⟨8,c.st,eM r⟩
   |_=> .err
  else match c.s with
   |44::r=> .sep ⟨8,c.st,eM r⟩
   |59::r=> .sep ⟨9,c.st,eM r⟩
   |s=>iF L B c.st s
 else if c.mode=6 then
  match c.s with
  |93::r=>one B 7 c.st.tail (93::r)
  |s=>jG L B c.st s
 else if hN c.st then jG L B c.st c.s
 else iF L B c.st c.s
def read(L:Lex)(B:List Int)(c:fl):nN:=
 match next L B c with
 | .sep cw=>next L B cw
 |r=>r
inductive Steps (L:Lex) (B:List Int):fl→List cx→fl→Prop
 |nil (c):Steps L B c [] c
 |cons (c t c1 l c2):read L B c=.tok t c1→Steps L B c1 l c2→Steps L B c (t::l) c2
def Ends(L:Lex)(B:List Int)(c:fl)(l:List cx):Prop:=∃cw,Steps L B c l cw∧read L B cw=.eof
def G3(L:Lex)(B:List Int)(c:fl)(l:List cx):Prop:=∃cw,Steps L B c l cw∧read L B cw=.err
theorem Steps.append{L:Lex}{B:List Int}{a b c:fl}{l m:List cx}(h:Steps L B a l b)(k:Steps L B b m c):Steps L B a (l++m) c:=by
 induction h with
 |nil c=>exact k
 |cons c t c1 l c2 h1 _ bb=>exact .cons c t c1 _ _ h1 (bb k)
theorem Steps.abl{L:Lex}{B:List Int}{a b:fl}{l m:List cx}(h:Steps L B a l b)(k:G3 L B b m):G3 L B a (l++m):=by
 obtain⟨c,h0,h1⟩:=k;exact⟨c,h.append h0,h1⟩
def nn(L:Lex)(B:List Int)(c:fl)(st s:List Int):Prop:=read L B c=iF L B st (eM s)
def yB(L:Lex)(B:List Int)(c:fl)(st s:List Int):Prop:=read L B c=jG L B st (eM s)
def mD(c:fl)(st s:List Int):Prop:=(c.mode=3∨c.mode=5∨c.mode=7)∧c.st=st∧c.s=eM s
end eI
namespace wP
open cP
def wQ:Bool→List Int→Bool
 |_,[]=>false
 |o,c::r=>if o=true∧(c=47∨c=35)then true else wQ (c==91||(o&&cP.blank c)) r
theorem abm{r:List Int}:wQ true r=false→a6 (bc false r) 0≠47:=by
 induction r with
 |nil=>intro _;simp[bc,a6]
 |cons c r bb=>
  intro h;simp only[wQ,true_and]at h;split at h
  ·cases h
  ·rename_i ai
   simp only[bc];by_cases U:cP.blank c=true
   ·rw[if_pos U];refine bb ?_;rw[U]at h
    simpa using h
   ·rw[if_neg U,if_neg (fun e=>ai (.inr e))];exact fun e=>ai (.inl (by simpa [a6]using e))
theorem abn{s:List Int}:∀{o:Bool} {m:Nat} {r:List Int},wQ o s=false→s.drop m=91::r→a6 (bc false r) 0≠47:=by
 induction s with
 |nil=>intro o m r _ h;simp at h
 |cons c s bb=>
  intro o m r h hd;simp only[wQ]at h;split at h
  ·cases h
  ·cases m with
   |zero=>
    simp only[List.drop_zero,List.cons.injEq]at hd;obtain⟨rfl,rfl⟩:=hd;exact abm (by simpa using h)
   |succ m=>exact bb h hd
end wP
