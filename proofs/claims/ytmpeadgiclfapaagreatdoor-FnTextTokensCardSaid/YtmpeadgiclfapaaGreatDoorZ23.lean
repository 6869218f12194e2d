/- Part 21 of the proof (Iz, Tt0, Pn1, Tg4, Tg5, Tg6). Conditions: each theorem's own. -/
import Derived.Test.YtmpeadgiclfapaaGreatDoorZ22
set_option linter.all false
set_option maxHeartbeats 0
set_option maxRecDepth 100000
namespace Go.Proofs.YtmpeadgiclfapaaGreatDoor
namespace sn
open ei RowKit YtmpeadgiclfapaaGreatDoorW.PrintWords YtmpeadgiclfapaaGreatDoorW.PrintLast YtmpeadgiclfapaaGreatDoorW.PrintMore
attribute [local go_sem] sB sC sD sF sG sH sI sJ
def qy.aj:Nat→ByteArray→Int→Option (Int)
 |0,_,_=>none
 |k+1,al,bX=>if bX<(al.size:Int)then(if 0≤bX then(if(bB al bX)<32 then(some bX)else(if(bB al bX)=34 then(some bX)else(if(bB al bX)=39 then(some bX)else(if(bB al bX)=92 then(some bX)else(if(bB al bX)≥127 then(some bX)else(qy.aj k al (wrap64 (bX+1))))))))else(none))else(some (al.size:Int))
def qy.f(k:Nat)(a0:ByteArray):Option (Int):=qy.aj k a0 0
theorem qy.calls(k:Nat)(a0:ByteArray)(r:Int)(w:World)(h:qy.f k a0=some r):
 Calls Tryz.prog 116 #[.string a0] w fun e w'=>e=.returned (.int .i64 r)∧eO w w':=by
 have H:=h;unfold qy.f at H;clear h;have aK:=I H;clear H;go_enter Tryz.func116,Tryz.ntmps116;go_wp2
 go_loopg [3] k (fun bp v0 w'=>∃(bm:Int),v0=.int .i64 bm∧aN (qy.aj bp a0 bm=some r)∧aN (bp≤k)∧eO w w')
 case atStart=>exact⟨(0),bJ,aK,⟨Nat.le_refl _⟩,dH⟩
 case round=>
  clear aK;obtain⟨bm,rfl,bo,dn,⟨m0,rfl⟩⟩:=hrel;cases gk with
  |zero=>exact absurd bo.1 (by simp[qy.aj])
  |succ cY=>
   have H:=bo.1;clear bo;simp only[qy.aj]at H;revert H;refine eo ?_ ?_<;>intro ho H
   ·revert H;refine fg ?_;intro hc;refine eo ?_ ?_<;>intro hy H
    ·exact CE
    ·revert H;refine dF ?_ ?_<;>intro gq gU H
     ·exact CE
     ·revert H;refine dF ?_ ?_<;>intro hG iN H
      ·exact CE
      ·revert H;refine dF ?_ ?_<;>intro je k5 H
       ·exact CE
       ·revert H;refine lf ?_ ?_<;>intro nM H
        ·exact CE
        ·have aK:=I H;clear H;refine CF ?_;intro aW p0 a1;exact Qj
   ·exact nc
def DK.f(aj:List Int):Option (ByteArray):=some (strOfNums aj)
theorem DK.calls(ao:Option Addr)(c0:Nat)(aj:List Int)(r:ByteArray)(w:World)(bP:ab.C (ab.int .u8) w ao aj.length aj)(eT:aj.length≤c0)(h:DK.f aj=some r):
 Calls Tryz.prog 117 #[.slice ao aj.length c0] w fun e w'=>e=.returned (.string r)∧eO w w':=by
 have cK:=I bP;have dj:=I eT;clear bP eT;have H:(some (strOfNums aj))=some r:=h;clear h;obtain rfl:=Option.some.inj H;have iB:=ab.rK (P:=Tryz.prog) (A:=ao) (c:=c0) Tryz.underlying22 Tryz.underlying5 Tryz.underlying9 cK.1;go_enter Tryz.func117,Tryz.ntmps117;go_wp2;go_ret;exact⟨bJ,dH⟩
def DL.f(k:Nat)(aj:List Int):Option (Int):=(DK.f aj).bind fun aeE=>((qy.f k aeE).bind fun aeF=>(some aeF))
theorem DL.calls(k:Nat)(ao:Option Addr)(c0:Nat)(aj:List Int)(r:Int)(w:World)(bP:ab.C (ab.int .u8) w ao aj.length aj)(eT:aj.length≤c0)(h:DL.f k aj=some r):
 Calls Tryz.prog 101 #[.slice ao aj.length c0] w fun e w'=>e=.returned (.int .i64 r)∧eO w w':=by
 have cK:=I bP;have dj:=I eT;clear bP eT;have H:=h;unfold DL.f at H;clear h;refine jB ?_;clear H;intro H;refine AA ?_;intro t0 bF H;refine jB ?_;clear H;rintro⟨t2,bd,H⟩
 try dsimp only at H
 have cZ:=I bd;clear bd;obtain rfl:=Option.some.inj H;go_enter Tryz.func101,Tryz.ntmps101
 go_wp2_with(first|((with_reducible refine kK (f:=117) rfl ?_);refine kJ (some 4) rfl rfl Tryz.func117 aM rfl #[.slice ao aj.length c0] rfl mv ?_;(with_reducible refine(DK.calls _ _ aj t0 _ ?side1 ?side2 bF.1).mono ?_);(case side1=>exact Pl);(case side2=>exact dj.1);rintro e w' ⟨rfl,⟨dh,rfl⟩⟩;refine⟨_,rfl,?_⟩)|((with_reducible refine kK (f:=116) rfl ?_);refine kJ (some 5) rfl rfl Tryz.func116 aM rfl #[.string t0] rfl mv ?_;(with_reducible refine(qy.calls k t0 t2 _ cZ.1).mono ?_);rintro e w' ⟨rfl,⟨dh,rfl⟩⟩;refine⟨_,rfl,?_⟩))
 go_ret;exact⟨bJ,dH⟩
def DM.f(a0:Int):Option (Bool):=if 55296≤a0 then(some (decide (a0<57344)))else(some false)
theorem DM.calls(a0:Int)(r:Bool)(w:World)(h:DM.f a0=some r):
 Calls Tryz.prog 104 #[.int .i32 a0] w fun e w'=>e=.returned (.bool r)∧eO w w':=by
 have H:=h;unfold DM.f at H;clear h;revert H;refine eo ?_ ?_<;>intro ho H
 ·exact Rt
 ·exact Rt
def Be.f(a0:Int)(cg:Int):Option (Int):=if 55296≤a0 then(if a0<56320 then(if 56320≤cg then(if cg<57344 then(some (wrap32 ((Go.bits .or .i32 (wrap32 ((wrap32 (a0-55296))*1024)) (wrap32 (cg-56320)))+65536)))else(some 65533))else(some 65533))else(some 65533))else(some 65533)
theorem Be.calls(a0:Int)(cg:Int)(r:Int)(w:World)(h:Be.f a0 cg=some r):
 Calls Tryz.prog 105 #[.int .i32 a0,.int .i32 cg] w fun e w'=>e=.returned (.int .i32 r)∧eO w w':=by
 have H:=h;unfold Be.f at H;clear h;revert H;refine eo ?_ ?_<;>intro ho H
 ·revert H;refine eo ?_ ?_<;>intro hc H
  ·revert H;refine eo ?_ ?_<;>intro hy H
   ·revert H;refine eo ?_ ?_<;>intro gq H
    ·exact Cz
    ·exact Cz
   ·exact Cz
  ·exact Cz
 ·exact Cz
end sn
namespace Hs
open RowKit YtmpeadgiclfapaaGreatDoorW.PrintWords YtmpeadgiclfapaaGreatDoorW.PrintLast YtmpeadgiclfapaaGreatDoorW.PrintMore ei cP
section
variable (k a n po:Int) (A:Option Addr) (m c:Nat) (x:ByteArray) (w:World)
def qz(w:World)(v:Value)(e:Ending)(w':World):Prop:=e=.returned v∧Below w.heap.size w w'
theorem C8:Calls Tryz.prog 21 #[.agg #[.int .u8 k,.int .u8 a,.int .u8 n,.int .i64 po,.slice A m c,.string x]] w (qz w (.int .u8 k)):=by
 go_enter Tryz.func21,Tryz.ntmps21;exact JI
theorem aa6:Calls Tryz.prog 30 #[.agg #[.int .u8 k,.int .u8 a,.int .u8 n,.int .i64 po,.slice A m c,.string x]] w (qz w (.int .i64 po)):=by
 go_enter Tryz.func30,Tryz.ntmps30;exact JI
theorem DN{s:ByteArray}(hq:∀W,Below w.heap.size w W→(convert 22 9 (.slice A m c)).run Tryz.prog W=.ok (.string s) W):
 Calls Tryz.prog 31 #[.agg #[.int .u8 k,.int .u8 a,.int .u8 n,.int .i64 po,.slice A m c,.string x]] w (qz w (.string s)):=by
 have eT:=hq _ (da (Below.refl _ _) (.cells #[.int .u8 k,.int .u8 a,.int .u8 n,.int .i64 po,.slice A m c,.string x] 47));go_enter Tryz.func31,Tryz.ntmps31;exact JI
section
variable {b:Bool} (ad:k=1∨k=2∨k=3)
include ad
theorem aeG:Calls Tryz.prog 32 #[.agg #[.int .u8 2,.int .u8 (if b=true then k+128 else k),.int .u8 n,.int .i64 po,.slice A m c,.string x]] w (qz w (.int .u8 k)):=by
 rcases ad with rfl|rfl|rfl<;>cases b
 all_goals(
  go_enter Tryz.func32,Tryz.ntmps32
  go_wp2_with fail
  go_ret;exact⟨rfl,da (Below.refl _ _) _⟩)
theorem Ht:Calls Tryz.prog 33 #[.agg #[.int .u8 2,.int .u8 (if b=true then k+128 else k),.int .u8 n,.int .i64 po,.slice A m c,.string x]] w (qz w (.bool b)):=by
 rcases ad with rfl|rfl|rfl<;>cases b
 all_goals(
  go_enter Tryz.func33,Tryz.ntmps33
  go_wp2_with fail
  go_ret;exact⟨rfl,da (Below.refl _ _) _⟩)
end
theorem aeH{b:Bool}{s:ByteArray}(hq:∀W,Below w.heap.size w W→(convert 22 9 (.slice A m c)).run Tryz.prog W=.ok (.string s) W):
 Calls Tryz.prog 34 #[.agg #[.int .u8 2,.int .u8 (if b=true then 1+128 else 1),.int .u8 n,.int .i64 po,.slice A m c,.string x]] w (qz w (.string s)):=by
 cases b
 all_goals(
  have eT:=fun v:Int=>hq _ (da (Below.refl _ _) (.cells #[.int .u8 2,.int .u8 v,.int .u8 n,.int .i64 po,.slice A m c,.string x] 47));go_enter Tryz.func34,Tryz.ntmps34
  go_wp2_with fail
  go_ret;exact⟨rfl,da (Below.refl _ _) _⟩)
theorem aeI{b:Bool}:Calls Tryz.prog 35 #[.agg #[.int .u8 2,.int .u8 (if b=true then 2+128 else 2),.int .u8 n,.int .i64 po,.slice A m c,.string x]] w (qz w (.string x)):=by
 cases b
 all_goals(
  go_enter Tryz.func35,Tryz.ntmps35
  go_wp2_with fail
  go_ret;exact⟨rfl,da (Below.refl _ _) _⟩)
end
end Hs
namespace gi
open RowKit YtmpeadgiclfapaaGreatDoorW.PrintWords YtmpeadgiclfapaaGreatDoorW.PrintLast YtmpeadgiclfapaaGreatDoorW.PrintMore ei cP gJ eI eC nt
theorem aeJ{ae j5:Bool}{c:Int}(h:qm ae j5 c=true):Dy c=true:=by
 unfold qm at h;unfold Dy;by_cases e:c=43∨c=45
 ·rcases e with e|e<;>subst e<;>decide
 ·rw[if_neg e]at h;simp only[Bool.or_eq_true]at h⊢;exact .inl (.inl h)
theorem aeK(ae:Bool):∀(s:List Int) (j5:Bool),nR (s.take (oK ae j5 s)):=by
 intro s
 induction s with
 |nil=>intro j5 x ae;simp at ae
 |cons c r bb=>
  intro j5;simp only[oK];by_cases h:qm ae j5 c=true
  ·rw[if_pos h,List.take_succ_cons];intro x hm;rcases List.mem_cons.mp hm with rfl|hm
   ·exact aeJ h
   ·exact bb _ x hm
  ·rw[if_neg h];intro x hm;simp at hm
theorem aeL(ae:Bool):∀(s:List Int) (j5:Bool),qv (s.drop (oK ae j5 s)):=by
 intro s
 induction s with
 |nil=>intro j5 c r h;simp at h
 |cons c r bb=>
  intro j5;simp only[oK];by_cases h:qm ae j5 c=true
  ·rw[if_pos h,List.drop_succ_cons];exact bb _
  ·rw[if_neg h,List.drop_zero];intro cw bH e;simp only[List.cons.injEq]at e;obtain⟨rfl,rfl⟩:=e;have h0:qm ae j5 c=false:=by simpa using h
   unfold qm at h0;by_cases e:c=43∨c=45
   ·rcases e with e|e<;>subst e<;>exact⟨(by decide),(by decide),(by decide)⟩
   ·rw[if_neg e]at h0;simp only[Bool.or_eq_false_iff,beq_eq_false_iff_ne]at h0;exact⟨h0.1.1,h0.1.2,h0.2⟩
theorem Vl(F:List Int):pP (F.drop (me F)) (si (F.take (me F))) (kl F):=by
 have h:=aek (t:=F.take (me F)) (rest:=F.drop (me F)) (aeK _ _ _) (aeL _ _ _)
 rwa[List.take_append_drop]at h
theorem aeM(s:List Int):kF s=kG s:=rfl
theorem Vm(s:List Int):(kG s).length≤s.length:=by
 unfold kG;split
 ·have:=kC (s.drop 1) false;rw[List.length_drop]at this;omega
 ·exact Nat.le_refl _
theorem aeN(s:List Int):∃m,kG s=s.drop m:=by
 unfold kG;split
 ·obtain⟨m,_,h⟩:=pL (s.drop 1) false;exact⟨1+m,(by rw[h,List.drop_drop])⟩
 ·exact⟨0,rfl⟩
theorem aeO{s:List Int}{k:Nat}(h:qu s=.yes k):∃af r,ht s=some (af,r)∧s.length-r.length=k∧r=s.drop k∧k≤s.length:=by
 unfold qu at h;split at h
 ·cases h
 ·have eh:=Vl (kG s);have hle:=Vm s;have sa:=Um (kG s);unfold Dt qR at h;rcases eh with eh|⟨h1,h2,_,h4⟩|⟨h1,_⟩
  ·rw[eh]at h;simp at h
  ·rw[if_neg h2,if_neg h1]at h;cases aw:fF ((kG s).drop (me (kG s)))
   ·rw[aw]at h;simp only[Bool.false_eq_true,if_false,jh.yes.injEq]at h;obtain⟨af,h0⟩:=h4 aw;refine⟨af,_,h0,?_,?_,?_⟩
    ·rw[List.length_drop];simp only[Int.reduceEq,if_false,if_true,jh.yes.injEq]at h;omega
    ·simp only[Int.reduceEq,if_false,if_true,jh.yes.injEq]at h;obtain⟨m,hm⟩:=aeN s;have:=yV s m _ hm
     conv=>lhs;rw[←this]
     rw[List.drop_drop,this,h]
    ·simp only[Int.reduceEq,if_false,if_true,jh.yes.injEq]at h;omega
   ·rw[aw]at h;simp at h
  ·rw[h1]at h;simp at h
theorem aeP{s:List Int}(h:qu s=.no):ht s=none:=by
 unfold qu at h;split at h
 ·cases h
 ·have eh:=Vl (kG s);unfold Dt qR at h;rcases eh with eh|⟨h1,h2,h3,_⟩|⟨_,h2⟩
  ·rw[eh]at h;simp at h
  ·rw[if_neg h2,if_neg h1]at h;cases aw:fF ((kG s).drop (me (kG s)))
   ·rw[aw]at h;simp at h
   ·exact h3 aw
  ·exact h2
theorem Ms{k:Int}{s:List Int}:∀{af:Int} {r:List Int},ie k s=some (af,r)→r.length≤s.length∧(a8 s 46=true→r.length<s.length):=by
 have aA:∀{k:Int} {s:List Int} {af:Int} {r:List Int},kP k s=some (af,r)→r.length≤s.length:=by
  intro k s af r h;exact Sx
 have ak:∀{k:Int} {s:List Int} {af:Int} {r:List Int},pD k s=some (af,r)→r.length≤s.length:=by
  intro k s af r h;unfold pD at h;split at h
  ·have:=aA h;rw[List.length_drop]at this;omega
  ·exact aA h
 have he:∀{k:Int} {s:List Int} {af:Int} {r:List Int},pC k s=some (af,r)→r.length≤s.length:=by
  intro k s af r h
  have hd:∀{s:List Int},vz s=some (af,r)→r.length≤s.length:=by
   intro s h;unfold vz at h;have:=ak h;rw[List.length_drop]at this;omega
  unfold pC at h;split at h
  ·unfold w6 at h;split at h
   ·split at h
    ·cases h
    ·have:=hd h;exact CC
   ·have:=hd h;rw[List.length_drop]at this;omega
  ·exact ak h
 intro af r h;unfold ie at h;by_cases e:a8 s 46=true
 ·rw[if_pos e]at h;split at h
  ·cases h
  ·unfold AZ at h;have:=he h;rw[List.length_drop,List.length_drop]at this
   have:0<s.length:=by cases s with
    |nil=>cases e
    |cons a b=>simp
   exact⟨(by omega),fun _=>by omega⟩
 ·rw[if_neg e]at h;exact⟨he h,fun h0=>absurd h0 e⟩
section
variable {s:List Int} {af:Int} {r:List Int}
theorem Vn(h:kl s=some (af,r)):r.length<s.length:=by
 have Vo:∀{k:Int} {s:List Int},kP k s=some (af,r)→r.length≤s.length:=by
  intro k s h;exact Sx
 unfold kl at h;split at h
 ·rename_i h48
  have hp:0<s.length:=by cases s with
   |nil=>cases h48
   |cons a b=>simp
  split at h
  ·rename_i ae
   unfold wm at h;split at h
   ·cases h
   ·have:=Vo h;exact CC
  ·split at h
   ·unfold yT at h;have:=Vo h;exact CC
   ·have:=(Ms h).1;rw[List.length_drop]at this;omega
 ·split at h
  ·rename_i h2
   have hp:0<s.length:=List.length_pos_iff.mpr h2.1;have:=(Ms h).1;exact CC
  ·split at h
   ·rename_i h46
    exact(Ms h).2 h46
   ·cases h
theorem Vp(h:ht s=some (af,r)):r.length<s.length:=by
 have h0:=Vn h;have h1:=Vm s;rw[aeM]at h0;omega
end
theorem Vq{c:Int}{r:List Int}(h1:cN c=false)(h2:c≠45)(h3:c≠46):ht (c::r)=none:=by
 unfold cN at h1;simp only[Bool.and_eq_false_iff,decide_eq_false_iff_not]at h1;unfold ht kF;rw[if_neg (by simpa [a8]using h2)];unfold kl;rw[if_neg Fm,if_neg (by rintro⟨_,h⟩;simp only[a6,List.getD_cons_zero]at h;omega),if_neg (by simpa [a8]using h3)]
theorem Hu{neg:Bool}{c:Int}{r:List Int}(h1:fR c=false)(h2:neg=true→c=45→fR (a6 r 0)=false):hs neg (c::r)=0:=by
 unfold hs pO mI;by_cases e:(neg&&a8 (c::r) 45)=true
 ·simp only[Bool.and_eq_true,a8,beq_iff_eq]at e;have h0:mI neg (c::r)=true:=by unfold mI;simp only[Bool.and_eq_true,a8,beq_iff_eq];exact e
  unfold mI at h0;rw[if_pos h0,show(c::r).drop 1=r from rfl,if_neg (by rw[h2 e.1 e.2];decide)]
 ·rw[if_neg e,if_neg (by rw[show a6 (c::r) 0=c from rfl,h1];decide)]
theorem Vr{c:Int}{r:List Int}(an:fR c=true):eU (c::r)=eU r+1:=by
 show(if p5 c=true then eU r+1 else 0)=_
 rw[if_pos (by unfold p5;rw[an];rfl)]
theorem Vs{neg:Bool}{c:Int}{r:List Int}(U:mI neg (c::r)=false)(an:fR c=true)(aw:fF (r.drop (eU r))=false):hs neg (c::r)=1+eU r:=by
 have e:pO neg (c::r)=c::r:=by unfold pO;rw[U,if_neg Bool.false_ne_true]
 unfold hs;rw[e,show a6 (c::r) 0=c from rfl,if_pos an,Vr an,show(c::r).drop (eU r+1)=r.drop (eU r)from rfl,aw,if_neg Bool.false_ne_true,U,if_neg Bool.false_ne_true];omega
section
variable {c:Int} {r:List Int}
theorem aeQ(ai:cN c=true):bI (c::r)=bI r+1:=by
 show(if cN c=true then bI r+1 else 0)=_
 rw[if_pos ai]
theorem aeR{n:Nat}(h:ga (c::r)=.yes n)(ar:¬(c=34∨c=39)):
 (0<hs true (c::r)∧hs true (c::r)=n)∨(hs true (c::r)=0∧∃af t,ht (c::r)=some (af,t)∧(c::r).length-t.length=n∧t=(c::r).drop n∧0<n∧n≤(c::r).length):=by
 simp only[ga]at h;rw[if_neg ar]at h;by_cases an:fR c=true∨(c=45∧fR (a6 (c::r) 1)=true)
 ·rw[if_pos an]at h;left;unfold xO at h;split at h
  ·cases h
  ·rename_i aw
   simp only[jh.yes.injEq]at h;have hid:eU (c::r)=(if p5 c=true then eU r+1 else 0):=rfl;rw[show(c::r).drop 1=r from rfl]at h aw;rw[show(c::r).drop (1+eU r)=r.drop (eU r)by rw[Nat.add_comm];rfl]at aw;have nK:fF (r.drop (eU r))=false:=by simpa using aw
   by_cases h0:c=45
   ·subst h0
    have mr:fR (a6 r 0)=true:=by
     rcases an with h|h
     ·exact absurd h (by decide)
     ·exact h.2
    have e:hs true (45::r)=1+eU r:=by
     unfold hs pO;rw[show mI true (45::r)=true from rfl,if_pos rfl,show(45::r).drop 1=r from rfl,if_pos mr,if_neg (by rw[nK];decide),if_pos rfl]
    rw[e];exact⟨(by omega),h⟩
   ·have aeS:fR c=true:=by
     rcases an with h|h
     ·exact h
     ·exact absurd h.1 h0
    have U:mI true (c::r)=false:=by simp[mI,a8,h0]
    have e:hs true (c::r)=1+eU r:=Vs U aeS nK;rw[e];exact⟨(by omega),h⟩
 ·rw[if_neg an]at h;right;have hp:hs true (c::r)=0:=Hu PI (fun _ e=>by cases aD:fR (a6 r 0)with|false=>rfl|true=>exact absurd (.inr ⟨e,aD⟩) an);split at h
  ·obtain⟨af,t,h0,h1,h2,h3⟩:=aeO h;have:=Vp h0;exact⟨hp,af,t,h0,h1,h2,(by omega),h3⟩
  ·cases h
theorem aeT(h:ga (c::r)=.no)(ar:¬(c=34∨c=39)):hs true (c::r)=0∧ht (c::r)=none:=by
 simp only[ga]at h;rw[if_neg ar]at h;by_cases an:fR c=true∨(c=45∧fR (a6 (c::r) 1)=true)
 ·rw[if_pos an]at h;unfold xO at h;split at h<;>cases h
 ·rw[if_neg an]at h;have hp:hs true (c::r)=0:=Hu PI (fun _ e=>by cases aD:fR (a6 r 0)with|false=>rfl|true=>exact absurd (.inr ⟨e,aD⟩) an);split at h
  ·exact⟨hp,aeP h⟩
  ·rename_i hd
   refine⟨hp,Vq ?_ (fun e=>hd (.inr (.inl e))) (fun e=>hd (.inr (.inr e)))⟩;cases e:cN c with
   |false=>rfl
   |true=>exact absurd (.inl e) hd
theorem aeU(ai:cN c=true)(h0:c=48→bI r=0)(aw:fF (r.drop (bI r))=false):ht (c::r)=some (0,r.drop (bI r)):=by
 have au:=ai;unfold cN at au;simp only[Bool.and_eq_true,decide_eq_true_eq]at au
 have dot:ie 0 (r.drop (bI r))=some (0,r.drop (bI r)):=by
  have aq:∀k,iH k=true→a8 (r.drop (bI r)) k=false:=by
   intro k ad;cases ed:r.drop (bI r)with
   |nil=>rfl
   |cons a b=>
    rw[ed]at aw;exact QH
  unfold ie pC pD kP;rw[aq 46 (by decide),aq 101 (by decide),aq 69 (by decide),aq 102 (by decide),aq 70 (by decide),aw];simp
 have hm:kF (c::r)=c::r:=by unfold kF;rw[if_neg Fm]
 unfold ht;rw[hm];by_cases h1:c=48
 ·subst h1;have aG:=h0 rfl;rw[aG,List.drop_zero]at dot aw⊢
  have A3:∀k,iH k=true→a8 r k=false:=by
   intro k ad;cases r with
   |nil=>rfl
   |cons a b=>
    exact QH
  rw[DA (A3 120 (by decide)) (A3 88 (by decide)) ?_,dot];intro a b e;subst e;have eh:iH a=false:=aw;unfold iH cN at eh;unfold en;simp only[Bool.or_eq_false_iff,Bool.and_eq_false_iff,decide_eq_false_iff_not]at eh⊢;omega
 ·rw[Mi (by omega),U4,dot]
theorem Vt(ai:cN c=true)(h0:¬(c=48∧1<bI (c::r)))(aw:fF ((c::r).drop (bI (c::r)))=false):ht (c::r)=some (0,(c::r).drop (bI (c::r))):=by
 have hd:=aeQ (r:=r) ai;have e:(c::r).drop (bI (c::r))=r.drop (bI r):=by rw[hd];rfl
 rw[e]at aw⊢;exact aeU ai (fun h=>by have:=fun h1=>h0 ⟨h,h1⟩;omega) aw
theorem Vu{k:Int}{n:Nat}{str:ByteArray}(h:fW (c::r)=.yes (k,n,str))(ar:c≠91):
 (k=1∧hs false (c::r)=n∧0<n∧str=strOfNums ((c::r).take n))∨
 (k=3∧hs false (c::r)=0∧ht (c::r)=some (0,(c::r).drop n)∧0<n∧n≤(c::r).length∧n=bI (c::r)∧a8 (c::r) 45=false∧jx 0 (c::r)≤2147483647∧str=strOfNums ((c::r).take n)):=by
 simp only[fW]at h;rw[if_neg ar]at h;by_cases an:fR c=true
 ·rw[if_pos an]at h;split at h
  ·cases h
  ·rename_i aw
   simp only[jh.yes.injEq,Prod.mk.injEq]at h;obtain⟨rfl,rfl,rfl⟩:=h;left;have U:mI false (c::r)=false:=rfl;have hi:0<eU (c::r):=by simp only[eU,p5,an];simp
   refine⟨rfl,?_,hi,rfl⟩;rw[Vr an]at aw⊢;rw[Vs U an (by simpa using aw)];omega
 ·rw[if_neg an]at h;have wW:fR c=false:=by simpa using an
  split at h
  ·rename_i hd
   unfold Du at h;split at h
   ·cases h
   ·rename_i aq
    split at h
    ·cases h
    ·rename_i aZ
     simp only[jh.yes.injEq,Prod.mk.injEq]at h;obtain⟨rfl,rfl,rfl⟩:=h;right
     have aw:fF ((c::r).drop (bI (c::r)))=false:=by
      cases e:fF ((c::r).drop (bI (c::r)))with
      |false=>rfl
      |true=>exact absurd (.inr e) aq
     have hp:=Vt hd (fun e=>aq (.inl e)) aw
     have h0:a8 (c::r) 45=false:=by
      exact RZ
     exact⟨rfl,Hu wW (fun e=>by cases e),hp,(by simp only[bI,hd];simp),uh _,rfl,h0,(by omega),rfl⟩
  ·split at h<;>cases h
theorem aeV(h:fW (c::r)=.no)(ar:c≠91):
 hs false (c::r)=0∧(ht (c::r)=none∨(ht (c::r)=some (0,(c::r).drop (bI (c::r)))∧a8 (c::r) 45=false∧2147483647<jx 0 (c::r)∧0<bI (c::r))):=by
 simp only[fW]at h;rw[if_neg ar]at h;by_cases an:fR c=true
 ·rw[if_pos an]at h;split at h<;>cases h
 ·rw[if_neg an]at h;have wW:fR c=false:=by simpa using an
  refine⟨Hu wW (fun e=>by cases e),?_⟩;split at h
  ·rename_i hd
   unfold Du at h;split at h
   ·cases h
   ·rename_i aq
    split at h
    ·rename_i aZ
     right
     have aw:fF ((c::r).drop (bI (c::r)))=false:=by
      cases e:fF ((c::r).drop (bI (c::r)))with
      |false=>rfl
      |true=>exact absurd (.inr e) aq
     have h0:a8 (c::r) 45=false:=by
      exact RZ
     exact⟨Vt hd (fun e=>aq (.inl e)) aw,h0,aZ,(by simp only[bI,hd];simp)⟩
    ·cases h
  ·rename_i hd
   split at h
   ·cases h
   ·rename_i ak
    left;refine Vq (by simpa using hd) (fun e=>ak (.inl e)) (fun e=>ak (.inr (.inl e)))
end
end gi
namespace nt
open RowKit YtmpeadgiclfapaaGreatDoorW.PrintWords YtmpeadgiclfapaaGreatDoorW.PrintLast YtmpeadgiclfapaaGreatDoorW.PrintMore ei cP gJ eI eC mG
def DO(w0:World)(g:Nat)(B:List Int)(p:Nat):Prop:=∀(w:World) (l:List cx) (c:fl) (st:List Int) (deep:Int),cu w0 w g B p 1 l→l.length≤p→p<B.length→Mc st→read ca B c=kD ca B st (B.drop p)→
 Calls Tryz.prog 18 #[.pointer (some ⟨g,0,none⟩),.int .i64 deep] w (y2 w0 g B c l (fun q cw=>nn ca B cw st (B.drop q)) (p+1))
structure Mt(B:List Int)(c:fl)(l:List cx)(st:List Int)(q dy:Nat)(t2:Int)(lt:List cx):Prop where
 lt:∃tok,lt=l++[tok]∧(t2=1→∃c2,eI.Steps ca B c [tok] c2∧c2.mode=2∧c2.st=st∧c2.s=B.drop dy)
 DG:t2=1∨(t2=2∧jP (B.drop dy)=true)
 ge:q≤dy
 aeW:eM (B.drop dy)=B.drop dy
section
variable {B:List Int} {c:fl} {l:List cx} {st:List Int}
theorem aeX{p q ba:Nat}{t1:Int}{kind:Int}{str:ByteArray}(hp:p<q)(ar:q≤B.length)(ai:read ca B c=kD ca B st (B.drop p))(aq:fW (B.drop p)=.yes (kind,q-p,str))(ak:mh B q 1 ba t1)(U:a8 (B.drop ba) 58=false):
 Mt B c l st q ba t1 (l++[(⟨2,kind,p,false,cP.sub B p q,str⟩:cx)]):=
 ⟨⟨_,rfl,fun _=>⟨_,yX (adM (by omega) (by omega) ai aq (by rw[←ak.at_];exact U)),rfl,rfl,ak.at_.symm⟩⟩,ak.t1,ak.ge ar,(by rw[ak.at_,vA])⟩
theorem aeY{p q ba dy gH:Nat}{t1 t3:Int}{kind:Int}{str:ByteArray}(hp:p<q)(ar:q≤B.length)(ai:read ca B c=kD ca B st (B.drop p))(aq:fW (B.drop p)=.yes (kind,q-p,str))(ak:mh B q 1 ba t1)(U:a8 (B.drop ba) 58=true)(yY:dy=ba+1)(ui:mh B dy 1 gH t3):
 Mt B c l st q gH t3 (l++[(⟨2,kind,p,true,cP.sub B p q,str⟩:cx)]):=by
 subst yY;obtain⟨h0,h1⟩:=ph U;refine⟨⟨_,rfl,fun _=>⟨_,yX (adL (by omega) (by omega) ai aq (by rw[←ak.at_];exact h1)),rfl,rfl,ui.at_.symm⟩⟩,ui.t1,?_,(by rw[ui.at_,vA])⟩;have:=ak.ge ar;have:=ui.ge (by omega);omega
theorem aeZ{ku mx:Nat}{t4:Int}{lA:List cx}(h:Out B c l (fun cw=>mD cw st (B.drop ku)) ku 1 lA)(ar:ku≤B.length)(dA:Mc st)(ak:mh B ku 1 mx t4)(h1:a8 (B.drop mx) 44=false)(h2:a8 (B.drop mx) 59=false):
 Out B c l (fun cw=>nn ca B cw st (B.drop mx)) mx t4 lA:=by
 rcases ak.t1 with rfl|⟨rfl,_⟩
 ·obtain⟨d,cw,rfl,h0,h3,h4⟩:=h.yes rfl;obtain⟨e,he⟩:=dA;have hR:=ak.ge ar;refine .done h0 ?_ (by omega);have:=ac0 (L:=ca) (B:=B) h3 he.U0 (by rw[←ak.at_];exact h1) (by rw[←ak.at_];exact h2);unfold nn at this⊢;rw[this,ak.at_,vA]
 ·exact .w9 (by decide)
theorem Vv{ku mx Ba:Nat}{t4:Int}{lA:List cx}(h:Out B c l (fun cw=>mD cw st (B.drop ku)) ku 1 lA)(ar:ku≤B.length)(dA:Mc st)(ak:mh B ku 1 mx t4)(h1:a8 (B.drop mx) 44=true∨a8 (B.drop mx) 59=true)(ae0:Ba=mx+1):
 Out B c l (fun cw=>nn ca B cw st (B.drop Ba)) Ba t4 lA:=by
 subst ae0
 have aU:t4=1:=by
  rcases h1 with h1|h1
  ·exact ak.BP h1 (by decide) (by decide)
  ·exact ak.BP h1 (by decide) (by decide)
 subst aU;obtain⟨d,cw,rfl,h0,h2,h3⟩:=h.yes rfl;obtain⟨e,he⟩:=dA;have hR:=ak.ge ar;refine .done h0 ?_ (by omega);refine ac1 (L:=ca) (B:=B) h2 he.U0 ?_;rw[←ak.at_];rcases h1 with h1|h1
 ·exact .inl (ph h1).2
 ·exact .inr (ph h1).2
end
theorem ae1{w0:World}{g:Nat}{B:List Int}{p:Nat}(pj:∀ba,p<ba→A9 w0 g B ba)(bD:∀ba,p<ba→DH w0 g B ba)(bG:∀x∈B,0≤x∧x<256):DO w0 g B p:=by
 intro w l c st deep h an hp dA ai;have bU:=I pj;have fh:=I bD;have dG:=I h;have dS:=I h.sz;have ef:=I an;have fU:=I ai;have cr:=I hp;have zR:=I dA;have fq:=I bG
 clear h an ai pj bD hp dA bG
 go_enter Tryz.func18,Tryz.ntmps18
 go_upto_if 6 with(first|(go_at_call 23;refine(adD dG.1 cr.1 fq.1 (by have:=ef.1;have:=dS.1;have:=cr.1;omega)).mono ?_;rintro bk wn ⟨kind,str,q,told,Vw,rfl,cq⟩;have Mu:=I cq;have bV:=I Vw;clear cq Vw))
 cases mg:(told==1)
 ·have et:=I (show told≠1 from beq_eq_false_iff_ne.mp mg);clear mg
  go_wp2_with fail
  refine tf ?_;refine⟨rfl,q,told,l,(by have:=Mu.1;rwa[if_neg et.1]at this),?_,fun h=>absurd h et.1⟩;rcases bV.1.1 with h|h|h
  ·subst h;exact .fail (adK fU.1 (bV.1.2.2 rfl))
  ·exact absurd h et.1
  ·subst h;exact .w9 (by decide)
 ·have ae2:told=1:=beq_iff_eq.mp mg;clear mg;subst ae2;have Mv:=I (show cu w0 wn g B q 1 (l++[(⟨2,kind,p,false,cP.sub B p q,str⟩:cx)])from by have:=Mu.1;rwa[if_pos rfl]at this);have DP:=I (bV.1.2.1 rfl);clear Mu bV
  go_upto_if 10 with(first|(go_at_call 15;refine(y5 Mv.1).mono ?_;rintro bk ws ⟨ba,t1,fV,rfl,cq⟩;have wH:=I cq;have ej:=I fV;clear cq fV)|(go_at_call 24;refine(nk wH.1 58).mono ?_;rintro bk wi ⟨rfl,cq⟩;have Bb:=I cq;clear cq))
  go_cut [] (fun wc=>∃(p0:Nat) (t0:Int) (lt:List cx),aN (Mt B c l st q p0 t0 lt)∧aN (cu w0 wc g B p0 t0 lt))
  case first=>
   cases U:a8 (B.drop ba) 58
   ·have cW:=I (aeX (l:=l) DP.1.2 Mv.1.le fU.1 DP.1.1 ej.1 U);clear U
    go_wp2_with fail
    go_meet
    case rel=>exact⟨ba,t1,_,cW,Bb⟩
   ·have aC:=I U;have hv:t1=1:=ej.1.BP U (by decide) (by decide);subst hv;have kL:=I (show ba+1≤B.length from(ph U).1);clear U;obtain⟨b,c3,aT,Mw,Mx,bL,Vx⟩:=Bb.1.sep;have Vy:=I Vx;have Vz:=I (show l.length≤1000000 by have:=ef.1;have:=dS.1;have:=cr.1;omega);clear Vx;obtain⟨m,hm⟩:∃m,m=l.length:=⟨_,rfl⟩;rw[←hm]at Vy aT Mw Mx Vz;obtain⟨bn,cR⟩:∃bn,bn=m+1:=⟨_,rfl⟩;rw[←cR]at aT;have ae3:wrap64 ((bn:Int)-1)=(m:Int):=by have:=Vz.1;unfold wrap64;omega
    have ae4:=eq_true (show(0:Int)≤(m:Int)by omega);have ae5:=eq_true (show(m:Int)<(bn:Int)by omega);have pE:=I hm;clear hm cR
    go_upto_region 3 with fail
    go_cut [] (fun wc=>aN (cu w0 wc g B ba 1 (l++[(⟨2,kind,p,true,cP.sub B p q,str⟩:cx)])))
    case first=>
     refine fX (n:=13) (S:=fun w'=>w'.cell? ⟨g,3,none⟩=some (.slice (some ⟨b,0,none⟩) bn c3)∧w'.cell? ⟨b,m*6+3,none⟩=some (.bool false)∧w'.frozen? ⟨b,m*6+3,none⟩=false) (ds:=[12]) #[false,false,false,false,false,false,false,false,false,false,false,false,false] aM rfl rfl ⟨aT,Mw,Mx⟩ (fun hHeld=>?_);refine ax 0 11 ?_;refine ax 1 12 ?_;refine ax 2 13 ?_;refine ax 4 15 ?_;refine ax 5 16 ?_;refine ax 6 17 ?_;refine eb 3 14 ?_;refine eb 7 18 ?_;refine ax 8 19 ?_;refine ax 9 20 ?_;refine ax 10 21 ?_;refine ax 11 22 ?_;refine pZ 12 fun K aH=>?_;refine yt ?_;clear aH K
     go_wp2_with fail
     go_meet
     case rel=>exact⟨(by refine x4 ?_;exact Vy.1)⟩
    case rest=>
     clear aT Mw Mx ae3 ae4 ae5;have VA:=hcut;clear hcut
     go_upto_region 4 with fail
     obtain⟨ao,c7,bd,ck,bh,bA,y3,aT,z0,cp,z2,bP⟩:=VA.1.fL
     go_cut [] (fun wc=>∃p0:Nat,aN (p0=ba+1)∧aN (cu w0 wc g B p0 1 (l++[(⟨2,kind,p,true,cP.sub B p q,str⟩:cx)])))
     case first=>
      have hX:wrap64 ((ba:Int)+1)=((ba+1:Nat):Int):=by have:=dS.1;have:=kL.1;unfold wrap64;omega
      go_wp2_with fail
      go_meet
      case rel=>
       refine⟨ba+1,⟨rfl⟩,⟨?_⟩⟩;exact cu.setAt (p:=ba) (by refine x4 ?_;exact VA.1) (ba+1) kL.1
     case rest=>
      clear bh bA y3 aT z0 cp z2;obtain⟨p0,gP,mY⟩:=hcut;obtain⟨ao,c7,bd,ck,bh,bA,y3,aT,z0,cp,z2,bP⟩:=mY.1.fL;have az:(1:Int)≤(p0:Int):=by have:=gP.1;omega
      have ee:(p0:Int)≤100000:=by have:=mY.1.le;have:=dS.1;omega
      have bM:=I (And.intro az ee);have oX:=I (show∀v:Int,v=(p0:Int)-1→v=(ba:Int)from fun v aZ=>by have:=gP.1;omega)
      go_wp2_with(first|(go_at_call 15;refine(y5 mY.1).mono ?_;rintro bk wf ⟨dy,t2,fV,rfl,cq⟩;have uW:=I cq;have Hr:=I fV;clear cq fV))
      go_meet
      case rel=>exact⟨dy,t2,_,⟨aeY DP.1.2 Mv.1.le fU.1 DP.1.1 ej.1 aC.1 gP.1 Hr.1⟩,uW⟩
  case rest=>
   obtain⟨p0,t0,lt,cW,cT⟩:=hcut;have mW:=I (show p+1≤p0 by have:=cW.1.ge;have:=DP.1.2;omega);have oc:=I (show lt.length≤p0 by obtain⟨tok,e,_⟩:=cW.1.lt;rw[e,List.length_append,List.length_singleton];have:=mW.1;have:=ef.1;omega)
   go_upto_if 33 with(first|(go_at_call 24;refine(nk cT.1 91).mono ?_;rintro bk w1 ⟨rfl,cq⟩;have df:=I cq;clear cq))
   go_cut [] (fun wc=>∃(a1:Nat) (t2:Int) (lA:List cx),aN (Out B c l (fun cw=>mD cw st (B.drop a1)) a1 t2 lA∧(t2=1→p+1≤a1))∧aN (cu w0 wc g B a1 t2 lA))
   case first=>
    cases U:a8 (B.drop p0) 91
    ·have aC:=I U;clear U;by_cases hv:t0=1
     ·subst hv;obtain⟨tok,fo,wX⟩:=cW.1.lt;obtain⟨c2,h0,h1,h2,h3⟩:=wX rfl;have lg:=I h0;have Qb:=I fo
      have y8:=I (show read ca B c2=jG ca B st (B.drop p0)by
       have rl:=cW.1.aeW;have h4:=ac2 (L:=ca) (B:=B) (c:=c2) (s:=B.drop p0) h1 (h3.trans rl.symm) (by rw[rl];exact aC.1);unfold yB at h4;rw[rl,h2]at h4;exact h4)
      clear fo wX h0 h1 h2 h3
      go_wp2_with(first|(go_at_call 26;refine(bU.1 p0 (by have:=mW.1;omega) _ _ c2 st _ df.1 oc.1 y8.1).mono ?_;rintro bk Bc hr;obtain⟨rfl,sT,rV,qS,cq,qx,ts⟩:=hr;have sU:=I cq;have tS:=I qx;have wg:=I ts;clear cq qx ts))
      exact Qa
     ·have gx:=I hv;have DQ:=I (show t0=2 by rcases cW.1.DG with h|h;exact absurd h hv;exact h.1);clear hv
      go_wp2_with(first|(go_at_call 26;refine(aeq df.1 gx.1 _).mono ?_;rintro bk Bc ⟨rfl,cq⟩;have sU:=I cq;clear cq))
      go_meet
      case rel=>exact⟨p0,t0,lt,⟨.w9 DQ.1,fun h=>absurd h gx.1⟩,sU⟩
    ·have aC:=I U
     have hv:t0=1:=by
      rcases cW.1.DG with h|⟨_,aZ⟩
      ·exact h
      ·rw[UY aZ 91 (by decide) (by decide)]at U;cases U
     subst hv;clear U;obtain⟨tok,fo,wX⟩:=cW.1.lt;obtain⟨c2,h0,h1,h2,h3⟩:=wX rfl;have lg:=I h0;have Qb:=I fo;have y8:=I (show read ca B c2=one B 6 (91::st) (B.drop p0)by rw[adN h1 h3 aC.1,h2]);clear fo wX h0 h1 h2 h3
     go_wp2_with(first|(go_at_call 25;refine(fh.1 p0 (by have:=mW.1;omega) _ _ c2 st _ df.1 oc.1 aC.1 y8.1).mono ?_;rintro bk Bc hr;obtain⟨rfl,sT,rV,qS,cq,qx,ts⟩:=hr;have sU:=I cq;have tS:=I qx;have wg:=I ts;clear cq qx ts))
     exact Qa
   case rest=>
    obtain⟨a1,t2,lA,hW,df⟩:=hcut
    go_upto_if 42 with(first|(go_at_call 14;refine(na df.1).mono ?_;refine AE ?_;intro ur bS))
    cases mg:(t2==1)
    ·have et:=I (show t2≠1 from beq_eq_false_iff_ne.mp mg);clear mg
     go_wp2_with fail
     refine tf ?_;exact⟨rfl,a1,t2,lA,bS.1,hW.1.1.Jt et.1,fun h=>absurd h et.1⟩
    ·have hv:t2=1:=beq_iff_eq.mp mg;clear mg;subst hv;have nC:=I (hW.1.2 rfl)
     go_upto_region 11 with(first|(go_at_call 15;refine(y5 bS.1).mono ?_;rintro bk ws ⟨dy,t2,fV,rfl,cq⟩;have wH:=I cq;have ej:=I fV;clear cq fV))
     have My:=I (ej.1.ge bS.1.le);cases h0:a8 (B.drop dy) 44
     ·cases h1:a8 (B.drop dy) 59
      ·have aC:=I h0;have bM:=I h1;clear h0 h1
       go_wp2_with(first|(go_at_call 24;first|(have ob:=qf.1;clear ob;refine(nk qf.1 59).mono ?_;rintro bk Vk ⟨rfl,cq⟩;rw[bM.1];have xc:=I cq;clear cq)|(refine Lf ?_;intro C7 qf)))
       go_end0
       exact⟨rfl,dy,t2,lA,xc.1,aeZ hW.1.1 df.1.le zR.1 ej.1 aC.1 bM.1,fun _=>by have:=My.1;have:=nC.1;omega⟩
      ·have aC:=I h0;have bM:=I h1;have kL:=I (show dy+1≤B.length from(ph h1).1);clear h0 h1
       go_upto_region 12 with(first|(go_at_call 24;first|(have ob:=qf.1;clear ob;refine(nk qf.1 59).mono ?_;rintro bk Vk ⟨rfl,cq⟩;rw[bM.1];have xc:=I cq;clear cq)|(refine Lf ?_;intro C7 qf)))
       obtain⟨ao,c7,bd,ck,bh,bA,y3,aT,z0,cp,z2,bP⟩:=xc.1.fL;refine GA ?_;intro hX
       go_wp2_with fail
       go_end0
       refine⟨rfl,dy+1,t2,lA,?_,Vv hW.1.1 df.1.le zR.1 ej.1 (.inr bM.1) rfl,fun _=>by have:=My.1;have:=nC.1;omega⟩;exact cu.setAt (p:=dy) xc.1 (dy+1) kL.1
     ·have aC:=I h0;have kL:=I (show dy+1≤B.length from(ph h0).1);clear h0
      go_upto_region 12 with(first|(go_at_call 24;refine Lf ?_;intro C7 qf))
      obtain⟨ao,c7,bd,ck,bh,bA,y3,aT,z0,cp,z2,bP⟩:=qf.1.fL;refine GA ?_;intro hX
      go_wp2_with fail
      go_end0
      refine⟨rfl,dy+1,t2,lA,?_,Vv hW.1.1 df.1.le zR.1 ej.1 (.inl aC.1) rfl,fun _=>by have:=My.1;have:=nC.1;omega⟩;exact cu.setAt (p:=dy) qf.1 (dy+1) kL.1
theorem ae6{B:List Int}{c:fl}{l:List cx}{st:List Int}{q ba:Nat}{cU:List cx}(h:Out B c l (fun cw=>nn ca B cw st (B.drop q)) q 1 cU)(oP:rq 0 st)(ak:mh B q 1 ba 1)(hp:B.length≤ba)(ar:q≤B.length):Out B c l (tR B st 0 ba) ba 1 cU:=by
 obtain⟨d,cw,rfl,h0,h1,h2⟩:=h.yes rfl;have hR:=ak.ge ar;refine .done h0 ?_ (by omega);unfold tR;rw[if_pos rfl];unfold nn at h1;rw[h1,←ak.at_,List.drop_eq_nil_of_le hp];exact adO oP
section
variable {B:List Int} {c:fl} {l:List cx} {st:List Int} {q ba:Nat} {e:Int} {cU:List cx} {G:fl→Prop} (h:Out B c l (fun cw=>nn ca B cw st (B.drop q)) q 1 cU) (oP:rq e st)
include h oP
theorem ae7(he:e≠0)(ak:mh B q 1 ba 1)(hp:B.length≤ba):Out B c l G ba 0 cU:=by
 obtain⟨d,cw,rfl,h0,h1,h2⟩:=h.yes rfl;refine .Hm h0 ?_;unfold nn at h1;rw[h1,←ak.at_,List.drop_eq_nil_of_le hp];exact adP oP he
theorem aae(ak:mh B q 1 ba 1)(U:rd B (ba:Int)=125∨rd B (ba:Int)=62)(Bf:¬rd B (ba:Int)=e)(hp:ba<B.length):Out B c l G ba 0 cU:=by
 obtain⟨d,cw,rfl,h0,h1,h2⟩:=h.yes rfl;refine .Hm h0 ?_;unfold nn at h1;rw[h1,←ak.at_,gz B ba hp];exact adR oP U Bf
end
theorem aad{B:List Int}{c:fl}{l:List cx}{st:List Int}{q ba dy:Nat}{e:Int}{cU:List cx}(h:Out B c l (fun cw=>nn ca B cw st (B.drop q)) q 1 cU)(oP:rq e st)(ak:mh B q 1 ba 1)(Bf:rd B (ba:Int)=e)(he:e=125∨e=62)(hp:ba<B.length)(yY:dy=ba+1)(ar:q≤B.length):
 Out B c l (tR B st e dy) dy 1 (cU++[⟨5,0,ba,false,cP.sub B ba dy,⟨#[]⟩⟩]):=by
 subst yY;obtain⟨d,cw,rfl,h0,h1,h2⟩:=h.yes rfl;have hR:=ak.ge ar;unfold nn at h1;rw[List.append_assoc];refine .done (Mb h0 (h1.trans (by rw[←ak.at_];exact adS oP he hp Bf))) ?_ (by simp at h2⊢;omega);unfold tR;rw[if_neg (by omega)];exact⟨.inr (.inl rfl),rfl,rfl⟩
theorem ae8{B:List Int}{cw:fl}{st:List Int}{q ba:Nat}{e:Int}(h:nn ca B cw st (B.drop q))(oP:rq e st)(ak:mh B q 1 ba 1)(hp:ba<B.length)(h1:rd B (ba:Int)≠125)(h2:rd B (ba:Int)≠62):read ca B cw=kD ca B st (B.drop ba):=by
 unfold nn at h;rw[h,←ak.at_];exact adT oP hp h1 h2
structure ae9(B:List Int)(c:fl)(l:List cx)(st:List Int)(p q:Nat)(t:Int)(cU:List cx):Prop where
 out:Out B c l (fun cw=>nn ca B cw st (B.drop q)) q t cU
 ge:t=1→p≤q
section
variable {w0:World} {g:Nat} {B:List Int}
theorem afa{p:Nat}(hF:∀ba,p≤ba→DO w0 g B ba):A8 w0 g B p:=by
 intro w l c st e deep h an oP ai;have dz:=I hF;have dG:=I h;have dS:=I h.sz;have ef:=I an;have fU:=I ai;have zM:=I oP;clear h an ai hF oP;go_enter Tryz.func9,Tryz.ntmps9
 go_upto_if 8 with fail
 go_cut [] (fun wc=>∃t:Int,aN (t=1∨t=2)∧aN (cu w0 wc g B p t l))
 case first=>
  cases hd:decide (1000<deep)
  ·go_wp2_with fail
   go_meet
   case rel=>exact⟨1,⟨.inl rfl⟩,dG⟩
  ·go_wp2_with(first|(go_at_call 13;refine(pF dG.1).mono ?_;rintro bk wl ⟨rfl,cq⟩;have fh:=I cq;clear cq))
   go_meet
   case rel=>exact⟨2,⟨.inr rfl⟩,⟨fh.1⟩⟩
 case rest=>
  obtain⟨t0,gx,cT⟩:=hcut
  go_wp2_with fail
  go_loopg [] (if t0=1 then B.length+1-p else 0) (fun k w'=>∃(q:Nat) (t:Int) (cU:List cx),aN (k=if t=1 then B.length+1-q else 0)∧aN (ae9 B c l st p q t cU)∧aN (cu w0 w' g B q t cU))
  case atStart=>
   refine⟨p,t0,l,⟨rfl⟩,⟨⟨⟨fun _=>⟨[],c,(by simp),.nil c,fU.1,ef.1⟩,fun h=>?_,.inr gx.1⟩,fun _=>Nat.le_refl _⟩⟩,cT⟩;have:=gx.1;omega
  case round=>
   obtain⟨q,t,cU,aV,dx,df⟩:=hrel;by_cases aU:t=1
   ·subst aU;have y7:=I (show gk=B.length+1-q by have h0:=aV.1;simp only[eq_self,if_true]at h0;exact h0);have afb:=I (dx.1.ge rfl);have xM:=I df.1.le;have ES:=I (show cU.length≤1000000 by obtain⟨_,_,_,_,_,ed⟩:=dx.1.out.yes rfl;have:=df.1.le;have:=dS.1;omega)
    go_upto_if 17 with(first|(go_at_call 15;refine(y5 bS.1).mono ?_;rintro bk ws ⟨ba,t1,fV,rfl,cq⟩;have wH:=I cq;have ej:=I fV;clear cq fV)|(go_at_call 14;first|(have ob:=wH.1;clear ob;refine(na wH.1).mono ?_;rintro bk w1 ⟨rfl,cq⟩;have mW:=I cq;obtain⟨ao,kr,bd,ck,aT,bh,bA,y3,z0,cp,z2,bP⟩:=cq.fL;clear cq)|(refine(na df.1).mono ?_;refine AE ?_;intro ur bS)))
    cases mg:(t1==1)
    ·have et:=I (show t1≠1 from beq_eq_false_iff_ne.mp mg);have DQ:=I (show t1=2 by rcases ej.1.t1 with h|h;exact absurd h et.1;exact h.1);clear mg
     go_wp2_with fail
     refine tf ?_;exact⟨rfl,ba,t1,cU,mW.1,.w9 DQ.1,fun h=>absurd h et.1⟩
    ·have hv:t1=1:=beq_iff_eq.mp mg;clear mg;subst hv;have nC:=I (show p≤ba by have:=ej.1.ge bS.1.le;have:=afb.1;omega);have VB:=I (show q≤ba from ej.1.ge bS.1.le);by_cases hp:ba<B.length
     ·have a1:decide ((ba:Int)≥(B.length:Int))=false:=decide_eq_false (by omega);have bQ:decide ((B.length:Int)≤(ba:Int))=false:=decide_eq_false (by omega);have fs:decide (B.length≤ba)=false:=decide_eq_false (by omega);obtain⟨dp,aD,al⟩:=ab.iV bP.out.1 (ba:Int) (by omega) (by omega);cases aD;rw[Int.toNat_natCast]at al;replace al:=(mW.1.bu.cell (World.block_lt_of_cell? w0 _ al)).trans al;have ku:=eq_true (show(0:Int)≤(ba:Int)by omega);have xZ:=eq_true (show(ba:Int)<(B.length:Int)by omega);have kL:=I (show ba+1≤B.length from hp);obtain⟨b,Mz⟩:∃b,b=rd B (ba:Int):=⟨_,rfl⟩;rw[←Mz]at al;have Ch:=I Mz;clear Mz hp
      go_upto_region 9 with fail
      repeat(go_quiet(fail);try go_upto_region 9 with fail)
      clear aT bh bA y3 z0 cp z2 al ku xZ;have kX:b=125∨(b≠125∧b=62)∨(b≠125∧b≠62):=by omega
      rcases kX with aG|aG|aG
      ·have bt:(b==125)=true:=beq_iff_eq.mpr (by omega);exact PQ
      ·have bt:(b==125)=false:=beq_eq_false_iff_ne.mpr (by omega);have di:(b==62)=true:=beq_iff_eq.mpr (by omega);exact PQ
      ·have bt:(b==125)=false:=beq_eq_false_iff_ne.mpr (by omega);have di:(b==62)=false:=beq_eq_false_iff_ne.mpr (by omega);obtain⟨d,c1,hd,dA,VC,cb⟩:=dx.1.out.yes rfl;have cf:=I hd;have Mp:=I dA;have y8:=I (ae8 VC zM.1 ej.1 kL.1 (Ch.1▸aG.1) (Ch.1▸aG.2));have afc:=I (show cU.length≤ba by have:=VB.1;omega);clear hd dA VC cb aG
       go_wp2_with(first|(go_at_call 18;refine(dz.1 ba nC.1 _ _ c1 st _ B7 afc.1 kL.1 ⟨e,zM.1⟩ y8.1).mono ?_;rintro bk Bc hr;obtain⟨rfl,sT,rV,qS,cq,qx,ts⟩:=hr;have sU:=I cq;have tS:=I qx;have wg:=I ts;clear cq qx ts))
       go_roundg(if rV=1 then B.length+1-sT else 0)
       case measure=>
        have h0:=y7.1;have h0:=VB.1;have h1:=xM.1;have h2:=sU.1.le;by_cases h:rV=1
        ·rw[if_pos h];have:=wg.1 h;omega
        ·rw[if_neg h];omega
       case rel=>exact⟨sT,rV,qS,⟨rfl⟩,⟨⟨Out.from_ Mp.1 (cf.1▸tS.1),fun h=>by have:=wg.1 h;have:=nC.1;omega⟩⟩,sU⟩
     ·have a1:decide ((ba:Int)≥(B.length:Int))=true:=decide_eq_true (by omega);have bQ:decide ((B.length:Int)≤(ba:Int))=true:=decide_eq_true (by omega);have fs:decide (B.length≤ba)=true:=decide_eq_true (by omega);have y9:=I (show B.length≤ba by omega);clear hp;by_cases he:e=0
      ·subst he
       go_wp2_with fail
       repeat(go_quiet(fail);try go_wp2_with fail)
       refine tf ?_;exact⟨rfl,ba,1,cU,B7,ae6 dx.1.out zM.1 ej.1 y9.1 xM.1,fun _=>nC.1⟩
      ·have be:(e !=0)=true:=bne_iff_ne.mpr he;have Ci:=I (ae7 (G:=tR B st e ba) dx.1.out zM.1 he ej.1 y9.1);clear he
       go_wp2_with fail
       repeat(go_quiet(fail);try go_wp2_with(first|(go_at_call 16;refine(p3 B7).mono ?_;rintro bk wr ⟨rfl,cq⟩;have hI:=I cq;clear cq)))
       refine tf ?_;exact⟨rfl,ba,0,cU,hI.1,Ci.1,fun h=>absurd h (by decide)⟩
   ·have bB:(t==1)=false:=beq_eq_false_iff_ne.mpr aU;have et:=I aU;clear aU
    go_wp2_with(first|(go_at_call 14;refine(na df.1).mono ?_;refine AE ?_;intro ur bS))
    exact P5
section
variable (bG:∀x∈B,0≤x∧x<256)
include bG
theorem afd:∀(n p:Nat),B.length+1-p≤n→A8 w0 g B p∧A9 w0 g B p∧DH w0 g B p∧DO w0 g B p:=by
 have jF:∀p,B.length<p→A8 w0 g B p∧A9 w0 g B p∧DH w0 g B p∧DO w0 g B p:=fun p hp=>
  ⟨fun w l c st e deep h=>absurd h.le (by omega),fun w l c st deep h=>absurd h.le (by omega),fun w l c st deep h=>absurd h.le (by omega),fun w l c st deep h=>absurd h.le (by omega)⟩
 intro n
 induction n with
 |zero=>intro p hp;exact jF p (by omega)
 |succ n bb=>
  intro p hp
  have later:∀p0,p<p0→A8 w0 g B p0∧A9 w0 g B p0∧DH w0 g B p0∧DO w0 g B p0:=fun p0 h=>by
   by_cases e:B.length<p0
   ·exact jF p0 e
   ·exact bb p0 (by omega)
  have pj:=aer (w0:=w0) (g:=g) (p:=p) (fun p0 h=>(later p0 h).1) bG
  have bD:=aeA (w0:=w0) (g:=g) (B:=B) (p:=p) (fun p0 h=>(later p0 h).2.1);have hF:=ae1 (w0:=w0) (g:=g) (p:=p) (fun p0 h=>(later p0 h).2.1) (fun p0 h=>(later p0 h).2.2.1) bG
  refine⟨afa fun p0 h=>?_,pj,bD,hF⟩;by_cases e:p=p0
  ·exact e▸hF
  ·exact(later p0 (by omega)).2.2.2
theorem afe(p:Nat):A8 w0 g B p:=(afd bG (B.length+1-p) p (Nat.le_refl _)).1
end
end
def so(B:List Int):fl:=⟨0,[],eM B⟩
def aff(w:World)(B:List Int)(e:Ending)(w':World):Prop:=∃(A:Option Addr) (c:Nat) (l:List cx) (t:Int),e=.returned (.tuple #[.slice A l.length c,.int .i64 t])∧Below w.heap.size w w'∧ab.R l0 32 w' w.heap.size (fun _=>True) (.slice A l.length c) l∧
 (t=1→eI.Ends ca B (so B) l)∧(t=0→eI.G3 ca B (so B) l)∧(t=0∨t=1∨t=2)
theorem afg{w:World}{A:Option Addr}{c:Nat}{B:List Int}(hC:ab.C (ab.int .u8) w A B.length B)(ai:B.length≤c)(ak:B.length≤100000):
 cu w (w.alloc (.cells #[.slice A B.length c,.int .i64 0,.int .i64 1,.slice none 0 0] 35)) w.heap.size B 0 1 []:=by
 refine⟨⟨⟨none,0,0⟩,cj.new w w A c none 0 B 0 1 ⟨none,0,0⟩ (Below.refl _ _) hC ⟨rfl,rfl,ai⟩,rfl,ab.sw _ _ _ _ _⟩,da (Below.refl _ _) _,Nat.zero_le _,ak⟩
theorem afh(w:World)(A:Option Addr)(c:Nat)(B:List Int)(hC:ab.C (ab.int .u8) w A B.length B)(ai:B.length≤c)(ak:B.length≤100000)(bG:∀x∈B,0≤x∧x<256):
 Calls Tryz.prog 7 #[.slice A B.length c] w (aff w B):=by
 have dG:=I (afg hC ai ak);have dz:=I (afe (w0:=w) (g:=w.heap.size) bG 0);have afi:=I (LY (L:=ca) (B:=B) (c:=so B) (s:=B) (.inl rfl) rfl);have dS:=I ak;clear hC ai ak bG
 go_enter Tryz.func7,Tryz.ntmps7
 go_wp2_with(first|(go_at_call 9;refine(dz.1 _ [] (so B) [] 0 0 dG.1 (Nat.zero_le _) (.inl ⟨rfl,rfl⟩) afi.1).mono ?_;rintro bk Bc hr;obtain⟨rfl,q,t,l,cq,qx,_⟩:=hr;have sU:=I cq;have tS:=I qx;obtain⟨ao,c7,bd,ck,aT,bh,bA,y3,z0,cp,z2,bP⟩:=cq.fL;clear cq qx))
 repeat(go_quiet(fail);try go_wp2_with fail)
 go_ret2;obtain⟨⟨hd,fJ,hlen,ew⟩,dw,hle,dd⟩:=sU.1
 have aD:Bc.cell? ⟨w.heap.size,3,none⟩=some (.slice hd.A l.length hd.c):=by
  obtain⟨ao,c0,bd,c3,lQ,aw,bP,rfl,rfl,eT⟩:=fJ;rw[hlen]at lQ;exact(bg lQ 3).trans rfl
 rw[aD]at y3;simp only[Option.some.injEq,Value.slice.injEq,true_and]at y3;obtain⟨rfl,rfl⟩:=y3;refine⟨hd.A,hd.c,l,t,rfl,dq dw dw.size (jI (Below.refl _ _) _),ab.mn (ab.uI ew _) (fun _ _=>trivial),fun aU=>?_,fun aU=>?_,tS.1.r⟩
 ·obtain⟨d,cw,h0,h1,h2,_⟩:=tS.1.yes aU;unfold tR at h2;rw[if_pos rfl]at h2;rw[h0,List.nil_append];exact⟨cw,h1,h2⟩
 ·obtain⟨d,h0,h1⟩:=tS.1.no aU;rw[h0,List.nil_append];exact h1
end nt
