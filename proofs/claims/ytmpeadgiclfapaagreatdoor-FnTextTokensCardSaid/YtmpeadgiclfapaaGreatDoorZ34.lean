/- Part 32 of the proof (Ps7). Conditions: each theorem's own. -/
import Derived.Test.YtmpeadgiclfapaaGreatDoorZ32
set_option linter.all false
set_option maxHeartbeats 0
set_option maxRecDepth 100000
namespace Go.Proofs.YtmpeadgiclfapaaGreatDoor
namespace fx
open RowKit YtmpeadgiclfapaaGreatDoorW.PrintWords YtmpeadgiclfapaaGreatDoorW.PrintLast YtmpeadgiclfapaaGreatDoorW.PrintMore ei cP gJ eI eC gi j6
theorem _root_.Go.Proofs.YtmpeadgiclfapaaGreatDoor.gi.dZ.Al{W:World}{A:Option Addr}{n c:Nat}{xs:List Int}(h:dZ W A n c xs)(lo hi:Nat)(h1:lo≤hi)(h2:hi≤n):
 ∃bd c1,(∀aQ:World,(Instr.slice 22 (.slice A n c) (some (.int .i64 (lo:Int))) (some (.int .i64 (hi:Int))) none).run Tryz.prog aQ=.ok (.slice bd (hi-lo) c1) aQ)∧dZ W bd (hi-lo) c1 ((xs.take hi).drop lo):=by
 obtain⟨hC,rfl,ai⟩:=h;obtain⟨bd,c1,cY,cd,fG⟩:=UP hC ai lo hi h1 h2;exact⟨bd,c1,cY,cd,Jh,fG⟩
theorem _root_.Go.Proofs.YtmpeadgiclfapaaGreatDoor.gi.dZ.str{W aQ:World}{A:Option Addr}{n c:Nat}{xs:List Int}(h:dZ W A n c xs)(U:Below W.heap.size W aQ):(convert 22 9 (.slice A n c)).run Tryz.prog aQ=.ok (.string (strOfNums xs)) aQ:=ab.rK (P:=Tryz.prog) Tryz.underlying22 Tryz.underlying5 Tryz.underlying9 (h.below U).C
theorem KH(M:Nat){K e db n b:Nat}(he:e=min M K)(zi:db=e+b)(an:K≤n-b)(aq:b≤n):e≤M∧db=e+b∧db≤n∧(M<K→e=M)∧(¬M<K→e=K):=by omega
theorem KI{n K:Nat}(h:K≤n)(aq:n≤100000):wrap64 ((n:Int)-((n-K:Nat):Int))=(K:Int):=by unfold wrap64;omega
theorem KJ{e db n b:Nat}(h:db=e+b)(h2:db≤n)(aq:n≤100000):wrap64 ((b:Int)+(e:Int))=(db:Int):=by unfold wrap64;omega
theorem tc(xs:List Int):(strOfNums xs).size=xs.length:=by simp[strOfNums,ByteArray.size]
theorem agK{w0 w ay:World}{aJ:Nat}{B s st:List Int}{lc af q:Int}{r t:List Int}{A:Option Addr}{n c:Nat}{v7:Value}{m:Nat}(h:lG w0 w ay aJ B s st lc af q r t A n c v7 m){t2:List Int}(aU:t=92::120::t2)(h0:min 2 (dt dr t2)=0):jR w0 w ay aJ B s st lc af q r A n c v7:=by
 refine j3 ?_;intro g ec dc eE dv dD dE eQ eR av;subst aU;have eu:0<(92::120::t2).length:=by simp
 refine lz ?_;intro bl gx fq bV dY m0 fi fj;refine abd ?_;intro dO fP;intro ja cR cd cY fG hx cM bt bR hA0;subst hA0;refine aaW ?_;clear cR;intro cK gT kz ao c2 jN dP K e aD jJ hX q3 bd c4 KK ky o6 dS uU bF c3 oD o4 ui uj dG;have WE:=I h0;clear h0
 have dx:=I (h.inv.xi gT.1 (fun gd h1=>by
  rcases Gq kz.1 with⟨_,fe,h2⟩|⟨h2,_⟩
  ·rw[h2]at h1;simp at h1
  ·have:=WE.1;omega))
 have iR:=h.ar;rcases iR with ar|ar
 all_goals(
  subst ar;clear h eu
  conv=>arg 2;whnf
  go_upto_region 61 with(first|(refine Lo ?_;intro w1 az aC di ek bx al;cases bx;rw[cK.1]at al;clear az))
  refine fX (n:=9) (S:=fun w'=>True) (ds:=[]) #[false,false,false,false,false,false,false,false,false] aM rfl rfl trivial (fun hHeld=>?_);refine aba ?_;intro K aH;rintro bx bf ⟨⟨cZ,j9,rfl⟩,az⟩;refine⟨_,rfl,?_⟩;refine yc ?_;intro bM;clear az;refine AB ?_;clear aH K;intro hHeld;refine ax 6 242 ?_;refine ax 7 243 ?_;refine ax 8 14 ?_;refine jX aM ?_
  go_upto_if 245 with fail
  go_cut [14] (fun v0 w'=>v0=.int .i64 (e:Int)∧bf=w')
  case first=>
   exact JH
  case rest=>
  obtain⟨rfl,rfl⟩:=hcut;refine KT ?_;intro hq
  go_wp2_with(first|(go_at_call 103;refine(V6 _ dS.1 (dq av.1.bu av.1.bu.size (bw bM.1 (Nat.le_refl _) cX)) av.1.E).mono ?_;rintro bk w1 ⟨_,h3,az⟩;obtain⟨al,dI,aT,rfl⟩:=h3 (.inl (by rw[tc,o6.1,uj.1];exact WE.1));refine Kz ?_;intro aC;clear az h3)|(refine rZ ?_;rintro bk w3 ⟨⟨dI,dQ,rfl⟩,az⟩;have eP:=I (bw aC.1 (Nat.le_refl _) (bw (w:=w1) cX (Nat.le_refl _) az));clear az))
  go_ret2;exact sV av.1 dx.1 eP.1)
end fx
