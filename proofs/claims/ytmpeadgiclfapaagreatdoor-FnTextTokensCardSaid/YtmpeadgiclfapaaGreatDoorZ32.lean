/- Part 30 of the proof (Ps5). Conditions: each theorem's own. -/
import Derived.Test.YtmpeadgiclfapaaGreatDoorZ31
set_option linter.all false
set_option maxHeartbeats 0
set_option maxRecDepth 100000
namespace Go.Proofs.YtmpeadgiclfapaaGreatDoor
namespace fx
open RowKit YtmpeadgiclfapaaGreatDoorW.PrintWords YtmpeadgiclfapaaGreatDoorW.PrintLast YtmpeadgiclfapaaGreatDoorW.PrintMore ei cP gJ eI eC gi j6
section
variable {P:Program} {w:World} {ops:Array Oper} {o:Oper} {a:Act} {K:Act→World→Prop} {Q:Exit→Act→World→Prop}
theorem o3(hw:Region.wanted o (yielded ops a.tmps)=true)(s x:Operand)(t tx:TypeId){N:Option Tmp}(eD:o.dst=N)(aY:o.op=.call {callee:=.builtin .append,args:=#[s,x],argTypes:=#[t,tx]}){v xv:Value}(aZ:a.eval s=v)(ae:a.eval x=xv){R:Value→World→Prop}(k8:∃v1 w1,(Builtin.append_ #[t,tx] o.type #[v,xv]).run P w=.ok v1 w1∧R v1 w1)(h:∀v1 w1,R v1 w1→K (a.put N v1) w1):if Region.wanted o (yielded ops a.tmps)=true then Oper.wp P o a w K Q else K (a.put N undef) w:=by
 obtain⟨v1,w1,au,r⟩:=k8;rw[if_pos hw];subst eD;unfold Oper.wp;simp[execOp,aY,resolve,invoke,builtin,aZ,ae,au,Result.andThen];exact h _ _ r
end
theorem lG.next{w0 w ay eJ:World}{aJ:Nat}{B s st:List Int}{lc af q:Int}{r t:List Int}{A bF:Option Addr}{n c dm c2:Nat}{v7 HL:Value}{m m2:Nat}(h:lG w0 w ay aJ B s st lc af q r t A n c v7 m)(k:Nat)(U:Below w.heap.size w eJ)(aZ:dZ w0 bF dm c2 (t.drop k))(aY:uc w0 w eJ HL m2)(hi:Inv q r (t.drop k))(ad:k≤n)(hm:m2≤m+k):
 lG w0 w eJ aJ B s st lc af q r (t.drop k) bF dm c2 HL m2:=by
 refine⟨h.d,U,aZ,aY,hi,h.ak,h.ar,?_,?_,h.T,h.E,h.sc⟩
 ·have:=h.sz;have:=h.v.dN;rw[List.length_drop];omega
 ·obtain⟨j,bq⟩:=h.jE;exact⟨j+k,(by rw[bq,List.drop_drop])⟩
theorem rz{W:World}{b:Nat}{y:Int}(h:W.heap[b]?=some (.cells #[.int .u8 y] 5 (0,0))):ab.C (ab.int .u8) W (some ⟨b,0,none⟩) 1 [y]:=by
 refine ab.vO (d:=0) (h1:=fun _=>rfl) ⟨rfl,(by omega),fun _=>⟨_,rfl,fun i hi=>?_⟩⟩;obtain rfl:i=0:=by omega
 exact(bg h 0).trans rfl
section
variable {w0 w ay:World} {aJ:Nat} {B s st:List Int} {lc af q:Int} {r t:List Int} {A:Option Addr} {n c:Nat} {v7:Value} {m:Nat} (h:lG w0 w ay aJ B s st lc af q r t A n c v7 m)
include h
theorem agm{t1:List Int}(aU:t=34::t1)(ar:q=34):jR w0 w ay aJ B s st lc af q r A n c v7:=by
 refine j3 ?_;intro g ec dc eE dv dD dE eQ eR av;subst aU ar;have eu:0<(34::t1).length:=by simp
 refine lz ?_;intro bl gx fq bV dY m0 fi fj;have dO:=I (ah (x:=34) (t1:=t1) (by decide) (by decide)).1;have fP:=I (ah (x:=34) (t1:=t1) (by decide) (by decide)).2;refine Tv ?_;intro ao c1 bs bO jN f aA dz j bq k ad p8 oS
 have Kq:=I (show k≤s.length∧s.drop k=t1 from by
  refine⟨(by omega),?_⟩;have aD:s.drop (j+1)=t1:=by rw[←List.drop_drop,←bq];rfl
  have:=dY.1;rw[show k=j+1 by omega];exact aD)
 have yf:wrap64 ((s.length:Int)-((n-1:Nat):Int))=(k:Int):=by have:=h.d.len;unfold wrap64;omega
 have l5:=I h.d.lt;clear h eu bs bO aA bq ad p8 oS
 conv=>arg 2;whnf
 go_wp2_with(first|(refine wv ?_;intro w1 az aC;have c5:=(dz.1.below (dq av.1.b av.1.b.size aC.1)).c5;clear az)|(refine SK ?_;intro w1 dW str dS iB))
 go_ret2;have oC:zg w0 w aJ B s st lc af 34 r (.returned (.tuple #[.string str,.nilIface])) w1:=Ws av.1.inv (by have:=dS.1;have:=av.1.sz;omega) dW.1;exact oC
theorem agn{t1:List Int}(aU:t=39::t1)(ar:q=39):jR w0 w ay aJ B s st lc af q r A n c v7:=by
 refine j3 ?_;intro g ec dc eE dv dD dE eQ eR av;subst aU ar;have eu:0<(39::t1).length:=by simp
 refine lz ?_;intro bl gx fq bV dY m0 fi fj;have dO:=I (ah (x:=39) (t1:=t1) (by decide) (by decide)).1;have fP:=I (ah (x:=39) (t1:=t1) (by decide) (by decide)).2;refine Tv ?_;intro ao c1 bs bO jN f aA dz j bq k ad p8 oS
 have Kq:=I (show k≤s.length∧s.drop k=t1 from by
  refine⟨(by omega),?_⟩;have aD:s.drop (j+1)=t1:=by rw[←List.drop_drop,←bq];rfl
  have:=dY.1;rw[show k=j+1 by omega];exact aD)
 have yf:wrap64 ((s.length:Int)-((n-1:Nat):Int))=(k:Int):=by have:=h.d.len;unfold wrap64;omega
 have l5:=I h.d.lt;clear h eu bs bO aA bq ad p8 oS
 conv=>arg 2;whnf
 go_wp2_with(first|(refine wv ?_;intro w1 az aC;have c5:=(dz.1.below (dq av.1.b av.1.b.size aC.1)).c5;clear az)|(refine SK ?_;intro w1 dW str dS iB))
 go_ret2;have oC:zg w0 w aJ B s st lc af 39 r (.returned (.tuple #[.string str,.nilIface])) w1:=Ws av.1.inv (by have:=dS.1;have:=av.1.sz;omega) dW.1;exact oC
section
variable (ar:q=34) (R:Int) (z:Nat) (eu:0<t.length) (ew:(((ha t).1:Nat):Int)=R) (aG:(ha t).2=z)
include ar R z eu ew aG
theorem Wt(rA:R≠65533)(h0:R≠0)(h10:R≠10)(h92:R≠92)(tv:R≠34)(hi:Inv 34 r (t.drop z)):jR w0 w ay aJ B s st lc af q r A n c v7:=by
 refine j3 ?_;intro g ec dc eE dv dD dE eQ eR av;subst ar;refine Gt ?_;intro bt di eS;have M8:(R==34)=false:=beq_eq_false_iff_ne.mpr tv;have hM:(R==65533)=false:=beq_eq_false_iff_ne.mpr rA;have dO:=I ew;clear h0 h10 h92 tv rA ew;refine lz ?_;intro bl gx fq bV dY m0 fi fj;refine Gi ?_;intro fP p8 ao c2 bs bO dP kz z1 i qY dx k ad yf bd c3 hn hU oD iL ky o4 tM kd jz;obtain⟨CB,bR,hA0,_⟩:=iL.cell 0 (by omega);have fp:=I (show Inv 34 r (t.drop k)by have:=Inv.plain (by decide) _ hi;rw[←qY,List.drop_drop,←ad]at this;exact this);exact Sw
theorem ago(rA:R=65533∧z≠1)(h0:R≠0)(h10:R≠10)(h92:R≠92)(tv:R≠34)(hi:Inv 34 r (t.drop z)):jR w0 w ay aJ B s st lc af q r A n c v7:=by
 refine j3 ?_;intro g ec dc eE dv dD dE eQ eR av;subst ar;refine Gt ?_;intro bt di eS;have M8:(R==34)=false:=beq_eq_false_iff_ne.mpr tv;have hM:(R==65533)=true:=beq_iff_eq.mpr rA.1;have CB:((z:Int)==1)=false:=beq_eq_false_iff_ne.mpr (by have:=rA.2;omega);have dO:=I ew;clear h0 h10 h92 tv rA ew;refine lz ?_;intro bl gx fq bV dY m0 fi fj;refine Gi ?_;intro fP p8 ao c2 bs bO dP kz z1 i qY dx k ad yf bd c3 hn hU oD iL ky o4 tM kd jz;obtain⟨FW,bR,hA0,_⟩:=iL.cell 0 (by omega);have fp:=I (show Inv 34 r (t.drop k)by have:=Inv.plain (by decide) _ hi;rw[←qY,List.drop_drop,←ad]at this;exact this);exact Su
end
section
variable (ar:q=39) (R:Int) (z:Nat) (eu:0<t.length) (ew:(((ha t).1:Nat):Int)=R) (aG:(ha t).2=z)
include ar R z eu ew aG
theorem Wu(rA:R≠65533)(h0:R≠0)(h10:R≠10)(h92:R≠92)(tv:R≠39)(hi:Inv 39 r (t.drop z)):jR w0 w ay aJ B s st lc af q r A n c v7:=by
 refine j3 ?_;intro g ec dc eE dv dD dE eQ eR av;subst ar;refine Gt ?_;intro bt di eS;have M8:(R==39)=false:=beq_eq_false_iff_ne.mpr tv;have hM:(R==65533)=false:=beq_eq_false_iff_ne.mpr rA;have dO:=I ew;clear h0 h10 h92 tv rA ew;refine lz ?_;intro bl gx fq bV dY m0 fi fj;refine Gi ?_;intro fP p8 ao c2 bs bO dP kz z1 i qY dx k ad yf bd c3 hn hU oD iL ky o4 tM kd jz;obtain⟨CB,bR,hA0,_⟩:=iL.cell 0 (by omega);have fp:=I (show Inv 39 r (t.drop k)by have:=Inv.plain (by decide) _ hi;rw[←qY,List.drop_drop,←ad]at this;exact this);exact Sw
theorem agp(rA:R=65533∧z≠1)(h0:R≠0)(h10:R≠10)(h92:R≠92)(tv:R≠39)(hi:Inv 39 r (t.drop z)):jR w0 w ay aJ B s st lc af q r A n c v7:=by
 refine j3 ?_;intro g ec dc eE dv dD dE eQ eR av;subst ar;refine Gt ?_;intro bt di eS;have M8:(R==39)=false:=beq_eq_false_iff_ne.mpr tv;have hM:(R==65533)=true:=beq_iff_eq.mpr rA.1;have CB:((z:Int)==1)=false:=beq_eq_false_iff_ne.mpr (by have:=rA.2;omega);have dO:=I ew;clear h0 h10 h92 tv rA ew;refine lz ?_;intro bl gx fq bV dY m0 fi fj;refine Gi ?_;intro fP p8 ao c2 bs bO dP kz z1 i qY dx k ad yf bd c3 hn hU oD iL ky o4 tM kd jz;obtain⟨FW,bR,hA0,_⟩:=iL.cell 0 (by omega);have fp:=I (show Inv 39 r (t.drop k)by have:=Inv.plain (by decide) _ hi;rw[←qY,List.drop_drop,←ad]at this;exact this);exact Su
end
end
end fx
