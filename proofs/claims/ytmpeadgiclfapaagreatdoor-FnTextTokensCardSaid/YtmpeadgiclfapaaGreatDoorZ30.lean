/- Part 28 of the proof (Pi0). Conditions: each theorem's own. -/
import Derived.Test.YtmpeadgiclfapaaGreatDoorZ29
import Derived.Lib.ConvBytes
import Derived.Lib.AtoiErrMem
import Derived.Laws.Strings3
import Derived.BigCall
import Derived.BigGuard
set_option linter.all false
set_option maxHeartbeats 0
set_option maxRecDepth 100000
namespace Go.Proofs.YtmpeadgiclfapaaGreatDoor
namespace fx
open RowKit YtmpeadgiclfapaaGreatDoorW.PrintWords YtmpeadgiclfapaaGreatDoorW.PrintLast YtmpeadgiclfapaaGreatDoorW.PrintMore ei cP gJ eI eC gi
def dg(c:Int):Int:=if 48≤c∧c≤57 then c-48 else if 97≤bits .or .u8 c 32∧bits .or .u8 c 32≤122 then bits .or .u8 c 32-87 else 255
def pu(base max:Int):Int→List Int→Option Int
 |a,[]=>some a
 |a,c::r=>if dg c<base then(if a*base+dg c≤max then pu base max (a*base+dg c) r else none)else none
section
variable (base max a c:Int) {D:Int} (r:List Int) (h:dg c<base∧dg c=D)
include base max a c r h
theorem x0(aY:a*base+D≤max):pu base max a (c::r)=pu base max (a*base+D) r:=by
 rw[pu,if_pos h.1,h.2,if_pos aY]
theorem x1(aY:¬a*base+D≤max):pu base max a (c::r)=none:=by
 rw[pu,if_pos h.1,h.2,if_neg aY]
end
theorem CH(base max a c:Int)(r:List Int)(h:¬dg c<base):pu base max a (c::r)=none:=by
 rw[pu,if_neg h]
def ints(t:ByteArray):List Int:=t.data.toList.map (fun c=>(c.toNat:Int))
theorem aa0(t:ByteArray):(ints t).length=t.size:=by rw[ints,List.length_map,Array.length_toList];rfl
theorem aaZ(t:ByteArray):∀x∈ints t,0≤x∧x<256:=by
 intro x ae;simp only[ints,List.mem_map]at ae;obtain⟨c,_,rfl⟩:=ae;have:=c.toNat_lt;omega
theorem aaX(t:ByteArray)(j:Nat)(bq:j<t.size):rd (ints t) (j:Int)=((t.data.toList.getD j 0).toNat:Int):=by
 have an:j<t.data.toList.length:=by rw[Array.length_toList];exact bq
 unfold rd ints;rw[Int.toNat_natCast,List.getD_eq_getElem?_getD,List.getD_eq_getElem?_getD,List.getElem?_map,List.getElem?_eq_getElem an];rfl
theorem Ta(xs:List Int)(k:Nat)(ad:k<xs.length):rd xs (k:Int)∈xs:=by
 unfold rd;rw[Int.toNat_natCast,List.getD_eq_getElem?_getD,List.getElem?_eq_getElem ad];exact List.getElem_mem ad
theorem CZ(xs:List Int)(h:∀x∈xs,0≤x∧x<256):ints (strOfNums xs)=xs:=by
 unfold ints strOfNums;simp only[List.map_map]
 induction xs with
 |nil=>rfl
 |cons x r bb=>
  obtain⟨h0,h1⟩:=h x (by simp)
  have e:((UInt8.ofNat x.toNat).toNat:Int)=x:=by
   rw[UInt8.toNat_ofNat_of_lt' Fs];omega
  simp only[List.map_cons,Function.comp];rw[e];congr 1;exact bb (fun y aX=>h y (by simp[aX]))
theorem af0:∀n:Fin 256,0≤bits .or .u8 (n.val:Int) 32∧bits .or .u8 (n.val:Int) 32<256:=by decide+kernel
theorem aa5(c:Int)(h0:0≤c)(h1:c<256):0≤bits .or .u8 c 32∧bits .or .u8 c 32<256:=by
 have:=af0 ⟨c.toNat,(by omega)⟩;exact Rk
theorem aaY(w:World)(t:ByteArray):Below w.heap.size w (Lib.bytesWorld w 5 t):=Lib.bytesWorld_below w 5 t
def MY(w:World)(base max:Int)(xs:List Int)(e:Ending)(w':World):Prop:=
 (∀v,pu base max 0 xs=some v→e=.returned (.tuple #[.int .u64 v,.nilIface]))∧(pu base max 0 xs=none→∃x k,(k=1∨k=2)∧e=.returned (.tuple #[.int .u64 x,.iface 104 (.int .i64 k)]))∧Below w.heap.size w w'
def C1(w:World)(base max:Int)(t:ByteArray):Ending→World→Prop:=MY w base max (ints t)
section
variable {base max:Int} {xs:List Int}
theorem aax{a:Int}{w w':World}(h:pu base max 0 xs=pu base max a [])(U:Below w.heap.size w w'):
 MY w base max xs (Ending.returned (.tuple #[.int .u64 a,.nilIface])) w':=by
 refine⟨fun v aZ=>?_,fun aq=>?_,U⟩
 ·rw[h]at aZ;simp only[pu,Option.some.injEq]at aZ;rw[aZ]
 ·rw[h]at aq;cases aq
theorem Qv{x k:Int}{w w':World}(h:pu base max 0 xs=none)(U:Below w.heap.size w w')(ad:k=1∨k=2):
 MY w base max xs (Ending.returned (.tuple #[.int .u64 x,.iface 104 (.int .i64 k)])) w':=
 ⟨fun v aZ=>(by rw[h]at aZ;cases aZ),fun _=>⟨x,k,ad,rfl⟩,U⟩
end
section
variable (t:ByteArray) (bL:t.size≠0) (rr:t.size≤100) (w:World)
include t bL rr w
theorem V1:
 Calls Tryz.prog 95 #[.string t,.int .i64 8,.int .i64 8] w (C1 w 8 255 t):=by
 have HE:t.toList.isEmpty=false:=by
  exact FY
 refine Gw ?_;intro cJ xs hq dw fA bG wE
 have MZ:IntKind.u64.wrap (IntKind.u64.wrap 256-1)=255:=by
  exact FX
 go_enter Tryz.func95,Tryz.ntmps95;go_wp2
 go_loop [12,13,101] (fun zd ze gm=>∃(k:Nat) (a:Int),zd=.bool false∧ze=.int .u64 a∧gm=.int .i64 k∧k≤t.size∧aN (0≤a∧a≤255∧pu 8 255 0 xs=pu 8 255 a (xs.drop k)))
  (fun _ _ gm=>t.size-(intOf gm).toNat)
 case atStart=>exact⟨0,0,rfl,rfl,rfl,(by omega),⟨⟨(by omega),(by omega),rfl⟩⟩⟩
 case round=>
  obtain⟨k,a,rfl,rfl,rfl,ad,ed⟩:=hrel;obtain⟨a0,cg,jK⟩:=ed.out;clear ed;by_cases o5:k<t.size
  ·refine Gv ?_;clear jK;intro ai oT jK;generalize rd xs (k:Int)=c at ai jK oT;refine GL ?_;clear jK dw bG
   intro c0 c1 kv L bD aj cC mr;by_cases h0:c=95
   ·have eZ:=I (show¬dg c<8 by rw[h0];decide);have rb:L=127:=by rw[bD,h0];decide
    subst h0;subst rb;exact R7
   ·have bn:(c==95)=false:=beq_eq_false_iff_ne.mpr h0;by_cases hdig:48≤c∧c≤57
    ·obtain⟨d0,d1⟩:=hdig;have iD:dg c=c-48:=by unfold dg;rw[if_pos ⟨d0,d1⟩]
     rcases Int.lt_or_le (c-48) 8 with hd8|hd8
     ·have eZ:=I (show dg c<8∧dg c=c-48 by rw[iD];exact⟨hd8,rfl⟩);by_cases hov:a*8+(c-48)≤255
      ·have bV:=I (kv.1.trans (x0 8 255 a _ _ eZ.1 hov));have lj:=I (show 0≤a*8+(c-48)by omega);have o0:a*8+(c-48)≤255:=hov
       go_wp2_with(refine Co ?_;rintro e w' ⟨rfl,rfl⟩;(try rw[bD]))
       refine⟨⟨k+1,a*8+(c-48),rfl,zH,zH,(by omega),⟨⟨lj.1,o0,bV.1⟩⟩⟩,Jq⟩
      ·have bV:=I (kv.1.trans (x1 8 255 a _ _ eZ.1 hov));have o0:255<a*8+(c-48):=by omega
       exact xP
     ·have eZ:=I (show¬dg c<8 by rw[iD];omega);exact R7
    ·refine Gx ?_;intro kd;rcases Int.lt_or_le c 48 with hlo|hlo
     ·exact Sb
     ·have D2:57<c:=by omega
      exact Sb
  ·exact FN
theorem V2:
 Calls Tryz.prog 95 #[.string t,.int .i64 16,.int .i64 8] w (C1 w 16 255 t):=by
 have HE:t.toList.isEmpty=false:=by
  exact FY
 refine Gw ?_;intro cJ xs hq dw fA bG wE
 have MZ:IntKind.u64.wrap (IntKind.u64.wrap 256-1)=255:=by
  exact FX
 go_enter Tryz.func95,Tryz.ntmps95;go_wp2
 go_loop [12,13,101] (fun zd ze gm=>∃(k:Nat) (a:Int),zd=.bool false∧ze=.int .u64 a∧gm=.int .i64 k∧k≤t.size∧aN (0≤a∧a≤255∧pu 16 255 0 xs=pu 16 255 a (xs.drop k)))
  (fun _ _ gm=>t.size-(intOf gm).toNat)
 case atStart=>exact⟨0,0,rfl,rfl,rfl,(by omega),⟨⟨(by omega),(by omega),rfl⟩⟩⟩
 case round=>
  obtain⟨k,a,rfl,rfl,rfl,ad,ed⟩:=hrel;obtain⟨a0,cg,jK⟩:=ed.out;clear ed;by_cases o5:k<t.size
  ·refine Gv ?_;clear jK;intro ai oT jK;generalize rd xs (k:Int)=c at ai jK oT;refine GL ?_;clear jK dw bG
   intro c0 c1 kv L bD aj cC mr;by_cases h0:c=95
   ·have eZ:=I (show¬dg c<16 by rw[h0];decide);have rb:L=127:=by rw[bD,h0];decide
    subst h0;subst rb;refine SA ?_;intro bV;exact qs
   ·have bn:(c==95)=false:=beq_eq_false_iff_ne.mpr h0;by_cases hdig:48≤c∧c≤57
    ·refine Lc ?_;intro d0 d1 iD eZ;by_cases hov:a*16+(c-48)≤255
     ·have bV:=I (kv.1.trans (x0 16 255 a _ _ eZ.1 hov));have lj:=I (show 0≤a*16+(c-48)by omega);have o0:a*16+(c-48)≤255:=hov;exact JG
     ·have bV:=I (kv.1.trans (x1 16 255 a _ _ eZ.1 hov));have o0:255<a*16+(c-48):=by omega
      exact xP
    ·refine Gx ?_;intro kd;rcases Int.lt_or_le c 48 with hlo|hlo
     ·exact Sh
     ·have D2:57<c:=by omega
      exact Sh
  ·exact FN
theorem V3:
 Calls Tryz.prog 95 #[.string t,.int .i64 16,.int .i64 16] w (C1 w 16 65535 t):=by
 have HE:t.toList.isEmpty=false:=by
  exact FY
 refine Gw ?_;intro cJ xs hq dw fA bG wE
 have MZ:IntKind.u64.wrap (IntKind.u64.wrap 65536-1)=65535:=by
  exact FX
 go_enter Tryz.func95,Tryz.ntmps95;go_wp2
 go_loop [12,13,101] (fun zd ze gm=>∃(k:Nat) (a:Int),zd=.bool false∧ze=.int .u64 a∧gm=.int .i64 k∧k≤t.size∧aN (0≤a∧a≤65535∧pu 16 65535 0 xs=pu 16 65535 a (xs.drop k)))
  (fun _ _ gm=>t.size-(intOf gm).toNat)
 case atStart=>exact⟨0,0,rfl,rfl,rfl,(by omega),⟨⟨(by omega),(by omega),rfl⟩⟩⟩
 case round=>
  obtain⟨k,a,rfl,rfl,rfl,ad,ed⟩:=hrel;obtain⟨a0,cg,jK⟩:=ed.out;clear ed;by_cases o5:k<t.size
  ·refine Gv ?_;clear jK;intro ai oT jK;generalize rd xs (k:Int)=c at ai jK oT;refine GL ?_;clear jK dw bG
   intro c0 c1 kv L bD aj cC mr;by_cases h0:c=95
   ·have eZ:=I (show¬dg c<16 by rw[h0];decide);have rb:L=127:=by rw[bD,h0];decide
    subst h0;subst rb;refine Sz ?_;intro bV;exact qs
   ·have bn:(c==95)=false:=beq_eq_false_iff_ne.mpr h0;by_cases hdig:48≤c∧c≤57
    ·refine Lc ?_;intro d0 d1 iD eZ;by_cases hov:a*16+(c-48)≤65535
     ·have bV:=I (kv.1.trans (x0 16 65535 a _ _ eZ.1 hov));have lj:=I (show 0≤a*16+(c-48)by omega);have o0:a*16+(c-48)≤65535:=hov;exact JG
     ·have bV:=I (kv.1.trans (x1 16 65535 a _ _ eZ.1 hov));have o0:65535<a*16+(c-48):=by omega
      exact xP
    ·refine Gx ?_;intro kd;rcases Int.lt_or_le c 48 with hlo|hlo
     ·exact Sg
     ·have D2:57<c:=by omega
      exact Sg
  ·exact FN
theorem V4:
 Calls Tryz.prog 95 #[.string t,.int .i64 16,.int .i64 32] w (C1 w 16 4294967295 t):=by
 have HE:t.toList.isEmpty=false:=by
  exact FY
 refine Gw ?_;intro cJ xs hq dw fA bG wE
 have MZ:IntKind.u64.wrap (IntKind.u64.wrap 4294967296-1)=4294967295:=by
  exact FX
 go_enter Tryz.func95,Tryz.ntmps95;go_wp2
 go_loop [12,13,101] (fun zd ze gm=>∃(k:Nat) (a:Int),zd=.bool false∧ze=.int .u64 a∧gm=.int .i64 k∧k≤t.size∧aN (0≤a∧a≤4294967295∧pu 16 4294967295 0 xs=pu 16 4294967295 a (xs.drop k)))
  (fun _ _ gm=>t.size-(intOf gm).toNat)
 case atStart=>exact⟨0,0,rfl,rfl,rfl,(by omega),⟨⟨(by omega),(by omega),rfl⟩⟩⟩
 case round=>
  obtain⟨k,a,rfl,rfl,rfl,ad,ed⟩:=hrel;obtain⟨a0,cg,jK⟩:=ed.out;clear ed;by_cases o5:k<t.size
  ·refine Gv ?_;clear jK;intro ai oT jK;generalize rd xs (k:Int)=c at ai jK oT;refine GL ?_;clear jK dw bG
   intro c0 c1 kv L bD aj cC mr;by_cases h0:c=95
   ·have eZ:=I (show¬dg c<16 by rw[h0];decide);have rb:L=127:=by rw[bD,h0];decide
    subst h0;subst rb;refine Sy ?_;intro bV;exact qs
   ·have bn:(c==95)=false:=beq_eq_false_iff_ne.mpr h0;by_cases hdig:48≤c∧c≤57
    ·refine Lc ?_;intro d0 d1 iD eZ;by_cases hov:a*16+(c-48)≤4294967295
     ·have bV:=I (kv.1.trans (x0 16 4294967295 a _ _ eZ.1 hov));have lj:=I (show 0≤a*16+(c-48)by omega);have o0:a*16+(c-48)≤4294967295:=hov;exact JG
     ·have bV:=I (kv.1.trans (x1 16 4294967295 a _ _ eZ.1 hov));have o0:4294967295<a*16+(c-48):=by omega
      exact xP
    ·refine Gx ?_;intro kd;rcases Int.lt_or_le c 48 with hlo|hlo
     ·exact Sd
     ·have D2:57<c:=by omega
      exact Sd
  ·exact FN
end
end fx
