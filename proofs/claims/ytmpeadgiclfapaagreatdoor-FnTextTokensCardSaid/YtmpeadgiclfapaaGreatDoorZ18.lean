/- Part 16 of the proof (Tk8, Lw1, Ts1). Conditions: each theorem's own. -/
import Derived.Test.YtmpeadgiclfapaaGreatDoorZ14
import Derived.Test.YtmpeadgiclfapaaGreatDoorZ16
import Derived.Laws.BitsLemmas
import Derived.Lib.DecodeN
set_option linter.all false
set_option maxHeartbeats 0
set_option maxRecDepth 100000
namespace Go.Proofs.YtmpeadgiclfapaaGreatDoor
namespace cP
open RowKit YtmpeadgiclfapaaGreatDoorW.PrintWords YtmpeadgiclfapaaGreatDoorW.PrintLast YtmpeadgiclfapaaGreatDoorW.PrintMore ei
structure A0(W w:World)(g n:Nat):Prop where
 c:∀j,j<n→∃x:Int,w.cell? ⟨g,j,none⟩=some (.int .u8 x)
 z:∀j,j<n→w.frozen? ⟨g,j,none⟩=false
 b:Below W.heap.size W w
section
variable {W w:World} {g n:Nat} (h:A0 W w g n)
include h
theorem A0.reads(aq:n≤9223372036854775807):∃xs,kV w .u8 (some ⟨g,0,none⟩) n xs:=by
 have h0:∀j,∃x:Int,j<n→w.cell? ⟨g,j,none⟩=some (.int .u8 x):=fun j=>by
  by_cases bq:j<n
  ·obtain⟨x,ae⟩:=h.c j bq;exact⟨x,fun _=>ae⟩
  ·exact⟨0,fun h=>absurd h bq⟩
 obtain⟨f,aA⟩:=Classical.axiomOfChoice h0;refine⟨(List.range n).map f,(by simp),aq,fun _=>⟨_,rfl,fun j bq=>?_⟩⟩;rw[add_plain,aA j bq];simp[List.getD_eq_getElem?_getD,bq]
theorem A0.put(aw:W.heap.size≤g)(i:Nat)(hi:i<n)(x:Int):A0 W (w.setCell ⟨g,i,none⟩ (.int .u8 x)) g n:=by
 refine⟨fun j bq=>?_,fun j bq=>by rw[World.frozen?_setCell];exact h.z j bq,h.b.setCell aw _⟩;by_cases e:j=i
 ·subst e;obtain⟨y,aX⟩:=h.c j bq;exact⟨x,World.cell?_setCell_same' w ⟨g,j,none⟩ _ (by rw[aX];rfl)⟩
 ·obtain⟨y,aX⟩:=h.c j bq;exact⟨y,(World.cell?_setCell_other w ⟨g,i,none⟩ ⟨g,j,none⟩ _ (by intro h0;injection h0 with _ h0 _;exact e h0.symm)).trans aX⟩
end
theorem ac6(s:ByteArray)(W:World)(ak:s.size≤1000000):
 Calls Tryz.prog 91 #[.string s] W fun e w'=>∃r:ByteArray,e=.returned (.string r)∧Below W.heap.size W w':=by
 have dC:=fun V=>X1 (P:=Tryz.prog) 9 22 5 Tryz.underlying9 Tryz.underlying22 Tryz.underlying5 s V
 have hT:=I (show A0 W (Lib.bytesWorld W 5 s) W.heap.size s.size from⟨fun j bq=>⟨_,Lib.bytesWorld_cell W 5 s j bq⟩,fun j bq=>by
  simp only[World.frozen?,Lib.bytesWorld_at_new];have:s.size≤(Lib.bytesCells W 5 s).size:=by simp[Lib.bytesCells]
  simp;omega,X2 (Below.refl _ _) (Nat.le_refl _) 5 s⟩)
 have av:=I ak;clear ak;go_enter Tryz.func91,Tryz.ntmps91
 go_wp2_with fail
 go_loopg [10] s.size (fun k v0 w'=>∃i:Nat,v0=.int .i64 (i:Int)∧aN (i+k=s.size)∧aN (A0 W w' W.heap.size s.size))
 case atStart=>exact⟨0,rfl,⟨(by omega)⟩,hT⟩
 case round=>
  clear hT;obtain⟨i,rfl,aV,hI⟩:=hrel;by_cases hi:i<s.size
  ·obtain⟨x,ae⟩:=hI.1.c i hi;have aG:=hI.1.z i hi;have d0:decide ((i:Int)<(s.size:Int))=true:=decide_eq_true (by omega);have d1:=eq_true (show(0:Int)≤(i:Int)by omega);have d2:=eq_true (show(i:Int)<(s.size:Int)by omega);have d3:wrap64 ((i:Int)+1)=((i+1:Nat):Int):=by have:=av.1;unfold wrap64;omega
   have dx:=I hi;clear hi
   go_wp2_with fail
   all_goals(
    go_roundg(s.size-(i+1))
    case measure=>have:=aV.1;have:=dx.1;omega
    case rel=>exact⟨i+1,(by first|rfl|(simp;done)|(simp[d3];done)),⟨PL⟩,⟨(by first|exact hI.1|exact hI.1.put (Nat.le_refl _) i dx.1 _)⟩⟩)
  ·have kj:i=s.size:=by have:=aV.1;omega
   subst kj;have d0:decide ((s.size:Int)<(s.size:Int))=false:=decide_eq_false (by omega);obtain⟨xs,A1⟩:=hI.1.reads (by have:=av.1;omega);have hq:=Oy (P:=Tryz.prog) (c:=grownCap W s.size 0 5) Tryz.underlying22 Tryz.underlying5 Tryz.underlying9 A1;have a7:=I hI.1.b;clear hi A1
   go_wp2_with fail
   go_ret;exact⟨_,rfl,a7.1⟩
end cP
namespace wP
open RowKit YtmpeadgiclfapaaGreatDoorW.PrintWords YtmpeadgiclfapaaGreatDoorW.PrintLast YtmpeadgiclfapaaGreatDoorW.PrintMore ei cP
theorem ac7(l:List Int)(i:Nat)(h:i<l.length):l.drop i=rd l (i:Int)::l.drop (i+1):=by
 rw[List.drop_eq_getElem_cons h];simp[rd,h]
section
variable (l:List Int) (an:l.length≤100000)
include l an
theorem ac8:∀(n i:Nat),i+n=l.length→∀o,∃r,pa.aj (n+1) o l (l.length:Int) (i:Int)=some r:=by
 intro n
 induction n with
 |zero=>
  intro i hi o;exact⟨false,(by rw[pa.aj,if_neg (by omega)])⟩
 |succ n bb=>
  intro i hi o;refine Gy ?_;intro hw;rw[pa.aj,if_pos (by omega),if_pos (by omega),if_pos (by omega),hw]
  repeat' split
  all_goals first|exact bb (i+1) (by omega) _|exact⟨_,rfl⟩
theorem ac9:∀(n i k:Nat),i+n=l.length→3*n+1≤k→∃r,hb.aj k l l (l.length:Int) (i:Int)=some r:=by
 intro n
 induction n with
 |zero=>
  intro i k hi ad;obtain⟨k,rfl⟩:∃j,k=j+1:=⟨k-1,(by omega)⟩;exact⟨false,(by rw[hb.aj,if_neg (by omega)])⟩
 |succ n bb=>
  intro i k hi ad;obtain⟨k,rfl⟩:∃j,k=j+1:=⟨k-1,(by omega)⟩;refine Gy ?_;intro hw;have hX:wrap64 (((i+1:Nat):Int)+1)=((i+2:Nat):Int):=by unfold wrap64;omega
  have h0:∀(cd:Nat) (al:Nat) (b:Bool),3*n+2≤cd→al=i+1→∃r,hb.gL cd l (al:Int) l (l.length:Int) (i:Int) b=some r:=by
   intro cd al b h1 aD;obtain⟨cd,rfl⟩:∃j,cd=j+1:=⟨cd-1,(by omega)⟩;subst aD;rw[hb.gL,hw,hX]
   repeat' split
   all_goals first|exact bb (i+1) cd (by omega) (by omega)|exact⟨_,rfl⟩|(exfalso;omega)
  have h2:∀(cd:Nat) (b:Bool),3*n+3≤cd→∃r,hb.cD cd l (i:Int) l (l.length:Int) (i:Int) b=some r:=by
   intro cd b h1;obtain⟨cd,rfl⟩:∃j,cd=j+1:=⟨cd-1,(by omega)⟩;rw[hb.cD,hw]
   repeat' split
   all_goals first|exact bb (i+1) cd (by omega) (by omega)|exact h0 cd (i+1) _ (by omega) rfl|(exfalso;omega)
  have h1:∀(b:Bool),∃r,hb.cD k l (i:Int) l (l.length:Int) (i:Int) b=some r:=fun b=>h2 k b (by omega);rw[hb.aj,if_pos (by omega),if_pos (by omega),if_pos (by omega)];by_cases iJ:(i:Int)=0
  ·rw[if_pos iJ]
   repeat' split
   all_goals exact h1 _
  ·have aZ:wrap64 ((i:Int)-1)=(i:Int)-1:=by unfold wrap64;omega
   rw[if_neg iJ,aZ,if_pos (show(0:Int)≤(i:Int)-1 by omega),if_pos (show(i:Int)-1<(l.length:Int)by omega)]
   repeat' split
   all_goals exact h1 _
theorem ada:∀(n i:Nat),i+n=l.length→∀o,kT.aj (n+1) o l (l.length:Int) (i:Int)=some (wQ o (l.drop i)):=by
 intro n
 induction n with
 |zero=>
  intro i hi o;rw[kT.aj,if_neg (by omega),List.drop_eq_nil_of_le (by omega)];cases o<;>rfl
 |succ n bb=>
  intro i hi o;refine Gy ?_;intro hw;rw[kT.aj,if_pos (by omega),if_pos (by omega),if_pos (by omega),hw,ac7 l i (by omega)];have h0:=bb (i+1) (by omega);generalize rd l (i:Int)=c at*;simp only[wQ,cP.blank];cases o
  ·simp only[Bool.false_eq_true,if_false,false_and,Bool.false_and,Bool.or_false];by_cases ai:c=91
   ·subst ai;rw[if_pos rfl];exact h0 true
   ·rw[if_neg ai,beq_eq_false_iff_ne.mpr ai];exact h0 false
  ·simp only[if_true,true_and,Bool.true_and];by_cases h1:c=47
   ·subst h1;rfl
   ·by_cases h2:c=35
    ·subst h2;rfl
    ·rw[if_neg h1,if_neg h2,if_neg (show¬(c=47∨c=35)by omega)];by_cases h3:c=91
     ·subst h3;exact h0 true
     ·by_cases h4:c=32
      ·subst h4;exact h0 true
      ·by_cases h5:c=9
       ·subst h5;exact h0 true
       ·by_cases h6:c=10
        ·subst h6;exact h0 true
        ·have e:(c==91||(c==32||c==9||c==13||c==10))=(c==13):=by
          have a0:(c==91)=false:=beq_eq_false_iff_ne.mpr h3;have cg:(c==32)=false:=beq_eq_false_iff_ne.mpr h4;have a2:(c==9)=false:=beq_eq_false_iff_ne.mpr h5;have a3:(c==10)=false:=beq_eq_false_iff_ne.mpr h6;rw[a0,cg,a2,a3];simp
         rw[if_neg h3,if_neg h4,if_neg h5,if_neg h6,e];exact h0 _
end
section
variable {w:World} {A:Option Addr} {c:Nat} {l:List Int}
end
end wP
namespace eC
open RowKit YtmpeadgiclfapaaGreatDoorW.PrintWords YtmpeadgiclfapaaGreatDoorW.PrintLast YtmpeadgiclfapaaGreatDoorW.PrintMore ei cP gJ
def ha(s:List Int):Nat×Nat:=Lib.decodeN s.length (a6 s 0).toNat (a6 s 1).toNat (a6 s 2).toNat (a6 s 3).toNat
def nQ(s:List Int):Nat:=if a6 s 0<128 then 1 else if(ha s).2=1 then 0 else(ha s).2
inductive iQ:List Int→Prop
 |nil:iQ []
 |cons (s:List Int) (h0:0<s.length) (h:nQ s≠0) (h1:iQ (s.drop (nQ s))):iQ s
def bad(r:Int):Bool:=decide (1114111<r)||(decide (55296≤r)&&decide (r<57344))
def yU(r:Int):Int:=if r<128 then 1 else if r<2048 then 2 else if r<65536 then 3 else 4
def fin(n r:Int):Int:=if bad r=true then 0 else if yU r=n then n else 0
theorem L0(s:List Int)(n r i:Int)(k:Nat)(h0:0≤r)(hi:n≤i):gh.aj (k+1) s n r i=some (fin n r):=by
 have hu:∃l,tW.f r=some l∧(l.length:Int)=yU r:=by
  unfold tW.f yU;by_cases a:r<128
  ·rw[if_pos a,if_pos a];exact⟨_,rfl,rfl⟩
  ·rw[if_neg a,if_neg a];by_cases b:r<2048
   ·rw[if_pos b,if_pos b];exact⟨_,rfl,rfl⟩
   ·rw[if_neg b,if_neg b];by_cases c:r<65536
    ·rw[if_pos c,if_pos c];exact⟨_,rfl,rfl⟩
    ·rw[if_neg c,if_neg c];exact⟨_,rfl,rfl⟩
 obtain⟨l,an,aq⟩:=hu;rw[gh.aj,if_neg (by omega)];unfold fin bad;by_cases a:r>1114111
 ·rw[if_pos a,show decide (1114111<r)=true from decide_eq_true a];rfl
 ·rw[if_neg a,show decide (1114111<r)=false from decide_eq_false a,Bool.false_or]
  have last:(tW.f r).bind (fun t=>if(t.length:Int)=n then some n else some 0)=some (if yU r=n then n else 0):=by
   rw[an,Option.bind_some,aq];split<;>rfl
  by_cases b:r≥55296
  ·rw[if_pos b,show decide (55296≤r)=true from decide_eq_true b,Bool.true_and];by_cases c:r<57344
   ·rw[if_pos c,show decide (r<57344)=true from decide_eq_true c];rfl
   ·rw[if_neg c,show decide (r<57344)=false from decide_eq_false c,if_neg Bool.false_ne_true];exact last
  ·rw[if_neg b,show decide (55296≤r)=false from decide_eq_false b,Bool.false_and,if_neg Bool.false_ne_true];exact last
theorem Da(s:List Int)(n r:Int)(i:Nat)(k:Nat)(h0:0≤r)(au:r<1000000)(hi:(i:Int)<n)(an:i<s.length)(aq:i≤10)(U:∀x∈s,0≤x∧x<256):
 gh.aj (k+1) s n r (i:Int)=if(a6 s i)/64=2 then gh.aj k s n (r*64+a6 s i%64) ((i+1:Nat):Int)else some 0:=by
 have e:rd s (i:Int)=a6 s i:=by unfold rd a6;rw[Int.toNat_natCast]
 have ae:0≤a6 s i∧a6 s i<256:=by
  unfold a6;rw[List.getD_eq_getElem?_getD,List.getElem?_eq_getElem an];exact U _ (List.getElem_mem an)
 rw[gh.aj,if_pos hi,if_pos (by omega),if_pos (by omega),e];by_cases c:a6 s i/64=2
 ·rw[if_pos c,if_pos c,show wrap64 (r*64)=r*64 by unfold wrap64;omega,u8_and63 _ ae.1 ae.2,show wrap64 (a6 s i%64)=a6 s i%64 by unfold wrap64;omega,
   show wrap64 ((i:Int)+1)=((i+1:Nat):Int)by unfold wrap64;omega]
  rw[bits_join .i64 62 (by decide) (fun n h0 h1=>by rw[IntKind.wrap_i64];omega) 6 (r*64) (a6 s i%64) (by omega) (by omega) (by omega) (by omega) (by omega) (by omega)]
 ·rw[if_neg c,if_neg c]
theorem adb(c:Int)(h0:0≤c)(h1:c<256):Go.bits .and .i64 c 31=c%32∧Go.bits .and .i64 c 15=c%16∧Go.bits .and .i64 c 7=c%8:=
 ⟨bits_mask .i64 62 (by decide) (fun n h0 h1=>by rw[IntKind.wrap_i64];omega) 5 (by decide) c h0 (by omega),
  bits_mask .i64 62 (by decide) (fun n h0 h1=>by rw[IntKind.wrap_i64];omega) 4 (by decide) c h0 (by omega),
  bits_mask .i64 62 (by decide) (fun n h0 h1=>by rw[IntKind.wrap_i64];omega) 3 (by decide) c h0 (by omega)⟩
def Dr(s:List Int)(bn c8 dm n3:Nat):Int:=
 if bn<192 then 0
 else if bn<224 then(if s.length<2 then 0 else if c8/64=2 then fin 2 ((bn:Int)%32*64+(c8:Int)%64)else 0)
 else if bn<240 then(if s.length<3 then 0 else if c8/64=2 then(if dm/64=2 then fin 3 (((bn:Int)%16*64+(c8:Int)%64)*64+(dm:Int)%64)else 0)else 0)
 else if bn<248 then(if s.length<4 then 0 else if c8/64=2 then(if dm/64=2 then(if n3/64=2 then fin 4 ((((bn:Int)%8*64+(c8:Int)%64)*64+(dm:Int)%64)*64+(n3:Int)%64)else 0)else 0)else 0)
 else 0
theorem ade(R:Nat)(h:R<2048):fin 2 (R:Int)=if R≥128 then 2 else 0:=by
 unfold fin bad yU;rw[show decide (1114111<(R:Int))=false from decide_eq_false (by omega),show decide (55296≤(R:Int))=false from decide_eq_false (by omega),Bool.false_and,Bool.false_or,if_neg Bool.false_ne_true];by_cases c:R≥128
 ·rw[if_pos c,if_neg (show¬(R:Int)<128 by omega),if_pos (show(R:Int)<2048 by omega),if_pos rfl]
 ·rw[if_neg c,if_pos (show(R:Int)<128 by omega),if_neg (by decide)]
theorem adf(R:Nat)(h:R<65536):fin 3 (R:Int)=if R≥2048∧(R<55296∨(57344≤R∧R≤1114111))then 3 else 0:=by
 unfold fin bad yU;rw[show decide (1114111<(R:Int))=false from decide_eq_false (by omega),Bool.false_or];by_cases c:R≥2048∧(R<55296∨(57344≤R∧R≤1114111))
 ·rw[if_pos c,if_neg (show¬(decide (55296≤(R:Int))&&decide ((R:Int)<57344))=true by simp only[Bool.and_eq_true,decide_eq_true_eq];omega),if_neg (show¬(R:Int)<128 by omega),if_neg (show¬(R:Int)<2048 by omega),if_pos (show(R:Int)<65536 by omega),if_pos rfl]
 ·rw[if_neg c];by_cases z:55296≤R∧R<57344
  ·rw[if_pos (show(decide (55296≤(R:Int))&&decide ((R:Int)<57344))=true by simp only[Bool.and_eq_true,decide_eq_true_eq];omega)]
  ·rw[if_neg (show¬(decide (55296≤(R:Int))&&decide ((R:Int)<57344))=true by simp only[Bool.and_eq_true,decide_eq_true_eq];omega)];by_cases z0:(R:Int)<128
   ·rw[if_pos z0,if_neg (by decide)]
   ·rw[if_neg z0,if_pos (show(R:Int)<2048 by omega),if_neg (by decide)]
theorem adg(R:Nat):fin 4 (R:Int)=if R≥65536∧(R<55296∨(57344≤R∧R≤1114111))then 4 else 0:=by
 unfold fin bad yU;by_cases c:R≥65536∧(R<55296∨(57344≤R∧R≤1114111))
 ·rw[if_pos c,if_neg (show¬(decide (1114111<(R:Int))||decide (55296≤(R:Int))&&decide ((R:Int)<57344))=true by simp only[Bool.or_eq_true,Bool.and_eq_true,decide_eq_true_eq];omega),if_neg (show¬(R:Int)<128 by omega),if_neg (show¬(R:Int)<2048 by omega),if_neg (show¬(R:Int)<65536 by omega),if_pos rfl]
 ·rw[if_neg c];by_cases z:1114111<R∨(55296≤R∧R<57344)
  ·rw[if_pos (show(decide (1114111<(R:Int))||decide (55296≤(R:Int))&&decide ((R:Int)<57344))=true by simp only[Bool.or_eq_true,Bool.and_eq_true,decide_eq_true_eq];omega)]
  ·rw[if_neg (show¬(decide (1114111<(R:Int))||decide (55296≤(R:Int))&&decide ((R:Int)<57344))=true by simp only[Bool.or_eq_true,Bool.and_eq_true,decide_eq_true_eq];omega)];by_cases z0:(R:Int)<128
   ·rw[if_pos z0,if_neg (by decide)]
   ·rw[if_neg z0];by_cases cp:(R:Int)<2048
    ·rw[if_pos cp,if_neg (by decide)]
    ·rw[if_neg cp,if_pos (show(R:Int)<65536 by omega),if_neg (by decide)]
theorem adh(s:List Int)(bn c8 dm n3:Nat)(ak:0<s.length)(h0:128≤bn)(h00:bn<256)(h1:c8<256)(h2:dm<256)(h3:n3<256):
 Dr s bn c8 dm n3=((if(Lib.decodeN s.length bn c8 dm n3).2=1 then 0 else(Lib.decodeN s.length bn c8 dm n3).2:Nat):Int):=by
 unfold Dr Lib.decodeN;rw[if_neg (show¬bn<128 by omega)];by_cases ck:bn<192
 ·rw[if_pos ck,if_neg (show¬(bn/32=6∧_)from fun h=>by omega),if_neg (show¬(bn/16=14∧_)from fun h=>by omega),if_neg (show¬(bn/8=30∧_)from fun h=>by omega)];rfl
 rw[if_neg ck];by_cases c12:bn<224
 ·rw[if_pos c12];by_cases q:1<s.length∧c8/64=2
  ·rw[if_neg (show¬s.length<2 by omega),if_pos q.2,if_pos (show bn/32=6∧(1<s.length∧c8/64=2)from⟨(by omega),q⟩),show(bn:Int)%32*64+(c8:Int)%64=((bn%32*64+c8%64:Nat):Int)by omega,ade _ (by omega)];by_cases z:bn%32*64+c8%64≥128
   ·rw[if_pos z,if_pos z];rfl
   ·rw[if_neg z,if_neg z];rfl
  ·rw[if_neg (show¬(bn/32=6∧_)from fun h=>q h.2),if_neg (show¬(bn/16=14∧_)from fun h=>by omega),if_neg (show¬(bn/8=30∧_)from fun h=>by omega)];by_cases a1:s.length<2
   ·rw[if_pos a1];rfl
   ·rw[if_neg a1,if_neg (show¬c8/64=2 by omega)];rfl
 rw[if_neg c12,if_neg (show¬(bn/32=6∧_)from fun h=>by omega)];by_cases eN:bn<240
 ·rw[if_pos eN];by_cases q:(1<s.length∧c8/64=2)∧(2<s.length∧dm/64=2)
  ·rw[if_neg (show¬s.length<3 by omega),if_pos q.1.2,if_pos q.2.2,if_pos (show bn/16=14∧(1<s.length∧c8/64=2)∧(2<s.length∧dm/64=2)from⟨(by omega),q⟩),
    show((bn:Int)%16*64+(c8:Int)%64)*64+(dm:Int)%64=((bn%16*4096+c8%64*64+dm%64:Nat):Int)by omega,adf _ (by omega)]
   by_cases z:bn%16*4096+c8%64*64+dm%64≥2048∧(bn%16*4096+c8%64*64+dm%64<55296∨(57344≤bn%16*4096+c8%64*64+dm%64∧bn%16*4096+c8%64*64+dm%64≤1114111))
   ·rw[if_pos z,if_pos z];rfl
   ·rw[if_neg z,if_neg z];rfl
  ·rw[if_neg (show¬(bn/16=14∧_)from fun h=>q h.2),if_neg (show¬(bn/8=30∧_)from fun h=>by omega)];by_cases a1:s.length<3
   ·rw[if_pos a1];rfl
   ·rw[if_neg a1];by_cases bQ:c8/64=2
    ·rw[if_pos bQ,if_neg (show¬dm/64=2 by omega)];rfl
    ·rw[if_neg bQ];rfl
 rw[if_neg eN,if_neg (show¬(bn/16=14∧_)from fun h=>by omega)];by_cases ia:bn<248
 ·rw[if_pos ia];by_cases q:(1<s.length∧c8/64=2)∧(2<s.length∧dm/64=2)∧(3<s.length∧n3/64=2)
  ·rw[if_neg (show¬s.length<4 by omega),if_pos q.1.2,if_pos q.2.1.2,if_pos q.2.2.2,if_pos (show bn/8=30∧(1<s.length∧c8/64=2)∧(2<s.length∧dm/64=2)∧(3<s.length∧n3/64=2)from⟨(by omega),q⟩),
    show(((bn:Int)%8*64+(c8:Int)%64)*64+(dm:Int)%64)*64+(n3:Int)%64=((bn%8*262144+c8%64*4096+dm%64*64+n3%64:Nat):Int)by omega,adg]
   by_cases z:bn%8*262144+c8%64*4096+dm%64*64+n3%64≥65536∧(bn%8*262144+c8%64*4096+dm%64*64+n3%64<55296∨(57344≤bn%8*262144+c8%64*4096+dm%64*64+n3%64∧bn%8*262144+c8%64*4096+dm%64*64+n3%64≤1114111))
   ·rw[if_pos z,if_pos z];rfl
   ·rw[if_neg z,if_neg z];rfl
  ·rw[if_neg (show¬(bn/8=30∧_)from fun h=>q h.2)];by_cases a1:s.length<4
   ·rw[if_pos a1];rfl
   ·rw[if_neg a1];by_cases bQ:c8/64=2
    ·rw[if_pos bQ];by_cases a1:dm/64=2
     ·rw[if_pos a1,if_neg (show¬n3/64=2 by omega)];rfl
     ·rw[if_neg a1];rfl
    ·rw[if_neg bQ];rfl
 ·rw[if_neg ia,if_neg (show¬(bn/8=30∧_)from fun h=>by omega)];rfl
theorem adi(s:List Int)(ak:0<s.length)(U:∀x∈s,0≤x∧x<256)(k:Nat):gh.f (k+10) s=some (nQ s:Int):=by
 have aD:rd s 0=a6 s 0:=rfl
 have Hf:∀i,0≤a6 s i∧a6 s i<256:=fun i=>by
  unfold a6;rw[List.getD_eq_getElem?_getD];by_cases h:i<s.length
  ·rw[List.getElem?_eq_getElem h];exact U _ (List.getElem_mem h)
  ·rw[List.getElem?_eq_none (by omega)];exact⟨(by decide),(by decide)⟩
 have bt:=Hf 0;have di:=Hf 1;have eS:=Hf 2;have hM:=Hf 3;obtain⟨m0,m1,m2⟩:=adb _ bt.1 bt.2;unfold gh.f nQ;rw[if_pos (by omega),aD,show wrap64 (a6 s 0)=a6 s 0 by unfold wrap64;omega];by_cases ck:a6 s 0<128
 ·rw[if_pos ck,if_pos ck];rfl
 rw[if_neg ck,if_neg ck]
 have gL:∀(n:Nat) (r:Int),(2≤n∧n≤4)→gh.gL (k+8) s (n:Int) r=if s.length<n then some 0 else gh.aj (k+7) s (n:Int) r ((1:Nat):Int):=fun n r _=>by
  rw[show k+8=(k+7)+1 from rfl,gh.gL];by_cases h:s.length<n
  ·rw[if_pos (by omega),if_pos h]
  ·rw[if_neg (by omega),if_neg h];rfl
 unfold ha;obtain⟨bn,h0⟩:∃bn:Nat,a6 s 0=bn:=⟨(a6 s 0).toNat,(by omega)⟩;obtain⟨c8,h1⟩:∃c8:Nat,a6 s 1=c8:=⟨(a6 s 1).toNat,(by omega)⟩;obtain⟨dm,h2⟩:∃dm:Nat,a6 s 2=dm:=⟨(a6 s 2).toNat,(by omega)⟩;obtain⟨n3,h3⟩:∃n3:Nat,a6 s 3=n3:=⟨(a6 s 3).toNat,(by omega)⟩
 have wV:gh.fB (k+10) s (a6 s 0) false=if a6 s 0≥224 then gh.cD (k+9) s (a6 s 0) (decide (a6 s 0<240))else gh.cD (k+9) s (a6 s 0) false:=by
  rw[show k+10=(k+9)+1 from rfl,gh.fB,if_neg Bool.false_ne_true]
 have UH:gh.cD (k+9) s (a6 s 0) false=if a6 s 0≥240 then(if a6 s 0<248 then gh.gL (k+8) s 4 (Go.bits .and .i64 (a6 s 0) 7)else some 0)else some 0:=by
  rw[show k+9=(k+8)+1 from rfl,gh.cD,if_neg Bool.false_ne_true]
 rw[h0,h1,h2,h3];simp only[Int.toNat_natCast];rw[h0]at ck bt;rw[h1]at di;rw[h2]at eS;rw[h3]at hM
 have L:gh.f (k+10) s=some (Dr s bn c8 dm n3):=by
  unfold gh.f;rw[if_pos (show(0:Int)<(s.length:Int)by omega),aD,show wrap64 (a6 s 0)=a6 s 0 by rw[h0];unfold wrap64;omega,if_neg (show¬a6 s 0<128 by omega)];by_cases c12:bn<192
  ·rw[if_neg (show¬a6 s 0≥192 by omega),wV,if_neg (show¬a6 s 0≥224 by omega),UH,if_neg (show¬a6 s 0≥240 by omega)];unfold Dr;rw[if_pos c12]
  rw[if_pos (show a6 s 0≥192 by omega)];unfold Dr;rw[if_neg c12];by_cases eN:bn<224
  ·rw[show k+10=(k+9)+1 from rfl,gh.fB,if_pos (decide_eq_true (show a6 s 0<224 by omega)),m0,if_pos eN]
   have bq:gh.gL (k+9) s 2 (a6 s 0%32)=if s.length<2 then some 0 else gh.aj (k+8) s 2 (a6 s 0%32) ((1:Nat):Int):=by
    rw[show k+9=(k+8)+1 from rfl,gh.gL];by_cases h:s.length<2
    ·rw[if_pos (show(s.length:Int)<2 by omega),if_pos h]
    ·rw[if_neg (show¬(s.length:Int)<2 by omega),if_neg h];rfl
   rw[bq];by_cases an:s.length<2
   ·rw[if_pos an,if_pos an]
   ·rw[if_neg an,if_neg an,Da s 2 _ 1 (k+7) (by omega) (by omega) (by omega) (by omega) (by omega) U];by_cases a1:c8/64=2
    ·rw[if_pos (show a6 s 1/64=2 by omega),if_pos a1,show k+7=(k+6)+1 from rfl,L0 _ _ _ _ _ (by omega) (by omega),h0,h1]
    ·exact J6
  rw[if_neg eN,show decide (a6 s 0<224)=false from decide_eq_false (by omega),wV,if_pos (show a6 s 0≥224 by omega)];by_cases ia:bn<240
  ·rw[show k+9=(k+8)+1 from rfl,gh.cD,if_pos (decide_eq_true (show a6 s 0<240 by omega)),m1,show(3:Int)=((3:Nat):Int)from rfl,gL 3 _ (by omega),if_pos ia];by_cases an:s.length<3
   ·rw[if_pos an,if_pos an]
   ·rw[if_neg an,if_neg an,show k+7=(k+6)+1 from rfl,Da s _ _ 1 (k+6) (by omega) (by omega) (by omega) (by omega) (by omega) U];by_cases a1:c8/64=2
    ·refine TM ?_;by_cases bQ:dm/64=2
     ·rw[if_pos (show a6 s 2/64=2 by omega),if_pos bQ,show k+5=(k+4)+1 from rfl,L0 _ _ _ _ _ (by omega) (by omega),h0,h1,h2]
     ·rw[if_neg (show¬a6 s 2/64=2 by omega),if_neg bQ]
    ·exact J6
  rw[if_neg ia,show decide (a6 s 0<240)=false from decide_eq_false (by omega),UH,if_pos (show a6 s 0≥240 by omega)];by_cases yF:bn<248
  ·rw[if_pos (show a6 s 0<248 by omega),m2,show(4:Int)=((4:Nat):Int)from rfl,gL 4 _ (by omega),if_pos yF];by_cases an:s.length<4
   ·rw[if_pos an,if_pos an]
   ·rw[if_neg an,if_neg an,show k+7=(k+6)+1 from rfl,Da s _ _ 1 (k+6) (by omega) (by omega) (by omega) (by omega) (by omega) U];by_cases a1:c8/64=2
    ·refine TM ?_;by_cases bQ:dm/64=2
     ·rw[if_pos (show a6 s 2/64=2 by omega),if_pos bQ,show k+5=(k+4)+1 from rfl,Da s _ _ 3 (k+4) (by omega) (by omega) (by omega) (by omega) (by omega) U];by_cases fs:n3/64=2
      ·rw[if_pos (show a6 s 3/64=2 by omega),if_pos fs,show k+4=(k+3)+1 from rfl,L0 _ _ _ _ _ (by omega) (by omega),h0,h1,h2,h3]
      ·rw[if_neg (show¬a6 s 3/64=2 by omega),if_neg fs]
     ·rw[if_neg (show¬a6 s 2/64=2 by omega),if_neg bQ]
    ·exact J6
  ·rw[if_neg (show¬a6 s 0<248 by omega),if_neg yF]
 unfold gh.f at L;rw[if_pos (show(0:Int)<(s.length:Int)by omega),aD,show wrap64 (a6 s 0)=a6 s 0 by rw[h0];unfold wrap64;omega,if_neg (show¬a6 s 0<128 by omega),h0]at L;rw[L];exact congrArg some (adh s bn c8 dm n3 ak (by omega) (by omega) (by omega) (by omega) (by omega))
theorem adj(n bt di eS hM:Nat)(aq:1≤n):(Lib.decodeN n bt di eS hM).2≤n∧(Lib.decodeN n bt di eS hM).2≤4:=by
 unfold Lib.decodeN
 repeat' split
 all_goals exact⟨(by simp only;omega),(by simp only;omega)⟩
theorem adk(s:List Int)(ak:0<s.length)(U:∀x∈s,0≤x∧x<256):nQ s≤s.length∧nQ s≤4:=by
 have h:=adj s.length (a6 s 0).toNat (a6 s 1).toNat (a6 s 2).toNat (a6 s 3).toNat ak;unfold nQ ha;split
 ·omega
 ·split
  ·omega
  ·exact h
section
variable (B:List Int) (an:B.length≤100000) (U:∀x∈B,0≤x∧x<256)
include B an U
theorem adl:∀(n i k:Nat),i≤B.length→B.length-i≤n→n+12≤k→∃b,pd.aj k B (i:Int)=some b∧(b=true→iQ (B.drop i)):=by
 intro n
 induction n with
 |zero=>
  intro i k hi aq ad;obtain⟨m,rfl⟩:∃m,k=m+1:=⟨k-1,(by omega)⟩;rw[pd.aj,if_neg (by omega)];exact P4
 |succ n bb=>
  intro i k hi aq ad;obtain⟨m,rfl⟩:∃m,k=(m+10)+1:=⟨k-11,(by omega)⟩;rw[pd.aj];by_cases h:i<B.length
  ·have UI:∀x∈B.drop i,0≤x∧x<256:=fun x ae=>U x (List.mem_of_mem_drop ae);have kd:0<(B.drop i).length:=by rw[List.length_drop];omega
   have hle:=adk (B.drop i) kd UI;rw[List.length_drop]at hle;rw[if_pos (by omega),if_pos (by omega),if_pos (by omega),Int.toNat_natCast,adi (B.drop i) kd UI m,Option.bind_some];by_cases z:nQ (B.drop i)=0
   ·rw[if_pos (by omega)];exact⟨false,rfl,fun h=>by cases h⟩
   ·rw[if_neg (by omega),show wrap64 ((i:Int)+(nQ (B.drop i):Int))=((i+nQ (B.drop i):Nat):Int)by unfold wrap64;omega];obtain⟨b,h0,h1⟩:=bb (i+nQ (B.drop i)) (m+10) (by omega) (by omega) (by omega);exact⟨b,h0,fun U=> .cons _ kd z (by rw[List.drop_drop];exact h1 U)⟩
  ·rw[if_neg (by omega)];exact P4
theorem adm:∃k b,pd.f k B=some b∧(b=true→iQ B):=by
 obtain⟨b,h0,h1⟩:=adl B an U B.length 0 (B.length+12) (by omega) (by omega) (by omega);exact⟨_,b,h0,h1⟩
end
end eC
