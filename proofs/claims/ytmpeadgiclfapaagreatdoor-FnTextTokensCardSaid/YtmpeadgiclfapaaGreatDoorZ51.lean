/- Part 49 of the proof (Lw3, Lt9). Conditions: each theorem's own. -/
import Derived.Test.YtmpeadgiclfapaaGreatDoorZ50
import Derived.Lib.LaidTab
import Derived.Lib.LaidU8T
import Derived.MakeChecks
import Derived.Lay
import Derived.LaidMore
import Derived.Stop.LaidErr
import Derived.Test.YtmpeadgiclfapaaGreatDoorRows
set_option linter.all false
set_option maxHeartbeats 0
set_option maxRecDepth 100000
namespace Go.Proofs.YtmpeadgiclfapaaGreatDoor
namespace wP
open RowKit YtmpeadgiclfapaaGreatDoorW.PrintWords YtmpeadgiclfapaaGreatDoorW.PrintLast YtmpeadgiclfapaaGreatDoorW.PrintMore ei cP eI nt fx gi
theorem oR.at_:∀{L l:List cx} (_:oR L l) (i:Nat) (_:i<l.length),Ih (L.getD i zz) (l.getD i zz)
 |[],[],_,i,h=>absurd h (by simp)
 |x::L,t::l,h,0,_=>h.1
 |x::L,t::l,h,i+1,hi=>by
  simp only[List.getD_cons_succ];exact oR.at_ h.2 i (by simpa using hi)
 |[],_::_,h,_,_=>h.elim
 |_::_,[],h,_,_=>h.elim
theorem N7(s:ByteArray):(s !=s)=false:=by
 show(!(s.data==s.data))=false
 simp
theorem XL{s:ByteArray}(h:Ej s):0<s.size∧(bB s 0=34∨bB s 0=39):=by
 obtain⟨y,l,rfl,aX⟩:=h;have ak:(strOfNums (y::l)).size=l.length+1:=by simp[strOfNums,ByteArray.size]
 refine⟨(by omega),?_⟩;have U:=nx (strOfNums (y::l)) 0 Fw;rw[←U];rcases aX with rfl|rfl
 ·left;simp[strOfNums,ByteArray.getElem_eq_getElem_data]
 ·right;simp[strOfNums,ByteArray.getElem_eq_getElem_data]
section
variable {w:World} {A:Option Addr} {c:Nat} {B:List Int}
theorem ajz(ak:B.length≤4000)(hC:ab.C (ab.int .u8) w A B.length B)(ai:B.length≤c)(bG:∀x∈B,0≤x∧x<256)(cV:Lib.Utf8Tabs 4 5 w)(cG:iS w)(bN:0<w.heap.size∧∃ty v,w.cell? ⟨0,0,none⟩=some (.iface ty v)):
 Calls Tryz.prog 3 #[.slice A B.length c] w (Im w):=by
 have an:B.length≤100000:=by omega
 obtain⟨gd,h0⟩:=ac8 B an B.length 0 (by omega) false;obtain⟨r1,h1⟩:=ac9 B an B.length 0 (3*B.length+1) (by omega) (Nat.le_refl _);have h2:=ada B an B.length 0 (by omega) false;rw[List.drop_zero]at h2;have gP:=I (fun W (fD:Below w.heap.size w W)=>pa.calls (B.length+1) A c B gd W (ab.ko hC fD) ai h0);have nB:=I (fun W (fD:Below w.heap.size w W)=>hb.calls (3*B.length+1) A c B r1 W (ab.ko hC fD) ai h1);have Io:=I (fun W (fD:Below w.heap.size w W)=>kT.calls (B.length+1) A c B _ W (ab.ko hC fD) ai h2);have gI:=I (fun W (fD:Below w.heap.size w W)=>afh W A c B (ab.ko hC fD) ai an bG);have XM:=I (fun(h47:∀m r,B.drop m=91::r→a6 (bc false r) 0≠47) (W:World) (fin:Bool) (l:List cx) (fD:Below w.heap.size w W) (he:uH B fin (so B) l)=>aju (ab.ko hC fD) ai an bG (Utf8Tabs_below cV fD) (cG.below fD) ⟨Nat.lt_of_lt_of_le bN.1 fD.size,(by obtain⟨ty,v,h⟩:=bN.2;exact⟨ty,v,(fD.cell bN.1).trans h⟩)⟩ h47 fin l he);have dS:=I an;have a1:decide ((2147483647:Int)<(B.length:Int))=false:=decide_eq_false (by omega);have bQ:decide (2147483647<B.length)=false:=decide_eq_false (by omega);have fs:decide ((4000:Int)<(B.length:Int))=false:=decide_eq_false (by omega);have ku:decide (4000<B.length)=false:=decide_eq_false (by omega);clear h0 h1 h2 hC ai bG cV cG bN ak an;cases gd with
 |true=>
  go_enter Tryz.func3,Tryz.ntmps3
  go_wp2_with(first|(refine F8 ?_;intro w0 aC))
  go_ret;exact⟨rfl,aC.1⟩
 |false=>
  cases r1 with
  |true=>
   go_enter Tryz.func3,Tryz.ntmps3
   go_wp2_with(first|(refine F8 ?_;intro w0 aC)|(refine Ks ?_;intro w1 bM))
   go_ret;exact⟨rfl,bM.1⟩
  |false=>
   cases hrt:wQ false B with
   |true=>
    rw[hrt]at Io;clear hrt;go_enter Tryz.func3,Tryz.ntmps3
    go_wp2_with(first|(refine F8 ?_;intro w0 aC)|(refine Ks ?_;intro w1 bM)|(go_at_call 6;refine(Io.1 _ bM.1).mono ?_;rintro bk bf ⟨rfl,s7⟩;have eP:=I (bw bM.1 (Nat.le_refl _) s7.below);clear s7))
    go_ret;exact⟨rfl,eP.1⟩
   |false=>
    rw[hrt]at Io;have ajA:=I (XM.1 (fun m r hm=>abn hrt hm));clear hrt XM;go_enter Tryz.func3,Tryz.ntmps3
    go_upto_region 6 with(first|(refine F8 ?_;intro w0 aC)|(refine Ks ?_;intro w1 bM)|(go_at_call 6;refine(Io.1 _ bM.1).mono ?_;rintro bk bf ⟨rfl,s7⟩;have eP:=I (bw bM.1 (Nat.le_refl _) s7.below);clear s7)|(go_at_call 7;refine(gI.1 _ eP.1).mono ?_;rintro bk w0 ⟨ao,c4,l,t,rfl,eV,Et,XN,XO,XP⟩;have aC:=I (bw eP.1 (Nat.le_refl _) eV);have cK:=I (ab.pt Et);have et:=I (And.intro XN (And.intro XO XP));clear eV Et XN XO XP))
    obtain⟨hv,Hl,aU⟩:=et.1
    have ajB:t=2∨∃fin:Bool,t=(if fin=true then 1 else 0)∧uH B fin (so B) l:=by
     rcases aU with rfl|rfl|rfl
     ·exact .inr ⟨false,rfl,Hl rfl⟩
     ·exact .inr ⟨true,rfl,hv rfl⟩
     ·exact .inl rfl
    clear hv Hl aU;rcases ajB with rfl|⟨fin,rfl,Es⟩
    ·go_wp2_with fail
     go_ret;exact⟨rfl,aC.1⟩
    ·have Ij:=I Es;clear Es;cases fin
     all_goals(
      go_wp2_with(first|(go_at_call 8;refine(ajA.1 _ _ _ aC.1 Ij.1).mono ?_;rintro bk w0 ⟨ao,c5,L,rfl,eV,Et,ajC,N8⟩;have bM:=I (bw aC.1 (Nat.le_refl _) eV);have dj:=I Et;have iq:=I (ab.ko cK.1.2.2 eV);have XQ:=I N8;rw[N8.len];clear eV Et ajC N8))
      have ef:=I (show l.length≤100000 from by
       obtain⟨cw,h0,_⟩:=Ij.1;have h1:=XD h0;have h2:=rI B;have h3:(so B).s.length=(eM B).length:=rfl;have:=dS.1;omega)
      go_loopg [54] l.length (fun k v0 w'=>∃i:Nat,v0=.int .i64 (i:Int)∧aN (i+k=l.length)∧aN (Below w0.heap.size w0 w'))
      case atStart=>exact⟨0,rfl,⟨(by omega)⟩,⟨Below.refl _ _⟩⟩
      case round=>
       obtain⟨i,rfl,aV,Ip⟩:=hrel;by_cases hi:i<l.length
       ·have bn:decide ((i:Int)<(l.length:Int))=true:=decide_eq_true (by omega);have c8:decide (i<l.length)=true:=decide_eq_true hi;have dm:=eq_true (show(0:Int)≤(i:Int)by omega);have n3:=eq_true (show(i:Int)<(l.length:Int)by omega);have n4:=eq_true hi;have dx:=I hi;have bD:=oR.len XQ.1;obtain⟨cc,ajD,al,eg,j4,bX,dk,eB⟩:=O9 (ab.ko dj.1 Ip.1) (i:Int) (by omega) (by omega);have Iq:=oR.at_ XQ.1 i hi;rw[show L.getD i zz=rL L (i:Int)by simp[rL],show l.getD i zz=rL l (i:Int)by simp[rL]]at Iq;have N9:=I (O9 (ab.ko iq.1 Ip.1) (i:Int) (by omega) (by omega));obtain⟨t,aU⟩:∃t,t=rL l (i:Int):=⟨_,rfl⟩;obtain⟨x,ae⟩:∃x,x=rL L (i:Int):=⟨_,rfl⟩;rw[←aU]at N9 Iq;rw[←ae]at al eg j4 bX dk eB Iq;obtain⟨aD,bx,db,fO,gW,aE⟩:=Iq;rw[aD]at al;rw[bx]at eg;rw[db]at j4;rw[fO]at bX;rw[gW]at eB;rw[Int.toNat_natCast]at al eg j4 bX dk eB;obtain⟨r,au⟩:∃r,r=x.f4:=⟨_,rfl⟩;rw[←au]at dk aE;have jJ:=I aE;cases ajD;clear hi bD aU ae aD bx db fO gW aE au
        go_upto_region 14 with fail
        have az:=da Ip.1 (.cells #[.int .i64 t.f0,.int .i64 t.f1,.int .i64 t.f2,.bool t.f3,.string r,.string t.f5] 31);have zc:=I (gV wr (.cells #[.int .i64 t.f0,.int .i64 t.f1,.int .i64 t.f2,.bool t.f3,.string r,.string t.f5] 31));have ee:=da (Below.refl wr.heap.size wr) (.cells #[.int .i64 t.f0,.int .i64 t.f1,.int .i64 t.f2,.bool t.f3,.string r,.string t.f5] 31);generalize wr.alloc (.cells #[.int .i64 t.f0,.int .i64 t.f1,.int .i64 t.f2,.bool t.f3,.string r,.string t.f5] 31)=cJ at az zc ee⊢;have ajE:=I az;obtain⟨dp,ajF,aT,bh,bA,y3,y4,hg⟩:=N9.1;rw[Int.toNat_natCast]at aT bh bA y3 y4 hg;replace aT:=mL ee aT;replace bh:=mL ee bh;replace bA:=mL ee bA;replace y3:=mL ee y3;replace y4:=mL ee y4;replace hg:=mL ee hg;subst ajF;clear al eg j4 bX dk eB az ee
        go_upto_region 15 with fail
        have az:=da ajE.1 (.cells #[.int .i64 t.f0,.int .i64 t.f1,.int .i64 t.f2,.bool t.f3,.string t.f4,.string t.f5] 32);have aX:=gV cJ (.cells #[.int .i64 t.f0,.int .i64 t.f1,.int .i64 t.f2,.bool t.f3,.string t.f4,.string t.f5] 32);have ae:=iU zc.1 (.cells #[.int .i64 t.f0,.int .i64 t.f1,.int .i64 t.f2,.bool t.f3,.string t.f4,.string t.f5] 32);generalize cJ.alloc (.cells #[.int .i64 t.f0,.int .i64 t.f1,.int .i64 t.f2,.bool t.f3,.string t.f4,.string t.f5] 32)=ay at az ae aX⊢;have aan:=I az;clear aT bh bA y3 y4 hg az;have al:=(bg ae 0).trans rfl;have aT:=(bg aX 0).trans rfl;have eg:=(bg ae 1).trans rfl;have bh:=(bg aX 1).trans rfl;have j4:=(bg ae 2).trans rfl;have bA:=(bg aX 2).trans rfl;have bX:=(bg ae 3).trans rfl;have y3:=(bg aX 3).trans rfl;have dk:=(bg ae 4).trans rfl;have y4:=(bg aX 4).trans rfl;have eB:=(bg ae 5).trans rfl;have hg:=(bg aX 5).trans rfl;clear ae aX zc N9;obtain⟨f0,f1,f2,f3,f4,f5⟩:=t;dsimp only at al eg j4 bX dk eB aT bh bA y3 y4 hg jJ⊢;have bt:(f0 !=f0)=false:=by simp
        have di:(f1 !=f1)=false:=by simp
        have eS:(f2 !=f2)=false:=by simp
        have hM:(f3 !=f3)=false:=by simp
        have CB:=N7 f5
        go_upto_region 17 with fail
        by_cases aG:f4.size=0
        ·have z0:decide ((0:Int)<(f4.size:Int))=false:=decide_eq_false (by omega);have cp:decide (0<f4.size)=false:=decide_eq_false (by omega)
         obtain rfl:r=f4:=by
          rcases jJ.1 with h|h
          ·have:=(XL h).1;omega
          ·exact h
         have FW:=N7 r;clear aG;exact FF
        ·have z0:decide ((0:Int)<(f4.size:Int))=true:=decide_eq_true (by omega);have cp:decide (0<f4.size)=true:=decide_eq_true (by omega);have fH:0<f4.size:=by omega
         have z0:=eq_true fH;have U:((f4[0]'fH).toNat:Int)=bB f4 0:=nx f4 0 fH;by_cases h3:bB f4 0=34
         ·have xZ:(((f4[0]'fH).toNat:Int)==34)=true:=by rw[U,h3];rfl
          clear aG h3 U;exact FF
         ·have xZ:(((f4[0]'fH).toNat:Int)==34)=false:=by rw[U];exact beq_eq_false_iff_ne.mpr h3
          by_cases h4:bB f4 0=39
          ·have xZ:(((f4[0]'fH).toNat:Int)==39)=true:=by rw[U,h4];rfl
           clear aG h3 h4 U;exact FF
          ·have xZ:(((f4[0]'fH).toNat:Int)==39)=false:=by rw[U];exact beq_eq_false_iff_ne.mpr h4
           obtain rfl:r=f4:=by
            rcases jJ.1 with h|h
            ·have:=(XL h).2;omega
            ·exact h
           have FW:=N7 r;clear aG h3 h4 U;exact FF
       ·have bn:decide ((i:Int)<(l.length:Int))=false:=decide_eq_false (by omega);have c8:decide (i<l.length)=false:=decide_eq_false hi;clear hi
        go_wp2_with fail
        go_ret;exact⟨rfl,bw bM.1 (Nat.le_refl _) Ip.1⟩)
theorem law(hC:ab.C (ab.int .u8) w A B.length B)(ai:B.length≤c)(bG:∀x∈B,0≤x∧x<256)(cV:Lib.Utf8Tabs 4 5 w)(cG:iS w)(bN:0<w.heap.size∧∃ty v,w.cell? ⟨0,0,none⟩=some (.iface ty v)):
 Calls Tryz.prog 3 #[.slice A B.length c] w (Im w):=by
 by_cases h0:2147483647<B.length
 ·exact ajx h0
 ·by_cases h1:4000<B.length
  ·exact ajy h1 h0
  ·exact ajz (by omega) hC ai bG cV cG bN
end
end wP
namespace XR
open Lib fx gi
def ajG:Go.Shelf.Ren:=⟨fun n=>n,fun|119=>128|138=>130|139=>131|n=>n,fun|3=>4|4=>5|n=>n⟩
theorem ajH {W : World} (h3 : VarReads Tryz.prog W "unicode/utf8.first" Go.Pinned.utf8First) (h4 : VarReads Tryz.prog W "unicode/utf8.acceptRanges" Rows.laid_unicode_utf8_acceptRanges) : Lib.Utf8Tabs 4 5 W := by
 have aD:Go.Pinned.utf8First=firstData:=by kernel_rfl
 have bx:(Rows.laid_unicode_utf8_acceptRanges:DataW Unit)=acceptData:=by kernel_rfl
 rw[aD]at h3;rw[bx]at h4
 exact utf8Tabs_of_readsT (ρ:=ajG) ⟨Tryz.underlying5,Tryz.underlying128,Tryz.underlying130,Tryz.underlying131⟩
  ⟨aM,aM,aM,aM,aM,aM,aM⟩ h3 h4
theorem star : "*" ++ "errors.errorString" = "*errors.errorString" := by decide
theorem row (u : TypeId) (h : Tryz.prog.typeName? 3 u = some "*errors.errorString") : u = 141 :=
 typeName_ptr_named (nm := "errors.errorString") (by rw [star]; kernel_rfl) aM (by decide) u (by rw [star]; exact h)
theorem Oa {W : World} {n : String} {text : List UInt8} {r : List (String × DataW Unit)} {g : Nat} (h : laidMet Tryz.prog ((n, .iface "*errors.errorString" (.ptr (.agg [.lit (.string text)]))) :: r) W) (aw : Tryz.prog.globalNamed n = some g) (aU : (Tryz.prog.globals[g]?).map (·.type) = some 49) :
 ∃ty v,W.cell? ⟨g,0,none⟩=some (.iface ty v):=by
 obtain⟨a,s,aZ,_,_,_⟩:=laid_sentinel h aw aU Tryz.underlying49 row Tryz.underlying141 Tryz.underlying143 rfl rfl Tryz.underlying9 aM aM;exact⟨_,_,(by simpa using World.var?_cell aw aZ 0)⟩
theorem env{W:World}(bD:laidMetH Tryz.prog Rows.fnTextTokensRow.laid W):Lib.Utf8Tabs 4 5 W∧iS W∧(0<W.heap.size∧∃ty v,W.cell? ⟨0,0,none⟩=some (.iface ty v)):=by
 rw[MakeChecks.laidMetH_plain _ _ _ aM]at bD;have h0:=bD.tail.tail.tail.tail;have ew:=Oa (g:=3) h0 aM aM;have hS:=Oa (g:=2) h0.tail aM aM;have bN:=Oa (g:=0) h0.tail.tail aM aM;have gd := Lib.laidMet.reads (n := "unicode/utf8.first") (d := Rows.laid_unicode_utf8_first) bD (by simp [Rows.fnTextTokensRow]);have r1 := Lib.laidMet.reads (n := "unicode/utf8.acceptRanges") (d := Rows.laid_unicode_utf8_acceptRanges) bD (by simp [Rows.fnTextTokensRow]);have lt:∀{g:Nat} {ty:TypeId} {v:Value},W.cell? ⟨g,0,none⟩=some (.iface ty v)→g<W.heap.size:=fun h=>World.block_lt_of_cell? W _ h;obtain⟨t0,v0,aD⟩:=ew;obtain⟨t2,v1,bx⟩:=bN;exact⟨ajH gd r1,⟨lt aD,hS,t0,v0,aD⟩,lt bx,t2,v1,bx⟩
end XR
