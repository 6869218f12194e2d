/- Part 26 of the proof (Dx2, Dx3, Ow0, Er0, Ns0). Conditions: each theorem's own. -/
import Derived.Test.YtmpeadgiclfapaaGreatDoorZ2
import Derived.Test.YtmpeadgiclfapaaGreatDoorZ23
import Derived.Test.YtmpeadgiclfapaaGreatDoorZ27
import Derived.Lib.AppendStr
import Derived.Deep.AppendSrc
import Derived.StillTailTactics
import Derived.Laws.CopyOwn
set_option linter.all false
set_option maxHeartbeats 0
set_option maxRecDepth 100000
namespace Go.Proofs.YtmpeadgiclfapaaGreatDoor
namespace fx
open RowKit YtmpeadgiclfapaaGreatDoorW.PrintWords YtmpeadgiclfapaaGreatDoorW.PrintLast YtmpeadgiclfapaaGreatDoorW.PrintMore ei cP gJ eI eC gi
section
variable {w0 w:World} {g:Nat} {B s st:List Int} {lc af:Int} {f:DV}
theorem ir.grow(h:ir w0 w g B s st lc af f){w3:World}{A:Option Addr}{n c:Nat}{DX:List Int}(aY:ab.R (ab.int .u8) 5 w3 w0.heap.size (fun k=>k≠g) (.slice A n c) DX)(aq:n=DX.length)(an:DX.length≤200000)(U:Below w0.heap.size w0 w3)(aw:w.grownBy w3 (Value.slice f.vD st.length f.cs).ownBlock):ir w0 (w3.setCell ⟨g,8,none⟩ (.slice A n c)) g B s DX lc af {f with vD:=A,cs:=c}:=by
 subst aq;have A5:=qF h.ft aw (ab.pV h.hS h.ft (by decide));exact⟨j7 A5 8 _ rfl,h.ge,U.setCell h.ge _,h.pQ,h.gm,h.jE,ab.mo aY (fun _ ad=>ad) _,h.sz,an,h.lP⟩
theorem ir.pop(h:ir w0 w g B s st lc af f)(m:Nat)(hm:m≤st.length):ir w0 (w.setCell ⟨g,8,none⟩ (.slice f.vD m f.cs)) g B s (st.take m) lc af f:=by
 have ew:=ab.YB h.hS hm;have an:(st.take m).length=m:=by rw[List.length_take];omega
 refine⟨?_,h.ge,h.bu.setCell h.ge _,h.pQ,h.gm,h.jE,?_,h.sz,(by have:=h.sl;omega),h.lP⟩
 ·rw[an];exact j7 h.ft 8 _ rfl
 ·rw[an];exact ab.mo ew (fun _ ad=>ad) _
structure ey(w0 w w':World)(g:Nat)(B s st:List Int)(lc af:Int):Prop where
 d:dK w0 w' g B s st lc af
 sz:w.heap.size≤w'.heap.size
 k:∀(b:Nat) (cells:Array Value) (t:Nat),w.heap[b]?=some (.cells cells t (0,0))→t≠5→b≠g→w'.heap[b]?=some (.cells cells t (0,0))
 l:Below w0.heap.size w0 w'
theorem c6.m{w1:World}(h:c6 w0 w w1 g B s st lc af):ey w0 w w1 g B s st lc af:=⟨h.d,h.k.1,fun b cells t U _ aw=>h.k.ft U aw (by simp),(by obtain⟨f,aA⟩:=h.d;exact aA.bu)⟩
theorem ey.n{w1 bf:World}{eW fa:List Int}{xe sq:Int}(h:ey w0 w w1 g B s st lc af)(k:c6 w0 w1 bf g B eW fa xe sq):ey w0 w bf g B eW fa xe sq:=
 ⟨k.d,Nat.le_trans h.sz k.k.1,fun b cells t U aU aw=>k.k.ft (h.k b cells t U aU aw) aw (by simp),(by obtain⟨f,aA⟩:=k.d;exact aA.bu)⟩
theorem aaO(h:dK w0 w g B s st lc af)(c:Int)(an:st.length+1≤200000):
 Calls Tryz.prog 46 #[.pointer (some ⟨g,0,none⟩),.int .u8 c] w fun e w'=>e=.returned (.tuple #[])∧ey w0 w w' g B s (st++[c]) lc af:=by
 obtain⟨f,aA⟩:=h;have dz:=I aA;have c3:=aA.c3;have fh:=I an;clear aA an;go_enter Tryz.func46,Tryz.ntmps46
 go_wp2_with(first|(at_builtin;refine ab.sy (ab.int .u8) w0.heap.size rfl (.tmp 8) (.tmp 10) 22 5 (.int .u8 0) 1 rfl Tryz.underlying22 n2 rfl (by decide) (by omega) (.slice f.vD st.length f.cs) st c [.int .u8 c] (fun k=>k≠g) (fun _=>False) rfl iW rfl (fun _ ad=>ad.elim) ?aF ?aO dz.1.bu ?aS ?aL ?_;(case aF=>exact(fun k ad e=>by have:=dz.1.lt;omega));(case aO=>exact dz.1.hS);(case aS=>exact dz.1.bu.size);(case aL=>exact pB);intro v0 w1 aY U aw ea;obtain⟨ao,m0,aZ⟩:=ab.pU aY;generalize jf:List.length _=bn at aZ;subst aZ;have hT:=I aY;have l7:=I U;have qb:=I aw;have jc:=I jf;have z0:=fy (qF dz.1.ft aw (ab.pV dz.1.hS dz.1.ft (by decide))) 8;have c4:=(bg (qF dz.1.ft aw (ab.pV dz.1.hS dz.1.ft (by decide))) 8).trans rfl;clear aY U aw ea jf))
 first|go_end0|refine bodyPost_ret (results_none rfl _ _ _) rfl ?_
 refine⟨rfl,⟨_,dz.1.grow hT.1 jc.1.symm (by rw[List.length_append,List.length_cons,List.length_nil];exact fh.1) l7.1 qb.1⟩,?_,fun b cells t U aU aw=>?_,l7.1.setCell dz.1.ge _⟩
 ·have:=qb.1.size
  simpa [World.setCell]using this
 ·exact(Below.heap_setCell _ ⟨g,8,none⟩ _ b aw).trans (qF U qb.1 (ab.pV dz.1.hS U (Ne.symm aU)))
theorem aaQ(h:dK w0 w g B s st lc af)(an:st≠[]):
 Calls Tryz.prog 49 #[.pointer (some ⟨g,0,none⟩)] w fun e w'=>e=.returned (.tuple #[])∧c6 w0 w w' g B s st.dropLast lc af:=by
 obtain⟨f,aA⟩:=h;have dz:=I aA;have eu:0<st.length:=List.length_pos_iff.mpr an;have fh:=I eu;obtain⟨pN,_⟩:=(ab.pt aA.hS).2;have hw:wrap64 ((st.length:Int)-1)=((st.length-1:Nat):Int):=by have:=aA.sl;unfold wrap64;omega
 have hcut:=Oo (P:=Tryz.prog) 22 5 .i64 Tryz.underlying22 (i:=(Tryz.prog.info? 5).getD default) aM f.vD st.length f.cs ((st.length-1:Nat):Int) (by omega) (by omega) pN;rw[Int.toNat_natCast]at hcut;have aD:=(dz.1.below (Below.drew (Below.refl _ _))).c3;have bx:=(dz.1.below (Below.drew (Below.refl _ _))).z 8;clear aA an eu pN;go_enter Tryz.func49,Tryz.ntmps49
 go_wp2_with fail
 refine fX (n:=15) (S:=fun w'=>w'.cell? ⟨g,8,none⟩=some (.slice f.vD st.length f.cs)) (ds:=[14]) #[false,false,false,false,false,false,false,false,false,false,false,false,false,false,false] aM rfl rfl ((dz.1.below (Below.drew (Below.refl _ _))).c3) (fun hHeld=>?_);refine ax 0 2 ?_;refine ax 1 3 ?_;refine ax 2 4 ?_;refine ax 3 5 ?_;refine ax 5 7 ?_;refine ax 6 8 ?_;refine ax 7 9 ?_;refine eb 4 6 ?_;refine eb 8 10 ?_;refine ax 9 11 ?_;refine ax 10 12 ?_;refine ax 11 13 ?_;refine ax 12 14 ?_;refine ax 13 15 ?_;refine pZ 14 fun K aH=>?_;refine yt ?_;clear aH K
 first|go_end0|refine bodyPost_end (results_none rfl _ _ _) rfl ?_
 refine⟨rfl,⟨f,?_⟩,(cI.refl _ _ _).zs _ _⟩;rw[List.dropLast_eq_take];exact(dz.1.pop (st.length-1) (by omega)).below (kH (Below.refl _ _))
def afL(w0 w:World)(g:Nat)(B s st:List Int)(lc af kind xf:Int)(k:Nat)(e:Ending)(w':World):Prop:=
 ∃A c,e=.returned (.agg #[.int .u8 kind,.int .u8 xf,.int .u8 0,.int .i64 ((B.length-s.length:Nat):Int),.slice A k c,.string ⟨#[]⟩])∧dZ w0 A k c (s.take k)∧c6 w0 w w' g B (bc false (s.drop k)) st lc af
theorem nd(h:dK w0 w g B s st lc af)(kind xf:Int)(k:Nat)(ad:k≤s.length):
 Calls Tryz.prog 44 #[.pointer (some ⟨g,0,none⟩),.int .u8 kind,.int .i64 (k:Int),.int .u8 xf] w (afL w0 w g B s st lc af kind xf k):=by
 have bG:=h.bytes;have cb:=h.len;have cf:=I h;have bS:=I (And.intro h.ge h.lt);obtain⟨f,aA⟩:=h;have dz:=I aA;have aV:=I (And.intro ad cb);obtain⟨hcut,nL⟩:=aA.gm.pI k ad;refine S1 ?_;intro x3 pos oE eu;have s6:=I oE;clear aA bG cb ad nL oE;go_enter Tryz.func44,Tryz.ntmps44
 go_wp2_with fail
 refine fX (n:=22) (S:=fun w'=>w'.cell? ⟨g,9,none⟩=some (.slice f.xd B.length f.co)∧w'.cell? ⟨g,10,none⟩=some (.slice f.gX s.length f.ci)) (ds:=[21]) #[false,false,false,false,false,false,false,false,false,false,false,false,false,false,false,false,false,false,false,false,false,false] aM rfl rfl ⟨(dz.1.below (Below.drew (da (Below.refl _ _) _))).c4,(dz.1.below (Below.drew (da (Below.refl _ _) _))).c5⟩ (fun hHeld=>?_);refine ax 0 10 ?_;refine ax 1 11 ?_;refine ax 2 12 ?_;refine ax 3 13 ?_;refine ax 4 14 ?_;refine ax 7 17 ?_;refine ax 8 18 ?_;refine ax 9 19 ?_;refine ax 13 23 ?_;refine ax 14 24 ?_;refine ax 15 25 ?_;refine ax 17 27 ?_;refine eb 5 15 ?_;refine ax 6 16 ?_;refine eb 10 20 ?_;refine ax 11 21 ?_;refine ax 12 22 ?_;refine eb 16 26 ?_;refine ax 18 28 ?_;refine ax 19 29 ?_;refine gb 20 9 fun K aH=>?_;refine px ?_;refine aH.out _ _ ⟨(dz.1.below (da (Below.drew (da (Below.refl _ _) _)) _)).c4,(dz.1.below (da (Below.drew (da (Below.refl _ _) _)) _)).c5⟩ (fun hHeld=>?_);clear aH K;refine ik ?_;refine pZ 21 fun K aH=>?_;refine yt ?_;clear aH K;have bz:=I (gl (iU (gV w (.cells #[.int .u8 0,.int .u8 0,.int .u8 0,.int .i64 0,.slice none 0 0,.string ⟨#[]⟩] 47)) (.cells #[.int .u8 kind,.int .u8 xf,.int .u8 0,.int .i64 (pos:Int),.slice f.gX k f.ci,.string ⟨#[]⟩] 47)))
 have im:=I (gl (gV (w.alloc (.cells #[.int .u8 0,.int .u8 0,.int .u8 0,.int .i64 0,.slice none 0 0,.string ⟨#[]⟩] 47)) (.cells #[.int .u8 kind,.int .u8 xf,.int .u8 0,.int .i64 (pos:Int),.slice f.gX k f.ci,.string ⟨#[]⟩] 47)));have aG:(w.alloc (.cells #[.int .u8 0,.int .u8 0,.int .u8 0,.int .i64 0,.slice none 0 0,.string ⟨#[]⟩] 47)).heap.size=w.heap.size+1:=Array.size_push ..;rw[aG]at im;clear aG
 go_wp2_with(first|(go_at_call 43;refine(Ab (cf.1.below (kH (da (da (Below.refl _ _) _) _))) k aV.1.1).mono ?_;rintro bk w1 ⟨rfl,h0⟩;have dO:=I (c6.after (cI.kn (kH (da (da (Below.refl _ _) _) _)) g none) h0);have bj:=I (h0.k.ft bz.1 cA (by simp));have hE:=h0.k.ft im.1 cA (by simp);obtain⟨c0,c1,c2,c3,c4,c5⟩:=kZ hE;refine FL ?_;intro z0 cp z2 z3 z4 z5;obtain⟨d0,d1,d2,d3,d4,d5⟩:=kZ bj.1;clear hE h0))
 have lY:vE w1 w.heap.size 47:=⟨_,bj.1⟩;refine bodyPost_ret (v:=.agg #[.int .u8 kind,.int .u8 xf,.int .u8 0,.int .i64 (pos:Int),.slice f.gX k f.ci,.string ⟨#[]⟩]) (by simp[results,Tryz.results44,go_sem,d0,d1,d2,d3,d4,d5,z0,cp,z2,z3,z4,z5]) rfl ⟨f.gX,f.ci,by rw[s6.1],x3.1,?_⟩;have bL:w.heap.size≠g:=by have:=bS.1;omega
 have hR:w0.heap.size≤w.heap.size:=by have:=bS.1;omega
 have h0:=dO.1.jF lY (by decide) bL hR (Nat.le_refl _) 0 (.int .u8 kind);have h1:=h0.jF (lY.set 0 _) (by decide) bL hR (Nat.le_refl _) 1 (.int .u8 xf);have h2:=h1.jF ((lY.set 0 _).set 1 _) (by decide) bL hR (Nat.le_refl _) 2 (.int .u8 0);have h3:=h2.jF (((lY.set 0 _).set 1 _).set 2 _) (by decide) bL hR (Nat.le_refl _) 3 (.int .i64 (pos:Int));have h4:=h3.jF ((((lY.set 0 _).set 1 _).set 2 _).set 3 _) (by decide) bL hR (Nat.le_refl _) 4 (.slice f.gX k f.ci);exact h4.jF (((((lY.set 0 _).set 1 _).set 2 _).set 3 _).set 4 _) (by decide) bL hR (Nat.le_refl _) 5 (.string ⟨#[]⟩)
end
theorem VR(neg:Bool)(s:List Int):hs neg s≤s.length:=by
 unfold hs pO;have h0:=G2 (s.drop 1);have h1:=G2 s;rw[List.length_drop]at h0;by_cases U:mI neg s=true
 ·rw[if_pos U,if_pos U]
  have:0<s.length:=by
   cases s with
   |nil=>simp[mI,a8]at U
   |cons a b=>simp
  split
  ·split<;>omega
  ·omega
 ·rw[if_neg U,if_neg U];split
  ·split<;>omega
  ·omega
def eA:Value:=.agg #[.int .u8 0,.int .u8 0,.int .u8 0,.int .i64 0,.slice none 0 0,.string ⟨#[]⟩]
section
variable {w0 w w1:World} {g b:Nat} {B s st:List Int} {lc af:Int}
theorem c6.gg(h:c6 w0 w w1 g B s st lc af)(lY:vE w1 b 47)(bL:b≠g)(hR:w0.heap.size≤b)(hw:w.heap.size≤b)(v0 v1 v2 v3 v4 v5:Value):
 c6 w0 w ((((((w1.setCell ⟨b,0,none⟩ v0).setCell ⟨b,1,none⟩ v1).setCell ⟨b,2,none⟩ v2).setCell ⟨b,3,none⟩ v3).setCell ⟨b,4,none⟩ v4).setCell ⟨b,5,none⟩ v5) g B s st lc af:=by
 have h0:=h.jF lY (by decide) bL hR hw 0 v0;have h1:=h0.jF (lY.set 0 _) (by decide) bL hR hw 1 v1;have h2:=h1.jF ((lY.set 0 _).set 1 _) (by decide) bL hR hw 2 v2;have h3:=h2.jF (((lY.set 0 _).set 1 _).set 2 _) (by decide) bL hR hw 3 v3;have h4:=h3.jF ((((lY.set 0 _).set 1 _).set 2 _).set 3 _) (by decide) bL hR hw 4 v4;exact h4.jF (((((lY.set 0 _).set 1 _).set 2 _).set 3 _).set 4 _) (by decide) bL hR hw 5 v5
def afM(w0 w:World)(g:Nat)(B s st:List Int)(lc af:Int)(e:Ending)(w':World):Prop:=
 (hs true s=0→e=.returned (.tuple #[eA,.bool false])∧c6 w0 w w' g B s st lc af)∧
 (0<hs true s→∃A c,e=.returned (.tuple #[.agg #[.int .u8 3,.int .u8 3,.int .u8 0,.int .i64 ((B.length-s.length:Nat):Int),.slice A (hs true s) c,.string ⟨#[]⟩],.bool true])∧dZ w0 A (hs true s) c (s.take (hs true s))∧c6 w0 w w' g B (bc false (s.drop (hs true s))) st lc af)
theorem MK(h:dK w0 w g B s st lc af):
 Calls Tryz.prog 66 #[.pointer (some ⟨g,0,none⟩)] w (afM w0 w g B s st lc af):=by
 have cb:=h.len;have cf:=I h;have bS:=I (And.intro h.ge h.lt);have fh:=I (And.intro (VR true s) cb);have gQ:=h.below (da (Below.refl _ _) (.cells #[.int .u8 0,.int .u8 0,.int .u8 0,.int .i64 0,.slice none 0 0,.string ⟨#[]⟩] 47));obtain⟨f,aA⟩:=gQ;have c5:=aA.c5;have bU:=I (aA.gm.below aA.bu);refine KN ?_;intro bz;obtain⟨k,ad⟩:∃k,k=hs true s:=⟨_,rfl⟩;have aV:=I ad;clear aA h cb;by_cases aG:k=0
 ·have q:((k:Int)==0)=true:=beq_iff_eq.mpr (by omega);have ct:=I aG;clear ad aG;go_enter Tryz.func66,Tryz.ntmps66
  go_wp2_with(first|(go_at_call 60;refine(Bh true bU.1 pB).mono ?_;rintro bk w1 ⟨rfl,⟨dh,rfl⟩⟩;rw[←aV.1]))
  refine bodyPost_ret (v:=.tuple #[eA,.bool false]) (by simp[results,Tryz.results66,go_sem,eA]) rfl ⟨fun _=>⟨rfl,?_⟩,fun h=>absurd h (by have:=aV.1;have:=ct.1;omega)⟩;exact c6.gg ((cf.1.here.below (da (Below.refl _ _) _)).drewN _) ⟨_,zt bz.1 _⟩ cA cA (Nat.le_refl _) _ _ _ _ _ _
 ·have q:((k:Int)==0)=false:=beq_eq_false_iff_ne.mpr (by omega);have ct:=I aG;clear ad aG;go_enter Tryz.func66,Tryz.ntmps66
  go_wp2_with(first|(go_at_call 60;refine(Bh true bU.1 pB).mono ?_;rintro bk w1 ⟨rfl,⟨dh,rfl⟩⟩;rw[←aV.1];have ake:=I (show dh=dh from rfl))|(go_at_call 44;refine(nd ((cf.1.below (da (Below.refl _ _) _)).drewN _) 3 3 k (by have:=aV.1;have:=fh.1;omega)).mono ?_;rintro bk w1 ⟨ao,c9,rfl,bO,h0⟩;have bl:=I bO;have dO:=I h0;have bj:=I (h0.k.ft (zt bz.1 _) cA (fun e=>nomatch e));refine FL ?_;intro z0 cp z2 z3 z4 z5;obtain⟨d0,d1,d2,d3,d4,d5⟩:=kZ bj.1;clear bO h0))
  refine bodyPost_ret (v:=.tuple #[.agg #[.int .u8 3,.int .u8 3,.int .u8 0,.int .i64 ((B.length-s.length:Nat):Int),.slice ao k c9,.string ⟨#[]⟩],.bool true]) (by simp[results,Tryz.results66,go_sem,d0,d1,d2,d3,d4,d5,z0,cp,z2,z3,z4,z5]) rfl ⟨fun h=>absurd h (by have:=aV.1;have:=ct.1;omega),fun _=>⟨ao,c9,by rw[←aV.1],by rw[←aV.1];exact bl.1,?_⟩⟩;rw[←aV.1];exact c6.gg (c6.after (cI.kn (jI (da (Below.refl _ _) _) _) g none) dO.1) ⟨_,bj.1⟩ cA cA (Nat.le_refl _) _ _ _ _ _ _
end
abbrev il(ys:List Int):List Value:=ny (Value.int .u8) ys
theorem uQ(ys:List Int):(il ys).length=ys.length:=by simp[il,ny]
theorem FM(xs ys:List Int):il (xs++ys)=il xs++il ys:=by simp[il,ny]
theorem Hz(ys:List Int):∀u∈il ys,u.oneCell'=true:=by
 intro u hu;simp only[il,ny,List.mem_map]at hu;obtain⟨x,_,rfl⟩:=hu;rfl
theorem zb{w:World}{a:Addr}{m:Nat}{ys:List Int}(h:ab.C (ab.int .u8) w (some a) m ys):∀j u,(il ys)[j]?=some u→w.cell? (a.add j)=some u:=by
 intro j u hu;have an:=ab.IA h
 have bq:j<m:=by
  have:=(List.getElem?_eq_some_iff.mp hu).1;rw[uQ]at this;omega
 obtain⟨cc,e,ai⟩:=ab.iV h (j:Int) (by omega) (by omega);cases e;rw[Int.toNat_natCast]at ai;rw[ai];simp only[il,ny,List.getElem?_map]at hu;rw[List.getElem?_eq_getElem (by omega)]at hu;simp only[Option.map_some,Option.some.injEq]at hu;rw[←hu];congr 2;unfold rd;rw[Int.toNat_natCast,List.getD_eq_getElem?_getD,List.getElem?_eq_getElem (by omega)];rfl
def uD(w0 w:World)(v:Value)(n:Nat):Prop:=
 (∃A xs,v=.slice A n n∧xs.length=n∧ab.C (ab.int .u8) w A n xs)∨∃ys,ys.length=n∧ab.R (ab.int .u8) 5 w w0.heap.size (fun _=>True) v ys
section
variable {w0 w w1:World} {v:Value} {n:Nat}
theorem uD.below(h:uD w0 w v n)(U:Below w.heap.size w w1):uD w0 w1 v n:=by
 rcases h with⟨A,xs,h1,h2,h3⟩|⟨ys,h1,h2⟩
 ·exact .inl ⟨A,xs,h1,h2,ab.ko h3 U⟩
 ·exact .inr ⟨ys,h1,ab.nZ h2 U⟩
theorem uD.text(h:uD w0 w v n):∃str,(convert 22 9 v).run Tryz.prog w=.ok (.string str) w:=by
 rcases h with⟨A,xs,rfl,h2,h3⟩|⟨ys,h1,h2⟩
 ·exact⟨_,ab.rK (P:=Tryz.prog) Tryz.underlying22 Tryz.underlying5 Tryz.underlying9 h3⟩
 ·obtain⟨A,c,rfl,ai,hC⟩:=ab.xu h2;exact⟨_,ab.rK (P:=Tryz.prog) Tryz.underlying22 Tryz.underlying5 Tryz.underlying9 hC⟩
theorem DY{row:Option Nat}(U:Below w0.heap.size w0 w)(aw:w.grownBy w1 row)(au:∀k,row=some k→w0.heap.size≤k):Below w0.heap.size w0 w1:=
 ⟨aw.os.trans U.os,aw.tape.trans U.tape,aw.output.trans U.output,Nat.le_trans U.size aw.size,fun k ad=>(aw.block k (Nat.lt_of_lt_of_le ad U.size) (fun e=>by have:=au k e.symm;omega)).trans (U.block k ad)⟩
theorem xg:∃i,Tryz.prog.info? 5=some i∧i.zero=some (.int .u8 0)∧i.size=1∧i.bytes=1:=by
 have h:=n2;obtain⟨i,h0,h1⟩:=Option.map_eq_some_iff.1 h;simp only[Prod.mk.injEq]at h1;exact⟨i,h0,h1.1,h1.2.1,h1.2.2⟩
theorem afN{A:Option Addr}{xs ys:List Int}{m:Nat}(aY:ab.C (ab.int .u8) w A n xs)(aq:xs.length=n)(hm:ys.length=m)(dV:0<m)(an:n+m≤1000000)(U:Below w0.heap.size w0 w){tx ty:TypeId}{x:Value}(ak:Src Tryz.prog 1 tx x m (il ys) w):
 ∃v1 w1,(Builtin.append_ #[22,tx] ty #[.slice A n n,x]).run Tryz.prog w=.ok v1 w1∧uD w0 w1 v1 (n+m)∧Below w0.heap.size w0 w1:=by
 obtain⟨i,hi,aG,dd,bG⟩:=xg
 have hold:(Builtin.firstCells i.size n (.slice A n n)).run Tryz.prog w.drew=.ok (il xs).toArray w.drew:=by
  rw[dd];cases A with
  |none=>
   exact QI
  |some a=>exact run_firstCells_some _ _ _ _ _ _ _ Cg (fun j u hu=>zb aY j u hu)
 refine S9 ?_;intro Gu q4 au;refine⟨_,_,au,.inr ⟨xs++ys,Ca,?_⟩,?_⟩
 ·exact Rl
 ·exact PW
theorem afO(h:uD w0 w v n)(U:Below w0.heap.size w0 w)(s:ByteArray)(bs:0<s.size)(an:n+s.size≤1000000)(ty:TypeId):
 ∃v1 w1,(Builtin.append_ #[22,9] ty #[v,.string s]).run Tryz.prog w=.ok v1 w1∧uD w0 w1 v1 (n+s.size)∧Below w0.heap.size w0 w1:=by
 refine TB ?_;intro ys pS zW;rcases h with⟨A,xs,rfl,h2,h3⟩|⟨jd,h1,h2⟩
 ·have DZ:=Src.ofString (P:=Tryz.prog) (tx:=9) w Tryz.underlying9 s;have ML:byteCells s=il ys:=by rw[←pS];rfl
  rw[ML]at DZ;exact afN h3 h2 zW bs an U DZ
 ·obtain⟨i,hi,aG,dd,bG⟩:=xg;refine Tj ?_;intro v1 w1 au aY aw iv;refine⟨v1,w1,au,.inr ⟨jd++ys,Ca,ab.BG (h1:=fun _=>rfl) ?_ (fun _ _=>trivial)⟩,DY U aw (fun k ad=>ab.xy h2 k ad)⟩;exact RQ
end
section
variable {P:Program} {w w0:World} {ops:Array Oper} {rest:List Oper} {o:Oper} {a:Act} {Q:Exit→Act→World→Prop}
theorem MM(pq:o.guard=none)(s x:Operand)(t tx:TypeId)(aY:o.op=.call {callee:=.builtin .append,args:=#[s,x],argTypes:=#[t,tx]}){v xv:Value}(aZ:a.eval s=v)(ae:a.eval x=xv){R:Value→World→Prop}(k8:∃v1 w1,(Builtin.append_ #[t,tx] o.type #[v,xv]).run P w=.ok v1 w1∧R v1 w1)(h:∀v1 w1,R v1 w1→wpList P ops Q rest (a.put o.dst v1) w1):wpList P ops Q (o::rest) a w:=by
 refine wpList_plain pq fun K Iv=>?_;obtain⟨afP,w',au,bH⟩:=k8;unfold Oper.wp;simp[execOp,aY,resolve,invoke,builtin,aZ,ae,au,Result.andThen];exact Iv _ _ (h afP w' bH)
end
section
variable (xs:List Int) (bG:∀x∈xs,0≤x∧x<256) (an:xs.length≤1000000)
include xs bG an
theorem D0(j:Nat):((strOfNums xs).get! j).toNat=(a6 xs j).toNat:=by
 have aU:=Dl xs bG an;by_cases bq:j<xs.length
 ·have:=aU.at_ j bq;have ak:=aU.size;unfold bB rd at this;simp only[Int.toNat_natCast]at this;rw[dif_pos (by omega)]at this;unfold a6
  have aD:(strOfNums xs).get! j=(strOfNums xs)[j]'(by omega):=by
   unfold ByteArray.get!;exact getElem!_pos _ _ _
  rw[aD];omega
 ·have ak:=aU.size
  have aD:(strOfNums xs).get! j=default:=by
   unfold ByteArray.get!;simp only[Array.getElem!_eq_getD,Array.getD_eq_getD_getElem?];rw[Array.getElem?_eq_none (by have:(strOfNums xs).data.size=(strOfNums xs).size:=rfl;omega)];rfl
  rw[aD];unfold a6;rw[List.getD_eq_getElem?_getD,List.getElem?_eq_none (by omega)];rfl
theorem afQ(h0:0<xs.length):Lib.decodeGo (strOfNums xs)=ha xs:=by
 have ak:=(Dl xs bG an).size;have aG:¬(strOfNums xs).size=0:=by omega
 unfold ha;simp only[Lib.decodeGo,aG,if_false];rw[Lib.decode_at,Nat.sub_zero,Nat.zero_add,Nat.zero_add,Nat.zero_add,ak,D0 xs bG an,D0 xs bG an,D0 xs bG an,D0 xs bG an]
end
theorem Ky{w:World}{A:Option Addr}{n c:Nat}{xs:List Int}(h:dZ w A n c xs)(cV:Lib.Utf8Tabs 4 5 w)(bG:∀x∈xs,0≤x∧x<256)(aq:n≤100000)(h0:0<n):
 Calls Tryz.prog 86 #[.slice A n c] w fun e w'=>e=.returned (.tuple #[.int .i32 ((ha xs).1:Nat),.int .i64 ((ha xs).2:Nat)])∧Below w.heap.size w w':=by
 obtain⟨b,o,rfl,_⟩:=h.cell 0 h0;have ev:=h.dN;have ak:=(Dl xs bG (by omega)).size;have aG:(strOfNums xs).size=n:=by omega
 rw[←afQ xs bG (by omega) (by omega),←aG];refine Tryz.utf8_DecodeRune (strOfNums xs) b o c w cV (fun j bq=>?_);obtain⟨qD,o',e,ai⟩:=h.cell j (by omega);simp only[Option.some.injEq,Addr.mk.injEq,and_true]at e;obtain⟨rfl,rfl⟩:=e;rw[ai,D0 xs bG (by omega)];congr 2;have ae:rd xs (j:Int)=a6 xs j:=by unfold rd a6;rw[Int.toNat_natCast]
 rw[ae]
 have U:0≤a6 xs j:=by
  unfold a6;rw[List.getD_eq_getElem?_getD,List.getElem?_eq_getElem (by omega)];exact(bG _ (List.getElem_mem _)).1
 omega
theorem KB(xs:List Int)(h:0<xs.length):1≤(ha xs).2∧(ha xs).2≤xs.length∧(ha xs).1≤1114111:=by
 unfold ha Lib.decodeN
 repeat' split
 all_goals(refine⟨?_,?_,?_⟩<;>simp only<;>omega)
theorem _root_.Go.Proofs.YtmpeadgiclfapaaGreatDoor.gi.dZ.full{W:World}{A:Option Addr}{n c:Nat}{xs:List Int}(h:dZ W A n c xs)(k:Nat)(ad:k≤n):
 (∀aQ:World,(Instr.slice 22 (.slice A n c) none (some (.int .i64 (k:Int))) (some (.int .i64 (k:Int)))).run Tryz.prog aQ=.ok (.slice A k k) aQ)∧dZ W A k k (xs.take k):=by
 refine⟨fun aQ=>?_,(h.pI k ad).2.C,(h.pI k ad).2.dN,Nat.le_refl _⟩;have:=h.Hv;obtain⟨i,hi,_,dd,_⟩:=xg;have kW:Tryz.prog.elem 22=5:=by simp[Program.elem,Tryz.underlying22]
 have hu:Tryz.prog.underlying 22=some (.slice (Tryz.prog.elem 22)):=by rw[kW];exact Tryz.underlying22
 have eh:(A.map fun x=>x.add 0)=A:=by cases A<;>simp[Addr.add]
 rw[run_slice_hm aQ 22 A n c hu .i64 .i64 (k:Int) (k:Int) (by omega) (by omega) (by omega),kW];simp[sizeOf,typeInfo,hi,sliced,Result.andThen,eh]
def afR(w:World)(e:Ending)(w':World):Prop:=(∃A n c,e=.returned (.slice A n c))∧Below w.heap.size w w'
theorem VT{w:World}{A:Option Addr}{n c:Nat}{xs:List Int}(h:dZ w A n c xs)(cV:Lib.Utf8Tabs 4 5 w)(bG:∀x∈xs,0≤x∧x<256)(aq:n≤100000):
 Calls Tryz.prog 64 #[.slice A n c] w (afR w):=by
 have bU:=I h;have et:=I cV;have fq:=I bG
 have bV:=I aq;clear h cV bG aq;go_enter Tryz.func64,Tryz.ntmps64
 go_wp2_with fail
 go_loopg [3] n (fun afS v0 w'=>∃(i:Nat),v0=.int .i64 (i:Int)∧aN (Below w.heap.size w w'∧i≤n∧afS=n-i))
 case atStart=>exact⟨0,rfl,Below.refl _ _,Nat.zero_le _,rfl⟩
 case round=>
  obtain⟨i,rfl,fA⟩:=hrel;by_cases hi:i<n
  ·have fp:=I hi;have m0:decide ((i:Int)<(n:Int))=true:=decide_eq_true (by omega);have m1:decide (i<n)=true:=decide_eq_true hi;have m2:=eq_true (show(i:Int)<(n:Int)by omega);have m3:=eq_true hi;clear hi;by_cases h0:32<i
   ·have q:=decide_eq_true (show(i:Int)>32 by omega);have a1:=eq_true (show(32:Int)<(i:Int)by omega);have bQ:=eq_true h0;obtain⟨aA,VU⟩:=bU.1.full i (by have:=fp.1;omega);have VV:=I VU;clear h0 VU
    go_wp2_with(first|(at_builtin;refine MM rfl (.tmp 15) _ 22 9 rfl rfl rfl (afO (w0:=w) (.inl ⟨A,xs.take i,rfl,VV.1.dN.symm,(VV.1.below fA.1.1).C⟩) fA.1.1 ⟨#[226,128,166]⟩ (by decide) (by have:=bV.1;have:=fp.1;show i+3≤_;omega) 22) ?_;rintro v1 w1 ⟨mA,mB⟩;have J:=I mA;have GQ:=I mB;clear mA mB))
    go_ret;refine⟨?_,GQ.1⟩;rcases J.1 with⟨ao,_,rfl,_⟩|⟨ys,_,ew⟩
    ·exact⟨_,_,_,rfl⟩
    ·obtain⟨ao,c1,rfl⟩:=ab.pU ew;exact⟨_,_,_,rfl⟩
   ·have q:=decide_eq_false (show¬(i:Int)>32 by omega);have a1:=eq_false (show¬(32:Int)<(i:Int)by omega);have bQ:=eq_false h0;obtain⟨ao,c1,bs,bO⟩:=bU.1.from_ i (by have:=fp.1;omega);have bl:=I bO;have kz:=I (show∀x∈xs.drop i,0≤x∧x<256 from fun x ae=>fq.1 x (List.mem_of_mem_drop ae));have hd:=KB (xs.drop i) (by rw[←bO.dN];have:=fp.1;omega);rw[←bO.dN]at hd;obtain⟨r,au⟩:∃r,r=(ha (xs.drop i)).1:=⟨_,rfl⟩;obtain⟨z,aG⟩:∃z,z=(ha (xs.drop i)).2:=⟨_,rfl⟩;rw[←au,←aG]at hd;have hI:=I au;have ct:=I aG;have cf:=I hd;obtain⟨k,ad⟩:∃k,k=n-i:=⟨_,rfl⟩;rw[←ad]at bs bl;have aV:=I ad;have hw:wrap64 ((i:Int)+(z:Int))=((i+z:Nat):Int):=by have:=bV.1;have:=fp.1;unfold wrap64;omega
    have MN:∀j,j≤n→(∀aQ:World,(Instr.slice 22 (.slice A n c) none (some (.int .i64 (j:Int))) (some (.int .i64 (j:Int)))).run Tryz.prog aQ=.ok (.slice A j j) aQ):=fun j bq=>(bU.1.full j bq).1;have gQ:=MN i (by have:=fp.1;omega);have zC:=MN z (by omega);clear h0 bO hd au aG ad MN;have fin:∀(b:Bool),(b=true→128<r∨(r≤128∧r≠47∧iH (r:Int)=false))→(b=false→r≤128∧(r=47∨iH (r:Int)=true))→True:=fun _ _ _=>trivial;clear fin;by_cases h0:128<r
    ·have t1:=decide_eq_true (show(r:Int)>128 by omega);have t0:=eq_true (show(128:Int)<(r:Int)by omega);have t2:=eq_true h0;clear h0;by_cases iJ:i=0
     ·have u0:((i:Int)==0)=true:=beq_iff_eq.mpr (by omega);exact R3
     ·have u0:((i:Int)==0)=false:=beq_eq_false_iff_ne.mpr (by omega);exact R3
    ·have t1:=decide_eq_false (show¬(r:Int)>128 by omega);have t0:=eq_false (show¬(128:Int)<(r:Int)by omega);have t2:=eq_false h0;have cK:=I h0;clear h0;by_cases h0:r=47
     ·have u0:((r:Int)==47)=true:=beq_iff_eq.mpr (by omega);have u1:((r:Int) !=47)=false:=bne_eq_false_iff_eq.mpr (by omega);clear h0
      go_wp2_with(first|(refine FZ ?_;intro w1 aC bM))
      go_roundg(n-(i+z))
      case measure=>have:=fA.1.2.2;have:=cf.1.1;have:=fp.1;omega
      case rel=>exact⟨i+z,(by first|rfl|exact congrArg _ hw),bM.1,(by have:=cf.1;have:=aV.1;have:=fp.1;omega),rfl⟩
     ·have u0:((r:Int)==47)=false:=beq_eq_false_iff_ne.mpr (by omega);have u1:((r:Int) !=47)=true:=bne_iff_ne.mpr (by omega);have ai:Go.IntKind.wrap .u8 (r:Int)=(r:Int):=by have:=cK.1;simp[Go.IntKind.wrap,Go.IntKind.bits,Go.IntKind.signed];omega
      clear h0;cases aw:iH (r:Int)
      ·by_cases iJ:i=0
       ·have v1:((i:Int)==0)=true:=beq_iff_eq.mpr (by omega);exact R2
       ·have v1:((i:Int)==0)=false:=beq_eq_false_iff_ne.mpr (by omega);exact R2
      ·go_wp2_with(first|(refine FZ ?_;intro w1 aC bM)|(go_at_call 83;refine(xS (r:Int) _).mono ?_;rintro bk bf ⟨rfl,⟨dh,rfl⟩⟩;rw[aw]))
       go_roundg(n-(i+z))
       case measure=>have:=fA.1.2.2;have:=cf.1.1;have:=fp.1;omega
       case rel=>exact⟨i+z,(by first|rfl|exact congrArg _ hw),jI bM.1 _,(by have:=cf.1;have:=aV.1;have:=fp.1;omega),rfl⟩
  ·have m0:decide ((i:Int)<(n:Int))=false:=decide_eq_false (by omega);have m1:decide (i<n)=false:=decide_eq_false hi;have m2:=eq_false (show¬(i:Int)<(n:Int)by omega);have m3:=eq_false hi;clear hi
   go_wp2_with fail
   go_ret;exact⟨⟨_,_,_,rfl⟩,fA.1.1⟩
theorem afT(n:Nat)(aq:n≤100000):∃jd:Array Value,jd.size=n∧∀W:World,(Instr.makeSlice 22 (.int .i64 (n:Int)) (.int .i64 (n:Int))).run Tryz.prog W=.ok (.slice (some ⟨W.heap.size,0,none⟩) n n) (W.alloc (.cells jd 5)):=by
 obtain⟨i,hi,aG,dd,bG⟩:=xg;refine⟨madeCells (Value.int .u8 0).cells (n*1),(by rw[size_madeCells,Nat.mul_one]),fun W=>?_⟩;have au:=run_makeSlice (P:=Tryz.prog) W 22 5 i (.int .u8 0) Tryz.underlying22 hi aG .i64 .i64 (n:Int) (n:Int) (by omega) (by omega) (by rw[dd];omega) (by rw[bG];omega) (by omega);simp only[Int.toNat_natCast]at au;rw[dd]at au;exact au
def afU(w:World)(af:Int)(neg:Bool)(s:List Int)(sz:Nat)(e:Ending)(w':World):Prop:=
 (∃str,e=.returned (.string str)∧(af=0→neg=false→str=strOfNums (s.take sz)))∧Below w.heap.size w w'
theorem HA{w:World}{A:Option Addr}{n c:Nat}{s:List Int}(h:dZ w A n c s)(aq:n≤100000)(af:Int)(neg:Bool)(sz sep:Nat)(h1:1≤sz)(h2:sz≤n)(h3:neg=true→sep+2≤sz∧(af=4→rd s ((sz:Int)-1)=102∨rd s ((sz:Int)-1)=70→sep+3≤sz)):
 Calls Tryz.prog 62 #[.agg #[.int .u8 af,.bool neg,.int .i64 (sz:Int),.int .i64 (sep:Int)],.slice A n c] w (afU w af neg s sz):=by
 have bU:=I h;have bV:=I (And.intro aq (And.intro h1 h2));have dW:=I h3;have jM:Below w.heap.size w (w.alloc (.cells #[.int .u8 af,.bool neg,.int .i64 (sz:Int),.int .i64 (sep:Int)] 75)):=da (Below.refl _ _) _;have az:=gV w (.cells #[.int .u8 af,.bool neg,.int .i64 (sz:Int),.int .i64 (sep:Int)] 75);go_enter Tryz.func62,Tryz.ntmps62
 go_upto_region 1 with fail
 generalize w.alloc (.cells #[.int .u8 af,.bool neg,.int .i64 (sz:Int),.int .i64 (sep:Int)] 75)=cJ at jM az⊢;have bl:=I (h.below jM);obtain⟨b,o,rfl,al⟩:=bl.1.cell 0 (by omega);rw[Nat.add_zero]at al;obtain⟨qD,o',e,MO⟩:=bl.1.cell (sz-1) (by omega);simp only[Option.some.injEq,Addr.mk.injEq,and_true]at e;obtain⟨rfl,rfl⟩:=e;obtain⟨l,an⟩:∃l,l=sz-1:=⟨_,rfl⟩;rw[←an]at MO;have hw:wrap64 ((sz:Int)-1)=(l:Int):=by unfold wrap64;omega
 obtain⟨y,aX⟩:∃y,y=rd s (l:Int):=⟨_,rfl⟩;rw[←aX]at MO;have fh:=I an;have lL:=I (show y=rd s ((sz:Int)-1)by rw[aX,an];congr 1;omega);have cC:=eq_true (show l<n by omega);have gA:=eq_true (show(l:Int)<(n:Int)by omega);have aT:=(bg az 0).trans rfl;have bh:=(bg az 1).trans rfl;have bA:=(bg az 2).trans rfl;have y3:=(bg az 3).trans rfl;have aC:=I jM;have zc:=I az;clear h aq h1 h2 h3 an aX jM az
 go_upto_region 3 with fail
 go_cut [30] (fun v0 w'=>v0=.bool (decide (af=4∧(y=102∨y=70)))∧cJ=w')
 case first=>
  by_cases ad:af=4
  ·have cd:(af==4)=true:=beq_iff_eq.mpr ad;by_cases h1:y=102
   ·have aD:(y==102)=true:=beq_iff_eq.mpr h1;have et:=I (show decide (af=4∧(y=102∨y=70))=true from decide_eq_true ⟨ad,.inl h1⟩);clear ad h1;exact FE
   ·have aD:(y==102)=false:=beq_eq_false_iff_ne.mpr h1;by_cases h2:y=70
    ·have aD:(y==70)=true:=beq_iff_eq.mpr h2;have et:=I (show decide (af=4∧(y=102∨y=70))=true from decide_eq_true ⟨ad,.inr h2⟩);clear ad h1 h2;exact FE
    ·have aD:(y==70)=false:=beq_eq_false_iff_ne.mpr h2;have et:=I (show decide (af=4∧(y=102∨y=70))=false from decide_eq_false (fun h=>h.2.elim h1 h2));clear ad h1 h2;exact FE
  ·have cd:(af==4)=false:=beq_eq_false_iff_ne.mpr ad;have et:=I (show decide (af=4∧(y=102∨y=70))=false from decide_eq_false (fun h=>ad h.1));clear ad;exact FE
 case rest=>
 obtain⟨rfl,rfl⟩:=hcut
 go_upto_if 30 with fail
 go_cut [5] (fun v1 w'=>∃ss:Nat,v1=.int .i64 (ss:Int)∧cJ=w'∧(ss=sz∨(ss=sz-1∧af=4∧(y=102∨y=70))))
 case first=>
  cases U:(decide (af=4∧(y=102∨y=70)))
  ·clear U
   go_wp2_with fail
   go_meet
   case rel=>exact⟨sz,rfl,rfl,.inl rfl⟩
  ·have ct:=I (of_decide_eq_true U);clear U
   go_wp2_with fail
   go_meet
   case rel=>exact⟨l,(by first|rfl|exact congrArg _ hw),rfl,.inr ⟨fh.1,ct.1⟩⟩
 case rest=>
  obtain⟨ss,rfl,rfl,D1⟩:=hcut;have Gd:=I D1;have MP:ss≤n:=by have:=bV.1;omega
  obtain⟨akf,nL⟩:=bl.1.pI ss MP;have hq:∀W,Below cJ.heap.size cJ W→(convert 22 9 (.slice (some ⟨b,o,none⟩) ss c)).run Tryz.prog W=.ok (.string (strOfNums (s.take ss))) W:=fun W fD=>ab.rK (P:=Tryz.prog) Tryz.underlying22 Tryz.underlying5 Tryz.underlying9 (nL.below fD).C;have iB:=hq cJ (Below.refl _ _);have xh:=I MP;clear D1 hq nL MP cC gA MO;by_cases aw:neg=true∧0<sep
  ·obtain⟨rfl,bs⟩:=aw;have h3:=dW.1 rfl;have w7:=I bs;have hf:decide ((sep:Int)>0)=true:=decide_eq_true (by omega);have s1:=eq_true (show(0:Int)<(sep:Int)by omega);have s2:=eq_true bs;obtain⟨m,hm⟩:∃m,m=ss-sep:=⟨_,rfl⟩
   have VW:1≤m∧ss=m+sep:=by
    have h0:=Gd.1;have h4:=lL.1;have h5:=bV.1;rcases h0 with h0|⟨h0,h8,h9⟩
    ·omega
    ·have:=h3.2 h8 (by rw[←h4];exact h9);omega
   have cW:=I VW;have akg:wrap64 ((ss:Int)-(sep:Int))=(m:Int):=by have:=bV.1;have:=xh.1;unfold wrap64;omega
   obtain⟨p0,lB⟩:∃p0,p0=sep+1:=⟨_,rfl⟩;have gP:=I lB;have hX:wrap64 ((sep:Int)+1)=(p0:Int):=by have:=bV.1;have:=xh.1;unfold wrap64;omega
   have q3:IntKind.i64.wrap ((sep:Int)+1)=(p0:Int):=by have:=bV.1;have:=xh.1;rw[IntKind.wrap_i64];omega
   have iw:=I q3;clear q3;obtain⟨jd,VX,akh⟩:=afT m (by have:=bV.1;have:=xh.1;omega);have MQ:=I VX;clear bs h3 hm VW VX lB
   go_upto_region 8 with fail
   have pJ:=gV cJ (.cells jd 5);have HB:Below cJ.heap.size cJ (cJ.alloc (.cells jd 5)):=da (Below.refl _ _) _;have MR:=iU zc.1 (.cells jd 5);generalize cJ.alloc (.cells jd 5)=ay at pJ HB MR⊢;have dP:=I (bl.1.below HB);obtain⟨bt,bR,aD,eg⟩:=dP.1.cell 0 (by have:=bV.1;omega);simp only[Option.some.injEq,Addr.mk.injEq,and_true]at aD;obtain⟨rfl,rfl⟩:=aD;rw[Nat.add_zero]at eg;obtain⟨x,ae⟩:∃x,x=rd s ((0:Nat):Int):=⟨_,rfl⟩;rw[←ae]at eg al;obtain⟨g,aw⟩:∃g,g=cJ.heap.size:=⟨_,rfl⟩;rw[←aw]at pJ;have MS:0<jd.size:=by have:=MQ.1;have:=cW.1;omega
   obtain⟨z0,fH⟩:∃z0,jd[0]?=some z0:=⟨_,Array.getElem?_eq_getElem MS⟩;have cd:=(bg pJ 0).trans fH;have afV:=fy pJ 0;have m0:=eq_true (show 0<m by have:=cW.1;omega);have m1:=eq_true (show(0:Int)<(m:Int)by have:=cW.1;omega);have m2:=eq_true (show 0<n by have:=bV.1;omega);have m3:=eq_true (show(0:Int)<(n:Int)by have:=bV.1;omega);have a1:=(bg MR 3).trans rfl;have cT:=I (And.intro pJ (And.intro HB aw));rw[←aw];clear pJ HB aw ae fH al aT bh bA y3 MR MS
   go_upto_region 9 with fail
   have vF:=Eu cT.1.1 0 (.int .u8 x);have HC:=(cT.1.2.1).setCell (p:=⟨g,0,none⟩) (by show _≤g;rw[cT.1.2.2];exact Nat.le_refl _) (.int .u8 x);have a1:(ay.setCell ⟨g,0,none⟩ (.int .u8 x)).cell? ⟨w.heap.size,3,none⟩=some (.int .i64 (sep:Int)):=(HC.cell (p:=⟨w.heap.size,3,none⟩) (sv zc.1)).trans ((bg zc.1 3).trans rfl);generalize ay.setCell ⟨g,0,none⟩ (.int .u8 x)=eJ at vF HC a1⊢;have vj:=IB (P:=Tryz.prog) 22 5 .i64 Tryz.underlying22 (i:=(Tryz.prog.info? 5).getD default) aM 1 aM (some ⟨g,0,none⟩) m m 1 (by omega) (by have:=cW.1;omega);have G4:=EA (P:=Tryz.prog) 22 5 .i64 .i64 Tryz.underlying22 (i:=(Tryz.prog.info? 5).getD default) aM 1 aM (some ⟨b,o,none⟩) n c (p0:Int) (ss:Int) (by omega) (by have:=cW.1;have:=gP.1;omega) (by have:=xh.1;omega) bl.1.Hv;simp only[Int.toNat_natCast]at G4;obtain⟨ao,hA0⟩:∃ao,ao=(if c=p0 then some ⟨b,o,none⟩else Option.map (fun x:Addr=>x.add (p0*1)) (some ⟨b,o,none⟩)):=⟨_,rfl⟩;rw[←hA0]at G4;obtain⟨m4,dV⟩:∃m4,m4=ss-p0:=⟨_,rfl⟩;rw[←dV]at G4;have kh:=ab.Ez (lo:=p0) (hi:=ss) (c:=c) (by have:=bl.1.C;rw[bl.1.dN]at this;exact this) (by have:=cW.1;have:=gP.1;omega) (by rw[←bl.1.dN];exact xh.1) (by rw[←bl.1.dN];exact bl.1.Hv);have MT:((s.take ss).drop p0).length=m4:=by rw[List.length_drop,List.length_take];have:=xh.1;have:=bl.1.dN;omega
   rw[show(ab.int .u8).sz=1 from rfl,←hA0,MT]at kh;have dj:=I (And.intro kh (And.intro dV MT));clear kh dV MT hA0;have df:=I (And.intro vF HC);clear vF HC eg cd afV m2 m3;have bQ:({heap:=eJ.heap,tape:=eJ.tape,drawn:=eJ.drawn+1,os:=eJ.os,output:=eJ.output}:World).cell? ⟨w.heap.size,3,none⟩=some (.int .i64 (sep:Int)):=a1;have q3:=iw.1
   go_still_tail 8,aM
   clear q3;change wpList _ _ _ _ _ eJ.drew;have jf:(jd.setIfInBounds 0 (.int .u8 x)).toList.length=m:=by rw[Array.length_toList,Array.size_setIfInBounds];exact MQ.1
   refine wpList_copy_splice rfl (.tmp 51) (.tmp 57) 22 22 rfl 5 Tryz.underlying22 aM (if m=1 then some ⟨g,0,none⟩else some ⟨g,1,none⟩) ao (m-1) (m-1) m4 (c-p0) rfl rfl g 1 (jd.setIfInBounds 0 (.int .u8 x)).toList 5 (by rw[Array.toArray_toList];exact df.1.1) (il ((s.take ss).drop p0)) ?aq ?eu ?hfit (Hz _) cJ.heap.size cJ (df.1.2.trans (kH (Below.refl _ _))) (by rw[cT.1.2.2];exact Nat.le_refl _) ?_
   case aq=>rw[uQ,dj.1.2.2];have h1:=dj.1.2.1;have h2:=cW.1;have h3:=gP.1;have h0:m-1=m4:=(by omega);rw[h0];exact(Nat.min_self _).symm
   case hfit=>rw[uQ,dj.1.2.2,jf];have h1:=dj.1.2.1;have h2:=cW.1;have h3:=gP.1;omega
   case eu=>
    intro hp;rw[uQ,dj.1.2.2]at hp;have h1:=dj.1.2.1;have h2:=cW.1;have h3:=gP.1;refine⟨(by rw[if_neg (by omega)]),?_⟩;have hC:=dj.1.1;obtain⟨cc,e,_⟩:=ab.iV hC 0 (by omega) (by omega);subst e;exact⟨cc,rfl,fun j v aZ=>((df.1.2.trans (kH (Below.refl _ _))).cell (World.block_lt_of_cell? _ _ (zb hC j v aZ))).trans (zb hC j v aZ)⟩
   intro rv vF jM;have MU:=vF.out;clear vF;have hu:((s.take ss).drop p0).length=m4:=dj.1.2.2
   have gr:splice (jd.setIfInBounds 0 (.int .u8 x)).toList 1 (il ((s.take ss).drop p0))=il (x::(s.take ss).drop p0):=by
    have h1:=dj.1.2.1;have h2:=cW.1;have h3:=gP.1;unfold splice;have hd:(jd.setIfInBounds 0 (.int .u8 x)).toList.drop (1+m4)=[]:=List.drop_eq_nil_of_le (by rw[jf];omega);rw[uQ,hu,hd,List.append_nil]
    show _=Value.int .u8 x::il ((s.take ss).drop p0)
    rw[←List.singleton_append];congr 1;have aG:=MQ.1;cases jd with
    |mk l=>
     cases l with
     |nil=>simp at aG;omega
     |cons a r=>rfl
   rw[gr]at MU;have hlen:(x::(s.take ss).drop p0).length=m:=by rw[List.length_cons,hu];have h1:=dj.1.2.1;have h2:=cW.1;have h3:=gP.1;omega
   have kh:ab.C (ab.int .u8) rv (some ⟨g,0,none⟩) m (x::(s.take ss).drop p0):=ab.vO (d:=(0:Int)) ⟨hlen,(by have:=bV.1;have:=xh.1;have:=cW.1;omega),fun _=>⟨_,rfl,fun j bq=>by
    rw[Addr.add_lit,Nat.zero_add,bg MU j];simp only[List.getElem?_toArray,il,ny,List.getElem?_map];rw[List.getElem?_eq_getElem (by omega),List.getD_eq_getElem?_getD,List.getElem?_eq_getElem (by omega)];rfl⟩⟩
   have hq:=ab.rK (P:=Tryz.prog) (c:=m) Tryz.underlying22 Tryz.underlying5 Tryz.underlying9 kh;have bM:=I (dq aC.1 aC.1.size jM);clear jM MU gr hlen kh hu jf;generalize strOfNums (x::(s.take ss).drop p0)=str at hq
   go_wp2_with fail
   all_goals(
    go_ret;exact⟨⟨_,rfl,fun _ h=>by cases h⟩,bM.1⟩)
  ·have D1:∀str,str=strOfNums (s.take ss)→(af=0→neg=false→str=strOfNums (s.take sz)):=by
    rintro str rfl ad _;rcases Gd.1 with h|⟨_,h,_⟩
    ·rw[h]
    ·omega
   have aaf:=I D1;clear D1;cases neg
   ·exact PS
   ·have hf:decide ((sep:Int)>0)=false:=decide_eq_false (fun h=>aw ⟨rfl,(by omega)⟩);have s1:=eq_false (show¬(0:Int)<(sep:Int)from fun h=>aw ⟨rfl,(by omega)⟩);have s2:=eq_false (show¬0<sep from fun h=>aw ⟨rfl,h⟩);exact PS
end fx
