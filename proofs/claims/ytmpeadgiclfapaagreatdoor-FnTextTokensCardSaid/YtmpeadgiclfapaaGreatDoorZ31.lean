/- Part 29 of the proof (Pi1, Ps0, Ps1, Ps2, Tl0, Ow1, Ps3). Conditions: each theorem's own. -/
import Derived.Test.YtmpeadgiclfapaaGreatDoorZ30
set_option linter.all false
set_option maxHeartbeats 0
set_option maxRecDepth 100000
namespace Go.Proofs.YtmpeadgiclfapaaGreatDoor
namespace fx
open RowKit YtmpeadgiclfapaaGreatDoorW.PrintWords YtmpeadgiclfapaaGreatDoorW.PrintLast YtmpeadgiclfapaaGreatDoorW.PrintMore ei cP gJ eI eC gi
def iS(w:World):Prop:=3<w.heap.size∧(∃t v,w.cell? ⟨2,0,none⟩=some (.iface t v))∧(∃t v,w.cell? ⟨3,0,none⟩=some (.iface t v))
theorem iS.below{w w':World}(h:iS w)(U:Below w.heap.size w w'):iS w':=by
 obtain⟨h0,⟨t0,v0,h1⟩,⟨t2,v1,h2⟩⟩:=h;exact⟨Nat.lt_of_lt_of_le h0 U.size,⟨t0,v0,(U.cell (p:=⟨2,0,none⟩) (by show 2<_;omega)).trans h1⟩,⟨t2,v1,(U.cell (p:=⟨3,0,none⟩) (by show 3<_;omega)).trans h2⟩⟩
section
variable {w:World} (cG:iS w) {t:ByteArray} (aU:t.size≤100) (fn:ByteArray) (base Bm:Int)
include cG aU fn base Bm
theorem TC(w':World)(hw:Below w.heap.size w w'):
 Calls Tryz.prog 85 #[.string fn,.string t,.int .i64 base,.int .i64 Bm,.iface 104 (.int .i64 2)] w' fun e nu=>∃n,e=.returned (.iface 109 (.pointer (some ⟨n,0,none⟩)))∧Below w'.heap.size w' nu:=by
 obtain⟨_,⟨t0,v0,h0⟩,_⟩:=cG.below hw;refine(Tryz.strconv_toError_syntax fn t base Bm (.iface t0 v0) w' (by omega) h0 (.inr ⟨t0,v0,rfl⟩)).mono ?_;rintro e nu ⟨n,rfl,_,_,U⟩;exact⟨n,rfl,U⟩
theorem aaT{k:Int}{w':World}(hw:Below w.heap.size w w')(ad:k=1∨k=2):
 Calls Tryz.prog 85 #[.string fn,.string t,.int .i64 base,.int .i64 Bm,.iface 104 (.int .i64 k)] w' fun e nu=>∃n,e=.returned (.iface 109 (.pointer (some ⟨n,0,none⟩)))∧Below w'.heap.size w' nu:=by
 rcases ad with rfl|rfl
 ·obtain⟨_,_,⟨t0,v0,h0⟩⟩:=cG.below hw;refine(Tryz.strconv_toError_range fn t base Bm (.iface t0 v0) w' (by omega) h0 (.inr ⟨t0,v0,rfl⟩)).mono ?_;rintro e nu ⟨n,rfl,_,_,U⟩;exact⟨n,rfl,U⟩
 ·exact TC cG aU fn base Bm w' hw
end
def D3(w:World)(base max:Int)(t:ByteArray)(e:Ending)(w':World):Prop:=
 (∀v,t.size≠0→pu base max 0 (ints t)=some v→e=.returned (.tuple #[.int .u64 v,.nilIface]))∧((t.size=0∨pu base max 0 (ints t)=none)→∃x ty v,e=.returned (.tuple #[.int .u64 x,.iface ty v]))∧Below w.heap.size w w'
theorem aak{base max:Int}{t:ByteArray}{a:Int}{w w':World}(h:pu base max 0 (ints t)=some a)(bL:t.size≠0)(U:Below w.heap.size w w'):D3 w base max t (.returned (.tuple #[.int .u64 a,.nilIface])) w':=
 ⟨fun v _ aZ=>by rw[h]at aZ;cases aZ;rfl,fun aq=>aq.elim (fun h1=>absurd h1 bL) (fun h1=>by rw[h]at h1;cases h1),U⟩
section
variable (t:ByteArray) (rr:t.size≤100) {w0 w:World} (hw:Below w0.heap.size w0 w) (cG:iS w0)
include t rr hw cG
theorem V5:
 Calls Tryz.prog 103 #[.string t,.int .i64 8,.int .i64 8] w (D3 w 8 255 t):=by
 have gE:=I (cG.below hw);have cW:=I rr;clear cG hw rr;by_cases bL:t.size=0
 ·have aU:t=⟨#[]⟩:=by
   cases t with|mk d=>congr 1;exact Fx
  subst aU;clear bL;go_enter Tryz.func103,Tryz.ntmps103
  go_wp2_with(first|(go_at_call 95;refine(Tryz.internal_strconv_ParseUint_empty 8 8 _).mono ?_;rintro bk w1 ⟨rfl,rfl⟩)|(go_at_call 85;go_loud (refine GN ?_;intro bf bn aC)))
  exact FA
 ·have ix:=I bL;cases hp:pu 8 255 0 (ints t)with
  |some v=>
   refine wA ?_;clear hp bL;intro cr
   go_wp2_with(first|(go_at_call 95;refine(V1 t ix.1 cW.1 _).mono ?_;rintro bk w1 ⟨h0,_,ee⟩;cases h0 v cr.1;have bM:=I ee;clear ee h0))
   exact Fy
  |none=>
   refine wA ?_;clear hp bL;intro cr
   go_wp2_with(first|(go_at_call 95;refine(V1 t ix.1 cW.1 _).mono ?_;rintro bk w1 ⟨_,h0,ee⟩;obtain⟨al,cd,hh,rfl⟩:=h0 cr.1;have bM:=I ee;have dn:=I hh;clear ee hh h0)|(refine Ge ?_;intro bf bn aC))
   exact Fz
theorem V6:
 Calls Tryz.prog 103 #[.string t,.int .i64 16,.int .i64 8] w (D3 w 16 255 t):=by
 have gE:=I (cG.below hw);have cW:=I rr;clear cG hw rr;by_cases bL:t.size=0
 ·have aU:t=⟨#[]⟩:=by
   cases t with|mk d=>congr 1;exact Fx
  subst aU;clear bL;go_enter Tryz.func103,Tryz.ntmps103
  go_wp2_with(first|(go_at_call 95;refine(Tryz.internal_strconv_ParseUint_empty 16 8 _).mono ?_;rintro bk w1 ⟨rfl,rfl⟩)|(go_at_call 85;go_loud (refine GN ?_;intro bf bn aC)))
  exact FA
 ·have ix:=I bL;cases hp:pu 16 255 0 (ints t)with
  |some v=>
   refine wA ?_;clear hp bL;intro cr
   go_wp2_with(first|(go_at_call 95;refine(V2 t ix.1 cW.1 _).mono ?_;rintro bk w1 ⟨h0,_,ee⟩;cases h0 v cr.1;have bM:=I ee;clear ee h0))
   exact Fy
  |none=>
   refine wA ?_;clear hp bL;intro cr
   go_wp2_with(first|(go_at_call 95;refine(V2 t ix.1 cW.1 _).mono ?_;rintro bk w1 ⟨_,h0,ee⟩;obtain⟨al,cd,hh,rfl⟩:=h0 cr.1;have bM:=I ee;have dn:=I hh;clear ee hh h0)|(refine Ge ?_;intro bf bn aC))
   exact Fz
theorem V7:
 Calls Tryz.prog 103 #[.string t,.int .i64 16,.int .i64 16] w (D3 w 16 65535 t):=by
 have gE:=I (cG.below hw);have cW:=I rr;clear cG hw rr;by_cases bL:t.size=0
 ·have aU:t=⟨#[]⟩:=by
   cases t with|mk d=>congr 1;exact Fx
  subst aU;clear bL;go_enter Tryz.func103,Tryz.ntmps103
  go_wp2_with(first|(go_at_call 95;refine(Tryz.internal_strconv_ParseUint_empty 16 16 _).mono ?_;rintro bk w1 ⟨rfl,rfl⟩)|(go_at_call 85;go_loud (refine GN ?_;intro bf bn aC)))
  exact FA
 ·have ix:=I bL;cases hp:pu 16 65535 0 (ints t)with
  |some v=>
   refine wA ?_;clear hp bL;intro cr
   go_wp2_with(first|(go_at_call 95;refine(V3 t ix.1 cW.1 _).mono ?_;rintro bk w1 ⟨h0,_,ee⟩;cases h0 v cr.1;have bM:=I ee;clear ee h0))
   exact Fy
  |none=>
   refine wA ?_;clear hp bL;intro cr
   go_wp2_with(first|(go_at_call 95;refine(V3 t ix.1 cW.1 _).mono ?_;rintro bk w1 ⟨_,h0,ee⟩;obtain⟨al,cd,hh,rfl⟩:=h0 cr.1;have bM:=I ee;have dn:=I hh;clear ee hh h0)|(refine Ge ?_;intro bf bn aC))
   exact Fz
theorem aaI:
 Calls Tryz.prog 103 #[.string t,.int .i64 16,.int .i64 32] w (D3 w 16 4294967295 t):=by
 have gE:=I (cG.below hw);have cW:=I rr;clear cG hw rr;by_cases bL:t.size=0
 ·have aU:t=⟨#[]⟩:=by
   cases t with|mk d=>congr 1;exact Fx
  subst aU;clear bL;go_enter Tryz.func103,Tryz.ntmps103
  go_wp2_with(first|(go_at_call 95;refine(Tryz.internal_strconv_ParseUint_empty 16 32 _).mono ?_;rintro bk w1 ⟨rfl,rfl⟩)|(go_at_call 85;go_loud (refine GN ?_;intro bf bn aC)))
  exact FA
 ·have ix:=I bL;cases hp:pu 16 4294967295 0 (ints t)with
  |some v=>
   refine wA ?_;clear hp bL;intro cr
   go_wp2_with(first|(go_at_call 95;refine(V4 t ix.1 cW.1 _).mono ?_;rintro bk w1 ⟨h0,_,ee⟩;cases h0 v cr.1;have bM:=I ee;clear ee h0))
   exact Fy
  |none=>
   refine wA ?_;clear hp bL;intro cr
   go_wp2_with(first|(go_at_call 95;refine(V4 t ix.1 cW.1 _).mono ?_;rintro bk w1 ⟨_,h0,ee⟩;obtain⟨al,cd,hh,rfl⟩:=h0 cr.1;have bM:=I ee;have dn:=I hh;clear ee hh h0)|(refine Ge ?_;intro bf bn aC))
   exact Fz
end
theorem V8(q:Int):∀(n:Nat) (s:List Int),(mf n q true s=none↔mf n q false s=none)∧(∀o r,mf n q true s=some (o,r)→o=true)∧∀op,mf n q op s=none↔mf n q false s=none:=by
 intro n
 induction n with
 |zero=>intro s;exact⟨Iff.rfl,(fun o r h=>by cases h),fun op=>Iff.rfl⟩
 |succ n bb=>
  intro s;cases s with
  |nil=>exact⟨Iff.rfl,(fun o r h=>by cases h),fun op=>Iff.rfl⟩
  |cons c t=>
   simp only[mf];by_cases h0:c=q
   ·simp only[h0,if_true];exact⟨(by simp),fun o r h=>by simp only[Option.some.injEq,Prod.mk.injEq]at h;exact h.1.symm,fun op=>by simp⟩
   ·simp only[h0,if_false];by_cases h1:c=10
    ·simp only[h1,if_true];exact⟨(by simp),(fun o r h=>by cases h),fun op=>by simp⟩
    ·simp only[h1,if_false];by_cases h2:c=92
     ·simp only[h2,if_true];cases he:hP t with
      |none=>exact⟨Iff.rfl,(fun o r h=>by cases h),fun op=>Iff.rfl⟩
      |some x=>
       obtain⟨o',bH⟩:=x;simp only[Bool.true_or,Bool.false_or];refine⟨((bb bH).1).trans ((bb bH).2.2 o').symm,(bb bH).2.1,fun op=>(((bb bH).2.2 (op||o')).trans ((bb bH).2.2 o').symm)⟩
     ·simp only[h2,if_false,Bool.true_or,Bool.false_or];exact⟨((bb t).1).trans ((bb t).2.2 (qT c)).symm,(bb t).2.1,fun op=>(((bb t).2.2 (op||qT c)).trans ((bb t).2.2 (qT c)).symm)⟩
theorem V9{q:Int}(op:Bool){s:List Int}:gB q op s=none↔gB q false s=none:=(V8 q _ s).2.2 op
theorem HF{q:Int}{s:List Int}{o:Bool}{r:List Int}(h:gB q true s=some (o,r)):o=true:=(V8 q _ s).2.1 o r h
structure Inv(q:Int)(r t:List Int):Prop where
 no:gB q false r=none→gB q false t=none
 yes:∀bH,gB q false r=some (false,bH)→iQ (r.take (r.length-bH.length))→gB q false t=some (false,bH)∧iQ (t.take (t.length-bH.length))
theorem Inv.start(q:Int)(r:List Int):Inv q r r:=⟨fun h=>h,fun _ h u=>⟨h,u⟩⟩
theorem Wa{s:List Int}(h:iQ s)(h0:0<s.length):nQ s≠0∧iQ (s.drop (nQ s)):=by
 cases h with
 |nil=>cases h0
 |cons _ _ h1 h2=>exact⟨h1,h2⟩
theorem HG{c:Int}{s:List Int}(h:iQ (c::s))(h1:c<128):iQ s:=by
 cases h with
 |cons _ h0 h h2=>
  have e:nQ (c::s)=1:=by unfold nQ;rw[if_pos (show a6 (c::s) 0<128 from h1)]
  rw[e]at h2;exact h2
theorem af1:∀(m:Nat) (s:List Int),iQ s→(∀x∈s.take m,x<128)→iQ (s.drop m):=by
 intro m
 induction m with
 |zero=>intro s h _;exact h
 |succ m bb=>
  intro s h ae;cases s with
  |nil=>exact h
  |cons c t=>exact bb t (HG h (ae c (by simp))) (fun x af2=>ae x (by simp[af2]))
theorem Wb{c:Int}{s bH:List Int}(h:bH.length≤s.length):(c::s).take ((c::s).length-bH.length)=c::s.take (s.length-bH.length):=by
 rw[List.length_cons,show s.length+1-bH.length=(s.length-bH.length)+1 by omega,List.take_succ_cons]
theorem Inv.other{q:Int}{r t:List Int}{c:Int}(h:Inv q r (c::t))(h1:¬c=q)(h2:¬c=10)(h3:¬c=92)(h4:c<128):Inv q r t:=by
 refine⟨fun aq=>?_,fun bH au hu=>?_⟩
 ·have:=h.no aq;rw[Db q false c t h1 h2 h3]at this;exact(V9 _).1 this
 ·obtain⟨aD,bx⟩:=h.yes bH au hu;rw[Db q false c t h1 h2 h3,Bool.false_or]at aD;cases ai:qT c with
  |true=>rw[ai]at aD;exact absurd (HF aD) (by decide)
  |false=>
   rw[ai]at aD;have:=w8 aD;rw[Wb (by omega)]at bx;exact⟨aD,HG bx h4⟩
def D4(c:Int):Bool:=decide (32≤c)&&decide (c<127)&& !(c==34)&& !(c==39)&& !(c==92)
def uf:List Int→Nat
 |[]=>0
 |c::r=>if D4 c=true then uf r+1 else 0
theorem SV:∀s:List Int,uf s≤s.length:=by
 intro s
 induction s with
 |nil=>exact Nat.le_refl _
 |cons c r bb=>simp only[uf];split<;>simp only[List.length_cons]<;>omega
section
variable {q:Int}
theorem Inv.plain{r:List Int}(ar:q=34∨q=39):∀(t:List Int),Inv q r t→Inv q r (t.drop (uf t)):=by
 intro t
 induction t with
 |nil=>intro h;exact h
 |cons c s bb=>
  intro h;simp only[uf];split
  ·rename_i hp
   simp only[D4,Bool.and_eq_true,decide_eq_true_eq,Bool.not_eq_true',beq_eq_false_iff_ne]at hp;exact bb (h.other (by omega) (by omega) hp.2 (by omega))
  ·exact h
section
variable {r t:List Int}
theorem Inv.quote(h:Inv q r (q::t)):gB q false r≠none∧∀bH,gB q false r=some (false,bH)→iQ (r.take (r.length-bH.length))→bH=t:=by
 refine⟨fun aq=>?_,fun bH au hu=>?_⟩
 ·have:=h.no aq;rw[L1]at this;cases this
 ·have:=(h.yes bH au hu).1;rw[L1]at this;simp only[Option.some.injEq,Prod.mk.injEq]at this;exact this.2.symm
theorem Inv.err(h:Inv q r t)(aq:∀bH,gB q false t=some (false,bH)→¬iQ (t.take (t.length-bH.length))):∀bH,gB q false r=some (false,bH)→¬iQ (r.take (r.length-bH.length)):=
 fun bH au hu=>aq bH (h.yes bH au hu).1 (h.yes bH au hu).2
theorem Inv.HH(h:Inv q r t)(aq:∀bH,gB q false t≠some (false,bH)):∀bH,gB q false r=some (false,bH)→¬iQ (r.take (r.length-bH.length)):=
 h.err fun bH e=>absurd e (aq bH)
end
theorem Inv.pk{r t r1:List Int}{o:Bool}(h:Inv q r (92::t))(ar:¬92=q)(he:hP t=some (o,r1))(m:Nat)(hm:r1=t.drop m)(VY:m≤t.length)(eh:∀x∈t.take m,x<128):Inv q r r1:=by
 refine⟨fun aq=>?_,fun bH au hu=>?_⟩
 ·have:=h.no aq;rw[Hg q false t r1 o ar he]at this;exact(V9 _).1 this
 ·obtain⟨aD,bx⟩:=h.yes bH au hu;rw[Hg q false t r1 o ar he,Bool.false_or]at aD;cases o with
  |true=>exact absurd (HF aD) (by decide)
  |false=>
   refine⟨aD,?_⟩;have an:=w8 aD;have MW:r1.length=t.length-m:=by rw[hm,List.length_drop]
   rw[Wb (by omega)]at bx
   have db:=af1 m _ (HG bx (by decide)) (fun x ae=>by
    rw[List.take_take]at ae;exact eh x (by rw[show min m (t.length-bH.length)=m by omega]at ae;exact ae))
   rw[List.drop_take,←hm,show t.length-bH.length-m=r1.length-bH.length by omega]at db;exact db
theorem Inv.xi{r t:List Int}(h:Inv q r (92::t))(ar:¬92=q)(aq:∀r1,hP t≠some (false,r1)):∀bH,gB q false r=some (false,bH)→¬iQ (r.take (r.length-bH.length)):=by
 refine h.HH fun bH e=>?_;cases he:hP t with
 |none=>rw[UN q false t ar he]at e;cases e
 |some x=>
  obtain⟨o,r1⟩:=x;rw[Hg q false t r1 o ar he,Bool.false_or]at e;cases o with
  |true=>exact absurd (HF e) (by decide)
  |false=>exact aq r1 he
theorem Inv.M0{r:List Int}(h:Inv q r []):∀bH,gB q false r=some (false,bH)→¬iQ (r.take (r.length-bH.length)):=h.HH fun bH e=>by rw[UL]at e;cases e
theorem Inv.nl{r t:List Int}(h:Inv q r (10::t))(ar:¬10=q):∀bH,gB q false r=some (false,bH)→¬iQ (r.take (r.length-bH.length)):=h.HH fun bH e=>by rw[UM q false t ar]at e;cases e
theorem Inv.zero{r t:List Int}(h:Inv q r (0::t))(ar:¬0=q):∀bH,gB q false r=some (false,bH)→¬iQ (r.take (r.length-bH.length)):=h.HH fun bH e=>by
 rw[Db q false 0 t ar (by decide) (by decide)]at e;exact absurd (HF e) (by decide)
end
theorem af3(k n bt di eS hM c1 c2 c3:Nat)(ad:k≤n)(h1:1<k→c1=di)(h2:2<k→c2=eS)(h3:3<k→c3=hM)(hw:(Lib.decodeN k bt c1 c2 c3).2≠1):Lib.decodeN n bt di eS hM=Lib.decodeN k bt c1 c2 c3:=by
 unfold Lib.decodeN at hw⊢;by_cases a0:bt<128
 ·rw[if_pos a0]at hw;exact absurd rfl hw
 ·rw[if_neg a0]at hw;rw[if_neg a0,if_neg a0];by_cases cg:bt/32=6∧(1<k∧c1/64=2)
  ·have aD:=h1 cg.2.1;subst aD;rw[if_pos cg,if_pos ⟨cg.1,(by omega),cg.2.2⟩]
  ·rw[if_neg cg]at hw;by_cases a2:bt/16=14∧(1<k∧c1/64=2)∧(2<k∧c2/64=2)
   ·have aD:=h1 a2.2.1.1;have bx:=h2 a2.2.2.1;subst aD bx;rw[if_neg cg,if_pos a2,if_neg (by omega),if_pos ⟨a2.1,⟨(by omega),a2.2.1.2⟩,(by omega),a2.2.2.2⟩]
   ·rw[if_neg a2]at hw;by_cases a3:bt/8=30∧(1<k∧c1/64=2)∧(2<k∧c2/64=2)∧(3<k∧c3/64=2)
    ·have aD:=h1 a3.2.1.1;have bx:=h2 a3.2.2.1.1;have db:=h3 a3.2.2.2.1;subst aD bx db;rw[if_neg cg,if_neg a2,if_pos a3,if_neg (by omega),if_neg (by omega),if_pos ⟨a3.1,⟨(by omega),a3.2.1.2⟩,⟨(by omega),a3.2.2.1.2⟩,(by omega),a3.2.2.2.2⟩]
    ·rw[if_neg a3]at hw;exact absurd rfl hw
theorem Bn(t:List Int)(k i:Nat)(h:i<k):a6 (t.take k) i=a6 t i:=by
 unfold a6;rw[List.getD_eq_getElem?_getD,List.getD_eq_getElem?_getD,List.getElem?_take,if_pos h]
theorem Wc{t:List Int}{k:Nat}(ad:k≤t.length)(h0:0<k)(hw:(ha (t.take k)).2≠1):ha t=ha (t.take k):=by
 unfold ha at hw⊢;rw[List.length_take,show min k t.length=k by omega]at hw⊢;rw[Bn t k 0 h0]at hw⊢;exact af3 k t.length _ _ _ _ _ _ _ ad (fun h=>by rw[Bn t k 1 h]) (fun h=>by rw[Bn t k 2 h]) (fun h=>by rw[Bn t k 3 h]) hw
theorem af4{t:List Int}(bG:∀x∈t,0≤x∧x<256)(h0:128≤a6 t 0):∀i,i<(ha t).2→128≤a6 t i:=by
 have ai:∀n bt di eS hM:Nat,128≤bt→(1<(Lib.decodeN n bt di eS hM).2→128≤di)∧(2<(Lib.decodeN n bt di eS hM).2→128≤eS)∧(3<(Lib.decodeN n bt di eS hM).2→128≤hM)∧(Lib.decodeN n bt di eS hM).2≤4:=by
  intro n bt di eS hM U;unfold Lib.decodeN;rw[if_neg (by omega)]
  repeat' split
  all_goals(refine⟨fun h=>?_,fun h=>?_,fun h=>?_,?_⟩<;>simp only at*<;>omega)
 have az:128≤(a6 t 0).toNat:=by omega
 obtain⟨cY,cd,fG,hx⟩:=ai t.length _ (a6 t 1).toNat (a6 t 2).toNat (a6 t 3).toNat az;intro i hi;have iJ:i<4:=Nat.lt_of_lt_of_le hi hx;rcases(show i=0∨i=1∨i=2∨i=3 by omega)with rfl|rfl|rfl|rfl
 ·exact h0
 ·have:=cY hi;omega
 ·have:=cd hi;omega
 ·have:=fG hi;omega
theorem af5{q:Int}(ar:q<128):∀(m:Nat) (t:List Int) (op:Bool),m≤t.length→(∀i,i<m→128≤a6 t i)→gB q op t=gB q op (t.drop m):=by
 intro m
 induction m with
 |zero=>intro t op _ _;rfl
 |succ m bb=>
  intro t op hm h;cases t with
  |nil=>simp at hm
  |cons c s=>
   have ai:128≤c:=h 0 (by omega);have e:qT c=false:=by simp only[qT,Bool.or_eq_false_iff,Bool.and_eq_false_iff,decide_eq_false_iff_not,beq_eq_false_iff_ne];exact⟨.inl (by omega),(by omega)⟩
   rw[Db q op c s (by omega) (by omega) (by omega),e,Bool.or_false];exact bb s op (by simpa using hm) (fun i hi=>h (i+1) (by omega))
section
variable {q:Int} {r t:List Int} (h:Inv q r t) (ar:q<128) (bG:∀x∈t,0≤x∧x<256) (an:0<t.length) (h0:128≤a6 t 0)
include h ar bG an h0
theorem Inv.rune:Inv q r (t.drop (ha t).2):=by
 have hle:=(KB t an).2.1;have ak:=af5 ar (ha t).2 t false hle (af4 bG h0);refine⟨fun aq=>by rw[←ak];exact h.no aq,fun bH au hu=>?_⟩;obtain⟨aD,bx⟩:=h.yes bH au hu;refine⟨(by rw[←ak];exact aD),?_⟩;rw[ak]at aD;have mr:=w8 aD;rw[List.length_drop]at mr;have af6:t.length-bH.length≤t.length:=by omega
 obtain⟨h1,h2⟩:=Wa bx Cb
 ·skip
  have hp:a6 (t.take (t.length-bH.length)) 0=a6 t 0:=Bn t _ 0 (by omega)
  have kS:nQ (t.take (t.length-bH.length))=(ha (t.take (t.length-bH.length))).2∧(ha (t.take (t.length-bH.length))).2≠1:=by
   unfold nQ at h1⊢;rw[if_neg (by rw[hp];omega)]at h1⊢;by_cases ae:(ha (t.take (t.length-bH.length))).2=1
   ·rw[if_pos ae]at h1;exact absurd rfl h1
   ·rw[if_neg ae];exact⟨rfl,ae⟩
  have hd:=Wc af6 (by omega) kS.2;rw[kS.1,←hd,List.drop_take]at h2;rw[List.length_drop,show t.length-(ha t).2-bH.length=t.length-bH.length-(ha t).2 by omega];exact h2
theorem Inv.bad(U:(ha t).2=1):∀bH,gB q false r=some (false,bH)→¬iQ (r.take (r.length-bH.length)):=by
 refine h.err fun bH e hu=>?_;have mr:=w8 e;obtain⟨h1,h2⟩:=Wa hu Cb
 ·skip
  have hp:a6 (t.take (t.length-bH.length)) 0=a6 t 0:=Bn t _ 0 (by omega);unfold nQ at h1;rw[if_neg (by rw[hp];omega)]at h1;by_cases ae:(ha (t.take (t.length-bH.length))).2=1
  ·rw[if_pos ae]at h1;exact absurd rfl h1
  ·have hd:=Wc (t:=t) (k:=t.length-bH.length) (by omega) (by omega) ae;rw[←hd]at ae;exact ae U
end
theorem af7{P:Int→Prop}(h:∀n:Fin 256,P (n.val:Int)){c:Int}(h0:0≤c)(h1:c<256):P c:=by
 have:=h ⟨c.toNat,(by omega)⟩;exact Rk
theorem HI{c:Int}(h0:0≤c)(h1:c<256):(dr c=true→dg c<16∧dg c=ih c∧0≤dg c)∧(dr c=false→¬dg c<16):=
 af7 (P:=fun c=>(dr c=true→dg c<16∧dg c=ih c∧0≤dg c)∧(dr c=false→¬dg c<16)) (by decide+kernel) h0 h1
theorem Wd{c:Int}(h:eC.en c=true):dg c<8∧dg c=c-48:=by
 simp only[eC.en,Bool.and_eq_true,decide_eq_true_eq]at h;have e:dg c=c-48:=by unfold dg;rw[if_pos (by omega)]
 exact⟨(by omega),e⟩
theorem We:∀(i:Nat) (a:Int) (s:List Int),0≤a→a≤(ji i a s).1:=by
 intro i
 induction i with
 |zero=>intro a s _;exact Int.le_refl _
 |succ i bb=>
  intro a s eh;cases s with
  |nil=>exact Int.le_refl _
  |cons d r=>
   simp only[ji];split
   ·rename_i hd
    simp only[eC.en,Bool.and_eq_true,decide_eq_true_eq]at hd;have:=bb (8*a+(d-48)) r (by omega);omega
   ·exact Int.le_refl _
theorem af8(i:Nat)(a:Int){d:Int}(r:List Int)(hd:eC.en d=true):ji (i+1) a (d::r)=ji i (8*a+(d-48)) r:=by simp only[ji];rw[if_pos hd]
theorem af9(i:Nat)(a:Int){d:Int}(r:List Int)(hd:¬eC.en d=true):ji (i+1) a (d::r)=(a,d::r):=by simp only[ji];rw[if_neg hd]
section
variable {P:Int→Bool} {d:Int} {r:List Int}
theorem M1(hd:P d=true):dt P (d::r)=dt P r+1:=by simp only[dt];rw[if_pos hd]
theorem Wf(hd:¬P d=true):dt P (d::r)=0:=by simp only[dt];rw[if_neg hd]
end
theorem aga:∀(i:Nat) (a:Int) (s:List Int),0≤a→a≤255→(ji i a s).2=s.drop (min i (dt eC.en s))∧pu 8 255 a (s.take (min i (dt eC.en s)))=if(ji i a s).1≤255 then some (ji i a s).1 else none:=by
 intro i
 induction i with
 |zero=>intro a s h0 h1;rw[Nat.zero_min];exact⟨rfl,Jf⟩
 |succ i bb=>
  intro a s h0 h1;cases s with
  |nil=>exact⟨(by simp[ji]),Jf⟩
  |cons d r=>
   by_cases hd:eC.en d=true
   ·rw[af8 i a r hd,M1 hd,show min (i+1) (dt eC.en r+1)=min i (dt eC.en r)+1 by omega,List.drop_succ_cons,List.take_succ_cons];obtain⟨d0,d1⟩:=Wd hd;have IK:=hd;simp only[eC.en,Bool.and_eq_true,decide_eq_true_eq]at IK;rw[pu,if_pos d0,d1,show a*8+(d-48)=8*a+(d-48)by omega];by_cases aZ:8*a+(d-48)≤255
    ·rw[if_pos aZ];exact bb _ r (by omega) aZ
    ·rw[if_neg aZ];have aw:=We i (8*a+(d-48)) r (by omega);rw[if_neg (by omega)];refine⟨?_,rfl⟩
     have e:∀(i:Nat) (a:Int) (s:List Int),(ji i a s).2=s.drop (min i (dt eC.en s)):=by
      intro i
      induction i with
      |zero=>intro a s;rw[Nat.zero_min];rfl
      |succ i bb=>
       intro a s;cases s with
       |nil=>simp[ji]
       |cons d r=>
        simp only[ji,dt];by_cases hd:eC.en d=true
        ·rw[if_pos hd,if_pos hd,show min (i+1) (dt eC.en r+1)=min i (dt eC.en r)+1 by omega,List.drop_succ_cons];exact bb _ _
        ·rw[if_neg hd,if_neg hd,Nat.min_zero];rfl
     exact e i _ r
   ·rw[af9 i a r hd,Wf hd,Nat.min_zero];exact⟨rfl,Jf⟩
theorem agb{c:Int}{s:List Int}(ai:eC.en c=true)(ak:qt c=false):
 let n:=min 3 (dt eC.en (c::s))
 (∃v,pu 8 255 0 ((c::s).take n)=some v∧0≤v∧v≤255∧hP (c::s)=some (false,(c::s).drop n))∨(pu 8 255 0 ((c::s).take n)=none∧∃r1,hP (c::s)=some (true,r1)):=by
 intro n;have vP:=ai;simp only[eC.en,Bool.and_eq_true,decide_eq_true_eq]at vP;obtain⟨d0,d1⟩:=Wd ai;obtain⟨aD,bx⟩:=aga 2 (c-48) s (by omega) (by omega);have hR:=We 2 (c-48) s (by omega);have aq:n=min 2 (dt eC.en s)+1:=by simp only[n,dt];rw[if_pos ai];omega
 have sr:hP (c::s)=some (decide (255<(ji 2 (c-48) s).1),(ji 2 (c-48) s).2):=by
  simp only[hP];rw[if_neg (by rw[ak];decide),if_pos ai]
 rw[aq,List.take_succ_cons,List.drop_succ_cons,pu,if_pos d0,d1,show(0:Int)*8+(c-48)=c-48 by omega,if_pos (by omega),bx,sr,←aD];by_cases aZ:(ji 2 (c-48) s).1≤255
 ·left;exact⟨_,(by rw[if_pos aZ]),(by omega),aZ,(by rw[decide_eq_false (by omega)])⟩
 ·right;exact⟨(by rw[if_neg aZ]),_,(by rw[decide_eq_true (by omega)])⟩
theorem Gq{s:List Int}(bG:∀x∈s,0≤x∧x<256):
 (min 2 (dt dr s)=0∧∃r1,hP (120::s)=some (true,r1))∨
 (0<min 2 (dt dr s)∧(∃v,pu 16 255 0 (s.take (min 2 (dt dr s)))=some v∧0≤v∧v≤255)∧hP (120::s)=some (false,s.drop (min 2 (dt dr s)))):=by
 have sr:hP (120::s)=uB s:=by simp only[hP];rw[if_neg (by decide),if_neg (by decide),if_pos trivial]
 rw[sr];cases s with
 |nil=>left;exact⟨rfl,_,rfl⟩
 |cons h r=>
  obtain⟨bt,di⟩:=bG h (by simp);simp only[uB,dt];by_cases ed:dr h=true
  ·obtain⟨d0,d1,d2⟩:=(HI bt di).1 ed;rw[if_pos ed,if_pos ed];right;cases r with
   |nil=>
    refine⟨(by simp[dt]),⟨dg h,?_,d2,(by omega)⟩,(by simp[dt])⟩;exact RU
   |cons h2 fe=>
    obtain⟨eS,hM⟩:=bG h2 (by simp);simp only[dt];by_cases hh0:dr h2=true
    ·obtain⟨g0,g1,g2⟩:=(HI eS hM).1 hh0;rw[if_pos hh0,if_pos hh0,show min 2 (dt dr fe+1+1)=2 by omega];refine⟨(by omega),⟨dg h*16+dg h2,?_,(by omega),(by omega)⟩,rfl⟩
     show pu 16 255 0 [h,h2]=some _
     rw[pu,if_pos d0,if_pos (by omega),pu,if_pos g0,if_pos (by omega),Int.zero_mul,Int.zero_add];rfl
    ·rw[if_neg hh0,if_neg hh0];refine⟨(by omega),⟨dg h,?_,d2,(by omega)⟩,rfl⟩;exact RU
  ·rw[if_neg ed,if_neg ed];left;exact⟨rfl,_,rfl⟩
theorem agc:∀(d:Nat) (a:Int) (s:List Int),s.length<d→kk d a s=none:=by
 intro d
 induction d with
 |zero=>intro a s h;omega
 |succ d bb=>
  intro a s h;cases s with
  |nil=>rfl
  |cons c r=>
   simp only[kk];split
   ·exact bb _ r (by simpa using h)
   ·rfl
theorem M3:∀(d:Nat) (a M:Int) (s:List Int),(∀x∈s,0≤x∧x<256)→d≤s.length→0≤a→(a+1)*16^d≤M+1→
 (pu 16 M a (s.take d)=none∧kk d a s=none)∨∃v,pu 16 M a (s.take d)=some v∧0≤v∧v≤M∧kk d a s=some (decide (1114111<v∨(55296≤v∧v<57344)),s.drop d):=by
 intro d
 induction d with
 |zero=>intro a M s _ _ h0 h1;right;exact⟨a,rfl,h0,(by omega),rfl⟩
 |succ d bb=>
  intro a M s bG an h0 h1;cases s with
  |nil=>simp at an
  |cons c r=>
   obtain⟨bt,di⟩:=bG c (by simp);simp only[kk,List.take_succ_cons,pu,List.drop_succ_cons];cases ed:dr c with
   |false=>
    rw[if_neg ((HI bt di).2 ed),if_neg (by decide)];exact .inl ⟨rfl,rfl⟩
   |true=>
    obtain⟨d0,d1,d2⟩:=(HI bt di).1 ed;have hp:(0:Int)<16^d:=Int.pow_pos (by decide)
    have ae:(16*a+ih c+1)*16^d≤M+1:=by
     refine Int.le_trans (Int.mul_le_mul_of_nonneg_right (b:=(a+1)*16) (by omega) (by omega)) ?_;rw[Int.mul_assoc,show(16:Int)*16^d=16^(d+1)by rw[Int.pow_succ,Int.mul_comm]];exact h1
    have hm:16*a+ih c≤M:=by
     have:(16*a+ih c+1)*1≤(16*a+ih c+1)*16^d:=Int.mul_le_mul_of_nonneg_left (by omega) (by omega);omega
    rw[if_pos d0,d1,show a*16+ih c=16*a+ih c by omega,if_pos hm,if_pos rfl];exact bb _ M r (fun x ae=>bG x tQ) (by simpa using an) (by omega) ae
theorem HJ(s:List Int):hP (117::s)=kk 4 0 s:=by simp only[hP];rw[if_neg (by decide),if_neg (by decide),if_neg (by decide),if_pos trivial]
theorem M4(s:List Int):hP (85::s)=kk 8 0 s:=by simp only[hP];rw[if_neg (by decide),if_neg (by decide),if_neg (by decide),if_neg (by decide),if_pos trivial]
theorem tu{c:Int}{s:List Int}(h:qt c=true):hP (c::s)=some (false,s):=by simp only[hP];rw[if_pos h]
theorem agd{c:Int}{s:List Int}(h1:qt c=false)(h2:eC.en c=false)(h3:c≠120)(h4:c≠117)(h5:c≠85):∀r1,hP (c::s)≠some (false,r1):=by
 intro r1 h;simp only[hP]at h;rw[if_neg (by rw[h1];decide),if_neg (by rw[h2];decide),if_neg h3,if_neg h4,if_neg h5]at h;split at h<;>simp at h
theorem Wg{P:Int→Bool}(lW:∀x,P x=true→x<128):∀(s:List Int) (n:Nat),n≤dt P s→∀x∈s.take n,x<128:=by
 intro s
 induction s with
 |nil=>intro n _ x ae;simp at ae
 |cons c r bb=>
  intro n aq x ae;cases n with
  |zero=>simp at ae
  |succ n=>
   simp only[dt]at aq;by_cases ai:P c=true
   ·rw[if_pos ai]at aq;simp only[List.take_succ_cons,List.mem_cons]at ae;rcases ae with rfl|ae
    ·exact lW _ ai
    ·exact bb n (by omega) x ae
   ·rw[if_neg ai]at aq;omega
theorem Wh{c:Int}(h:dr c=true):c<128:=by
 simp only[dr,Bool.or_eq_true,Bool.and_eq_true,decide_eq_true_eq]at h;omega
theorem age{c:Int}(h:eC.en c=true):c<128:=by
 simp only[eC.en,Bool.and_eq_true,decide_eq_true_eq]at h;omega
theorem S0:∀(d:Nat) (a:Int) (s:List Int) (x:Bool×List Int),kk d a s=some x→∀y∈s.take d,y<128:=by
 intro d
 induction d with
 |zero=>intro a s x _ y aX;simp at aX
 |succ d bb=>
  intro a s x h y aX;cases s with
  |nil=>cases h
  |cons c r=>
   simp only[kk]at h;split at h
   ·rename_i ai
    simp only[List.take_succ_cons,List.mem_cons]at aX;rcases aX with rfl|aX
    ·exact Wh ai
    ·exact bb _ r x h y aX
   ·cases h
theorem agf(xs:List Int)(bG:∀x∈xs,0≤x∧x<256)(an:xs.length≤100000):∀(k i:Nat),i≤xs.length→xs.length-i<k→sn.qy.aj k (strOfNums xs) (i:Int)=some ((i+uf (xs.drop i):Nat):Int):=by
 have aU:=Dl xs bG (by omega);have ak:=aU.size;intro k
 induction k with
 |zero=>intro i _ h;omega
 |succ k bb=>
  intro i hi ad;rw[sn.qy.aj];by_cases jz:i<xs.length
  ·rw[if_pos (by omega),if_pos (by omega),aU.at_ i jz,gz xs i jz];simp only[uf];by_cases hp:D4 (rd xs (i:Int))=true
   ·have D5:=hp;simp only[D4,Bool.and_eq_true,decide_eq_true_eq,Bool.not_eq_true',beq_eq_false_iff_ne]at D5;rw[if_pos hp,if_neg (by omega),if_neg D5.1.1.2,if_neg D5.1.2,if_neg D5.2,if_neg (by omega),show wrap64 ((i:Int)+1)=((i+1:Nat):Int)by unfold wrap64;omega,bb (i+1) (by omega) (by omega)];congr 1;omega
   ·rw[if_neg hp]
    have D5:¬(32≤rd xs (i:Int)∧rd xs (i:Int)<127∧rd xs (i:Int)≠34∧rd xs (i:Int)≠39∧rd xs (i:Int)≠92):=by
     rintro⟨h0,h1,h2,h3,h4⟩;apply hp;simp only[D4,Bool.and_eq_true,decide_eq_true_eq,Bool.not_eq_true',beq_eq_false_iff_ne];exact⟨⟨⟨⟨h0,h1⟩,h2⟩,h3⟩,h4⟩
    rw[Nat.add_zero];by_cases a0:rd xs (i:Int)<32
    ·rw[if_pos a0]
    ·rw[if_neg a0];by_cases cg:rd xs (i:Int)=34
     ·rw[if_pos cg]
     ·rw[if_neg cg];by_cases a2:rd xs (i:Int)=39
      ·rw[if_pos a2]
      ·rw[if_neg a2];by_cases a3:rd xs (i:Int)=92
       ·rw[if_pos a3]
       ·rw[if_neg a3,if_pos (by omega)]
  ·have:i=xs.length:=by omega
   subst this;rw[if_neg (by omega),List.drop_eq_nil_of_le (Nat.le_refl _)]
   show some ((strOfNums xs).size:Int)=_
   rw[ak];rfl
theorem SC{w:World}{A:Option Addr}{n c:Nat}{xs:List Int}(h:dZ w A n c xs)(bG:∀x∈xs,0≤x∧x<256)(aq:n≤100000):
 Calls Tryz.prog 101 #[.slice A n c] w fun e w'=>e=.returned (.int .i64 ((uf xs:Nat):Int))∧eO w w':=by
 obtain⟨hC,rfl,ai⟩:=h;refine sn.DL.calls (xs.length+1) A c xs _ w hC ai ?_;unfold sn.DL.f sn.DK.f sn.qy.f;have:=agf xs bG aq (xs.length+1) 0 (by omega) (by omega);simp only[Option.bind_some];rw[show((0:Nat):Int)=0 from rfl]at this;rw[this,Nat.zero_add,List.drop_zero];rfl
theorem Wi(v:Int)(w:World):Calls Tryz.prog 104 #[.int .i32 v] w fun e w'=>e=.returned (.bool (decide (55296≤v∧v<57344)))∧eO w w':=by
 refine sn.DM.calls v _ w ?_;unfold sn.DM.f;by_cases h:55296≤v
 ·rw[if_pos h];simp only[h,true_and]
 ·rw[if_neg h];simp only[h,false_and,decide_false]
theorem Wj(v x:Int)(w:World):Calls Tryz.prog 105 #[.int .i32 v,.int .i32 x] w fun e w'=>∃r,e=.returned (.int .i32 r)∧eO w w':=by
 have au:∃r,sn.Be.f v x=some r:=by
  unfold sn.Be.f
  repeat' split
  all_goals exact⟨_,rfl⟩
 obtain⟨r,au⟩:=au;exact(sn.Be.calls v x r w au).mono fun e w' ⟨h0,h1⟩=>⟨r,h0,h1⟩
def Wk:ByteArray:=⟨#[48,49,50,51,52,53,54,55]⟩
def Wl:ByteArray:=⟨#[48,49,50,51,52,53,54,55,56,57,97,98,99,100,101,102,65,66,67,68,69,70]⟩
theorem agh:∀n:Fin 256,Wk.data.toList.contains (UInt8.ofNat n.val)=eC.en (n.val:Int):=by decide+kernel
theorem agi:∀n:Fin 256,Wl.data.toList.contains (UInt8.ofNat n.val)=dr (n.val:Int):=by decide+kernel
def M5(w:World)(n k:Nat)(e:Ending)(w':World):Prop:=(∃bd c1,e=.returned (.slice bd (n-k) c1))∧Below w.heap.size w w'
def agj(w:World)(n k:Nat)(e:Ending)(w':World):Prop:=(∃bd c1,e=.returned (.slice bd (n-k) c1))∧w'=w
theorem Wm{w:World}{b:Nat}{cs:List UInt8}{P:Int→Bool}(lW:∀n:Fin 256,cs.contains (UInt8.ofNat n.val)=P (n.val:Int))(HK:∀x:UInt8,w.cell? ⟨b,x.toNat,none⟩=some (.bool (cs.contains x))){x:Int}(h0:0≤x)(h1:x<256):
 Calls Tryz.prog 127 #[.pointer (some ⟨b,0,none⟩),.int .u8 x] w fun e w'=>e=.returned (.bool (P x))∧w'=w:=by
 have ae:=lW ⟨x.toNat,(by omega)⟩;have e:((⟨x.toNat,(by omega)⟩:Fin 256).val:Int)=x:=Int.toNat_of_nonneg h0;rw[e]at ae;have aD:(UInt8.ofNat x.toNat).toNat=x.toNat:=by rw[UInt8.toNat_ofNat_of_lt' Fs]
 have ai:=HK (UInt8.ofNat x.toNat);rw[show cs.contains (UInt8.ofNat x.toNat)=P x from ae]at ai;have:=Any.bytes_asciiSet_contains (P:=Tryz.prog) (ρ:=Tryz.Lr) {Tryz.TT with} b (UInt8.ofNat x.toNat) (P x) w ai;rw[aD,show((x.toNat:Nat):Int)=x by omega]at this;exact this
section
variable {w:World} {A:Option Addr} {n c:Nat} {xs:List Int}
theorem agk(cs:List UInt8)(P:Int→Bool)(lW:∀n:Fin 256,cs.contains (UInt8.ofNat n.val)=P (n.val:Int))(aZ:dZ w A n c xs)(bG:∀x∈xs,0≤x∧x<256)(b:Nat)(HK:∀x:UInt8,w.cell? ⟨b,x.toNat,none⟩=some (.bool (cs.contains x))):
 Calls Tryz.prog 120 #[.slice A n c,.pointer (some ⟨b,0,none⟩)] w (agj w n (dt P xs)):=by
 have bl:=I aZ;have fq:=I bG
 have cr:=I lW;have av:=I HK;clear aZ bG lW HK;go_enter Tryz.func120,Tryz.ntmps120
 go_wp2_with fail
 go_loopg [0] n (fun g v0 w'=>∃(ao:Option Addr) (m c2 j:Nat),v0=.slice ao m c2∧w'=w∧aN (m=g∧m=n-j)∧aN (dZ w ao m c2 (xs.drop j)∧j+dt P (xs.drop j)=dt P xs))
 case atStart=>exact⟨A,n,c,0,rfl,rfl,⟨rfl,rfl⟩,⟨bl.1,xJ⟩⟩
 case round=>
  obtain⟨ao,m,c2,j,rfl,rfl,aV,bU⟩:=hrel;have lk:=I (show m=xs.length-j by rw[bU.1.1.dN,List.length_drop]);by_cases hm:0<m
  ·obtain⟨bt,o,rfl,al⟩:=bU.1.1.cell 0 hm;refine SW ?_;clear al;intro CY au l2 al;have jZ:=I (fq.1 _ (Ta xs j CY.1));obtain⟨x,ae⟩:∃x,x=rd xs (j:Int):=⟨_,rfl⟩;rw[←ae]at al;rw[←ae]at jZ;refine Ln ?_;clear au ae;intro dG gw m0;intro fi fj;have Hx:((m:Int)==0)=false:=beq_eq_false_iff_ne.mpr (by omega);clear hm;obtain⟨bd,c3,bs,bO⟩:=bU.1.1.from_ 1 tP;have dP:=I bO;have jN:∀aQ:World,(Instr.slice 22 (.slice (some ⟨bt,o,none⟩) m c2) (some (.int .i64 1)) none none).run Tryz.prog aQ=.ok (.slice bd (m-1) c3) aQ:=bs;clear bO bs;cases hp:P x
   ·have fz:=I (show dt P xs=j by rw[←bU.1.2,l2.1,←dG.1,Wf (by rw[hp];decide)];rfl);have D6:=I hp;clear hp
    go_wp2_with(first|(go_at_call 127;refine(Wm cr.1 av.1 jZ.1.1 jZ.1.2).mono ?_;rintro bk w0 ⟨rfl,rfl⟩;rw[D6.1]))
    go_ret;exact⟨⟨_,_,(by rw[fz.1,←aV.1.2];rfl)⟩,rfl⟩
   ·have fz:=I (show j+1+dt P (xs.drop (j+1))=dt P xs by rw[←bU.1.2,l2.1,←dG.1,M1 hp];omega);have D6:=I hp;clear hp
    go_wp2_with(first|(go_at_call 127;refine(Wm cr.1 av.1 jZ.1.1 jZ.1.2).mono ?_;rintro bk w0 ⟨rfl,rfl⟩;rw[D6.1]))
    go_roundg(m-1)
    case measure=>have:=aV.1.1;have:=gw.1;omega
    case rel=>exact⟨bd,m-1,c3,j+1,rfl,rfl,⟨rfl,(by have:=aV.1.2;omega)⟩,⟨Ji,fz.1⟩⟩
  ·have m0:decide ((m:Int)>0)=false:=decide_eq_false (by omega);have ct:=I (show xs.drop j=[]from List.eq_nil_of_length_eq_zero wb);refine vi ?_;intro fi fj;have Hx:((m:Int)==0)=true:=beq_iff_eq.mpr (by omega);have DR:=I (show m=0 by omega);clear hm
   go_wp2_with fail
   go_ret;refine⟨⟨none,0,?_⟩,rfl⟩;have h0:=bU.1.2;rw[ct.1]at h0;have h1:=bl.1.dN;have h2:=lk.1;have h3:=DR.1;have h4:=nD P xs;rw[show n-dt P xs=0 by have:dt P ([]:List Int)=0:=rfl;omega];rfl
theorem Wn(cs:ByteArray)(P:Int→Bool)(lW:∀n:Fin 256,cs.data.toList.contains (UInt8.ofNat n.val)=P (n.val:Int))(h2:2≤cs.size)(kX:cs.size<4294967281)(has:∀b∈cs.data.toList,b.toNat<128)(aZ:dZ w A n c xs)(bG:∀x∈xs,0≤x∧x<256):
 Calls Tryz.prog 102 #[.slice A n c,.string cs] w (M5 w n (dt P xs)):=by
 have L:=Tryz.TT;have h0:(Tryz.prog.info? 134).map (fun i=>(i.zero,i.size))=some (some (.agg (Array.replicate 256 (.bool false))),256):=by kernel_rfl
 have bO:=(zero_of_info h0).1;have iJ:=(zero_of_info h0).2;have uJ:Calls Tryz.prog 119 #[.string cs] w fun e w'=>e=.returned (.tuple #[.agg (Lib.setCells cs.data.toList),.bool true])∧w'=w.alloc (.cells (Lib.setCells cs.data.toList) 134):=Any.bytes_makeASCIISet (P:=Tryz.prog) (ρ:=Tryz.Lr) {L with} bO iJ cs w kX (fun j b U=>has b (List.mem_of_getElem? U));have akj:Tryz.zeroCells134=Array.replicate 256 (.bool false):=by kernel_rfl
 have HE:cs.toList.isEmpty=false:=by
  rw[Lib.toList_data];cases h:cs.data.toList with
  |nil=>have:=Lib.size_eq cs;rw[h,List.length_nil]at this;omega
  |cons _ _=>rfl
 have cR:((cs.size:Int)==1)=false:=beq_eq_false_iff_ne.2 (by omega);by_cases aG:n=0
 ·have ry:((n:Int)==0)=true:=beq_iff_eq.2 (by omega);have ct:=I (And.intro aG aZ.dN);clear uJ bO iJ h0 L aZ aG;go_enter Tryz.func102,Tryz.ntmps102
  go_wp2_with fail
  go_ret;exact⟨⟨none,0,(by rw[ct.1.1,Nat.zero_sub];rfl)⟩,Below.refl _ _⟩
 ·have ry:((n:Int)==0)=false:=beq_eq_false_iff_ne.2 (by omega)
  have lZ:(storeCells ⟨w.heap.size+1,0,none⟩ (Lib.setCells cs.data.toList).toList 0).run Tryz.prog ((w.alloc (.cells (Lib.setCells cs.data.toList) 134)).alloc (.cells (Array.replicate 256 (.bool false)) 134))=.ok () ((w.alloc (.cells (Lib.setCells cs.data.toList) 134)).alloc (.cells (Lib.setCells cs.data.toList) 134)):=by
   have:=run_storeCells_new (P:=Tryz.prog) (w.alloc (.cells (Lib.setCells cs.data.toList) 134)) 134 (Array.replicate 256 (.bool false)) (Lib.setCells cs.data.toList) (by rw[Lib.setCells_size];exact iJ) (by rw[Lib.setCells_size,Array.size_replicate]) (Lib.setCells_one _)
   simpa using this
  have dd:=Lib.setCells_size cs.data.toList
  have Wo:∀x:UInt8,((w.alloc (.cells (Lib.setCells cs.data.toList) 134)).alloc (.cells (Lib.setCells cs.data.toList) 134)).cell? ⟨w.heap.size+1,x.toNat,none⟩=some (.bool (cs.data.toList.contains x)):=fun x=>by
   rw[World.cell?_alloc_at _ _ _ _ (by simp),Lib.setCells_at]
  have jM:Below w.heap.size w ((w.alloc (.cells (Lib.setCells cs.data.toList) 134)).alloc (.cells (Lib.setCells cs.data.toList) 134)):=((Below.refl _ _).alloc (Nat.le_refl _) _).alloc (by simp) _;have cV:=agk cs.data.toList P lW (aZ.below jM) bG (w.heap.size+1) Wo;have aC:=I jM;clear Wo jM;have fH:∀w,(Go.sizeOf 134).run Tryz.prog w=.ok 256 w:=Tryz.sizeOf134;go_enter Tryz.func102,Tryz.ntmps102
  go_wp2_with(first|(go_at_call 119;refine uJ.mono ?_;rintro e w' ⟨rfl,hw⟩;rw[hw])|(go_at_call 120;refine cV.mono ?_;rintro bk w0 ⟨⟨ao,c9,rfl⟩,hw⟩;rw[hw]))
  go_ret;exact⟨⟨ao,c9,rfl⟩,aC.1⟩
section
variable (aZ:dZ w A n c xs) (bG:∀x∈xs,0≤x∧x<256)
include aZ bG
theorem aa8:
 Calls Tryz.prog 102 #[.slice A n c,.string ⟨#[48,49,50,51,52,53,54,55]⟩] w (M5 w n (dt eC.en xs)):=
 Wn Wk eC.en agh (by decide) (by decide) (by decide) aZ bG
theorem TI:
 Calls Tryz.prog 102 #[.slice A n c,.string ⟨#[48,49,50,51,52,53,54,55,56,57,97,98,99,100,101,102,65,66,67,68,69,70]⟩] w (M5 w n (dt dr xs)):=
 Wn Wl dr agi (by decide) (by decide) (by decide) aZ bG
end
end
def zf(w0 w:World)(v:Value)(n:Nat):Prop:=∃ys,ys.length=n∧ab.R (ab.int .u8) 5 w w0.heap.size (fun _=>True) v ys
section
variable {w0 w w1:World} {v:Value} {n:Nat}
theorem zf.below(h:zf w0 w v n)(U:Below w.heap.size w w1):zf w0 w1 v n:=by
 obtain⟨ys,h0,h1⟩:=h;exact⟨ys,h0,ab.nZ h1 U⟩
theorem Wp{A:Option Addr}{xs ys:List Int}{m:Nat}(aY:ab.C (ab.int .u8) w A n xs)(aq:xs.length=n)(hm:ys.length=m)(dV:0<m)(an:n+m≤1000000)(U:Below w0.heap.size w0 w){tx ty:TypeId}{x:Value}(ak:Src Tryz.prog 1 tx x m (il ys) w):
 ∃v1 w1,(Builtin.append_ #[22,tx] ty #[.slice A n n,x]).run Tryz.prog w=.ok v1 w1∧zf w0 w1 v1 (n+m)∧Below w0.heap.size w0 w1:=by
 obtain⟨i,hi,aG,dd,bG⟩:=xg
 have hold:(Builtin.firstCells i.size n (.slice A n n)).run Tryz.prog w.drew=.ok (il xs).toArray w.drew:=by
  rw[dd];cases A with
  |none=>
   exact QI
  |some a=>exact run_firstCells_some _ _ _ _ _ _ _ Cg (fun j u hu=>zb aY j u hu)
 refine S9 ?_;intro Gu q4 au;refine⟨_,_,au,⟨xs++ys,Ca,?_⟩,?_⟩
 ·exact Rl
 ·exact PW
section
variable (h:uD w0 w v n) (U:Below w0.heap.size w0 w)
include h U
theorem pH{a:Addr}{m c:Nat}{ys:List Int}(hC:ab.C (ab.int .u8) w (some a) m ys)(dV:0<m)(an:n+m≤1000000)(ty:TypeId):
 ∃v1 w1,(Builtin.append_ #[22,22] ty #[v,.slice (some a) m c]).run Tryz.prog w=.ok v1 w1∧zf w0 w1 v1 (n+m)∧Below w0.heap.size w0 w1:=by
 have hm:=ab.IA hC;rcases h with⟨A,xs,rfl,h2,h3⟩|⟨jd,h1,h2⟩
 ·exact Wp h3 h2 hm dV an U (Src.ofSlice w Tryz.underlying22 a m c (il ys) Cg (zb hC) (Hz ys))
 ·obtain⟨i,hi,aG,dd,bG⟩:=xg;have iv:=ab.Ex h2;rw[h1]at iv;obtain⟨v1,w1,au,aY,aw,_⟩:=run_append_own (P:=Tryz.prog) w w0.heap.size 22 ty 5 i (.int .u8 0) 1 1 Tryz.underlying22 hi aG dd bG rfl (by decide) v n _ iv a m c (il ys) Cg (zb hC) (Hz ys) Fv (by omega) U.size;refine⟨v1,w1,au,⟨jd++ys,Ca,ab.BG (h1:=fun _=>rfl) ?_ (fun _ _=>trivial)⟩,DY U aw (fun k ad=>ab.xy h2 k ad)⟩;rw[List.length_append,h1,hm];have:=FM jd ys;unfold il at this;rw[this];exact aY
theorem Wq(s:ByteArray)(bs:0<s.size)(an:n+s.size≤1000000)(ty:TypeId):
 ∃v1 w1,(Builtin.append_ #[22,9] ty #[v,.string s]).run Tryz.prog w=.ok v1 w1∧zf w0 w1 v1 (n+s.size)∧Below w0.heap.size w0 w1:=by
 refine TB ?_;intro ys pS zW;rcases h with⟨A,xs,rfl,h2,h3⟩|⟨jd,h1,h2⟩
 ·have DZ:=Src.ofString (P:=Tryz.prog) (tx:=9) w Tryz.underlying9 s;have ML:byteCells s=il ys:=by rw[←pS];rfl
  rw[ML]at DZ;exact Wp h3 h2 zW bs an U DZ
 ·obtain⟨i,hi,aG,dd,bG⟩:=xg;refine Tj ?_;intro v1 w1 au aY aw iv;refine⟨v1,w1,au,⟨jd++ys,Ca,ab.BG (h1:=fun _=>rfl) ?_ (fun _ _=>trivial)⟩,DY U aw (fun k ad=>ab.xy h2 k ad)⟩;exact RQ
end
end
def uc(w0 w W:World)(v:Value)(n:Nat):Prop:=(∃A xs,v=.slice A n n∧xs.length=n∧ab.C (ab.int .u8) w0 A n xs)∨zf w W v n
section
variable {w0 w W ay:World} {v:Value} {n aJ:Nat}
theorem uc.oj(h:uc w0 w W v n)(U:Below w0.heap.size w0 W):uD w W v n:=by
 rcases h with⟨A,xs,h1,h2,h3⟩|h
 ·exact .inl ⟨A,xs,h1,h2,ab.ko h3 U⟩
 ·exact .inr h
theorem uc.below(h:uc w0 w W v n)(U:Below W.heap.size W ay):uc w0 w ay v n:=by
 rcases h with h|h
 ·exact .inl h
 ·exact .inr (h.below U)
theorem uc.text(h:uc w0 w W v n)(aw:aJ<w.heap.size)(ad:cI W ay aJ none)(U:Below w0.heap.size w0 ay):∃str:ByteArray,str.size=n∧∀eJ,Below ay.heap.size ay eJ→(convert 22 9 v).run Tryz.prog eJ=.ok (.string str) eJ:=by
 rcases h with⟨A,xs,rfl,h2,h0⟩|⟨ys,h1,h2⟩
 ·exact⟨strOfNums xs,(by simp[strOfNums,ByteArray.size,h2]),fun eJ h=>ab.rK (P:=Tryz.prog) Tryz.underlying22 Tryz.underlying5 Tryz.underlying9 (ab.ko (ab.ko h0 U) (h.mono (by have:=U.size;omega)))⟩
 ·have h0:=ab.O3 h2 rfl (g:=aJ) (by
   rcases ab.EB h2 with e|⟨k,e,ad⟩
   ·rw[e];exact fun e=>by cases e
   ·rw[e];intro e;cases e;omega)
  have h3:=ab.tC h0 ad (fun k ad=>ad.2);obtain⟨A,c,rfl,ai,hC⟩:=ab.xu h3;exact⟨strOfNums ys,(by simp[strOfNums,ByteArray.size,h1]),fun eJ h=>ab.rK (P:=Tryz.prog) Tryz.underlying22 Tryz.underlying5 Tryz.underlying9 (ab.ko hC h)⟩
end
end fx
namespace fx
open RowKit YtmpeadgiclfapaaGreatDoorW.PrintWords YtmpeadgiclfapaaGreatDoorW.PrintLast YtmpeadgiclfapaaGreatDoorW.PrintMore ei cP gJ eI eC gi j6
noncomputable def agl (n:Nat):Code:=DS n (Tryz.f87.body.getD .skip)
def M6:Code→Code
 | .seq (.block _ (.loop b)) _=>b
 |c=>c
noncomputable def Wr:Code:=M6 (agl 7)
def zg(w0 w:World)(aJ:Nat)(B s st:List Int)(lc af q:Int)(r:List Int)(e:Ending)(w':World):Prop:=
 (gB q false r=none→∃str ty v,e=.returned (.tuple #[.string str,.iface ty v])∧c6 w0 w w' aJ B s st lc af)∧
 (∀bH,gB q false r=some (false,bH)→iQ (r.take (r.length-bH.length))→∃str:ByteArray,str.size≤100000∧e=.returned (.tuple #[.string str,.nilIface])∧c6 w0 w w' aJ B (bc false bH) st lc af)
structure lG(w0 w ay:World)(aJ:Nat)(B s st:List Int)(lc af q:Int)(r t:List Int)(A:Option Addr)(n c:Nat)(v7:Value)(m:Nat):Prop where
 d:dK w0 w aJ B s st lc af
 b:Below w.heap.size w ay
 v:dZ w0 A n c t
 o:uc w0 w ay v7 m
 inv:Inv q r t
 ak:s=q::r
 ar:q=34∨q=39
 sz:m+t.length≤100000
 jE:∃j,t=s.drop j
 T:Lib.Utf8Tabs 4 5 w0
 E:iS w0
 sc:0<w0.heap.size∧∃ty v,w0.cell? ⟨0,0,none⟩=some (.iface ty v)
section
variable {w0 w ay:World} {aJ:Nat} {B s st:List Int} {lc af q:Int} {r t:List Int} {A:Option Addr} {n c:Nat} {v7:Value} {m:Nat}
theorem dK.bu(h:dK w0 w aJ B s st lc af):Below w0.heap.size w0 w:=by obtain⟨f,aA⟩:=h;exact aA.bu
theorem lG.bu(h:lG w0 w ay aJ B s st lc af q r t A n c v7 m):Below w0.heap.size w0 ay:=dq h.d.bu h.d.bu.size h.b
section
variable (h:lG w0 w ay aJ B s st lc af q r t A n c v7 m)
include h
theorem lG.lP:∀x∈t,0≤x∧x<256:=by
 obtain⟨j,bq⟩:=h.jE;intro x ae;rw[bq]at ae;exact h.d.bytes x (List.mem_of_mem_drop ae)
theorem sV(aq:∀bH,gB q false r=some (false,bH)→¬iQ (r.take (r.length-bH.length))){str:ByteArray}{ty:TypeId}{v:Value}{w':World}(U:Below ay.heap.size ay w'):
 zg w0 w aJ B s st lc af q r (.returned (.tuple #[.string str,.iface ty v])) w':=
 ⟨fun _=>⟨str,ty,v,rfl,h.d.here.below (dq h.b h.b.size U)⟩,fun bH au hu=>absurd hu (aq bH au)⟩
end
theorem Ws{t1:List Int}(hi:Inv q r (q::t1)){str:ByteArray}{w':World}(aG:str.size≤100000)(hd:c6 w0 w w' aJ B (bc false t1) st lc af):
 zg w0 w aJ B s st lc af q r (.returned (.tuple #[.string str,.nilIface])) w':=
 ⟨fun aq=>absurd aq hi.quote.1,fun bH au hu=>⟨str,aG,rfl,(by rw[hi.quote.2 bH au hu];exact hd)⟩⟩
theorem ah{x:Int}{t1:List Int}(h0:0≤x)(h1:x<128):(((ha (x::t1)).1:Nat):Int)=x∧(((ha (x::t1)).2:Nat):Int)=1:=by
 have ae:a6 (x::t1) 0=x:=rfl;unfold ha Lib.decodeN;rw[ae,if_pos (by omega)];exact⟨(by simp only;omega),rfl⟩
end
theorem M7{l:List Value}{v0 v2 v3 v4 v5 v7:Value}(an:l.length=358)(h0:l.getD 0 undef=v0)(h2:l.getD 2 undef=v2)(h3:l.getD 3 undef=v3)(h4:l.getD 4 undef=v4)(h5:l.getD 5 undef=v5)(h7:l.getD 7 undef=v7):∃g:Nat→Value,(⟨l.toArray,[]⟩:Act)=(⟨List.toArray (v0::g 1::v2::v3::v4::v5::g 6::v7::xH g ([])),[]⟩:Act):=by
 simp only[xH,qK,sK,nA];refine⟨fun i=>l.getD i undef,?_⟩;subst h0;subst h2;subst h3;subst h4;subst h5;subst h7;exact oZ
def D7(w0 w:World)(aJ:Nat)(B s st:List Int)(lc af q:Int)(r:List Int)(n:Nat)(a:Act)(ay:World):Prop:=
 ∃(A:Option Addr) (c:Nat) (v7:Value) (m:Nat) (t:List Int) (g:Nat→Value),lG w0 w ay aJ B s st lc af q r t A n c v7 m∧a=(⟨#[.pointer (some ⟨aJ,0,none⟩),g 1,.string ⟨#[]⟩,.nilIface,.slice A n c,.int .u8 q,g 6,v7,g 8,g 9,g 10,g 11,g 12,g 13,g 14,g 15,g 16,g 17,g 18,g 19,g 20,g 21,g 22,g 23,g 24,g 25,g 26,g 27,g 28,g 29,g 30,g 31,g 32,g 33,g 34,g 35,g 36,g 37,g 38,g 39,g 40,g 41,g 42,g 43,g 44,g 45,g 46,g 47,g 48,g 49,g 50,g 51,g 52,g 53,g 54,g 55,g 56,g 57,g 58,g 59,g 60,g 61,g 62,g 63,g 64,g 65,g 66,g 67,g 68,g 69,g 70,g 71,g 72,g 73,g 74,g 75,g 76,g 77,g 78,g 79,g 80,g 81,g 82,g 83,g 84,g 85,g 86,g 87,g 88,g 89,g 90,g 91,g 92,g 93,g 94,g 95,g 96,g 97,g 98,g 99,g 100,g 101,g 102,g 103,g 104,g 105,g 106,g 107,g 108,g 109,g 110,g 111,g 112,g 113,g 114,g 115,g 116,g 117,g 118,g 119,g 120,g 121,g 122,g 123,g 124,g 125,g 126,g 127,g 128,g 129,g 130,g 131,g 132,g 133,g 134,g 135,g 136,g 137,g 138,g 139,g 140,g 141,g 142,g 143,g 144,g 145,g 146,g 147,g 148,g 149,g 150,g 151,g 152,g 153,g 154,g 155,g 156,g 157,g 158,g 159,g 160,g 161,g 162,g 163,g 164,g 165,g 166,g 167,g 168,g 169,g 170,g 171,g 172,g 173,g 174,g 175,g 176,g 177,g 178,g 179,g 180,g 181,g 182,g 183,g 184,g 185,g 186,g 187,g 188,g 189,g 190,g 191,g 192,g 193,g 194,g 195,g 196,g 197,g 198,g 199,g 200,g 201,g 202,g 203,g 204,g 205,g 206,g 207,g 208,g 209,g 210,g 211,g 212,g 213,g 214,g 215,g 216,g 217,g 218,g 219,g 220,g 221,g 222,g 223,g 224,g 225,g 226,g 227,g 228,g 229,g 230,g 231,g 232,g 233,g 234,g 235,g 236,g 237,g 238,g 239,g 240,g 241,g 242,g 243,g 244,g 245,g 246,g 247,g 248,g 249,g 250,g 251,g 252,g 253,g 254,g 255,g 256,g 257,g 258,g 259,g 260,g 261,g 262,g 263,g 264,g 265,g 266,g 267,g 268,g 269,g 270,g 271,g 272,g 273,g 274,g 275,g 276,g 277,g 278,g 279,g 280,g 281,g 282,g 283,g 284,g 285,g 286,g 287,g 288,g 289,g 290,g 291,g 292,g 293,g 294,g 295,g 296,g 297,g 298,g 299,g 300,g 301,g 302,g 303,g 304,g 305,g 306,g 307,g 308,g 309,g 310,g 311,g 312,g 313,g 314,g 315,g 316,g 317,g 318,g 319,g 320,g 321,g 322,g 323,g 324,g 325,g 326,g 327,g 328,g 329,g 330,g 331,g 332,g 333,g 334,g 335,g 336,g 337,g 338,g 339,g 340,g 341,g 342,g 343,g 344,g 345,g 346,g 347,g 348,g 349,g 350,g 351,g 352,g 353,g 354,g 355,g 356,g 357],[]⟩:Act)
def l8(w0 w:World)(aJ:Nat)(B s st:List Int)(lc af q:Int)(r:List Int)(n:Nat)(a:Act)(ay:World):Prop:=∃j8,j8<n∧D7 w0 w aJ B s st lc af q r j8 a ay
def Bo(w0 w:World)(aJ:Nat)(B s st:List Int)(lc af q:Int)(r:List Int)(a:Act)(ay:World):Prop:=
 ∃(A:Option Addr) (n c:Nat) (v7:Value) (m:Nat) (g:Nat→Value),lG w0 w ay aJ B s st lc af q r [] A n c v7 m∧a=(⟨#[.pointer (some ⟨aJ,0,none⟩),g 1,.string ⟨#[]⟩,.nilIface,.slice A n c,.int .u8 q,g 6,v7,g 8,g 9,g 10,g 11,g 12,g 13,g 14,g 15,g 16,g 17,g 18,g 19,g 20,g 21,g 22,g 23,g 24,g 25,g 26,g 27,g 28,g 29,g 30,g 31,g 32,g 33,g 34,g 35,g 36,g 37,g 38,g 39,g 40,g 41,g 42,g 43,g 44,g 45,g 46,g 47,g 48,g 49,g 50,g 51,g 52,g 53,g 54,g 55,g 56,g 57,g 58,g 59,g 60,g 61,g 62,g 63,g 64,g 65,g 66,g 67,g 68,g 69,g 70,g 71,g 72,g 73,g 74,g 75,g 76,g 77,g 78,g 79,g 80,g 81,g 82,g 83,g 84,g 85,g 86,g 87,g 88,g 89,g 90,g 91,g 92,g 93,g 94,g 95,g 96,g 97,g 98,g 99,g 100,g 101,g 102,g 103,g 104,g 105,g 106,g 107,g 108,g 109,g 110,g 111,g 112,g 113,g 114,g 115,g 116,g 117,g 118,g 119,g 120,g 121,g 122,g 123,g 124,g 125,g 126,g 127,g 128,g 129,g 130,g 131,g 132,g 133,g 134,g 135,g 136,g 137,g 138,g 139,g 140,g 141,g 142,g 143,g 144,g 145,g 146,g 147,g 148,g 149,g 150,g 151,g 152,g 153,g 154,g 155,g 156,g 157,g 158,g 159,g 160,g 161,g 162,g 163,g 164,g 165,g 166,g 167,g 168,g 169,g 170,g 171,g 172,g 173,g 174,g 175,g 176,g 177,g 178,g 179,g 180,g 181,g 182,g 183,g 184,g 185,g 186,g 187,g 188,g 189,g 190,g 191,g 192,g 193,g 194,g 195,g 196,g 197,g 198,g 199,g 200,g 201,g 202,g 203,g 204,g 205,g 206,g 207,g 208,g 209,g 210,g 211,g 212,g 213,g 214,g 215,g 216,g 217,g 218,g 219,g 220,g 221,g 222,g 223,g 224,g 225,g 226,g 227,g 228,g 229,g 230,g 231,g 232,g 233,g 234,g 235,g 236,g 237,g 238,g 239,g 240,g 241,g 242,g 243,g 244,g 245,g 246,g 247,g 248,g 249,g 250,g 251,g 252,g 253,g 254,g 255,g 256,g 257,g 258,g 259,g 260,g 261,g 262,g 263,g 264,g 265,g 266,g 267,g 268,g 269,g 270,g 271,g 272,g 273,g 274,g 275,g 276,g 277,g 278,g 279,g 280,g 281,g 282,g 283,g 284,g 285,g 286,g 287,g 288,g 289,g 290,g 291,g 292,g 293,g 294,g 295,g 296,g 297,g 298,g 299,g 300,g 301,g 302,g 303,g 304,g 305,g 306,g 307,g 308,g 309,g 310,g 311,g 312,g 313,g 314,g 315,g 316,g 317,g 318,g 319,g 320,g 321,g 322,g 323,g 324,g 325,g 326,g 327,g 328,g 329,g 330,g 331,g 332,g 333,g 334,g 335,g 336,g 337,g 338,g 339,g 340,g 341,g 342,g 343,g 344,g 345,g 346,g 347,g 348,g 349,g 350,g 351,g 352,g 353,g 354,g 355,g 356,g 357],[]⟩:Act)
section
variable {w0 w ay:World} {aJ:Nat} {B s st:List Int} {lc af q:Int} {r t:List Int} {A:Option Addr} {n c:Nat} {v7:Value} {m:Nat}
theorem l8.mk{bn:Nat}{l:List Value}(an:l.length=358)(h0:l.getD 0 undef=.pointer (some ⟨aJ,0,none⟩))(h2:l.getD 2 undef=.string ⟨#[]⟩)(h3:l.getD 3 undef=.nilIface)(h4:l.getD 4 undef=.slice A n c)(h5:l.getD 5 undef=.int .u8 q)(h7:l.getD 7 undef=v7)(fo:n<bn)(h:lG w0 w ay aJ B s st lc af q r t A n c v7 m):l8 w0 w aJ B s st lc af q r bn ⟨l.toArray,[]⟩ ay:=by
 obtain⟨g,aw⟩:=M7 an h0 h2 h3 h4 h5 h7;exact⟨n,fo,A,c,v7,m,t,g,h,aw⟩
theorem Bo.mk{l:List Value}(an:l.length=358)(h0:l.getD 0 undef=.pointer (some ⟨aJ,0,none⟩))(h2:l.getD 2 undef=.string ⟨#[]⟩)(h3:l.getD 3 undef=.nilIface)(h4:l.getD 4 undef=.slice A n c)(h5:l.getD 5 undef=.int .u8 q)(h7:l.getD 7 undef=v7)(aU:t=[])(h:lG w0 w ay aJ B s st lc af q r t A n c v7 m):Bo w0 w aJ B s st lc af q r ⟨l.toArray,[]⟩ ay:=by
 obtain⟨g,aw⟩:=M7 an h0 h2 h3 h4 h5 h7;subst aU;exact⟨A,n,c,v7,m,g,h,aw⟩
end
def jR(w0:World)(w:World)(ay:World)(aJ:Nat)(B:List Int)(s:List Int)(st:List Int)(lc:Int)(af:Int)(q:Int)(r:List Int)(A:Option Addr)(n:Nat)(c:Nat)(v7:Value):Prop:=∀(g:Nat→Value) (iY gf jD gF:Act→World→Prop) (nF:∀a' w',l8 w0 w aJ B s st lc af q r n a' w'→iY a' w') (nG:∀a' w',Met iY a' w'→gf a' w') (qA:∀a' w',Bo w0 w aJ B s st lc af q r a' w'→jD a' w') (qB:∀a' w',Met jD a' w'→gF a' w'),Wr.wp Tryz.prog (Exit.then gf (Exit.inBlock 0 (Exit.then gF (bodyPost Tryz.prog Tryz.f87 (zg w0 w aJ B s st lc af q r))))) (⟨List.toArray (.pointer (some ⟨aJ,0,none⟩)::g 1::.string ⟨#[]⟩::.nilIface::.slice A n c::.int .u8 q::g 6::v7::xH g ([])),[]⟩:Act) ay
end fx
