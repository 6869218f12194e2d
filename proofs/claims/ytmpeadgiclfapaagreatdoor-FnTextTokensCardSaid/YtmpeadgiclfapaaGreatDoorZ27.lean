/- Part 25 of the proof (Pc4, Dx0, Dx1). Conditions: each theorem's own. -/
import Derived.Test.YtmpeadgiclfapaaGreatDoorZ26
set_option linter.all false
set_option maxHeartbeats 0
set_option maxRecDepth 100000
namespace Go.Proofs.YtmpeadgiclfapaaGreatDoor
namespace gi
open RowKit YtmpeadgiclfapaaGreatDoorW.PrintWords YtmpeadgiclfapaaGreatDoorW.PrintLast YtmpeadgiclfapaaGreatDoorW.PrintMore ei cP gJ eI eC j6
theorem Kt{W:World}{A:Option Addr}{n c:Nat}{xs:List Int}(h:dZ W A n c xs)(bG:∀x∈xs,0≤x∧x<256)(aq:n≤100000):
 Calls Tryz.prog 61 #[.slice A n c] W fun e w'=>e=.returned (iy xs)∧Below W.heap.size W w':=by
 have bU:=I h;have bV:=I (And.intro aq h.dN);have fq:=I bG
 by_cases aG:n=0
 ·subst aG;have dz:=I (show iy xs=.agg #[.int .u8 0,.bool false,.int .i64 0,.int .i64 0]by rw[show xs=[]from List.eq_nil_of_length_eq_zero h.dN.symm];rfl);clear h aq bG
  go_enter Tryz.func61,Tryz.ntmps61
  go_wp2_with fail
  exact bodyPost_ret (v:=.agg #[.int .u8 0,.bool false,.int .i64 0,.int .i64 0]) (by simp[results,Tryz.results61,go_sem]) rfl ⟨by rw[dz.1],(Below.refl _ _).alloc (Nat.le_refl _) _⟩
 have vC:=I (show 0<n by omega);have bn:((n:Int)==0)=false:=beq_eq_false_iff_ne.mpr (by omega);have c8:=eq_true (show(0:Int)<(n:Int)by omega);have dm:=eq_true (show 0<n by omega);clear bG h;go_enter Tryz.func61,Tryz.ntmps61
 go_upto_region 5 with fail
 have az:(W.alloc (.cells #[.int .u8 0,.bool false,.int .i64 0,.int .i64 0] 75)).heap[W.heap.size]?=some (.cells #[.int .u8 0,.bool false,.int .i64 0,.int .i64 0] 75 (0,0)):=heap_alloc_new W _;have jM:Below W.heap.size W (W.alloc (.cells #[.int .u8 0,.bool false,.int .i64 0,.int .i64 0] 75)):=(Below.refl _ _).alloc (Nat.le_refl _) _;generalize W.alloc (.cells #[.int .u8 0,.bool false,.int .i64 0,.int .i64 0] 75)=cJ at az jM⊢;have hw:Hw W cJ:=⟨jM,(bg az 0),(bg az 1),(bg az 2),(bg az 3),fy az 0,fy az 1,fy az 2,fy az 3⟩;have aC:=I jM;have aT:=hw.aT;have bh:=hw.bh;have bA:=hw.bA;have y3:=hw.y3;have z0:=hw.z0;have cp:=hw.cp;have z2:=hw.z2;have z3:=hw.z3;have bT:=I hw;have bU:=I (bU.1.below jM);clear az jM hw;obtain⟨bt,bR,rfl,w0⟩:=bU.1.cell 0 vC.1;rw[Nat.add_zero]at w0;obtain⟨x,ae⟩:∃x,x=rd (xs) ((0:Nat):Int):=⟨_,rfl⟩;rw[←ae]at w0;have jb:=I (show(xs)=x::(xs).drop 1 by have:=gz (xs) 0 (by rw[←bU.1.dN];exact vC.1);rw[List.drop_zero]at this;rw[ae];exact this);clear ae;obtain⟨ao,c3,fV,hr⟩:=bU.1.from_ 1 (by have:=vC.1;omega);have bl:=I hr;have bs:∀aQ:World,(Instr.slice 22 (.slice (some ⟨bt,bR,none⟩) n c) (some (.int .i64 1)) none none).run Tryz.prog aQ=.ok (.slice ao (n-1) c3) aQ:=fV;clear hr fV
 go_upto_if 22 with fail
 refine wp_cut (fun a' w'=>∃(bd:Option Addr) (m0 c1 sz:Nat),0<m0∧dZ cJ bd m0 c1 (kF xs)∧sz+(kF xs).length=xs.length∧cJ=w'∧∃aa:Nat→Value,a'=(⟨List.toArray (aa 0::aa 1::.pointer (some ⟨W.heap.size,0,none⟩)::.int .u8 (0)::.int .i64 ((sz:Nat))::.bool (a8 xs 45)::.slice bd m0 c1::.int .i64 ((hY xs:Nat):Int)::vX aa ([])),[]⟩:Act)) ?_ ?_
 rotate_left
 ·intro ec dc dD dE;by_cases ae:x=45
  ·have dW:=I (show a8 xs 45=true by rw[jb.1,ae];rfl);have a1:(x==45)=true:=beq_iff_eq.mpr ae;have Bk:=I (show kF xs=bc false (xs.drop 1)by unfold kF;rw[if_pos dW.1]);have s6:=I (show hY xs=xs.length-1-(kF xs).length by unfold hY;rw[if_pos dW.1,Bk.1]);clear ae
   go_upto_region 14 with(first|(go_at_call 56;refine(afm bl.1 (fun z aG=>fq.1 z (List.mem_of_mem_drop aG)) (by have:=bV.1;omega) 0 (Nat.zero_le _)).mono ?_;rintro bk wd ⟨bF,m1,c5,rfl,rfl,bO⟩))
   rw[List.drop_zero,←Bk.1]at bO;have dP:=I bO;have k1:=I (show m1≤n-1 by rw[bO.dN,Bk.1,bV.1.2];have:=kC (xs.drop 1) false;rw[List.length_drop]at this;exact this);have hX:wrap64 ((0:Int)+1)=1:=by unfold wrap64;omega
   have q3:wrap64 (((n-1:Nat):Int)-(m1:Int))=(hY xs:Nat):=by have h0:=k1.1;have h1:=bV.1;have h2:=s6.1;have h3:=dP.1.dN;have h4:=vC.1;unfold wrap64;omega
   have VL:wrap64 ((1:Int)+(hY xs:Nat))=((1+hY xs:Nat):Int):=by have h0:=k1.1;have h1:=bV.1;have h2:=s6.1;have h3:=dP.1.dN;unfold wrap64;omega
   have iw:=I q3;have afG:=I VL;clear bO;by_cases hm:m1=0
   ·subst hm;have dz:=I (show iy xs=.agg #[.int .u8 0,.bool false,.int .i64 0,.int .i64 0]by unfold iy ht;rw[show kF xs=[]from List.eq_nil_of_length_eq_zero dP.1.dN.symm];rfl);exact Cp
   ·have m2:((m1:Int)==0)=false:=beq_eq_false_iff_ne.mpr (by omega);have DR:=I (show 0<m1 by omega);clear hm
    go_wp2_with fail
    refine Met.intro ?_;go_step;exact⟨bF,m1,c5,1+hY xs,DR.1,dP.1,(by have h0:=k1.1;have h1:=bV.1;have h2:=s6.1;have h3:=dP.1.dN;have h4:=vC.1;omega),rfl,MD aM rfl rfl (by first|rfl|exact congrArg _ afG.1|(simp;done)) (by rw[dW.1];rfl) rfl zE⟩
  ·have dW:=I (show a8 xs 45=false by rw[jb.1];simp[a8,ae]);have a1:(x==45)=false:=beq_eq_false_iff_ne.mpr ae;have Bk:=I (show kF xs=xs by unfold kF;rw[if_neg (by rw[dW.1];decide)]);have s6:=I (show hY xs=0 by unfold hY;rw[if_neg (by rw[dW.1];decide)]);clear ae
   go_wp2_with fail
   refine Met.intro ?_;go_step;exact⟨_,n,c,0,vC.1,(by rw[Bk.1];exact bU.1),(by rw[Bk.1,Nat.zero_add]),rfl,MD aM rfl rfl rfl (by rw[dW.1];rfl) rfl (by rw[s6.1];rfl)⟩
 ·rintro _ _ ⟨bd,m0,c1,sz,hm,aZ,dd,rfl,g0,rfl⟩;refine qg ?_;go_step;exact afF g0 bT.1 (by rw[←bV.1.2];exact bV.1.1) aZ rfl dd hm
end gi
namespace fx
open RowKit YtmpeadgiclfapaaGreatDoorW.PrintWords YtmpeadgiclfapaaGreatDoorW.PrintLast YtmpeadgiclfapaaGreatDoorW.PrintMore ei cP gJ eI eC gi
structure DV where
 at_:Int
 kU:Int
 po:Int
 Hy:Value
 str:ByteArray
 VM:Value
 vD:Option Addr
 cs:Nat
 xd:Option Addr
 co:Nat
 gX:Option Addr
 ci:Nat
def VN(f:DV)(lc af:Int)(ns no afH:Nat):Array Value:=
 #[.int .u8 lc, .int .u8 af, .int .u8 f.at_, .int .u8 f.kU, .int .i64 f.po, f.Hy, .string f.str, f.VM, .slice f.vD ns f.cs, .slice f.xd no f.co, .slice f.gX afH f.ci]
structure ir(w0 w:World)(g:Nat)(B s st:List Int)(lc af:Int)(f:DV):Prop where
 ft:w.heap[g]?=some (.cells (VN f lc af st.length B.length s.length) 56 (0,0))
 ge:w0.heap.size≤g
 bu:Below w0.heap.size w0 w
 pQ:dZ w0 f.xd B.length f.co B
 gm:dZ w0 f.gX s.length f.ci s
 jE:∃m,s=B.drop m
 hS:ab.R (ab.int .u8) 5 w w0.heap.size (fun k=>k≠g) (.slice f.vD st.length f.cs) st
 sz:B.length≤100000
 sl:st.length≤200000
 lP:∀x∈B,0≤x∧x<256
def dK(w0 w:World)(g:Nat)(B s st:List Int)(lc af:Int):Prop:=∃f,ir w0 w g B s st lc af f
section
variable {w0 w w1:World} {g:Nat} {B s st:List Int} {lc af:Int} {f:DV}
theorem ir.below(h:ir w0 w g B s st lc af f)(U:Below w.heap.size w w1):ir w0 w1 g B s st lc af f:=
 ⟨cn h.ft U,h.ge,dq h.bu h.bu.size U,h.pQ,h.gm,h.jE,ab.nZ h.hS U,h.sz,h.sl,h.lP⟩
theorem dK.below(h:dK w0 w g B s st lc af)(U:Below w.heap.size w w1):dK w0 w1 g B s st lc af:=by
 obtain⟨f,aA⟩:=h;exact⟨f,aA.below U⟩
theorem dK.drewN(h:dK w0 w g B s st lc af)(m:Nat):dK w0 (w.drewN m) g B s st lc af:=h.below (jI (Below.refl _ _) m)
theorem dK.drew(h:dK w0 w g B s st lc af):dK w0 w.drew g B s st lc af:=h.below (kH (Below.refl _ _))
section
variable (h:ir w0 w g B s st lc af f)
include h
theorem ir.lt:g<w.heap.size:=sv h.ft
theorem ir.c(i:Nat):w.cell? ⟨g,i,none⟩=(VN f lc af st.length B.length s.length)[i]?:=bg h.ft i
theorem ir.z(i:Nat):w.frozen? ⟨g,i,none⟩=false:=fy h.ft i
theorem ir.c3:w.cell? ⟨g,8,none⟩=some (.slice f.vD st.length f.cs):=(h.c 8).trans rfl
theorem ir.c4:w.cell? ⟨g,9,none⟩=some (.slice f.xd B.length f.co):=(h.c 9).trans rfl
theorem ir.c5:w.cell? ⟨g,10,none⟩=some (.slice f.gX s.length f.ci):=(h.c 10).trans rfl
theorem ir.c0:w.cell? ⟨g,0,none⟩=some (.int .u8 lc):=(h.c 0).trans rfl
theorem ir.c1:w.cell? ⟨g,1,none⟩=some (.int .u8 af):=(h.c 1).trans rfl
theorem ir.VO{A:Option Addr}{n c:Nat}{eW:List Int}(aZ:dZ w0 A n c eW)(ak:∃m,eW=B.drop m):
 ir w0 (w.setCell ⟨g,10,none⟩ (.slice A n c)) g B eW st lc af {f with gX:=A,ci:=c}:=by
 obtain⟨hC,rfl,ai⟩:=aZ;exact⟨j7 h.ft 10 _ rfl,h.ge,h.bu.setCell h.ge _,h.pQ,⟨hC,rfl,ai⟩,ak,ab.mo h.hS (fun _ ad=>ad) _,h.sz,h.sl,h.lP⟩
theorem ir.DW(x:Int):ir w0 (w.setCell ⟨g,0,none⟩ (.int .u8 x)) g B s st x af f:=
 ⟨j7 h.ft 0 _ rfl,h.ge,h.bu.setCell h.ge _,h.pQ,h.gm,h.jE,ab.mo h.hS (fun _ ad=>ad) _,h.sz,h.sl,h.lP⟩
end
theorem dK.bytes(h:dK w0 w g B s st lc af):∀x∈s,0≤x∧x<256:=by
 obtain⟨f,aA⟩:=h;obtain⟨m,rfl⟩:=aA.jE;exact fun x ae=>aA.lP x (List.mem_of_mem_drop ae)
theorem dK.len(h:dK w0 w g B s st lc af):s.length≤B.length∧B.length≤100000:=by
 obtain⟨f,aA⟩:=h;obtain⟨m,rfl⟩:=aA.jE;exact⟨Fp,aA.sz⟩
end
theorem MI{B s:List Int}(h:∃m,s=B.drop m)(n:Nat):∃m,bc false (s.drop n)=B.drop m:=by
 obtain⟨m,rfl⟩:=h;obtain⟨k,_,ad⟩:=pL ((B.drop m).drop n) false;exact⟨m+(n+k),(by rw[ad,List.drop_drop,List.drop_drop])⟩
structure c6(w0 w w':World)(g:Nat)(B s st:List Int)(lc af:Int):Prop where
 d:dK w0 w' g B s st lc af
 k:cI w w' g none
def vE(w:World)(b t:Nat):Prop:=∃cells,w.heap[b]?=some (.cells cells t (0,0))
section
variable {w0 w w1 bf:World} {g b t:Nat} {B s st:List Int} {lc af:Int}
theorem vE.set(h:vE w b t)(j:Nat)(u:Value):vE (w.setCell ⟨b,j,none⟩ u) b t:=by
 obtain⟨cells,U⟩:=h;exact⟨_,j7 U j u rfl⟩
theorem dK.jF(h:dK w0 w g B s st lc af)(U:vE w b t)(aU:5≠t)(aw:b≠g)(an:w0.heap.size≤b)(j:Nat)(u:Value):dK w0 (w.setCell ⟨b,j,none⟩ u) g B s st lc af:=by
 obtain⟨f,aA⟩:=h;obtain⟨cells,U⟩:=U;exact⟨f,(Below.heap_setCell w ⟨b,j,none⟩ u g (fun e=>aw e.symm)).trans aA.ft,aA.ge,aA.bu.setCell an u,aA.pQ,aA.gm,aA.jE,ab.Yo aA.hS U (fun q ar=>by simp only[ab.int,ab.scalar,List.mem_singleton]at ar;subst ar;exact aU) j u,aA.sz,aA.sl,aA.lP⟩
theorem dK.ge(h:dK w0 w g B s st lc af):w0.heap.size≤g:=by obtain⟨f,aA⟩:=h;exact aA.ge
theorem dK.lt(h:dK w0 w g B s st lc af):g<w.heap.size:=by obtain⟨f,aA⟩:=h;exact aA.lt
theorem c6.jF(h:c6 w0 w w1 g B s st lc af)(U:vE w1 b t)(aU:5≠t)(aw:b≠g)(an:w0.heap.size≤b)(hw:w.heap.size≤b)(j:Nat)(u:Value):c6 w0 w (w1.setCell ⟨b,j,none⟩ u) g B s st lc af:=
 ⟨h.d.jF U aU aw an j u,YO h.k hw u⟩
theorem c6.below(h:c6 w0 w w1 g B s st lc af)(U:Below w1.heap.size w1 bf):c6 w0 w bf g B s st lc af:=⟨h.d.below U,h.k.trans (cI.kn U g none) (.inl rfl)⟩
theorem c6.drewN(h:c6 w0 w w1 g B s st lc af)(m:Nat):c6 w0 w (w1.drewN m) g B s st lc af:=h.below (jI (Below.refl _ _) m)
theorem dK.here(h:dK w0 w g B s st lc af):c6 w0 w w g B s st lc af:=⟨h,cI.refl _ _ _⟩
theorem c6.after{eW fa:List Int}{xe sq:Int}(h:cI w w1 g none)(k:c6 w0 w1 bf g B eW fa xe sq):c6 w0 w bf g B eW fa xe sq:=⟨k.d,h.trans k.k (.inl rfl)⟩
theorem Ab(h:dK w0 w g B s st lc af)(k:Nat)(ad:k≤s.length):
 Calls Tryz.prog 43 #[.pointer (some ⟨g,0,none⟩),.int .i64 (k:Int)] w fun e w'=>e=.returned (.tuple #[])∧c6 w0 w w' g B (bc false (s.drop k)) st lc af:=by
 have bG:=h.bytes;have cb:=h.len;obtain⟨f,aA⟩:=h;have dz:=I aA;have c5:=aA.c5;have z0:=aA.z 10;have fq:=I bG
 have bV:=I (show s.length≤100000 by omega);have aV:=I ad;clear aA bG cb ad;go_enter Tryz.func43,Tryz.ntmps43
 go_wp2_with(first|(go_at_call 56;refine(Gb dz.1.gm dz.1.bu fq.1 bV.1 k aV.1).mono ?_;rintro bk w1 ⟨ao,bn,c9,rfl,rfl,bO⟩;have bl:=I bO;clear bO))
 refine tf ?_;exact⟨rfl,⟨_,dz.1.VO bl.1 (MI dz.1.jE k)⟩,(cI.refl _ _ _).zs _ _⟩
end
section
variable {w0 w:World} {g:Nat} {B s st:List Int} {lc af:Int}
def afI(w0 w:World)(g:Nat)(B s st:List Int)(lc af c:Int)(e:Ending)(w':World):Prop:=e=.returned (.bool (a8 s c))∧c6 w0 w w' g B (if a8 s c=true then bc false (s.drop 1)else s) st lc af
theorem VP(h:dK w0 w g B s st lc af)(c:Int):
 Calls Tryz.prog 58 #[.pointer (some ⟨g,0,none⟩),.int .u8 c] w (afI w0 w g B s st lc af c):=by
 have cf:=I h;have cb:=h.len;obtain⟨f,aA⟩:=h;have dz:=I aA;have c5:=aA.c5;cases ak:s with
 |nil=>
  subst ak;rw[show([]:List Int).length=0 from rfl]at c5;have gE:=I cb;clear aA cb;go_enter Tryz.func58,Tryz.ntmps58
  go_wp2_with fail
  go_ret;exact⟨rfl,cf.1.here⟩
 |cons x r=>
  subst ak;have ke:=aA.gm.below aA.bu;obtain⟨b,o,rj,ae⟩:=ke.cell 0 (by simp);rw[Nat.add_zero,show rd (x::r) ((0:Nat):Int)=x from rfl]at ae;rw[rj]at c5;rw[show(x::r).length=r.length+1 from rfl]at c5;obtain⟨n,aq⟩:∃n,n=r.length+1:=⟨_,rfl⟩;rw[←aq]at c5;have bn:decide ((n:Int)>0)=true:=decide_eq_true (by omega);have c8:=eq_true (show(0:Int)<(n:Int)by omega);have dm:=eq_true (show 0<n by omega);have gE:=I (And.intro cb (And.intro aq rj));clear aA cb aq rj ke;by_cases ai:x=c
  ·have q:(x==c)=true:=beq_iff_eq.mpr ai;have fz:=I (show a8 (x::r) c=true by simp only[a8];exact q);clear ai;go_enter Tryz.func58,Tryz.ntmps58
   go_wp2_with(first|(go_at_call 43;refine(Ab cf.1 1 (by simp)).mono ?_;rintro bk w1 ⟨rfl,h0⟩;have dO:=I h0;clear h0))
   go_ret;exact⟨(by rw[fz.1];rfl),(by rw[fz.1,if_pos rfl];exact dO.1)⟩
  ·have q:(x==c)=false:=beq_eq_false_iff_ne.mpr ai;have fz:=I (show a8 (x::r) c=false by simp only[a8];exact q);clear ai;go_enter Tryz.func58,Tryz.ntmps58
   go_wp2_with fail
   go_ret;exact⟨(by rw[fz.1];rfl),(by rw[fz.1,if_neg (by decide)];exact cf.1.here)⟩
def MJ(w:World)(e:Ending)(w':World):Prop:=(∃t v,e=.returned (.iface t v))∧Below w.heap.size w w'
theorem afJ(w:World)(str:ByteArray)(A:Value):Calls Tryz.prog 68 #[.string str,A] w (MJ w):=by
 go_enter Tryz.func68,Tryz.ntmps68
 go_wp2_with fail
 go_ret;exact⟨⟨_,_,rfl⟩,(Below.refl _ _).alloc (Nat.le_refl _) _⟩
theorem FD(w:World)(d:Value)(str:ByteArray)(ak:str.size≤1000)(A:Value):Calls Tryz.prog 51 #[d,.string str,A] w (MJ w):=by
 have ar:=eq_false (show¬9223372036854775807<14+str.size by omega);go_enter Tryz.func51,Tryz.ntmps51
 go_wp2_with(first|(go_at_call 68;refine(afJ _ _ _).mono ?_;rintro bk w0 ⟨⟨t0,v0,rfl⟩,az⟩;have aC:=I az;clear az))
 go_ret;exact⟨⟨_,_,rfl⟩,aC.1⟩
def eF:List Int→Int×Int
 |[]=>(0,0)
 |o::_=>if o=91 then(6,93)else(4,lC o)
def hV(st:List Int):Prop:=∀c∈st,c=123∨c=60∨c=91
def afK(w0 w:World)(g:Nat)(B s st:List Int)(lc af:Int)(e:Ending)(w':World):Prop:=e=.returned (.tuple #[.int .u8 (eF st.reverse).1,.int .u8 (eF st.reverse).2])∧c6 w0 w w' g B s st lc af
theorem abc(h:dK w0 w g B s st lc af)(dA:hV st):
 Calls Tryz.prog 48 #[.pointer (some ⟨g,0,none⟩)] w (afK w0 w g B s st lc af):=by
 have cf:=I h;obtain⟨f,aA⟩:=h;have c3:=aA.c3;rcases List.eq_nil_or_concat st with ak|⟨ru,o,ak⟩
 ·subst ak;rw[show([]:List Int).length=0 from rfl]at c3;clear aA dA;go_enter Tryz.func48,Tryz.ntmps48
  go_wp2_with fail
  go_ret2;exact⟨rfl,cf.1.here⟩
 ·rw[List.concat_eq_append]at ak;have hlen:st.length=ru.length+1:=by rw[ak];simp
  have VQ:st.reverse=o::ru.reverse:=by rw[ak];simp
  obtain⟨_,pN,hC⟩:=ab.pt aA.hS;obtain⟨cc,rj,ae⟩:=ab.iV hC (ru.length:Int) (by omega) (by omega);have oe:rd st (ru.length:Int)=o:=by rw[ak];simp[rd]
  rw[oe,Int.toNat_natCast]at ae;rw[rj,hlen]at c3;obtain⟨n,aq⟩:∃n,n=ru.length:=⟨_,rfl⟩;rw[←aq]at c3 ae;have aY:=dA o Fw;have ev:n<200000:=by have:=aA.sl;omega
  have gE:=I VQ;have aD:wrap64 (((n+1:Nat):Int)-1)=(n:Int):=by unfold wrap64;omega
  have bn:(((n+1:Nat):Int)==0)=false:=beq_eq_false_iff_ne.mpr (by omega);clear aA dA hC hlen VQ pN aq oe;subst ak;rcases aY with rfl|rfl|rfl
  all_goals(
   go_enter Tryz.func48,Tryz.ntmps48
   go_wp2_with fail
   repeat(go_quiet(fail);try go_wp2_with(fail))
   go_ret2;exact⟨(by rw[gE.1];rfl),cf.1.here.drewN _⟩)
end
end fx
