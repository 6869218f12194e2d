/- Part 27 of the proof (Nv0). Conditions: each theorem's own. -/
import Derived.Test.YtmpeadgiclfapaaGreatDoorZ28
import Derived.Deep.RegionHeld3
set_option linter.all false
set_option maxHeartbeats 0
set_option maxRecDepth 100000
namespace Go.Proofs.YtmpeadgiclfapaaGreatDoor
namespace fx
open RowKit YtmpeadgiclfapaaGreatDoorW.PrintWords YtmpeadgiclfapaaGreatDoorW.PrintLast YtmpeadgiclfapaaGreatDoorW.PrintMore ei cP gJ eI eC gi
theorem bw{b:Nat}{w w1 bf:World}(h:Below b w w1)(dw:b≤w.heap.size)(k:Below w1.heap.size w1 bf):Below b w bf:=dq h (Nat.le_trans dw h.size) k
theorem nT(kb:World)(b:Nat)(v0 v1 v2 v3 v4 v5:Value)(a:Nat)(h:a≠b):
 ((((((kb.setCell ⟨b,0,none⟩ v0).setCell ⟨b,1,none⟩ v1).setCell ⟨b,2,none⟩ v2).setCell ⟨b,3,none⟩ v3).setCell ⟨b,4,none⟩ v4).setCell ⟨b,5,none⟩ v5).heap[a]?=kb.heap[a]?:=by
 rw[Below.heap_setCell _ _ _ _ h,Below.heap_setCell _ _ _ _ h,Below.heap_setCell _ _ _ _ h,Below.heap_setCell _ _ _ _ h,Below.heap_setCell _ _ _ _ h,Below.heap_setCell _ _ _ _ h]
theorem Bl{kb:World}{b t:Nat}{a0 cg a2 a3 a4 a5:Value}(h:kb.heap[b]?=some (.cells #[a0,cg,a2,a3,a4,a5] t (0,0)))(v0 v1 v2 v3 v4 v5:Value):
 ((((((kb.setCell ⟨b,0,none⟩ v0).setCell ⟨b,1,none⟩ v1).setCell ⟨b,2,none⟩ v2).setCell ⟨b,3,none⟩ v3).setCell ⟨b,4,none⟩ v4).setCell ⟨b,5,none⟩ v5).heap[b]?=some (.cells #[v0,v1,v2,v3,v4,v5] t (0,0)):=
 j7 (j7 (j7 (j7 (j7 (j7 h 0 v0 rfl) 1 v1 rfl) 2 v2 rfl) 3 v3 rfl) 4 v4 rfl) 5 v5 rfl
theorem afW{m:List Int}{k:Int}{r:List Int}(h:kl m=some (k,r)):∃c t,m=c::t∧c≠102∧c≠70:=by
 cases m with
 |nil=>
  exfalso;unfold kl at h;simp[a8]at h
 |cons c t=>
  refine⟨c,t,rfl,?_⟩;unfold kl at h;by_cases h0:a8 (c::t) 48=true
  ·simp only[a8,beq_iff_eq]at h0;omega
  ·rw[if_neg h0]at h;by_cases h1:c::t≠[]∧49≤a6 (c::t) 0∧a6 (c::t) 0≤57
   ·obtain⟨_,h2,h3⟩:=h1;have:a6 (c::t) 0=c:=rfl;omega
   ·rw[if_neg h1]at h;by_cases h2:a8 (c::t) 46=true
    ·simp only[a8,beq_iff_eq]at h2;omega
    ·rw[if_neg h2]at h;cases h
theorem afX{s:List Int}{k:Int}{r:List Int}(h:ht s=some (k,r))(aq:a8 s 45=true):
 hY s+2≤s.length-r.length∧(k=4→rd s ((s.length-r.length:Nat)-1:Int)=102∨rd s ((s.length-r.length:Nat)-1:Int)=70→hY s+3≤s.length-r.length):=by
 have h0:kl (kF s)=some (k,r):=h;have fo:=Vn h0;obtain⟨c,t,hm,ai⟩:=afW h0
 have ak:0<s.length:=by cases s with
  |nil=>cases aq
  |cons a b=>simp
 have MV:kF s=bc false (s.drop 1):=by unfold kF;rw[if_pos aq]
 have hle:=kC (s.drop 1) false;rw[List.length_drop]at hle;have hp:hY s=s.length-1-(kF s).length:=by unfold hY;rw[if_pos aq,MV]
 have VY:(kF s).length≤s.length-1:=by rw[MV];exact hle
 refine⟨(by omega),fun _ ae=>?_⟩;rcases Nat.lt_or_ge (r.length+1) (kF s).length with h2|h2
 ·omega
 ·exfalso;have au:r.length+1=(kF s).length:=by omega
  obtain⟨j,_,bq⟩:=pL (s.drop 1) false;have vw:kF s=s.drop (s.length-(kF s).length):=(yV s (1+j) (kF s) (by rw[MV,bq,List.drop_drop])).symm
  have aW:rd s (((s.length-r.length:Nat):Int)-1)=c:=by
   rw[show((s.length-r.length:Nat):Int)-1=((s.length-(kF s).length:Nat):Int)by omega];have h1:s.drop (s.length-(kF s).length)=c::t:=vw.symm.trans hm;have h3:=gz s (s.length-(kF s).length) (by omega);rw[h1]at h3;simp only[List.cons.injEq]at h3;exact h3.1.symm
  rw[aW]at ae;rcases ae with ae|ae
  ·exact ai.1 ae
  ·exact ai.2 ae
def VZ(w0 w:World)(g:Nat)(B s st:List Int)(lc af:Int)(e:Ending)(w':World):Prop:=
 (ht s=none→e=.returned (.tuple #[eA,.bool false])∧c6 w0 w w' g B s st lc af)∧
 (∀k r,ht s=some (k,r)→∃A c str kU,e=.returned (.tuple #[.agg #[.int .u8 3,.int .u8 1,.int .u8 kU,.int .i64 ((B.length-s.length:Nat):Int),.slice A (s.length-r.length) c,.string str],.bool true])∧dZ w0 A (s.length-r.length) c (s.take (s.length-r.length))∧c6 w0 w w' g B (bc false (s.drop (s.length-r.length))) st lc af)
section
variable {w0 w w1:World} {g b:Nat} {B s st:List Int} {lc af:Int}
theorem afY(h:dK w0 w g B s st lc af)(hp:ht s=none):
 Calls Tryz.prog 67 #[.pointer (some ⟨g,0,none⟩)] w (VZ w0 w g B s st lc af):=by
 refine Tf ?_;intro cb bG cf bS fh f aA;have c5:=aA.c5;have bU:=I (aA.gm.below aA.bu);refine KN ?_;intro bz;have cr:=I hp;have dz:=I (show iy s=.agg #[.int .u8 0,.bool false,.int .i64 0,.int .i64 0]by unfold iy;rw[hp]);clear aA h cb bG hp;go_enter Tryz.func67,Tryz.ntmps67
 go_wp2_with(first|(refine Ku ?_;intro w1 az aC;have bj:=I (cn bz.1 az);have hE:=I (iU bj.1 (.cells #[.int .u8 0,.bool false,.int .i64 0,.int .i64 0] 75));obtain⟨d0,d1,d2,d3,d4,d5⟩:=kZ hE.1;have z0:=fy hE.1 0;have cp:=fy hE.1 1;have z2:=fy hE.1 2;have z3:=fy hE.1 3;have z4:=fy hE.1 4;have z5:=fy hE.1 5;clear az))
 refine bodyPost_ret (v:=.tuple #[eA,.bool false]) (by simp[results,Tryz.results67,go_sem,eA,d0,d1,d2,d3,d4,d5,z0,cp,z2,z3,z4,z5]) rfl ⟨fun _=>⟨rfl,?_⟩,fun k r h=>by rw[cr.1]at h;cases h⟩;exact c6.gg (((cf.1.here.below (da (Below.refl _ _) _)).below aC.1).below (da (Below.refl _ _) _)) ⟨_,hE.1⟩ cA cA (Nat.le_refl _) _ _ _ _ _ _
theorem afZ(h:dK w0 w g B s st lc af)(er:Int)(r:List Int)(hp:ht s=some (er,r)):
 Calls Tryz.prog 67 #[.pointer (some ⟨g,0,none⟩)] w (VZ w0 w g B s st lc af):=by
 refine Tf ?_;intro cb bG cf bS fh f aA;have V0:=aA;have c5:=aA.c5;have bU:=I (aA.gm.below aA.bu);have r8:=I (And.intro aA.gm aA.bu);refine KN ?_;intro bz;have cr:=I hp;have MW:=Vp hp;obtain⟨sz,dd⟩:∃sz,sz=s.length-r.length:=⟨_,rfl⟩;have dz:=I (show iy s=.agg #[.int .u8 er,.bool (a8 s 45),.int .i64 (sz:Int),.int .i64 (hY s:Nat)]by unfold iy;rw[hp,dd]);have dS:=I (And.intro dd MW);have q:=eq_false (show¬(sz:Int)=0 by omega);have a1:((sz:Int)==0)=false:=beq_eq_false_iff_ne.mpr (by omega);obtain⟨hcut,nL⟩:=aA.gm.pI sz (by omega);refine S1 ?_;intro x3 pos oE eu;have aki:IntKind.i64.wrap ((B.length:Int)-(s.length:Int))=(pos:Int):=by rw[IntKind.wrap_i64];omega
 have s6:=I oE;obtain⟨HD,MX⟩:∃HD,HD=a8 s 45:=⟨_,rfl⟩;rw[←MX]at dz;obtain⟨sp,gr⟩:∃sp,sp=hY s:=⟨_,rfl⟩;rw[←gr]at dz;have lM:=I (show HD=true→sp+2≤sz∧(er=4→rd s ((sz:Int)-1)=102∨rd s ((sz:Int)-1)=70→sp+3≤sz)from fun e=>by have:=afX hp (MX.symm.trans e);rw[gr,dd];exact this);clear aA h cb bG hp dd MW nL oE MX gr;have aaU:=I V0;clear V0;cases HD
 ·go_enter Tryz.func67,Tryz.ntmps67
  go_upto_region 8 with(first|(refine Ku ?_;intro w1 az aC;clear az))
  have eD:=gV w1 (.cells #[.int .u8 er,.bool false,.int .i64 (sz:Int),.int .i64 (sp:Int)] 75);have jM:Below w1.heap.size w1 (w1.alloc (.cells #[.int .u8 er,.bool false,.int .i64 (sz:Int),.int .i64 (sp:Int)] 75)):=da (Below.refl _ _) _;generalize w1.alloc (.cells #[.int .u8 er,.bool false,.int .i64 (sz:Int),.int .i64 (sp:Int)] 75)=cJ at eD jM⊢;refine SQ ?_;clear eD jM c5;intro lj oB bl im bM cd cY iC dY nK cR iz xX qU xY fG hx cM nE
  go_region_held3 (fun w'=>w'.cell? ⟨g,9,none⟩=some (.slice f.xd B.length f.co)∧w'.cell? ⟨g,10,none⟩=some (.slice f.gX s.length f.ci)∧w'.cell? ⟨iC,0,none⟩=some (.int .u8 er)∧w'.cell? ⟨iC,1,none⟩=some (.bool false)∧w'.cell? ⟨iC,2,none⟩=some (.int .i64 (sz:Int))∧w'.cell? ⟨iC,3,none⟩=some (.int .i64 (sp:Int)))
   (first|(simp[cd,cY,fG,hx,cM,nE];done)|(simp[fB,cD,gL,gZ,de,iI,iz,xX,qU,xY];done)|(with_reducible exact⟨(ao.1.below (da (Below.refl _ _) _)).c4,(ao.1.below (da (Below.refl _ _) _)).c5,(bg (iU lR.1 _) 0).trans rfl,(bg (iU lR.1 _) 1).trans rfl,(bg (iU lR.1 _) 2).trans rfl,(bg (iU lR.1 _) 3).trans rfl⟩)|go_keep)
   (first
   |(go_at_call 62;refine(HA (bl.1.below cX) pB er false sz sp zJ zJ (fun h=>lM.1 (by first|trivial|exact h))).mono ?_;refine TL ?_;intro bf ee str eP ao lR fB cD gL gZ de iI;(first|(refine S3 ?_;intro l9 aD bx db fO gW aE aT bh bA y3 y4 hg)|skip);clear ee))
  all_goals have xW:aN (c6 w0 w bf g B s st lc af):=I ⟨⟨f,ao.1⟩,cI.kn (bw (bw (bw (da (Below.refl _ _) _) (Nat.le_refl _) aC.1) Pf bM.1) Pe eP.1) g none⟩
  all_goals have JU:w.heap.size<w1.heap.size:=by have:=aC.1.size;have:(w.alloc (.cells #[.int .u8 0,.int .u8 0,.int .u8 0,.int .i64 0,.slice none 0 0,.string ⟨#[]⟩] 47)).heap.size=w.heap.size+1:=Array.size_push ..;omega
  all_goals have JV:w1.heap.size≤cJ.heap.size:=bM.1.size
  ·have kB:=I (iU (cn im.1 eP.1) (.cells #[.int .u8 3,.int .u8 1,.int .u8 (er),.int .i64 (pos:Int),.slice f.gX sz f.ci,.string str] 47));have tV:=I (gV bf (.cells #[.int .u8 3,.int .u8 1,.int .u8 (er),.int .i64 (pos:Int),.slice f.gX sz f.ci,.string str] 47));have vo:=I (xW.1.below (da (Below.refl _ _) (.cells #[.int .u8 3,.int .u8 1,.int .u8 (er),.int .i64 (pos:Int),.slice f.gX sz f.ci,.string str] 47)));have jc:=(bg (iU lR.1 (.cells #[.int .u8 3,.int .u8 1,.int .u8 (er),.int .i64 (pos:Int),.slice f.gX sz f.ci,.string str] 47)) 2).trans rfl;generalize bf.alloc (.cells #[.int .u8 3,.int .u8 1,.int .u8 (er),.int .i64 (pos:Int),.slice f.gX sz f.ci,.string str] 47)=ay at kB tV vo jc⊢;obtain⟨mb,xV⟩:∃mb,mb=bf.heap.size:=⟨_,rfl⟩;have xU:mb≠g:=by have:=ao.1.lt;omega
   exact Rf
  ·have kB:=I ((nT bf cJ.heap.size (.int .u8 3) (.int .u8 1) (.int .u8 (er)) (.int .i64 (pos:Int)) (.slice f.gX sz f.ci) (.string str) w.heap.size (by omega)).trans (cn im.1 eP.1));have tV:=I (Bl l9.1 (.int .u8 3) (.int .u8 1) (.int .u8 (er)) (.int .i64 (pos:Int)) (.slice f.gX sz f.ci) (.string str));have vo:=I (xW.1.gg ⟨_,l9.1⟩ (by have:=oB.1.lt;omega) (by have:=oB.1.lt;have:=oB.1.ge;omega) (by omega) (.int .u8 3) (.int .u8 1) (.int .u8 (er)) (.int .i64 (pos:Int)) (.slice f.gX sz f.ci) (.string str));have jc:=(bg ((nT bf cJ.heap.size (.int .u8 3) (.int .u8 1) (.int .u8 (er)) (.int .i64 (pos:Int)) (.slice f.gX sz f.ci) (.string str) iC (by omega)).trans lR.1) 2).trans rfl;generalize ((((((bf.setCell ⟨cJ.heap.size,0,none⟩ (.int .u8 3)).setCell ⟨cJ.heap.size,1,none⟩ (.int .u8 1)).setCell ⟨cJ.heap.size,2,none⟩ (.int .u8 (er))).setCell ⟨cJ.heap.size,3,none⟩ (.int .i64 (pos:Int))).setCell ⟨cJ.heap.size,4,none⟩ (.slice f.gX sz f.ci)).setCell ⟨cJ.heap.size,5,none⟩ (.string str))=ay at kB tV vo jc⊢;obtain⟨mb,xV⟩:∃mb,mb=cJ.heap.size:=⟨_,rfl⟩;have xU:mb≠g:=by have:=oB.1.lt;omega
   exact Rf
 ·go_enter Tryz.func67,Tryz.ntmps67
  go_upto_region 8 with(first|(refine Ku ?_;intro w1 az aC;clear az))
  have eD:=gV w1 (.cells #[.int .u8 er,.bool true,.int .i64 (sz:Int),.int .i64 (sp:Int)] 75);have jM:Below w1.heap.size w1 (w1.alloc (.cells #[.int .u8 er,.bool true,.int .i64 (sz:Int),.int .i64 (sp:Int)] 75)):=da (Below.refl _ _) _;generalize w1.alloc (.cells #[.int .u8 er,.bool true,.int .i64 (sz:Int),.int .i64 (sp:Int)] 75)=cJ at eD jM⊢;refine SQ ?_;clear eD jM c5;intro lj oB bl im bM cd cY iC dY nK cR iz xX qU xY fG hx cM nE
  go_region_held3 (fun w'=>w'.cell? ⟨g,9,none⟩=some (.slice f.xd B.length f.co)∧w'.cell? ⟨g,10,none⟩=some (.slice f.gX s.length f.ci)∧w'.cell? ⟨iC,0,none⟩=some (.int .u8 er)∧w'.cell? ⟨iC,1,none⟩=some (.bool true)∧w'.cell? ⟨iC,2,none⟩=some (.int .i64 (sz:Int))∧w'.cell? ⟨iC,3,none⟩=some (.int .i64 (sp:Int)))
   (first|(simp[cd,cY,fG,hx,cM,nE];done)|(simp[fB,cD,gL,gZ,de,iI,iz,xX,qU,xY];done)|(with_reducible exact⟨(ao.1.below (da (Below.refl _ _) _)).c4,(ao.1.below (da (Below.refl _ _) _)).c5,(bg (iU lR.1 _) 0).trans rfl,(bg (iU lR.1 _) 1).trans rfl,(bg (iU lR.1 _) 2).trans rfl,(bg (iU lR.1 _) 3).trans rfl⟩)|go_keep)
   (first
   |(go_at_call 62;refine(HA (bl.1.below cX) pB er true sz sp zJ zJ (fun h=>lM.1 (by first|trivial|exact h))).mono ?_;refine TL ?_;intro bf ee str eP ao lR fB cD gL gZ de iI;(first|(refine S3 ?_;intro l9 aD bx db fO gW aE aT bh bA y3 y4 hg)|skip);clear ee))
  all_goals have xW:aN (c6 w0 w bf g B s st lc af):=I ⟨⟨f,ao.1⟩,cI.kn (bw (bw (bw (da (Below.refl _ _) _) (Nat.le_refl _) aC.1) Pf bM.1) Pe eP.1) g none⟩
  all_goals have JU:w.heap.size<w1.heap.size:=by have:=aC.1.size;have:(w.alloc (.cells #[.int .u8 0,.int .u8 0,.int .u8 0,.int .i64 0,.slice none 0 0,.string ⟨#[]⟩] 47)).heap.size=w.heap.size+1:=Array.size_push ..;omega
  all_goals have JV:w1.heap.size≤cJ.heap.size:=bM.1.size
  ·have kB:=I (iU (cn im.1 eP.1) (.cells #[.int .u8 3,.int .u8 1,.int .u8 (bits .or .u8 er 128),.int .i64 (pos:Int),.slice f.gX sz f.ci,.string str] 47));have tV:=I (gV bf (.cells #[.int .u8 3,.int .u8 1,.int .u8 (bits .or .u8 er 128),.int .i64 (pos:Int),.slice f.gX sz f.ci,.string str] 47));have vo:=I (xW.1.below (da (Below.refl _ _) (.cells #[.int .u8 3,.int .u8 1,.int .u8 (bits .or .u8 er 128),.int .i64 (pos:Int),.slice f.gX sz f.ci,.string str] 47)));have jc:=(bg (iU lR.1 (.cells #[.int .u8 3,.int .u8 1,.int .u8 (bits .or .u8 er 128),.int .i64 (pos:Int),.slice f.gX sz f.ci,.string str] 47)) 2).trans rfl;generalize bf.alloc (.cells #[.int .u8 3,.int .u8 1,.int .u8 (bits .or .u8 er 128),.int .i64 (pos:Int),.slice f.gX sz f.ci,.string str] 47)=ay at kB tV vo jc⊢;obtain⟨mb,xV⟩:∃mb,mb=bf.heap.size:=⟨_,rfl⟩;have xU:mb≠g:=by have:=ao.1.lt;omega
   exact Rb
  ·have kB:=I ((nT bf cJ.heap.size (.int .u8 3) (.int .u8 1) (.int .u8 (bits .or .u8 er 128)) (.int .i64 (pos:Int)) (.slice f.gX sz f.ci) (.string str) w.heap.size (by omega)).trans (cn im.1 eP.1));have tV:=I (Bl l9.1 (.int .u8 3) (.int .u8 1) (.int .u8 (bits .or .u8 er 128)) (.int .i64 (pos:Int)) (.slice f.gX sz f.ci) (.string str));have vo:=I (xW.1.gg ⟨_,l9.1⟩ (by have:=oB.1.lt;omega) (by have:=oB.1.lt;have:=oB.1.ge;omega) (by omega) (.int .u8 3) (.int .u8 1) (.int .u8 (bits .or .u8 er 128)) (.int .i64 (pos:Int)) (.slice f.gX sz f.ci) (.string str));have jc:=(bg ((nT bf cJ.heap.size (.int .u8 3) (.int .u8 1) (.int .u8 (bits .or .u8 er 128)) (.int .i64 (pos:Int)) (.slice f.gX sz f.ci) (.string str) iC (by omega)).trans lR.1) 2).trans rfl;generalize ((((((bf.setCell ⟨cJ.heap.size,0,none⟩ (.int .u8 3)).setCell ⟨cJ.heap.size,1,none⟩ (.int .u8 1)).setCell ⟨cJ.heap.size,2,none⟩ (.int .u8 (bits .or .u8 er 128))).setCell ⟨cJ.heap.size,3,none⟩ (.int .i64 (pos:Int))).setCell ⟨cJ.heap.size,4,none⟩ (.slice f.gX sz f.ci)).setCell ⟨cJ.heap.size,5,none⟩ (.string str))=ay at kB tV vo jc⊢;obtain⟨mb,xV⟩:∃mb,mb=cJ.heap.size:=⟨_,rfl⟩;have xU:mb≠g:=by have:=oB.1.lt;omega
   exact Rb
end
end fx
