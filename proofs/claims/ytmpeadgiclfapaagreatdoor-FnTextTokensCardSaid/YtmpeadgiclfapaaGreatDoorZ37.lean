/- Part 35 of the proof (Ps8). Conditions: each theorem's own. -/
import Derived.Test.YtmpeadgiclfapaaGreatDoorZ34
set_option linter.all false
set_option maxHeartbeats 0
set_option maxRecDepth 100000
namespace Go.Proofs.YtmpeadgiclfapaaGreatDoor
namespace fx
open RowKit YtmpeadgiclfapaaGreatDoorW.PrintWords YtmpeadgiclfapaaGreatDoorW.PrintLast YtmpeadgiclfapaaGreatDoorW.PrintMore ei cP gJ eI eC gi j6
theorem ahc{w0 w ay:World}{aJ:Nat}{B s st:List Int}{lc af q:Int}{r t:List Int}{A:Option Addr}{n c:Nat}{v7:Value}{m:Nat}(h:lG w0 w ay aJ B s st lc af q r t A n c v7 m){t2:List Int}(aU:t=92::120::t2)(hp:0<min 2 (dt dr t2))(g:Nat→Value)(iY gf jD gF:Act→World→Prop)(nF:∀a' w',l8 w0 w aJ B s st lc af q r n a' w'→iY a' w')(nG:∀a' w',Met iY a' w'→gf a' w')(qA:∀a' w',Bo w0 w aJ B s st lc af q r a' w'→jD a' w')(qB:∀a' w',Met jD a' w'→gF a' w'):Wr.wp Tryz.prog (Exit.then gf (Exit.inBlock 0 (Exit.then gF (bodyPost Tryz.prog Tryz.f87 (zg w0 w aJ B s st lc af q r))))) (⟨List.toArray (.pointer (some ⟨aJ,0,none⟩)::g 1::.string ⟨#[]⟩::.nilIface::.slice A n c::.int .u8 q::g 6::v7::xH g ([])),[]⟩:Act) ay:=by
 simp only[xH,qK,sK,nA];have av:=I h;subst aU;have eu:0<(92::120::t2).length:=by simp
 have dP:=I (h.v.below h.bu);have DQ:=I (Utf8Tabs_below h.T h.bu);have fq:=I h.lP;have bV:=I (show n≤100000 by have:=h.sz;have:=h.v.dN;omega);have dY:=I (show 0<n by rw[h.v.dN];exact eu);have m0:decide ((n:Int)>0)=true:=decide_eq_true Jp;have akn:=eq_true (show(0:Int)<(n:Int)by have:=dY.1;omega);have ako:=eq_true dY.1;have fP:=I (ah (x:=92) (t1:=120::t2) (by decide) (by decide)).1;have ahd:=I (ah (x:=92) (t1:=120::t2) (by decide) (by decide)).2;have HQ:=I (show n=t2.length+2 by rw[h.v.dN];rfl);have HR:=HQ.1;have cd:decide ((n:Int)<2)=false:=decide_eq_false (by omega);have cY:=eq_false (show¬(n:Int)<2 by omega);have fG:=eq_false (show¬n<2 by omega);have hx:=eq_true (show(1:Int)<(n:Int)by omega);have cM:=eq_true (show 1<n by omega);obtain⟨bt,bR,hA0,_⟩:=h.v.cell 0 (by omega);subst hA0;have vY:=I (show rd (92::120::t2) ((1:Nat):Int)=120 from rfl);have gT:=I (show¬92=q by have:=h.ar;omega);clear HR;have HS:=I (show∀x∈t2,0≤x∧x<256 from fun x ae=>fq.1 x tQ);obtain⟨bF,c2,oD,iL⟩:=h.v.from_ 2 (by have:=HQ.1;omega);have akp:∀aQ:World,(Instr.slice 22 (.slice (some ⟨bt,bR,none⟩) n c) (some (.int .i64 2)) none none).run Tryz.prog aQ=.ok (.slice bF (n-2) c2) aQ:=oD;have ky:=I (show dZ w0 bF (n-2) c2 t2 from iL);obtain⟨K,aH⟩:∃K,K=dt dr t2:=⟨_,rfl⟩;have qd:=nD dr t2;rw[←aH]at qd;obtain⟨e,he⟩:∃e,e=min 2 K:=⟨_,rfl⟩;obtain⟨db,zi⟩:∃db,db=e+2:=⟨_,rfl⟩;have cb:=HQ.1;have Nb:=bV.1;have o5:K≤n-2:=by rw[cb];exact qd
 have HR:2≤n:=by rw[cb];exact Nat.le_add_left _ _
 have tz:=I (KH 2 he zi o5 HR);have q3:wrap64 (((n-2:Nat):Int)-((n-2-dt dr t2:Nat):Int))=(K:Int):=by rw[←aH];exact KI o5 (Nat.le_trans (Nat.sub_le _ _) Nb)
 have VL:wrap64 (2+(e:Int))=(db:Int):=KJ zi tz.1.2.2.1 Nb;obtain⟨kc,c4,HT,vI⟩:=h.v.Al 2 db (by rw[zi];exact Nat.le_add_left _ _) tz.1.2.2.1;have Nc:db-2=e:=by rw[zi];exact Nat.add_sub_cancel _ _
 rw[Nc,show((92::120::t2).take db).drop 2=t2.take e by rw[zi];rfl]at vI;rw[Nc]at HT;have akq:∀aQ:World,(Instr.slice 22 (.slice (some ⟨bt,bR,none⟩) n c) (some (.int .i64 2)) (some (.int .i64 (db:Int))) none).run Tryz.prog aQ=.ok (.slice kc e c4) aQ:=HT;have ahe:=I vI;have o6:=I (show(t2.take e).length=e by rw[List.length_take];exact Nat.min_eq_left (Nat.le_trans Jn qd));have dS:=I (show(strOfNums (t2.take e)).size≤100 by rw[tc,o6.1];exact Nat.le_trans tz.1.1 (by decide));have uU:=I (show ints (strOfNums (t2.take e))=t2.take e from CZ _ (fun x ae=>HS.1 x (List.mem_of_mem_take ae)));obtain⟨cZ,c3,ui,nU⟩:=h.v.from_ db tz.1.2.2.1;have o4:=I nU;obtain⟨Hq,_⟩:=h.v.pI db tz.1.2.2.1;have dG:=I (Gq HS.1);rw[←aH,←he]at dG;have uj:=I (show e=min 2 (dt dr t2)by rw[he,aH]);clear oD HT o5 HR Nc iL nU vI aH qd he zi cb Nb;have akr:=I hp
 obtain⟨v,aZ,bO,hU,sr⟩:∃v,pu 16 255 0 (t2.take e)=some v∧0≤v∧v≤255∧hP (120::t2)=some (false,t2.drop e):=by
  rcases Gq HS.1 with⟨h1,_⟩|⟨_,⟨v,cg,a2,a3⟩,a4⟩
  ·rw[h1]at hp;cases hp
  ·rw[←uj.1]at cg a4;exact⟨v,cg,a2,a3,a4⟩
 have mw:=I aZ;have ix:=I (show e≠0 by rw[uj.1];exact Nat.pos_iff_ne_zero.mp hp);have kW:e≤dt dr t2:=by rw[uj.1];exact Nat.min_le_right _ _
 have kj:=h.inv.pk gT.1 sr (e+1) rfl (by rw[List.length_cons];exact Nat.succ_le_succ (Nat.le_trans kW (nD _ _))) (fun x ae=>by
  rw[List.take_succ_cons,List.mem_cons]at ae;rcases ae with ae|ae
  ·rw[ae];decide
  ·exact Wg (fun _=>Wh) t2 e kW x ae)
 have np:(92::120::t2).drop db=t2.drop e:=by rw[tz.1.2.1];rfl
 rw[←np]at kj;have fp:=I kj;clear hp aZ bO hU sr kW kj np;have iR:=h.ar;rcases iR with ar|ar
 all_goals(
  subst ar;clear h eu
  conv=>arg 2;whnf
  go_upto_region 61 with(first|(go_at_call 86;go_must(refine(Ky dP.1 DQ.1 fq.1 bV.1 dY.1).mono ?_;rintro bk nu ⟨rfl,WM⟩;rw[fP.1,ahd.1];have Nd:=I WM;obtain⟨aks,akt,vu,eg⟩:=(dP.1.below Nd.1).cell 1 (by have:=HQ.1;omega);cases vu;rw[vY.1]at eg;clear WM)))
  refine fX (n:=9) (S:=fun w'=>True) (ds:=[]) #[false,false,false,false,false,false,false,false,false] aM rfl rfl trivial (fun hHeld=>?_);refine ax 0 236 ?_;refine ax 1 237 ?_;refine ax 2 238 ?_;refine ax 3 239 ?_;refine ax 4 240 ?_;refine gb 5 241 fun K aH=>?_;refine mQ Tryz.func102 aM rfl #[.slice bF (n-2) c2,.string ⟨#[48,49,50,51,52,53,54,55,56,57,97,98,99,100,101,102,65,66,67,68,69,70]⟩] (by rfl) rfl rfl mX ?_
  with_reducible refine(TI (ky.1.below (dq av.1.bu av.1.bu.size (bw Nd.1 (Nat.le_refl _) cX))) HS.1).mono ?_
  rintro wY WN ⟨⟨aku,j9,rfl⟩,WO⟩;refine⟨_,rfl,?_⟩;have Nf:=I (bw Nd.1 (Nat.le_refl _) (bw (w:=nu) cX (Nat.le_refl _) WO));clear WO;refine aH.out _ _ trivial (fun hHeld=>?_);clear aH K;refine ik ?_;refine ax 6 242 ?_;refine ax 7 243 ?_;refine ax 8 14 ?_;refine jX aM ?_
  go_upto_if 245 with fail
  go_cut [14] (fun ahf w'=>ahf=.int .i64 (e:Int)∧WN=w')
  case first=>
   go_wp2_with fail
   all_goals(
    rename_i aH
    go_meet
    case rel=>first|exact⟨by rw[tz.1.2.2.2.1 (by omega)];rfl,rfl⟩|exact⟨by rw[tz.1.2.2.2.2 (by omega)],rfl⟩)
  case rest=>
  obtain⟨rfl,rfl⟩:=hcut;have hq:=ahe.1.str (dq av.1.bu av.1.bu.size Nf.1)
  go_upto_region 67 with(first|(go_at_call 103;go_must(refine(V6 _ dS.1 (dq av.1.bu av.1.bu.size (bw Nf.1 (Nat.le_refl _) cX)) av.1.E).mono ?_;rintro bk uZ ⟨h7,_,WQ⟩;obtain rfl:=h7 v (by rw[tc,o6.1];exact ix.1) xK;have Ng:=I (bw Nf.1 (Nat.le_refl _) (bw (w:=WN) cX (Nat.le_refl _) WQ));clear WQ h7)))
  refine fX (n:=11) (S:=fun w'=>True) (ds:=[]) #[false,false,false,false,false,false,false,false,false,false,false] aM rfl rfl trivial (fun hHeld=>?_);refine ax 0 265 ?_;refine ax 1 266 ?_;refine ax 2 267 ?_;refine ax 3 268 ?_;refine ax 4 269 ?_;refine ax 5 270 ?_;refine eb 6 271 ?_;refine gb 7 272 fun K aH=>?_;refine px ?_;refine aH.out _ _ trivial (fun hHeld=>?_);clear aH K;refine ik ?_;refine gb 8 273 fun K aH=>?_;refine o3 (by rfl) (.tmp 269) (.tmp 272) 22 22 rfl rfl (v:=v7) (xv:=.slice (some ⟨uZ.heap.size,0,none⟩) 1 1) (by rfl) (by rfl) (pH (av.1.o.below (bw Ng.1 (Nat.le_refl _) cX)|>.oj (dq av.1.bu av.1.bu.size (bw Ng.1 (Nat.le_refl _) cX))) (dq av.1.b av.1.b.size (bw Ng.1 (Nat.le_refl _) cX)) (rz (gl (gV uZ (.cells #[.int .u8 _] 5)))) (by decide) pA 22) ?_;rintro HL akv ⟨mA,mB⟩;have J:=I mA;have fA:=I mB;clear mA mB;refine aH.out _ _ trivial (fun hHeld=>?_);clear aH K;refine ik ?_;refine ax 9 4 ?_;refine ax 10 7 ?_;refine jX aM ?_;exact nG _ _ (Met.intro (nF _ _ (l8.mk (n:=n-db) (m:=m+1) (A:=cZ) (c:=c3) (v7:=HL) (t:=(92::120::t2).drop db) aM rfl rfl rfl rfl rfl rfl (by have:=tz.1;have:=dY.1;omega) (av.1.next db fA.1 o4.1 (.inr J.1) fp.1 tz.1.2.2.1 (by have:=tz.1;omega))))))
end fx
