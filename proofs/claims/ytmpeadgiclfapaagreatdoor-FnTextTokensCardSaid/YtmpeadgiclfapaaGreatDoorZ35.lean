/- Part 33 of the proof (Pt4, Pt5, Pt6, Pt7, Pt8). Conditions: each theorem's own. -/
import Derived.Test.YtmpeadgiclfapaaGreatDoorZ33
import Derived.Test.YtmpeadgiclfapaaGreatDoorZ34
set_option linter.all false
set_option maxHeartbeats 0
set_option maxRecDepth 100000
namespace Go.Proofs.YtmpeadgiclfapaaGreatDoor
namespace fx
open RowKit YtmpeadgiclfapaaGreatDoorW.PrintWords YtmpeadgiclfapaaGreatDoorW.PrintLast YtmpeadgiclfapaaGreatDoorW.PrintMore ei cP gJ eI eC gi j6 mG
theorem agL{w0 w ay:World}{aJ:Nat}{B s st r u acc:List Int}{lc af:Int}{A:Option Addr}{n c:Nat}{v5:Value}{g:Nat→Value}(h:mi w0 w ay aJ B s st r u acc lc af A n c v5)(aq:hQ r=none):(uE 6).wp Tryz.prog (bodyPost Tryz.prog Tryz.f59 (rB w0 w aJ B s st r lc af)) (⟨List.toArray (.pointer (some ⟨aJ,0,none⟩)::g 1::.pointer (some ⟨w.heap.size,0,none⟩)::.nilIface::.slice A n c::v5::.bool false::py g ([])),[]⟩:Act) ay:=by
 simp only[py,mu];have av:=I h;have fZ:=I (show∀br bH,hQ r=some (br,bH)→¬lE br=true from fun br bH e=>by rw[aq]at e;cases e);obtain⟨kS,dI,dQ,bN⟩:=h.sc;have aC:=I av.1.b;have bj:=I av.1.x;have mW:=I (show 0<w.heap.size by have:=h.g;omega);have jO:=I ((av.1.bu.cell (p:=⟨0,0,none⟩) kS).trans bN);obtain⟨bW,bZ,b0,b1,b2,Z2,b3,b4,b5,b6,b7,b8⟩:=gO bj.1;clear h aq bN kS
 conv=>arg 2;whnf
 go_wp2_with fail
 refine fX (n:=4) (S:=fun w'=>w'.cell? ⟨0,0,none⟩=some (.iface dI dQ)) (ds:=[]) #[false,false,false,false] aM rfl rfl (jO.1) (fun hHeld=>?_);refine ax 0 114 ?_;refine eb 1 115 ?_;refine IY 2 fun K aH=>?_;refine tG ?_;refine aH.out _ _ (Lq ay w.heap.size (.int .u8 0) (.int .u8 0) (.int .u8 0) (.int .i64 0) (.slice none 0 0) (.string ⟨#[]⟩) 0 0 (by have:=mW.1;omega) jO.1) (fun hHeld=>?_);clear aH K;refine ax 3 3 ?_;refine jX aM ?_
 go_wp2_with fail
 refine bodyPost_ret (v:=.tuple #[eA,.iface dI dQ]) (by simp[results,Tryz.results59,go_sem,eA,bW,b0,b2,b3,b5,b7,bZ,b1,Z2,b4,b6,b8]) rfl ⟨fun _=>⟨_,_,rfl,(c6.gg (av.1.d.here.below aC.1) ⟨_,bj.1⟩ tO tO (Nat.le_refl _) _ _ _ _ _ _).below (kH (Below.refl _ _))⟩,fun br gd h0 h1=>absurd h1 (fZ.1 br gd h0)⟩
def rC(w0 w:World)(aJ:Nat)(B s st r u acc:List Int)(lc af:Int)(A:Option Addr)(n c:Nat)(v5:Value)(ay eJ:World)(A7:Option Addr)(n7 c7:Nat):Prop:=
 mi w0 w ay aJ B s st r u acc lc af A n c v5∧Below ay.heap.size ay eJ∧dZ eJ A7 n7 c7 (acc.drop (hO acc acc.length))
theorem WG{l:List Value}{v0 v2 v3 v4 v5 v6 v7:Value}(an:l.length=213)(h0:l.getD 0 undef=v0)(h2:l.getD 2 undef=v2)(h3:l.getD 3 undef=v3)(h4:l.getD 4 undef=v4)(h5:l.getD 5 undef=v5)(h6:l.getD 6 undef=v6)(h7:l.getD 7 undef=v7):∃g:Nat→Value,(⟨l.toArray,[]⟩:Act)=(⟨List.toArray (v0::g 1::v2::v3::v4::v5::v6::v7::mu g ([])),[]⟩:Act):=by
 simp only[mu];refine⟨fun i=>l.getD i undef,?_⟩;subst h0;subst h2;subst h3;subst h4;subst h5;subst h6;subst h7;exact oZ
def ti(w0 w:World)(aJ:Nat)(B s st r u acc:List Int)(lc af:Int)(A:Option Addr)(n c:Nat)(v5:Value)(ay:World)(a:Act)(aQ:World):Prop:=
 ∃eJ A7 n7 c7,∃g:Nat→Value,rC w0 w aJ B s st r u acc lc af A n c v5 ay eJ A7 n7 c7∧eJ=aQ∧a=(⟨#[.pointer (some ⟨aJ,0,none⟩),g 1,.pointer (some ⟨w.heap.size,0,none⟩),.nilIface,.slice A n c,v5,.bool true,.slice A7 n7 c7,g 8,g 9,g 10,g 11,g 12,g 13,g 14,g 15,g 16,g 17,g 18,g 19,g 20,g 21,g 22,g 23,g 24,g 25,g 26,g 27,g 28,g 29,g 30,g 31,g 32,g 33,g 34,g 35,g 36,g 37,g 38,g 39,g 40,g 41,g 42,g 43,g 44,g 45,g 46,g 47,g 48,g 49,g 50,g 51,g 52,g 53,g 54,g 55,g 56,g 57,g 58,g 59,g 60,g 61,g 62,g 63,g 64,g 65,g 66,g 67,g 68,g 69,g 70,g 71,g 72,g 73,g 74,g 75,g 76,g 77,g 78,g 79,g 80,g 81,g 82,g 83,g 84,g 85,g 86,g 87,g 88,g 89,g 90,g 91,g 92,g 93,g 94,g 95,g 96,g 97,g 98,g 99,g 100,g 101,g 102,g 103,g 104,g 105,g 106,g 107,g 108,g 109,g 110,g 111,g 112,g 113,g 114,g 115,g 116,g 117,g 118,g 119,g 120,g 121,g 122,g 123,g 124,g 125,g 126,g 127,g 128,g 129,g 130,g 131,g 132,g 133,g 134,g 135,g 136,g 137,g 138,g 139,g 140,g 141,g 142,g 143,g 144,g 145,g 146,g 147,g 148,g 149,g 150,g 151,g 152,g 153,g 154,g 155,g 156,g 157,g 158,g 159,g 160,g 161,g 162,g 163,g 164,g 165,g 166,g 167,g 168,g 169,g 170,g 171,g 172,g 173,g 174,g 175,g 176,g 177,g 178,g 179,g 180,g 181,g 182,g 183,g 184,g 185,g 186,g 187,g 188,g 189,g 190,g 191,g 192,g 193,g 194,g 195,g 196,g 197,g 198,g 199,g 200,g 201,g 202,g 203,g 204,g 205,g 206,g 207,g 208,g 209,g 210,g 211,g 212],[]⟩:Act)
section
variable {w0 w ay:World} {aJ:Nat} {B s st r u acc:List Int} {lc af:Int} {A:Option Addr} {n c:Nat} {v5:Value}
theorem ti.mk{eJ:World}{A7:Option Addr}{n7 c7:Nat}{l:List Value}(an:l.length=213)(h0:l.getD 0 undef=.pointer (some ⟨aJ,0,none⟩))(h2:l.getD 2 undef=.pointer (some ⟨w.heap.size,0,none⟩))(h3:l.getD 3 undef=.nilIface)(h4:l.getD 4 undef=.slice A n c)(h5:l.getD 5 undef=v5)(h6:l.getD 6 undef=.bool true)(h7:l.getD 7 undef=.slice A7 n7 c7)(ar:rC w0 w aJ B s st r u acc lc af A n c v5 ay eJ A7 n7 c7):ti w0 w aJ B s st r u acc lc af A n c v5 ay ⟨l.toArray,[]⟩ eJ:=by
 obtain⟨g,aw⟩:=WG an h0 h2 h3 h4 h5 h6 h7;exact⟨_,_,_,_,g,ar,rfl,aw⟩
theorem agM{g:Nat→Value}(h:mi w0 w ay aJ B s st r u acc lc af A n c v5)(hp:hQ r=some (acc,u))(rest:∀eJ A7 n7 c7 (g:Nat→Value),rC w0 w aJ B s st r u acc lc af A n c v5 ay eJ A7 n7 c7→(uE 9).wp Tryz.prog (bodyPost Tryz.prog Tryz.f59 (rB w0 w aJ B s st r lc af)) (⟨List.toArray (.pointer (some ⟨aJ,0,none⟩)::g 1::.pointer (some ⟨w.heap.size,0,none⟩)::.nilIface::.slice A n c::v5::.bool true::.slice A7 n7 c7::mu g ([])),[]⟩:Act) eJ):(uE 6).wp Tryz.prog (bodyPost Tryz.prog Tryz.f59 (rB w0 w aJ B s st r lc af)) (⟨List.toArray (.pointer (some ⟨aJ,0,none⟩)::g 1::.pointer (some ⟨w.heap.size,0,none⟩)::.nilIface::.slice A n c::v5::.bool true::py g ([])),[]⟩:Act) ay:=by
 simp only[mu,py];have av:=I h;have hI:=I rest;have aA:=Mk hp h.h47;obtain⟨ao,c5,bO,pN,hC⟩:=ab.xu h.o;obtain⟨m,hm⟩:∃m,m=acc.length:=⟨_,rfl⟩;have zj:dZ ay ao m c5 acc:=⟨(by rw[hm];exact hC),hm,(by rw[hm];exact pN)⟩;rw[←hm]at bO;have bl:=I bO;have WH:=I zj;have cW:=I (show m≤100000 by have:=h.sz;have:=h.d.len;omega);obtain⟨k,ad⟩:∃k,k=hO acc m:=⟨_,rfl⟩;have aV:=I ad;have Na:k≤m:=by rw[ad,hm];exact Hd acc _
 have HM:hO acc acc.length=k:=by rw[ad,hm]
 have WI:=I HM;have nO:=LU acc acc.length;rw[HM]at nO;clear h hp hm hC pN ad rest;subst bO
 conv=>arg 2;whnf
 by_cases h0:k=0
 ·have z0:((k:Int)-1 != -1)=false:=by rw[h0];rfl
  have cp:((k:Int)-1== -1)=true:=by rw[h0];rfl
  have dP:=I (show dZ ay ao m c5 (acc.drop (hO acc acc.length))by rw[WI.1,h0,List.drop_zero];exact zj);clear nO Na aA zj HM h0
  go_upto_if 120 with(first|(go_at_call 81;refine(WC WH.1 (by have:=cW.1;omega)).mono ?_;rintro bk w1 ⟨rfl,⟨iX,rfl⟩⟩;rw[←aV.1]))
  refine wp_cut (ti w0 w aJ B s st r u acc lc af A n c (.slice ao m c5) ay) ?_ ?_
  ·exact RP
  ·intro lF ic mJ aH
   go_wp2_with fail
   refine Met.intro ?_;go_step;exact ti.mk (A7:=ao) (n7:=m) (c7:=c5) aM rfl rfl rfl rfl rfl rfl rfl ⟨av.1,cX,dP.1.below cX⟩
 ·obtain⟨p,hp⟩:∃p,p=k-1:=⟨_,rfl⟩;have Dv:(k:Int)-1=(p:Int):=by omega
  have agN:=I Dv;have au:a6 acc p=47:=by have:=nO h0;rw[Dv,yK]at this;exact this
  have lB:0<p:=by rcases Nat.eq_zero_or_pos p with e|e;rw[e]at au;exact absurd au aA;exact e
  have z0:((p:Int) != -1)=true:=bne_iff_ne.mpr (by omega);have cp:((p:Int)== -1)=false:=beq_eq_false_iff_ne.mpr (by omega);have hw:wrap64 ((p:Int)+1)=(k:Int):=by unfold wrap64;have:=cW.1;omega
  have m0:decide ((p:Int)>0)=true:=decide_eq_true (by omega);have m1:=eq_true (show(0:Int)<(p:Int)by omega);have m2:=eq_true lB;obtain⟨bt,bR,hA0,al⟩:=zj.cell 0 (by omega);have ae:(rd acc ((0:Nat):Int)==47)=false:=beq_eq_false_iff_ne.mpr (by rw[yK];exact aA);obtain⟨x,tr⟩:∃x,x=rd acc ((0:Nat):Int):=⟨_,rfl⟩;rw[←tr,Nat.add_zero]at al;rw[←tr]at ae;obtain⟨bs,_⟩:=zj.pI p (by omega);obtain⟨A7,c7,hn,hU⟩:=zj.from_ k Na;have dP:=I (show dZ ay A7 (m-k) c7 (acc.drop (hO acc acc.length))by rw[WI.1];exact hU);subst hA0;clear nO Na aA zj HM h0 hp Dv au lB tr hU
  go_upto_if 120 with(first|(go_at_call 81;refine(WC WH.1 (by have:=cW.1;omega)).mono ?_;rintro bk w1 ⟨rfl,⟨iX,rfl⟩⟩;rw[←aV.1];rw[agN.1]))
  refine wp_cut (ti w0 w aJ B s st r u acc lc af A n c (.slice (some ⟨bt,bR,none⟩) m c5) ay) ?_ ?_
  ·exact RP
  ·intro lF ic mJ aH
   go_wp2_with fail
   refine Met.intro ?_;go_step;exact ti.mk (A7:=A7) (n7:=m-k) (c7:=c7) aM rfl rfl rfl rfl rfl rfl rfl ⟨av.1,cX,dP.1.below cX⟩
end
theorem WJ{cS:List (List Int)}:cS.all sk=true↔∀i,i<cS.length→cS.getD i []≠[]:=by
 rw[List.all_eq_true];constructor
 ·intro h i hi e;have:=h _ (List.getElem_mem hi);rw[List.getD_eq_getElem?_getD,List.getElem?_eq_getElem hi]at e;rw[show cS[i]=[]from e]at this;cases this
 ·intro h p hp;obtain⟨i,hi,rfl⟩:=List.getElem_of_mem hp;have:=h i hi;rw[List.getD_eq_getElem?_getD,List.getElem?_eq_getElem hi]at this;unfold sk;cases e:cS[i]with
  |nil=>exact absurd e this
  |cons a b=>rfl
theorem agO:∀(l cur:List Int),0<(lX cur l).length:=by
 intro l
 induction l with
 |nil=>intro cur;exact Nat.succ_pos _
 |cons c r bb=>
  intro cur;simp only[lX];split
  ·exact Nat.succ_pos _
  ·exact bb _
def Bq(w0 w:World)(aJ:Nat)(B s st r u acc:List Int)(lc af:Int)(A:Option Addr)(n c:Nat)(v5:Value)(ay eJ:World)(A7:Option Addr)(n7 c7:Nat)(C:Prop)(a:Act)(aQ:World):Prop:=
 ∃g:Nat→Value,C∧rC w0 w aJ B s st r u acc lc af A n c v5 ay aQ A7 n7 c7∧a=(⟨#[.pointer (some ⟨aJ,0,none⟩),g 1,.pointer (some ⟨w.heap.size,0,none⟩),.nilIface,.slice A n c,v5,.bool true,.slice A7 n7 c7,g 8,g 9,g 10,g 11,g 12,g 13,g 14,g 15,g 16,g 17,g 18,g 19,g 20,g 21,g 22,g 23,g 24,g 25,g 26,g 27,g 28,g 29,g 30,g 31,g 32,g 33,g 34,g 35,g 36,g 37,g 38,g 39,g 40,g 41,g 42,g 43,g 44,g 45,g 46,g 47,g 48,g 49,g 50,g 51,g 52,g 53,g 54,g 55,g 56,g 57,g 58,g 59,g 60,g 61,g 62,g 63,g 64,g 65,g 66,g 67,g 68,g 69,g 70,g 71,g 72,g 73,g 74,g 75,g 76,g 77,g 78,g 79,g 80,g 81,g 82,g 83,g 84,g 85,g 86,g 87,g 88,g 89,g 90,g 91,g 92,g 93,g 94,g 95,g 96,g 97,g 98,g 99,g 100,g 101,g 102,g 103,g 104,g 105,g 106,g 107,g 108,g 109,g 110,g 111,g 112,g 113,g 114,g 115,g 116,g 117,g 118,g 119,g 120,g 121,g 122,g 123,g 124,g 125,g 126,g 127,g 128,g 129,g 130,g 131,g 132,g 133,g 134,g 135,g 136,g 137,g 138,g 139,g 140,g 141,g 142,g 143,g 144,g 145,g 146,g 147,g 148,g 149,g 150,g 151,g 152,g 153,g 154,g 155,g 156,g 157,g 158,g 159,g 160,g 161,g 162,g 163,g 164,g 165,g 166,g 167,g 168,g 169,g 170,g 171,g 172,g 173,g 174,g 175,g 176,g 177,g 178,g 179,g 180,g 181,g 182,g 183,g 184,g 185,g 186,g 187,g 188,g 189,g 190,g 191,g 192,g 193,g 194,g 195,g 196,g 197,g 198,g 199,g 200,g 201,g 202,g 203,g 204,g 205,g 206,g 207,g 208,g 209,g 210,g 211,g 212],[]⟩:Act)
theorem Bq.mk{w0 w ay:World}{aJ:Nat}{B s st r u acc:List Int}{lc af:Int}{A:Option Addr}{n c:Nat}{v5:Value}{eJ aQ:World}{A7:Option Addr}{n7 c7:Nat}{C:Prop}{l:List Value}(an:l.length=213)(h0:l.getD 0 undef=.pointer (some ⟨aJ,0,none⟩))(h2:l.getD 2 undef=.pointer (some ⟨w.heap.size,0,none⟩))(h3:l.getD 3 undef=.nilIface)(h4:l.getD 4 undef=.slice A n c)(h5:l.getD 5 undef=v5)(h6:l.getD 6 undef=.bool true)(h7:l.getD 7 undef=.slice A7 n7 c7)(ai:C)(ar:rC w0 w aJ B s st r u acc lc af A n c v5 ay aQ A7 n7 c7):Bq w0 w aJ B s st r u acc lc af A n c v5 ay eJ A7 n7 c7 C ⟨l.toArray,[]⟩ aQ:=by
 obtain⟨g,aw⟩:=WG an h0 h2 h3 h4 h5 h6 h7;exact⟨g,ai,ar,aw⟩
theorem rC.below{w0 w ay:World}{aJ:Nat}{B s st r u acc:List Int}{lc af:Int}{A:Option Addr}{n c:Nat}{v5:Value}{eJ:World}{A7:Option Addr}{n7 c7:Nat}{rv:World}(h:rC w0 w aJ B s st r u acc lc af A n c v5 ay eJ A7 n7 c7)(U:Below eJ.heap.size eJ rv):rC w0 w aJ B s st r u acc lc af A n c v5 ay rv A7 n7 c7:=⟨h.1,bw h.2.1 (Nat.le_refl _) U|>fun km=>km,h.2.2.below U⟩
theorem agP{w0 w ay:World}{aJ:Nat}{B s st r u acc:List Int}{lc af:Int}{A:Option Addr}{n c:Nat}{v5:Value}{eJ:World}{A7:Option Addr}{n7 c7:Nat}{g:Nat→Value}(h:rC w0 w aJ B s st r u acc lc af A n c v5 ay eJ A7 n7 c7)(hp:hQ r=some (acc,u))(rest:∀rv (g:Nat→Value),(lX [] (acc.drop (hO acc acc.length))).all sk=true→rC w0 w aJ B s st r u acc lc af A n c v5 ay rv A7 n7 c7→(uE 10).wp Tryz.prog (bodyPost Tryz.prog Tryz.f59 (rB w0 w aJ B s st r lc af)) (⟨List.toArray (.pointer (some ⟨aJ,0,none⟩)::g 1::.pointer (some ⟨w.heap.size,0,none⟩)::.nilIface::.slice A n c::v5::.bool true::.slice A7 n7 c7::mu g ([])),[]⟩:Act) rv):(uE 9).wp Tryz.prog (bodyPost Tryz.prog Tryz.f59 (rB w0 w aJ B s st r lc af)) (⟨List.toArray (.pointer (some ⟨aJ,0,none⟩)::g 1::.pointer (some ⟨w.heap.size,0,none⟩)::.nilIface::.slice A n c::v5::.bool true::.slice A7 n7 c7::mu g ([])),[]⟩:Act) eJ:=by
 simp only[mu];have av:=I h;have DF:=I rest;have yg:=I hp;have lM:=I h.1.GB;have dY:=I (show n7≤100000 by have:=h.2.2.dN;rw[List.length_drop]at this;have:=h.1.sz;have:=h.1.d.len;omega);obtain⟨P,lW⟩:∃P,P=(lX [] (acc.drop (hO acc acc.length))).length:=⟨_,rfl⟩;have cr:=I lW;have D6:=I (show 0<(lX [] (acc.drop (hO acc acc.length))).length from agO _ _);have tL:=I (show P≤100001 by have:=acF (acc.drop (hO acc acc.length)) [];rw[List.length_drop]at this;have:=h.1.sz;have:=h.1.d.len;omega);clear h rest lW hp
 conv=>arg 2;whnf
 go_upto_block 3 with(first|(go_at_call 82;refine(agI av.1.2.2 dY.1).mono ?_;rintro bk w1 ⟨v0,rfl,eD,az⟩;obtain⟨g0,akm,rfl,mm⟩:=agJ eD D6.1;rw[←cr.1];have jL:=I mm;have aC:=I az;clear eD mm az))
 refine wp_cut (Bq w0 w aJ B s st r u acc lc af A n c v5 ay eJ A7 n7 c7 ((lX [] (acc.drop (hO acc acc.length))).all sk=true)) ?_ ?_
 ·rintro _ _ ⟨g0,ai,ar,rfl⟩;go_step;exact DF.1 _ _ ai ar
 ·intro lF ic mJ aH
  go_wp2_with fail
  go_loopg [3,144] P (fun k v0 v1 w'=>∃i:Nat,v0=.nilIface∧v1=.int .i64 (i:Int)∧w1=w'∧aN (i+k=P)∧aN (∀j,j<i→(lX [] (acc.drop (hO acc acc.length))).getD j []≠[]))
  case atStart=>exact⟨0,rfl,rfl,rfl,⟨Nat.zero_add _⟩,⟨fun j bq=>absurd bq (Nat.not_lt_zero _)⟩⟩
  case round=>
   obtain⟨i,rfl,rfl,rfl,dx,bo⟩:=hrel;by_cases hi:i<P
   ·obtain⟨gX,ci,ae⟩:=jL.1 i (by have:=cr.1;omega);have i0:decide ((i:Int)<(P:Int))=true:=decide_eq_true (by omega);have i1:=eq_true (show(0:Int)≤(i:Int)by omega);have i2:=eq_true (show(i:Int)<(P:Int)by omega);have vZ:=I hi;obtain⟨L,bD⟩:∃L,L=((lX [] (acc.drop (hO acc acc.length))).getD i []).length:=⟨_,rfl⟩;rw[←bD]at ae;have fh:=I bD;clear hi bD;by_cases aG:L=0
    ·have aj:((L:Int)==0)=true:=beq_iff_eq.mpr (by omega)
     have fZ:=I (show∀br bH,hQ r=some (br,bH)→¬lE br=true from fun br bH e ai=>by
      rw[yg.1]at e;simp only[Option.some.injEq,Prod.mk.injEq]at e;obtain⟨rfl,rfl⟩:=e;unfold lE at ai;rw[Bool.and_eq_true]at ai;exact(WJ.1 ai.1) i (by have:=cr.1;have:=vZ.1;omega) (List.eq_nil_of_length_eq_zero pB))
     clear aG;exact Qs
    ·have aj:((L:Int)==0)=false:=beq_eq_false_iff_ne.mpr (by omega);have ct:=I aG;clear aG
     go_wp2_with fail
     go_roundg(P-(i+1))
     case measure=>have:=dx.1;have:=vZ.1;omega
     case rel=>exact⟨i+1,rfl,(by first|rfl|(congr 1;have:=tL.1;have:=vZ.1;unfold wrap64;omega)),rfl,⟨(by have:=vZ.1;omega)⟩,⟨fun j bq=>by
      by_cases e:j=i
      ·subst e;intro aD;have:=fh.1;rw[aD]at this;exact ct.1 this
      ·exact bo.1 j (by omega)⟩⟩
   ·have i0:decide ((i:Int)<(P:Int))=false:=decide_eq_false (by omega);have i2:=eq_false (show¬(i:Int)<(P:Int)by omega);have fZ:=I (show(lX [] (acc.drop (hO acc acc.length))).all sk=true from WJ.2 (fun j bq=>bo.1 j (by have:=cr.1;omega)));clear hi
    go_wp2_with fail
    refine Met.intro ?_;go_step;exact Bq.mk (v5:=v5) aM rfl rfl rfl rfl rfl rfl rfl fZ.1 (av.1.below aC.1)
theorem agQ{w0 w ay:World}{aJ:Nat}{B s st r u acc:List Int}{lc af:Int}{A:Option Addr}{n c:Nat}{v5:Value}{eJ:World}{A7:Option Addr}{n7 c7:Nat}{g:Nat→Value}(h:rC w0 w aJ B s st r u acc lc af A n c v5 ay eJ A7 n7 c7)(hp:hQ r=some (acc,u))(rest:∀rv (g:Nat→Value),(acc.drop (hO acc acc.length)).all (fun c=> !oN c)=true→rC w0 w aJ B s st r u acc lc af A n c v5 ay rv A7 n7 c7→(uE 11).wp Tryz.prog (bodyPost Tryz.prog Tryz.f59 (rB w0 w aJ B s st r lc af)) (⟨List.toArray (.pointer (some ⟨aJ,0,none⟩)::g 1::.pointer (some ⟨w.heap.size,0,none⟩)::.nilIface::.slice A n c::v5::.bool true::.slice A7 n7 c7::mu g ([])),[]⟩:Act) rv):(uE 10).wp Tryz.prog (bodyPost Tryz.prog Tryz.f59 (rB w0 w aJ B s st r lc af)) (⟨List.toArray (.pointer (some ⟨aJ,0,none⟩)::g 1::.pointer (some ⟨w.heap.size,0,none⟩)::.nilIface::.slice A n c::v5::.bool true::.slice A7 n7 c7::mu g ([])),[]⟩:Act) eJ:=by
 simp only[mu];have av:=I h;have DF:=I rest;have yg:=I hp;have lM:=I h.1.GB;have dY:=I (show n7≤100000 by have:=h.2.2.dN;rw[List.length_drop]at this;have:=h.1.sz;have:=h.1.d.len;omega);obtain⟨xs,A1⟩:∃xs,xs=acc.drop (hO acc acc.length):=⟨_,rfl⟩;have WK:=I A1;have aZ:=h.2.2;rw[←A1]at aZ;have bU:=I aZ;have fh:=I (show n7=xs.length from aZ.dN);clear h rest hp A1 aZ
 conv=>arg 2;whnf
 go_upto_block 5 with fail
 refine wp_cut (Bq w0 w aJ B s st r u acc lc af A n c v5 ay eJ A7 n7 c7 (xs.all (fun c=> !oN c)=true)) ?_ ?_
 ·rintro _ _ ⟨g0,ai,ar,rfl⟩;go_step;exact DF.1 _ _ (WK.1▸ai) ar
 ·intro lF ic mJ aH
  go_wp2_with fail
  go_loopg [3,158] n7 (fun k v0 v1 w'=>∃i:Nat,v0=.nilIface∧v1=.int .i64 (i:Int)∧aN (Below eJ.heap.size eJ w')∧aN (i+k=n7)∧aN (∀j,j<i→oN (rd xs (j:Int))=false))
  case atStart=>exact⟨0,rfl,rfl,⟨cX⟩,⟨Nat.zero_add _⟩,⟨fun j bq=>absurd bq (Nat.not_lt_zero _)⟩⟩
  case round=>
   obtain⟨i,rfl,rfl,aC,dx,bo⟩:=hrel;by_cases hi:i<n7
   ·obtain⟨bt,bR,hA0,ae⟩:=(bU.1.below aC.1).cell i hi;have i0:decide ((i:Int)<(n7:Int))=true:=decide_eq_true (by omega);have i1:=eq_true (show(0:Int)≤(i:Int)by omega);have i2:=eq_true (show(i:Int)<(n7:Int)by omega);have vZ:=I hi
    have tl:oN (rd xs (i:Int))=true→∀br bH,hQ r=some (br,bH)→¬lE br=true:=fun U br bH e ai=>by
     rw[yg.1]at e;simp only[Option.some.injEq,Prod.mk.injEq]at e;obtain⟨rfl,rfl⟩:=e;unfold lE at ai;rw[Bool.and_eq_true,←WK.1]at ai;obtain⟨_,ai⟩:=ai;rw[List.all_eq_true]at ai;have:=ai (rd xs (i:Int)) (by rw[yK];unfold a6;rw[List.getD_eq_getElem?_getD,List.getElem?_eq_getElem pB];exact List.getElem_mem _);rw[U]at this;cases this
    obtain⟨x,tr⟩:∃x,x=rd xs (i:Int):=⟨_,rfl⟩;rw[←tr]at ae tl;have dG:=I tr;have WL:=I tl;subst hA0;have Bf:oN x=(x==37||(x !=46&&q5 x)):=rfl;have HN:=I Bf;clear hi tr tl Bf;cases a1:x==37 with
    |true=>
     have fZ:=I (WL.1 (by rw[HN.1,a1];rfl));exact Qs
    |false=>
     cases bQ:x==46 with
     |true=>
      have HO:(x !=46)=false:=by rw[bne,bQ];rfl
      have bS:=I (show oN x=false by rw[HN.1,a1,HO];rfl)
      go_wp2_with fail
      exact Qc
     |false=>
      have HO:(x !=46)=true:=by rw[bne,bQ];rfl
      cases qam:q5 x with
      |true=>
       have fZ:=I (WL.1 (by rw[HN.1,a1,HO,qam];rfl))
       go_wp2_with(first|(go_at_call 78;refine(w5 x _).mono ?_;rintro bk bf ⟨rfl,⟨dh,rfl⟩⟩)|(refine Qt ?_;intro w1 az dI dQ bM bj;obtain⟨bW,bZ,b0,b1,b2,Z2,b3,b4,b5,b6,b7,b8⟩:=gO bj.1;clear az))
       exact Qu
      |false=>
       have bS:=I (show oN x=false by rw[HN.1,a1,HO,qam];rfl)
       go_wp2_with(first|(go_at_call 78;refine(w5 x _).mono ?_;rintro bk bf ⟨rfl,⟨dh,rfl⟩⟩))
       exact Qc
   ·have i0:decide ((i:Int)<(n7:Int))=false:=decide_eq_false (by omega);have i2:=eq_false (show¬(i:Int)<(n7:Int)by omega)
    have fZ:=I (show xs.all (fun c=> !oN c)=true by
     rw[List.all_eq_true];intro y aX;obtain⟨j,bq,rfl⟩:=List.getElem_of_mem aX;have:=bo.1 j pB;rw[yK]at this;unfold a6 at this;rw[List.getD_eq_getElem?_getD,List.getElem?_eq_getElem bq]at this;rw[show oN xs[j]=false from this];rfl)
    clear hi
    go_wp2_with fail
    refine Met.intro ?_;go_step;exact Bq.mk (v5:=v5) aM rfl rfl rfl rfl rfl rfl rfl fZ.1 (av.1.below (bw aC.1 (Nat.le_refl _) cX))
theorem agR{w0 w ay:World}{aJ:Nat}{B s st r u acc:List Int}{lc af:Int}{A:Option Addr}{n c:Nat}{v5:Value}{eJ:World}{A7:Option Addr}{n7 c7:Nat}{g:Nat→Value}(h:rC w0 w aJ B s st r u acc lc af A n c v5 ay eJ A7 n7 c7)(hp:hQ r=some (acc,u))(ai:lE acc=true):(uE 11).wp Tryz.prog (bodyPost Tryz.prog Tryz.f59 (rB w0 w aJ B s st r lc af)) (⟨List.toArray (.pointer (some ⟨aJ,0,none⟩)::g 1::.pointer (some ⟨w.heap.size,0,none⟩)::.nilIface::.slice A n c::v5::.bool true::.slice A7 n7 c7::mu g ([])),[]⟩:Act) eJ:=by
 simp only[mu];have av:=I h;have cr:=I (And.intro hp ai);have az:Below w.heap.size w eJ:=dq h.1.b h.1.b.size h.2.1;have aC:=I az;have gM:=h.1.d.below az;have cb:=h.1.d.len;obtain⟨f,aA⟩:=gM;have dz:=I aA;obtain⟨ao,c5,bO,pN,hC⟩:=ab.xu h.1.o;obtain⟨m,hm⟩:∃m,m=acc.length:=⟨_,rfl⟩;rw[←hm]at bO;subst bO;have cW:=I hm;obtain⟨p,oE⟩:∃p:Nat,p=B.length-s.length:=⟨_,rfl⟩;obtain⟨e,he⟩:∃e:Nat,e=B.length-n:=⟨_,rfl⟩;have agS:=h.1.v.dN;have HP:=h.1.GB;have hX:wrap64 ((B.length:Int)-(s.length:Int))=(p:Int):=by unfold wrap64;omega
 have q3:wrap64 ((B.length:Int)-(n:Int))=(e:Int):=by unfold wrap64;omega
 have y9:=I (show p=B.length-s.length∧e=B.length-n∧n=u.length∧n≤s.length∧s.length≤B.length∧p≤e∧e≤B.length by omega);obtain⟨j,bq⟩:=aA.jE
 have gr:B.drop p=s:=by
  have:s.length=B.length-j:=by rw[bq,List.length_drop]
  by_cases oS:j≤B.length
  ·rw[oE,this,show B.length-(B.length-j)=j by omega];exact bq.symm
  ·rw[oE,this,show B.length-(B.length-j)=B.length by omega,List.drop_length];exact(List.eq_nil_of_length_eq_zero (by omega)).symm
 have gI:=I gr
 have zk:∃k,u=B.drop k:=by
  obtain⟨k,ad⟩:=h.1.D8;exact⟨p+k,(by rw[ad,←gr,List.drop_drop])⟩
 have tw:=I zk;have c4:=aA.c4;have agT:=aA.c5;have z0:=aA.z 10;clear h hp ai az cb aA pN hC hm oE he agS HP bq gr zk
 conv=>arg 2;whnf
 go_wp2_with fail
 repeat(go_quiet(fail);try go_upto_region 43 with(fail))
 have pg:dK w0 ((eJ.drewN nq).setCell ⟨aJ,10,none⟩ (.slice A n c)) aJ B u st lc af:=⟨_,(dz.1.below (jI (Below.refl _ _) nq)).VO av.1.1.v tw.1⟩;have aH:cI w ((eJ.drewN nq).setCell ⟨aJ,10,none⟩ (.slice A n c)) aJ none:=(cI.kn (jI aC.1 nq) aJ none).zs _ _;have bL:w.heap.size≠aJ:=by have:=av.1.1.g;omega
 have pJ:=(Below.heap_setCell (eJ.drewN nq) ⟨aJ,10,none⟩ (.slice A n c) w.heap.size bL).trans (zt (cn av.1.1.x av.1.2.1) nq);have ew:=ab.mo (p:=⟨aJ,10,none⟩) (ab.O3 (g:=aJ) (ab.uI (ab.nZ av.1.1.o av.1.2.1) nq) rfl (fun e=>by have:=ab.xy av.1.1.o _ e.symm;have:=av.1.1.g;omega)) (fun k ad=>ad.2) (.slice A n c);generalize (eJ.drewN nq).setCell ⟨aJ,10,none⟩ (.slice A n c)=WS at pg aH pJ ew⊢;have cf:=I pg;have aV:=I aH;have dG:=I pJ;have hI:=I ew;clear pg aH pJ ew c4 agT z0
 go_wp2_with(first|(go_at_call 43;refine(Ab cf.1 0 (Nat.zero_le _)).mono ?_;rintro bk w1 ⟨rfl,h0⟩;rw[List.drop_zero]at h0;have dW:=I h0;clear h0))
 have bj:=I (dW.1.k.ft dG.1 bL (by simp));have xQ:=ab.tC hI.1 dW.1.k (fun k ad=>ad.2);obtain⟨dV,agU,kh⟩:=ab.pt xQ
 have nj:aN (∀aQ,Below w1.heap.size w1 aQ→(convert 22 9 (.slice ao m c5)).run Tryz.prog aQ=.ok (.string (strOfNums acc)) aQ):=I (fun aQ U=>by
  rw[dV];exact ab.rK (P:=Tryz.prog) Tryz.underlying22 Tryz.underlying5 Tryz.underlying9 (ab.ko kh U))
 obtain⟨f0,gQ⟩:=dW.1.d;obtain⟨bd,c9,bs,hU⟩:=gQ.pQ.Al p e y9.1.2.2.2.2.2.1 y9.1.2.2.2.2.2.2;have hlen:e-p=s.length-u.length:=by have:=y9.1;omega
 rw[hlen,List.drop_take,gI.1,hlen]at hU;rw[hlen]at bs;have bl:=I hU;have agV:=I (gQ.below (Below.drew (Below.refl _ _)));obtain⟨bW,bZ,b0,b1,b2,Z2,b3,b4,b5,b6,b7,b8⟩:=gO bj.1;clear xQ dV agU kh gQ hU hlen bL;refine fX (n:=13) (S:=fun w'=>w'.cell? ⟨aJ,9,none⟩=some (.slice f0.xd B.length f0.co)∧(convert 22 9 (.slice ao m c5)).run Tryz.prog w'=.ok (.string (strOfNums acc)) w') (ds:=[11]) #[false,false,false,false,false,false,false,false,false,false,false,false,false] aM rfl rfl ⟨agV.1.c4,nj.1 _ cX⟩ (fun hHeld=>?_);refine ax 0 202 ?_;refine ax 1 203 ?_;refine ax 2 204 ?_;refine ax 3 205 ?_;refine ax 5 207 ?_;refine ax 6 208 ?_;refine ax 8 210 ?_;refine eb 4 206 ?_;refine ax 7 209 ?_;refine eb 9 211 ?_;refine ax 10 212 ?_;refine pZ 11 fun K aH=>?_;refine tG ?_;refine aH.out _ _ ?_;clear aH K;refine ax 12 3 ?_;refine jX aM ?_
 go_wp2_with fail
 refine bodyPost_ret (v:=.tuple #[.agg #[.int .u8 2,.int .u8 2,.int .u8 0,.int .i64 (p:Int),.slice bd (s.length-u.length) c9,.string (strOfNums acc)],.nilIface]) (by simp[results,Tryz.results59,go_sem,bW,b0,b2,b3,b5,b7,bZ,b1,Z2,b4,b6,b8]) rfl ⟨fun aq=>absurd cr.1.2 (by rw[aq _ _ cr.1.1];decide),fun br gd h0 h1=>?_⟩;rw[cr.1.1]at h0;simp only[Option.some.injEq,Prod.mk.injEq]at h0;obtain⟨rfl,rfl⟩:=h0;exact⟨bd,c9,(by rw[y9.1.1]),bl.1,(c6.gg (c6.after aV.1 dW.1) ⟨_,bj.1⟩ Fq Fq (Nat.le_refl _) _ _ _ _ _ _).below (kH (Below.refl _ _))⟩
theorem agW{w0 w ay:World}{aJ:Nat}{B s st r u acc:List Int}{lc af:Int}{A:Option Addr}{n c:Nat}{v5:Value}{cl:Bool}{g:Nat→Value}(h:mi w0 w ay aJ B s st r u acc lc af A n c v5)(dA:((cl=false∧hQ r=none)∨(cl=true∧hQ r=some (acc,u)))):(uE 6).wp Tryz.prog (bodyPost Tryz.prog Tryz.f59 (rB w0 w aJ B s st r lc af)) (⟨List.toArray (.pointer (some ⟨aJ,0,none⟩)::g 1::.pointer (some ⟨w.heap.size,0,none⟩)::.nilIface::.slice A n c::v5::.bool cl::py g ([])),[]⟩:Act) ay:=by
 simp only[py,mu];rcases dA with⟨rfl,aq⟩|⟨rfl,hp⟩
 ·exact agL h aq
 ·refine agM h hp fun cJ ao bn c7 g ar=>agP ar hp fun eJ g agX ar=>agQ ar hp fun rv g agY ar=>agR ar hp ?_;unfold lE;rw[agX,agY];rfl
theorem Ha{w0 w:World}{aJ:Nat}{B s st r:List Int}{lc af:Int}(h:dK w0 w aJ B s st lc af)(ak:s=91::r)(h47:a6 (bc false r) 0≠47)(bN:0<w0.heap.size∧∃ty v,w0.cell? ⟨0,0,none⟩=some (.iface ty v)):
 Calls Tryz.prog 59 #[.pointer (some ⟨aJ,0,none⟩)] w (rB w0 w aJ B s st r lc af):=by
 have cf:=I h;refine CV ?_;intro bS;have cb:=h.len;have bG:=h.bytes;have az:=da (Below.refl w.heap.size w) (.cells #[.int .u8 0,.int .u8 0,.int .u8 0,.int .i64 0,.slice none 0 0,.string ⟨#[]⟩] 47);have vF:=gV w (.cells #[.int .u8 0,.int .u8 0,.int .u8 0,.int .i64 0,.slice none 0 0,.string ⟨#[]⟩] 47);have aC:=I az;have bz:=I vF;obtain⟨f,aA⟩:=h.below az;have c5:=aA.c5;have ke:=aA.gm;obtain⟨bn,cR⟩:∃bn,bn=s.length:=⟨_,rfl⟩;have bP:s.length=r.length+1:=by rw[ak];rfl
 rw[←cR]at c5 ke;obtain⟨ao,c1,bs,bO⟩:=ke.from_ 1 (by omega);rw[show s.drop 1=r by rw[ak];rfl]at bO;have jN:∀aQ:World,(Instr.slice 22 (.slice f.gX bn f.ci) (some (.int .i64 1)) none none).run Tryz.prog aQ=.ok (.slice ao (bn-1) c1) aQ:=bs;have bl:=I bO;have DJ:=I (show∀x∈r,0≤x∧x<256 from fun x ae=>bG x (by rw[ak];simp[ae]));have bV:=I (show bn-1≤100000 by omega);have bM:=I (dq h.bu h.bu.size az);have gE:=I (And.intro h47 bN);have agZ:=I ak;obtain⟨kS,dI,dQ,C0⟩:=bN;have mW:=I (show 0<w.heap.size by have:=bS.1;omega);have jO:=I ((bM.1.cell (p:=⟨0,0,none⟩) kS).trans C0);have cK:=I bP;clear aA cb bG az vF ke cR bP bs bO ak h47 kS C0 h;go_enter Tryz.func59,Tryz.ntmps59
 go_upto_region 2 with(first|(go_at_call 56;refine(Gb bl.1 bM.1 DJ.1 bV.1 0 (Nat.zero_le _)).mono ?_;rintro bk w1 ⟨bd,c8,c9,rfl,rfl,bO⟩;rw[List.drop_zero]at bO;have dP:=I bO;clear bO))
 generalize w.alloc (.cells #[.int .u8 0,.int .u8 0,.int .u8 0,.int .i64 0,.slice none 0 0,.string ⟨#[]⟩] 47)=cJ at aC bz jO c5 bM⊢;by_cases aG:c8=0
 ·have z0:((c8:Int)==0)=true:=beq_iff_eq.mpr (by omega)
  have fZ:=I (show∀br bH,hQ r=some (br,bH)→¬lE br=true from fun br bH e=>by
   unfold hQ at e;rw[List.eq_nil_of_length_eq_zero (show(bc false r).length=0 by have:=dP.1.dN;omega)]at e;cases e)
  have bj:=bz;have eP:=aC;obtain⟨bW,bZ,b0,b1,b2,Z2,b3,b4,b5,b6,b7,b8⟩:=gO bj.1;clear aG c5
  go_wp2_with fail
  refine fX (n:=4) (S:=fun w'=>w'.cell? ⟨0,0,none⟩=some (.iface dI dQ)) (ds:=[]) #[false,false,false,false] aM rfl rfl (jO.1) (fun hHeld=>?_);refine ax 0 25 ?_;refine eb 1 26 ?_;refine IY 2 fun K aH=>?_;refine tG ?_;refine aH.out _ _ (Lq cJ w.heap.size (.int .u8 0) (.int .u8 0) (.int .u8 0) (.int .i64 0) (.slice none 0 0) (.string ⟨#[]⟩) 0 0 (by have:=mW.1;omega) jO.1) (fun hHeld=>?_);clear aH K;refine ax 3 3 ?_;refine jX aM ?_
  go_wp2_with fail
  refine bodyPost_ret (v:=.tuple #[eA,.iface dI dQ]) (by simp[results,Tryz.results59,go_sem,eA,bW,b0,b2,b3,b5,b7,bZ,b1,Z2,b4,b6,b8]) rfl ⟨fun _=>⟨_,_,rfl,(c6.gg (cf.1.here.below eP.1) ⟨_,bj.1⟩ cA cA (Nat.le_refl _) _ _ _ _ _ _).below (kH (Below.refl _ _))⟩,fun br gd h0 h1=>absurd h1 (fZ.1 br gd h0)⟩
 ·have z0:((c8:Int)==0)=false:=beq_eq_false_iff_ne.mpr (by omega)
  have et:=I (show mi w0 w cJ aJ B s st r (bc false r) [] lc af bd c8 c9 (.slice none 0 0)from⟨cf.1,aC.1,bz.1,dP.1,ab.sw _ _ _ _ _,(by have:=kC r false;have:=cK.1;simp only[List.length_nil];omega),by
   obtain⟨i,_,hi⟩:=pL r false;exact⟨1+i,(by rw[hi,agZ.1,←List.drop_drop];rfl)⟩,bS.1,gE.1.1,gE.1.2⟩)
  clear aG c5
  go_upto_block 0 with fail
  refine wp_cut (xj w0 w aJ B s st r lc af) (fun a' w' au=>?rest) (fun lF ic mJ aH=>?first)
  case rest=>
   obtain⟨u,acc,A,n,c,v0,cl,g,h,dA,rfl⟩:=au;go_step;exact agW h dA
  case first=>
   refine wp_block ?_;refine wp_loop_ghost (fun k a cJ=>Bp w0 w aJ B s st r lc af k a cJ) c8 (Bp.mk (cl:=false) aM rfl rfl rfl rfl rfl rfl et.1 (.inl ⟨rfl,r.length+1,(by have:=kC r false;omega),rfl⟩)) ?_;rintro k a cJ ⟨u,acc,A,c,v0,cl,g,h,dA,rfl⟩;exact agG h dA g (vG w0 w aJ B s st r lc af k) _ lF ic (fun _ _ h=>h) (fun _ _ h=>h) mJ aH
end fx
