/- Part 23 of the proof (Pc2). Conditions: each theorem's own. -/
import Derived.Test.YtmpeadgiclfapaaGreatDoorZ24
set_option linter.all false
set_option maxHeartbeats 0
set_option maxRecDepth 100000
namespace Go.Proofs.YtmpeadgiclfapaaGreatDoor
namespace gi
open RowKit YtmpeadgiclfapaaGreatDoorW.PrintWords YtmpeadgiclfapaaGreatDoorW.PrintLast YtmpeadgiclfapaaGreatDoorW.PrintMore ei cP gJ eI eC j6
structure Hw(W ay:World):Prop where
 b:Below W.heap.size W ay
 aT:ay.cell? ⟨W.heap.size,0,none⟩=some (.int .u8 0)
 bh:ay.cell? ⟨W.heap.size,1,none⟩=some (.bool false)
 bA:ay.cell? ⟨W.heap.size,2,none⟩=some (.int .i64 0)
 y3:ay.cell? ⟨W.heap.size,3,none⟩=some (.int .i64 0)
 z0:ay.frozen? ⟨W.heap.size,0,none⟩=false
 cp:ay.frozen? ⟨W.heap.size,1,none⟩=false
 z2:ay.frozen? ⟨W.heap.size,2,none⟩=false
 z3:ay.frozen? ⟨W.heap.size,3,none⟩=false
noncomputable def DT (n:Nat):Code:=DS n (Tryz.f61.body.getD .skip)
section
variable {l:List Value}
theorem MD{v2 v3 v4 v5 v6 v7:Value}(an:l.length=344)(h2:l.getD 2 undef=v2)(h3:l.getD 3 undef=v3)(h4:l.getD 4 undef=v4)(h5:l.getD 5 undef=v5)(h6:l.getD 6 undef=v6)(h7:l.getD 7 undef=v7):∃g:Nat→Value,(⟨l.toArray,[]⟩:Act)=(⟨List.toArray (g 0::g 1::v2::v3::v4::v5::v6::v7::vX g ([])),[]⟩:Act):=by
 refine qg ?_;refine⟨fun i=>l.getD i undef,?_⟩;subst h2;subst h3;subst h4;subst h5;subst h6;subst h7;exact oZ
theorem QW{v2 v3 v4 v5 v6 v7 v9:Value}(an:l.length=344)(h2:l.getD 2 undef=v2)(h3:l.getD 3 undef=v3)(h4:l.getD 4 undef=v4)(h5:l.getD 5 undef=v5)(h6:l.getD 6 undef=v6)(h7:l.getD 7 undef=v7)(h9:l.getD 9 undef=v9):∃g:Nat→Value,(⟨l.toArray,[]⟩:Act)=(⟨List.toArray (g 0::g 1::v2::v3::v4::v5::v6::v7::g 8::v9::zA g ([])),[]⟩:Act):=by
 simp only[zA,vW,tH,rP,oW,oa,mU,l1];refine⟨fun i=>l.getD i undef,?_⟩;subst h2;subst h3;subst h4;subst h5;subst h6;subst h7;subst h9;exact oZ
theorem Q2{v2 v3 v4 v5 v6 v7 v10:Value}(an:l.length=344)(h2:l.getD 2 undef=v2)(h3:l.getD 3 undef=v3)(h4:l.getD 4 undef=v4)(h5:l.getD 5 undef=v5)(h6:l.getD 6 undef=v6)(h7:l.getD 7 undef=v7)(h10:l.getD 10 undef=v10):∃g:Nat→Value,(⟨l.toArray,[]⟩:Act)=(⟨List.toArray (g 0::g 1::v2::v3::v4::v5::v6::v7::g 8::g 9::v10::vW g ([])),[]⟩:Act):=by
 simp only[vW,tH,rP,oW,oa,mU,l1];refine⟨fun i=>l.getD i undef,?_⟩;subst h2;subst h3;subst h4;subst h5;subst h6;subst h7;subst h10;exact oZ
theorem QG{v2 v3 v4 v5 v6 v7 v11:Value}(an:l.length=344)(h2:l.getD 2 undef=v2)(h3:l.getD 3 undef=v3)(h4:l.getD 4 undef=v4)(h5:l.getD 5 undef=v5)(h6:l.getD 6 undef=v6)(h7:l.getD 7 undef=v7)(h11:l.getD 11 undef=v11):∃g:Nat→Value,(⟨l.toArray,[]⟩:Act)=(⟨List.toArray (g 0::g 1::v2::v3::v4::v5::v6::v7::g 8::g 9::g 10::v11::tH g ([])),[]⟩:Act):=by
 simp only[tH,rP,oW,oa,mU,l1];refine⟨fun i=>l.getD i undef,?_⟩;subst h2;subst h3;subst h4;subst h5;subst h6;subst h7;subst h11;exact oZ
theorem QD{v2 v3 v4 v5 v6 v7 v12:Value}(an:l.length=344)(h2:l.getD 2 undef=v2)(h3:l.getD 3 undef=v3)(h4:l.getD 4 undef=v4)(h5:l.getD 5 undef=v5)(h6:l.getD 6 undef=v6)(h7:l.getD 7 undef=v7)(h12:l.getD 12 undef=v12):∃g:Nat→Value,(⟨l.toArray,[]⟩:Act)=(⟨List.toArray (g 0::g 1::v2::v3::v4::v5::v6::v7::g 8::g 9::g 10::g 11::v12::rP g ([])),[]⟩:Act):=by
 simp only[rP,oW,oa,mU,l1];refine⟨fun i=>l.getD i undef,?_⟩;subst h2;subst h3;subst h4;subst h5;subst h6;subst h7;subst h12;exact oZ
theorem FG{v2 v3 v4 v5 v6 v7 DU:Value}(an:l.length=344)(h2:l.getD 2 undef=v2)(h3:l.getD 3 undef=v3)(h4:l.getD 4 undef=v4)(h5:l.getD 5 undef=v5)(h6:l.getD 6 undef=v6)(h7:l.getD 7 undef=v7)(h13:l.getD 13 undef=DU):∃g:Nat→Value,(⟨l.toArray,[]⟩:Act)=(⟨List.toArray (g 0::g 1::v2::v3::v4::v5::v6::v7::g 8::g 9::g 10::g 11::g 12::DU::oW g ([])),[]⟩:Act):=by
 simp only[oW,oa,mU,l1];refine⟨fun i=>l.getD i undef,?_⟩;subst h2;subst h3;subst h4;subst h5;subst h6;subst h7;subst h13;exact oZ
theorem aao{v2 v3 v4 v5 v6 v7 v12 v228:Value}(an:l.length=344)(h2:l.getD 2 undef=v2)(h3:l.getD 3 undef=v3)(h4:l.getD 4 undef=v4)(h5:l.getD 5 undef=v5)(h6:l.getD 6 undef=v6)(h7:l.getD 7 undef=v7)(h12:l.getD 12 undef=v12)(h228:l.getD 228 undef=v228):∃g:Nat→Value,(⟨l.toArray,[]⟩:Act)=(⟨List.toArray (g 0::g 1::v2::v3::v4::v5::v6::v7::g 8::g 9::g 10::g 11::v12::EM g (v228::oa g ([]))),[]⟩:Act):=by
 simp only[EM,oa,mU,l1];refine⟨fun i=>l.getD i undef,?_⟩;subst h2;subst h3;subst h4;subst h5;subst h6;subst h7;subst h12;subst h228;exact oZ
theorem aag{v2 v3 v4 v5 v6 v7 VI:Value}(an:l.length=344)(h2:l.getD 2 undef=v2)(h3:l.getD 3 undef=v3)(h4:l.getD 4 undef=v4)(h5:l.getD 5 undef=v5)(h6:l.getD 6 undef=v6)(h7:l.getD 7 undef=v7)(h266:l.getD 266 undef=VI):∃g:Nat→Value,(⟨l.toArray,[]⟩:Act)=(⟨List.toArray (g 0::g 1::v2::v3::v4::v5::v6::v7::EN g (VI::mU g ([]))),[]⟩:Act):=by
 simp only[EN,mU,l1];refine⟨fun i=>l.getD i undef,?_⟩;subst h2;subst h3;subst h4;subst h5;subst h6;subst h7;subst h266;exact oZ
theorem aah{v2 v3 v4 v5 v6 v7 DU VJ:Value}(an:l.length=344)(h2:l.getD 2 undef=v2)(h3:l.getD 3 undef=v3)(h4:l.getD 4 undef=v4)(h5:l.getD 5 undef=v5)(h6:l.getD 6 undef=v6)(h7:l.getD 7 undef=v7)(h13:l.getD 13 undef=DU)(h278:l.getD 278 undef=VJ):∃g:Nat→Value,(⟨l.toArray,[]⟩:Act)=(⟨List.toArray (g 0::g 1::v2::v3::v4::v5::v6::v7::g 8::g 9::g 10::g 11::g 12::DU::EO g (VJ::l1 g ([]))),[]⟩:Act):=by
 simp only[EO,l1];refine⟨fun i=>l.getD i undef,?_⟩;subst h2;subst h3;subst h4;subst h5;subst h6;subst h7;subst h13;subst h278;exact oZ
end
def lK(W ay:World)(xs:List Int)(f:Int→List Int→Option (Int×List Int))(a:Act)(w:World):Prop:=
 ∃(bd:Option Addr) (m1 c1:Nat) (k:Int) (r:List Int) (sz:Nat) (g:Nat→Value),ay=w∧dZ ay bd m1 c1 r∧ht xs=f k r∧sz+r.length=xs.length∧a=(⟨#[g 0,g 1,.pointer (some ⟨W.heap.size,0,none⟩),.int .u8 (k),.int .i64 ((sz:Nat)),.bool (a8 xs 45),.slice bd m1 c1,.int .i64 ((hY xs:Nat):Int),g 8,g 9,g 10,g 11,g 12,g 13,g 14,g 15,g 16,g 17,g 18,g 19,g 20,g 21,g 22,g 23,g 24,g 25,g 26,g 27,g 28,g 29,g 30,g 31,g 32,g 33,g 34,g 35,g 36,g 37,g 38,g 39,g 40,g 41,g 42,g 43,g 44,g 45,g 46,g 47,g 48,g 49,g 50,g 51,g 52,g 53,g 54,g 55,g 56,g 57,g 58,g 59,g 60,g 61,g 62,g 63,g 64,g 65,g 66,g 67,g 68,g 69,g 70,g 71,g 72,g 73,g 74,g 75,g 76,g 77,g 78,g 79,g 80,g 81,g 82,g 83,g 84,g 85,g 86,g 87,g 88,g 89,g 90,g 91,g 92,g 93,g 94,g 95,g 96,g 97,g 98,g 99,g 100,g 101,g 102,g 103,g 104,g 105,g 106,g 107,g 108,g 109,g 110,g 111,g 112,g 113,g 114,g 115,g 116,g 117,g 118,g 119,g 120,g 121,g 122,g 123,g 124,g 125,g 126,g 127,g 128,g 129,g 130,g 131,g 132,g 133,g 134,g 135,g 136,g 137,g 138,g 139,g 140,g 141,g 142,g 143,g 144,g 145,g 146,g 147,g 148,g 149,g 150,g 151,g 152,g 153,g 154,g 155,g 156,g 157,g 158,g 159,g 160,g 161,g 162,g 163,g 164,g 165,g 166,g 167,g 168,g 169,g 170,g 171,g 172,g 173,g 174,g 175,g 176,g 177,g 178,g 179,g 180,g 181,g 182,g 183,g 184,g 185,g 186,g 187,g 188,g 189,g 190,g 191,g 192,g 193,g 194,g 195,g 196,g 197,g 198,g 199,g 200,g 201,g 202,g 203,g 204,g 205,g 206,g 207,g 208,g 209,g 210,g 211,g 212,g 213,g 214,g 215,g 216,g 217,g 218,g 219,g 220,g 221,g 222,g 223,g 224,g 225,g 226,g 227,g 228,g 229,g 230,g 231,g 232,g 233,g 234,g 235,g 236,g 237,g 238,g 239,g 240,g 241,g 242,g 243,g 244,g 245,g 246,g 247,g 248,g 249,g 250,g 251,g 252,g 253,g 254,g 255,g 256,g 257,g 258,g 259,g 260,g 261,g 262,g 263,g 264,g 265,g 266,g 267,g 268,g 269,g 270,g 271,g 272,g 273,g 274,g 275,g 276,g 277,g 278,g 279,g 280,g 281,g 282,g 283,g 284,g 285,g 286,g 287,g 288,g 289,g 290,g 291,g 292,g 293,g 294,g 295,g 296,g 297,g 298,g 299,g 300,g 301,g 302,g 303,g 304,g 305,g 306,g 307,g 308,g 309,g 310,g 311,g 312,g 313,g 314,g 315,g 316,g 317,g 318,g 319,g 320,g 321,g 322,g 323,g 324,g 325,g 326,g 327,g 328,g 329,g 330,g 331,g 332,g 333,g 334,g 335,g 336,g 337,g 338,g 339,g 340,g 341,g 342,g 343],[]⟩:Act)
theorem lK.mk{W ay:World}{xs:List Int}{f:Int→List Int→Option (Int×List Int)}{bd:Option Addr}{m1 c1:Nat}{k:Int}{r:List Int}{sz:Nat}{l:List Value}(an:l.length=344)(h2:l.getD 2 undef=.pointer (some ⟨W.heap.size,0,none⟩))(h3:l.getD 3 undef=.int .u8 (k))(h4:l.getD 4 undef=.int .i64 ((sz:Nat)))(h5:l.getD 5 undef=.bool (a8 xs 45))(h6:l.getD 6 undef=.slice bd m1 c1)(h7:l.getD 7 undef=.int .i64 ((hY xs:Nat):Int))(aZ:dZ ay bd m1 c1 r)(hp:ht xs=f k r)(dd:sz+r.length=xs.length):lK W ay xs f ⟨l.toArray,[]⟩ ay:=by
 obtain⟨g,aw⟩:=MD an h2 h3 h4 h5 h6 h7;exact⟨bd,m1,c1,k,r,sz,g,rfl,aZ,hp,dd,aw⟩
section
variable {W ay:World} {xs:List Int} {bd:Option Addr} {m1 c1:Nat} {k:Int} {r:List Int} {sz:Nat} (g:Nat→Value) (hw:Hw W ay) (aq:xs.length≤100000) (aZ:dZ ay bd m1 c1 r)
include g hw aq aZ
theorem afu(hp:ht xs=kP k r)(dd:sz+r.length=xs.length):(DT 12).wp Tryz.prog (bodyPost Tryz.prog Tryz.f61 (fun e w'=>e=.returned (iy xs)∧Below W.heap.size W w')) (⟨List.toArray (g 0::g 1::.pointer (some ⟨W.heap.size,0,none⟩)::.int .u8 (k)::.int .i64 ((sz:Nat))::.bool (a8 xs 45)::.slice bd m1 c1::.int .i64 ((hY xs:Nat):Int)::vX g ([])),[]⟩:Act) ay:=by
 refine qg ?_
 conv=>arg 2;whnf
 refine se ?_;intro aT bh bA y3 z0 cp z2 z3 aC bV bU cr av cW k2;clear hw aq aZ hp dd;have mW:=I (show fF r=true→iy xs=.agg #[.int .u8 0,.bool false,.int .i64 0,.int .i64 0]from fun h=>by unfold iy;rw[cr.1];unfold kP;rw[if_pos h]);have wo:=I (show fF r=false→iy xs=.agg #[.int .u8 k,.bool (a8 xs 45),.int .i64 (sz:Nat),.int .i64 (hY xs:Nat)]from fun h=>by unfold iy;rw[cr.1];unfold kP;rw[if_neg zK];simp only[];rw[show xs.length-r.length=sz by have:=av.1;omega]);by_cases hm:0<m1
 ·obtain⟨bt,bR,rfl,w0⟩:=bU.1.cell 0 hm;refine GV ?_;clear w0;intro x ae w0;have jb:=I (show(r)=x::(r).drop 1 by have:=gz (r) 0 Cc;rw[List.drop_zero]at this;rw[ae];exact this);clear ae;have zQ:=I (show fF (r)=iH x by rw[jb.1];rfl);refine KZ ?_;intro m0 fi fj;clear hm;cases aw:iH x
  ·have mw:=I (wo.1 (zQ.1.trans aw))
   go_wp2_with(first|(go_at_call 83;refine(xS x _).mono ?_;rintro bk wd ⟨rfl,⟨dh,rfl⟩⟩;rw[aw]))
   exact PY
  ·exact Q4
 ·have mw:=I (wo.1 (by rw[show(r)=[]from List.eq_nil_of_length_eq_zero Fu];rfl));refine KY ?_;intro m0 fi fj;clear hm
  go_wp2_with fail
  exact PY
theorem afv(hp:ht xs=pD k r)(dd:sz+r.length=xs.length):(DT 11).wp Tryz.prog (bodyPost Tryz.prog Tryz.f61 (fun e w'=>e=.returned (iy xs)∧Below W.heap.size W w')) (⟨List.toArray (g 0::g 1::.pointer (some ⟨W.heap.size,0,none⟩)::.int .u8 (k)::.int .i64 ((sz:Nat))::.bool (a8 xs 45)::.slice bd m1 c1::.int .i64 ((hY xs:Nat):Int)::vX g ([])),[]⟩:Act) ay:=by
 refine qg ?_;refine tt (lK W ay xs kP) (fun a' w' h=>?rest) (fun lF ic mJ aH=>?first)
 case rest=>
  obtain⟨bd,m1,c1,k,r,sz,aa,rfl,aZ,hp,dd,rfl⟩:=h;exact afu aa hw aq aZ hp dd
 case first=>
  refine se ?_;intro aT bh bA y3 z0 cp z2 z3 aC bV bU cr av cW k2;clear hw aq aZ hp dd;by_cases hm:0<m1
  ·obtain⟨bt,bR,rfl,w0⟩:=bU.1.cell 0 hm;refine GV ?_;clear w0;intro x ae w0;have jb:=I (show(r)=x::(r).drop 1 by have:=gz (r) 0 Cc;rw[List.drop_zero]at this;rw[ae];exact this);clear ae;have gw:=I hm;refine KZ ?_;intro m0 fi fj;clear hm;refine La ?_;intro ao kr bl bs;refine KW ?_;intro hw iw;have dM:x=102∨x=70∨(x≠102∧x≠70):=by omega
   rcases dM with aG|aG|aG
   ·have nI:(x==102)=true:=beq_iff_eq.mpr (by omega);have za:(x==70)=false:=beq_eq_false_iff_ne.mpr (by omega);exact Q5
   ·have nI:(x==102)=false:=beq_eq_false_iff_ne.mpr (by omega);have za:(x==70)=true:=beq_iff_eq.mpr (by omega);exact Q5
   ·have nI:(x==102)=false:=beq_eq_false_iff_ne.mpr (by exact aG.1);have za:(x==70)=false:=beq_eq_false_iff_ne.mpr (by exact aG.2);have et:=I (show¬(a8 r 102=true∨a8 r 70=true)by rw[jb.1];simp only[a8,beq_iff_eq];omega);clear aG;exact QB
  ·have et:=I (show¬(a8 r 102=true∨a8 r 70=true)by rw[show r=[]from List.eq_nil_of_length_eq_zero Fu];decide);refine KY ?_;intro m0 fi fj;clear hm;exact QB
theorem afw(hp:ht xs=pC k r)(dd:sz+r.length=xs.length):(DT 10).wp Tryz.prog (bodyPost Tryz.prog Tryz.f61 (fun e w'=>e=.returned (iy xs)∧Below W.heap.size W w')) (⟨List.toArray (g 0::g 1::.pointer (some ⟨W.heap.size,0,none⟩)::.int .u8 (k)::.int .i64 ((sz:Nat))::.bool (a8 xs 45)::.slice bd m1 c1::.int .i64 ((hY xs:Nat):Int)::vX g ([])),[]⟩:Act) ay:=by
 refine qg ?_;refine tt (lK W ay xs pD) (fun a' w' h=>?rest) (fun lF ic mJ aH=>?first)
 case rest=>
  obtain⟨bd,m1,c1,k,r,sz,aa,rfl,aZ,hp,dd,rfl⟩:=h;exact afv aa hw aq aZ hp dd
 case first=>
  refine se ?_;intro aT bh bA y3 z0 cp z2 z3 aC bV bU cr av cW k2;clear hw aq aZ hp dd;by_cases hm:2≤m1
  ·obtain⟨bt,bR,rfl,w0⟩:=bU.1.cell 0 (show 0<m1 by omega);refine GV ?_;clear w0;intro x ae w0;have jb:=I (show(r)=x::(r).drop 1 by have:=gz (r) 0 (by rw[←bU.1.dN];exact(show 0<m1 by omega));rw[List.drop_zero]at this;rw[ae];exact this);clear ae;have gw:=I hm;have m0:decide ((m1:Int)≥2)=true:=decide_eq_true (by omega);have fi:=eq_true (show(0:Int)<(m1:Int)by omega);have fj:=eq_true (show 0<m1 by omega);have Hx:=eq_true (show(2:Int)≤(m1:Int)by omega);clear hm;by_cases aG:x=101∨x=69
   ·have et:=I (show a8 r 101=true∨a8 r 69=true by rw[jb.1];simp only[a8,beq_iff_eq];exact aG);refine La ?_;intro ao kr bl bs;obtain⟨m2,dV⟩:∃m2,m2=m1-1:=⟨_,rfl⟩;rw[←dV]at bs bl;obtain⟨q,ar⟩:∃q,q=r.drop 1:=⟨_,rfl⟩;rw[←ar]at bl;have tT:=I (show ht xs=w6 q by rw[cr.1,ar];unfold pC;rw[if_pos ⟨uT,et.1⟩]);have fz:=I (show 0<m2∧sz+1+q.length=xs.length by rw[ar,List.length_drop];have:=gw.1;have:=bU.1.dN;have:=av.1;omega);have pE:=I (show m2≤100000 by have:=cW.1;omega);clear dV ar
    go_upto_region 64 with fail
    refine wp_cut (fun a' w'=>ay=w'∧∃aa:Nat→Value,a'=(⟨List.toArray (aa 0::aa 1::.pointer (some ⟨W.heap.size,0,none⟩)::.int .u8 (k)::.int .i64 ((sz:Nat))::.bool (a8 xs 45)::.slice (some ⟨bt,bR,none⟩) m1 c1::.int .i64 ((hY xs:Nat):Int)::EN aa (.bool true::mU aa ([]))),[]⟩:Act)) ?_ ?_
    rotate_left
    ·intro ec dc dD dE;rcases aG with aG|aG
     ·have nI:(x==101)=true:=beq_iff_eq.mpr (by omega);have za:(x==69)=false:=beq_eq_false_iff_ne.mpr (by omega);exact PU
     ·have nI:(x==101)=false:=beq_eq_false_iff_ne.mpr (by omega);have za:(x==69)=true:=beq_iff_eq.mpr (by omega);exact PU
    ·rintro _ _ ⟨rfl,g0,rfl⟩;simp only[EN,mU,l1];clear m0 fi fj Hx w0 jb
     go_upto_region 65 with fail
     go_upto_region 68 with fail
     obtain⟨di,ek,rfl,w1⟩:=bl.1.cell 0 fz.1.1;rw[Nat.add_zero]at w1;obtain⟨y,aX⟩:∃y,y=rd (q) ((0:Nat):Int):=⟨_,rfl⟩;rw[←aX]at w1;have MH:=I (show(q)=y::(q).drop 1 by have:=gz (q) 0 (by rw[←bl.1.dN];exact fz.1.1);rw[List.drop_zero]at this;rw[aX];exact this);clear aX;have Gm:=eq_true (show(0:Int)<(m2:Int)by have:=fz.1;omega);have Gn:=eq_true fz.1.1;refine wp_cut (fun a' w'=>ay=w'∧∃aa:Nat→Value,a'=(⟨List.toArray (aa 0::aa 1::.pointer (some ⟨W.heap.size,0,none⟩)::.int .u8 (4)::.int .i64 ((sz:Nat))::.bool (a8 xs 45)::.slice (some ⟨di,ek,none⟩) m2 kr::.int .i64 ((hY xs:Nat):Int)::aa 8::aa 9::aa 10::aa 11::aa 12::.int .i64 1::EO aa (.bool (a8 q 43||a8 q 45)::l1 aa ([]))),[]⟩:Act)) ?_ ?_
     rotate_left
     ·intro ec dc dD dE;have dM:y=43∨y=45∨(y≠43∧y≠45):=by omega
      rcases dM with aG|aG|aG
      ·have gx:=I (show(a8 q 43||a8 q 45)=true by rw[MH.1,aG];simp[a8]);have Bi:(y==43)=true:=beq_iff_eq.mpr (by omega);have Bj:(y==45)=false:=beq_eq_false_iff_ne.mpr (by omega);exact Js
      ·have gx:=I (show(a8 q 43||a8 q 45)=true by rw[MH.1,aG];simp[a8]);have Bi:(y==43)=false:=beq_eq_false_iff_ne.mpr (by omega);have Bj:(y==45)=true:=beq_iff_eq.mpr (by omega);exact Js
      ·have gx:=I (show(a8 q 43||a8 q 45)=false by rw[MH.1];simp only[a8,Bool.or_eq_false_iff,beq_eq_false_iff_ne];exact aG);have Bi:(y==43)=false:=beq_eq_false_iff_ne.mpr aG.1;have Bj:(y==45)=false:=beq_eq_false_iff_ne.mpr aG.2;exact Js
     ·rintro _ _ ⟨rfl,g0,rfl⟩;simp only[EO,l1]
      go_upto_if 278 with fail
      refine wp_cut (fun a' w'=>∃(bF:Option Addr) (m3 c7 fB:Nat) (u:List Int),fB≤2∧dZ ay bF m3 c7 u∧ht xs=vz u∧sz+fB+u.length=xs.length∧ay=w'∧∃aa:Nat→Value,a'=(⟨List.toArray (aa 0::aa 1::.pointer (some ⟨W.heap.size,0,none⟩)::.int .u8 (4)::.int .i64 ((sz:Nat))::.bool (a8 xs 45)::.slice bF m3 c7::.int .i64 ((hY xs:Nat):Int)::aa 8::aa 9::aa 10::aa 11::aa 12::.int .i64 ((fB:Nat):Int)::oW aa ([])),[]⟩:Act)) ?_ ?_
      rotate_left
      ·intro ec dc dD dE;cases U:(a8 q 43||a8 q 45)
       ·have bM:=I (show¬(a8 q 43=true∨a8 q 45=true)by simpa using U);clear U
        go_wp2_with fail
        refine Met.intro ?_;go_step;exact⟨some ⟨di,ek,none⟩,m2,kr,1,q,(by decide),bl.1,(by rw[tT.1];unfold w6;rw[if_neg bM.1]),fz.1.2,rfl,FG aM rfl rfl rfl rfl rfl rfl rfl⟩
       ·have bM:=I (show a8 q 43=true∨a8 q 45=true by simpa using U);clear U;obtain⟨cZ,c9,fV,hr⟩:=bl.1.from_ 1 uV;have dP:=I hr;have hn:∀aQ:World,(Instr.slice 22 (.slice (some ⟨di,ek,none⟩) m2 kr) (some (.int .i64 1)) none none).run Tryz.prog aQ=.ok (.slice cZ (m2-1) c9) aQ:=fV;clear hr fV;obtain⟨m3,dV⟩:∃m3,m3=m2-1:=⟨_,rfl⟩;rw[←dV]at hn dP;have xR:=I dV;have hX:wrap64 ((1:Int)+1)=2:=by unfold wrap64;omega
        clear dV;by_cases hm:m3=0
        ·subst hm;have dz:=I (show iy xs=.agg #[.int .u8 0,.bool false,.int .i64 0,.int .i64 0]by unfold iy;rw[tT.1];unfold w6;rw[if_pos bM.1,if_pos (by have:=xR.1;have:=fz.1;have:=bl.1.dN;omega)]);exact Cp
        ·have m0:((m3:Int)==0)=false:=beq_eq_false_iff_ne.mpr (by omega);have ix:=I (show¬q.length=1 by have:=xR.1;have:=fz.1;have:=bl.1.dN;omega);clear hm
         go_wp2_with fail
         refine Met.intro ?_;go_step;exact⟨cZ,m3,c9,2,q.drop 1,Nat.le_refl _,dP.1,(by rw[tT.1];unfold w6;rw[if_pos bM.1,if_neg ix.1]),(by rw[List.length_drop];have:=fz.1;have:=bl.1.dN;omega),rfl,FG aM rfl rfl rfl rfl rfl rfl pz⟩
      ·rintro _ _ ⟨bF,m3,c7,fB,u,Ml,aZ,hp,dd,rfl,g0,rfl⟩;simp only[oW,oa,mU,l1];clear bs bU;have dP:=I aZ;have cT:=I hp;have fk:=I (And.intro Ml dd);have xR:=I (show m3≤100000 by have:=aZ.dN;have:=bV.1;omega);clear aZ hp dd Ml
       go_upto_block 10 with fail
       refine wp_cut (fun a' w'=>∃(cZ:Option Addr) (m c2 j:Nat),dZ ay cZ m c2 (u.drop j)∧j=dt cN u∧ay=w'∧∃aa:Nat→Value,a'=(⟨List.toArray (aa 0::aa 1::.pointer (some ⟨W.heap.size,0,none⟩)::.int .u8 (4)::.int .i64 ((sz:Nat))::.bool (a8 xs 45)::.slice cZ m c2::.int .i64 ((hY xs:Nat):Int)::aa 8::aa 9::aa 10::aa 11::aa 12::.int .i64 ((fB:Int)+(j:Int))::oW aa ([])),[]⟩:Act)) ?_ ?_
       rotate_left
       ·intro ec dc dD dE
        go_wp2_with fail
        go_loopg [6,13] m3 (fun g v0 v1 w'=>∃(cZ:Option Addr) (m c2 j:Nat),v0=.slice cZ m c2∧v1=.int .i64 ((fB:Int)+(j:Int))∧ay=w'∧aN (m=g∧j≤u.length)∧aN (dZ ay cZ m c2 (u.drop j)∧j+dt cN (u.drop j)=dt cN u))
        case atStart=>exact⟨bF,m3,c7,0,rfl,rfl,rfl,⟨rfl,Nat.zero_le _⟩,⟨dP.1,xJ⟩⟩
        case round=>
         obtain⟨cZ,m,c2,j,rfl,rfl,rfl,aV,bU⟩:=hrel;have lk:=I (show m=u.length-j by rw[bU.1.1.dN,List.length_drop]);by_cases hm:0<m
         ·obtain⟨bt,bR,rfl,w0⟩:=bU.1.1.cell 0 hm;have au:rd (u.drop j) ((0:Nat):Int)=rd u (j:Int):=by rw[←Nat.add_zero j,←ta];rfl
          rw[au,Nat.add_zero]at w0;have l2:=I (gz u j Ce);obtain⟨x,ae⟩:∃x,x=rd u (j:Int):=⟨_,rfl⟩;rw[←ae]at w0;refine Ln ?_;clear au ae;intro dG gw m0;intro fi fj;clear hm;obtain⟨kc,c3,fV,hr⟩:=bU.1.1.from_ 1 tP;have ky:=I hr;have bs:∀aQ:World,(Instr.slice 22 (.slice (some ⟨bt,bR,none⟩) m c2) (some (.int .i64 1)) none none).run Tryz.prog aQ=.ok (.slice kc (m-1) c3) aQ:=fV;clear hr fV;have hw:wrap64 ((fB:Int)+(j:Int)+1)=(fB:Int)+((j+1:Nat):Int):=by have h0:=fk.1;have h1:=lk.1;have h2:=xR.1;have h3:=dP.1.dN;have h4:=aV.1.2;unfold wrap64;omega
          have sP:=I hw;have dM:(x≤47)∨(48≤x∧x≤57)∨(58≤x):=by omega
          rcases dM with aG|aG|aG
          ·have ll:decide (48≤x)=false:=decide_eq_false (by omega);refine C4 ?_;intro aW;refine Ai ?_;clear aG;intro k0;exact QE
          ·refine Aq ?_;intro ll;refine C4 ?_;intro aW;have k0:=I (show cN x=true by unfold cN;simp only[Bool.or_eq_true,Bool.and_eq_true,decide_eq_true_eq];omega);clear aG
           go_wp2_with fail
           go_roundg(m-1)
           case measure=>have:=aV.1.1;have:=gw.1;omega
           case rel=>exact⟨kc,m-1,c3,j+1,rfl,Fh,rfl,⟨rfl,Jl⟩,⟨(by have:=ky.1;rwa[List.drop_drop]at this),PG⟩⟩
          ·refine Aq ?_;intro ll;refine zP ?_;intro aW;refine Ai ?_;clear aG;intro k0;exact QE
         ·have m0:decide ((m:Int)>0)=false:=decide_eq_false (by omega);have ct:=I (show u.drop j=[]from List.eq_nil_of_length_eq_zero wb);refine vi ?_;intro fi fj;clear hm
          go_wp2_with fail
          refine Met.intro ?_;go_step;exact⟨cZ,m,c2,j,bU.1.1,(by have h5:=bU.1.2;rw[ct.1]at h5;exact h5),rfl,FG aM rfl rfl rfl rfl rfl rfl rfl⟩
       ·rintro _ _ ⟨cZ,m,c2,j,aZ,ij,rfl,g0,rfl⟩;simp only[oW,oa,mU,l1];have bU:=I aZ;have oh:=I ij;have lk:=I (show m=u.length-j by rw[aZ.dN,List.length_drop]);clear aZ ij;have k1:=I (show j≤u.length by have h5:=oh.1;have h1:=nD cN u;omega);have hw:wrap64 ((sz:Int)+((fB:Int)+(j:Int)))=((sz+(fB+j):Nat):Int):=by have h5:=k1.1;have h2:=fk.1;have h3:=bV.1;unfold wrap64;omega
        have iw:=I hw
        go_wp2_with fail
        refine Met.intro ?_;go_step;exact lK.mk (r:=u.drop j) (sz:=sz+(fB+j)) aM rfl rfl zE rfl rfl rfl bU.1 (by rw[cT.1];unfold vz;rw[←oh.1]) (by rw[List.length_drop];have:=fk.1;have:=k1.1;omega)
   ·have et:=I (show¬(2≤r.length∧(a8 r 101=true∨a8 r 69=true))by rw[jb.1];simp only[a8,beq_iff_eq];exact fun h=>aG h.2);have nI:(x==101)=false:=beq_eq_false_iff_ne.mpr (fun h=>aG (.inl h));have za:(x==69)=false:=beq_eq_false_iff_ne.mpr (fun h=>aG (.inr h));clear aG;exact QA
  ·have et:=I (show¬(2≤r.length∧(a8 r 101=true∨a8 r 69=true))by rw[←bU.1.dN];exact fun h=>hm h.1);have m0:decide ((m1:Int)≥2)=false:=decide_eq_false (by omega);have Hx:=eq_false (show¬(2:Int)≤(m1:Int)by omega);clear hm;exact QA
theorem aaB(hp:ht xs=ie k r)(dd:sz+r.length=xs.length):(DT 9).wp Tryz.prog (bodyPost Tryz.prog Tryz.f61 (fun e w'=>e=.returned (iy xs)∧Below W.heap.size W w')) (⟨List.toArray (g 0::g 1::.pointer (some ⟨W.heap.size,0,none⟩)::.int .u8 (k)::.int .i64 ((sz:Nat))::.bool (a8 xs 45)::.slice bd m1 c1::.int .i64 ((hY xs:Nat):Int)::vX g ([])),[]⟩:Act) ay:=by
 refine qg ?_;refine tt (lK W ay xs pC) (fun a' w' h=>?rest) (fun lF ic mJ aH=>?first)
 case rest=>
  obtain⟨bd,m1,c1,k,r,sz,aa,rfl,aZ,hp,dd,rfl⟩:=h;exact afw aa hw aq aZ hp dd
 case first=>
  refine se ?_;intro aT bh bA y3 z0 cp z2 z3 aC bV bU cr av cW k2;clear hw aq aZ hp dd;by_cases hm:0<m1
  ·obtain⟨bt,bR,rfl,w0⟩:=bU.1.cell 0 hm;refine GV ?_;clear w0;intro x ae w0;have jb:=I (show(r)=x::(r).drop 1 by have:=gz (r) 0 Cc;rw[List.drop_zero]at this;rw[ae];exact this);clear ae;have gw:=I hm;refine KZ ?_;intro m0 fi fj;clear hm;by_cases aG:x=46
   ·have a7:=I (show a8 r 46=true by rw[jb.1,aG];rfl);have nI:(x==46)=true:=beq_iff_eq.mpr aG;clear aG;refine La ?_;intro ao kr bl bs;obtain⟨m2,dV⟩:∃m2,m2=m1-1:=⟨_,rfl⟩;rw[←dV]at bs bl;have pE:=I (show m2≤100000 by have:=cW.1;omega);have jJ:=I dV;clear dV
    go_upto_region 57 with fail
    refine wp_cut (fun a' w'=>ay=w'∧∃aa:Nat→Value,a'=(⟨List.toArray (aa 0::aa 1::.pointer (some ⟨W.heap.size,0,none⟩)::.int .u8 (k)::.int .i64 ((sz:Nat))::.bool (a8 xs 45)::.slice ao m2 kr::.int .i64 ((hY xs:Nat):Int)::aa 8::aa 9::aa 10::aa 11::.int .i64 1::EM aa (.bool (decide (m2=0∧k=4))::oa aa ([]))),[]⟩:Act)) ?_ ?_
    rotate_left
    ·intro ec dc dD dE;by_cases hm:m2=0
     ·have m0:((m2:Int)==0)=true:=beq_iff_eq.mpr (by omega);by_cases ad:k=4
      ·have et:=I (show decide (m2=0∧k=4)=true from decide_eq_true ⟨hm,ad⟩);have cd:(k==4)=true:=beq_iff_eq.mpr ad;clear hm ad;exact JK
      ·have et:=I (show decide (m2=0∧k=4)=false from decide_eq_false (fun h=>ad h.2));have cd:(k==4)=false:=beq_eq_false_iff_ne.mpr ad;clear hm ad;exact JK
     ·have et:=I (show decide (m2=0∧k=4)=false from decide_eq_false (fun h=>hm h.1));have m0:((m2:Int)==0)=false:=beq_eq_false_iff_ne.mpr (by omega);clear hm;exact JK
    ·rintro _ _ ⟨rfl,g0,rfl⟩;simp only[EM,oa,mU,l1];clear nI m0 fi fj w0 bs jb
     go_upto_if 228 with fail
     cases hd:decide (m2=0∧k=4)
     ·have cT:=I (show ht xs=AZ (r.drop 1)by rw[cr.1];unfold ie;rw[if_pos a7.1,if_neg (by have:=of_decide_eq_false hd;have:=jJ.1;have:=bU.1.dN;omega)]);clear hd bU
      go_upto_block 8 with fail
      refine wp_cut (fun a' w'=>∃(bF:Option Addr) (m c2 j:Nat),dZ ay bF m c2 ((r.drop 1).drop j)∧j=dt cN (r.drop 1)∧ay=w'∧∃aa:Nat→Value,a'=(⟨List.toArray (aa 0::aa 1::.pointer (some ⟨W.heap.size,0,none⟩)::.int .u8 (k)::.int .i64 ((sz:Nat))::.bool (a8 xs 45)::.slice bF m c2::.int .i64 ((hY xs:Nat):Int)::aa 8::aa 9::aa 10::aa 11::.int .i64 (1+(j:Int))::rP aa ([])),[]⟩:Act)) ?_ ?_
      rotate_left
      ·intro ec dc dD dE
       go_wp2_with fail
       go_loopg [6,12] m2 (fun g v0 v1 w'=>∃(bF:Option Addr) (m c2 j:Nat),v0=.slice bF m c2∧v1=.int .i64 (1+(j:Int))∧ay=w'∧aN (m=g∧j≤(r.drop 1).length)∧aN (dZ ay bF m c2 ((r.drop 1).drop j)∧j+dt cN ((r.drop 1).drop j)=dt cN (r.drop 1)))
       case atStart=>exact⟨ao,m2,kr,0,rfl,rfl,rfl,⟨rfl,Nat.zero_le _⟩,⟨bl.1,xJ⟩⟩
       case round=>
        obtain⟨bF,m,c2,j,rfl,rfl,rfl,aV,bU⟩:=hrel;have lk:=I (show m=(r.drop 1).length-j by rw[bU.1.1.dN,List.length_drop]);by_cases hm:0<m
        ·obtain⟨bt,bR,rfl,w0⟩:=bU.1.1.cell 0 hm;have au:rd ((r.drop 1).drop j) ((0:Nat):Int)=rd (r.drop 1) (j:Int):=by rw[←Nat.add_zero j,←ta];rfl
         rw[au,Nat.add_zero]at w0;have l2:=I (gz (r.drop 1) j Ce);obtain⟨x,ae⟩:∃x,x=rd (r.drop 1) (j:Int):=⟨_,rfl⟩;rw[←ae]at w0;refine Ln ?_;clear au ae;intro dG gw m0;intro fi fj;clear hm;obtain⟨cZ,c3,fV,hr⟩:=bU.1.1.from_ 1 tP;have dP:=I hr;have bs:∀aQ:World,(Instr.slice 22 (.slice (some ⟨bt,bR,none⟩) m c2) (some (.int .i64 1)) none none).run Tryz.prog aQ=.ok (.slice cZ (m-1) c3) aQ:=fV;clear hr fV;refine Tm ?_;intro hw sP dM;rcases dM with aG|aG|aG
         ·have ll:decide (48≤x)=false:=decide_eq_false (by omega);refine C4 ?_;intro aW;refine Ai ?_;clear aG;intro k0;exact QC
         ·refine Aq ?_;intro ll;exact Rn
         ·refine Aq ?_;intro ll;refine zP ?_;intro aW;refine Ai ?_;clear aG;intro k0;exact QC
        ·have m0:decide ((m:Int)>0)=false:=decide_eq_false (by omega);have ct:=I (show(r.drop 1).drop j=[]from List.eq_nil_of_length_eq_zero wb);refine vi ?_;intro fi fj;clear hm
         go_wp2_with fail
         refine Met.intro ?_;go_step;exact⟨bF,m,c2,j,bU.1.1,Fi,rfl,QD aM rfl rfl rfl rfl rfl rfl rfl⟩
      ·rintro _ _ ⟨bF,m,c2,j,aZ,ij,rfl,g0,rfl⟩;simp only[rP,oW,oa,mU,l1];have bU:=I aZ;have oh:=I ij;have lk:=I (show m=(r.drop 1).length-j by rw[aZ.dN,List.length_drop]);clear aZ ij;have k1:=I (show j≤r.length-1 by have h4:=oh.1;have h0:=nD cN (r.drop 1);rw[List.length_drop]at h0;omega);have hw:wrap64 ((sz:Int)+(1+(j:Int)))=((sz+(1+j):Nat):Int):=by have h4:=k1.1;have h1:=av.1;have h2:=bV.1;unfold wrap64;omega
       have iw:=I hw
       go_wp2_with fail
       refine Met.intro ?_;go_step;exact lK.mk (r:=(r.drop 1).drop j) (sz:=sz+(1+j)) aM rfl rfl zE rfl rfl rfl bU.1 (by rw[cT.1];unfold AZ;rw[←oh.1]) (by rw[List.length_drop,List.length_drop];have:=av.1;have:=k1.1;have:=gw.1;have:=k2.1;omega)
     ·have dz:=I (show iy xs=.agg #[.int .u8 0,.bool false,.int .i64 0,.int .i64 0]by unfold iy;rw[cr.1];unfold ie;rw[if_pos a7.1,if_pos (by have:=of_decide_eq_true hd;have:=jJ.1;have:=bU.1.dN;have:=gw.1;omega)]);clear hd;exact Cp
   ·have et:=I (show¬a8 r 46=true by rw[jb.1];simp only[a8,beq_iff_eq];exact aG);have nI:(x==46)=false:=beq_eq_false_iff_ne.mpr aG;clear aG;exact Qz
  ·have et:=I (show¬a8 r 46=true by rw[show r=[]from List.eq_nil_of_length_eq_zero Fu];decide);refine KY ?_;intro m0 fi fj;clear hm;exact Qz
end
end gi
