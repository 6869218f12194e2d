/- Part 31 of the proof (Nf0, Pt0, Pt1, Pt2, Pt3). Conditions: each theorem's own. -/
import Derived.Test.YtmpeadgiclfapaaGreatDoorZ32
set_option linter.all false
set_option maxHeartbeats 0
set_option maxRecDepth 100000
namespace Go.Proofs.YtmpeadgiclfapaaGreatDoor
namespace gi
open RowKit YtmpeadgiclfapaaGreatDoorW.PrintWords YtmpeadgiclfapaaGreatDoorW.PrintLast YtmpeadgiclfapaaGreatDoorW.PrintMore ei cP gJ eI
def sat(n:Int):Int:=if n≤2147483648 then n else 2147483648
section
variable (rest:List Int) (au:∀c r,rest=c::r→cN c=false)
include rest au
theorem agq:∀ds:List Int,(∀c∈ds,cN c=true)→jx 2147483648 (ds++rest)=2147483648:=by
 intro ds
 induction ds with
 |nil=>
  intro _;cases rest with
  |nil=>rfl
  |cons c r=>simp only[List.nil_append,jx];rw[if_neg (by rw[au c r rfl];decide)]
 |cons c ds bb=>
  intro h;have ai:=h c (by simp);have hd:48≤c∧c≤57:=by simpa [cN]using ai
  simp only[List.cons_append,jx];rw[if_pos ai,if_neg (by omega)];exact bb (fun x ae=>h x tQ)
theorem agr:∀(ds:List Int) (acc:Nat),(∀c∈ds,cN c=true)→
 (∃u,Lib.parseUintM 4294967295 acc (ds.map (fun x=>UInt8.ofNat x.toNat))=.ok u∧jx (sat acc) (ds++rest)=sat u)∨(Lib.parseUintM 4294967295 acc (ds.map (fun x=>UInt8.ofNat x.toNat))=.range∧jx (sat acc) (ds++rest)=2147483648):=by
 intro ds
 induction ds with
 |nil=>
  intro acc _;left;refine⟨acc,rfl,?_⟩;cases rest with
  |nil=>rfl
  |cons c r=>simp only[List.nil_append,jx];rw[if_neg (by rw[au c r rfl];decide)]
 |cons c ds bb=>
  intro acc h;have ai:=h c (by simp);have hd:48≤c∧c≤57:=by simpa [cN]using ai
  have aU:(UInt8.ofNat c.toNat).toNat=c.toNat:=by rw[UInt8.toNat_ofNat_of_lt' Fs]
  have Wv:∀x∈ds,cN x=true:=fun x ae=>h x tQ;have ak:=agq rest au ds Wv;simp only[List.map_cons,Lib.parseUintM,List.cons_append,jx];rw[aU,if_pos (by omega),if_pos ai];by_cases h0:1844674407370955162≤acc
  ·rw[if_pos h0];right;refine⟨rfl,?_⟩;have:sat (acc:Int)=2147483648:=by unfold sat;split<;>omega
   rw[this,if_neg (by omega)];exact ak
  ·rw[if_neg h0];by_cases h1:4294967295<acc*10+(c.toNat-48)
   ·rw[if_pos h1];right;refine⟨rfl,?_⟩;rw[if_neg (by unfold sat;split<;>omega)];exact ak
   ·rw[if_neg h1]
    have e:(if 10*sat (acc:Int)+(c-48)≤2147483648 then 10*sat (acc:Int)+(c-48)else 2147483648)=sat ((acc*10+(c.toNat-48):Nat):Int):=by
     unfold sat;split<;>split<;>(try split)<;>omega
    rw[e];exact bb _ Wv
end
theorem ags:∀(s:List Int),∀c∈s.take (bI s),cN c=true:=by
 intro s
 induction s with
 |nil=>intro c ai;simp at ai
 |cons x r bb=>
  intro c ai;simp only[bI]at ai;by_cases ae:cN x=true
  ·rw[if_pos ae]at ai;rw[List.take_succ_cons]at ai;rcases List.mem_cons.1 ai with rfl|ai
   ·exact ae
   ·exact bb c ai
  ·rw[if_neg ae]at ai;simp at ai
theorem agt:∀(s:List Int) (c:Int) (r:List Int),s.drop (bI s)=c::r→cN c=false:=by
 intro s
 induction s with
 |nil=>intro c r h;simp at h
 |cons x t bb=>
  intro c r h;simp only[bI]at h;by_cases ae:cN x=true
  ·rw[if_pos ae]at h;exact bb c r h
  ·rw[if_neg ae]at h;simp only[List.drop_zero,List.cons.injEq]at h;rw[←h.1]
   simpa using ae
theorem agu{s:List Int}(h0:0<bI s):(jx 0 s≤2147483647→∃v,Lib.parseIntB 32 (strOfNums (s.take (bI s))).data.toList=.ok v)∧(2147483647<jx 0 s→Lib.parseIntB 32 (strOfNums (s.take (bI s))).data.toList=.range):=by
 have hd:=ags s;have hp:=agr (s.drop (bI s)) (agt s) (s.take (bI s)) 0 hd;rw[List.take_append_drop]at hp;have hlen:(s.take (bI s)).length=bI s:=by rw[List.length_take];exact Nat.min_eq_left (uh s)
 have an:(strOfNums (s.take (bI s))).data.toList=(s.take (bI s)).map (fun x=>UInt8.ofNat x.toNat):=by simp[strOfNums]
 rw[an];generalize s.take (bI s)=ds at hd hp hlen;cases ds with
 |nil=>simp at hlen;omega
 |cons c r=>
  have ai:=hd c (by simp);have akk:48≤c∧c≤57:=by simpa [cN]using ai
  have aU:(UInt8.ofNat c.toNat).toNat=c.toNat:=by rw[UInt8.toNat_ofNat_of_lt' Fs]
  rw[List.map_cons,Lib.parseIntB_plain 32 _ _ (by rw[aU];omega) (by rw[aU];omega)]
  have hu:Lib.parseUintB 32 (UInt8.ofNat c.toNat::r.map (fun x=>UInt8.ofNat x.toNat))=Lib.parseUintM 4294967295 0 ((c::r).map (fun x=>UInt8.ofNat x.toNat)):=by
   unfold Lib.parseUintB;rw[if_neg (by simp)];rfl
  rw[hu];have aD:sat ((0:Nat):Int)=0:=rfl;rw[aD]at hp;rcases hp with⟨u,h1,h2⟩|⟨h1,h2⟩
  ·rw[h1,h2];unfold Lib.signlessC sat;simp only;constructor
   ·intro h;exact⟨_,(by rw[if_neg (by split at h<;>omega)])⟩
   ·intro h;rw[if_pos (by split at h<;>omega)]
  ·rw[h1,h2];exact⟨fun h=>absurd h (by decide),fun _=>rfl⟩
end gi
namespace fx
open RowKit YtmpeadgiclfapaaGreatDoorW.PrintWords YtmpeadgiclfapaaGreatDoorW.PrintLast YtmpeadgiclfapaaGreatDoorW.PrintMore ei cP gJ eI eC gi j6
noncomputable def uE (n:Nat):Code:=DS n (Tryz.f59.body.getD .skip)
noncomputable def M9:Code:=M6 (uE 5)
theorem Kx{w0 w:World}{g:Nat}{B s st:List Int}{lc af:Int}(h:dK w0 w g B s st lc af)(A:Option Addr)(n c k:Nat)(aq:n≤s.length)(ad:k≤3):
 Calls Tryz.prog 80 #[.pointer (some ⟨g,0,none⟩),.slice A n c,.int .i64 (k:Int)] w (MJ w):=by
 have cb:=h.len;obtain⟨f,aA⟩:=h;have dz:=I aA;obtain⟨e,he⟩:∃e,e=s.length-n:=⟨_,rfl⟩;obtain⟨aD,od⟩:∃aD,aD=e+min k n:=⟨_,rfl⟩;have h0:wrap64 ((s.length:Int)-(n:Int))=(e:Int):=by unfold wrap64;omega
 have h1:wrap64 ((e:Int)+min (k:Int) (n:Int))=(aD:Int):=by unfold wrap64;omega
 obtain⟨hcut,_⟩:=aA.gm.pI aD (by omega);clear aA cb aq ad he od;go_enter Tryz.func80,Tryz.ntmps80
 go_wp2_with fail
 refine fX (n:=23) (S:=fun w'=>w'.cell? ⟨g,10,none⟩=some (.slice f.gX s.length f.ci)) (ds:=[]) #[false,false,false,false,false,false,false,false,false,false,false,false,false,false,false,false,false,false,false,false,false,false,false] aM rfl rfl ((dz.1.below (Below.drew (Below.refl _ _))).c5) (fun hHeld=>?_);refine ax 0 7 ?_;refine ax 1 8 ?_;refine ax 2 9 ?_;refine ax 3 10 ?_;refine ax 5 12 ?_;refine ax 6 13 ?_;refine ax 7 14 ?_;refine ax 10 17 ?_;refine ax 11 18 ?_;refine ax 13 20 ?_;refine ax 14 21 ?_;refine ax 15 22 ?_;refine ax 16 23 ?_;refine eb 4 11 ?_;refine eb 8 15 ?_;refine ax 9 16 ?_;refine ax 12 19 ?_;refine ax 17 24 ?_;refine ax 18 25 ?_;refine ax 19 26 ?_;refine gb 20 27 fun K aH=>?_;refine px ?_;refine aH.out _ _ ((dz.1.below (da (Below.drew (Below.refl _ _)) _)).c5) (fun hHeld=>?_);clear aH K;refine ik ?_;refine gb 21 28 fun K aH=>?_;refine mQ Tryz.func51 aM rfl #[.pointer (some ⟨g,0,none⟩),.string ⟨#[105,110,118,97,108,105,100,32,116,121,112,101,32,85,82,76,47,101,120,116,101,110,115,105,111,110,32,102,105,101,108,100,32,110,97,109,101,58,32,37,115]⟩,.slice (some ⟨w.heap.size,0,none⟩) 1 1] (by rfl) rfl rfl mX ?_
 with_reducible refine(FD _ _ _ (by decide) _).mono ?_
 rintro bx w1 ⟨⟨dI,dQ,rfl⟩,az⟩;refine⟨_,rfl,?_⟩;have aC:=I (dq (da (Below.drew (Below.refl _ _)) _) (da (Below.drew (Below.refl _ _)) _).size az);clear az;refine aH.out _ _ ((dz.1.below aC.1).c5) (fun hHeld=>?_);clear aH K;refine ik ?_;refine ax 22 6 ?_;refine jX aM ?_
 go_wp2_with fail
 go_ret;exact⟨⟨_,_,rfl⟩,aC.1⟩
def rB(w0 w:World)(aJ:Nat)(B s st r:List Int)(lc af:Int)(e:Ending)(w':World):Prop:=
 ((∀br bH,hQ r=some (br,bH)→lE br=false)→∃ty v,e=.returned (.tuple #[eA,.iface ty v])∧c6 w0 w w' aJ B s st lc af)∧
 (∀br bH,hQ r=some (br,bH)→lE br=true→∃A c,e=.returned (.tuple #[.agg #[.int .u8 2,.int .u8 2,.int .u8 0,.int .i64 ((B.length-s.length:Nat):Int),.slice A (s.length-bH.length) c,.string (strOfNums br)],.nilIface])∧dZ w0 A (s.length-bH.length) c (s.take (s.length-bH.length))∧c6 w0 w w' aJ B (bc false bH) st lc af)
structure mi(w0 w ay:World)(aJ:Nat)(B s st r u acc:List Int)(lc af:Int)(A:Option Addr)(n c:Nat)(v5:Value):Prop where
 d:dK w0 w aJ B s st lc af
 b:Below w.heap.size w ay
 x:ay.heap[w.heap.size]?=some (.cells #[.int .u8 0,.int .u8 0,.int .u8 0,.int .i64 0,.slice none 0 0,.string ⟨#[]⟩] 47 (0,0))
 v:dZ w0 A n c u
 o:ab.R (ab.int .u8) 5 ay w.heap.size (fun _=>True) v5 acc
 sz:acc.length+u.length≤s.length
 D8:∃j,u=s.drop j
 g:aJ<w.heap.size∧w0.heap.size≤w.heap.size
 h47:a6 (bc false r) 0≠47
 sc:0<w0.heap.size∧∃ty v,w0.cell? ⟨0,0,none⟩=some (.iface ty v)
theorem mi.GB{w0 w ay:World}{aJ:Nat}{B s st r u acc:List Int}{lc af:Int}{A:Option Addr}{n c:Nat}{v5:Value}(h:mi w0 w ay aJ B s st r u acc lc af A n c v5):n≤s.length:=by have:=h.v.dN;have:=h.sz;omega
theorem mi.bu{w0 w ay:World}{aJ:Nat}{B s st r u acc:List Int}{lc af:Int}{A:Option Addr}{n c:Nat}{v5:Value}(h:mi w0 w ay aJ B s st r u acc lc af A n c v5):Below w0.heap.size w0 ay:=dq h.d.bu h.d.bu.size h.b
theorem mi.lP{w0 w ay:World}{aJ:Nat}{B s st r u acc:List Int}{lc af:Int}{A:Option Addr}{n c:Nat}{v5:Value}(h:mi w0 w ay aJ B s st r u acc lc af A n c v5):∀x∈u,0≤x∧x<256:=by
 obtain⟨j,bq⟩:=h.D8;exact fun x ae=>h.d.bytes x (by rw[bq]at ae;exact List.mem_of_mem_drop ae)
theorem Ww{l:List Value}{v0 v2 v3 v4 v5 v6:Value}(an:l.length=213)(h0:l.getD 0 undef=v0)(h2:l.getD 2 undef=v2)(h3:l.getD 3 undef=v3)(h4:l.getD 4 undef=v4)(h5:l.getD 5 undef=v5)(h6:l.getD 6 undef=v6):∃g:Nat→Value,(⟨l.toArray,[]⟩:Act)=(⟨List.toArray (v0::g 1::v2::v3::v4::v5::v6::py g ([])),[]⟩:Act):=by
 simp only[py,mu];refine⟨fun i=>l.getD i undef,?_⟩;subst h0;subst h2;subst h3;subst h4;subst h5;subst h6;exact oZ
def Bp(w0 w:World)(aJ:Nat)(B s st r:List Int)(lc af:Int)(k:Nat)(a:Act)(ay:World):Prop:=
 ∃(u acc:List Int) (A:Option Addr) (c:Nat) (v5:Value) (cl:Bool) (g:Nat→Value),mi w0 w ay aJ B s st r u acc lc af A k c v5∧((cl=false∧∃m,u.length<m∧hQ r=oM m acc u)∨(cl=true∧hQ r=some (acc,u)))∧a=(⟨#[.pointer (some ⟨aJ,0,none⟩),g 1,.pointer (some ⟨w.heap.size,0,none⟩),.nilIface,.slice A k c,v5,.bool cl,g 7,g 8,g 9,g 10,g 11,g 12,g 13,g 14,g 15,g 16,g 17,g 18,g 19,g 20,g 21,g 22,g 23,g 24,g 25,g 26,g 27,g 28,g 29,g 30,g 31,g 32,g 33,g 34,g 35,g 36,g 37,g 38,g 39,g 40,g 41,g 42,g 43,g 44,g 45,g 46,g 47,g 48,g 49,g 50,g 51,g 52,g 53,g 54,g 55,g 56,g 57,g 58,g 59,g 60,g 61,g 62,g 63,g 64,g 65,g 66,g 67,g 68,g 69,g 70,g 71,g 72,g 73,g 74,g 75,g 76,g 77,g 78,g 79,g 80,g 81,g 82,g 83,g 84,g 85,g 86,g 87,g 88,g 89,g 90,g 91,g 92,g 93,g 94,g 95,g 96,g 97,g 98,g 99,g 100,g 101,g 102,g 103,g 104,g 105,g 106,g 107,g 108,g 109,g 110,g 111,g 112,g 113,g 114,g 115,g 116,g 117,g 118,g 119,g 120,g 121,g 122,g 123,g 124,g 125,g 126,g 127,g 128,g 129,g 130,g 131,g 132,g 133,g 134,g 135,g 136,g 137,g 138,g 139,g 140,g 141,g 142,g 143,g 144,g 145,g 146,g 147,g 148,g 149,g 150,g 151,g 152,g 153,g 154,g 155,g 156,g 157,g 158,g 159,g 160,g 161,g 162,g 163,g 164,g 165,g 166,g 167,g 168,g 169,g 170,g 171,g 172,g 173,g 174,g 175,g 176,g 177,g 178,g 179,g 180,g 181,g 182,g 183,g 184,g 185,g 186,g 187,g 188,g 189,g 190,g 191,g 192,g 193,g 194,g 195,g 196,g 197,g 198,g 199,g 200,g 201,g 202,g 203,g 204,g 205,g 206,g 207,g 208,g 209,g 210,g 211,g 212],[]⟩:Act)
def vG(w0 w:World)(aJ:Nat)(B s st r:List Int)(lc af:Int)(k:Nat)(a:Act)(ay:World):Prop:=∃k',k'<k∧Bp w0 w aJ B s st r lc af k' a ay
def xj(w0 w:World)(aJ:Nat)(B s st r:List Int)(lc af:Int)(a:Act)(ay:World):Prop:=
 ∃(u acc:List Int) (A:Option Addr) (n c:Nat) (v5:Value) (cl:Bool) (g:Nat→Value),mi w0 w ay aJ B s st r u acc lc af A n c v5∧((cl=false∧hQ r=none)∨(cl=true∧hQ r=some (acc,u)))∧a=(⟨#[.pointer (some ⟨aJ,0,none⟩),g 1,.pointer (some ⟨w.heap.size,0,none⟩),.nilIface,.slice A n c,v5,.bool cl,g 7,g 8,g 9,g 10,g 11,g 12,g 13,g 14,g 15,g 16,g 17,g 18,g 19,g 20,g 21,g 22,g 23,g 24,g 25,g 26,g 27,g 28,g 29,g 30,g 31,g 32,g 33,g 34,g 35,g 36,g 37,g 38,g 39,g 40,g 41,g 42,g 43,g 44,g 45,g 46,g 47,g 48,g 49,g 50,g 51,g 52,g 53,g 54,g 55,g 56,g 57,g 58,g 59,g 60,g 61,g 62,g 63,g 64,g 65,g 66,g 67,g 68,g 69,g 70,g 71,g 72,g 73,g 74,g 75,g 76,g 77,g 78,g 79,g 80,g 81,g 82,g 83,g 84,g 85,g 86,g 87,g 88,g 89,g 90,g 91,g 92,g 93,g 94,g 95,g 96,g 97,g 98,g 99,g 100,g 101,g 102,g 103,g 104,g 105,g 106,g 107,g 108,g 109,g 110,g 111,g 112,g 113,g 114,g 115,g 116,g 117,g 118,g 119,g 120,g 121,g 122,g 123,g 124,g 125,g 126,g 127,g 128,g 129,g 130,g 131,g 132,g 133,g 134,g 135,g 136,g 137,g 138,g 139,g 140,g 141,g 142,g 143,g 144,g 145,g 146,g 147,g 148,g 149,g 150,g 151,g 152,g 153,g 154,g 155,g 156,g 157,g 158,g 159,g 160,g 161,g 162,g 163,g 164,g 165,g 166,g 167,g 168,g 169,g 170,g 171,g 172,g 173,g 174,g 175,g 176,g 177,g 178,g 179,g 180,g 181,g 182,g 183,g 184,g 185,g 186,g 187,g 188,g 189,g 190,g 191,g 192,g 193,g 194,g 195,g 196,g 197,g 198,g 199,g 200,g 201,g 202,g 203,g 204,g 205,g 206,g 207,g 208,g 209,g 210,g 211,g 212],[]⟩:Act)
section
variable {w0 w ay:World} {aJ:Nat} {B s st r u acc:List Int} {lc af:Int} {A:Option Addr} {n c:Nat} {v5:Value} {cl:Bool}
theorem Bp.mk{l:List Value}(an:l.length=213)(h0:l.getD 0 undef=.pointer (some ⟨aJ,0,none⟩))(h2:l.getD 2 undef=.pointer (some ⟨w.heap.size,0,none⟩))(h3:l.getD 3 undef=.nilIface)(h4:l.getD 4 undef=.slice A n c)(h5:l.getD 5 undef=v5)(h6:l.getD 6 undef=.bool cl)(h:mi w0 w ay aJ B s st r u acc lc af A n c v5)(dA:((cl=false∧∃m,u.length<m∧hQ r=oM m acc u)∨(cl=true∧hQ r=some (acc,u)))):Bp w0 w aJ B s st r lc af n ⟨l.toArray,[]⟩ ay:=by
 obtain⟨g,aw⟩:=Ww an h0 h2 h3 h4 h5 h6;exact⟨u,acc,A,c,v5,cl,g,h,dA,aw⟩
theorem vG.mk{l:List Value}{k:Nat}(an:l.length=213)(h0:l.getD 0 undef=.pointer (some ⟨aJ,0,none⟩))(h2:l.getD 2 undef=.pointer (some ⟨w.heap.size,0,none⟩))(h3:l.getD 3 undef=.nilIface)(h4:l.getD 4 undef=.slice A n c)(h5:l.getD 5 undef=v5)(h6:l.getD 6 undef=.bool cl)(fo:n<k)(h:mi w0 w ay aJ B s st r u acc lc af A n c v5)(dA:((cl=false∧∃m,u.length<m∧hQ r=oM m acc u)∨(cl=true∧hQ r=some (acc,u)))):vG w0 w aJ B s st r lc af k ⟨l.toArray,[]⟩ ay:=⟨_,fo,Bp.mk an h0 h2 h3 h4 h5 h6 h dA⟩
theorem xj.mk{l:List Value}(an:l.length=213)(h0:l.getD 0 undef=.pointer (some ⟨aJ,0,none⟩))(h2:l.getD 2 undef=.pointer (some ⟨w.heap.size,0,none⟩))(h3:l.getD 3 undef=.nilIface)(h4:l.getD 4 undef=.slice A n c)(h5:l.getD 5 undef=v5)(h6:l.getD 6 undef=.bool cl)(h:mi w0 w ay aJ B s st r u acc lc af A n c v5)(dA:((cl=false∧hQ r=none)∨(cl=true∧hQ r=some (acc,u)))):xj w0 w aJ B s st r lc af ⟨l.toArray,[]⟩ ay:=by
 obtain⟨g,aw⟩:=Ww an h0 h2 h3 h4 h5 h6;exact⟨u,acc,A,n,c,v5,cl,g,h,dA,aw⟩
end
theorem agv{w0 w ay:World}{aJ:Nat}{B s st r u acc:List Int}{lc af:Int}{A:Option Addr}{n c:Nat}{v5:Value}(h:mi w0 w ay aJ B s st r u acc lc af A n c v5)(ai:hQ r=some (acc,u))(g:Nat→Value)(iY gf jD gF:Act→World→Prop)(nF:∀a' w',vG w0 w aJ B s st r lc af n a' w'→iY a' w')(nG:∀a' w',Met iY a' w'→gf a' w')(qA:∀a' w',xj w0 w aJ B s st r lc af a' w'→jD a' w')(qB:∀a' w',Met jD a' w'→gF a' w'):M9.wp Tryz.prog (Exit.then gf (Exit.inBlock 0 (Exit.then gF (bodyPost Tryz.prog Tryz.f59 (rB w0 w aJ B s st r lc af))))) (⟨List.toArray (.pointer (some ⟨aJ,0,none⟩)::g 1::.pointer (some ⟨w.heap.size,0,none⟩)::.nilIface::.slice A n c::v5::.bool true::py g ([])),[]⟩:Act) ay:=by
 refine yw ?_;intro av fZ;by_cases aq:0<n
 all_goals(
  first|(have m0:decide ((n:Int)>0)=true:=decide_eq_true (by omega);have m1:=eq_true (show(0:Int)<(n:Int)by omega);have m2:=eq_true aq)|(have m0:decide ((n:Int)>0)=false:=decide_eq_false (by omega);have m1:=eq_false (show¬(0:Int)<(n:Int)by omega);have m2:=eq_false aq)
  clear ai aq h
  conv=>arg 2;whnf
  go_wp2_with fail
  refine Met.intro ?_;go_step;exact xj.mk (cl:=true) aM rfl rfl rfl rfl rfl rfl av.1 (.inr ⟨rfl,fZ.1⟩))
def xk(w0:World)(w:World)(ay:World)(aJ:Nat)(B:List Int)(s:List Int)(st:List Int)(r:List Int)(lc:Int)(af:Int)(A:Option Addr)(n:Nat)(c:Nat)(v5:Value):Prop:=∀(g:Nat→Value) (iY gf jD gF:Act→World→Prop) (nF:∀a' w',vG w0 w aJ B s st r lc af n a' w'→iY a' w') (nG:∀a' w',Met iY a' w'→gf a' w') (qA:∀a' w',xj w0 w aJ B s st r lc af a' w'→jD a' w') (qB:∀a' w',Met jD a' w'→gF a' w'),M9.wp Tryz.prog (Exit.then gf (Exit.inBlock 0 (Exit.then gF (bodyPost Tryz.prog Tryz.f59 (rB w0 w aJ B s st r lc af))))) (⟨List.toArray (.pointer (some ⟨aJ,0,none⟩)::g 1::.pointer (some ⟨w.heap.size,0,none⟩)::.nilIface::.slice A n c::v5::.bool false::py g ([])),[]⟩:Act) ay
section
variable {w0 w ay:World} {aJ:Nat} {B s st r u acc:List Int} {lc af:Int} {A:Option Addr} {n c:Nat} {v5:Value} (h:mi w0 w ay aJ B s st r u acc lc af A n c v5)
include h
theorem agw(hu:u=[])(ai:hQ r=none):xk w0 w ay aJ B s st r lc af A n c v5:=by
 intro g ec dc eE dv dD dE eQ eR;refine yw ?_;intro av fZ;obtain rfl:n=0:=by rw[h.v.dN,hu];rfl
 clear ai hu h
 conv=>arg 2;whnf
 go_wp2_with fail
 refine Met.intro ?_;go_step;exact xj.mk (cl:=false) aM rfl rfl rfl rfl rfl rfl av.1 (.inl ⟨rfl,fZ.1⟩)
theorem agx{t:List Int}(hu:u=93::t)(ai:hQ r=some (acc,t)):xk w0 w ay aJ B s st r lc af A n c v5:=by
 intro g ec dc eE dv dD dE eQ eR;refine yw ?_;intro av fZ;subst hu;refine yk ?_;intro bt bR hA0 cR;subst hA0;refine yl ?_;intro m0 m1 m2 dY lM
 have cT:aN (∀aQ,Below ay.heap.size ay aQ→aQ.cell? ⟨bt,bR,none⟩=some (.int .u8 (93))):=I (fun aQ U=>by
  refine yp ?_;intro b o e ae;cases e;exact ae)
 refine Tu ?_;intro al ao c1 bs bl;clear ai cR h
 conv=>arg 2;whnf
 go_wp2_with fail
 refine Met.intro ?_;go_step;exact vG.mk (n:=n-1) (u:=t) (acc:=acc) (cl:=true) aM rfl rfl rfl rfl rfl rfl Jp ⟨av.1.d,av.1.b,av.1.x,bl.1,av.1.o,(by have:=av.1.sz;rw[List.length_cons]at this;omega),(by obtain⟨j,bq⟩:=av.1.D8;exact⟨j+1,by rw[←List.drop_drop,←bq];rfl⟩),av.1.g,av.1.h47,av.1.sc⟩ (.inr ⟨rfl,fZ.1⟩)
theorem agy{x:Int}{t:List Int}(hu:u=x::t)(bC:okB x=true)(h93:x≠93)(dA:∃m,(bc false t).length<m∧hQ r=oM m (acc++[x]) (bc false t)):xk w0 w ay aJ B s st r lc af A n c v5:=by
 intro g ec dc eE dv dD dE eQ eR;simp only[py,mu];have av:=I h;have lg:=I dA;subst hu;refine yk ?_;intro bt bR hA0 cR;subst hA0;refine yl ?_;intro m0 m1 m2 dY lM
 have cT:aN (∀aQ,Below ay.heap.size ay aQ→aQ.cell? ⟨bt,bR,none⟩=some (.int .u8 (x))):=I (fun aQ U=>by
  refine yp ?_;intro b o e ae;cases e;exact ae)
 refine Tu ?_;intro al ao c1 bs bl;have a1:(x==93)=false:=beq_eq_false_iff_ne.mpr h93;have zh:=LW x;rw[bC]at zh;have hA:=I zh;refine Te ?_;intro hle k1 Gc eX
 have tw:=I (show∃j,bc false t=s.drop j by
  obtain⟨j,bq⟩:=h.D8;obtain⟨i,_,hi⟩:=pL t false;exact⟨j+(1+i),(by rw[←List.drop_drop,←bq,←List.drop_drop,hi];rfl)⟩)
 clear dA cR h bC zh h93 hle
 conv=>arg 2;whnf
 go_upto_region 11 with fail
 go_cut [45] (fun v0 w'=>v0=.bool true∧aN (Below ay.heap.size ay w'))
 case first=>
  by_cases h0:x=47
  ·have bQ:(x==47)=true:=beq_iff_eq.mpr h0;clear h0
   go_wp2_with fail
   go_meet
   case rel=>exact⟨rfl,⟨Below.refl _ _⟩⟩
  ·have bQ:(x==47)=false:=beq_eq_false_iff_ne.mpr h0;clear h0;cases rm:kg x with
   |true=>
    go_wp2_with(first|(go_at_call 77;refine(yP x _).mono ?_;rintro bk w1 ⟨rfl,⟨dh,rfl⟩⟩))
    go_meet
    case rel=>exact⟨rfl,⟨cX⟩⟩
   |false=>
    have akl:q5 x=true:=by have:=hA.1;rw[rm,bQ]at this;simpa using this.symm
    go_wp2_with(first|(go_at_call 77;refine(yP x _).mono ?_;rintro bk w1 ⟨rfl,⟨dh,rfl⟩⟩)|(go_at_call 78;refine(w5 x _).mono ?_;rintro bk w1 ⟨rfl,⟨dh,rfl⟩⟩))
    go_meet
    case rel=>exact⟨rfl,⟨cX⟩⟩
 case rest=>
  obtain⟨rfl,a7⟩:=hcut;have eg:=cT.1 _ a7.1;clear al
  go_wp2_with(first|(at_builtin;refine ab.sy (ab.int .u8) w.heap.size rfl (.tmp 62) (.tmp 66) 22 5 (.int .u8 0) 1 rfl Tryz.underlying22 n2 rfl (by decide) (by omega) v5 acc x [.int .u8 x] (fun _=>True) (fun _=>False) rfl iW rfl (fun _ ad=>ad.elim) (fun _ _=>trivial) (ab.nZ av.1.o a7.1) (dq av.1.b av.1.b.size a7.1) (dq av.1.b av.1.b.size a7.1).size (by have:=av.1.sz;have:=eX.1;omega) ?_;intro v1 w1 aY U aw ea;have hT:=I aY;have l7:=I U;have bz:=I (qF (cn av.1.x a7.1) aw (ab.pV (ab.nZ av.1.o a7.1) (cn av.1.x a7.1) (by decide)));clear aY U aw ea)|(refine SO ?_;rintro bk w1 ⟨bd,bn,c9,rfl,rfl,bO⟩;rw[List.drop_zero]at bO;have dP:=I (show dZ w0 bd bn c9 (bc false t)from bO);clear bO))
  refine Met.intro ?_;go_step;exact vG.mk (n:=bn) (u:=bc false t) (acc:=acc++[x]) (cl:=false) aM rfl rfl rfl rfl rfl rfl (by have:=dP.1.dN;have:=k1.1;have:=dY.1;omega) ⟨av.1.d,l7.1,bz.1,dP.1,hT.1,Po,tw.1,av.1.g,av.1.h47,av.1.sc⟩ (.inl ⟨rfl,lg.1⟩)
end
theorem agz{W:World}{b:Nat}{x y z:Int}(h:W.heap[b]?=some (.cells #[.int .u8 x,.int .u8 y,.int .u8 z] 5 (0,0))):ab.C (ab.int .u8) W (some ⟨b,0,none⟩) 3 [x,y,z]:=by
 refine ab.vO (d:=0) (h1:=fun _=>rfl) ⟨rfl,(by omega),fun _=>⟨_,rfl,fun i hi=>?_⟩⟩;rcases(show i=0∨i=1∨i=2 by omega)with rfl|rfl|rfl
 ·exact(bg h 0).trans rfl
 ·exact(bg h 1).trans rfl
 ·exact(bg h 2).trans rfl
theorem agA{w w1:World}{v:Value}{jd:List Int}(h2:ab.R (ab.int .u8) 5 w1 w.heap.size (fun _=>True) v jd)(U:Below w.heap.size w w1){a:Addr}{m c:Nat}{ys:List Int}(hC:ab.C (ab.int .u8) w1 (some a) m ys)(dV:0<m)(an:jd.length+m≤1000000)(ty:TypeId):
 ∃v2 bf,(Builtin.append_ #[22,22] ty #[v,.slice (some a) m c]).run Tryz.prog w1=.ok v2 bf∧ab.R (ab.int .u8) 5 bf w.heap.size (fun _=>True) v2 (jd++ys)∧Below w.heap.size w bf∧∀(b:Nat) (cells:Array Value) (t:Nat),w1.heap[b]?=some (.cells cells t (0,0))→5≠t→bf.heap[b]?=some (.cells cells t (0,0)):=by
 have hm:=ab.IA hC;obtain⟨i,hi,aG,dd,bG⟩:=xg;have iv:=ab.Ex h2;obtain⟨v0,bf,au,aY,aw,_⟩:=run_append_own (P:=Tryz.prog) w1 w.heap.size 22 ty 5 i (.int .u8 0) 1 1 Tryz.underlying22 hi aG dd bG rfl (by decide) v jd.length _ iv a m c (il ys) Cg (zb hC) (Hz ys) Fv (by omega) U.size;refine⟨v0,bf,au,ab.BG (h1:=fun _=>rfl) ?_ (fun _ _=>trivial),DY U aw (fun k ad=>ab.xy h2 k ad),fun b cells t A5 aU=>qF A5 aw (ab.pV h2 A5 aU)⟩;rw[List.length_append,hm];have:=FM jd ys;unfold il at this;rw[this];exact aY
theorem agB{w0 w ay:World}{aJ:Nat}{B s st r u acc:List Int}{lc af:Int}{A:Option Addr}{n c:Nat}{v5:Value}(h:mi w0 w ay aJ B s st r u acc lc af A n c v5){a b:Int}{t:List Int}(hu:u=37::a::b::t)(eh:dr a=true)(U:dr b=true)(dA:∃m,(bc false t).length<m∧hQ r=oM m (acc++[37,a,b]) (bc false t)):xk w0 w ay aJ B s st r lc af A n c v5:=by
 intro g ec dc eE dv dD dE eQ eR;simp only[py,mu];have av:=I h;have lg:=I dA;subst hu;refine yk ?_;intro bt bR hA0 cR;subst hA0;refine yl ?_;intro m0 m1 m2 dY lM
 have cT:aN (∀aQ,Below ay.heap.size ay aQ→aQ.cell? ⟨bt,bR,none⟩=some (.int .u8 (37))):=I (fun aQ U=>by
  refine yp ?_;intro b o e ae;cases e;exact ae)
 have al:=cT.1 _ (Below.refl _ _)
 have df:aN (∀aQ,Below ay.heap.size ay aQ→aQ.cell? ⟨bt,bR+1,none⟩=some (.int .u8 a)):=I (fun aQ U=>by
  obtain⟨b,o,e,ae⟩:=(h.v.below (dq h.bu h.bu.size U)).cell 1 sQ;cases e;exact ae)
 have gS:aN (∀aQ,Below ay.heap.size ay aQ→aQ.cell? ⟨bt,bR+2,none⟩=some (.int .u8 b)):=I (fun aQ U=>by
  obtain⟨b,o,e,ae⟩:=(h.v.below (dq h.bu h.bu.size U)).cell 2 sQ;cases e;exact ae)
 have vH:∀i z,rd (37::a::b::t) ((i:Nat):Int)=z→i<n→∀aQ,Below w.heap.size w aQ→aQ.cell? ⟨bt,bR+i,none⟩=some (.int .u8 z):=fun i z aG hi aQ U=>by
  exact Rx
 have wq:=I (vH 0 37 rfl sQ);have Wx:=I (vH 1 a rfl sQ);have Wy:=I (vH 2 b rfl sQ);clear vH;simp only[List.length_cons]at cR;obtain⟨ao,c1,te,bO⟩:=h.v.from_ 3 (by omega);have bs:∀aQ:World,(Instr.slice 22 (.slice (some ⟨bt,bR,none⟩) n c) (some (.int .i64 3)) none none).run Tryz.prog aQ=.ok (.slice ao (n-3) c1) aQ:=te;have bl:=I bO;clear te bO;refine K5 ?_;intro p0 ba aj cC gA lA GC GD GF;refine Te ?_;intro hle k1 Gc eX
 have tw:=I (show∃j,bc false t=s.drop j by
  obtain⟨j,bq⟩:=h.D8;obtain⟨i,_,hi⟩:=pL t false;exact⟨j+(3+i),(by rw[←List.drop_drop,←bq,←List.drop_drop,hi];rfl)⟩)
 have eg:=df.1 _ (Below.refl _ _);have j4:=gS.1 _ (Below.refl _ _);clear dA cR h hle
 conv=>arg 2;whnf
 go_upto_if 92 with(first|(go_at_call 77;refine(yP 37 _).mono ?_;rintro bk w1 ⟨rfl,⟨dh,rfl⟩⟩)|(go_at_call 78;refine(w5 37 _).mono ?_;rintro bk w1 ⟨rfl,⟨dh,rfl⟩⟩)|(go_at_call_of 79 (a);refine(Dm a _).mono ?_;rintro bk w1 ⟨rfl,⟨dh,rfl⟩⟩)|(go_at_call_of 79 (b);refine(Dm b _).mono ?_;rintro bk w1 ⟨rfl,⟨dh,rfl⟩⟩))
 go_cut [3,92] (fun v0 v1 w'=>v0=.nilIface∧v1=.bool false∧aN (Below ay.heap.size ay w'))
 case first=>
  go_wp2_with fail
  go_meet
  case rel=>exact⟨rfl,rfl,⟨cX⟩⟩
 case rest=>
  obtain⟨rfl,rfl,a7⟩:=hcut;clear al eg j4
  go_upto_region 17 with fail
  refine fX (n:=13) (S:=fun w'=>w'.cell? ⟨bt,bR,none⟩=some (.int .u8 37)∧w'.cell? ⟨bt,bR+1,none⟩=some (.int .u8 a)∧w'.cell? ⟨bt,bR+2,none⟩=some (.int .u8 b)) (ds:=[]) #[false,false,false,false,false,false,false,false,false,false,false,false,false] aM rfl rfl ⟨cT.1 _ (bw a7.1 (Nat.le_refl _) cX),df.1 _ (bw a7.1 (Nat.le_refl _) cX),gS.1 _ (bw a7.1 (Nat.le_refl _) cX)⟩ (fun hHeld=>?_);refine ax 0 97 ?_;refine ax 1 98 ?_;refine ax 2 99 ?_;refine ax 4 101 ?_;refine ax 5 102 ?_;refine ax 7 104 ?_;refine ax 8 105 ?_;refine eb 3 100 ?_;refine eb 6 103 ?_;refine eb 9 106 ?_;refine gb 10 107 fun K aH=>?_;refine px ?_;refine aH.out _ _ ⟨cT.1 _ (bw a7.1 (Nat.le_refl _) cX),df.1 _ (bw a7.1 (Nat.le_refl _) cX),gS.1 _ (bw a7.1 (Nat.le_refl _) cX)⟩ (fun hHeld=>?_);clear aH K;refine ik ?_;refine gb 11 108 fun K aH=>?_;refine o3 (by rfl) (.tmp 97) (.tmp 107) 22 22 rfl rfl (v:=v5) (xv:=.slice (some ⟨wc.heap.size,0,none⟩) 3 3) (by rfl) (by rfl) (agA (ab.nZ av.1.o (bw a7.1 (Nat.le_refl _) cX)) (dq av.1.b av.1.b.size (bw a7.1 (Nat.le_refl _) cX)) (agz (gV wc.drew (.cells #[.int .u8 37,.int .u8 a,.int .u8 b] 5))) (by decide) (by have:=av.1.sz;have:=eX.1;omega) 22) ?_;rintro v2 w1 ⟨aY,U,ae⟩;have hT:=I aY;have l7:=I U;have bz:=I (ae _ _ _ (cn av.1.x (bw a7.1 (Nat.le_refl _) cX)) (by decide));clear aY U ae;refine aH.out _ _ ⟨wq.1 _ l7.1,Wx.1 _ l7.1,Wy.1 _ l7.1⟩ (fun hHeld=>?_)
  clear aH K;refine ik ?_;refine ax 12 5 ?_;refine jX aM ?_
  go_wp2_with(first|(refine SO ?_;rintro bk bf ⟨bd,bn,c9,rfl,rfl,bO⟩;rw[List.drop_zero]at bO;have dP:=I (show dZ w0 bd bn c9 (bc false t)from bO);clear bO))
  refine Met.intro ?_;go_step;exact vG.mk (n:=bn) (u:=bc false t) (acc:=acc++[37,a,b]) (cl:=false) aM rfl rfl rfl rfl rfl rfl (by have:=dP.1.dN;have:=k1.1;have h0:=dY.1;(try simp only[List.length_cons]at h0);omega) ⟨av.1.d,l7.1,bz.1,dP.1,hT.1,Po,tw.1,av.1.g,av.1.h47,av.1.sc⟩ (.inl ⟨rfl,lg.1⟩)
section
variable {w0 w ay:World} {aJ:Nat} {B s st r u acc:List Int} {lc af:Int} {A:Option Addr} {n c:Nat} {v5:Value} (h:mi w0 w ay aJ B s st r u acc lc af A n c v5)
include h
theorem agC{x:Int}{t:List Int}(hu:u=x::t)(bC:okB x=false)(h93:x≠93)(h37:x≠37)(ai:∀br bH,hQ r=some (br,bH)→¬lE br=true):xk w0 w ay aJ B s st r lc af A n c v5:=by
 intro g ec dc eE dv dD dE eQ eR;refine yw ?_;intro av fZ;subst hu;refine yk ?_;intro bt bR hA0 cR;subst hA0;refine yl ?_;intro m0 m1 m2 dY lM
 have cT:aN (∀aQ,Below ay.heap.size ay aQ→aQ.cell? ⟨bt,bR,none⟩=some (.int .u8 (x))):=I (fun aQ U=>by
  refine yp ?_;intro b o e ae;cases e;exact ae)
 have al:=cT.1 _ (Below.refl _ _);have a1:(x==93)=false:=beq_eq_false_iff_ne.mpr h93;have bQ:(x==37)=false:=beq_eq_false_iff_ne.mpr h37;have zh:=LW x;rw[bC]at zh;have WB:=zh.symm;simp only[Bool.or_eq_false_iff]at WB;obtain⟨⟨cY,cd⟩,fG⟩:=WB;clear ai cR h bC zh h93 h37
 conv=>arg 2;whnf
 go_wp2_with(first|(go_at_call 77;refine(yP x _).mono ?_;rintro bk w1 ⟨rfl,⟨dh,rfl⟩⟩)|(go_at_call 78;refine(w5 x _).mono ?_;rintro bk w1 ⟨rfl,⟨dh,rfl⟩⟩)|(go_at_call 80;refine(Kx (av.1.d.below (dq av.1.b av.1.b.size cX)) _ _ _ 1 lM.1 (by decide)).mono ?_;rintro bk w1 ⟨⟨dI,dQ,rfl⟩,az⟩;have aC:=I (bw (dq av.1.b av.1.b.size cX) (Nat.le_refl _) az);have bj:=I (cn (cn av.1.x cX) az);obtain⟨bW,bZ,b0,b1,b2,Z2,b3,b4,b5,b6,b7,b8⟩:=gO bj.1;clear az))
 exact FV
theorem agD{t:List Int}(hu:u=37::t)(aU:t.length<2)(ai:∀br bH,hQ r=some (br,bH)→¬lE br=true):xk w0 w ay aJ B s st r lc af A n c v5:=by
 intro g ec dc eE dv dD dE eQ eR;refine yw ?_;intro av fZ;subst hu;refine yk ?_;intro bt bR hA0 cR;subst hA0;refine yl ?_;intro m0 m1 m2 dY lM
 have cT:aN (∀aQ,Below ay.heap.size ay aQ→aQ.cell? ⟨bt,bR,none⟩=some (.int .u8 (37))):=I (fun aQ U=>by
  refine yp ?_;intro b o e ae;cases e;exact ae)
 have al:=cT.1 _ (Below.refl _ _);have p0:kg 37=false:=by decide
 have ba:q5 37=false:=by decide
 have aj:decide ((n:Int)<3)=true:=decide_eq_true (by omega);have cC:=eq_true (show(n:Int)<3 by omega);have gA:=eq_true (show n<3 by omega);clear ai cR h
 conv=>arg 2;whnf
 go_wp2_with(first|(go_at_call 77;refine(yP 37 _).mono ?_;rintro bk w1 ⟨rfl,⟨dh,rfl⟩⟩)|(go_at_call 78;refine(w5 37 _).mono ?_;rintro bk w1 ⟨rfl,⟨dh,rfl⟩⟩)|(refine Kw ?_;intro w1 dI dQ aC bj bW bZ b0 b1 b2 Z2 b3 b4 b5 b6 b7 b8))
 exact FV
section
variable {a b:Int} {t:List Int} (hu:u=37::a::b::t)
include hu
theorem agE(eh:dr a=false)(ai:∀br bH,hQ r=some (br,bH)→¬lE br=true):xk w0 w ay aJ B s st r lc af A n c v5:=by
 intro g ec dc eE dv dD dE eQ eR;refine yw ?_;intro av fZ;subst hu;refine yk ?_;intro bt bR hA0 cR;subst hA0;refine yl ?_;intro m0 m1 m2 dY lM
 have cT:aN (∀aQ,Below ay.heap.size ay aQ→aQ.cell? ⟨bt,bR,none⟩=some (.int .u8 (37))):=I (fun aQ U=>by
  refine yp ?_;intro b o e ae;cases e;exact ae)
 have al:=cT.1 _ (Below.refl _ _)
 have df:aN (∀aQ,Below ay.heap.size ay aQ→aQ.cell? ⟨bt,bR+1,none⟩=some (.int .u8 a)):=I (fun aQ U=>by
  obtain⟨b,o,e,ae⟩:=(h.v.below (dq h.bu h.bu.size U)).cell 1 sQ;cases e;exact ae)
 simp only[List.length_cons]at cR;refine K5 ?_;intro p0 ba aj cC gA lA GC GD GF;have eg:=df.1 _ (Below.refl _ _);clear ai cR h
 conv=>arg 2;whnf
 go_wp2_with(first|(go_at_call 77;refine(yP 37 _).mono ?_;rintro bk w1 ⟨rfl,⟨dh,rfl⟩⟩)|(go_at_call 78;refine(w5 37 _).mono ?_;rintro bk w1 ⟨rfl,⟨dh,rfl⟩⟩)|(go_at_call_of 79 (a);refine(Dm a _).mono ?_;rintro bk w1 ⟨rfl,⟨dh,rfl⟩⟩)|(refine Kw ?_;intro w1 dI dQ aC bj bW bZ b0 b1 b2 Z2 b3 b4 b5 b6 b7 b8))
 exact FV
theorem agF(eh:dr a=true)(U:dr b=false)(ai:∀br bH,hQ r=some (br,bH)→¬lE br=true):xk w0 w ay aJ B s st r lc af A n c v5:=by
 intro g ec dc eE dv dD dE eQ eR;refine yw ?_;intro av fZ;subst hu;refine yk ?_;intro bt bR hA0 cR;subst hA0;refine yl ?_;intro m0 m1 m2 dY lM
 have cT:aN (∀aQ,Below ay.heap.size ay aQ→aQ.cell? ⟨bt,bR,none⟩=some (.int .u8 (37))):=I (fun aQ U=>by
  refine yp ?_;intro b o e ae;cases e;exact ae)
 have al:=cT.1 _ (Below.refl _ _)
 have df:aN (∀aQ,Below ay.heap.size ay aQ→aQ.cell? ⟨bt,bR+1,none⟩=some (.int .u8 a)):=I (fun aQ U=>by
  obtain⟨b,o,e,ae⟩:=(h.v.below (dq h.bu h.bu.size U)).cell 1 sQ;cases e;exact ae)
 simp only[List.length_cons]at cR;refine K5 ?_;intro p0 ba aj cC gA lA GC GD GF;have eg:=df.1 _ (Below.refl _ _)
 have gS:aN (∀aQ,Below ay.heap.size ay aQ→aQ.cell? ⟨bt,bR+2,none⟩=some (.int .u8 b)):=I (fun aQ U=>by
  obtain⟨b,o,e,ae⟩:=(h.v.below (dq h.bu h.bu.size U)).cell 2 sQ;cases e;exact ae)
 have vH:∀i z,rd (37::a::b::t) ((i:Nat):Int)=z→i<n→∀aQ,Below w.heap.size w aQ→aQ.cell? ⟨bt,bR+i,none⟩=some (.int .u8 z):=fun i z aG hi aQ U=>by
  exact Rx
 have wq:=I (vH 0 37 rfl sQ);have Wx:=I (vH 1 a rfl sQ);have Wy:=I (vH 2 b rfl sQ);clear vH;have j4:=gS.1 _ (Below.refl _ _);clear ai cR h
 conv=>arg 2;whnf
 go_wp2_with(first|(go_at_call 77;refine(yP 37 _).mono ?_;rintro bk w1 ⟨rfl,⟨dh,rfl⟩⟩)|(go_at_call 78;refine(w5 37 _).mono ?_;rintro bk w1 ⟨rfl,⟨dh,rfl⟩⟩)|(go_at_call_of 79 (a);refine(Dm a _).mono ?_;rintro bk w1 ⟨rfl,⟨dh,rfl⟩⟩)|(go_at_call_of 79 (b);refine(Dm b _).mono ?_;rintro bk w1 ⟨rfl,⟨dh,rfl⟩⟩)|(refine Kw ?_;intro w1 dI dQ aC bj bW bZ b0 b1 b2 Z2 b3 b4 b5 b6 b7 b8))
 exact FV
end
end
end fx
namespace fx
open RowKit YtmpeadgiclfapaaGreatDoorW.PrintWords YtmpeadgiclfapaaGreatDoorW.PrintLast YtmpeadgiclfapaaGreatDoorW.PrintMore ei cP gJ eI eC gi j6 mG
theorem agG{w0 w ay:World}{aJ:Nat}{B s st r u acc:List Int}{lc af:Int}{A:Option Addr}{n c:Nat}{v5:Value}{cl:Bool}(h:mi w0 w ay aJ B s st r u acc lc af A n c v5)(dA:((cl=false∧∃m,u.length<m∧hQ r=oM m acc u)∨(cl=true∧hQ r=some (acc,u))))(g:Nat→Value)(iY gf jD gF:Act→World→Prop)(nF:∀a' w',vG w0 w aJ B s st r lc af n a' w'→iY a' w')(nG:∀a' w',Met iY a' w'→gf a' w')(qA:∀a' w',xj w0 w aJ B s st r lc af a' w'→jD a' w')(qB:∀a' w',Met jD a' w'→gF a' w'):M9.wp Tryz.prog (Exit.then gf (Exit.inBlock 0 (Exit.then gF (bodyPost Tryz.prog Tryz.f59 (rB w0 w aJ B s st r lc af))))) (⟨List.toArray (.pointer (some ⟨aJ,0,none⟩)::g 1::.pointer (some ⟨w.heap.size,0,none⟩)::.nilIface::.slice A n c::v5::.bool cl::py g ([])),[]⟩:Act) ay:=by
 simp only[py,mu];rcases dA with⟨rfl,m,hm,hp⟩|⟨rfl,hp⟩
 ·cases u with
  |nil=>
   have e:hQ r=none:=by rw[hp];cases m<;>rfl
   exact agw h rfl e g iY gf jD gF nF nG qA qB
  |cons x t=>
   obtain⟨m,rfl⟩:∃k,m=k+1:=⟨m-1,Jj⟩;simp only[List.length_cons]at hm;have ad:=kC t false;simp only[oM]at hp;by_cases h0:x=93
   ·subst h0;rw[if_pos rfl]at hp;exact agx h rfl hp g iY gf jD gF nF nG qA qB
   ·rw[if_neg h0]at hp;cases bC:okB x with
    |true=>
     rw[if_pos bC]at hp;exact agy h rfl bC h0 ⟨m,(by omega),hp⟩ g iY gf jD gF nF nG qA qB
    |false=>
     rw[if_neg (by rw[bC];decide)]at hp;by_cases h1:x=37
     ·subst h1;by_cases an:t.length<2
      ·rw[if_neg (by omega)]at hp;exact agD h rfl an (fun br bH e=>by rw[hp]at e;cases e) g iY gf jD gF nF nG qA qB
      ·obtain⟨a,b,t,rfl⟩:∃a b qq,t=a::b::qq:=by
        cases t with
        |nil=>simp at an
        |cons a t=>
         cases t with
         |nil=>simp at an
         |cons b t=>exact⟨a,b,t,rfl⟩
       cases eh:dr a with
       |false=>
        rw[if_neg (fun ed=>by have:dr a=true:=ed.2.2.1;rw[eh]at this;cases this)]at hp;exact agE h rfl eh (fun br bH e=>by rw[hp]at e;cases e) g iY gf jD gF nF nG qA qB
       |true=>
        cases U:dr b with
        |false=>
         rw[if_neg (fun ed=>by have:dr b=true:=ed.2.2.2;rw[U]at this;cases this)]at hp;exact agF h rfl eh U (fun br bH e=>by rw[hp]at e;cases e) g iY gf jD gF nF nG qA qB
        |true=>
         rw[if_pos ⟨rfl,(by omega),eh,U⟩]at hp;have hh:=kC t false;exact agB h rfl eh U ⟨m,Jj,hp⟩ g iY gf jD gF nF nG qA qB
     ·rw[if_neg (fun ed=>h1 ed.1)]at hp;exact agC h rfl bC h0 h1 (fun br bH e=>by rw[hp]at e;cases e) g iY gf jD gF nF nG qA qB
 ·exact agv h hp g iY gf jD gF nF nG qA qB
theorem agH(kb:World)(b:Nat)(v0 v1 v2 v3 v4 v5:Value)(a o:Nat)(h:a≠b):
 ((((((kb.setCell ⟨b,0,none⟩ v0).setCell ⟨b,1,none⟩ v1).setCell ⟨b,2,none⟩ v2).setCell ⟨b,3,none⟩ v3).setCell ⟨b,4,none⟩ v4).setCell ⟨b,5,none⟩ v5).cell? ⟨a,o,none⟩=kb.cell? ⟨a,o,none⟩:=by
 have:=nT kb b v0 v1 v2 v3 v4 v5 a h;unfold World.cell?;simp only;rw[this]
theorem Lq(kb:World)(b:Nat)(v0 v1 v2 v3 v4 v5:Value)(a o:Nat)(h:a≠b){v:Value}(aZ:kb.cell? ⟨a,o,none⟩=some v):
 (((((((kb.setCell ⟨b,0,none⟩ v0).setCell ⟨b,1,none⟩ v1).setCell ⟨b,2,none⟩ v2).setCell ⟨b,3,none⟩ v3).setCell ⟨b,4,none⟩ v4).setCell ⟨b,5,none⟩ v5).drew).cell? ⟨a,o,none⟩=some v:=by
 have:=(agH kb b v0 v1 v2 v3 v4 v5 a o h).trans aZ;generalize ((((((kb.setCell ⟨b,0,none⟩ v0).setCell ⟨b,1,none⟩ v1).setCell ⟨b,2,none⟩ v2).setCell ⟨b,3,none⟩ v3).setCell ⟨b,4,none⟩ v4).setCell ⟨b,5,none⟩ v5)=W at this⊢;exact this
section
variable {W:World} {A:Option Addr} {n c:Nat} {xs:List Int} (h:dZ W A n c xs) (aq:n≤100000)
include h aq
theorem WC:
 Calls Tryz.prog 81 #[.slice A n c,.int .u8 47] W fun e w'=>e=.returned (.int .i64 ((hO xs n:Nat)-1:Int))∧eO W w':=by
 obtain⟨hC,rfl,ai⟩:=h;exact AU.calls (xs.length+1) A c xs 47 _ W hC ai (acJ xs (by omega))
theorem agI:
 Calls Tryz.prog 82 #[.slice A n c,.int .u8 46] W fun e w'=>∃v0:Value,e=.returned v0∧ab.N (ab.slice 5 (ab.int .u8)) 22 w' W.heap.size (fun _=>True) v0 (lX [] xs)∧Below W.heap.size W w':=by
 obtain⟨hC,rfl,ai⟩:=h;refine(pe.calls (xs.length+1) (fun _=>True) A c xs 46 _ W (ab.IX ai (fun aQ fD=>?_)) (acH xs (by omega))).mono fun e w' ⟨v0,h1,h2,h3⟩=>⟨v0,h1,ab.Zw h2 (fun _ _=>trivial),h3⟩
 have ak:W.heap.size≤aQ.heap.size:=by
  rcases Nat.eq_zero_or_pos W.heap.size with h0|h0
  ·omega
  ·have:=ON (fD (W.heap.size-1) trivial (by omega)) (by omega);omega
 have U:Below W.heap.size W {W with heap:=aQ.heap}:=⟨rfl,rfl,rfl,ak,fun k ad=>fD k trivial ad⟩;have h2:=ab.ko hC U;exact h2
end
theorem agJ{W:World}{base:Nat}{v:Value}{cS:List (List Int)}(h:ab.N (ab.slice 5 (ab.int .u8)) 22 W base (fun _=>True) v cS)(hp:0<cS.length):
 ∃g cap,v=.slice (some ⟨g,0,none⟩) cS.length cap∧∀i,i<cS.length→∃A c,W.cell? ⟨g,i,none⟩=some (.slice A (cS.getD i []).length c):=by
 obtain⟨g,cap,rfl,_,_,_⟩:=ab.Zy h hp;refine⟨g,cap,rfl,fun i hi=>?_⟩;obtain⟨c,ai,aH,rJ,_⟩:=ab.Zz h [] (i:Int) (by omega) (by omega);rw[Int.toNat_natCast]at aH rJ;obtain⟨A,cw,rfl,_⟩:=ab.IU aH;refine⟨A,cw,?_⟩;have:=rJ 0 _ rfl;rw[show(ab.slice 5 (ab.int .u8)).sz=1 from rfl,Nat.mul_one,Nat.add_zero]at this;exact this
end fx
