/- Closers: words that stand for a short proof that is found by itself. Conditions: none. -/
import Derived.Test.YtmpeadgiclfapaaGreatDoorZ0
set_option linter.all false
set_option maxHeartbeats 0
set_option maxRecDepth 100000
namespace Go
universe u v
open Go.RowKit Go.Proofs.YtmpeadgiclfapaaGreatDoorW.PrintWords Go.Proofs.YtmpeadgiclfapaaGreatDoorW.PrintLast Go.Proofs.YtmpeadgiclfapaaGreatDoorW.PrintMore
section
variable {P:Program} {ops:Array Oper} {Q:Exit→Act→World→Prop} {md:Region.Mode} {S:World→Prop} {ds:List Nat} {N:Option Tmp} {cO:Oper} {v:Value} {fuel:Nat} {l cU:Array Bool} {a a':Act} {w w1:World}
theorem ax(i d:Nat)(h:gD P md ops Q S ds fuel cU a' w)(hi:ops[i]?=some cO:=by rfl)(eD:cO.dst=some d:=by rfl)(xF:l.setIfInBounds i true=cU:=by simp only[List.setIfInBounds_toArray,List.set_cons_zero,List.set_cons_succ];rfl)
 (ai:EE md ops l cU i=true:=by kernel_rfl) (n0:∀c a w,Q (.panic c) (a.put cO.dst v) w→Q (.panic c) a w:=by exact fun _ _ _ h=>h)
 (aX:Yields P ops cO v a:=by exact Or.inl ⟨by rfl,by intro w';go_simp;with_reducible rfl⟩) (eh:a.put (some d) v=a':=by simp only[Act.put,List.setIfInBounds_toArray,List.set_cons_zero,List.set_cons_succ,jj,oV];rfl):gD P md ops Q S ds (fuel+1) l a w:=
 BL cU hi eD ai n0 aX eh h
theorem ajV(i:Nat)(h:gD P md ops Q S ds fuel cU a' w)(hi:ops[i]?=some cO:=by rfl)(eD:cO.dst=none:=by rfl)(xF:l.setIfInBounds i true=cU:=by simp only[List.setIfInBounds_toArray,List.set_cons_zero,List.set_cons_succ];rfl)
 (ai:EE md ops l cU i=true:=by kernel_rfl) (n0:∀c a w,Q (.panic c) (a.put cO.dst v) w→Q (.panic c) a w:=by exact fun _ _ _ h=>h)
 (aX:Yields P ops cO v a:=by exact Or.inl ⟨by rfl,by intro w';go_simp;with_reducible rfl⟩) (eh:a.put (none) v=a':=by rfl):gD P md ops Q S ds (fuel+1) l a w:=
 BL cU hi eD ai n0 aX eh h
theorem eb(i d:Nat)(h:gD P md ops Q S ds fuel cU a' w)(hS:S w:=by exact hHeld)(hi:ops[i]?=some cO:=by rfl)(eD:cO.dst=some d:=by rfl)(xF:l.setIfInBounds i true=cU:=by simp only[List.setIfInBounds_toArray,List.set_cons_zero,List.set_cons_succ];rfl)
 (ai:ED md ops ds l cU i=true:=by kernel_rfl) (n0:∀c a w,Q (.panic c) (a.put cO.dst v) w→Q (.panic c) a w:=by exact fun _ _ _ h=>h)
 (aX:YieldsIf P ops S cO v a:=by exact Or.inl ⟨by rfl,by intro w' hf;(try obtain⟨hf,s1⟩:=hf);(try obtain⟨s1,s2⟩:=s1);(try obtain⟨s2,rM⟩:=s2);(try obtain⟨rM,rN⟩:=rM);(try obtain⟨rN,rO⟩:=rN);(try obtain⟨rO,vT⟩:=rO);go_simp;with_reducible rfl⟩)
 (eh:a.put (some d) v=a':=by simp only[Act.put,List.setIfInBounds_toArray,List.set_cons_zero,List.set_cons_succ,jj,oV];rfl):gD P md ops Q S ds (fuel+1) l a w:=
 Bw cU hi eD ai n0 aX hS eh h
theorem ajW(i:Nat)(h:gD P md ops Q S ds fuel cU a' w)(hS:S w:=by exact hHeld)(hi:ops[i]?=some cO:=by rfl)(eD:cO.dst=none:=by rfl)(xF:l.setIfInBounds i true=cU:=by simp only[List.setIfInBounds_toArray,List.set_cons_zero,List.set_cons_succ];rfl)
 (ai:ED md ops ds l cU i=true:=by kernel_rfl) (n0:∀c a w,Q (.panic c) (a.put cO.dst v) w→Q (.panic c) a w:=by exact fun _ _ _ h=>h)
 (aX:YieldsIf P ops S cO v a:=by exact Or.inl ⟨by rfl,by intro w' hf;(try obtain⟨hf,s1⟩:=hf);(try obtain⟨s1,s2⟩:=s1);(try obtain⟨s2,rM⟩:=s2);(try obtain⟨rM,rN⟩:=rM);(try obtain⟨rN,rO⟩:=rN);(try obtain⟨rO,vT⟩:=rO);go_simp;with_reducible rfl⟩)
 (eh:a.put (none) v=a':=by rfl):gD P md ops Q S ds (fuel+1) l a w:=
 Bw cU hi eD ai n0 aX hS eh h
theorem gb(i d:Nat)(h:∀K:Act→World→Prop,Shut (∀a' w',S w'→(S w'→gD P md ops Q S ds fuel cU a' w')→K a' w')→if Region.wanted cO (yielded ops a.tmps)=true then Oper.wp P cO a w K Q else K (a.put (some d) undef) w)
 (hi:ops[i]?=some cO:=by rfl) (eD:cO.dst=some d:=by rfl) (xF:l.setIfInBounds i true=cU:=by simp only[List.setIfInBounds_toArray,List.set_cons_zero,List.set_cons_succ];rfl) (ai:tF md ops l cU i=true:=by kernel_rfl) (hd:i∉ds:=by decide):gD P md ops Q S ds (fuel+1) l a w:=
 OD cU hi eD ai hd h
theorem IY(i:Nat)(h:∀K:Act→World→Prop,Shut (∀a' w',S w'→(S w'→gD P md ops Q S ds fuel cU a' w')→K a' w')→if Region.wanted cO (yielded ops a.tmps)=true then Oper.wp P cO a w K Q else K (a.put (none) undef) w)
 (hi:ops[i]?=some cO:=by rfl) (eD:cO.dst=none:=by rfl) (xF:l.setIfInBounds i true=cU:=by simp only[List.setIfInBounds_toArray,List.set_cons_zero,List.set_cons_succ];rfl) (ai:tF md ops l cU i=true:=by kernel_rfl) (hd:i∉ds:=by decide):gD P md ops Q S ds (fuel+1) l a w:=
 OD cU hi eD ai hd h
theorem ZM(i d:Nat)(h:∀K:Act→World→Prop,Shut (∀a' w',gD P md ops Q S ds fuel cU a' w'→K a' w')→if Region.wanted cO (yielded ops a.tmps)=true then Oper.wp P cO a w K Q else K (a.put (some d) undef) w)
 (hi:ops[i]?=some cO:=by rfl) (eD:cO.dst=some d:=by rfl) (xF:l.setIfInBounds i true=cU:=by simp only[List.setIfInBounds_toArray,List.set_cons_zero,List.set_cons_succ];rfl) (ai:tF md ops l cU i=true:=by kernel_rfl) (hd:i∈ds:=by decide):gD P md ops Q S ds (fuel+1) l a w:=
 OE cU hi eD ai hd h
theorem pZ(i:Nat)(h:∀K:Act→World→Prop,Shut (∀a' w',gD P md ops Q S ds fuel cU a' w'→K a' w')→if Region.wanted cO (yielded ops a.tmps)=true then Oper.wp P cO a w K Q else K (a.put (none) undef) w)
 (hi:ops[i]?=some cO:=by rfl) (eD:cO.dst=none:=by rfl) (xF:l.setIfInBounds i true=cU:=by simp only[List.setIfInBounds_toArray,List.set_cons_zero,List.set_cons_succ];rfl) (ai:tF md ops l cU i=true:=by kernel_rfl) (hd:i∈ds:=by decide):gD P md ops Q S ds (fuel+1) l a w:=
 OE cU hi eD ai hd h
theorem ik(h:gD P md ops Q S ds fuel l a' w)(eh:a=a':=by show Act.put _ (some _) _=_;simp only[Act.put,List.setIfInBounds_toArray,List.set_cons_zero,List.set_cons_succ,jj,oV];rfl):gD P md ops Q S ds fuel l a w:=uM eh h
theorem px{K:Act→World→Prop}(h:K (a.put N v) w1)(hw:Region.wanted cO (yielded ops a.tmps)=true:=by rfl)(eD:cO.dst=N:=by rfl)(k8:(execOp a.eval cO).run P w=.ok (.value v) w1:=by go_simp;constructor;rfl;rfl):
 if Region.wanted cO (yielded ops a.tmps)=true then Oper.wp P cO a w K Q else K (a.put N undef) w:=Y7 hw eD k8 h
theorem tG{K:Act→World→Prop}(h:K a w1)(hw:Region.wanted cO (yielded ops a.tmps)=true:=by rfl)(eD:cO.dst=none:=by rfl)(k8:(execOp a.eval cO).run P w=.ok .skip w1:=by go_simp;rfl):
 if Region.wanted cO (yielded ops a.tmps)=true then Oper.wp P cO a w K Q else K (a.put none undef) w:=Y8 hw eD k8 h
end
theorem I{P:Prop}(h:P):aN P:=⟨h⟩
section
variable {w:World} {g:Nat} {t:TypeId} {v0 v1 v2 v3 v4 v5:Value}
theorem gO(h:w.heap[g]?=some (.cells #[v0,v1,v2,v3,v4,v5] t (0,0))):w.cell? ⟨g,0,none⟩=some v0∧w.frozen? ⟨g,0,none⟩=false∧w.cell? ⟨g,1,none⟩=some v1∧w.frozen? ⟨g,1,none⟩=false∧w.cell? ⟨g,2,none⟩=some v2∧w.frozen? ⟨g,2,none⟩=false∧
 w.cell? ⟨g,3,none⟩=some v3∧w.frozen? ⟨g,3,none⟩=false∧w.cell? ⟨g,4,none⟩=some v4∧w.frozen? ⟨g,4,none⟩=false∧w.cell? ⟨g,5,none⟩=some v5∧w.frozen? ⟨g,5,none⟩=false:=
 ⟨bg h 0,fy h 0,bg h 1,fy h 1,bg h 2,fy h 2,bg h 3,fy h 3,bg h 4,fy h 4,bg h 5,fy h 5⟩
theorem kZ(h:w.heap[g]?=some (.cells #[v0,v1,v2,v3,v4,v5] t (0,0))):w.cell? ⟨g,0,none⟩=some v0∧w.cell? ⟨g,1,none⟩=some v1∧w.cell? ⟨g,2,none⟩=some v2∧w.cell? ⟨g,3,none⟩=some v3∧w.cell? ⟨g,4,none⟩=some v4∧w.cell? ⟨g,5,none⟩=some v5:=
 ⟨bg h 0,bg h 1,bg h 2,bg h 3,bg h 4,bg h 5⟩
end
section
variable {c:Prop} [Decidable c] {α:Sort u} {a b r:α} {G:Prop}
theorem eo(h1:decide c=true→a=r→G)(h2:decide c=false→b=r→G):(if c then a else b)=r→G:=by
 intro H;by_cases h:c
 ·rw[if_pos h]at H;exact h1 (decide_eq_true h) H
 ·rw[if_neg h]at H;exact h2 (decide_eq_false h) H
theorem lf{x y:Int}(h1:decide (y≤x)=true→a=r→G)(h2:decide (y≤x)=false→b=r→G):(if x≥y then a else b)=r→G:=eo h1 h2
theorem p1{x y:Int}(h1:decide (y<x)=true→a=r→G)(h2:decide (y<x)=false→b=r→G):(if x>y then a else b)=r→G:=eo h1 h2
theorem fg{α:Type u}{a:Option α}{r:α}(h1:decide c=true→a=some r→G):(if c then a else none)=some r→G:=eo h1 (fun _ h=>nomatch h)
theorem dF{β:Type v} [BEq β] [LawfulBEq β]{x y:β} [Decidable (x=y)](h1:(x==y)=true→(x !=y)=false→a=r→G)(h2:(x==y)=false→(x !=y)=true→b=r→G):(if x=y then a else b)=r→G:=by
 intro H;by_cases h:x=y
 ·rw[if_pos h]at H;exact h1 (beq_iff_eq.mpr h) (bne_eq_false_iff_eq.mpr h) H
 ·rw[if_neg h]at H;exact h2 (beq_eq_false_iff_ne.mpr h) (bne_iff_ne.mpr h) H
end
theorem gY{w:World}{A:Option Addr}{n:Nat}{k:IntKind}{xs:List Int}(h:(ab.int k).C w A n xs)(i:Int)(h0:decide (0≤i)=true:=by first|(with_reducible assumption)|assumption)(h1:decide (i<n)=true:=by first|(with_reducible assumption)|assumption):
 ∃cc,A=some cc∧w.cell? (cc.add i.toNat)=some (.int k (rd xs i))∧(0≤i)=True∧(i<n)=True:=
 (ab.iV h i (of_decide_eq_true h0) (of_decide_eq_true h1)).elim fun cc h=>⟨cc,h.1,h.2,eq_true (of_decide_eq_true h0),eq_true (of_decide_eq_true h1)⟩
structure aI(P:Prop):Prop where out:P
end Go

namespace Go
open Go.RowKit Go.Proofs.YtmpeadgiclfapaaGreatDoorW.PrintWords Go.Proofs.YtmpeadgiclfapaaGreatDoorW.PrintLast Go.Proofs.YtmpeadgiclfapaaGreatDoorW.PrintMore
set_option maxRecDepth 10000
def vU(g:Nat→Value)(r:List Value):List Value:=g 8::g 9::g 10::g 11::g 12::g 13::g 14::g 15::g 16::r
def xG(g:Nat→Value)(r:List Value):List Value:=g 6::g 7::g 8::g 9::g 10::g 11::g 12::g 13::g 14::g 15::g 16::g 17::g 18::g 19::g 20::g 21::g 22::g 23::g 24::g 25::g 26::g 27::g 28::g 29::g 30::g 31::g 32::g 33::g 34::g 35::g 36::g 37::g 38::g 39::g 40::g 41::g 42::g 43::g 44::g 45::g 46::g 47::g 48::g 49::g 50::g 51::g 52::g 53::g 54::g 55::g 56::g 57::g 58::g 59::g 60::g 61::g 62::g 63::g 64::g 65::g 66::g 67::g 68::g 69::r
def Pa(g:Nat→Value)(r:List Value):List Value:=g 8::g 9::g 10::g 11::g 12::g 13::g 14::g 15::g 16::g 17::g 18::g 19::g 20::g 21::g 22::g 23::g 24::g 25::g 26::g 27::g 28::g 29::g 30::g 31::g 32::g 33::g 34::g 35::g 36::g 37::g 38::g 39::g 40::g 41::g 42::g 43::g 44::g 45::g 46::g 47::g 48::g 49::g 50::g 51::g 52::g 53::g 54::g 55::g 56::g 57::g 58::g 59::g 60::g 61::g 62::g 63::g 64::g 65::g 66::g 67::g 68::g 69::g 70::g 71::g 72::g 73::g 74::g 75::g 76::g 77::g 78::g 79::g 80::g 81::g 82::g 83::g 84::g 85::g 86::g 87::g 88::g 89::g 90::g 91::g 92::g 93::g 94::g 95::g 96::g 97::g 98::g 99::g 100::g 101::g 102::g 103::g 104::g 105::g 106::g 107::g 108::g 109::g 110::g 111::g 112::g 113::g 114::g 115::g 116::g 117::g 118::g 119::g 120::g 121::g 122::g 123::g 124::g 125::g 126::g 127::g 128::g 129::g 130::g 131::g 132::g 133::g 134::g 135::g 136::g 137::g 138::g 139::g 140::g 141::g 142::g 143::g 144::g 145::g 146::g 147::g 148::g 149::g 150::g 151::g 152::g 153::g 154::g 155::g 156::g 157::g 158::g 159::g 160::g 161::g 162::g 163::g 164::g 165::g 166::g 167::g 168::g 169::g 170::g 171::g 172::g 173::g 174::g 175::g 176::g 177::g 178::g 179::g 180::g 181::g 182::g 183::g 184::g 185::g 186::r
def mu(g:Nat→Value)(r:List Value):List Value:=g 8::g 9::g 10::g 11::g 12::g 13::g 14::g 15::g 16::g 17::g 18::g 19::g 20::g 21::g 22::g 23::g 24::g 25::g 26::g 27::g 28::g 29::g 30::g 31::g 32::g 33::g 34::g 35::g 36::g 37::g 38::g 39::g 40::g 41::g 42::g 43::g 44::g 45::g 46::g 47::g 48::g 49::g 50::g 51::g 52::g 53::g 54::g 55::g 56::g 57::g 58::g 59::g 60::g 61::g 62::g 63::g 64::g 65::g 66::g 67::g 68::g 69::g 70::g 71::g 72::g 73::g 74::g 75::g 76::g 77::g 78::g 79::g 80::g 81::g 82::g 83::g 84::g 85::g 86::g 87::g 88::g 89::g 90::g 91::g 92::g 93::g 94::g 95::g 96::g 97::g 98::g 99::g 100::g 101::g 102::g 103::g 104::g 105::g 106::g 107::g 108::g 109::g 110::g 111::g 112::g 113::g 114::g 115::g 116::g 117::g 118::g 119::g 120::g 121::g 122::g 123::g 124::g 125::g 126::g 127::g 128::g 129::g 130::g 131::g 132::g 133::g 134::g 135::g 136::g 137::g 138::g 139::g 140::g 141::g 142::g 143::g 144::g 145::g 146::g 147::g 148::g 149::g 150::g 151::g 152::g 153::g 154::g 155::g 156::g 157::g 158::g 159::g 160::g 161::g 162::g 163::g 164::g 165::g 166::g 167::g 168::g 169::g 170::g 171::g 172::g 173::g 174::g 175::g 176::g 177::g 178::g 179::g 180::g 181::g 182::g 183::g 184::g 185::g 186::g 187::g 188::g 189::g 190::g 191::g 192::g 193::g 194::g 195::g 196::g 197::g 198::g 199::g 200::g 201::g 202::g 203::g 204::g 205::g 206::g 207::g 208::g 209::g 210::g 211::g 212::r
def py(g:Nat→Value)(r:List Value):List Value:=g 7::mu g r
def EM(g:Nat→Value)(r:List Value):List Value:=g 13::g 14::g 15::g 16::g 17::g 18::g 19::g 20::g 21::g 22::g 23::g 24::g 25::g 26::g 27::g 28::g 29::g 30::g 31::g 32::g 33::g 34::g 35::g 36::g 37::g 38::g 39::g 40::g 41::g 42::g 43::g 44::g 45::g 46::g 47::g 48::g 49::g 50::g 51::g 52::g 53::g 54::g 55::g 56::g 57::g 58::g 59::g 60::g 61::g 62::g 63::g 64::g 65::g 66::g 67::g 68::g 69::g 70::g 71::g 72::g 73::g 74::g 75::g 76::g 77::g 78::g 79::g 80::g 81::g 82::g 83::g 84::g 85::g 86::g 87::g 88::g 89::g 90::g 91::g 92::g 93::g 94::g 95::g 96::g 97::g 98::g 99::g 100::g 101::g 102::g 103::g 104::g 105::g 106::g 107::g 108::g 109::g 110::g 111::g 112::g 113::g 114::g 115::g 116::g 117::g 118::g 119::g 120::g 121::g 122::g 123::g 124::g 125::g 126::g 127::g 128::g 129::g 130::g 131::g 132::g 133::g 134::g 135::g 136::g 137::g 138::g 139::g 140::g 141::g 142::g 143::g 144::g 145::g 146::g 147::g 148::g 149::g 150::g 151::g 152::g 153::g 154::g 155::g 156::g 157::g 158::g 159::g 160::g 161::g 162::g 163::g 164::g 165::g 166::g 167::g 168::g 169::g 170::g 171::g 172::g 173::g 174::g 175::g 176::g 177::g 178::g 179::g 180::g 181::g 182::g 183::g 184::g 185::g 186::g 187::g 188::g 189::g 190::g 191::g 192::g 193::g 194::g 195::g 196::g 197::g 198::g 199::g 200::g 201::g 202::g 203::g 204::g 205::g 206::g 207::g 208::g 209::g 210::g 211::g 212::g 213::g 214::g 215::g 216::g 217::g 218::g 219::g 220::g 221::g 222::g 223::g 224::g 225::g 226::g 227::r
def EN(g:Nat→Value)(r:List Value):List Value:=g 8::g 9::g 10::g 11::g 12::g 13::g 14::g 15::g 16::g 17::g 18::g 19::g 20::g 21::g 22::g 23::g 24::g 25::g 26::g 27::g 28::g 29::g 30::g 31::g 32::g 33::g 34::g 35::g 36::g 37::g 38::g 39::g 40::g 41::g 42::g 43::g 44::g 45::g 46::g 47::g 48::g 49::g 50::g 51::g 52::g 53::g 54::g 55::g 56::g 57::g 58::g 59::g 60::g 61::g 62::g 63::g 64::g 65::g 66::g 67::g 68::g 69::g 70::g 71::g 72::g 73::g 74::g 75::g 76::g 77::g 78::g 79::g 80::g 81::g 82::g 83::g 84::g 85::g 86::g 87::g 88::g 89::g 90::g 91::g 92::g 93::g 94::g 95::g 96::g 97::g 98::g 99::g 100::g 101::g 102::g 103::g 104::g 105::g 106::g 107::g 108::g 109::g 110::g 111::g 112::g 113::g 114::g 115::g 116::g 117::g 118::g 119::g 120::g 121::g 122::g 123::g 124::g 125::g 126::g 127::g 128::g 129::g 130::g 131::g 132::g 133::g 134::g 135::g 136::g 137::g 138::g 139::g 140::g 141::g 142::g 143::g 144::g 145::g 146::g 147::g 148::g 149::g 150::g 151::g 152::g 153::g 154::g 155::g 156::g 157::g 158::g 159::g 160::g 161::g 162::g 163::g 164::g 165::g 166::g 167::g 168::g 169::g 170::g 171::g 172::g 173::g 174::g 175::g 176::g 177::g 178::g 179::g 180::g 181::g 182::g 183::g 184::g 185::g 186::g 187::g 188::g 189::g 190::g 191::g 192::g 193::g 194::g 195::g 196::g 197::g 198::g 199::g 200::g 201::g 202::g 203::g 204::g 205::g 206::g 207::g 208::g 209::g 210::g 211::g 212::g 213::g 214::g 215::g 216::g 217::g 218::g 219::g 220::g 221::g 222::g 223::g 224::g 225::g 226::g 227::g 228::g 229::g 230::g 231::g 232::g 233::g 234::g 235::g 236::g 237::g 238::g 239::g 240::g 241::g 242::g 243::g 244::g 245::g 246::g 247::g 248::g 249::g 250::g 251::g 252::g 253::g 254::g 255::g 256::g 257::g 258::g 259::g 260::g 261::g 262::g 263::g 264::g 265::r
def vV(g:Nat→Value)(r:List Value):List Value:=g 11::g 12::g 13::g 14::g 15::g 16::g 17::g 18::g 19::g 20::g 21::g 22::g 23::g 24::g 25::g 26::g 27::g 28::g 29::g 30::g 31::g 32::g 33::g 34::g 35::g 36::g 37::g 38::g 39::g 40::g 41::g 42::g 43::g 44::g 45::g 46::g 47::g 48::g 49::g 50::g 51::g 52::g 53::g 54::g 55::g 56::g 57::g 58::g 59::g 60::g 61::g 62::g 63::g 64::g 65::g 66::g 67::g 68::g 69::g 70::g 71::g 72::g 73::g 74::g 75::g 76::g 77::g 78::g 79::g 80::g 81::g 82::g 83::g 84::g 85::g 86::g 87::g 88::g 89::g 90::g 91::g 92::g 93::g 94::g 95::g 96::g 97::g 98::g 99::g 100::g 101::g 102::g 103::g 104::g 105::g 106::g 107::g 108::g 109::g 110::g 111::g 112::g 113::g 114::g 115::g 116::g 117::g 118::g 119::g 120::g 121::g 122::g 123::g 124::g 125::g 126::g 127::g 128::g 129::g 130::g 131::g 132::g 133::g 134::g 135::g 136::g 137::g 138::g 139::g 140::g 141::g 142::g 143::g 144::g 145::g 146::g 147::g 148::g 149::g 150::g 151::g 152::g 153::g 154::g 155::g 156::g 157::g 158::g 159::g 160::g 161::g 162::g 163::g 164::g 165::g 166::g 167::g 168::g 169::g 170::g 171::g 172::g 173::g 174::g 175::g 176::g 177::g 178::g 179::g 180::g 181::g 182::g 183::g 184::g 185::g 186::g 187::g 188::g 189::g 190::g 191::g 192::g 193::g 194::g 195::g 196::g 197::g 198::g 199::g 200::g 201::g 202::g 203::g 204::g 205::g 206::g 207::g 208::g 209::g 210::g 211::g 212::g 213::g 214::g 215::g 216::g 217::g 218::g 219::g 220::g 221::g 222::g 223::g 224::g 225::g 226::g 227::g 228::g 229::g 230::g 231::g 232::g 233::g 234::g 235::g 236::g 237::g 238::g 239::g 240::g 241::g 242::g 243::g 244::g 245::g 246::g 247::g 248::g 249::g 250::g 251::g 252::g 253::g 254::g 255::g 256::g 257::g 258::g 259::g 260::g 261::g 262::g 263::g 264::g 265::g 266::g 267::g 268::g 269::g 270::g 271::g 272::g 273::r
def EO(g:Nat→Value)(r:List Value):List Value:=g 14::g 15::g 16::g 17::g 18::g 19::g 20::g 21::g 22::g 23::g 24::g 25::g 26::g 27::g 28::g 29::g 30::g 31::g 32::g 33::g 34::g 35::g 36::g 37::g 38::g 39::g 40::g 41::g 42::g 43::g 44::g 45::g 46::g 47::g 48::g 49::g 50::g 51::g 52::g 53::g 54::g 55::g 56::g 57::g 58::g 59::g 60::g 61::g 62::g 63::g 64::g 65::g 66::g 67::g 68::g 69::g 70::g 71::g 72::g 73::g 74::g 75::g 76::g 77::g 78::g 79::g 80::g 81::g 82::g 83::g 84::g 85::g 86::g 87::g 88::g 89::g 90::g 91::g 92::g 93::g 94::g 95::g 96::g 97::g 98::g 99::g 100::g 101::g 102::g 103::g 104::g 105::g 106::g 107::g 108::g 109::g 110::g 111::g 112::g 113::g 114::g 115::g 116::g 117::g 118::g 119::g 120::g 121::g 122::g 123::g 124::g 125::g 126::g 127::g 128::g 129::g 130::g 131::g 132::g 133::g 134::g 135::g 136::g 137::g 138::g 139::g 140::g 141::g 142::g 143::g 144::g 145::g 146::g 147::g 148::g 149::g 150::g 151::g 152::g 153::g 154::g 155::g 156::g 157::g 158::g 159::g 160::g 161::g 162::g 163::g 164::g 165::g 166::g 167::g 168::g 169::g 170::g 171::g 172::g 173::g 174::g 175::g 176::g 177::g 178::g 179::g 180::g 181::g 182::g 183::g 184::g 185::g 186::g 187::g 188::g 189::g 190::g 191::g 192::g 193::g 194::g 195::g 196::g 197::g 198::g 199::g 200::g 201::g 202::g 203::g 204::g 205::g 206::g 207::g 208::g 209::g 210::g 211::g 212::g 213::g 214::g 215::g 216::g 217::g 218::g 219::g 220::g 221::g 222::g 223::g 224::g 225::g 226::g 227::g 228::g 229::g 230::g 231::g 232::g 233::g 234::g 235::g 236::g 237::g 238::g 239::g 240::g 241::g 242::g 243::g 244::g 245::g 246::g 247::g 248::g 249::g 250::g 251::g 252::g 253::g 254::g 255::g 256::g 257::g 258::g 259::g 260::g 261::g 262::g 263::g 264::g 265::g 266::g 267::g 268::g 269::g 270::g 271::g 272::g 273::g 274::g 275::g 276::g 277::r
def l1(g:Nat→Value)(r:List Value):List Value:=g 279::g 280::g 281::g 282::g 283::g 284::g 285::g 286::g 287::g 288::g 289::g 290::g 291::g 292::g 293::g 294::g 295::g 296::g 297::g 298::g 299::g 300::g 301::g 302::g 303::g 304::g 305::g 306::g 307::g 308::g 309::g 310::g 311::g 312::g 313::g 314::g 315::g 316::g 317::g 318::g 319::g 320::g 321::g 322::g 323::g 324::g 325::g 326::g 327::g 328::g 329::g 330::g 331::g 332::g 333::g 334::g 335::g 336::g 337::g 338::g 339::g 340::g 341::g 342::g 343::r
def mU(g:Nat→Value)(r:List Value):List Value:=g 267::g 268::g 269::g 270::g 271::g 272::g 273::g 274::g 275::g 276::g 277::g 278::l1 g r
def oa(g:Nat→Value)(r:List Value):List Value:=g 229::g 230::g 231::g 232::g 233::g 234::g 235::g 236::g 237::g 238::g 239::g 240::g 241::g 242::g 243::g 244::g 245::g 246::g 247::g 248::g 249::g 250::g 251::g 252::g 253::g 254::g 255::g 256::g 257::g 258::g 259::g 260::g 261::g 262::g 263::g 264::g 265::g 266::mU g r
def oW(g:Nat→Value)(r:List Value):List Value:=g 14::g 15::g 16::g 17::g 18::g 19::g 20::g 21::g 22::g 23::g 24::g 25::g 26::g 27::g 28::g 29::g 30::g 31::g 32::g 33::g 34::g 35::g 36::g 37::g 38::g 39::g 40::g 41::g 42::g 43::g 44::g 45::g 46::g 47::g 48::g 49::g 50::g 51::g 52::g 53::g 54::g 55::g 56::g 57::g 58::g 59::g 60::g 61::g 62::g 63::g 64::g 65::g 66::g 67::g 68::g 69::g 70::g 71::g 72::g 73::g 74::g 75::g 76::g 77::g 78::g 79::g 80::g 81::g 82::g 83::g 84::g 85::g 86::g 87::g 88::g 89::g 90::g 91::g 92::g 93::g 94::g 95::g 96::g 97::g 98::g 99::g 100::g 101::g 102::g 103::g 104::g 105::g 106::g 107::g 108::g 109::g 110::g 111::g 112::g 113::g 114::g 115::g 116::g 117::g 118::g 119::g 120::g 121::g 122::g 123::g 124::g 125::g 126::g 127::g 128::g 129::g 130::g 131::g 132::g 133::g 134::g 135::g 136::g 137::g 138::g 139::g 140::g 141::g 142::g 143::g 144::g 145::g 146::g 147::g 148::g 149::g 150::g 151::g 152::g 153::g 154::g 155::g 156::g 157::g 158::g 159::g 160::g 161::g 162::g 163::g 164::g 165::g 166::g 167::g 168::g 169::g 170::g 171::g 172::g 173::g 174::g 175::g 176::g 177::g 178::g 179::g 180::g 181::g 182::g 183::g 184::g 185::g 186::g 187::g 188::g 189::g 190::g 191::g 192::g 193::g 194::g 195::g 196::g 197::g 198::g 199::g 200::g 201::g 202::g 203::g 204::g 205::g 206::g 207::g 208::g 209::g 210::g 211::g 212::g 213::g 214::g 215::g 216::g 217::g 218::g 219::g 220::g 221::g 222::g 223::g 224::g 225::g 226::g 227::g 228::oa g r
def rP(g:Nat→Value)(r:List Value):List Value:=g 13::oW g r
def tH(g:Nat→Value)(r:List Value):List Value:=g 12::rP g r
def vW(g:Nat→Value)(r:List Value):List Value:=g 11::tH g r
def zA(g:Nat→Value)(r:List Value):List Value:=g 10::vW g r
def vX(g:Nat→Value)(r:List Value):List Value:=g 8::g 9::zA g r
def nA(g:Nat→Value)(r:List Value):List Value:=g 275::g 276::g 277::g 278::g 279::g 280::g 281::g 282::g 283::g 284::g 285::g 286::g 287::g 288::g 289::g 290::g 291::g 292::g 293::g 294::g 295::g 296::g 297::g 298::g 299::g 300::g 301::g 302::g 303::g 304::g 305::g 306::g 307::g 308::g 309::g 310::g 311::g 312::g 313::g 314::g 315::g 316::g 317::g 318::g 319::g 320::g 321::g 322::g 323::g 324::g 325::g 326::g 327::g 328::g 329::g 330::g 331::g 332::g 333::g 334::g 335::g 336::g 337::g 338::g 339::g 340::g 341::g 342::g 343::g 344::g 345::g 346::g 347::g 348::g 349::g 350::g 351::g 352::g 353::g 354::g 355::g 356::g 357::r
def sK(g:Nat→Value)(r:List Value):List Value:=g 188::g 189::g 190::g 191::g 192::g 193::g 194::g 195::g 196::g 197::g 198::g 199::g 200::g 201::g 202::g 203::g 204::g 205::g 206::g 207::g 208::g 209::g 210::g 211::g 212::g 213::g 214::g 215::g 216::g 217::g 218::g 219::g 220::g 221::g 222::g 223::g 224::g 225::g 226::g 227::g 228::g 229::g 230::g 231::g 232::g 233::g 234::g 235::g 236::g 237::g 238::g 239::g 240::g 241::g 242::g 243::g 244::g 245::g 246::g 247::g 248::g 249::g 250::g 251::g 252::g 253::g 254::g 255::g 256::g 257::g 258::g 259::g 260::g 261::g 262::g 263::g 264::g 265::g 266::g 267::g 268::g 269::g 270::g 271::g 272::g 273::g 274::nA g r
def qK(g:Nat→Value)(r:List Value):List Value:=g 18::g 19::g 20::g 21::g 22::g 23::g 24::g 25::g 26::g 27::g 28::g 29::g 30::g 31::g 32::g 33::g 34::g 35::g 36::g 37::g 38::g 39::g 40::g 41::g 42::g 43::g 44::g 45::g 46::g 47::g 48::g 49::g 50::g 51::g 52::g 53::g 54::g 55::g 56::g 57::g 58::g 59::g 60::g 61::g 62::g 63::g 64::g 65::g 66::g 67::g 68::g 69::g 70::g 71::g 72::g 73::g 74::g 75::g 76::g 77::g 78::g 79::g 80::g 81::g 82::g 83::g 84::g 85::g 86::g 87::g 88::g 89::g 90::g 91::g 92::g 93::g 94::g 95::g 96::g 97::g 98::g 99::g 100::g 101::g 102::g 103::g 104::g 105::g 106::g 107::g 108::g 109::g 110::g 111::g 112::g 113::g 114::g 115::g 116::g 117::g 118::g 119::g 120::g 121::g 122::g 123::g 124::g 125::g 126::g 127::g 128::g 129::g 130::g 131::g 132::g 133::g 134::g 135::g 136::g 137::g 138::g 139::g 140::g 141::g 142::g 143::g 144::g 145::g 146::g 147::g 148::g 149::g 150::g 151::g 152::g 153::g 154::g 155::g 156::g 157::g 158::g 159::g 160::g 161::g 162::g 163::g 164::g 165::g 166::g 167::g 168::g 169::g 170::g 171::g 172::g 173::g 174::g 175::g 176::g 177::g 178::g 179::g 180::g 181::g 182::g 183::g 184::g 185::g 186::g 187::sK g r
def xH(g:Nat→Value)(r:List Value):List Value:=g 8::g 9::g 10::g 11::g 12::g 13::g 14::g 15::g 16::g 17::qK g r
theorem lI{P:Prop}(h:P:=by(repeat' first|(with_reducible first|exact gj.refl _|apply rQ|apply uN|apply BY|apply IZ|apply I0|apply I1|apply I2|apply I3|apply ih8|apply ih9|apply hJ.mono|apply fQ.mono|apply cz.mono|apply fu.mono|exact gj.none _|refine gj.ite ?_ ?_|refine gj.bind ?_ (fun _=>?_))|apply rQ|apply uN|apply BY|apply IZ|apply I0|apply I1|apply I2|apply I3|apply ih8|apply ih9|apply hJ.mono|apply fQ.mono|apply cz.mono|apply fu.mono|exact gj.none _|refine gj.ite ?_ ?_|refine gj.bind ?_ (fun _=>?_));first|done|fail):P:=h
section
variable {P Q:Prop}
theorem ZN(h:P:=by(refine(ab.pt (e:=5) (base:=w.heap.size) (ok:=fun ep=>True) (n:=bm.length) (c:=zB) ?_).2.2;exact(by(with_reducible repeat(first|apply ab.xx|apply ab.uI|apply ab.pW));exact(ab.mn (ab.mo (p:=⟨g,1,none⟩) (cj.apart bE.1 gn.1 (by decide)) (fun _ ad=>ad.2) (.int .i64 (wrap64 (t4+1)))) (fun _ ob=>ob.1))));first|done|fail):P:=h
theorem Pb(h:P:=by have:=And.intro nB.1 (And.intro aC.1 (And.intro ef.1 (And.intro dS.1 (And.intro cr.1 (And.intro kL.1 (show(l++[(⟨6,0,p,false,cP.sub B p ba,⟨#[]⟩⟩:cx)]).length≤1000000 by rw[List.length_append,List.length_singleton];have:=ef.1;have:=dS.1;have:=cr.1;omega))))));omega):P:=h
theorem I4(h:P:=by first|exact df.1.drewN _|exact(df.1.drewN _).drewN _|exact((df.1.drewN _).drewN _).drewN _|exact df.1|exact((df.1.drewN _).drewN _).drew.drewN _|exact((df.1.drewN _).drewN _).drew|exact(df.1.drewN _).drew.drewN _|exact(df.1.drewN _).drew):P:=h
theorem Pc(h:P:=by((with_reducible repeat(first|apply ab.xx|apply ab.uI|apply ab.pW));exact ab.mn (ab.mo (p:=⟨g,1,none⟩) (cj.apart bE.1 gn.1 (by decide)) (fun _ ad=>ad.2) (.int .i64 (wrap64 (t4+1)))) (fun _ ad=>trivial));first|done|fail):P:=h
theorem ZO(h:P:=by((with_reducible repeat(first|apply ab.xx|apply ab.uI|apply ab.pW));exact(ab.mn (ab.mo (p:=⟨g,1,none⟩) (cj.apart bE.1 gn.1 (by decide)) (fun _ ad=>ad.2) (.int .i64 (wrap64 (t4+1)))) (fun _ ob=>ob.1)));first|done|fail):P:=h
theorem Pd(h:P:=by(try simp only[List.map_toArray,List.map_cons,List.map_nil]);first|done|(rw[show(aj.drop (bm:Int).toNat).length=(aj.length-bm.toNat)from List.length_drop]<;>rfl)|rfl|(simp only[List.length_drop,List.length_take];rfl)):P:=h
theorem Pe(h:P:=by have:=aC.1.size;have:=bM.1.size;have:(w.alloc (.cells #[.int .u8 0,.int .u8 0,.int .u8 0,.int .i64 0,.slice none 0 0,.string ⟨#[]⟩] 47)).heap.size=w.heap.size+1:=Array.size_push ..;omega):P:=h
theorem EP(h:P:=by first|exact cT.1.drewN _|exact(cT.1.drewN _).drewN _|exact((cT.1.drewN _).drewN _).drewN _|exact((cT.1.drewN _).drewN _).drew.drewN _|exact(cT.1.drewN _).drew.drewN _):P:=h
theorem tI(h:P:=by first|exact df.1.drewN _|exact(df.1.drewN _).drewN _|exact((df.1.drewN _).drewN _).drewN _|exact((df.1.drewN _).drewN _).drew.drewN _|exact(df.1.drewN _).drew.drewN _):P:=h
theorem uO(h:P:=by first|exact qL.1.drewN _|exact(qL.1.drewN _).drewN _|exact qL.1|exact dG.1|exact dG.1.drewN _|exact(dG.1.drewN _).drewN _|exact((dG.1.drewN _).drewN _).drewN _):P:=h
theorem Pf(h:P:=by have:=aC.1.size;have:(w.alloc (.cells #[.int .u8 0,.int .u8 0,.int .u8 0,.int .i64 0,.slice none 0 0,.string ⟨#[]⟩] 47)).heap.size=w.heap.size+1:=Array.size_push ..;omega):P:=h
theorem dT(h:P:=by(repeat(first|(with_reducible first|exact a7.1|apply da|apply jI|apply OA|refine YK ?_ (cj.ge bE.1))|exact a7.1));first|done|fail):P:=h
theorem Pg(h:P:=by(repeat(first|exact(ab.ko vY.1 a7.1)|(with_reducible refine ab.Iw ?_ _)|(with_reducible refine ab.Iy ?_ _)|(with_reducible refine ab.Ix ?_)));first|done|fail):P:=h
theorem Ph(h:P:=by have:=gp.1;have:=jY.1;have:=mV.1;have:=qM.1;have:=sL.1;have:=BZ.1;have:=ER.1;have:=dn.1;first|omega|exact Nat.le_refl _):P:=h
theorem dU(h:P:=by(repeat(first|(with_reducible first|exact bE.1|apply cj.alloc|apply cj.drewN|apply cj.drew|apply cj.xI|apply cj.B0)|exact bE.1));first|done|fail):P:=h
theorem B1(h:P:=by first|rfl|(simp[BV,BW]<;>rfl)|(simp only[←fN];first|rfl|(simp[BV,BW]<;>rfl))|(simp[*,BV,BW]<;>rfl)):P:=h
theorem ZP(h:P:=by first|exact oX.1 _ rfl|(have:=And.intro gP.1 (And.intro aC.1 (And.intro ES.1 (And.intro dS.1 kL.1)));first|omega|(unfold wrap64;omega))):P:=h
theorem I5(h:P:=by(try simp only[List.map_toArray,List.map_cons,List.map_nil]);first|done|(simp only[fN];rfl)|rfl|(simp only[List.length_drop,List.length_take];rfl)):P:=h
theorem uP(h:P:=by unfold Pj;rw[B2.1];refine⟨(by simp),fun h=>?_,fun h aG=>?_⟩<;>first|rfl|(simp;done)|exact absurd ct.1 aG|(rw[bS.1]at h;cases h)):P:=h
theorem Pk(h:P:=by((with_reducible repeat(first|apply ab.EJ|apply ab.EL|apply ab.EK));exact ab.zx gK.1 (fun _ ad=>⟨ad,(by simp[Value.ownBlock])⟩));first|done|fail):P:=h
theorem Pl(h:P:=by(repeat(first|exact cK.1|(with_reducible refine ab.Iw ?_ _)|(with_reducible refine ab.Iy ?_ _)|(with_reducible refine ab.Ix ?_)));first|done|fail):P:=h
theorem Pm(h:P:=by first|exact(cT.1.drewN _).setAt (q+1) (by have:=fz.1;omega)|exact((cT.1.drewN _).drewN _).setAt (q+1) (by have:=fz.1;omega)):P:=h
theorem dB(h:P:=by(repeat(first|(with_reducible first|exact aV.1|apply cI.zs|apply YL|apply YP|apply YM)|exact aV.1));first|done|fail):P:=h
theorem I6(h:P:=by first|exact ab.sw _ _ _ _ _|exact ab.OT _ _ _ _ _|exact ab.O5 _ _ _ _ _|exact ab.Ot _ _ _ _ _|exact ab.OK _ _ _ _ _):P:=h
theorem mv(h:P:=by(try simp only[List.map_toArray,List.map_cons,List.map_nil]);first|done|rfl|(simp only[List.length_drop,List.length_take];rfl)):P:=h
theorem Pn(h:P:=by have:=gp.1;have:=dn.1;have:=jY.1;have:=mV.1;have:=qM.1;have:=kM.1;first|omega|exact Nat.le_refl _):P:=h
theorem B3(h:P:=by have:=gp.1;have:=jY.1;have:=mV.1;have:=qM.1;have:=sL.1;have:=BZ.1;first|omega|exact Nat.le_refl _):P:=h
theorem fS(h:P:=by(repeat(first|(with_reducible first|exact a7.1|apply da|apply jI|apply OA)|exact a7.1));first|done|fail):P:=h
theorem ET(h:P:=by have:=gp.1;have:=dn.1;have:=jY.1;have:=mV.1;have:=qM.1;have:=kM.1;have:=sL.1;omega):P:=h
theorem ZQ(h:P:=by have h0:=bU.1.2;rw[l2.1,←dG.1]at h0;simp only[eU]at h0;rw[if_neg (by rw[k0.1];decide)]at h0;omega):P:=h
theorem ZR(h:P:=by have h5:=bU.1.2;rw[l2.1,←dG.1]at h5;simp only[dt]at h5;rw[if_neg (by rw[k0.1];decide)]at h5;omega):P:=h
theorem EU(h:P:=by have h4:=bU.1.2;rw[l2.1,←dG.1]at h4;simp only[dt]at h4;rw[if_neg (by rw[k0.1];decide)]at h4;omega):P:=h
theorem EV(h:P:=by have:=gp.1;have:=jY.1;have:=mV.1;have:=qM.1;have:=sL.1;first|omega|exact Nat.le_refl _):P:=h
theorem I7(h:P:=by first|exact dG.1.drewN _|exact(dG.1.drewN _).drewN _|exact((dG.1.drewN _).drewN _).drewN _|exact dG.1):P:=h
theorem ZS(h:P:=by rw[show wrap64 ((i:Int)+1)=((i+1:Nat):Int)from by have:=dx.1;have:=ef.1;unfold wrap64;omega]):P:=h
theorem ZT(h:P:=by have:(0:Int)<(a0.size:Int):=of_decide_eq_true (by first|(with_reducible assumption)|assumption);omega):P:=h
theorem ZU(h:P:=by have:(1:Int)<(a0.size:Int):=of_decide_eq_true (by first|(with_reducible assumption)|assumption);omega):P:=h
theorem EW(h:P:=by first|exact X.1|exact X.1.drewN _|exact(X.1.drewN _).drewN _|exact((X.1.drewN _).drewN _).drewN _):P:=h
theorem Po(h:P:=by have:=av.1.sz;have:=k1.1;simp only[List.length_cons,List.length_append,List.length_nil]at*;omega):P:=h
theorem Pp(h:P:=by first|(rw[uL];exact zC _ rfl (by omega))|exact zC _ rfl (by omega)|exact zC dp rfl (by omega)):P:=h
theorem I8(h:P:=by first|(rw[uL];exact gQ _ rfl (by omega))|exact gQ _ rfl (by omega)|exact gQ dp rfl (by omega)):P:=h
theorem B4(h:P:=by first|(rw[uL];exact BR _ rfl (by omega))|exact BR _ rfl (by omega)|exact BR dp rfl (by omega)):P:=h
theorem Pq(h:P:=by have:=av.1.sz;have:=lg.1;have:=ka.1;have:=ja.1;simp only[List.length_cons]at*;omega):P:=h
theorem Pr(h:P:=by first|exact oX.1 _ rfl|(have:=gP.1;have:=eP.1;first|omega|(unfold wrap64;omega))):P:=h
theorem Ps(h:P:=by have:=gp.1;have:=dn.1;have:=jY.1;have:=mV.1;first|omega|exact Nat.le_refl _):P:=h
theorem B5(h:P:=by((with_reducible repeat(first|apply ab.xx|apply ab.uI|apply ab.pW));exact gn.1);first|done|fail):P:=h
theorem ZV(h:P:=by have:=gp.1;have:=jY.1;have:=mV.1;have:=dn.1;first|omega|exact Nat.le_refl _):P:=h
theorem I9(h:P:=by have:=gp.1;have:=jY.1;have:=mV.1;have:=qM.1;first|omega|exact Nat.le_refl _):P:=h
theorem Pt(h:P:=by rw[show((s.drop 2).drop j)=[]from List.eq_nil_of_length_eq_zero (by rw[←bU.1.dN];omega)];rfl):P:=h
theorem Ja(h:P:=by((with_reducible repeat(first|apply ab.OU|apply ab.OW|apply ab.OV));exact Jb.1);first|done|fail):P:=h
theorem EX(h:P:=by((with_reducible repeat(first|apply ab.EJ|apply ab.EL|apply ab.EK));exact gn.1);first|done|fail):P:=h
theorem EY(h:P:=by((with_reducible repeat(first|apply ab.EJ|apply ab.EL|apply ab.EK));exact B6.1);first|done|fail):P:=h
theorem sM(h:P:=by((with_reducible repeat(first|apply ab.xx|apply ab.uI|apply ab.pW));exact gK.1);first|done|fail):P:=h
theorem Pu(h:P:=by((with_reducible repeat(first|apply ab.EJ|apply ab.EL|apply ab.EK));exact tJ.1);first|done|fail):P:=h
theorem Pv(h:P:=by((with_reducible repeat(first|apply ab.OU|apply ab.OW|apply ab.OV));exact Pw.1);first|done|fail):P:=h
theorem Px(h:P:=by first|rfl|(simp;done)|(simp only[←fN,←p2]<;>(first|rfl|simp))|(simp[*];done)):P:=h
theorem Py(h:P:=by have:=And.intro gP.1 (And.intro aC.1 (And.intro ES.1 (And.intro dS.1 kL.1)));omega):P:=h
theorem cX(h:P:=by(repeat(first|exact Below.refl _ _|apply kH|apply da|apply jI));first|done|fail):P:=h
theorem Pz(h:P:=by have:=And.intro gP.1 (And.intro aC.1 (And.intro ef.1 (And.intro dS.1 cr.1)));omega):P:=h
theorem zD(h:P:=by simp only[BM,Act.put,List.setIfInBounds_toArray,List.set_cons_zero,List.set_cons_succ]):P:=h
theorem lh(h:P:=by first|rfl|(simp[BV,BW]<;>rfl)|(simp[*,BV,BW]<;>rfl)):P:=h
theorem rR(h:P:=by first|rfl|(simp;done)|(simp only[←fN]<;>(first|rfl|simp))|(simp[*];done)):P:=h
theorem ZW(h:P:=by rw[Nat.mul_one];show(il (xs++ys)).length=_;rw[uQ,List.length_append];omega):P:=h
theorem PA(h:P:=by rw[List.length_append,List.length_singleton];have:=ef.1;have:=gP.1;omega):P:=h
theorem EZ(h:P:=by have:=gp.1;have:=dn.1;have:=jY.1;first|omega|exact Nat.le_refl _):P:=h
theorem ZX(h:P:=by rw[List.length_drop];have:=av.1;have:=gw.1;have:=bU.1.dN;omega):P:=h
theorem PB(h:P:=by have:=And.intro nB.1 (And.intro aC.1 (And.intro PC.1 dS.1));omega):P:=h
theorem PD(h:P:=by((with_reducible repeat(first|apply cu.drewN|apply cu.drew));exact cT.1);first|done|fail):P:=h
theorem PE(h:P:=by((with_reducible repeat(first|apply cu.drewN|apply cu.drew));exact gS.1);first|done|fail):P:=h
theorem Jc(h:P:=by((with_reducible repeat(first|apply fI.drewN|apply fI.drew));exact sN.1);first|done|fail):P:=h
theorem Jd(h:P:=by((with_reducible repeat(first|apply fI.drewN|apply fI.drew));exact tK.1);first|done|fail):P:=h
theorem PF(h:P:=by((with_reducible repeat(first|apply cu.drewN|apply cu.drew));exact jZ.1);first|done|fail):P:=h
theorem ZY(h:P:=by rw[←bU.1.2,l2.1,←dG.1];simp only[eU];rw[if_pos k0.1];omega):P:=h
theorem PG(h:P:=by rw[←bU.1.2,l2.1,←dG.1];simp only[dt];rw[if_pos k0.1];omega):P:=h
theorem ZZ(h:P:=by first|rfl|(congr 1;have:=dY.1;have:=vZ.1;unfold wrap64;omega)):P:=h
theorem B7(h:P:=by((with_reducible repeat(first|apply cu.drewN|apply cu.drew));exact mW.1);first|done|fail):P:=h
theorem rS(h:P:=by((with_reducible repeat(first|apply cu.drewN|apply cu.drew));exact dG.1);first|done|fail):P:=h
theorem l3(h:P:=by((with_reducible repeat(first|apply fI.drewN|apply fI.drew));exact av.1);first|done|fail):P:=h
theorem Z0(h:P:=by rw[List.length_drop];have:=av.1;have:=gw.1;have:=k2.1;omega):P:=h
theorem Fa(h:P:=by((with_reducible repeat(first|apply cu.drewN|apply cu.drew));exact bS.1);first|done|fail):P:=h
theorem Z1(h:P:=by have h0:=aV.1;have:=tL.1;simp only[eq_self,if_true]at h0;omega):P:=h
theorem PH(h:P:=by have:=ef.1;have:=qN.1.le;have:=dS.1;have:=gP.1;omega):P:=h
theorem PI(h:P:=by cases e:fR c with|false=>rfl|true=>exact absurd (.inl e) an):P:=h
theorem Fb(h:P:=by have:=gp.1;have:=dn.1;first|omega|exact Nat.le_refl _):P:=h
theorem Fc(h:P:=by have:=gp.1;have:=jY.1;first|omega|exact Nat.le_refl _):P:=h
theorem Je(h:P:=by have:=dn.1;have:=gp.1;first|omega|exact Nat.le_refl _):P:=h
theorem B8(h:P:=by have:=sO.1;have:=nC.1;show w.heap.size+1≠dC;omega):P:=h
theorem mX(h:P:=by simp only[List.map_toArray,List.map_cons,List.map_nil];rfl):P:=h
theorem Fe(h:P:=by have:=aV.1.2.2.2.2;have:=dS.1;have:=fz.1;omega):P:=h
theorem Jf(h:P:=by show some a=if a≤255 then some a else none;rw[if_pos h1]):P:=h
theorem PJ(h:P:=by have:=av.1.sz;have:=tM.1;have:=av.1.v.dN;omega):P:=h
theorem dH(h:P:=by(repeat(first|exact eO.refl _|apply eO.step));first|done|fail):P:=h
theorem Ff(h:P:=by have:=dn.1;have:=gp.1;have:=kM.1;omega):P:=h
theorem l4(h:P:=by have:=bS.1;have:=sO.1;have:=nC.1;omega):P:=h
theorem Fg(h:P:=by have:=dx.1;have:=oc.1;have:=aV.1;omega):P:=h
theorem Jg(h:P:=by rw[List.length_append,List.length_singleton];omega):P:=h
theorem Fh(h:P:=by first|rfl|exact congrArg _ sP.1|(simp;done)):P:=h
theorem zE(h:P:=by first|rfl|exact congrArg _ iw.1|(simp;done)):P:=h
theorem qO(h:P:=by have:=dn.1;first|omega|exact Nat.le_refl _):P:=h
theorem zF(h:P:=by have:=gp.1;first|omega|exact Nat.le_refl _):P:=h
theorem fK(h:P:=by first|(with_reducible assumption)|assumption):P:=h
theorem Fi(h:P:=by have h4:=bU.1.2;rw[ct.1]at h4;exact h4):P:=h
theorem sQ(h:P:=by(try simp only[List.length_cons]at cR);omega):P:=h
theorem Fj(h:P:=by have:=bV.1.2.2;rw[Z3.1]at this;omega):P:=h
theorem Jh(h:P:=by rw[List.length_drop,List.length_take];omega):P:=h
theorem bJ(h:P:=by first|rfl|(simp;done)|(simp[*];done)):P:=h
theorem Ji(h:P:=by have:=dP.1;rwa[List.drop_drop]at this):P:=h
theorem Z4(h:P:=by have:=bl.1;rwa[List.drop_drop]at this):P:=h
theorem Fk(h:P:=by simp only[a8,beq_eq_false_iff_ne];omega):P:=h
theorem Jj(h:P:=by simp only[List.length_cons]at hm;omega):P:=h
theorem iW(h:P:=by first|(go_simp;done)|(go_simp;rfl)):P:=h
theorem zG(h:P:=by have:=fh.1;have:=lj.1.1;omega):P:=h
theorem Jk(h:P:=by have:=dn.1;have:=gp.1;omega):P:=h
theorem uR(h:P:=by have:=gp.1;have:=dn.1;omega):P:=h
theorem Jl(h:P:=by have:=lk.1;have:=gw.1;omega):P:=h
theorem PK(h:P:=by rw[gR.1];exact fun e=>by cases e):P:=h
theorem rT(h:P:=by rcases hm with rfl|rfl|rfl<;>simp):P:=h
theorem v8(h:P:=by have:=sO.1;have:=nC.1;omega):P:=h
theorem B9(h:P:=by have:=dx.1;have:=fp.1;omega):P:=h
theorem Jm(h:P:=by have:=aV.1;have:=oc.1;omega):P:=h
theorem Z5(h:P:=by have:=fp.1;have:=aV.1;omega):P:=h
theorem Z6(h:P:=by have:=ka.1.2.2.2;subst this;rfl):P:=h
theorem Fl(h:P:=by rw[B2.1,l5.1];exact tN.1):P:=h
theorem PL(h:P:=by have:=aV.1;have:=dx.1;omega):P:=h
theorem Z7(h:P:=by have:=bV.1;have:=aV.1;omega):P:=h
theorem Z8(h:P:=by rw[jJ.1.2.2.2.1 (by omega)];rfl):P:=h
theorem wa(h:P:=by first|omega|exact Nat.le_refl _):P:=h
theorem uS(h:P:=by simp only[List.length_cons];omega):P:=h
theorem PM(h:P:=by rw[od];exact Nat.le_add_left _ _):P:=h
theorem Jn(h:P:=by rw[he];exact Nat.min_le_right _ _):P:=h
theorem Jo(h:P:=by rw[oe];exact fun e=>by cases e):P:=h
theorem Fm(h:P:=by simp only[a8,beq_iff_eq];omega):P:=h
theorem xJ(h:P:=by rw[List.drop_zero,Nat.zero_add]):P:=h
theorem Fo(h:P:=by rcases hm with rfl|rfl<;>simp):P:=h
theorem uT(h:P:=by rw[←bU.1.dN];exact gw.1):P:=h
theorem Z9(h:P:=by rw[jJ.1.2.2.2.2 (by omega)]):P:=h
theorem Ca(h:P:=by rw[List.length_append];omega):P:=h
theorem zH(h:P:=by first|rfl|(congr 1;omega)):P:=h
theorem Fp(h:P:=by rw[List.length_drop];omega):P:=h
theorem Cb(h:P:=by rw[List.length_take];omega):P:=h
theorem xK(h:P:=by rw[uU.1];exact mw.1):P:=h
theorem zI(h:P:=by rw[gR.1]at aX;cases aX):P:=h
theorem aaa(h:P:=by rw[←bU.1.dN];exact rU):P:=h
theorem pz(h:P:=by first|rfl|(simp;done)):P:=h
theorem aab(h:P:=by rw[PN.1 fh.1];rfl):P:=h
theorem Cc(h:P:=by rw[←bU.1.dN];exact hm):P:=h
theorem wb(h:P:=by rw[←bU.1.1.dN];omega):P:=h
theorem PO(h:P:=by rw[cr.1]at h;cases h):P:=h
theorem Fq(h:P:=by have:=av.1.1.g;omega):P:=h
theorem Fs(h:P:=by simp[UInt8.size];omega):P:=h
theorem pA(h:P:=by have:=av.1.sz;omega):P:=h
theorem Cd(h:P:=by have:=Ft.1;omega):P:=h
theorem Fu(h:P:=by rw[←bU.1.dN];omega):P:=h
theorem tO(h:P:=by have:=av.1.g;omega):P:=h
theorem qP(h:P:=by have:=dn.1;omega):P:=h
theorem zJ(h:P:=by have:=dS.1;omega):P:=h
theorem tP(h:P:=by have:=gw.1;omega):P:=h
theorem Ce(h:P:=by have:=lk.1;omega):P:=h
theorem Jp(h:P:=by have:=dY.1;omega):P:=h
theorem j0(h:P:=by have:=ja.1;omega):P:=h
theorem oY(h:P:=by have:=eX.1;omega):P:=h
theorem pB(h:P:=by have:=fh.1;omega):P:=h
theorem sR(h:P:=by have:=aV.1;omega):P:=h
theorem uV(h:P:=by have:=fz.1;omega):P:=h
theorem cA(h:P:=by have:=bS.1;omega):P:=h
theorem Fv(h:P:=by unfold maxLen;omega):P:=h
theorem Cf(h:P:=by have:=h.le;omega):P:=h
theorem Jq(h:P:=by simp[intOf];omega):P:=h
theorem Jr(h:P:=by rw[B2.1];rfl):P:=h
theorem Cg(h:P:=by rw[uQ];omega):P:=h
theorem zK(h:P:=by rw[h];decide):P:=h
theorem Fw(h:P:=by rw[ak];simp):P:=h
theorem l6(h:P:=by injection bx):P:=h
theorem qQ(h:P:=by injection db):P:=h
theorem aM(h:P:=by kernel_rfl):P:=h
theorem xL(h:P:=by assumption):P:=h
theorem tQ(h:P:=by simp[ae]):P:=h
theorem PQ(h:P:=by
 by_cases sS:b=e
 ·have bce:(b !=e)=false:=bne_eq_false_iff_eq.mpr sS;have PR:=I sS;have aac:=I (show b=125∨b=62 by omega);clear sS aG
  go_upto_region 12 with fail
  obtain⟨ao,c7,bd,ck,aT,bh,bA,y3,z0,cp,z2,bP⟩:=mW.1.fL
  go_cut [] (fun wc=>∃p0:Nat,aN (p0=ba+1)∧aN (cu w0 wc g B p0 1 cU))
  case first=>
   have hX:wrap64 ((ba:Int)+1)=((ba+1:Nat):Int):=by have:=dS.1;have:=kL.1;unfold wrap64;omega
   go_wp2_with fail
   go_meet
   case rel=>
    refine⟨ba+1,⟨rfl⟩,⟨?_⟩⟩;exact cu.setAt (p:=ba) B7 (ba+1) kL.1
  case rest=>
   clear aT bh bA y3 z0 cp z2;obtain⟨p0,gP,mY⟩:=hcut;obtain⟨ao,c7,bd,ck,aT,bh,bA,y3,z0,cp,z2,bP⟩:=mY.1.fL;have az:(1:Int)≤(p0:Int):=by have:=gP.1;omega
   have ee:(p0:Int)≤100000:=by have:=mY.1.le;have:=dS.1;omega
   have aC:=I (And.intro az ee);have oX:=I (show∀v:Int,v=(p0:Int)-1→v=(ba:Int)from fun v aZ=>by have:=gP.1;omega)
   go_wp2_with(first|(go_at_call 17;refine(zL mY.1 5 ba Py Py ZP).mono ?_;rintro bk wp ⟨rfl,cq⟩;have uW:=I cq;clear cq))
   refine bodyPost_ret (results_none rfl _ _ _) rfl ?_;exact⟨rfl,p0,1,_,uW.1,aad dx.1.out zM.1 ej.1 (Ch.1▸PR.1) (PR.1▸aac.1) kL.1 gP.1 xM.1,fun _=>by have:=gP.1;have:=nC.1;omega⟩
 ·have bce:(b !=e)=true:=bne_iff_ne.mpr sS;have Ci:=I (aae (G:=tR B st e ba) dx.1.out zM.1 ej.1 (Ch.1▸(show b=125∨b=62 by omega)) (Ch.1▸sS) kL.1);clear sS aG
  go_wp2_with(first|(go_at_call 16;refine(p3 B7).mono ?_;rintro bk wr ⟨rfl,cq⟩;have hI:=I cq;clear cq))
  refine bodyPost_ret (results_none rfl _ _ _) rfl ?_;exact⟨rfl,ba,0,cU,hI.1,Ci.1,fun h=>absurd h (by decide)⟩):P:=h
theorem PS(h:P:=by
 clear aw
 go_wp2_with fail
 go_ret;exact⟨⟨_,rfl,fun ad _=>aaf.1 _ rfl ad (by first|trivial|rfl)⟩,aC.1⟩):P:=h
theorem PT(h:P:=by
 clear ae
 go_wp2_with fail
 go_meet
 case rel=>exact⟨(by rw[a7.1]),rfl⟩):P:=h
theorem PU(h:P:=by
 clear aG
 go_wp2_with fail
 refine Met.intro ?_;go_step;exact⟨rfl,aag aM rfl rfl rfl rfl rfl rfl rfl⟩):P:=h
theorem Js(h:P:=by
 clear aG
 go_wp2_with fail
 refine Met.intro ?_;go_step;exact⟨rfl,aah aM rfl rfl rfl rfl rfl rfl rfl (congrArg Value.bool gx.1.symm)⟩):P:=h
theorem PV(h:P:=by
 conv=>arg 2;whnf
 go_wp2_with fail
 refine Met.intro ?_;go_step;exact we.mk aM rfl rfl rfl rfl rfl av.1 fz.1 hI.1):P:=h
theorem Fx(h:P:=by
 exact Array.eq_empty_of_size_eq_zero bL):P:=h
theorem PW(h:P:=by
 exact dq U U.size (da (kH (Below.refl _ _)) _)):P:=h
theorem PX(h:P:=by
 exact bodyPost_ret (v:=.agg #[.int .u8 2,.bool (a8 xs 45),.int .i64 ((sz:Int)+(2+(j:Int))),.int .i64 (hY xs:Nat)]) (by simp[results,Tryz.results61,go_sem,aT,bh,bA,y3,z0,cp,z2,z3]) rfl ⟨by rw[mw.1],by first|exact four aC.1 _ _ _ _|exact four (jI aC.1 _) _ _ _ _⟩):P:=h
theorem PY(h:P:=by
 exact bodyPost_ret (v:=.agg #[.int .u8 k,.bool (a8 xs 45),.int .i64 ((sz:Nat)),.int .i64 (hY xs:Nat)]) (by simp[results,Tryz.results61,go_sem,aT,bh,bA,y3,z0,cp,z2,z3]) rfl ⟨by rw[mw.1],by first|exact four aC.1 _ _ _ _|exact four (jI aC.1 _) _ _ _ _⟩):P:=h
theorem oZ(h:P:=by
 exact congrArg (fun x:List Value=>(⟨x.toArray,[]⟩:Act)) (aai an)):P:=h
theorem PZ(h:P:=by
 exact P0 rfl rfl ba dy ⟨fun _=>⟨_,_,rfl,_,p0⟩,fun k n str aX=>by rw[tN.1]at aX;cases aX⟩):P:=h
theorem P1(h:P:=by
 exact⟨.inr (.inl rfl),fun _=>⟨rfl,(by omega)⟩,fun h=>absurd h (by decide)⟩):P:=h
theorem P2(h:P:=by
 exact⟨.inr (.inr rfl),fun h=>absurd h (by decide),fun h=>absurd h (by decide)⟩):P:=h
theorem P3(h:P:=by
 exact⟨_,aaj,(by rw[if_neg (by simp only[decide_eq_true_eq];omega)];rfl)⟩):P:=h
theorem P4(h:P:=by
 exact⟨true,rfl,fun _=>by rw[List.drop_eq_nil_of_le (by omega)];exact .nil⟩):P:=h
theorem zN(h:P:=by
 first|go_end0|((try simp only[Exit.inBlock,Exit.then]);refine bodyPost_ret (results_none rfl _ _ _) rfl ?_)
 exact⟨lh,dU,dT,dB⟩):P:=h
theorem P5(h:P:=by
 go_end0
 exact⟨rfl,q,t,cU,bS.1,dx.1.out.Jt et.1,fun h=>absurd h et.1⟩):P:=h
theorem P6(h:P:=by
 go_end0
 refine⟨rfl,q,told,PE,?_⟩;have h0:=Cj.1 false bS.1;rw[show told=qR r false by rw[Ck.1];rfl];exact h0):P:=h
theorem P7(h:P:=by
 go_enter Tryz.func3,Tryz.ntmps3
 go_wp2_with fail
 go_ret;exact⟨rfl,Below.refl _ _⟩):P:=h
theorem Ju(h:P:=by
 go_meet
 case rel=>exact⟨_,(false),bJ,aK,⟨Pn⟩,⟨dU⟩,⟨dB⟩,⟨dT⟩⟩):P:=h
theorem P8(h:P:=by
 go_meet
 case rel=>exact⟨_,(bm),(b9),bJ,bJ,aK,⟨qO⟩,dH⟩):P:=h
theorem P9(h:P:=by
 go_meet
 case rel=>exact⟨_,(kN),(mZ),bJ,bJ,aK,⟨ZV⟩,dH⟩):P:=h
theorem Qa(h:P:=by
 go_meet
 case rel=>exact⟨sT,rV,qS,⟨Out.from_ lg.1 (Qb.1▸tS.1),fun h=>by have:=wg.1 h;have:=mW.1;omega⟩,sU⟩):P:=h
theorem Fy(h:P:=by
 go_ret2;exact aak cr.1 ix.1 bM.1):P:=h
theorem aal(h:P:=by
 go_ret2;exact sV av.1 (dx.1) (bw aC.1 (Nat.le_refl _) bM.1)):P:=h
theorem Fz(h:P:=by
 go_ret2;exact⟨(fun v _ h=>by rw[cr.1]at h;cases h),(fun _=>⟨_,_,_,rfl⟩),dq bM.1 bM.1.size aC.1⟩):P:=h
theorem wh(h:P:=by
 go_ret2;exact⟨_,B1,sM,dU,dT,dB⟩):P:=h
theorem Jv(h:P:=by
 go_ret2;exact⟨_,B1,I6,dU,dT,dB⟩):P:=h
theorem FA(h:P:=by
 go_ret2;exact⟨fun _ h=>absurd rfl h,fun _=>⟨_,_,_,rfl⟩,aC.1⟩):P:=h
theorem Qc(h:P:=by
 go_roundg(n7-(i+1))
 case measure=>have:=dx.1;have:=vZ.1;omega
 case rel=>exact⟨i+1,rfl,ZZ,⟨bw aC.1 (Nat.le_refl _) cX⟩,⟨(by have:=vZ.1;omega)⟩,⟨fun j bq=>by
  by_cases e:j=i
  ·rw[e,←dG.1];exact bS.1
  ·exact bo.1 j (by omega)⟩⟩):P:=h
theorem Qd(h:P:=by
 go_roundg cd
 case measure=>have:=gp.1;have:=dn.1;omega
 case rel=>exact⟨(t0),(true),(wrap64 (fE+1)),bJ,bJ,bJ,aK,⟨uR⟩,dH⟩):P:=h
theorem Qe(h:P:=by
 go_roundg sW
 case measure=>have:=gp.1;have:=dn.1;have:=jY.1;have:=mV.1;have:=qM.1;have:=kM.1;have:=sL.1;omega
 case rel=>exact⟨(wrap64 (hj+1)),(rW),(rX),bJ,aK,⟨ET⟩,⟨dU⟩,⟨dB⟩,⟨dT⟩⟩):P:=h
theorem Jw(h:P:=by
 go_wp2;go_meet
 case rel=>exact⟨_,(false),bJ,aK,⟨wa⟩,dH⟩):P:=h
theorem Qf(h:P:=by
 go_wp2;go_meet
 case rel=>exact⟨_,(false),bJ,aK,⟨zF⟩,dH⟩):P:=h
theorem Jx(h:P:=by
 go_wp2;go_meet
 case rel=>exact⟨_,(false),bJ,aK,⟨Fb⟩,dH⟩):P:=h
theorem Qg(h:P:=by
 go_wp2;go_meet
 case rel=>exact⟨_,(false),bJ,aK,⟨EZ⟩,dH⟩):P:=h
theorem FB(h:P:=by
 go_wp2;go_meet
 case rel=>exact⟨_,(true),bJ,aK,⟨qO⟩,dH⟩):P:=h
theorem Qh(h:P:=by
 go_wp2;go_meet
 case rel=>exact⟨_,(b9),bJ,aK,⟨qO⟩,⟨dU⟩,⟨dB⟩,⟨dT⟩⟩):P:=h
theorem Qi(h:P:=by
 go_wp2;go_roundg cd
 case measure=>have:=gp.1;have:=dn.1;omega
 case rel=>exact⟨(false),(true),(wrap64 (fE+1)),bJ,bJ,bJ,aK,⟨uR⟩,dH⟩):P:=h
theorem Qj(h:P:=by
 go_wp2;go_roundg cY
 case measure=>have:=dn.1;omega
 case rel=>exact⟨(wrap64 (bm+1)),bJ,aK,⟨qP⟩,dH⟩):P:=h
theorem Jy(h:P:=by
 go_wp2
 repeat(go_quiet(fail);try go_wp2)
 go_meet
 case rel=>exact⟨_,(false),bJ,aK,⟨qO⟩,⟨B5⟩,⟨dU⟩,⟨dB⟩,⟨dT⟩⟩):P:=h
theorem Jz(h:P:=by
 go_wp2
 repeat(go_quiet(fail);try go_wp2)
 go_ret;exact⟨lh,dU,dT,dB⟩):P:=h
theorem Qk(h:P:=by
 go_wp2
 repeat(go_quiet(fail);try go_wp2)
 exact JA):P:=h
theorem Ql(h:P:=by
 go_wp2
 repeat(go_quiet(fail);try go_wp2)
 go_roundg cd
 case measure=>have:=dn.1;have:=gp.1;have:=kM.1;omega
 case rel=>exact⟨(fE),(b9),aK,⟨Ff⟩,⟨dU⟩,⟨dB⟩,⟨dT⟩⟩):P:=h
theorem Qm(h:P:=by
 go_wp2_with(first|((with_reducible refine kK (f:=37) rfl ?_);refine kJ (some 4) rfl rfl Tryz.func37 aM rfl #[.int .u8 a0] rfl mv ?_;(with_reducible refine(p4.calls a0 false _ bd.1).mono ?_);rintro e w' ⟨rfl,⟨dh,rfl⟩⟩;refine⟨_,rfl,?_⟩)|(go_at_call 39;(with_reducible refine(ks.calls a0 false _ bF.1).mono ?_);rintro e w' ⟨rfl,⟨dh,rfl⟩⟩))
 go_ret;exact⟨bJ,dH⟩):P:=h
theorem Qn(h:P:=by
 go_wp2_with(first|((with_reducible refine kK (f:=37) rfl ?_);refine kJ (some 4) rfl rfl Tryz.func37 aM rfl #[.int .u8 a0] rfl mv ?_;(with_reducible refine(p4.calls a0 false _ bd.1).mono ?_);rintro e w' ⟨rfl,⟨dh,rfl⟩⟩;refine⟨_,rfl,?_⟩)|(go_at_call 39;(with_reducible refine(ks.calls a0 true _ bF.1).mono ?_);rintro e w' ⟨rfl,⟨dh,rfl⟩⟩))
 go_ret;exact⟨bJ,dH⟩):P:=h
theorem Qo(h:P:=by
 go_wp2_with(first|((with_reducible refine kK (f:=37) rfl ?_);refine kJ (some 4) rfl rfl Tryz.func37 aM rfl #[.int .u8 a0] rfl mv ?_;(with_reducible refine(p4.calls a0 true _ bd.1).mono ?_);rintro e w' ⟨rfl,⟨dh,rfl⟩⟩;refine⟨_,rfl,?_⟩))
 go_ret;exact⟨bJ,dH⟩):P:=h
theorem Qp(h:P:=by
 go_wp2_with(first|((with_reducible refine la (N:=8) rfl ?_);refine ab.k9 (ab.int .u8) _ 5 ?aw (N:=8) ?hd (xs:=([(a0)%256]:List Int)) (inner:=[.int .u8 ((a0)%256)]) (ok:=fun _=>True) (okp:=fun _=>True) ?au ?hp (fun _ ad=>ad) trivial (Below.refl _ _) (Nat.le_refl _) (by simp) ?_;(case hd=>rfl);(case aw=>rfl);(case au=>exact iW);(case hp=>exact(cF.one (show ab.M (ab.int .u8) _ _ _ ((a0)%256) [.int .u8 ((a0)%256)]from rfl) (cF.none _ _)));intro v0 w0 bK U hk hl;clear hk hl;(first|rw[←gG.1]at bK|(simp only[Int.reduceToNat]at bK;rw[←gG.1]at bK));have gK:=I (ab.jU bK (pv fS));replace a7:=I (jV fS U);clear U bK))
 go_ret;exact⟨_,lh,sM,fS⟩):P:=h
theorem JB(h:P:=by
 go_wp2_with(first|(go_at_call 37;first|(have Cl:=qL.1;clear Cl;refine(uX (a6 (B.drop p) 1) _).mono ?_;rintro fO w3 ⟨rfl,⟨iX,rfl⟩⟩;rw[FC.1])|(refine(uX c _).mono ?_;rintro gW rY ⟨rfl,⟨wj,rfl⟩⟩;rw[fh.1]))|(go_at_call 38;refine(JC I7).mono ?_;rintro aE kb ⟨rfl,wk⟩;have qL:=I wk;clear wk)|(go_at_call 39;refine(xN c _).mono ?_;rintro aD uY ⟨rfl,⟨Qq,rfl⟩⟩;rw[eZ.1])|(go_at_call 54;refine(JD uO cr.1 Cm.1).mono ?_;rintro bx w1 ⟨q,ar,rfl,told,aW,ff⟩;have cT:=I aW;have cK:=I ff;have lJ:=I ar;clear aW ff ar)|(go_at_call 55;refine(JE uO cr.1 fq.1).mono ?_;rintro bx w1 ⟨rfl,q,told,aW,ff⟩;have cT:=I aW;have cK:=I ff;clear aW ff)|(go_at_call 16;refine(p3 uO).mono ?_;rintro k3 uZ ⟨rfl,eK⟩;have gS:=I eK;clear eK))
 go_meet
 case rel=>
  have aq:=aam cK.1 cr.1;exact⟨q,told,⟨aq.1,fun h=>⟨(by rw[kt.1];exact(aq.2.1 h).1),(aq.2.1 h).2⟩,fun h=>by rw[kt.1];exact aq.2.2 h⟩,⟨cT.1⟩⟩):P:=h
theorem Qr(h:P:=by
 go_wp2_with(first|(go_at_call 37;first|(have Cl:=qL.1;clear Cl;refine(uX (a6 (B.drop p) 1) _).mono ?_;rintro fO w3 ⟨rfl,⟨iX,rfl⟩⟩;rw[FC.1])|(refine(uX c _).mono ?_;rintro gW rY ⟨rfl,⟨wj,rfl⟩⟩;rw[fh.1]))|(go_at_call 38;refine(JC I7).mono ?_;rintro aE kb ⟨rfl,wk⟩;have qL:=I wk;clear wk)|(go_at_call 39;refine(xN c _).mono ?_;rintro aD uY ⟨rfl,⟨Qq,rfl⟩⟩;rw[eZ.1])|(go_at_call 54;refine(JD uO cr.1 Cm.1).mono ?_;rintro bx w1 ⟨q,ar,rfl,told,aW,ff⟩;have cT:=I aW;have cK:=I ff;have lJ:=I ar;clear aW ff ar)|(go_at_call 55;refine(JE uO cr.1 fq.1).mono ?_;rintro bx w1 ⟨rfl,q,told,aW,ff⟩;have cT:=I aW;have cK:=I ff;clear aW ff)|(go_at_call 16;refine(p3 uO).mono ?_;rintro k3 uZ ⟨rfl,eK⟩;have gS:=I eK;clear eK))
 go_meet
 case rel=>
  refine⟨q,told,⟨(by have:=cK.1.1;omega),fun h=>⟨?_,(by have:=lJ.1;omega)⟩,fun h=>by have:=cK.1.1;omega⟩,⟨cT.1⟩⟩;rw[kt.1,show q-p=1+eU ((B.drop p).drop 1)by rw[List.drop_drop,lJ.1];omega];unfold xO;rw[if_neg (fun aw=>by have:=cK.1.2.1 (by rw[←aw,List.drop_drop,List.drop_drop,lJ.1];congr 2;omega);omega)]):P:=h
theorem Cn(h:P:=by
 go_wp2_with(first|(go_at_call 51;refine(FD _ _ _ (by decide) _).mono ?_;rintro bk rY ⟨⟨dI,dQ,rfl⟩,ee⟩;have eP:=I (bw aC.1 (Nat.le_refl _) (bw (w:=w1) cX (Nat.le_refl _) ee));clear ee))
 go_ret2;exact sV av.1 dx.1 eP.1):P:=h
theorem Qs(h:P:=by
 go_wp2_with(first|(refine Qt ?_;intro w1 az dI dQ bM bj;obtain⟨bW,bZ,b0,b1,b2,Z2,b3,b4,b5,b6,b7,b8⟩:=gO bj.1;clear az))
 exact Qu):P:=h
theorem qs(h:P:=by
 go_wp2_with(refine Co ?_;rintro e w' ⟨rfl,rfl⟩;(try rw[bD]))
 all_goals go_ret2
 all_goals exact Qv bV.1 fA.1 (.inr rfl)):P:=h
theorem xP(h:P:=by
 go_wp2_with(refine Co ?_;rintro e w' ⟨rfl,rfl⟩;(try rw[bD]))
 go_ret2;exact Qv bV.1 fA.1 (.inl rfl)):P:=h
theorem JF(h:P:=by
 go_wp2_with(refine Co ?_;rintro e w' ⟨rfl,rfl⟩;(try rw[bD]))
 refine⟨⟨k+1,a*16+(L-87),rfl,zH,zH,(by omega),⟨⟨lj.1,o0,bV.1⟩⟩⟩,Jq⟩):P:=h
theorem JG(h:P:=by
 go_wp2_with(refine Co ?_;rintro e w' ⟨rfl,rfl⟩;(try rw[bD]))
 refine⟨⟨k+1,a*16+(c-48),rfl,zH,zH,(by omega),⟨⟨lj.1,o0,bV.1⟩⟩⟩,Jq⟩):P:=h
theorem JH(h:P:=by
 go_wp2_with fail
 all_goals(
  rename_i aH
  go_meet
  case rel=>first|exact⟨Z8,rfl⟩|exact⟨Z9,rfl⟩)):P:=h
theorem Cp(h:P:=by
 exact Qw):P:=h
theorem FE(h:P:=by
 go_wp2_with fail
 go_meet
 case rel=>exact⟨(by rw[et.1]),rfl⟩):P:=h
theorem JI(h:P:=by
 go_wp2_with fail
 go_ret;exact⟨rfl,da (Below.refl _ _) _⟩):P:=h
theorem Qx(h:P:=by
 go_wp2_with fail
 go_ret;refine⟨kind,str,q,1,bV.1,rfl,?_⟩;rw[if_pos rfl,Qy.1];exact xQ.out):P:=h
theorem FF(h:P:=by
 go_wp2_with fail
 go_roundg(l.length-(i+1))
 case measure=>have:=aV.1;have:=dx.1;omega
 case rel=>exact⟨i+1,ZS,⟨PL⟩,aan⟩):P:=h
theorem Qz(h:P:=by
 go_wp2_with fail
 refine Met.intro ?_;go_step;exact lK.mk (r:=r) (sz:=sz) aM rfl rfl rfl rfl rfl rfl bU.1 (by rw[cr.1];unfold ie;rw[if_neg et.1]) (av.1)):P:=h
theorem QA(h:P:=by
 go_wp2_with fail
 refine Met.intro ?_;go_step;exact lK.mk (r:=r) (sz:=sz) aM rfl rfl rfl rfl rfl rfl bU.1 (by rw[cr.1];unfold pC;rw[if_neg et.1]) (av.1)):P:=h
theorem QB(h:P:=by
 go_wp2_with fail
 refine Met.intro ?_;go_step;exact lK.mk (r:=r) (sz:=sz) aM rfl rfl rfl rfl rfl rfl bU.1 (by rw[cr.1];unfold pD;rw[if_neg et.1]) (av.1)):P:=h
theorem JJ(h:P:=by
 go_wp2_with fail
 refine Met.intro ?_;go_step;exact lK.mk (r:=s.drop 1) (sz:=sz+1) aM rfl rfl zE rfl rfl rfl bl.1 (dO.1) Z0):P:=h
theorem JK(h:P:=by
 go_wp2_with fail
 refine Met.intro ?_;go_step;exact⟨rfl,aao aM rfl rfl rfl rfl rfl rfl rfl (congrArg Value.bool et.1.symm)⟩):P:=h
theorem QC(h:P:=by
 go_wp2_with fail
 refine Met.intro ?_;go_step;exact⟨some ⟨bt,bR,none⟩,m,c2,j,bU.1.1,EU,rfl,QD aM rfl rfl rfl rfl rfl rfl rfl⟩):P:=h
theorem QE(h:P:=by
 go_wp2_with fail
 refine Met.intro ?_;go_step;exact⟨some ⟨bt,bR,none⟩,m,c2,j,bU.1.1,ZR,rfl,FG aM rfl rfl rfl rfl rfl rfl rfl⟩):P:=h
theorem QF(h:P:=by
 go_wp2_with fail
 refine Met.intro ?_;go_step;exact⟨some ⟨di,ek,none⟩,m,c2,j,bU.1.1,EU,rfl,QG aM rfl rfl rfl rfl rfl rfl rfl⟩):P:=h
theorem QH(h:P:=by
 have:iH a=false:=aw;simp only[a8,beq_eq_false_iff_ne];rintro rfl;rw[this]at ad;cases ad):P:=h
theorem QI(h:P:=by
 have:n=0:=by
  rcases Nat.eq_zero_or_pos n with h|h
  ·exact h
  ·obtain⟨cc,e,_⟩:=ab.iV aY 0 (by omega) (by omega);cases e
 subst this;obtain rfl:xs=[]:=List.eq_nil_of_length_eq_zero aq;exact run_firstCells_none _ _ _ _ _):P:=h
theorem QJ(h:P:=by
 have aK:=I H;clear H;obtain⟨dp,aD,eY,p0,a1⟩:=gY cK.1 b9;cases aD;go_wp2;go_roundg cY
 case measure=>have:=dn.1;omega
 case rel=>exact⟨(((rd aj b9) !=93)),(wrap64 (b9+1)),bJ,bJ,aK,⟨qP⟩,dH⟩):P:=h
theorem QK(h:P:=by
 have aK:=I H;clear H;obtain⟨dp,aD,eY,p0,a1⟩:=gY cK.1 b9;cases aD;go_wp2;go_roundg cY
 case measure=>have:=dn.1;omega
 case rel=>exact⟨(false),(wrap64 (b9+1)),bJ,bJ,aK,⟨qP⟩,dH⟩):P:=h
theorem zO(h:P:=by
 have aK:=I H;clear H;obtain⟨dp,aD,eY,p0,a1⟩:=gY cK.1 b9;cases aD;go_wp2;go_roundg cY
 case measure=>have:=dn.1;omega
 case rel=>exact⟨(true),(wrap64 (b9+1)),bJ,bJ,aK,⟨qP⟩,dH⟩):P:=h
theorem QL(h:P:=by
 have aK:=I H;clear H;obtain⟨gy,bx,fT,ba,bQ⟩:=gY cK.1 (cH);obtain rfl:dp=gy:=l6;go_wp2;go_meet
 case rel=>exact⟨_,(false),bJ,aK,⟨qO⟩,dH⟩):P:=h
theorem QM(h:P:=by
 have aK:=I H;clear H;obtain⟨gy,bx,fT,ba,bQ⟩:=gY cK.1 (cH);obtain rfl:dp=gy:=l6;obtain⟨kO,db,og,dy,fs⟩:=gY cK.1 (cH);obtain rfl:dp=kO:=qQ;obtain⟨gy,bx,fT,ba,bQ⟩:=gY cK.1 (cH);obtain rfl:dp=gy:=l6;go_wp2;go_meet
 case rel=>exact⟨_,(decide ((rd aj (cH))>57)),rR,aK,⟨qO⟩,dH⟩):P:=h
theorem JL(h:P:=by
 have QN:=I (show qT c=false by unfold qT;simp only[Bool.or_eq_true,Bool.or_eq_false_iff,Bool.and_eq_true,Bool.and_eq_false_iff,decide_eq_true_eq,decide_eq_false_iff_not,bne_iff_ne,beq_iff_eq,ne_eq,beq_eq_false_iff_ne,bne_eq_false_iff_eq];omega);refine QO ?_;clear aG;intro bV
 go_wp2_with(first|(at_builtin;refine ab.sy (ab.int .u8) w.heap.size rfl (.tmp 124) (.tmp 126) 22 5 (.int .u8 0) 1 rfl Tryz.underlying22 n2 rfl (by decide) (by omega) u6 xs c [.int .u8 c] (fun k=>k≠g) (fun _=>False) rfl iW rfl (fun _ ad=>ad.elim) ?aF ?aO (Below.refl _ _) ?aS ?aL ?_;(case aF=>exact fI.fresh l3);(case aO=>exact fI.r l3);(case aS=>exact(fI.sX l3).1);(case aL=>exact Fe);intro v2 w1 aY U aw ea;have tK:=I (fI.grow l3 aY U aw bT.1);obtain⟨bd,c7,aT,bh,z0,ff⟩:=tK.1.fL;clear aY U aw ea)|(at_builtin;refine ab.sy (ab.int .u8) w.heap.size rfl (.tmp 52) (.tmp 54) 22 5 (.int .u8 0) 1 rfl Tryz.underlying22 n2 rfl (by decide) (by omega) u6 xs c [.int .u8 c] (fun k=>k≠g) (fun _=>False) rfl iW rfl (fun _ ad=>ad.elim) ?aF ?aO (Below.refl _ _) ?aS ?aL ?_;(case aF=>exact fI.fresh l3);(case aO=>exact fI.r l3);(case aS=>exact(fI.sX l3).1);(case aL=>exact Fe);intro v2 w1 aY U aw ea;have tK:=I (fI.grow l3 aY U aw bT.1);obtain⟨bd,c7,aT,bh,z0,ff⟩:=tK.1.fL;clear aY U aw ea))
 go_roundg(B.length-(q+1))
 case measure=>have:=aV.1.1;have:=fz.1;omega
 case rel=>
  refine⟨q+1,xs++[c],told,rfl,⟨uV,sR,aV.1.2.2.1,?_,?_⟩,⟨?_⟩⟩
  ·exact QP
  ·rw[List.length_append,List.length_singleton];have:=aV.1;omega
  ·refine fI.setAt (q:=q) ?_ (q+1) uV;exact Jd):P:=h
theorem QQ(h:P:=by
 have tT:=I (show ht xs=wm (s.drop 2)by rw[cr.1,dj.1,lL.1,aG,QR (by decide)];rfl);clear aG;obtain⟨m0,dV⟩:∃m0,m0=m1-2:=⟨_,rfl⟩;rw[←dV]at bs bl;have xR:=I (show m0≤100000 by have:=cW.1;omega);clear dV
 go_upto_block 2 with fail
 refine wp_cut (fun a' w'=>∃(bF:Option Addr) (m c2 j:Nat),dZ ay bF m c2 ((s.drop 2).drop j)∧j=dt dr (s.drop 2)∧ay=w'∧∃aa:Nat→Value,a'=(⟨List.toArray (aa 0::aa 1::.pointer (some ⟨W.heap.size,0,none⟩)::.int .u8 (1)::.int .i64 ((sz:Nat))::.bool (a8 xs 45)::.slice bF m c2::.int .i64 ((hY xs:Nat):Int)::aa 8::.int .i64 (2+(j:Int))::zA aa ([])),[]⟩:Act)) ?_ ?_
 rotate_left
 ·intro ec dc dD dE
  go_wp2_with fail
  go_loopg [6,9] m0 (fun g v0 v1 w'=>∃(bF:Option Addr) (m c2 j:Nat),v0=.slice bF m c2∧v1=.int .i64 (2+(j:Int))∧ay=w'∧aN (m=g∧j≤(s.drop 2).length)∧aN (dZ ay bF m c2 ((s.drop 2).drop j)∧j+dt dr ((s.drop 2).drop j)=dt dr (s.drop 2)))
  case atStart=>exact⟨ao,m0,c4,0,rfl,rfl,rfl,⟨rfl,Nat.zero_le _⟩,⟨bl.1,xJ⟩⟩
  case round=>
   obtain⟨bF,m,c2,j,rfl,rfl,rfl,aV,bU⟩:=hrel;have lk:=I (show m=(s.drop 2).length-j by rw[bU.1.1.dN,List.length_drop]);by_cases hm:0<m
   ·obtain⟨eS,o1,rfl,bf⟩:=bU.1.1.cell 0 hm;refine QS ?_;clear bf;intro l2 x dG gw m2 bf;have fi:=eq_true (show(0:Int)<(m:Int)by omega);have fj:=eq_true hm;clear hm;refine QT ?_;intro cZ c3 dP hn hw sP;have dM:(x≤47)∨(48≤x∧x≤57)∨(58≤x∧x≤64)∨(65≤x∧x≤70)∨(71≤x∧x≤96)∨(97≤x∧x≤102)∨(103≤x):=by omega
    rcases dM with aG|aG|aG|aG|aG|aG|aG
    ·have ll:decide (48≤x)=false:=decide_eq_false (by omega);have sY:decide (97≤x)=false:=decide_eq_false (by omega);refine QU ?_;intro tU aW cv eK;exact JM
    ·refine FH ?_;intro ll sY;refine QU ?_;intro tU aW cv eK;refine JN ?_;intro k0;exact Cq
    ·refine FH ?_;intro ll sY;have tU:decide (65≤x)=false:=decide_eq_false (by omega);refine zP ?_;intro aW;have cv:decide (x≤102)=true:=decide_eq_true (by omega);have eK:decide (x≤70)=true:=decide_eq_true (by omega);exact JM
    ·refine FH ?_;intro ll sY;refine JO ?_;intro tU aW cv;have eK:decide (x≤70)=true:=decide_eq_true (by omega);refine JN ?_;intro k0;exact Cq
    ·refine FH ?_;intro ll sY;refine JO ?_;intro tU aW cv;exact QV
    ·have ll:decide (48≤x)=true:=decide_eq_true (by omega);have sY:decide (97≤x)=true:=decide_eq_true (by omega);refine JO ?_;intro tU aW cv;have eK:decide (x≤70)=false:=decide_eq_false (by omega);refine JN ?_;intro k0;exact Cq
    ·have ll:decide (48≤x)=true:=decide_eq_true (by omega);have sY:decide (97≤x)=true:=decide_eq_true (by omega);have tU:decide (65≤x)=true:=decide_eq_true (by omega);refine zP ?_;intro aW;have cv:decide (x≤102)=false:=decide_eq_false (by omega);exact QV
   ·refine Cr ?_;intro m2;have ct:=I (show(s.drop 2).drop j=[]from List.eq_nil_of_length_eq_zero wb);have fi:=eq_false (show¬(0:Int)<(m:Int)by omega);have fj:=eq_false hm;clear hm
    go_wp2_with fail
    refine Met.intro ?_;go_step;exact⟨bF,m,c2,j,bU.1.1,Fi,rfl,QW aM rfl rfl rfl rfl rfl rfl rfl⟩
 ·rintro _ _ ⟨bF,m,c2,j,aZ,ij,rfl,g0,rfl⟩;simp only[zA,vW,tH,rP,oW,oa,mU,l1];have bU:=I aZ;have oh:=I ij;have lk:=I (show m=(s.drop 2).length-j by rw[aZ.dN,List.length_drop]);clear aZ ij;have oi:=I (show sz+s.length=xs.length∧j≤s.length-2∧2≤s.length∧s.length≤100000 from by have h4:=oh.1;have h0:=nD dr (s.drop 2);have h1:=av.1;have h2:=k2.1;have h3:=cW.1;have h2:=pE.1;rw[List.length_drop]at h0;refine⟨h1,?_,?_,?_⟩<;>omega);by_cases bq:j=0
  ·have dz:=I (show iy xs=.agg #[.int .u8 0,.bool false,.int .i64 0,.int .i64 0]by unfold iy;rw[tT.1];unfold wm;rw[←oh.1,if_pos bq]);have fB:((2+(j:Int))==2)=true:=beq_iff_eq.mpr (by omega);clear bq;exact Qw
  ·have qL:=I (show ht xs=kP 1 ((s.drop 2).drop j)by rw[tT.1];unfold wm;rw[←oh.1,if_neg bq]);have fB:((2+(j:Int))==2)=false:=beq_eq_false_iff_ne.mpr (by omega);have hw:wrap64 ((sz:Int)+(2+(j:Int)))=(sz:Int)+(2+(j:Int)):=by have:=oi.1;have:=bV.1;unfold wrap64;omega
   clear bq;refine QX ?_;intro mW;have wo:=I (show fF ((s.drop 2).drop j)=false→iy xs=.agg #[.int .u8 1,.bool (a8 xs 45),.int .i64 ((sz:Int)+(2+(j:Int))),.int .i64 (hY xs:Nat)]from fun h=>by unfold iy;rw[qL.1];unfold kP;rw[if_neg zK];simp only[List.length_drop];rw[show((xs.length-(s.length-2-j):Nat):Int)=(sz:Int)+(2+(j:Int))by have:=oi.1;have:=k2.1;have:=lk.1;omega]);by_cases hm:0<m
   ·obtain⟨eS,o1,rfl,bf⟩:=bU.1.cell 0 hm;rw[Nat.add_zero]at bf;obtain⟨x,ae⟩:∃x,x=rd ((s.drop 2).drop j) ((0:Nat):Int):=⟨_,rfl⟩;rw[←ae]at bf;have jb:=I (show((s.drop 2).drop j)=x::((s.drop 2).drop j).drop 1 by have:=gz ((s.drop 2).drop j) 0 Cc;rw[List.drop_zero]at this;rw[ae];exact this);clear ae;have zQ:=I (show fF ((s.drop 2).drop j)=iH x by rw[jb.1];rfl);have m2:decide ((m:Int)>0)=true:=decide_eq_true (by omega);have fi:=eq_true (show(0:Int)<(m:Int)by omega);have fj:=eq_true hm;clear hm;cases aw:iH x
    ·have mw:=I (wo.1 (zQ.1.trans aw))
     go_wp2_with(first|(go_at_call 83;refine(xS x _).mono ?_;rintro bk wd ⟨rfl,⟨dh,rfl⟩⟩;rw[aw]))
     exact QY
    ·exact QZ
   ·have mw:=I (wo.1 Pt);refine Cr ?_;intro m2;have fi:=eq_false (show¬(0:Int)<(m:Int)by omega);have fj:=eq_false hm;clear hm
    go_wp2_with fail
    exact QY):P:=h
theorem Q0(h:P:=by
 have bS:=I aw
 go_wp2_with(first|(go_at_call 83;refine(xS x _).mono ?_;rintro bk wd ⟨rfl,⟨dh,rfl⟩⟩;rw[aw]))
 go_ret;exact⟨(by rw[Cj.1,l5.1,bS.1];rfl),⟨⟨_,rfl⟩⟩⟩):P:=h
theorem FI(h:P:=by
 have k0:=I (show p5 x=false by unfold p5 fR cN;simp only[Bool.or_eq_false_iff,Bool.and_eq_false_iff,decide_eq_false_iff_not,beq_eq_false_iff_ne];omega);clear aG
 go_wp2_with fail
 go_meet
 case rel=>exact⟨_,m,c2,j,(by rw[aap.1]),rfl,rfl,aV.1.2,bU.1.1,ZQ⟩):P:=h
theorem FJ(h:P:=by
 have k0:=I (show p5 x=true by unfold p5 fR cN;simp only[Bool.or_eq_true,Bool.and_eq_true,decide_eq_true_eq,beq_iff_eq];omega);clear aG
 go_wp2_with fail
 go_roundg(m-1)
 case measure=>have:=aV.1.1;have:=gw.1;omega
 case rel=>exact⟨bd,m-1,c3,j+1,Fh,rfl,rfl,⟨rfl,Jl⟩,⟨Z4,ZY⟩⟩):P:=h
theorem Q1(h:P:=by
 have k0:=I (show en x=false by unfold en;simp only[Bool.or_eq_false_iff,Bool.and_eq_false_iff,decide_eq_false_iff_not];omega);clear aG
 go_wp2_with fail
 refine Met.intro ?_;go_step;exact⟨some ⟨eS,o1,none⟩,m,c2,j,bU.1.1,EU,rfl,Q2 aM rfl rfl rfl rfl rfl rfl rfl⟩):P:=h
theorem Q3(h:P:=by
 have aaq:=I (show fY (B.drop p)=true by rw[cf.1,←fZ.1];unfold fY;simp[a8,ct.1]);have eX:=I (show∀gd,hB (B.drop p)=.yes gd→ga (B.drop p)=.yes ((B.drop p).length-gd.length)from fun gd h=>by rw[cf.1,←fZ.1]at h⊢;simp only[ga];rw[if_pos (by have:=ct.1;omega),h]);have aar:=I (show hB (B.drop p)=.no→ga (B.drop p)=.no from fun h=>by rw[cf.1,←fZ.1]at h⊢;simp only[ga];rw[if_pos (by have:=ct.1;omega),h])
 go_upto_if 31 with(first|(go_at_call 53;refine(aas rS cr.1 aaq.1 fq.1).mono ?_;rintro bx w1 ⟨dy,a1,t0,rfl,aW,ff,cR⟩;have cT:=I aW;have cK:=I ff;have dY:=I cR;clear aW ff cR)|(go_at_call 14;refine(na cT.1).mono ?_;rintro db bf ⟨rfl,cv⟩;have df:=I cv;obtain⟨bF,kr,cZ,c12,aT,bh,bA,y3,z0,cp,z2,xT⟩:=cv.fL;clear cv))
 by_cases t1:t0=1
 ·have bB:(t0==1)=true:=beq_iff_eq.mpr t1
  have dx:=I (show hB (B.drop p)=.yes (B.drop a1)∧a1≤B.length by
   rcases cK.1 with h|h|h|h
   ·rw[dY.1 t1]at h;cases h.2.1
   ·exact h.2.2
   ·omega
   ·omega)
  subst t1
  go_wp2_with fail
  go_meet
  case rel=>
   refine⟨a1,1,⟨.inr (.inl rfl),fun _=>⟨?_,aat (p:=p) cr.1 dx.1.1 dx.1.2⟩,fun h=>absurd h (by decide)⟩,⟨?_⟩⟩
   ·rw[eX.1 _ dx.1.1,List.length_drop,List.length_drop];congr 1;have:=dx.1.2;omega
   ·exact df.1.setAt a1 dx.1.2
 ·have bB:(t0==1)=false:=beq_eq_false_iff_ne.mpr t1
  have dx:=I (show t0=0∧hB (B.drop p)=.no∨t0=2 by
   rcases cK.1 with h|h|h|h
   ·exact absurd h.1 t1
   ·exact absurd h.1 t1
   ·exact .inl h
   ·exact .inr h)
  have et:=I t1;clear t1
  go_wp2_with fail
  go_meet
  case rel=>
   refine⟨dy,t0,⟨(by rcases dx.1 with h|h;exact .inl h.1;exact .inr (.inr h)),fun h=>absurd h et.1,fun h=>?_⟩,⟨df.1⟩⟩;rcases dx.1 with h2|h2
   ·exact aar.1 h2.2
   ·omega):P:=h
theorem Cs(h:P:=by
 have fh:=I (show fR x=false by unfold fR;simp only[Bool.or_eq_false_iff,Bool.and_eq_false_iff,decide_eq_false_iff_not,beq_eq_false_iff_ne];omega);clear aG
 go_wp2_with fail
 go_ret;exact⟨aab,FK _⟩):P:=h
theorem JP(h:P:=by
 have fh:=I (show fR x=true by unfold fR;simp only[Bool.or_eq_true,Bool.and_eq_true,decide_eq_true_eq,beq_iff_eq];omega);clear aG
 go_wp2_with fail
 go_meet
 case rel=>exact⟨bd,m0-1,c3,Fh,rfl,rfl,fh.1,bl.1⟩):P:=h
theorem Q4(h:P:=by
 exact QZ):P:=h
theorem Q5(h:P:=by
 have et:=I (show a8 r 102=true∨a8 r 70=true by rw[jb.1,aG];simp[a8]);clear aG
 go_wp2_with fail
 refine Met.intro ?_;go_step;exact lK.mk (r:=r.drop 1) (sz:=sz+1) aM rfl rfl zE rfl rfl rfl bl.1 (by rw[cr.1];unfold pD;rw[if_pos et.1]) ZX):P:=h
theorem Q6(h:P:=by
 have Ck:=I (aau cK.1)
 go_cut [] (fun wc=>aN (cu w0 wc g B q (if hZ=0 then 0 else 1) l))
 case first=>
  rcases Ck.1 with h|h|h
  all_goals(subst h;go_wp2_with(first|(go_at_call 16;refine(p3 JQ.1).mono ?_;rintro gW kb ⟨rfl,p6⟩;have Ct:=I p6;clear p6));go_meet;case rel=>first|exact Ct|exact JQ)
 case rest=>
  have Q7:=hcut;clear hcut
  go_upto_if 30 with fail
  go_cut [] (fun wc=>aN (cu w0 wc g B q hZ l))
  case first=>
   rcases Ck.1 with h|h|h
   all_goals(subst h;go_wp2_with(first|(go_at_call 13;refine(pF Q7.1).mono ?_;rintro gW kb ⟨rfl,p6⟩;have Ct:=I p6;clear p6));go_meet;case rel=>first|exact Ct|exact Q7)
  case rest=>
   have jZ:=hcut;clear hcut;obtain⟨bF,c4,cZ,c12,aT,bh,bA,y3,z0,cp,z2,xT⟩:=jZ.1.fL;have zR:=I (fun t0 hv=>aav cK.1 t0 hv (k:=gk) Z1 jZ.1.le);have Q8:=I (fun t0 hv=>aaw (p0:=p0) fz.1 lg.1 tL.1 cK.1 jZ.1.le t0 hv);by_cases ar:q<B.length
   ·obtain⟨dp,aE,al⟩:=ab.iV xT.out.1 (q:Int) (by omega) (by omega);cases aE;rw[Int.toNat_natCast]at al;replace al:=(jZ.1.bu.cell (World.block_lt_of_cell? w0 _ al)).trans al;refine Q9 ?_;intro a1 bQ fs;have l5:=I (show fF (B.drop q)=iH (rd B (q:Int))by rw[gz B q ar];rfl);clear ar
    go_wp2_with fail
    refine fX (n:=23) (S:=fun w'=>w'.cell? ⟨g,0,none⟩=some (.slice (some dp) B.length c4)∧w'.cell? ⟨g,1,none⟩=some (.int .i64 (q:Int))∧w'.cell? (dp.add q)=some (.int .u8 (rd B (q:Int)))) (ds:=[]) #[false,false,false,false,false,false,false,false,false,false,false,false,false,false,false,false,false,false,false,false,false,false,false] aM rfl rfl ⟨aT,bh,al⟩ (fun hHeld=>?_);refine ax 0 37 ?_;refine ax 1 38 ?_;refine ax 2 39 ?_;refine ax 4 41 ?_;refine ax 5 42 ?_;refine ax 6 43 ?_;refine eb 3 40 ?_;refine eb 7 44 ?_;refine ax 8 45 ?_;refine ax 9 46 ?_;refine ax 10 47 ?_;refine ax 11 48 ?_;refine ax 12 49 ?_;refine ax 13 50 ?_;refine ax 15 52 ?_;refine ax 16 53 ?_;refine ax 17 54 ?_;refine eb 14 51 ?_;refine eb 18 55 ?_;refine ax 19 56 ?_;refine eb 20 57 ?_;refine gb 21 58 fun K aH=>?_;refine JR ?_;rintro k3 uY ⟨rfl,⟨iX,rfl⟩⟩;refine Cu ?_;clear aH K;intro hHeld;refine ax 22 59 ?_;refine jX aM ?_;cases aw:iH (rd B (q:Int))
    ·have gx:=I (show hZ=(if fF (B.drop q)=true then(if hZ=1 then 2 else hZ)else hZ)by rw[l5.1,aw];rfl);clear aw;exact Ra
    ·have gx:=I (show(if hZ=1 then 2 else hZ)=(if fF (B.drop q)=true then(if hZ=1 then 2 else hZ)else hZ)by rw[l5.1,aw];rfl);clear aw
     go_wp2_with(first|(go_at_call 13;refine(pF PF).mono ?_;rintro gW kb ⟨rfl,p6⟩;have Ct:=I p6;clear p6)|(go_at_call 15;refine(Cv Ct.1).mono ?_;rintro sZ uZ ⟨rfl,Cw⟩;have JS:=I Cw;clear Cw))
     go_roundg(if hD (if hZ=1 then 2 else hZ) (bc false (B.drop q))=1 then B.length+1-(B.length-(bc false (B.drop q)).length)else 0)
     case measure=>exact zR.1 _ gx.1
     case rel=>exact⟨B.length-(bc false (B.drop q)).length,q,hD (if hZ=1 then 2 else hZ) (bc false (B.drop q)),rfl,⟨rfl⟩,⟨Q8.1 _ gx.1⟩,⟨JS.1⟩⟩
   ·refine JT ?_;intro a1 qZ;have fs:=eq_false (show¬(q:Int)<(B.length:Int)by omega);have ku:=eq_false ar;have gx:=I (show hZ=(if fF (B.drop q)=true then(if hZ=1 then 2 else hZ)else hZ)by rw[List.drop_eq_nil_of_le (by omega)];rfl);clear ar
    go_wp2_with fail
    repeat(go_quiet(fail);try go_wp2_with fail)
    exact Ra):P:=h
theorem Rb(h:P:=by
 have Rc:=I xU;rw[←xV]at tV⊢;clear xV xU;clear JU JV xW;clear cd cY fG hx cM nE fB cD gL gZ de iI iz xX qU xY
 go_wp2_with(first|(refine Rd ?_;intro w3 h0 dO bj M2;obtain⟨c0,c1,c2,c3,c4,c5⟩:=kZ M2;obtain⟨d0,d1,d2,d3,d4,d5⟩:=kZ bj.1;refine FL ?_;intro z0 cp z2 z3 z4 z5;clear M2 h0))
 refine bodyPost_ret (v:=.tuple #[.agg #[.int .u8 3,.int .u8 1,.int .u8 (bits .or .u8 er 128),.int .i64 (pos:Int),.slice f.gX sz f.ci,.string str],.bool true]) (by simp[results,Tryz.results67,go_sem,eA,d0,d1,d2,d3,d4,d5,z0,cp,z2,z3,z4,z5]) rfl ⟨fun h=>PO,fun cY gd h=>?_⟩;exact Re):P:=h
theorem Rf(h:P:=by
 have Rc:=I xU;rw[←xV]at tV⊢;clear xV xU;clear JU JV xW;clear cd cY fG hx cM nE fB cD gL gZ de iI iz xX qU xY
 go_wp2_with(first|(refine Rd ?_;intro w3 h0 dO bj M2;obtain⟨c0,c1,c2,c3,c4,c5⟩:=kZ M2;obtain⟨d0,d1,d2,d3,d4,d5⟩:=kZ bj.1;refine FL ?_;intro z0 cp z2 z3 z4 z5;clear M2 h0))
 refine bodyPost_ret (v:=.tuple #[.agg #[.int .u8 3,.int .u8 1,.int .u8 (er),.int .i64 (pos:Int),.slice f.gX sz f.ci,.string str],.bool true]) (by simp[results,Tryz.results67,go_sem,eA,d0,d1,d2,d3,d4,d5,z0,cp,z2,z3,z4,z5]) rfl ⟨fun h=>PO,fun cY gd h=>?_⟩;exact Re):P:=h
theorem s0(h:P:=by
 exact Rh):P:=h
theorem s3(h:P:=by
 exact Ri):P:=h
theorem Rj(h:P:=by
 refine JW ?_;intro eS Cx;have QN:=I (show qT c=true by unfold qT;simp only[Bool.or_eq_true,Bool.or_eq_false_iff,Bool.and_eq_true,Bool.and_eq_false_iff,decide_eq_true_eq,decide_eq_false_iff_not,bne_iff_ne,beq_iff_eq,ne_eq,beq_eq_false_iff_ne,bne_eq_false_iff_eq];omega);refine QO ?_;clear aG;intro bV
 go_wp2_with(first|(at_builtin;refine ab.sy (ab.int .u8) w.heap.size rfl (.tmp 124) (.tmp 126) 22 5 (.int .u8 0) 1 rfl Tryz.underlying22 n2 rfl (by decide) (by omega) u6 xs c [.int .u8 c] (fun k=>k≠g) (fun _=>False) rfl iW rfl (fun _ ad=>ad.elim) ?aF ?aO (Below.refl _ _) ?aS ?aL ?_;(case aF=>exact fI.fresh l3);(case aO=>exact fI.r l3);(case aS=>exact(fI.sX l3).1);(case aL=>exact Fe);intro v2 w1 aY U aw ea;have tK:=I (fI.grow l3 aY U aw bT.1);obtain⟨bd,c7,aT,bh,z0,ff⟩:=tK.1.fL;clear aY U aw ea)|(at_builtin;refine ab.sy (ab.int .u8) w.heap.size rfl (.tmp 52) (.tmp 54) 22 5 (.int .u8 0) 1 rfl Tryz.underlying22 n2 rfl (by decide) (by omega) u6 xs c [.int .u8 c] (fun k=>k≠g) (fun _=>False) rfl iW rfl (fun _ ad=>ad.elim) ?aF ?aO (Below.refl _ _) ?aS ?aL ?_;(case aF=>exact fI.fresh l3);(case aO=>exact fI.r l3);(case aS=>exact(fI.sX l3).1);(case aL=>exact Fe);intro v2 w1 aY U aw ea;have tK:=I (fI.grow l3 aY U aw bT.1);obtain⟨bd,c7,aT,bh,z0,ff⟩:=tK.1.fL;clear aY U aw ea))
 go_roundg(B.length-(q+1))
 case measure=>have:=aV.1.1;have:=fz.1;omega
 case rel=>
  refine⟨q+1,xs++[c],2,rfl,⟨uV,sR,(by decide),?_,?_⟩,⟨?_⟩⟩
  ·exact QP
  ·rw[List.length_append,List.length_singleton];have:=aV.1;omega
  ·refine fI.setAt (q:=q) ?_ (q+1) uV;exact Jd):P:=h
theorem Rk(h:P:=by
 have e:((⟨c.toNat,(by omega)⟩:Fin 256).val:Int)=c:=Int.toNat_of_nonneg h0;rw[e]at this;exact this):P:=h
theorem Rl(h:P:=by
 have hR:=grownCap_ge w (n+m) n 5;have oT:grownCap w (n+m) n 5≤maxLen:=grownCap_le_maxLen w (n+m) n 5 Fv;refine ab.BG (h1:=fun _=>rfl) ?_ (fun _ _=>trivial);rw[List.length_append,aq,hm];have hlen:(il xs++il ys).length=n+m:=by rw[List.length_append,uQ,uQ];omega
 refine⟨ZW,.inr ⟨w.heap.size,_,_,rfl,U.size,heap_alloc_new w.drew _,hR,oT,?_,?_⟩⟩
 ·simp only[Array.size_append,List.size_toArray,size_zeroCells,hlen]
  show n+m+(grownCap w (n+m) n 5-(n+m))*1=grownCap w (n+m) n 5*1
  omega
 ·simp only[Array.toList_append];rw[Nat.mul_one,←hlen]
  show List.take _ _=il (xs++ys)
  rw[FM];exact List.take_left):P:=h
theorem FN(h:P:=by
 have zS:k=t.size:=by omega
 subst zS;rw[List.drop_eq_nil_of_le (by omega)]at jK;have kv:=I jK;clear a0 cg dw jK;go_wp2;go_ret2;exact aax kv.1 fA.1):P:=h
theorem Rm(h:P:=by
 have hv:(told==1)=false:=beq_eq_false_iff_ne.mpr aU;have et:=I aU;clear aU
 go_wp2_with(first|(go_at_call 14;refine(na dG.1).mono ?_;rintro bx w1 ⟨rfl,aW⟩;have cT:=I aW;clear aW))
 go_ret;refine⟨kind,str,q,told,bV.1,(by rw[hv];rfl),?_⟩;rw[if_neg et.1];exact cT.1):P:=h
theorem Rn(h:P:=by
 have aW:decide (x≤57)=true:=decide_eq_true (by omega);have k0:=I (show cN x=true by unfold cN;simp only[Bool.or_eq_true,Bool.and_eq_true,decide_eq_true_eq];omega);exact Cq):P:=h
theorem Ro(h:P:=by
 refine JT ?_;intro a1 qZ;have fs:=eq_false (show¬(q:Int)<(B.length:Int)by omega);have ku:=eq_false ar;have l5:=I (show fF (B.drop q)=false by rw[List.drop_eq_nil_of_le (by omega)];rfl);clear ar;have tN:=I (show¬((bB str 0=48∧1<q-p)∨false=true)by intro h;rcases h with h|h;exact ct.1 h;cases h);by_cases hm:2147483647<n
 ·have m0:decide (2147483647<n)=true:=decide_eq_true hm;have dz:=I (show nb B p q=0 by unfold nb;rw[if_neg Fl,if_pos Fj]);clear hm
  repeat(go_quiet(fail);try go_wp2_with(first|(go_at_call 16;refine(p3 EP).mono ?_;rintro db w3 ⟨rfl,eK⟩;have df:=I eK;clear eK)))
  exact Rp
 ·have m0:decide (2147483647<n)=false:=decide_eq_false hm;have dz:=I (show nb B p q=1 by unfold nb;rw[if_neg Fl,if_neg Fj]);clear hm
  repeat(go_quiet(fail);try go_wp2_with fail)
  exact Rq):P:=h
theorem Rr(h:P:=by
 intro iY gf nF nG
 go_wp2_with fail
 all_goals(
  refine Met.intro ?_;go_step;exact⟨rfl,aay aM rfl rfl rfl rfl rfl rfl (by first|rfl|(exact congrArg Value.bool (beq_iff_eq.mpr (by have:=wq.1;omega)))|(exact congrArg Value.bool (beq_iff_eq.mpr (Cy wq.1 xL xL xL xL xL xL xL))))⟩)):P:=h
theorem JX(h:P:=by
 intro iY gf nF nG;rcases zT.1 with⟨rfl,_⟩|⟨rfl,_⟩
 all_goals go_wp2_with fail
 all_goals(
  refine Met.intro ?_;go_step;exact⟨rfl,aaz aM rfl rfl rfl rfl rfl rfl rfl rfl⟩)):P:=h
theorem JY(h:P:=by
 intro iY gf nF nG;rcases zT.1 with⟨rfl,rfl⟩|⟨rfl,rfl⟩
 all_goals go_wp2_with fail
 all_goals(
  refine Met.intro ?_;go_step;exact⟨rfl,aaA aM rfl rfl rfl rfl rfl rfl Z6⟩)):P:=h
theorem Rs(h:P:=by
 intro h0;have:=congrArg List.length h0;rw[List.length_drop]at this;simp at this;omega):P:=h
theorem Rt(h:P:=by
 obtain rfl:=Option.some.inj H;go_enter Tryz.func104,Tryz.ntmps104;go_wp2;go_ret;exact⟨bJ,dH⟩):P:=h
theorem Cz(h:P:=by
 obtain rfl:=Option.some.inj H;go_enter Tryz.func105,Tryz.ntmps105;go_wp2;go_ret;exact⟨bJ,dH⟩):P:=h
theorem zU(h:P:=by
 obtain rfl:=Option.some.inj H;go_enter Tryz.func37,Tryz.ntmps37;go_wp2;go_ret;exact⟨bJ,dH⟩):P:=h
theorem Ru(h:P:=by
 obtain rfl:=Option.some.inj H;go_enter Tryz.func39,Tryz.ntmps39;go_wp2;go_ret;exact⟨bJ,dH⟩):P:=h
theorem s4(h:P:=by
 obtain rfl:=Option.some.inj H;go_enter Tryz.func77,Tryz.ntmps77;go_wp2;go_ret;exact⟨bJ,dH⟩):P:=h
theorem qV(h:P:=by
 obtain rfl:=Option.some.inj H;go_enter Tryz.func78,Tryz.ntmps78;go_wp2;go_ret;exact⟨bJ,dH⟩):P:=h
theorem sd(h:P:=by
 obtain rfl:=Option.some.inj H;go_enter Tryz.func79,Tryz.ntmps79;go_wp2;go_ret;exact⟨bJ,dH⟩):P:=h
theorem qW(h:P:=by
 obtain rfl:=Option.some.inj H;go_enter Tryz.func83,Tryz.ntmps83;go_wp2;go_ret;exact⟨bJ,dH⟩):P:=h
theorem nc(h:P:=by
 obtain rfl:=Option.some.inj H;go_wp2;go_ret;exact⟨bJ,dH⟩):P:=h
theorem zV(h:P:=by
 obtain rfl:=Option.some.inj H;go_wp2
 repeat(go_quiet(fail);try go_wp2)
 go_ret;exact⟨lh,fS⟩):P:=h
theorem FO(h:P:=by
 obtain rfl:=Option.some.inj H
 go_wp2_with(first|(go_at_call 124;(with_reducible refine(tW.calls b9 t0 _ bF.1).mono ?_);rintro e w0 ⟨v3,rfl,bK,U⟩;have gK:=I (ab.jU bK (pv fS));replace a7:=I (jV fS U);obtain⟨CA,zB,s5⟩:=ab.pU gK.1;subst s5))
 repeat(go_quiet(fail);try go_wp2_with(first|(go_at_call 124;(with_reducible refine(tW.calls b9 t0 _ bF.1).mono ?_);rintro e w0 ⟨v3,rfl,bK,U⟩;have gK:=I (ab.jU bK (pv fS));replace a7:=I (jV fS U);obtain⟨CA,zB,s5⟩:=ab.pU gK.1;subst s5)))
 go_ret;exact⟨lh,fS⟩):P:=h
theorem FP(h:P:=by
 obtain rfl:=Option.some.inj H;obtain⟨dp,aD,eY,p0,a1⟩:=gY cK.1 b9;cases aD;go_wp2;go_ret;exact⟨bJ,dH⟩):P:=h
theorem JZ(h:P:=by
 obtain rfl:=Option.some.inj H;obtain⟨gy,bx,fT,ba,bQ⟩:=gY cK.1 (cH);obtain rfl:dp=gy:=l6;go_wp2;go_ret;exact⟨rR,dH⟩):P:=h
theorem FQ(h:P:=by
 obtain rfl:=Option.some.inj H;obtain⟨gy,bx,fT,ba,bQ⟩:=gY cK.1 (cH);obtain rfl:dp=gy:=l6;obtain⟨kO,db,og,dy,fs⟩:=gY cK.1 (cH);obtain rfl:dp=kO:=qQ;go_wp2;go_ret;exact⟨rR,dH⟩):P:=h
theorem wu(h:P:=by
 obtain⟨bd,m1,c1,k,r,sz,aa,rfl,aZ,hp,dd,rfl⟩:=h;exact aaB aa hw aq aZ hp dd):P:=h
theorem Rv(h:P:=by
 obtain⟨tp,fO,FR,gH,ku⟩:=gY cK.1 (kx);obtain rfl:dp=tp:=(by injection fO);go_wp2;go_ret;exact⟨Px,dH⟩):P:=h
theorem Rw(h:P:=by
 obtain⟨J0,gW,aaC,mx,xZ⟩:=gY cK.1 (kx);obtain rfl:dp=J0:=(by injection gW);go_wp2;go_ret;exact⟨Px,dH⟩):P:=h
theorem Rx(h:P:=by
 obtain⟨b,o,e,ae⟩:=(h.v.below (dq h.d.bu h.d.bu.size U)).cell i hi;cases e;rw[←aG];exact ae):P:=h
theorem Ry(h:P:=by
 obtain⟨m,rfl⟩:∃m,k=m+1:=⟨k-1,(by omega)⟩;exact aaD i told m (by omega)):P:=h
theorem aaE(h:P:=by
 obtain⟨rfl,rfl,rfl,rfl⟩:=H;go_wp2
 repeat(go_quiet(fail);try go_wp2)
 go_ret2;exact⟨_,B1,I6,dU,dT,dB⟩):P:=h
theorem Rz(h:P:=by
 rcases here h p hp with⟨e,h1,h2⟩|⟨e,h1,h2,h3⟩
 ·rw[h1]at hd;cases hd
 ·rw[h1]at hd
  have ai:cN (bB s (p:Int))=true:=by
   simp only[bI]at hd;cases ae:cN (bB s (p:Int))with
   |true=>rfl
   |false=>rw[ae]at hd;simp at hd
  have gM:bI (xs.drop (p+1))=n:=by simp only[bI,ai]at hd;simpa using hd
  have:=h.le;rw[if_pos h2,if_pos h3,wD,ai];rw[Option.bind_some,if_pos rfl];rw[wr p (by omega),wr w (by omega),bb k (p+1) (w+1) (by omega) gM (by omega)];congr 2<;>omega):P:=h
theorem RA(h:P:=by
 rcases here h p hp with⟨e,h1,h2⟩|⟨e,h1,h2,h3⟩
 ·rw[if_neg h2,Nat.add_zero,Nat.add_zero]
 ·rw[h1]at hd
  have ai:cN (bB s (p:Int))=false:=by
   simp only[bI]at hd;cases ae:cN (bB s (p:Int))with
   |false=>rfl
   |true=>rw[ae]at hd;simp at hd
  rw[if_pos h2,if_pos h3,wD,ai,Option.bind_some,if_neg (by decide),Nat.add_zero,Nat.add_zero]):P:=h
theorem RB(h:P:=by
 refine bodyPost_ret (v:=.tuple #[.agg #[.int .u8 2,.int .u8 o2,.int .u8 0,.int .i64 ((B.length-s.length:Nat):Int),.slice ao n c7,.string pG],.nilIface]) (by simp[results,Tryz.results29,go_sem,eA,bW,b0,b2,b3,b5,b7,bZ,b1,Z2,b4,b6,b8]) rfl (⟨fun aX=>zI,fun cd dm kQ aX=>by
  rw[gR.1]at aX;cases aX;exact⟨ao,c7,pG,(by rw[p7.1]),bl.1.1,bl.1.2.1,bl.1.2.2.1,bl.1.2.2.2,c6.gg ct.1 ⟨_,bj.1⟩ cA cA (Nat.le_refl _) _ _ _ _ _ _⟩⟩)):P:=h
theorem RC(h:P:=by
 refine bodyPost_ret (v:=.tuple #[.agg #[.int .u8 3,.int .u8 o2,.int .u8 FT,.int .i64 ((B.length-s.length:Nat):Int),.slice ao m0 c7,.string kQ],.nilIface]) (by simp[results,Tryz.results29,go_sem,eA,bW,b0,b2,b3,b5,b7,bZ,b1,Z2,b4,b6,b8]) rfl (⟨fun aX=>zI,fun dm aX=>by
  rw[gR.1]at aX;cases aX;exact⟨o2,FT,ao,m0,c7,kQ,FU,rfl,bl.1.1,bl.1.2,c6.gg ct.1 ⟨_,bj.1⟩ cA cA (Nat.le_refl _) _ _ _ _ _ _⟩⟩)):P:=h
theorem RD(h:P:=by
 refine bodyPost_ret (v:=.tuple #[eA,.iface dI dQ]) (by simp[results,Tryz.results29,go_sem,eA,bW,b0,b2,b3,b5,b7,bZ,b1,Z2,b4,b6,b8]) rfl (⟨fun _=>⟨dI,dQ,rfl,_,c6.gg ct.1 ⟨_,bj.1⟩ cA cA (Nat.le_refl _) _ _ _ _ _ _⟩,fun cd dm kQ aX=>by rw[gR.1]at aX;cases aX⟩)):P:=h
theorem J1(h:P:=by
 refine bodyPost_ret (v:=.tuple #[eA,.iface dI dQ]) (by simp[results,Tryz.results29,go_sem,eA,bW,b0,b2,b3,b5,b7,bZ,b1,Z2,b4,b6,b8]) rfl (⟨fun _=>⟨dI,dQ,rfl,_,c6.gg ct.1 ⟨_,bj.1⟩ cA cA (Nat.le_refl _) _ _ _ _ _ _⟩,fun dm aX=>by rw[gR.1]at aX;cases aX⟩)):P:=h
theorem FV(h:P:=by
 refine bodyPost_ret (v:=.tuple #[eA,.iface dI dQ]) (by simp[results,Tryz.results59,go_sem,eA,bW,b0,b2,b3,b5,b7,bZ,b1,Z2,b4,b6,b8]) rfl ⟨fun _=>⟨_,_,rfl,c6.gg (av.1.d.here.below aC.1) ⟨_,bj.1⟩ tO tO (Nat.le_refl _) _ _ _ _ _ _⟩,fun br gd h0 h1=>absurd h1 (fZ.1 br gd h0)⟩):P:=h
theorem aaF(h:P:=by
 refine fX (n:=14) (S:=fun w'=>True) (ds:=[]) #[false,false,false,false,false,false,false,false,false,false,false,false,false,false] aM rfl rfl trivial (fun hHeld=>?_);refine RE ?_;intro K aH;refine o3 (by rfl) (.tmp 63) (.tmp 68) 22 22 rfl rfl (v:=v7) (xv:=.slice (some ⟨CB,bR,none⟩) k c) (by rfl) (by rfl) (pH (av.1.o.below (bw aC.1 (Nat.le_refl _) cX)|>.oj (dq av.1.bu av.1.bu.size (bw aC.1 (Nat.le_refl _) cX))) (dq av.1.b av.1.b.size (bw aC.1 (Nat.le_refl _) cX)) ((o4.1.below (dq av.1.bu av.1.bu.size (bw aC.1 (Nat.le_refl _) cX))).C) tM.1.1 PJ 22) ?_;exact RF):P:=h
theorem aaG(h:P:=by
 refine fX (n:=14) (S:=fun w'=>True) (ds:=[]) #[false,false,false,false,false,false,false,false,false,false,false,false,false,false] aM rfl rfl trivial (fun hHeld=>?_);refine RE ?_;intro K aH;refine o3 (by rfl) (.tmp 63) (.tmp 68) 22 22 rfl rfl (v:=v7) (xv:=.slice (some ⟨FW,bR,none⟩) k c) (by rfl) (by rfl) (pH (av.1.o.below (bw aC.1 (Nat.le_refl _) cX)|>.oj (dq av.1.bu av.1.bu.size (bw aC.1 (Nat.le_refl _) cX))) (dq av.1.b av.1.b.size (bw aC.1 (Nat.le_refl _) cX)) ((o4.1.below (dq av.1.bu av.1.bu.size (bw aC.1 (Nat.le_refl _) cX))).C) tM.1.1 PJ 22) ?_;exact RF):P:=h
theorem w2(h:P:=by
 refine RG ?_;intro hHeld
 go_wp2_with fail
 refine bodyPost_ret (v:=.tuple #[eA,.iface dI dQ]) (by simp[results,Tryz.results29,go_sem,eA,bW,b0,b2,b3,b5,b7,bZ,b1,Z2,b4,b6,b8]) rfl (⟨dI,dQ,rfl,_,_,((c6.gg ct.1 ⟨_,bj.1⟩ cA cA (Nat.le_refl _) _ _ _ _ _ _).below (kH (Below.refl _ _))).m⟩)):P:=h
theorem RH(h:P:=by
 refine ax 7 54 ?_;refine ax 8 55 ?_;refine ax 9 56 ?_;refine ax 10 57 ?_;refine ax 11 58 ?_;refine ax 13 60 ?_;refine ax 14 61 ?_;refine ax 15 62 ?_;refine eb 12 59 ?_;refine eb 16 63 ?_;refine ax 17 64 ?_;refine ax 18 65 ?_;refine ax 19 66 ?_;refine ax 20 67 ?_;refine ax 21 68 ?_;refine ax 22 69 ?_;refine ax 24 71 ?_;refine ax 25 72 ?_;refine ax 26 73 ?_;refine eb 23 70 ?_;refine eb 27 74 ?_;refine ax 28 75 ?_;refine eb 29 76 ?_;refine gb 30 77 fun K aH=>?_;refine JR ?_;rintro gW rY ⟨rfl,⟨iX,rfl⟩⟩;refine Cu ?_;clear aH K;intro hHeld;refine ax 31 78 ?_;refine ax 32 79 ?_;refine jX aM ?_;cases aw:iH (rd B (q:Int))
 ·have tN:=I (show¬((bB str 0=48∧1<q-p)∨iH (rd B (q:Int))=true)by rw[aw];intro h;rcases h with h|h;exact ct.1 h;cases h);by_cases hm:2147483647<n
  ·have m0:decide (2147483647<n)=true:=decide_eq_true hm;have dz:=I (show nb B p q=0 by unfold nb;rw[if_neg Fl,if_pos Fj]);clear hm
   go_wp2_with(first|(go_at_call 16;refine(p3 EP).mono ?_;rintro db w3 ⟨rfl,eK⟩;have df:=I eK;clear eK))
   exact Rp
  ·have m0:decide (2147483647<n)=false:=decide_eq_false hm;have dz:=I (show nb B p q=1 by unfold nb;rw[if_neg Fl,if_neg Fj]);clear hm
   go_wp2_with fail
   exact Rq
 ·have dz:=I (show nb B p q=2 by unfold nb;rw[if_pos (.inr (by rw[l5.1];exact aw))]);exact RI):P:=h
theorem RJ(h:P:=by
 refine tG ?_;refine aH.out _ _ ?_;clear aH K;refine jX aM ?_;refine⟨cZ,bn,m0,rfl,I ⟨⟨⟨cZ,bn,m0⟩,⟨ao,c0,cZ,m0,j7 bz.1 3 _ rfl,fz.1.1,fz.1.2.1,rfl,rfl,fz.1.2.2.1⟩,jc.1.symm,?_⟩,l7.1.setCell fz.1.1 _,fz.1.2.2.2.1,fz.1.2.2.2.2⟩⟩;have:=ab.mo hT.1 (p:=⟨g,3,none⟩) (fun _ ad=>ad) (.slice cZ bn m0);rw[←jc.1]at this⊢;exact this):P:=h
theorem RL(h:P:=by
 rename_i heq
 have heq:s=93::_:=heq;subst heq;exact gN.one (by decide) (by simp)):P:=h
theorem J2(h:P:=by
 rename_i r e
 rw[e]at h1;exact absurd h1 (by simp[a8])):P:=h
theorem J3(h:P:=by
 repeat' split
 all_goals(
  congr 1;rw[Bool.eq_iff_iff];simp only[Bool.or_eq_true,Bool.and_eq_true,decide_eq_true_eq,beq_iff_eq,true_iff,false_iff,Bool.false_eq_true];omega)):P:=h
theorem RM(h:P:=by
 replace H:=Option.bind_eq_some_iff.mp H;obtain⟨t0,ao,H⟩:=H
 try dsimp only at H
 have bd:=I ao;clear ao;simp only[Option.some.injEq,Prod.mk.injEq]at H;obtain⟨rfl,rfl,rfl,rfl⟩:=H
 go_wp2_with(first|(refine RN ?_;clear aV a7 bE;intro w1 v2 bK U gK aV a7 bE))
 repeat(go_quiet(fail);try go_wp2_with(first|(refine RN ?_;clear aV a7 bE;intro w1 v2 bK U gK aV a7 bE)))
 go_ret2;exact⟨_,lh,sM,dU,dT,dB⟩):P:=h
theorem RO(h:P:=by
 replace H:=Option.bind_eq_some_iff.mp H;obtain⟨⟨t2,t3⟩,bF,H⟩:=H
 try dsimp only at H
 have kc:=I bF;clear bF;have aK:=I H;clear H;refine J4 ?_;intro p0 a1 dp aD eY;cases aD;replace eY:=qI aV.1 eY I8;refine my ?_;clear p0 a1;intro p0 a1
 go_wp2_with(first|((with_reducible refine kK (f:=69) rfl ?_);refine kJ (some 37) rfl rfl Tryz.func69 aM rfl #[.int .u8 (rd ys cm)] rfl mv ?_;(with_reducible refine(qX.calls (rd ys cm) false _ cZ.1).mono ?_);rintro e w' ⟨rfl,⟨dh,rfl⟩⟩;refine⟨_,rfl,?_⟩)|((with_reducible refine kK (f:=16) rfl ?_);refine kJ (some 34) rfl rfl Tryz.func16 aM rfl #[.pointer (some ⟨g,0,none⟩)] rfl mv ?_;(with_reducible refine(k4.calls g bY fE fw cQ t2 t3 w0 _ ?side1 ?side2 kc.1).mono ?_);(case side1=>exact dU);(case side2=>exact dT);rintro e w1 ⟨rfl,hi,U,ad⟩;refine⟨_,rfl,?_⟩;replace aV:=I (cI.trans dB ad (.inl rfl));replace a7:=I (U);replace bE:=I (hi)))
 go_roundg cd
 case measure=>have:=gp.1;have:=dn.1;omega
 case rel=>exact⟨(b9),(wrap64 (cm+1)),(t2),(t3),bJ,bJ,aK,⟨uR⟩,⟨dU⟩,⟨dB⟩,⟨dT⟩⟩):P:=h
theorem RP(h:P:=by
 rintro _ _ ⟨eJ,A7,n7,c7,g0,ar,rfl,rfl⟩;go_step;exact hI.1 _ _ _ _ _ ar):P:=h
theorem FX(h:P:=by
 rw[IntKind.wrap_u64,IntKind.wrap_u64];decide):P:=h
theorem RQ(h:P:=by
 rw[List.length_append,h1,zW];have:=FM jd ys;unfold il at this pS;rw[this,←pS];exact aY):P:=h
theorem CC(h:P:=by
 rw[List.length_drop,List.length_drop]at this;omega):P:=h
theorem RR(h:P:=by
 rw[an,Option.bind_some];simp only;rw[bb (i+1) _ (by omega) (by omega) (m+14) (by omega)];exact J5):P:=h
theorem J6(h:P:=by
 rw[if_neg (show¬a6 s 1/64=2 by omega),if_neg a1]):P:=h
theorem J7(h:P:=by
 rw[if_neg mT]at H;exact absurd H (by simp)):P:=h
theorem J8(h:P:=by
 rw[if_neg c12]at H;exact absurd H (by simp)):P:=h
theorem RS(h:P:=by
 rw[show((4:Nat):Int)=4 from rfl,show((4-4:Nat):Int)=0 from rfl]at t3;rw[t3];rfl):P:=h
theorem RT(h:P:=by
 rw[show((8:Nat):Int)=8 from rfl,show((8-8:Nat):Int)=0 from rfl]at t3;rw[t3];rfl):P:=h
theorem FY(h:P:=by
 rw[←decide_eq_emptyBytes];exact decide_eq_false (fun h=>bL (by rw[h];rfl))):P:=h
theorem RU(h:P:=by
 show pu 16 255 0 [h]=some (dg h)
 rw[pu,if_pos d0,if_pos (by omega)]
 show some (0*16+dg h)=_
 rw[Int.zero_mul,Int.zero_add]):P:=h
theorem RV(h:P:=by
 simp[Instr.lookup,run_underlying u68,MapKept.run_getObj_map U,MapKept.run_findKey Tryz.underlying5 aA,Result.andThen,ad,other]):P:=h
theorem J9(h:P:=by
 simp only[Act.put,List.setIfInBounds_toArray,List.set_cons_zero,List.set_cons_succ,jj,oV];rfl):P:=h
theorem RX(h:P:=by
 simp only[BM,Act.put,List.setIfInBounds_toArray,List.set_cons_zero,List.set_cons_succ];rfl):P:=h
theorem RY(h:P:=by
 split
 ·rename_i heq
  injection heq with h1 _;exact absurd h1 h
 ·rfl):P:=h
theorem RZ(h:P:=by
 unfold cN at hd;simp only[Bool.and_eq_true,decide_eq_true_eq]at hd;simp only[a8,beq_eq_false_iff_ne];omega):P:=h
theorem Ka(h:P:=by
 unfold next;rw[if_neg (by omega),if_neg (by omega),if_pos hm,an,ak,h1];rfl):P:=h
theorem R0(h:P:=by
 unfold next;simp only;rw[if_neg (by omega),if_neg (by omega),if_neg (by omega),if_neg (by omega),an];rfl):P:=h
theorem J5(h:P:=by
 by_cases t1:told=1
 ·simp[t1]
 ·simp[t1]):P:=h
theorem R1(h:P:=by
 clear H;refine eo ?_ ?_<;>intro hy H
 ·exact nc
 ·exact nc):P:=h
theorem R2(h:P:=by
 clear iJ
 go_wp2_with(first|(refine FZ ?_;intro w1 aC bM)|(go_at_call 83;refine(xS (r:Int) _).mono ?_;rintro bk bf ⟨rfl,⟨dh,rfl⟩⟩;rw[aw]))
 go_ret;exact⟨⟨_,_,_,rfl⟩,jI bM.1 _⟩):P:=h
theorem R3(h:P:=by
 clear iJ
 go_wp2_with(first|(refine FZ ?_;intro w1 aC bM))
 go_ret;exact⟨⟨_,_,_,rfl⟩,bM.1⟩):P:=h
theorem Cq(h:P:=by
 clear aG
 go_wp2_with fail
 go_roundg(m-1)
 case measure=>have:=aV.1.1;have:=gw.1;omega
 case rel=>exact⟨cZ,m-1,c3,j+1,rfl,Fh,rfl,⟨rfl,Jl⟩,⟨Ji,PG⟩⟩):P:=h
theorem Kb(h:P:=by
 conv=>arg 2;whnf
 go_wp2_with(first|(refine wv ?_;intro w1 az aC;clear az)|(refine rZ ?_;refine aaH ?_;intro bf dI dQ bM))
 exact aal):P:=h
theorem QY(h:P:=by
 exact bodyPost_ret (v:=.agg #[.int .u8 1,.bool (a8 xs 45),.int .i64 ((sz:Int)+(2+(j:Int))),.int .i64 (hY xs:Nat)]) (by simp[results,Tryz.results61,go_sem,aT,bh,bA,y3,z0,cp,z2,z3]) rfl ⟨by rw[mw.1],by first|exact four aC.1 _ _ _ _|exact four (jI aC.1 _) _ _ _ _⟩):P:=h
theorem Rp(h:P:=by
 go_ret;refine⟨q,fp.1,Jr,?_⟩;rw[show nb B p q=0 from dz.1];exact df.1):P:=h
theorem Rq(h:P:=by
 go_ret;refine⟨q,fp.1,Jr,?_⟩;rw[show nb B p q=1 from dz.1];exact EP):P:=h
theorem JA(h:P:=by
 go_ret2;exact⟨_,lh,I6,dU,dT,dB⟩):P:=h
theorem RI(h:P:=by
 go_wp2_with(first|(go_at_call 13;refine(pF EP).mono ?_;rintro db w3 ⟨rfl,eK⟩;have df:=I eK;clear eK))
 go_ret;refine⟨q,fp.1,Jr,?_⟩;rw[show nb B p q=2 from dz.1];exact df.1):P:=h
theorem Ra(h:P:=by
 go_wp2_with(first|(go_at_call 15;refine(Cv PF).mono ?_;rintro sZ uZ ⟨rfl,Cw⟩;have JS:=I Cw;clear Cw))
 go_roundg(if hD (hZ) (bc false (B.drop q))=1 then B.length+1-(B.length-(bc false (B.drop q)).length)else 0)
 case measure=>exact zR.1 _ gx.1
 case rel=>exact⟨B.length-(bc false (B.drop q)).length,q,hD (hZ) (bc false (B.drop q)),rfl,⟨rfl⟩,⟨Q8.1 _ gx.1⟩,⟨JS.1⟩⟩):P:=h
theorem R4(h:P:=by
 go_wp2_with(first|(refine iK ?_;intro w1 cE bT du eG eH cB c5)|(refine CD ?_;intro bk w1 hp;obtain⟨o2,FT,ao,m0,c7,kQ,FU,rfl,bO,iz,h0⟩:=hp.2 n gR.1;refine R5 ?_;clear bO iz;intro bl bj ct;obtain⟨bW,bZ,b0,b1,b2,Z2,b3,b4,b5,b6,b7,b8⟩:=gO bj.1;clear hp h0))
 exact RC):P:=h
theorem Qw(h:P:=by
 go_wp2_with fail
 exact bodyPost_ret (v:=.agg #[.int .u8 0,.bool false,.int .i64 0,.int .i64 0]) (by simp[results,Tryz.results61,go_sem,aT,bh,bA,y3,z0,cp,z2,z3]) rfl ⟨by rw[dz.1],by first|exact four aC.1 _ _ _ _|exact four (jI aC.1 _) _ _ _ _⟩):P:=h
theorem R6(h:P:=by
 have aK:=I H;clear H;refine r0 ?_;intro gy bx fT ba bQ;obtain rfl:dp=gy:=l6;obtain⟨kO,db,og,dy,fs⟩:=gY cK.1 (cH);obtain rfl:dp=kO:=qQ;exact FB):P:=h
theorem F0(h:P:=by
 have aK:=I H;clear H;refine j1 ?_;intro jk jl jm jn iA jo jq jr js jt ju jv;obtain⟨CA,zB,s5⟩:=ab.pU gn.1;subst s5;exact Jy):P:=h
theorem JM(h:P:=by
 have k0:=I (show dr x=false by unfold dr;simp only[Bool.or_eq_false_iff,Bool.and_eq_false_iff,decide_eq_false_iff_not];omega);clear aG
 go_wp2_with fail
 refine Met.intro ?_;go_step;exact⟨some ⟨eS,o1,none⟩,m,c2,j,bU.1.1,EU,rfl,QW aM rfl rfl rfl rfl rfl rfl rfl⟩):P:=h
theorem R7(h:P:=by
 exact R8):P:=h
theorem QZ(h:P:=by
 have mw:=I (mW.1 (zQ.1.trans aw))
 go_wp2_with(first|(go_at_call 83;refine(xS x _).mono ?_;rintro bk wd ⟨rfl,⟨dh,rfl⟩⟩;rw[aw]))
 exact bodyPost_ret (v:=.agg #[.int .u8 0,.bool false,.int .i64 0,.int .i64 0]) (by simp[results,Tryz.results61,go_sem,aT,bh,bA,y3,z0,cp,z2,z3]) rfl ⟨by rw[mw.1],by first|exact four aC.1 _ _ _ _|exact four (jI aC.1 _) _ _ _ _⟩):P:=h
theorem Rh(h:P:=by
 have Kc:=(Option.bind_some _ _).symm.trans H;rw[cL]
 with_reducible exact Kc):P:=h
theorem Ri(h:P:=by
 have Kc:=(Option.bind_some _ _).symm.trans H
 with_reducible exact Kc):P:=h
theorem R9(h:P:=by
 have a0:(z0==92)=false:=beq_eq_false_iff_ne.mpr h1;have cg:(z0 !=92)=true:=bne_iff_ne.mpr h1;exact Cn):P:=h
theorem QP(h:P:=by
 have h:=bV.1;rw[QN.1]at h
 first|exact h|(rw[Bool.or_false]at h;exact h)|(rw[Bool.or_true]at h;exact h)):P:=h
theorem Kd(h:P:=by
 obtain rfl:=Option.some.inj H;go_enter Tryz.func40,Tryz.ntmps40;exact Qm):P:=h
theorem CE(h:P:=by
 obtain rfl:=Option.some.inj H;refine CF ?_;intro aW p0 a1;go_wp2;go_ret;exact⟨bJ,dH⟩):P:=h
theorem Sa(h:P:=by
 rcases hW.1 with rfl|rfl
 all_goals(
  go_enter Tryz.func29,Tryz.ntmps29
  go_wp2_with(first|(refine iK ?_;intro w1 cE bT du eG eH cB c5)|(refine Ke ?_;clear cE bT c5 cB;intro w1 cE bT)|(go_at_call 44;refine(nd bT.1.d 4 0 1 oY).mono ?_;refine Kf ?_;intro w1 ao c7 bj bl ct bW bZ b0 b1 b2 Z2 b3 b4 b5 b6 b7 b8))
  refine bodyPost_ret (v:=.tuple #[.agg #[.int .u8 4,.int .u8 0,.int .u8 0,.int .i64 ((B.length-s.length:Nat):Int),.slice ao 1 c7,.string ⟨#[]⟩],.nilIface]) (by simp[results,Tryz.results29,go_sem,eA,bW,b0,b2,b3,b5,b7,bZ,b1,Z2,b4,b6,b8]) rfl (⟨ao,c7,rfl,bl.1,ey.gg ct.1 ⟨_,bj.1⟩ cA cA (Nat.le_refl _) _ _ _ _ _ _⟩))):P:=h
theorem Sb(h:P:=by
 rcases Int.lt_or_le L 97 with hm|hm
 ·refine Sc ?_;intro eZ bV;exact qs
 ·rcases Int.lt_or_le 122 L with aq|aq
  ·refine Sc ?_;intro eZ bV;exact qs
  ·have eZ:=I (show¬dg c<8 by rw[kd,if_pos ⟨hm,aq⟩];omega);exact R8):P:=h
theorem Sd(h:P:=by
 rcases Int.lt_or_le L 97 with hm|hm
 ·refine zX ?_;exact Kg
 ·rcases Int.lt_or_le 122 L with aq|aq
  ·refine zX ?_;exact Kg
  ·rcases Int.lt_or_le 102 L with aA|aA
   ·refine Kh ?_;exact Kg
   ·refine Ki ?_;intro eZ;by_cases hov:a*16+(L-87)≤4294967295
    ·have bV:=I (kv.1.trans (x0 16 4294967295 a _ _ eZ.1 hov));have lj:=I (show 0≤a*16+(L-87)by omega);have o0:a*16+(L-87)≤4294967295:=hov;exact JF
    ·have bV:=I (kv.1.trans (x1 16 4294967295 a _ _ eZ.1 hov));have o0:4294967295<a*16+(L-87):=by omega
     exact xP):P:=h
theorem Sg(h:P:=by
 rcases Int.lt_or_le L 97 with hm|hm
 ·refine zX ?_;exact Kj
 ·rcases Int.lt_or_le 122 L with aq|aq
  ·refine zX ?_;exact Kj
  ·rcases Int.lt_or_le 102 L with aA|aA
   ·refine Kh ?_;exact Kj
   ·refine Ki ?_;intro eZ;by_cases hov:a*16+(L-87)≤65535
    ·have bV:=I (kv.1.trans (x0 16 65535 a _ _ eZ.1 hov));have lj:=I (show 0≤a*16+(L-87)by omega);have o0:a*16+(L-87)≤65535:=hov;exact JF
    ·have bV:=I (kv.1.trans (x1 16 65535 a _ _ eZ.1 hov));have o0:65535<a*16+(L-87):=by omega
     exact xP):P:=h
theorem Sh(h:P:=by
 rcases Int.lt_or_le L 97 with hm|hm
 ·refine zX ?_;exact Kk
 ·rcases Int.lt_or_le 122 L with aq|aq
  ·refine zX ?_;exact Kk
  ·rcases Int.lt_or_le 102 L with aA|aA
   ·refine Kh ?_;exact Kk
   ·refine Ki ?_;intro eZ;by_cases hov:a*16+(L-87)≤255
    ·have bV:=I (kv.1.trans (x0 16 255 a _ _ eZ.1 hov));have lj:=I (show 0≤a*16+(L-87)by omega);have o0:a*16+(L-87)≤255:=hov;exact JF
    ·have bV:=I (kv.1.trans (x1 16 255 a _ _ eZ.1 hov));have o0:255<a*16+(L-87):=by omega
     exact xP):P:=h
theorem Qu(h:P:=by
 refine bodyPost_ret (v:=.tuple #[eA,.iface dI dQ]) (by simp[results,Tryz.results59,go_sem,eA,bW,b0,b2,b3,b5,b7,bZ,b1,Z2,b4,b6,b8]) rfl ⟨fun _=>⟨_,_,rfl,c6.gg (av.1.1.d.here.below bM.1) ⟨_,bj.1⟩ Fq Fq (Nat.le_refl _) _ _ _ _ _ _⟩,fun br gd h0 h1=>absurd h1 (fZ.1 br gd h0)⟩):P:=h
theorem Si(h:P:=by
 refine x2 ?_;intro f0 ln;refine zY ?_;intro lp lq lr lu lv;exact FI):P:=h
theorem Sj(h:P:=by
 refine x2 ?_;intro f0 ln;refine zY ?_;intro lp lq lr lu lv;exact Cs):P:=h
theorem Sk(h:P:=by
 refine jB ?_;clear H;rintro⟨⟨t0,t2⟩,ao,H⟩
 try dsimp only at H
 have bd:=I ao;clear ao;refine jC ?_;clear H;rintro⟨rfl,rfl⟩
 go_wp2_with(first|(refine Sl ?_;clear aV a7 bE;intro w1 hi U ad aV a7 bE))
 repeat(go_quiet(fail);try go_wp2_with(first|(refine Sl ?_;clear aV a7 bE;intro w1 hi U ad aV a7 bE)))
 exact zN):P:=h
theorem CG(h:P:=by
 refine jC ?_;clear H;intro H;exact aaE):P:=h
theorem Sm(h:P:=by
 refine jC ?_;clear H;rintro⟨rfl,rfl,rfl,rfl⟩;exact Qk):P:=h
theorem Sn(h:P:=by
 refine jC ?_;clear H;rintro⟨rfl,rfl⟩;refine j1 ?_;intro jk jl jm jn iA jo jq jr js jt ju jv;go_enter Tryz.func13,Tryz.ntmps13;go_wp2;exact zN):P:=h
theorem So(h:P:=by
 refine jC ?_;clear H;rintro⟨rfl,rfl⟩;refine j1 ?_;intro jk jl jm jn iA jo jq jr js jt ju jv;go_enter Tryz.func16,Tryz.ntmps16;go_wp2;exact zN):P:=h
theorem F1(h:P:=by
 refine r2 ?_;clear h;intro h;exact⟨0,h.2.symm⟩):P:=h
theorem Kl(h:P:=by
 refine r2 ?_;clear h;intro h;rw[←h.2];exact Nat.le_refl _):P:=h
theorem Sp(h:P:=by
 refine Km ?_;intro a0 cg a2 a3;have a4:(yM==65533)=true:=beq_iff_eq.mpr h3;exact Cn):P:=h
theorem zZ(h:P:=by
 refine mz ?_;clear H;intro H;exact nc):P:=h
theorem Sq(h:P:=by
 revert H;refine eo ?_ ?_<;>intro nH H
 ·exact qW
 ·exact qW):P:=h
theorem Sr(h:P:=by
 revert H;refine eo ?_ ?_<;>intro gq H
 ·exact sd
 ·exact sd):P:=h
theorem Ss(h:P:=by
 revert H;refine eo ?_ ?_<;>intro je H
 ·exact s4
 ·exact s4):P:=h
theorem RF(h:P:=by
 rintro v0 w1 ⟨mA,mB⟩;have J:=I mA;have fA:=I mB;clear mA mB;refine aH.out _ _ trivial (fun hHeld=>?_);clear aH K;refine ik ?_;refine ax 12 4 ?_;refine ax 13 7 ?_;refine jX aM ?_;exact dE _ _ (Met.intro (dD _ _ (l8.mk (n:=n-k) (m:=m+k) (A:=bd) (c:=c3) (v7:=v0) (t:=t.drop k) aM rfl rfl rfl rfl rfl rfl (by have:=tM.1;omega) (av.1.next k fA.1 ky.1 (.inr J.1) fp.1 tM.1.2 (Nat.le_refl _)))))):P:=h
theorem Re(h:P:=by
 rw[cr.1]at h;obtain⟨rfl,rfl⟩:er=cY∧r=gd:=by simpa using h
 have dd:=dS.1.1;rw[←dd];exact⟨f.gX,f.ci,str,_,(by rw[s6.1]),x3.1,c6.gg dO.1 ⟨_,bj.1⟩ cA cA (Nat.le_refl _) _ _ _ _ _ _⟩):P:=h
theorem St(h:P:=by
 split
 ·exact J2
 ·rename_i r e
  rw[e]at h2;exact absurd h2 (by simp[a8])
 ·rfl):P:=h
theorem Su(h:P:=by
 subst hA0;clear h eu aG hi kd p8 bO qY jz ad hU iL
 conv=>arg 2;whnf
 go_upto_region 11 with(first|(refine wv ?_;intro w1 az aC;clear az)|(refine Sv ?_;rintro bk w1 ⟨rfl,⟨iX,rfl⟩⟩;rw[←dx.1]))
 exact aaG):P:=h
theorem Sw(h:P:=by
 subst hA0;clear h eu aG hi kd p8 bO qY jz ad hU iL
 conv=>arg 2;whnf
 go_upto_region 11 with(first|(refine wv ?_;intro w1 az aC;clear az)|(refine Sv ?_;rintro bk w1 ⟨rfl,⟨iX,rfl⟩⟩;rw[←dx.1]))
 exact aaF):P:=h
theorem Sx(h:P:=by
 unfold kP at h;split at h
 ·cases h
 ·refine r2 ?_;clear h;intro h;rw[h.2];exact Nat.le_refl _):P:=h
theorem R8(h:P:=by
 have bV:=I (kv.1.trans (CH 8 255 a _ _ eZ.1));exact qs):P:=h
theorem QV(h:P:=by
 have eK:decide (x≤70)=false:=decide_eq_false (by omega);exact JM):P:=h
theorem Kg(h:P:=by
 intro eZ;refine Sy ?_;intro bV;exact qs):P:=h
theorem Kj(h:P:=by
 intro eZ;refine Sz ?_;intro bV;exact qs):P:=h
theorem Kk(h:P:=by
 intro eZ;refine SA ?_;intro bV;exact qs):P:=h
variable (k:Q)
include k
theorem CI(h:aI Q→P:=by
 intro ag
 (first|rw[ho]|(simp only[jj,oV];rw[ho])|skip)
 exact ag.1):P:=h ⟨k⟩
theorem va(h:aI Q→P:=by
 intro ag
 (first|rw[ho]|(simp only[jj,oV];rw[ho])|skip)
 have aK:=I H;revert aK;exact ag.1):P:=h ⟨k⟩
theorem p9(h:aI Q→P:=by
 intro ag
 (first|rw[hy]|(simp only[jj,oV];rw[hy])|skip)
 exact ag.1):P:=h ⟨k⟩
theorem r3(h:aI Q→P:=by
 intro ag
 (first|rw[gq]|(simp only[jj,oV];rw[gq])|skip)
 exact ag.1):P:=h ⟨k⟩
theorem x4(h:aI Q→P:=by
 intro ag
 (with_reducible repeat(first|apply cu.drewN|apply cu.drew))
 exact ag.1):P:=h ⟨k⟩
theorem tX(h:aI Q→P:=by
 intro ag;go_enter Tryz.func29,Tryz.ntmps29;exact ag.1):P:=h ⟨k⟩
theorem SB(h:aI Q→P:=by
 intro ag;refine aH.out _ _ ⟨(bg (cn bz.1 aC.1) 0).trans rfl,(bg (cn bz.1 aC.1) 1).trans rfl,(bg (cn bz.1 aC.1) 2).trans rfl,(bg (cn bz.1 aC.1) 3).trans rfl,(bg (cn bz.1 aC.1) 4).trans rfl,(bg (cn bz.1 aC.1) 5).trans rfl⟩ (fun hHeld=>?_);refine ik ?_;refine eb 2 6 ?_;revert hHeld;exact ag.1):P:=h ⟨k⟩
theorem Kn(h:aI Q→P:=by
 intro ag;refine aH.out _ _ ⟨(bg (cn bz.1 bM.1) 0).trans rfl,(bg (cn bz.1 bM.1) 1).trans rfl,(bg (cn bz.1 bM.1) 2).trans rfl,(bg (cn bz.1 bM.1) 3).trans rfl,(bg (cn bz.1 bM.1) 4).trans rfl,(bg (cn bz.1 bM.1) 5).trans rfl⟩ (fun hHeld=>?_);refine ik ?_;revert hHeld;exact ag.1):P:=h ⟨k⟩
theorem F2(h:aI Q→P:=by
 intro ag;refine aH.out _ _ ⟨(bg (cn bz.1 eP.1) 0).trans rfl,(bg (cn bz.1 eP.1) 1).trans rfl,(bg (cn bz.1 eP.1) 2).trans rfl,(bg (cn bz.1 eP.1) 3).trans rfl,(bg (cn bz.1 eP.1) 4).trans rfl,(bg (cn bz.1 eP.1) 5).trans rfl⟩ (fun hHeld=>?_);refine ik ?_;refine ax 7 11 ?_;revert hHeld;exact ag.1):P:=h ⟨k⟩
theorem wx(h:aI Q→P:=by
 intro ag;have gw:=I hm;have bn:=eq_true (show(0:Int)<(m1:Int)by omega);have c8:=eq_true hm;revert gw bn c8;exact ag.1):P:=h ⟨k⟩
theorem F3(h:aI Q→P:=by
 intro ag;have nI:(x==48)=true:=beq_iff_eq.mpr h48;have dj:=I (show s=48::s.drop 1 by rw[←h48];exact jb.1);have pE:=I rU;obtain⟨di,ek,aD,w1⟩:=bU.1.cell 1 rU;simp only[Option.some.injEq,Addr.mk.injEq,and_true]at aD;replace aD:=aD;revert nI dj pE di ek w1 aD;exact ag.1):P:=h ⟨k⟩
theorem Sv(h:aI Q→P:=by
 intro ag
 go_at_call 101
 refine(SC (dP.1.below aC.1) kz.1 z1.1).mono ?_;exact ag.1):P:=h ⟨k⟩
theorem F4(h:aI Q→P:=by
 intro ag
 go_at_call 103
 refine(aaI _ dS.1 (dq av.1.bu av.1.bu.size (bw aC.1 (Nat.le_refl _) cX)) av.1.E).mono ?_;exact ag.1):P:=h ⟨k⟩
theorem SD(h:aI Q→P:=by
 intro ag
 go_at_call 110
 (with_reducible refine(nf.calls ig g bY (wrap64 ((cH)+1)) eL cQ 4 t0 t2 t3 t4 w0 _ ?side1 ?side2 bd.1).mono ?_);(case side1=>exact dU);(case side2=>exact dT)
 rintro e F5 ⟨v2,rfl,bK,hi,U,ad⟩;revert F5 v2 bK hi U ad;exact ag.1):P:=h ⟨k⟩
theorem SE(h:aI Q→P:=by
 intro ag
 go_at_call 110
 (with_reducible refine(nf.calls ig g bY (wrap64 ((cH)+1)) eL cQ 8 t0 t2 t3 t4 w0 _ ?side1 ?side2 bd.1).mono ?_);(case side1=>exact dU);(case side2=>exact dT)
 rintro e w1 ⟨v2,rfl,bK,hi,U,ad⟩;revert w1 v2 bK hi U ad;exact ag.1):P:=h ⟨k⟩
theorem SF(h:aI Q→P:=by
 intro ag
 go_at_call 13
 (with_reducible refine(nJ.calls g bY t4 t5 cQ t6 t7 w0 _ ?side1 ?side2 kc.1).mono ?_);(case side1=>exact dU);(case side2=>exact dT)
 rintro e w1 ⟨rfl,hi,U,ad⟩;revert w1 hi U ad;exact ag.1):P:=h ⟨k⟩
theorem Sl(h:aI Q→P:=by
 intro ag
 go_at_call 13
 (with_reducible refine(nJ.calls g bY bm b9 cQ t0 t2 w0 _ ?side1 ?side2 bd.1).mono ?_);(case side1=>exact dU);(case side2=>exact dT)
 rintro e w1 ⟨rfl,hi,U,ad⟩;refine vb ?_;intro aV a7 bE;revert w1 hi U ad aV a7 bE;exact ag.1):P:=h ⟨k⟩
theorem SG(h:aI Q→P:=by
 intro ag
 go_at_call 14
 (with_reducible refine(wy.calls g bY b9 cm cQ false t2 t3 w0 _ ?side1 ?side2 bd.1).mono ?_);(case side1=>exact dU);(case side2=>exact dT)
 exact ag.1):P:=h ⟨k⟩
theorem CJ(h:aI Q→P:=by
 intro ag
 go_at_call 14
 (with_reducible refine(wy.calls g bY b9 cm cQ true t2 t3 w0 _ ?side1 ?side2 bd.1).mono ?_);(case side1=>exact dU);(case side2=>exact dT)
 exact ag.1):P:=h ⟨k⟩
theorem CK(h:aI Q→P:=by
 intro ag
 go_at_call 14
 refine(na dG.1).mono ?_;exact ag.1):P:=h ⟨k⟩
theorem F6(h:aI Q→P:=by
 intro ag
 go_at_call 14
 refine(na dG.1).mono ?_;rintro bk w1 ⟨rfl,cq⟩;have bS:=I cq;obtain⟨ao,c3,bd,ck,aT,bh,bA,y3,z0,cp,z2,bP⟩:=cq.fL;clear cq;revert w1 bS ao c3 bd ck aT bh bA y3 z0 cp z2 bP;exact ag.1):P:=h ⟨k⟩
theorem CL(h:aI Q→P:=by
 intro ag
 go_at_call 15
 (with_reducible refine(fu.calls cY g bY t2 t3 cQ t4 t5 w0 _ ?side1 ?side2 cZ.1).mono ?_);(case side1=>exact dU);(case side2=>exact dT)
 rintro e bf ⟨rfl,hi,U,ad⟩;have gn:=I (ab.mn (ab.tC (cj.apart (show cj w0 _ g bY t2 t3 cQ from by repeat(first|(with_reducible first|exact bE.1|apply cj.alloc|apply cj.drewN|apply cj.drew|apply cj.xI|apply cj.B0)|exact bE.1)) B5 (by decide)) ad (fun _ h=>h.2)) (fun _ h=>h.1));refine vb ?_;intro aV a7 bE;obtain⟨om,oo,oq,ot,x5,aaJ,lx,ou⟩:=bE.1;have ov:=CM x5;have ow:=CN x5;have ox:=CO x5;have oy:=CP x5;have oz:=fy x5 1;have oA:=fy x5 2;clear x5 aaJ;revert bf hi U ad gn aV a7 bE om oo oq ot lx ou ov ow ox oy oz oA;exact ag.1):P:=h ⟨k⟩
theorem SH(h:aI Q→P:=by
 intro ag
 go_at_call 16
 (with_reducible refine(k4.calls g bY t4 t5 cQ t6 t7 w0 _ ?side1 ?side2 kc.1).mono ?_);(case side1=>exact dU);(case side2=>exact dT)
 rintro e w3 ⟨rfl,hi,U,ad⟩;revert w3 hi U ad;exact ag.1):P:=h ⟨k⟩
theorem Ko(h:aI Q→P:=by
 intro ag
 go_at_call 32
 refine(SI.1 _).mono ?_;rintro bk F7 ⟨rfl,eV⟩;have x6:=I (bw aaK.1 (Nat.le_refl _) eV);have CQ:=I (cn aaL.1 eV);have z6:=I (cn SJ.1 eV);have CR:=I (cn aaM.1 eV);clear eV;obtain⟨r4,r5,tY,tZ,ua,ub⟩:=kZ z6.1;revert F7 x6 CQ z6 CR r4 r5 tY tZ ua ub;exact ag.1):P:=h ⟨k⟩
theorem z7(h:aI Q→P:=by
 intro ag
 go_at_call 37
 refine(uX (a6 (B.drop q) 0) _).mono ?_;exact ag.1):P:=h ⟨k⟩
theorem vc(h:aI Q→P:=by
 intro ag
 go_at_call 37
 refine(uX c _).mono ?_;exact ag.1):P:=h ⟨k⟩
theorem z8(h:aI Q→P:=by
 intro ag
 go_at_call 38
 (with_reducible refine(qa.calls g bY t2 t3 cQ 0 t4 t5 t6 w0 _ ?side1 ?side2 bF.1).mono ?_);(case side1=>exact dU);(case side2=>exact dT)
 rintro e bf ⟨rfl,hi,U,ad⟩;refine vb ?_;intro aV a7 bE;revert bf hi U ad aV a7 bE;exact ag.1):P:=h ⟨k⟩
theorem vd(h:aI Q→P:=by
 intro ag
 go_at_call 38
 (with_reducible refine(qa.calls g bY cm fE cQ 0 t0 t2 t3 w0 _ ?side1 ?side2 bd.1).mono ?_);(case side1=>exact dU);(case side2=>exact dT)
 rintro e w1 ⟨rfl,hi,U,ad⟩;refine vb ?_;intro aV a7 bE;revert w1 hi U ad aV a7 bE;exact ag.1):P:=h ⟨k⟩
theorem ng(h:aI Q→P:=by
 intro ag
 go_at_call 38
 (with_reducible refine(qa.calls g bY fw j2 cQ 0 t0 t2 t3 w0 _ ?side1 ?side2 bd.1).mono ?_);(case side1=>exact dU);(case side2=>exact dT)
 rintro e w1 ⟨rfl,hi,U,ad⟩;refine vb ?_;intro aV a7 bE;revert w1 hi U ad aV a7 bE;exact ag.1):P:=h ⟨k⟩
theorem Kp(h:aI Q→P:=by
 intro ag
 go_at_call 39
 (with_reducible refine(ks.calls (bB a0 fE) t0 _ bd.1).mono ?_)
 exact ag.1):P:=h ⟨k⟩
theorem Aa(h:aI Q→P:=by
 intro ag
 go_at_call 39
 refine(xN (a6 (B.drop q) 0) _).mono ?_;exact ag.1):P:=h ⟨k⟩
theorem F8(h:aI Q→P:=by
 intro ag
 go_at_call 4
 refine(gP.1 _ (Below.refl _ _)).mono ?_;rintro bk w0 ⟨rfl,s7⟩;have aC:=I (bw (Below.refl _ _) (Nat.le_refl _) s7.below);clear s7;revert w0 aC;exact ag.1):P:=h ⟨k⟩
theorem SK(h:aI Q→P:=by
 intro ag
 go_at_call 43
 refine(Ab (av.1.d.below (dq av.1.b av.1.b.size aC.1)) k Kq.1.1).mono ?_;rintro bk w1 ⟨rfl,h0⟩;rw[Kq.1.2]at h0;have dW:=I (c6.after (cI.kn (dq av.1.b av.1.b.size aC.1) aJ none) h0);obtain⟨str,dd,hq⟩:=uc.text (av.1.o.below aC.1) l5.1 h0.k (dK.bu h0.d);have dS:=I dd;clear dd;have iB:=hq w1 (Below.refl _ _);clear h0 hq;revert w1 dW str dS iB;exact ag.1):P:=h ⟨k⟩
theorem iK(h:aI Q→P:=by
 intro ag;refine SL ?_;intro w1 cE bT h0;refine Kr ?_;intro du eG eH cB c5;clear h0;replace cB:=cB;replace c5:=c5;revert w1 cE bT du eG eH cB c5;exact ag.1):P:=h ⟨k⟩
theorem q0(h:aI Q→P:=by
 intro ag;refine SL ?_;intro w1 cE bT h0;obtain⟨du,ud⟩:=bT.1.d;have c5:=ud.c5;rw[←fv.1]at c5;clear ud;clear h0;replace c5:=c5;revert w1 cE bT du c5;exact ag.1):P:=h ⟨k⟩
theorem r6(h:aI Q→P:=by
 intro ag
 go_at_call 45
 refine(aaN bT.1.d nh.1 PK dW.1 et.1 gE.1 fk.1).mono ?_;rintro bk w1 hp;revert bk w1 hp;exact ag.1):P:=h ⟨k⟩
theorem Ke(h:aI Q→P:=by
 intro ag
 go_at_call 46
 refine(aaO bT.1.d _ F9.1).mono ?_;rintro bk w1 ⟨rfl,h0⟩;have s8:=I (h0.k _ _ _ cE.1 (by decide) cA);have iw:=I (ey.after bT.1 h0);have cE:=I s8.1;have bT:=I iw.1;clear s8 iw h0;revert w1 cE bT;exact ag.1):P:=h ⟨k⟩
theorem CD(h:aI Q→P:=by
 intro ag
 go_at_call 47
 refine(aaP bT.1.d nh.1 et.1 gE.1 fk.1 PK).mono ?_;rintro bk w1 hp;revert bk w1 hp;exact ag.1):P:=h ⟨k⟩
theorem ve(h:aI Q→P:=by
 intro ag;refine SM ?_;intro w1 h0 cE bT;obtain⟨du,ud⟩:=bT.1.d;have c5:=ud.c5;rw[←fv.1]at c5;clear ud;clear h0;replace c5:=c5;revert w1 cE bT du c5;exact ag.1):P:=h ⟨k⟩
theorem kA(h:aI Q→P:=by
 intro ag;refine SM ?_;intro w1 h0 cE bT;refine Kr ?_;intro du eG eH cB c5;clear h0;replace cB:=cB;replace c5:=c5;revert w1 cE bT du eG eH cB c5;exact ag.1):P:=h ⟨k⟩
theorem CS(h:aI Q→P:=by
 intro ag
 go_at_call 49
 refine(aaQ bT.1.d ix.1).mono ?_;rintro bk w1 ⟨rfl,h0⟩;have s8:=I (h0.k.ft cE.1 cA (by simp));have iw:=I (c6.after bT.1.k h0);have cE:=I s8.1;have bT:=I iw.1;clear s8 iw h0;revert w1 cE bT;exact ag.1):P:=h ⟨k⟩
theorem Ks(h:aI Q→P:=by
 intro ag
 go_at_call 5
 refine(nB.1 _ aC.1).mono ?_;rintro bk w1 ⟨rfl,s7⟩;have bM:=I (bw aC.1 (Nat.le_refl _) s7.below);clear s7;revert w1 bM;exact ag.1):P:=h ⟨k⟩
theorem s9(h:aI Q→P:=by
 intro ag
 go_at_call 50
 refine(aaR _).mono ?_;rintro bk w1 ⟨r7,rfl,hm,az⟩;have qJ:=aaS hm jL.1;have s8:=I (cn cE.1 az);have iw:=I (bT.1.below az);have cE:=I s8.1;have bT:=I iw.1;clear s8 iw;refine Kr ?_;intro du eG eH cB c5;clear az;replace cB:=cB;replace c5:=c5;revert w1 r7 hm qJ cE bT du eG eH cB c5;exact ag.1):P:=h ⟨k⟩
theorem rZ(h:aI Q→P:=by
 intro ag
 go_at_call 51
 refine(FD _ _ _ (by decide) _).mono ?_;exact ag.1):P:=h ⟨k⟩
theorem SN(h:aI Q→P:=by
 intro ag
 go_at_call 52
 (with_reducible refine(cz.calls ig g bY (wrap64 (t4+1)) t5 cQ _ _ bm t6 t7 w0 _ ?side1 ?side2 ?side3 ?side4 ?side5 ao.1).mono ?_);(case side1=>exact dU);(case side2=>exact dT);(case side3=>exact ZN);(case side4=>exact(ab.pt gn.1).2.1);(case side5=>exact YE (cj.vM bE.1 gn.1 (by decide)))
 rintro e w1 ⟨rfl,hi,U,ad⟩;have gn:=I (ab.mn (ab.tC (cj.apart (show cj w0 _ g bY (wrap64 (t4+1)) t5 cQ from by repeat(first|(with_reducible first|exact bE.1|apply cj.alloc|apply cj.drewN|apply cj.drew|apply cj.xI|apply cj.B0)|exact bE.1)) ZO (by decide)) ad (fun _ h=>h.2)) (fun _ h=>h.1));refine vb ?_;intro aV a7 bE;refine Ga ?_;intro iB;revert w1 hi U ad gn aV a7 bE iB;exact ag.1):P:=h ⟨k⟩
theorem SO(h:aI Q→P:=by
 intro ag
 go_at_call 56
 refine(Gb bl.1 (dq av.1.d.bu av.1.d.bu.size l7.1) Gc.1 (by have:=lM.1;have:=eX.1;omega) 0 (Nat.zero_le _)).mono ?_;exact ag.1):P:=h ⟨k⟩
theorem SP(h:aI Q→P:=by
 intro ag
 go_at_call 61
 refine(Kt (r8.1.below (jI (Below.refl _ _) dh)) fh.1.2 zG).mono ?_;rintro bk bf ⟨rfl,az⟩;rw[dz.1];have aC:=I (bw (jI (Below.refl cJ.heap.size cJ) dh) (Nat.le_refl _) az);clear az;revert bf aC;exact ag.1):P:=h ⟨k⟩
theorem Ku(h:aI Q→P:=by
 intro ag
 go_at_call 61
 refine(Kt bU.1 fh.1.2 pB).mono ?_;rintro bk w1 ⟨rfl,az⟩;rw[dz.1];have aC:=I az;revert w1 az aC;exact ag.1):P:=h ⟨k⟩
theorem Kv(h:aI Q→P:=by
 intro ag
 go_at_call 70
 (with_reducible refine(fQ.calls cd (rd bY t2) t5 _ cZ.1).mono ?_)
 exact ag.1):P:=h ⟨k⟩
theorem vf(h:aI Q→P:=by
 intro ag
 go_at_call 70
 (with_reducible refine(fQ.calls cd t0 t4 _ bF.1).mono ?_)
 exact ag.1):P:=h ⟨k⟩
theorem vg(h:aI Q→P:=by
 intro ag
 go_at_call 70
 (with_reducible refine(fQ.calls cY t0 t4 _ bF.1).mono ?_)
 exact ag.1):P:=h ⟨k⟩
theorem Ac(h:aI Q→P:=by
 intro ag
 go_at_call 73
 refine(Cm.1 str _ Gd.1).mono ?_;exact ag.1):P:=h ⟨k⟩
theorem Kw(h:aI Q→P:=by
 intro ag
 go_at_call 80
 refine(Kx (av.1.d.below (dq av.1.b av.1.b.size cX)) _ _ _ 3 lM.1 (by decide)).mono ?_;rintro bk w1 ⟨⟨dI,dQ,rfl⟩,az⟩;have aC:=I (bw (dq av.1.b av.1.b.size cX) (Nat.le_refl _) az);have bj:=I (cn (cn av.1.x cX) az);obtain⟨bW,bZ,b0,b1,b2,Z2,b3,b4,b5,b6,b7,b8⟩:=gO bj.1;clear az;revert w1 dI dQ aC bj bW bZ b0 b1 b2 Z2 b3 b4 b5 b6 b7 b8;exact ag.1):P:=h ⟨k⟩
theorem Ge(h:aI Q→P:=by
 intro ag
 go_at_call 85
 refine(aaT gE.1 cW.1 _ _ _ bM.1 dn.1).mono ?_;rintro bk bf ⟨bn,rfl,az⟩;have aC:=I az;clear az;revert bf bn aC;exact ag.1):P:=h ⟨k⟩
theorem FZ(h:aI Q→P:=by
 intro ag
 go_at_call 86
 refine(Ky (bl.1.below fA.1.1) (Utf8Tabs_below et.1 fA.1.1) kz.1 Z7 Z5).mono ?_;rintro bk w1 ⟨rfl,az⟩;rw[←hI.1,←ct.1];have aC:=I (az.block);have bM:=I (dq fA.1.1 fA.1.1.size az);clear az;revert w1 aC bM;exact ag.1):P:=h ⟨k⟩
theorem wv(h:aI Q→P:=by
 intro ag
 go_at_call 86
 refine(Ky bl.1 gx.1 fq.1 bV.1 dY.1).mono ?_;rintro bk w1 ⟨rfl,az⟩;rw[dO.1,fP.1];have aC:=I az;revert w1 az aC;exact ag.1):P:=h ⟨k⟩
theorem Gf(h:aI Q→P:=by
 intro ag;have dL:=dO;have c1:=(bg ly 0).trans rfl;obtain⟨f,aA⟩:=dL.1.d;have c5:=aA.c5;have ke:=aA.gm.below aA.bu;obtain⟨bt,bR,hA0,al⟩:=ke.cell 0 Fw;rw[Nat.add_zero,show rd s ((0:Nat):Int)=x by rw[ak];rfl]at al;rw[hA0]at c5;obtain⟨n,aq⟩:∃n,n=s.length:=⟨_,rfl⟩;rw[←aq]at c5;have r8:=I (show dZ cJ (some ⟨bt,bR,none⟩) n f.ci s by rw[aq,←hA0];exact ke);have dV:0<n:=by rw[aq,ak];simp
 have m0:=eq_true (show(0:Int)<(n:Int)by omega);have m1:=eq_true dV;have lj:=I (And.intro aq hA0);clear ke aA hA0 aq dV;replace al:=al;replace c5:=c5;revert dL c1 f bt bR n r8 m0 m1 lj al c5;exact ag.1):P:=h ⟨k⟩
theorem Gg(h:aI Q→P:=by
 intro ag;have ya:=(bg iZ.1 0).trans rfl;have yb:=fy iZ.1 0;have qb:=(bg bj.1 0).trans rfl;revert ya yb qb;exact ag.1):P:=h ⟨k⟩
theorem vh(h:aI Q→P:=by
 intro ag;have aK:=I H;have p0:0≤(0:Int):=(by omega);have a1:0<a0.size:=ZT;have aW:∀h:0<a0.size,((a0[0]'h).toNat:Int)=bB a0 0:=nx a0 0;clear p0;have r9:(0<(a0.size:Int))=True:=eq_true (of_decide_eq_true fK);replace a1:=eq_true a1;revert aK aW r9 a1;exact ag.1):P:=h ⟨k⟩
theorem kf(h:aI Q→P:=by
 intro ag;have dW:=H;rw[if_neg (show¬(false=true)by decide)]at dW;have H:=dW;clear dW;revert H;exact ag.1):P:=h ⟨k⟩
theorem mz(h:aI Q→P:=by
 intro ag;have dW:=H;rw[if_pos rfl]at dW;have H:=dW;clear dW;revert H;exact ag.1):P:=h ⟨k⟩
theorem SQ(h:aI Q→P:=by
 intro ag;have lj:=I (aaU.1.below aC.1);have oB:=I (lj.1.below jM);have bl:=I (oB.1.gm.below oB.1.bu);have im:=I (cn (cn bz.1 aC.1) jM);have bM:=I jM;have cd:=oB.1.c4;have cY:=oB.1.c5;have fG:=(bg eD 0).trans rfl;have hx:=(bg eD 1).trans rfl;have cM:=(bg eD 2).trans rfl;have nE:=(bg eD 3).trans rfl;obtain⟨iC,sa⟩:∃iC,iC=w1.heap.size:=⟨_,rfl⟩;have eD:=eD;rw[←sa]at eD fG hx cM nE⊢;have dY:=I eD;have nK:g<cJ.heap.size:=oB.1.lt;have cR:iC<cJ.heap.size:=sv eD;have iz:=eq_false (show¬cJ.heap.size=g by omega);have xX:=eq_false (show¬g=cJ.heap.size by omega);have qU:=eq_false (show¬cJ.heap.size=iC by omega);have xY:=eq_false (show¬iC=cJ.heap.size by omega);clear eD sa;replace fG:=fG;replace hx:=hx;replace cM:=cM;replace nE:=nE;revert lj oB bl im bM cd cY iC dY nK cR iz xX qU xY fG hx cM nE;exact ag.1):P:=h ⟨k⟩
theorem Kz(h:aI Q→P:=by
 intro ag;have aC:=I (bw bM.1 (Nat.le_refl _) (bw (w:=bf) cX (Nat.le_refl _) az));revert aC;exact ag.1):P:=h ⟨k⟩
theorem yc(h:aI Q→P:=by
 intro ag;have bM:=I (bw aC.1 (Nat.le_refl _) (bw (w:=w1) cX (Nat.le_refl _) az));revert bM;exact ag.1):P:=h ⟨k⟩
theorem SR(h:aI Q→P:=by
 intro ag;have bM:=I (dq (Below.drew (Below.refl ay.heap.size ay)) (Below.drew (Below.refl ay.heap.size ay)).size az);have ec:=(bg (cn dY.1 bM.1) 0).trans rfl;have eE:=(bg (cn dY.1 bM.1) 1).trans rfl;have iY:=(bg (cn dY.1 bM.1) 2).trans rfl;have jD:=(bg (cn hT.1 bM.1) 0).trans rfl;refine aH.out _ _ ⟨(bg (cn dY.1 bM.1) 0).trans rfl,(bg (cn dY.1 bM.1) 1).trans rfl,(bg (cn dY.1 bM.1) 2).trans rfl,(bg (cn dY.1 bM.1) 3).trans rfl,(bg (cn hT.1 bM.1) 0).trans rfl,(oC.1.below bM.1).c5⟩ (fun hHeld=>?_);refine ik ?_;refine ax 6 6 ?_;refine jX aM ?_;refine KA ?_;have bW:=I (yd.1.below bM.1);have ye:=I (cn hT.1 bM.1);have CT:=I (cn ue.1 bM.1);have CU:=I (cn Ad.1 bM.1);have oi:=I (cn dY.1 bM.1);revert bM ec eE iY jD hHeld bW ye CT CU oi;exact ag.1):P:=h ⟨k⟩
theorem Ae(h:aI Q→P:=by
 intro ag;have cf:=I h;refine CV ?_;intro bS;have cb:=h.len;have bG:=h.bytes;have fh:=I (And.intro cb bG);refine SS ?_;intro ni aW fH cv iu;have eK:=gV ((w.alloc (.cells #[.pointer (some ⟨g,0,none⟩)] 38)).alloc (.cells #[.int .u8 0,.int .u8 0,.int .u8 0,.int .i64 0,.slice none 0 0,.string ⟨#[]⟩] 47)) (.cells #[.nilIface] 49);have az:=da (da ni (.cells #[.int .u8 0,.int .u8 0,.int .u8 0,.int .i64 0,.slice none 0 0,.string ⟨#[]⟩] 47)) (.cells #[.nilIface] 49);rw[fH]at cv;rw[iu]at eK;have kR:=iU cv (.cells #[.nilIface] 49);have ly:=iU (iU aW (.cells #[.int .u8 0,.int .u8 0,.int .u8 0,.int .i64 0,.slice none 0 0,.string ⟨#[]⟩] 47)) (.cells #[.nilIface] 49);replace cv:=cv;replace eK:=eK;revert cf bS cb bG fh ni aW fH iu az kR ly cv eK;exact ag.1):P:=h ⟨k⟩
theorem Gh(h:aI Q→P:=by
 intro ag;have cf:=I h;have bS:=I (And.intro h.lt h.ge);have cb:=h.len;have bG:=h.bytes;refine SU ?_;intro dL bz;obtain⟨f,aA⟩:=dL.1.d;have c5:=aA.c5;revert cf bS cb bG dL bz f aA c5;exact ag.1):P:=h ⟨k⟩
theorem Af(h:aI Q→P:=by
 intro ag;have cf:=I h;have ej:=I ak;refine CV ?_;intro bS;refine SU ?_;intro dL bz;obtain⟨nl,ev⟩:∃nl,nl=s.length:=⟨_,rfl⟩;have fv:=I ev;revert cf ej bS dL bz nl ev fv;exact ag.1):P:=h ⟨k⟩
theorem aaV(h:aI Q→P:=by
 intro ag;have dO:=I (ah (x:=92) (t1:=y::t2) (by decide) (by decide)).1;have fP:=I (ah (x:=92) (t1:=y::t2) (by decide) (by decide)).2;revert dO fP;exact ag.1):P:=h ⟨k⟩
theorem Ag(h:aI Q→P:=by
 intro ag;have dO:=I (h.here.below az);have bz:=I ly;have im:=I kR;have kB:=I eK;revert dO bz im kB;exact ag.1):P:=h ⟨k⟩
theorem Gi(h:aI Q→P:=by
 intro ag;have fP:=I (show(((ha t).2:Nat):Int)=(z:Int)by rw[aG]);have kd:=KB t eu;rw[aG]at kd;have p8:=h.v.dN;obtain⟨ao,c2,bs,bO⟩:=h.v.from_ z (by omega);have dP:=I (bO.below h.bu);have kz:=I (show∀x∈t.drop z,0≤x∧x<256 from fun x ae=>fq.1 x (List.mem_of_mem_drop ae));have z1:=I (show n-z≤100000 by have:=bV.1;omega);obtain⟨i,qY⟩:∃i,i=uf (t.drop z):=⟨_,rfl⟩;have dx:=I qY;have jz:=SV (t.drop z);rw[←qY,List.length_drop]at jz;obtain⟨k,ad⟩:∃k,k=z+i:=⟨_,rfl⟩;have yf:wrap64 ((z:Int)+(i:Int))=(k:Int):=by have:=bV.1;unfold wrap64;omega
 obtain⟨bd,c3,hn,hU⟩:=h.v.from_ k (by omega);obtain⟨oD,iL⟩:=h.v.pI k (by omega);have ky:=I hU;have o4:=I iL;have tM:=I (show 0<k∧k≤n by omega);replace kd:=kd;replace jz:=jz;revert fP p8 ao c2 bs bO dP kz z1 i qY dx k ad yf bd c3 hn hU oD iL ky o4 tM kd jz;exact ag.1):P:=h ⟨k⟩
theorem Ki(h:aI Q→P:=by
 intro ag;have eZ:=I (show dg c<16∧dg c=L-87 by rw[kd,if_pos ⟨hm,aq⟩];exact⟨(by omega),rfl⟩);revert eZ;exact ag.1):P:=h ⟨k⟩
theorem zX(h:aI Q→P:=by
 intro ag;have eZ:=I (show¬dg c<16 by rw[kd,if_neg (by omega)];omega);revert eZ;exact ag.1):P:=h ⟨k⟩
theorem Kh(h:aI Q→P:=by
 intro ag;have eZ:=I (show¬dg c<16 by rw[kd,if_pos ⟨hm,aq⟩];omega);revert eZ;exact ag.1):P:=h ⟨k⟩
theorem Sc(h:aI Q→P:=by
 intro ag;have eZ:=I (show¬dg c<8 by rw[kd,if_neg (by omega)];omega);have bV:=I (kv.1.trans (CH 8 255 a _ _ eZ.1));revert eZ bV;exact ag.1):P:=h ⟨k⟩
theorem KC(h:aI Q→P:=by
 intro ag;have ka:=I (And.intro Ah (And.intro cL (And.intro qc eD)));have sb:=bV.1;have zT:=I wz;obtain⟨kS,CW,CX,bN⟩:=h.sc;have fk:=I (And.intro kS bN);revert ka sb zT kS CW CX bN fk;exact ag.1):P:=h ⟨k⟩
theorem KD(h:aI Q→P:=by
 intro ag;have bS:=I (show fF (B.drop q)=false by rw[List.drop_eq_nil_of_le (by omega)];rfl);revert bS;exact ag.1):P:=h ⟨k⟩
theorem Gj(h:aI Q→P:=by
 intro ag;have l5:=I (show fF (B.drop q)=iH (rd B (q:Int))by rw[gz B q ar];rfl);revert l5;exact ag.1):P:=h ⟨k⟩
theorem ug(h:aI Q→P:=by
 intro ag;have bE:=I fJ;have aV:=I (cI.refl w g none);have fh:=I dw.size;have iw:=I dw.size;have a7:=I dw;have H:=h;revert bE aV fh iw a7 H;exact ag.1):P:=h ⟨k⟩
theorem Ai(h:aI Q→P:=by
 intro ag;have k0:=I (show cN x=false by unfold cN;simp only[Bool.or_eq_false_iff,Bool.and_eq_false_iff,decide_eq_false_iff_not];omega);revert k0;exact ag.1):P:=h ⟨k⟩
theorem SW(h:aI Q→P:=by
 intro ag;have CY:=I (show j<xs.length by have:=lk.1;omega);have au:rd (xs.drop j) ((0:Nat):Int)=rd xs (j:Int):=by rw[←Nat.add_zero j,←ta];rfl
 have al:=al;rw[au,Nat.add_zero]at al;have l2:=I (gz xs j CY.1);replace al:=al;revert CY au l2 al;exact ag.1):P:=h ⟨k⟩
theorem q1(h:aI Q→P:=by
 intro ag;have ja:=I (show n=t2.length+2 by rw[h.v.dN];rfl);have cR:=ja.1;have cd:decide ((n:Int)<2)=false:=decide_eq_false (by omega);have cY:=eq_false (show¬(n:Int)<2 by omega);have fG:=eq_false (show¬n<2 by omega);have hx:=eq_true (show(1:Int)<(n:Int)by omega);have cM:=eq_true (show 1<n by omega);obtain⟨bt,bR,hA0, -⟩:=h.v.cell 0 (by omega);revert ja cR cd cY fG hx cM bt bR hA0;exact ag.1):P:=h ⟨k⟩
theorem SX(h:aI Q→P:=by
 intro ag;refine KE ?_;intro ef gr gI eX;have fU:=I (show rd s ((0:Nat):Int)=x by rw[ae];rfl);have bn:((nl:Int)==0)=false:=beq_eq_false_iff_ne.mpr (by omega);have c8:=eq_true (show(0:Int)<(nl:Int)by omega);have dm:=eq_true (show 0<nl by omega);clear gr;revert ef gI eX fU bn c8 dm;exact ag.1):P:=h ⟨k⟩
theorem SA(h:aI Q→P:=by
 intro ag;have bV:=I (kv.1.trans (CH 16 255 a _ _ eZ.1));revert bV;exact ag.1):P:=h ⟨k⟩
theorem Sy(h:aI Q→P:=by
 intro ag;have bV:=I (kv.1.trans (CH 16 4294967295 a _ _ eZ.1));revert bV;exact ag.1):P:=h ⟨k⟩
theorem Sz(h:aI Q→P:=by
 intro ag;have bV:=I (kv.1.trans (CH 16 65535 a _ _ eZ.1));revert bV;exact ag.1):P:=h ⟨k⟩
theorem Gk(h:aI Q→P:=by
 intro ag;have gK:=I (ab.jU bK (mP (w:=w) (g:=g) (row:=none) dB));refine vb ?_;intro aV a7 bE;revert gK aV a7 bE;exact ag.1):P:=h ⟨k⟩
theorem lN(h:aI Q→P:=by
 intro ag;have hA:=I bC;have hK:=I fb;have hL:=I fc;revert hA hK hL;exact ag.1):P:=h ⟨k⟩
theorem wA(h:aI Q→P:=by
 intro ag;have cr:=I hp;go_enter Tryz.func103,Tryz.ntmps103;revert cr;exact ag.1):P:=h ⟨k⟩
theorem SY(h:aI Q→P:=by
 intro ag;have cr:=I hp;have gE:=I cG;have Aj:sz≤s.length:=by rw[dd];exact uh s
 obtain⟨sp,gr⟩:∃sp,sp=hY s:=⟨_,rfl⟩;have dz:=I (show iy s=.agg #[.int .u8 0,.bool false,.int .i64 (sz:Int),.int .i64 (sp:Int)]by unfold iy;rw[q2,h45,gr];simp only;rw[List.length_drop,show s.length-(s.length-sz)=sz by omega]);have dS:=I (And.intro (show 1≤sz from h0) Aj);have eZ:=I dd;have Gm:decide ((sz:Int)>0)=true:=decide_eq_true (by omega);have Gn:=eq_true (show(0:Int)<(sz:Int)by omega);have KF:=eq_true h0;revert cr gE Aj sp gr dz dS eZ Gm Gn KF;exact ag.1):P:=h ⟨k⟩
theorem SZ(h:aI Q→P:=by
 intro ag;have mw:=I aZ;have yg:=I lO;have v0:decide (1114111<v)=false:=decide_eq_false Ak;have v1:=eq_false Ak;have Gp:=I (show IntKind.i32.wrap v=v by unfold IntKind.wrap;simp[IntKind.bits,IntKind.signed];omega);have KG:=Gp.1;have yh:=S0 D 0 t2 _ lO;revert mw yg v0 v1 Gp KG yh;exact ag.1):P:=h ⟨k⟩
theorem tb(h:aI Q→P:=by
 intro ag;have gT:=I (show¬92=q by have:=h.ar;omega);obtain⟨ao,c3,bs,bO⟩:=h.v.from_ 2 j0;have jN:∀aQ:World,(Instr.slice 22 (.slice (some ⟨bt,bR,none⟩) n c) (some (.int .i64 2)) none none).run Tryz.prog aQ=.ok (.slice ao (n-2) c3) aQ:=bs;have dP:=I bO;revert gT ao c3 bs bO jN dP;exact ag.1):P:=h ⟨k⟩
theorem aaW(h:aI Q→P:=by
 intro ag;have cK:=I (show rd (92::120::t2) ((1:Nat):Int)=120 from rfl);have gT:=I (show¬92=q by have:=h.ar;omega);have kz:=I (show∀x∈t2,0≤x∧x<256 from fun x ae=>fq.1 x tQ);obtain⟨ao,c2,bs,bO⟩:=h.v.from_ 2 j0;have jN:∀aQ:World,(Instr.slice 22 (.slice (some ⟨bt,bR,none⟩) n c) (some (.int .i64 2)) none none).run Tryz.prog aQ=.ok (.slice ao (n-2) c2) aQ:=bs;have dP:=I (show dZ w0 ao (n-2) c2 t2 from bO);obtain⟨K,aH⟩:∃K,K=dt dr t2:=⟨_,rfl⟩;have qd:=nD dr t2;rw[←aH]at qd;obtain⟨e,he⟩:∃e,e=min 2 K:=⟨_,rfl⟩;obtain⟨aD,od⟩:∃aD,aD=e+2:=⟨_,rfl⟩;have cb:=ja.1;have sb:=bV.1;have o5:K≤n-2:=by rw[cb];exact qd
 have cR:2≤n:=by rw[cb];exact Nat.le_add_left _ _
 have jJ:=I (KH 2 he od o5 cR);have hX:wrap64 (((n-2:Nat):Int)-((n-2-dt dr t2:Nat):Int))=(K:Int):=by rw[←aH];exact KI o5 (Nat.le_trans (Nat.sub_le _ _) sb)
 have q3:wrap64 (2+(e:Int))=(aD:Int):=KJ od jJ.1.2.2.1 sb;obtain⟨bd,c4,hn,hU⟩:=h.v.Al 2 aD PM jJ.1.2.2.1;have yi:aD-2=e:=by rw[od];exact Nat.add_sub_cancel _ _
 rw[yi,show((92::120::t2).take aD).drop 2=t2.take e by rw[od];rfl]at hU;rw[yi]at hn;have KK:∀aQ:World,(Instr.slice 22 (.slice (some ⟨bt,bR,none⟩) n c) (some (.int .i64 2)) (some (.int .i64 (aD:Int))) none).run Tryz.prog aQ=.ok (.slice bd e c4) aQ:=hn;have ky:=I hU;have o6:=I (show(t2.take e).length=e by rw[List.length_take];exact Nat.min_eq_left (Nat.le_trans Jn qd));have dS:=I (show(strOfNums (t2.take e)).size≤100 by rw[tc,o6.1];exact Nat.le_trans jJ.1.1 (by decide));have uU:=I (show ints (strOfNums (t2.take e))=t2.take e from CZ _ (fun x ae=>kz.1 x (List.mem_of_mem_take ae)));obtain⟨bF,c3,oD,iL⟩:=h.v.from_ aD jJ.1.2.2.1;have o4:=I iL;obtain⟨ui, -⟩:=h.v.pI aD jJ.1.2.2.1;have dG:=I (Gq kz.1);rw[←aH,←he]at dG;have uj:=I (show e=min 2 (dt dr t2)by rw[he,aH]);clear bs hn o5 cR yi bO iL hU aH qd he od cb sb;replace dG:=dG;revert cK gT kz ao c2 jN dP K e aD jJ hX q3 bd c4 KK ky o6 dS uU bF c3 oD o4 ui uj dG;exact ag.1):P:=h ⟨k⟩
theorem KL(h:aI Q→P:=by
 intro ag;have cK:=I (show rd (92::y::t2) ((1:Nat):Int)=y from rfl);have gT:=I (show¬92=q by have:=h.ar;omega);revert cK gT;exact ag.1):P:=h ⟨k⟩
theorem Gr(h:aI Q→P:=by
 intro ag;have av:=I ak;have a1:(x==91)=false:=beq_eq_false_iff_ne.mpr (fun e=>wB t (by rw[ak,e]));revert av a1;exact ag.1):P:=h ⟨k⟩
theorem wC(h:aI Q→P:=by
 intro ag;have et:=I cV;have gE:=I cG;have fk:=I bN;revert et gE fk;exact ag.1):P:=h ⟨k⟩
theorem R5(h:aI Q→P:=by
 intro ag;have bl:=I (And.intro bO iz);have bj:=I (h0.k.ft cE.1 cA (by simp));have ct:=I (c6.after bT.1.k h0);revert bl bj ct;exact ag.1):P:=h ⟨k⟩
theorem lz(h:aI Q→P:=by
 intro ag;have bl:=I (h.v.below h.bu);have gx:=I (Utf8Tabs_below h.T h.bu);have fq:=I h.lP;have bV:=I (show n≤100000 by have:=h.sz;have:=h.v.dN;omega);have dY:=I (show 0<n by rw[h.v.dN];exact eu);have m0:decide ((n:Int)>0)=true:=decide_eq_true Jp;have fi:=eq_true (show(0:Int)<(n:Int)by have:=dY.1;omega);have fj:=eq_true dY.1;revert bl gx fq bV dY m0 fi fj;exact ag.1):P:=h ⟨k⟩
theorem S1(h:aI Q→P:=by
 intro ag;have x3:=I nL;have eu:wrap64 ((B.length:Int)-(s.length:Int))=((B.length-s.length:Nat):Int):=by unfold wrap64;omega
 obtain⟨pos,oE⟩:∃pos:Nat,pos=B.length-s.length:=⟨_,rfl⟩;rw[←oE]at eu;replace eu:=eu;revert x3 pos oE eu;exact ag.1):P:=h ⟨k⟩
theorem uk(h:aI Q→P:=by
 intro ag;have ct:=bT;have bj:=cE;obtain⟨kS,dI,dQ,C0⟩:=fk.1;have jO:=I ((ct.1.m.l.cell (p:=⟨0,0,none⟩) kS).trans C0);obtain⟨bW,bZ,b0,b1,b2,Z2,b3,b4,b5,b6,b7,b8⟩:=gO bj.1;clear C0 kS;revert ct bj dI dQ jO bW bZ b0 b1 b2 Z2 b3 b4 b5 b6 b7 b8;exact ag.1):P:=h ⟨k⟩
theorem S3(h:aI Q→P:=by
 intro ag;have l9:=I (cn (gl (gV cJ (.cells #[.int .u8 0,.int .u8 0,.int .u8 0,.int .i64 0,.slice none 0 0,.string ⟨#[]⟩] 47))) ee);have aD:bf.cell? ⟨cJ.heap.size,0,none⟩=some (.int .u8 0):=(bg l9.1 0).trans rfl;have bx:bf.cell? ⟨cJ.heap.size,1,none⟩=some (.int .u8 0):=(bg l9.1 1).trans rfl;have db:bf.cell? ⟨cJ.heap.size,2,none⟩=some (.int .u8 0):=(bg l9.1 2).trans rfl;have fO:bf.cell? ⟨cJ.heap.size,3,none⟩=some (.int .i64 0):=(bg l9.1 3).trans rfl;have gW:bf.cell? ⟨cJ.heap.size,4,none⟩=some (.slice none 0 0):=(bg l9.1 4).trans rfl;have aE:bf.cell? ⟨cJ.heap.size,5,none⟩=some (.string ⟨#[]⟩):=(bg l9.1 5).trans rfl;have aT:bf.frozen? ⟨cJ.heap.size,0,none⟩=false:=fy l9.1 0;have bh:bf.frozen? ⟨cJ.heap.size,1,none⟩=false:=fy l9.1 1;have bA:bf.frozen? ⟨cJ.heap.size,2,none⟩=false:=fy l9.1 2;have y3:bf.frozen? ⟨cJ.heap.size,3,none⟩=false:=fy l9.1 3;have y4:bf.frozen? ⟨cJ.heap.size,4,none⟩=false:=fy l9.1 4;have hg:bf.frozen? ⟨cJ.heap.size,5,none⟩=false:=fy l9.1 5;revert l9 aD bx db fO gW aE aT bh bA y3 y4 hg;exact ag.1):P:=h ⟨k⟩
theorem KM(h:aI Q→P:=by
 intro ag;have hT:=I ew;have l7:=I dw;have jc:=I jf;have d0:=(bg bz.1 3).trans rfl;have Gs:=fy bz.1 3;refine aH.out _ _ ⟨(bg bz.1 0).trans rfl,(bg bz.1 1).trans rfl,(bg bz.1 3).trans rfl,nj.1 _ l7.1⟩ (fun hHeld=>?_);refine ik ?_;revert hT l7 jc d0 Gs hHeld;exact ag.1):P:=h ⟨k⟩
theorem KN(h:aI Q→P:=by
 intro ag;have bz:=I (gV w (.cells #[.int .u8 0,.int .u8 0,.int .u8 0,.int .i64 0,.slice none 0 0,.string ⟨#[]⟩] 47));revert bz;exact ag.1):P:=h ⟨k⟩
theorem S4(h:aI Q→P:=by
 intro ag;have a0:(z0==92)=true:=beq_iff_eq.mpr h1;have cg:(z0 !=92)=false:=by simp[h1]
 have a2:(cp==117)=false:=beq_eq_false_iff_ne.mpr h2;have a3:(cp !=117)=true:=bne_iff_ne.mpr h2;revert a0 cg a2 a3;exact ag.1):P:=h ⟨k⟩
theorem Km(h:aI Q→P:=by
 intro ag;have a0:(z0==92)=true:=beq_iff_eq.mpr h1;have cg:(z0 !=92)=false:=by simp[h1]
 have a2:(cp==117)=true:=beq_iff_eq.mpr h2;have a3:(cp !=117)=false:=by simp[h2]
 revert a0 cg a2 a3;exact ag.1):P:=h ⟨k⟩
theorem Gt(h:aI Q→P:=by
 intro ag;have bt:(R==0)=false:=beq_eq_false_iff_ne.mpr h0;have di:(R==10)=false:=beq_eq_false_iff_ne.mpr h10;have eS:(R==92)=false:=beq_eq_false_iff_ne.mpr h92;revert bt di eS;exact ag.1):P:=h ⟨k⟩
theorem KO(h:aI Q→P:=by
 intro ag;have Am:(c !=9)=true:=bne_iff_ne.mpr (by omega);have di:(c==127)=false:=beq_eq_false_iff_ne.mpr (by omega);revert Am di;exact ag.1):P:=h ⟨k⟩
theorem x2(h:aI Q→P:=by
 intro ag;have f0:(x==95)=false:=beq_eq_false_iff_ne.mpr (by omega);have ln:(decide (97≤x))=false:=decide_eq_false (by omega);revert f0 ln;exact ag.1):P:=h ⟨k⟩
theorem S5(h:aI Q→P:=by
 intro ag;refine KP ?_;intro f0 ln;have lp:(decide (65≤x))=true:=decide_eq_true (by omega);have lq:(decide (48≤x))=true:=decide_eq_true (by omega);have lr:(decide (x≤122))=false:=decide_eq_false (by omega);have lu:(decide (x≤90))=false:=decide_eq_false (by omega);refine An ?_;intro lv;revert f0 ln lp lq lr lu lv;exact ag.1):P:=h ⟨k⟩
theorem S6(h:aI Q→P:=by
 intro ag;have lp:(decide (65≤x))=false:=decide_eq_false (by omega);have lq:(decide (48≤x))=false:=decide_eq_false (by omega);have lr:(decide (x≤122))=true:=decide_eq_true (by omega);have lu:(decide (x≤90))=true:=decide_eq_true (by omega);have lv:(decide (x≤57))=true:=decide_eq_true (by omega);revert lp lq lr lu lv;exact ag.1):P:=h ⟨k⟩
theorem zY(h:aI Q→P:=by
 intro ag;have lp:(decide (65≤x))=true:=decide_eq_true (by omega);have lq:(decide (48≤x))=true:=decide_eq_true (by omega);have lr:(decide (x≤122))=true:=decide_eq_true (by omega);have lu:(decide (x≤90))=false:=decide_eq_false (by omega);refine An ?_;intro lv;revert lp lq lr lu lv;exact ag.1):P:=h ⟨k⟩
theorem KQ(h:aI Q→P:=by
 intro ag;have lq:(decide (48≤x))=true:=decide_eq_true (by omega);have lr:(decide (x≤122))=true:=decide_eq_true (by omega);have lu:(decide (x≤90))=true:=decide_eq_true (by omega);revert lq lr lu;exact ag.1):P:=h ⟨k⟩
theorem KR(h:aI Q→P:=by
 intro ag;have ma:=iU bj.1 (.cells #[.int .u8 0,.int .u8 0,.int .u8 0,.int .i64 0,.slice none 0 0,.string ⟨#[]⟩] 47);have jg:=gV w1 (.cells #[.int .u8 0,.int .u8 0,.int .u8 0,.int .i64 0,.slice none 0 0,.string ⟨#[]⟩] 47);have mC:=(dW.1).below (da (Below.refl _ _) (.cells #[.int .u8 0,.int .u8 0,.int .u8 0,.int .i64 0,.slice none 0 0,.string ⟨#[]⟩] 47));revert ma jg mC;exact ag.1):P:=h ⟨k⟩
theorem KS(h:aI Q→P:=by
 intro ag;have ob:=bE.1;clear ob;refine(nk bE.1 60).mono ?_;rintro bk bf ⟨rfl,cq⟩;rw[bM.1];have td:=I cq;obtain⟨bF,c5,cZ,c12,aT,bh,bA,y3,z0,cp,z2,ff⟩:=cq.fL;clear cq;revert bf td bF c5 cZ c12 aT bh bA y3 z0 cp z2 ff;exact ag.1):P:=h ⟨k⟩
theorem S7(h:aI Q→P:=by
 intro ag;have az:(1:Int)≤(ba:Int):=by have:=gP.1;omega
 have ee:(ba:Int)≤100000:=by have:=qN.1.le;have:=dS.1;omega
 have eP:=I (And.intro az ee);have oX:=I (show∀v:Int,v=(ba:Int)-1→v=(p:Int)from fun v aZ=>by have:=gP.1;omega);revert az ee eP oX;exact ag.1):P:=h ⟨k⟩
theorem S8(h:aI Q→P:=by
 intro ag;have az:(1:Int)≤(gH:Int):=by have:=nB.1;omega
 have ee:(gH:Int)≤100000:=by have:=mY.1.le;have:=dS.1;omega
 have aC:=I (And.intro az ee);have oX:=I (show∀v:Int,v=(gH:Int)-1→v=(dy:Int)from fun v aZ=>by have:=nB.1;omega);revert az ee aC oX;exact ag.1):P:=h ⟨k⟩
theorem S9(h:aI Q→P:=by
 intro ag;have Gu:(n+m)*i.bytes≤140737488355328:=by rw[bG];omega
 have q4:Src Tryz.prog i.size tx x m (il ys) w:=by rw[dd];exact ak
 have au:=run_append_grow_src (P:=Tryz.prog) w 22 tx ty 5 i (.int .u8 0) Tryz.underlying22 hi aG A n n (il xs) hold x m (il ys) q4 (by omega) (by omega) (growslice_fits (by omega) Gu);revert Gu q4 au;exact ag.1):P:=h ⟨k⟩
theorem Gv(h:aI Q→P:=by
 intro ag;have ai:=dw k o5;have jK:=jK;rw[gz xs k (by omega)]at jK;have oT:=bG (rd xs (k:Int)) (Ta xs k (by omega));replace jK:=jK;revert ai oT jK;exact ag.1):P:=h ⟨k⟩
theorem Tb(h:aI Q→P:=by
 intro ag;have dM:(x<48)∨(48≤x∧x≤57)∨(57<x∧x<65)∨(65≤x∧x≤90)∨(90<x∧x<95)∨(x=95)∨(x=96)∨(97≤x∧x≤122)∨(122<x):=by omega
 revert dM;exact ag.1):P:=h ⟨k⟩
theorem Tc(h:aI Q→P:=by
 intro ag;have hcut:=EA (P:=Tryz.prog) 22 5 .i64 .i64 Tryz.underlying22 (i:=(Tryz.prog.info? 5).getD default) aM 1 aM ao B.length c0 lo hi (by omega) (by omega) (by omega) eT;have hC:=ab.Ez bP h1 h2 eT;have aq:((B.take hi).drop lo).length=hi-lo:=by rw[List.length_drop,List.length_take];omega
 have aD:(ab.int .u8).sz=1:=rfl;rw[aq,aD]at hC;simp only[Int.toNat_natCast]at hcut;replace hC:=hC;replace hcut:=hcut;revert aq aD hC hcut;exact ag.1):P:=h ⟨k⟩
theorem KT(h:aI Q→P:=by
 intro ag;have hq:=ky.1.str (dq av.1.bu av.1.bu.size bM.1);revert hq;exact ag.1):P:=h ⟨k⟩
theorem Gw(h:aI Q→P:=by
 intro ag;have hq:=Lib.run_convert_string_bytes (P:=Tryz.prog) w 9 22 5 t (u:=.string) Tryz.underlying9 Tryz.underlying22 Tryz.underlying5;have dw:∀j,j<t.size→(Lib.bytesWorld w 5 t).cell? ⟨w.heap.size,j,none⟩=some (.int .u8 (rd (ints t) (j:Int))):=fun j bq=>by rw[Lib.bytesWorld_cell w 5 t j bq,aaX t j bq]
 have fA:=I (aaY w t);obtain⟨cJ,Td⟩:∃cJ,cJ=Lib.bytesWorld w 5 t:=⟨_,rfl⟩;rw[←Td]at hq dw fA;clear Td;have bG:=aaZ t;have wE:(ints t).length=t.size:=aa0 t;unfold C1;obtain⟨xs,pJ⟩:∃xs,xs=ints t:=⟨_,rfl⟩;rw[←pJ]at dw bG wE⊢;clear pJ;replace hq:=hq;replace dw:=dw;replace fA:=fA;replace bG:=bG
 replace wE:=wE;revert cJ xs hq dw fA bG wE;exact ag.1):P:=h ⟨k⟩
theorem Gx(h:aI Q→P:=by
 intro ag;have kd:dg c=if 97≤L∧L≤122 then L-87 else 255:=by unfold dg;rw[if_neg hdig,←bD]
 revert kd;exact ag.1):P:=h ⟨k⟩
theorem Te(h:aI Q→P:=by
 intro ag;have hle:=kC t false;have k1:=I (show(bc false t).length≤t.length from hle);have Gc:=I (show∀y∈t,0≤y∧y<256 from fun y aX=>h.lP y (by simp[aX]));have eX:=I (show s.length≤100000 by have:=h.d.len;omega);revert hle k1 Gc eX;exact ag.1):P:=h ⟨k⟩
theorem KU(h:aI Q→P:=by
 intro ag;have cb:s.length≤B.length∧B.length≤100000:=⟨Nat.le_trans (ak▸kC hf false) h.len.1,h.len.2⟩;revert cb;exact ag.1):P:=h ⟨k⟩
theorem aa1(h:aI Q→P:=by
 intro ag;have cb:=h.len;have ef:=I cb;have eX:=I (Nat.zero_le s.length);revert cb ef eX;exact ag.1):P:=h ⟨k⟩
theorem aa2(h:aI Q→P:=by
 intro ag;have cb:=h.len;refine KE ?_;intro ef gr gI eX;revert cb ef gr gI eX;exact ag.1):P:=h ⟨k⟩
theorem Tf(h:aI Q→P:=by
 intro ag;have cb:=h.len;have bG:=h.bytes;have cf:=I h;have bS:=I (And.intro h.ge h.lt);have fh:=I (And.intro cb bG);obtain⟨f,aA⟩:=h.below (da (Below.refl _ _) (.cells #[.int .u8 0,.int .u8 0,.int .u8 0,.int .i64 0,.slice none 0 0,.string ⟨#[]⟩] 47));revert cb bG cf bS fh f aA;exact ag.1):P:=h ⟨k⟩
theorem yj(h:aI Q→P:=by
 intro ag;have wF:∀(fn:Fn) (first cap:Array Value) (w:World),(Instr.makeFunc fn first cap).run Tryz.prog w=.ok (.func fn first cap) w:=fun _ _ _ _=>rfl;revert wF;exact ag.1):P:=h ⟨k⟩
theorem Tg(h:aI Q→P:=by
 intro ag;have cR:=gV bf (.cells #[.int .u8 0,.bool false,.int .i64 (sz:Int),.int .i64 (sp:Int)] 75);have az:=bw aC.1 (Nat.le_refl _) (da (Below.refl bf.heap.size bf) (.cells #[.int .u8 0,.bool false,.int .i64 (sz:Int),.int .i64 (sp:Int)] 75));revert cR az;exact ag.1):P:=h ⟨k⟩
theorem yk(h:aI Q→P:=by
 intro ag;have cR:=h.v.dN;rw[List.length_cons]at cR;obtain⟨bt,bR,hA0, -⟩:=h.v.cell 0 (by omega);replace cR:=cR;revert bt bR hA0 cR;exact ag.1):P:=h ⟨k⟩
theorem Th(h:aI Q→P:=by
 intro ag;have Ao:¬n<N:=by have:=ja.1;have:=ka.1;have:=Ti.1;omega
 have p0:decide ((n:Int)<(N:Int))=false:=decide_eq_false (by omega);have ba:=eq_false (show¬(n:Int)<(N:Int)by omega);have dy:=eq_false (show¬n<N by omega);have um:D≤t2.length:=by have:=ja.1;have:=ka.1.2.2.2;omega
 have Ap:=ka.1.2.2.2;have qc:=ka.1.2.2.1;obtain⟨ao,c4,bs,hU⟩:=av.1.v.Al 2 N (by omega) (by omega);rw[show((92::y::t2).take N).drop 2=t2.take D by rw[Ap];rfl]at hU;have dP:=I hU;have jN:∀aQ:World,(Instr.slice 22 (.slice (some ⟨bt,bR,none⟩) n c) (some (.int .i64 2)) (some (.int .i64 (N:Int))) none).run Tryz.prog aQ=.ok (.slice ao (N-2) c4) aQ:=bs;have hq:=dP.1.str (dq av.1.bu av.1.bu.size aC.1);have o6:=I (show(t2.take D).length=D by rw[List.length_take];exact Nat.min_eq_left um);have dS:=I (show(strOfNums (t2.take D)).size≤100 by rw[tc,o6.1];omega);have ix:=I (show(strOfNums (t2.take D)).size≠0 by rw[tc,o6.1];omega);have uU:=I (show ints (strOfNums (t2.take D))=t2.take D from CZ _ (fun x ae=>kz.1 x (List.mem_of_mem_take ae)));obtain⟨hn, -⟩:=av.1.v.pI N (by omega);replace hU:=hU;revert Ao p0 ba dy um Ap qc ao c4 bs dP jN hq o6 dS ix uU hn hU;exact ag.1):P:=h ⟨k⟩
theorem C2(h:aI Q→P:=by
 intro ag;have nm:¬(c=34∨c=39):=by omega
 have bt:(c==34)=false:=beq_eq_false_iff_ne.mpr (by omega);have di:(c==39)=false:=beq_eq_false_iff_ne.mpr (by omega);revert nm bt di;exact ag.1):P:=h ⟨k⟩
theorem Tj(h:aI Q→P:=by
 intro ag;have iv:=ab.Ex h2;rw[h1]at iv;obtain⟨v1,w1,au,aY,aw, -⟩:=Lib.run_append_own_string (P:=Tryz.prog) w w0.heap.size 22 9 ty 5 i Tryz.underlying22 Tryz.underlying9 hi aG dd bG v n _ iv s Fv (by omega) U.size;replace iv:=iv;revert v1 w1 au aY aw iv;exact ag.1):P:=h ⟨k⟩
theorem Tk(h:aI Q→P:=by
 intro ag;have hn:=C3 cf.1 hE.1 (by omega) bS.1.1 bS.1.2 (.int .u8 0) (.int .u8 0) (.int .u8 0) (.int .i64 0) (.slice none 0 0) (.string ⟨#[]⟩);revert hn;exact ag.1):P:=h ⟨k⟩
theorem Gy(h:aI Q→P:=by
 intro ag;have hw:wrap64 ((i:Int)+1)=((i+1:Nat):Int):=by unfold wrap64;omega
 revert hw;exact ag.1):P:=h ⟨k⟩
theorem Gz(h:aI Q→P:=by
 intro ag;have hw:wrap64 ((q:Int)+1)=((q+1:Nat):Int):=by have:=dx.1;have:=oc.1;have:=dS.1;have:=aV.1;unfold wrap64;omega
 refine⟨q+1,⟨Jm,sR⟩,⟨?_⟩⟩;rw[hw];revert hw;exact ag.1):P:=h ⟨k⟩
theorem Tl(h:aI Q→P:=by
 intro ag;have hw:wrap64 ((q:Int)+1)=((q+1:Nat):Int):=by have:=fz.1;have:=dS.1;unfold wrap64;omega
 have aZ:=aa3 B n q fz.1 (by rw[KV.1];exact eZ.1.1);revert hw aZ;exact ag.1):P:=h ⟨k⟩
theorem KW(h:aI Q→P:=by
 intro ag;have hw:wrap64 ((sz:Int)+1)=((sz+1:Nat):Int):=by have:=av.1;have:=bV.1;unfold wrap64;omega
 have iw:=I hw;revert hw iw;exact ag.1):P:=h ⟨k⟩
theorem Tm(h:aI Q→P:=by
 intro ag;have hw:wrap64 (1+(j:Int)+1)=1+((j+1:Nat):Int):=by have h0:=lk.1;have h1:=pE.1;have h2:=bl.1.dN;have h3:=aV.1.2;unfold wrap64;omega
 have sP:=I hw;have dM:(x≤47)∨(48≤x∧x≤57)∨(58≤x):=by omega
 revert hw sP dM;exact ag.1):P:=h ⟨k⟩
theorem KX(h:aI Q→P:=by
 intro ag;have hX:wrap64 ((p:Int)+1)=((p+1:Nat):Int):=by have:=dS.1;have:=cr.1;unfold wrap64;omega
 revert hX;exact ag.1):P:=h ⟨k⟩
theorem GA(h:aI Q→P:=by
 intro ag;have hX:wrap64 ((dy:Int)+1)=((dy+1:Nat):Int):=by have:=dS.1;have:=kL.1;unfold wrap64;omega
 revert hX;exact ag.1):P:=h ⟨k⟩
theorem C4(h:aI Q→P:=by
 intro ag;have aW:decide (x≤57)=true:=decide_eq_true (by omega);revert aW;exact ag.1):P:=h ⟨k⟩
theorem Aq(h:aI Q→P:=by
 intro ag;have ll:decide (48≤x)=true:=decide_eq_true (by omega);revert ll;exact ag.1):P:=h ⟨k⟩
theorem KY(h:aI Q→P:=by
 intro ag;have m0:decide ((m1:Int)>0)=false:=decide_eq_false (by omega);have fi:=eq_false (show¬(0:Int)<(m1:Int)by omega);have fj:=eq_false hm;revert m0 fi fj;exact ag.1):P:=h ⟨k⟩
theorem KZ(h:aI Q→P:=by
 intro ag;have m0:decide ((m1:Int)>0)=true:=decide_eq_true (by omega);have fi:=eq_true (show(0:Int)<(m1:Int)by omega);have fj:=eq_true hm;revert m0 fi fj;exact ag.1):P:=h ⟨k⟩
theorem yl(h:aI Q→P:=by
 intro ag;have m0:decide ((n:Int)>0)=true:=decide_eq_true (by omega);have m1:=eq_true (show(0:Int)<(n:Int)by omega);have m2:=eq_true (show 0<n by omega);have dY:=I cR;have lM:=I h.GB;revert m0 m1 m2 dY lM;exact ag.1):P:=h ⟨k⟩
theorem vi(h:aI Q→P:=by
 intro ag;have fi:=eq_false (show¬(0:Int)<(m:Int)by omega);have fj:=eq_false hm;revert fi fj;exact ag.1):P:=h ⟨k⟩
theorem ym(h:aI Q→P:=by
 intro ag;have fi:=eq_true (show(0:Int)<(m:Int)by omega);have fj:=eq_true hm;revert fi fj;exact ag.1):P:=h ⟨k⟩
theorem qe(h:aI Q→P:=by
 intro ag;have bn:((nl:Int)==0)=false:=beq_eq_false_iff_ne.mpr (by omega);have c8:=eq_true (show(0:Int)<(nl:Int)by omega);have dm:=eq_true (show 0<nl by omega);revert bn c8 dm;exact ag.1):P:=h ⟨k⟩
theorem K0(h:aI Q→P:=by
 intro ag;have p0:0≤((cH):Int):=of_decide_eq_true fK;have a1:(cH)<(a0.size:Int):=of_decide_eq_true fK;have aW:=nx a0 (cH);refine my ?_;clear p0 a1;intro p0 a1;revert aW p0 a1;exact ag.1):P:=h ⟨k⟩
theorem K1(h:aI Q→P:=by
 intro ag;have p0:0≤(t4:Int):=of_decide_eq_true fK;have a1:t4<(bY.length:Int):=of_decide_eq_true fK;obtain⟨dp,aD,eY⟩:=ab.iV lx t4 p0 a1;revert p0 a1 dp aD eY;exact ag.1):P:=h ⟨k⟩
theorem CF(h:aI Q→P:=by
 intro ag;have p0:0≤(bm:Int):=of_decide_eq_true fK;have a1:bm<(a0.size:Int):=of_decide_eq_true fK;have aW:=nx a0 bm;refine my ?_;clear p0 a1;intro p0 a1;revert aW p0 a1;exact ag.1):P:=h ⟨k⟩
theorem Tn(h:aI Q→P:=by
 intro ag;have p0:0≤(bm:Int):=of_decide_eq_true fK;have a1:bm<(cg.size:Int):=of_decide_eq_true fK;have aW:=nx cg bm;refine my ?_;clear p0 a1;intro p0 a1;revert aW p0 a1;exact ag.1):P:=h ⟨k⟩
theorem To(h:aI Q→P:=by
 intro ag;have p0:0≤(b9:Int):=of_decide_eq_true fK;have a1:b9<(a0.size:Int):=of_decide_eq_true fK;have aW:=nx a0 b9;refine my ?_;clear p0 a1;intro p0 a1;revert aW p0 a1;exact ag.1):P:=h ⟨k⟩
theorem K2(h:aI Q→P:=by
 intro ag;have p0:0≤(hj:Int):=of_decide_eq_true fK;have a1:hj<(a0.size:Int):=of_decide_eq_true fK;have aW:=nx a0 hj;refine my ?_;clear p0 a1;intro p0 a1;revert aW p0 a1;exact ag.1):P:=h ⟨k⟩
theorem yn(h:aI Q→P:=by
 intro ag;have p0:0≤(fE:Int):=of_decide_eq_true fK;have a1:fE<(a0.size:Int):=of_decide_eq_true fK;have aW:=nx a0 fE;refine my ?_;clear p0 a1;intro p0 a1;revert aW p0 a1;exact ag.1):P:=h ⟨k⟩
theorem K3(h:aI Q→P:=by
 intro ag;have p0:0≤(fw:Int):=of_decide_eq_true fK;have a1:fw<(a0.size:Int):=of_decide_eq_true fK;have aW:=nx a0 fw;refine my ?_;clear p0 a1;intro p0 a1;revert aW p0 a1;exact ag.1):P:=h ⟨k⟩
theorem Tp(h:aI Q→P:=by
 intro ag;have p0:0≤(kN:Int):=of_decide_eq_true fK;have a1:kN<(a0.size:Int):=of_decide_eq_true fK;have aW:=nx a0 kN;refine my ?_;clear p0 a1;intro p0 a1;revert aW p0 a1;exact ag.1):P:=h ⟨k⟩
theorem K4(h:aI Q→P:=by
 intro ag;have p0:0≤(mZ:Int):=of_decide_eq_true fK;have a1:mZ<(a0.size:Int):=of_decide_eq_true fK;have aW:=nx a0 mZ;refine my ?_;clear p0 a1;intro p0 a1;revert aW p0 a1;exact ag.1):P:=h ⟨k⟩
theorem K5(h:aI Q→P:=by
 intro ag;have p0:kg 37=false:=by decide
 have ba:q5 37=false:=by decide
 have aj:decide ((n:Int)<3)=false:=decide_eq_false (by omega);have cC:=eq_false (show¬(n:Int)<3 by omega);have gA:=eq_false (show¬n<3 by omega);have lA:=eq_true (show(1:Int)<(n:Int)by omega);have GC:=eq_true (show 1<n by omega);have GD:=eq_true (show(2:Int)<(n:Int)by omega);have GF:=eq_true (show 2<n by omega);revert p0 ba aj cC gA lA GC GD GF;exact ag.1):P:=h ⟨k⟩
theorem GG(h:aI Q→P:=by
 intro ag;have p0:=eq_true (show(0:Int)≤(p:Int)by omega);have ba:=eq_true (show(p:Int)<(B.length:Int)by omega);revert p0 ba;exact ag.1):P:=h ⟨k⟩
theorem K6(h:aI Q→P:=by
 intro ag;have ba:0≤(1:Int):=(by omega);have bQ:1<a0.size:=ZU;have cv:∀h:1<a0.size,((a0[1]'h).toNat:Int)=bB a0 1:=nx a0 1;clear ba;have GH:(1<(a0.size:Int))=True:=eq_true (of_decide_eq_true fK);replace bQ:=eq_true bQ;revert cv GH bQ;exact ag.1):P:=h ⟨k⟩
theorem K7(h:aI Q→P:=by
 intro ag;have ba:0≤(t2:Int):=of_decide_eq_true fK;have bQ:t2<(bY.length:Int):=of_decide_eq_true fK;obtain⟨gy,bx,fT⟩:=ab.iV lx t2 ba bQ;revert ba bQ gy bx fT;exact ag.1):P:=h ⟨k⟩
theorem Tq(h:aI Q→P:=by
 intro ag;have ba:0≤(bm:Int):=of_decide_eq_true fK;have bQ:bm<(11:Int):=of_decide_eq_true fK;have aW:=nx (⟨#[97,98,102,110,114,116,118,63,92,39,34]⟩:ByteArray) bm;replace ba:=eq_true ba;replace bQ:=eq_true bQ;revert aW ba bQ;exact ag.1):P:=h ⟨k⟩
theorem Tr(h:aI Q→P:=by
 intro ag;have ba:0≤(fE:Int):=of_decide_eq_true fK;have bQ:fE<(a0.size:Int):=of_decide_eq_true fK;have cv:=nx a0 fE;replace ba:=eq_true ba;replace bQ:=eq_true bQ;revert cv ba bQ;exact ag.1):P:=h ⟨k⟩
theorem GI(h:aI Q→P:=by
 intro ag;have a1:(x==123)=false:=beq_eq_false_iff_ne.mpr cT.1;have bQ:(x==60)=false:=beq_eq_false_iff_ne.mpr df.1;revert a1 bQ;exact ag.1):P:=h ⟨k⟩
theorem K8(h:aI Q→P:=by
 intro ag;have a1:(x==34)=false:=beq_eq_false_iff_ne.mpr (fun e=>oF (.inl e));have bQ:(x==39)=false:=beq_eq_false_iff_ne.mpr (fun e=>oF (.inr e));have cr:=I lB;revert a1 bQ cr;exact ag.1):P:=h ⟨k⟩
theorem Ts(h:aI Q→P:=by
 intro ag;have a1:(x==93)=false:=beq_eq_false_iff_ne.mpr cT.1;have bQ:(x==123)=false:=beq_eq_false_iff_ne.mpr df.1;have fs:(x==60)=false:=beq_eq_false_iff_ne.mpr gS.1;go_enter Tryz.func29,Tryz.ntmps29;revert a1 bQ fs;exact ag.1):P:=h ⟨k⟩
theorem Ar(h:aI Q→P:=by
 intro ag;have a1:(x==c)=false:=beq_eq_false_iff_ne.mpr cT.1;have bQ:(x==other c)=false:=beq_eq_false_iff_ne.mpr df.1;revert a1 bQ;exact ag.1):P:=h ⟨k⟩
theorem GJ(h:aI Q→P:=by
 intro ag;refine JT ?_;intro a1 qZ;revert a1 qZ;exact ag.1):P:=h ⟨k⟩
theorem GK(h:aI Q→P:=by
 intro ag;refine Q9 ?_;intro a1 bQ fs;revert a1 bQ fs;exact ag.1):P:=h ⟨k⟩
theorem C5(h:aI Q→P:=by
 intro ag;have As:(92==q)=false:=beq_eq_false_iff_ne.mpr gT.1;have iz:0≤q∧q<256:=by have:=h.ar;omega
 have lJ:=I (show IntKind.i32.wrap q=q by unfold IntKind.wrap;simp[IntKind.bits,IntKind.signed];omega);have At:=lJ.1;revert As iz lJ At;exact ag.1):P:=h ⟨k⟩
theorem Tt(h:aI Q→P:=by
 intro ag;have hf:(y==34)=false:=beq_eq_false_iff_ne.mpr (by omega);have s1:(y==39)=false:=beq_eq_false_iff_ne.mpr (by omega);have s2:(y==92)=false:=beq_eq_false_iff_ne.mpr (by omega);have rM:(y==63)=false:=beq_eq_false_iff_ne.mpr (by omega);have rN:(y==97)=false:=beq_eq_false_iff_ne.mpr (by omega);have rO:(y==98)=false:=beq_eq_false_iff_ne.mpr (by omega);have vT:(y==110)=false:=beq_eq_false_iff_ne.mpr (by omega);have Au:(y==114)=false:=beq_eq_false_iff_ne.mpr (by omega);have Av:(y==116)=false:=beq_eq_false_iff_ne.mpr (by omega);have Aw:(y==118)=false:=beq_eq_false_iff_ne.mpr (by omega);have Ax:(y==102)=false:=beq_eq_false_iff_ne.mpr (by omega);revert hf s1 s2 rM rN rO vT Au Av Aw Ax;exact ag.1):P:=h ⟨k⟩
theorem Tu(h:aI Q→P:=by
 intro ag;have al:=cT.1 _ (Below.refl _ _);obtain⟨ao,c1,te,bO⟩:=h.v.from_ 1 (by omega);have bs:∀aQ:World,(Instr.slice 22 (.slice (some ⟨bt,bR,none⟩) n c) (some (.int .i64 1)) none none).run Tryz.prog aQ=.ok (.slice ao (n-1) c1) aQ:=te;have bl:=I bO;clear te bO;revert al ao c1 bs bl;exact ag.1):P:=h ⟨k⟩
theorem se(h:aI Q→P:=by
 intro ag;have aT:=hw.aT;have bh:=hw.bh;have bA:=hw.bA;have y3:=hw.y3;have z0:=hw.z0;have cp:=hw.cp;have z2:=hw.z2;have z3:=hw.z3;have aC:=I hw.b;have bV:=I aq;have bU:=I aZ;have cr:=I hp;have av:=I dd;have cW:=I (show m1≤100000 by have:=aZ.dN;omega);have k2:=I aZ.dN;revert aT bh bA y3 z0 cp z2 z3 aC bV bU cr av cW k2;exact ag.1):P:=h ⟨k⟩
theorem j3(h:aI Q→P:=by
 intro ag;intro g ec dc eE dv dD dE eQ eR;simp only[xH,qK,sK,nA];have av:=I h;revert g ec dc eE dv dD dE eQ eR av;exact ag.1):P:=h ⟨k⟩
theorem K9(h:aI Q→P:=by
 intro ag;obtain⟨ao,c0,fV,hr⟩:=bU.1.from_ 1 tP;have bl:=I hr;have bs:∀aQ:World,(Instr.slice 22 (.slice (some ⟨bt,bR,none⟩) m1 c1) (some (.int .i64 1)) none none).run Tryz.prog aQ=.ok (.slice ao (m1-1) c0) aQ:=fV;clear hr fV;revert ao c0 bl bs;exact ag.1):P:=h ⟨k⟩
theorem Tv(h:aI Q→P:=by
 intro ag;obtain⟨ao,c1,bs,bO⟩:=h.v.from_ 1 dY.1;have jN:∀aQ:World,(Instr.slice 22 (.slice A n c) (some (.int .i64 1)) none none).run Tryz.prog aQ=.ok (.slice ao (n-1) c1) aQ:=bs;obtain⟨f,aA⟩:=h.d;have dz:=I aA;obtain⟨j,bq⟩:=h.jE;obtain⟨k,ad⟩:∃k,k=s.length-(n-1):=⟨_,rfl⟩;have p8:=h.v.dN;have oS:n=s.length-j:=by rw[p8,bq,List.length_drop]
 revert ao c1 bs bO jN f aA dz j bq k ad p8 oS;exact ag.1):P:=h ⟨k⟩
theorem La(h:aI Q→P:=by
 intro ag;obtain⟨ao,kr,fV,hr⟩:=bU.1.from_ 1 tP;have bl:=I hr;have bs:∀aQ:World,(Instr.slice 22 (.slice (some ⟨bt,bR,none⟩) m1 c1) (some (.int .i64 1)) none none).run Tryz.prog aQ=.ok (.slice ao (m1-1) kr) aQ:=fV;clear hr fV;revert ao kr bl bs;exact ag.1):P:=h ⟨k⟩
theorem Tw(h:aI Q→P:=by
 intro ag;obtain⟨bd,vj,hA0,kh⟩:=Oi (P:=Tryz.prog) (Value.int .u8) 0 22 5 .i64 Tryz.underlying22 iJ o7 ao c0 aj bm (of_decide_eq_true fK) (of_decide_eq_true fK) dj.1;have vY:=I (ab.vO (h1:=fun _=>rfl) (hA0 _ (ab.xw cK.1)));have iq:=I kh;clear hA0 kh;revert bd vj vY iq;exact ag.1):P:=h ⟨k⟩
theorem j1(h:aI Q→P:=by
 intro ag;obtain⟨jk,jl,jm,jn,jw,yo,iA,jo⟩:=bE.1;have jq:=CM jw;have jr:=CN jw;have js:=CO jw;have jt:=CP jw;have ju:=fy jw 1;have jv:=fy jw 2;clear jw yo;revert jk jl jm jn iA jo jq jr js jt ju jv;exact ag.1):P:=h ⟨k⟩
theorem vk(h:aI Q→P:=by
 intro ag;obtain⟨om,oo,oq,ot,jw,yo,lx,ou⟩:=bE.1;have ov:=CM jw;have ow:=CN jw;have ox:=CO jw;have oy:=CP jw;have oz:=fy jw 1;have oA:=fy jw 2;clear jw yo;revert om oo oq ot lx ou ov ow ox oy oz oA;exact ag.1):P:=h ⟨k⟩
theorem r0(h:aI Q→P:=by
 intro ag;obtain⟨gy,bx,fT,ba,bQ⟩:=gY cK.1 (cH);revert gy bx fT ba bQ;exact ag.1):P:=h ⟨k⟩
theorem Ay(h:aI Q→P:=by
 intro ag;obtain⟨o2,Lb⟩:∃a,a=(if a8 (bc false (s.drop n)) 58=true then k+128 else k):=⟨_,rfl⟩;rw[←Lb];have p7:=I Lb;clear Lb;have bl:=I (And.intro hh (And.intro bs (And.intro bP bO)));have bj:=I (h0.k.ft cE.1 cA (by simp));have ct:=I (c6.after bT.1.k h0);obtain⟨bW,bZ,b0,b1,b2,Z2,b3,b4,b5,b6,b7,b8⟩:=gO bj.1;revert o2 p7 bl bj ct bW bZ b0 b1 b2 Z2 b3 b4 b5 b6 b7 b8;exact ag.1):P:=h ⟨k⟩
theorem yp(h:aI Q→P:=by
 intro ag;obtain⟨b,o,e,ae⟩:=(h.v.below (dq h.bu h.bu.size U)).cell 0 (by omega);revert b o e ae;exact ag.1):P:=h ⟨k⟩
theorem Az(h:aI Q→P:=by
 intro ag;obtain⟨bt,bR,hA0,al⟩:=(aA.gm.below aA.bu).cell 0 Fw;rw[Nat.add_zero,show rd s ((0:Nat):Int)=x by rw[ak];rfl]at al;have c5:=c5;rw[hA0]at c5;obtain⟨n,aq⟩:∃n,n=s.length:=⟨_,rfl⟩;rw[←aq]at c5;have dV:0<n:=by rw[aq,ak];simp
 have m0:=eq_true (show(0:Int)<(n:Int)by omega);have m1:=eq_true dV;replace al:=al;replace c5:=c5;revert bt bR hA0 n aq dV m0 m1 al c5;exact ag.1):P:=h ⟨k⟩
theorem aa4(h:aI Q→P:=by
 intro ag;obtain⟨di,ek,aD,al⟩:=(bl.1.below aC.1).cell 1 j0;revert di ek aD al;exact ag.1):P:=h ⟨k⟩
theorem GL(h:aI Q→P:=by
 intro ag;obtain⟨c0,c1⟩:=id oT;have kv:=I jK;obtain⟨L,bD⟩:∃L,L=bits .or .u8 c 32:=⟨_,rfl⟩;have mr:=aa5 c c0 c1;rw[←bD]at mr;obtain⟨aj,cC⟩:=id mr;replace mr:=mr;revert c0 c1 kv L bD aj cC mr;exact ag.1):P:=h ⟨k⟩
theorem Lc(h:aI Q→P:=by
 intro ag;obtain⟨d0,d1⟩:=id hdig;have iD:dg c=c-48:=by unfold dg;rw[if_pos ⟨d0,d1⟩]
 have eZ:=I (show dg c<16∧dg c=c-48 by rw[iD];exact⟨(by omega),rfl⟩);revert d0 d1 iD eZ;exact ag.1):P:=h ⟨k⟩
theorem Tx(h:aI Q→P:=by
 intro ag;obtain⟨f,aA⟩:=h.d.d;have c5:=aA.c5;have ke:=aA.gm;have lQ:=aA.bu;obtain⟨bt,bR,hA0,al⟩:=(ke.below lQ).cell 0 (by rw[hu];simp);rw[Nat.add_zero,show rd u ((0:Nat):Int)=q by rw[hu];rfl]at al;rw[hA0]at c5;obtain⟨k,ad⟩:∃k,k=u.length:=⟨_,rfl⟩;rw[←ad]at c5;have dV:0<k:=by rw[ad,hu];simp
 have m0:decide ((k:Int)>0)=true:=decide_eq_true (by omega);have m1:=eq_true (show(0:Int)<(k:Int)by omega);have m2:=eq_true dV;have fk:=I hu;have C6:=I ar;have aV:=I ad;replace al:=al;replace c5:=c5;revert f aA ke lQ bt bR hA0 k ad dV m0 m1 m2 fk C6 aV al c5;exact ag.1):P:=h ⟨k⟩
theorem Ty(h:aI Q→P:=by
 intro ag;obtain⟨cH,fN⟩:∃ki:Int,(wrap64 (bm-1))=ki:=⟨_,rfl⟩;have H:(if 0≤(cH)then(if(cH)<(aj.length:Int)then(if(rd aj (cH))=46 then(hb.cD cY aj bm aj (aj.length:Int) bm false)else(if(rd aj (cH))<48 then(hb.cD cY aj bm aj (aj.length:Int) bm true)else(hb.cD cY aj bm aj (aj.length:Int) bm (decide ((rd aj (cH))>57)))))else(none))else(none))=some r:=by first|(rw[fN]at H;exact H)|(simp only[fN]at H⊢;exact H)
 have q6:(IntKind.i64.wrap (bm-1))=cH:=(jj _).trans fN;revert cH fN H q6;exact ag.1):P:=h ⟨k⟩
theorem Tz(h:aI Q→P:=by
 intro ag;obtain⟨kx,p2⟩:∃ki:Int,(wrap64 (cg+1))=ki:=⟨_,rfl⟩;have H:(if 0≤(kx)then(if(kx)<(aj.length:Int)then(if(rd aj (kx))=120 then(some (!true))else(some (!((rd aj (kx))==88))))else(none))else(none))=some r:=by first|(rw[p2]at H;exact H)|(simp only[p2]at H⊢;exact H)
 revert kx p2 H;exact ag.1):P:=h ⟨k⟩
theorem TA(h:aI Q→P:=by
 intro ag;obtain⟨t0,ao,H⟩:=id H
 try dsimp only at H
 have bd:=I ao;clear ao;replace H:=H;revert t0 bd H;exact ag.1):P:=h ⟨k⟩
theorem AA(h:aI Q→P:=by
 intro ag;obtain⟨t0,bd,H⟩:=id H
 try dsimp only at H
 have bF:=I bd;clear bd;replace H:=H;revert t0 bF H;exact ag.1):P:=h ⟨k⟩
theorem Ld(h:aI Q→P:=by
 intro ag;obtain⟨GM,wG⟩:∃mb,mb=w1.heap.size:=⟨_,rfl⟩;have jg:=jg;rw[←wG]at jg⊢;clear wG;have yq:=I ma;have vl:=I mC;replace jg:=jg;revert GM yq vl jg;exact ag.1):P:=h ⟨k⟩
theorem Le(h:aI Q→P:=by
 intro ag;obtain⟨aT,cL⟩:∃iE:List Int,iE=(([(cm)%256]:List Int)):=⟨_,rfl⟩;revert aT cL;exact ag.1):P:=h ⟨k⟩
theorem TB(h:aI Q→P:=by
 intro ag;obtain⟨ys,pS,zW⟩:∃ys:List Int,Lib.strCells s=il ys∧ys.length=s.size:=⟨s.data.toList.map (fun b=>(b.toNat:Int)),(by simp only[Lib.strCells,il,ny,List.map_map];rfl),(by rw[List.length_map,Array.length_toList];rfl)⟩;revert ys pS zW;exact ag.1):P:=h ⟨k⟩
theorem Lf(h:aI Q→P:=by
 intro ag;refine(nk wH.1 44).mono ?_;rintro bk C7 ⟨rfl,cq⟩;rw[aC.1];have qf:=I cq;clear cq;revert C7 qf;exact ag.1):P:=h ⟨k⟩
theorem GN(h:aI Q→P:=by
 intro ag;refine(TC gE.1 cW.1 _ _ _ _ (Below.refl _ _)).mono ?_;rintro bk bf ⟨bn,rfl,az⟩;have aC:=I az;clear az;revert bf bn aC;exact ag.1):P:=h ⟨k⟩
theorem tf(h:aI Q→P:=by
 intro ag;refine bodyPost_ret (results_none rfl _ _ _) rfl ?_;exact ag.1):P:=h ⟨k⟩
theorem TD(h:aI Q→P:=by
 intro ag;refine mQ Tryz.func21 aM rfl #[.agg #[.int .u8 k,.int .u8 a,.int .u8 n,.int .i64 po,.slice A m c,.string x]] (by rfl) rfl rfl mX ?_
 with_reducible refine(C8 k a n po A m c x _).mono ?_
 rintro e v0 ⟨rfl,eV⟩;refine⟨_,rfl,?_⟩;revert v0 eV;exact ag.1):P:=h ⟨k⟩
theorem Lg(h:aI Q→P:=by
 intro ag;refine mQ Tryz.func30 aM rfl #[.agg #[.int .u8 k,.int .u8 a,.int .u8 n,.int .i64 po,.slice A m c,.string x]] (by rfl) rfl rfl mX ?_
 with_reducible refine(aa6 k a n po A m c x _).mono ?_
 rintro e v1 ⟨rfl,eV⟩;refine⟨_,rfl,?_⟩;revert v1 eV;exact ag.1):P:=h ⟨k⟩
theorem GO(h:aI Q→P:=by
 intro ag;refine mQ Tryz.func31 aM rfl #[.agg #[.int .u8 k,.int .u8 a,.int .u8 n,.int .i64 po,.slice A m c,.string x]] (by rfl) rfl rfl mX ?_;exact ag.1):P:=h ⟨k⟩
theorem Lh(h:aI Q→P:=by
 intro ag;refine JR ?_;exact ag.1):P:=h ⟨k⟩
theorem AB(h:aI Q→P:=by
 intro ag;refine aH.out _ _ trivial (fun hHeld=>?_);refine ik ?_;revert hHeld;exact ag.1):P:=h ⟨k⟩
theorem TE(h:aI Q→P:=by
 intro ag;refine leaves_cons (f:=57) (args:=#[.pointer (some ⟨hM,0,none⟩),.pointer (some ⟨di,0,none⟩),.pointer (some ⟨eS,0,none⟩)]) (by simp) (by simp[go_sem]) ?_;exact ag.1):P:=h ⟨k⟩
theorem TF(h:aI Q→P:=by
 intro ag;refine ax 0 103 ?_;refine ax 1 104 ?_;refine ax 2 105 ?_;refine ax 3 106 ?_;refine ax 5 108 ?_;refine ax 6 109 ?_;refine ax 7 110 ?_;refine ax 8 111 ?_;refine ax 9 112 ?_;refine ax 11 114 ?_;refine ax 12 115 ?_;refine ax 13 116 ?_;refine ax 14 117 ?_;refine ax 18 121 ?_;refine eb 4 107 ?_;refine eb 10 113 ?_;refine eb 15 118 ?_;refine ax 16 119 ?_;refine eb 17 120 ?_;refine ax 19 122 ?_;refine gb 20 123 fun K aH=>?_;refine px ?_;refine aH.out _ _ ⟨(bg (iU (gl jZ.1) _) 0).trans rfl,(bg (iU (gl jZ.1) _) 1).trans rfl,(bg (iU (gl jZ.1) _) 3).trans rfl,nj.1 _ (da (Below.drew wI.1) _)⟩ (fun hHeld=>?_);clear aH K;refine ik ?_;refine gb 21 124 fun K aH=>?_;revert hHeld K aH;exact ag.1):P:=h ⟨k⟩
theorem aa7(h:aI Q→P:=by
 intro ag;refine ax 0 132 ?_;refine ax 1 133 ?_;refine ax 2 134 ?_;refine ax 3 135 ?_;refine gb 4 136 fun K aH=>?_;refine px ?_;revert K aH;exact ag.1):P:=h ⟨k⟩
theorem TG(h:aI Q→P:=by
 intro ag;refine ax 0 196 ?_;refine ax 1 197 ?_;refine ax 2 198 ?_;refine ax 3 199 ?_;refine ax 4 200 ?_;refine gb 5 201 fun K aH=>?_;refine mQ Tryz.func102 aM rfl #[.slice ao (n-1) c2,.string ⟨#[48,49,50,51,52,53,54,55]⟩] (by rfl) rfl rfl mX ?_
 with_reducible refine(aa8 (dP.1.below (dq av.1.bu av.1.bu.size (bw aC.1 (Nat.le_refl _) cX))) kz.1).mono ?_
 revert K aH;exact ag.1):P:=h ⟨k⟩
theorem TH(h:aI Q→P:=by
 intro ag;refine ax 0 21 ?_;refine ax 1 22 ?_;refine ax 2 23 ?_;refine ax 4 25 ?_;refine ax 5 26 ?_;refine ax 6 27 ?_;refine eb 3 24 ?_;refine eb 7 28 ?_;refine ax 8 29 ?_;refine ax 9 30 ?_;refine ax 10 31 ?_;refine ax 11 32 ?_;refine ax 12 33 ?_;refine ax 13 34 ?_;refine ax 15 36 ?_;refine ax 16 37 ?_;refine ax 17 38 ?_;refine ax 18 39 ?_;refine eb 14 35 ?_;refine eb 19 40 ?_;refine gb 20 41 fun K aH=>?_;refine mQ Tryz.func74 aM rfl #[.slice bF B.length c2,.int .i64 (f:Int),.int .i64 (q:Int)] (by rfl) rfl rfl mX ?_
 with_reducible refine(aa9 ff.out (kH dG.1.bu) aV.1.1 fz.1 U dS.1).mono ?_
 revert K aH;exact ag.1):P:=h ⟨k⟩
theorem aba(h:aI Q→P:=by
 intro ag;refine ax 0 236 ?_;refine ax 1 237 ?_;refine ax 2 238 ?_;refine ax 3 239 ?_;refine ax 4 240 ?_;refine gb 5 241 fun K aH=>?_;refine mQ Tryz.func102 aM rfl #[.slice ao (n-2) c2,.string ⟨#[48,49,50,51,52,53,54,55,56,57,97,98,99,100,101,102,65,66,67,68,69,70]⟩] (by rfl) rfl rfl mX ?_
 with_reducible refine(TI (dP.1.below (dq av.1.bu av.1.bu.size (bw aC.1 (Nat.le_refl _) cX))) kz.1).mono ?_
 revert K aH;exact ag.1):P:=h ⟨k⟩
theorem yr(h:aI Q→P:=by
 intro ag;refine ax 5 4 ?_;refine ax 6 7 ?_;refine jX aM ?_;exact ag.1):P:=h ⟨k⟩
theorem yt(h:aI Q→P:=by
 intro ag;refine tG ?_;refine aH.out _ _ ?_;refine jX aM ?_;exact ag.1):P:=h ⟨k⟩
theorem TJ(h:aI Q→P:=by
 intro ag;refine eb 0 39 ?_;refine eb 1 40 ?_;refine ax 2 41 ?_;refine ax 3 42 ?_;refine eb 4 43 ?_;refine gb 5 44 fun K aH=>?_;refine mQ Tryz.func62 aM rfl #[.agg #[.int .u8 0,.bool false,.int .i64 (sz:Int),.int .i64 (sp:Int)],.slice f0.gX s.length f0.ci] (by rfl) rfl rfl mX ?_;revert K aH;exact ag.1):P:=h ⟨k⟩
theorem wJ(h:aI Q→P:=by
 intro ag;have H:(some aT)=some r:=by first|(rw[cL];with_reducible exact H)|(exact Rh)|(exact Ri)|with_reducible exact H|(rw[cL];exact H)|exact H
 have gG:=I cL;revert H gG;exact ag.1):P:=h ⟨k⟩
theorem jB(h:aI Q→P:=by
 intro ag;have H:=Option.bind_eq_some_iff.mp H;revert H;exact ag.1):P:=h ⟨k⟩
theorem GP(h:aI Q→P:=by
 intro ag;have gn:=I (ab.mn (ab.tC (cj.apart (show cj w0 _ g bY t4 t5 cQ from by repeat(first|(with_reducible first|exact bE.1|apply cj.alloc|apply cj.drewN|apply cj.drew|apply cj.xI|apply cj.B0)|exact bE.1)) B5 (by decide)) ad (fun _ h=>h.2)) (fun _ h=>h.1));refine vb ?_;intro aV a7 bE;refine Ga ?_;intro iB;revert gn aV a7 bE iB;exact ag.1):P:=h ⟨k⟩
theorem C9(h:aI Q→P:=by
 intro ag;have fT:=mL a7.1 fT;have ba:=eq_true ba;have bQ:=eq_true bQ;revert fT ba bQ;exact ag.1):P:=h ⟨k⟩
theorem Li(h:aI Q→P:=by
 intro ag;rintro e v2 ⟨rfl,eV⟩;refine⟨_,rfl,?_⟩;have eP:=I (bw bM.1 (Nat.le_refl _) eV);revert v2 eV eP;exact ag.1):P:=h ⟨k⟩
theorem yu(h:aI Q→P:=by
 intro ag;rintro e w1 ⟨rfl,hi,U,ad⟩;have gn:=I (ab.mn (ab.tC (cj.apart (show cj w0 _ g bY b9 cm cQ from by repeat(first|(with_reducible first|exact bE.1|apply cj.alloc|apply cj.drewN|apply cj.drew|apply cj.xI|apply cj.B0)|exact bE.1)) B5 (by decide)) ad (fun _ h=>h.2)) (fun _ h=>h.1));refine vb ?_;intro aV a7 bE;revert w1 hi U ad gn aV a7 bE;exact ag.1):P:=h ⟨k⟩
theorem q7(h:aI Q→P:=by
 intro ag;rintro bk w1 ⟨ao,c7,rfl,bO,h0⟩;have bj:=I (h0.k.ft cE.1 cA (by simp));have bl:=I bO;have ct:=I ((fun a b=>c6.m (c6.after a.k b)) bT.1 h0);obtain⟨bW,bZ,b0,b1,b2,Z2,b3,b4,b5,b6,b7,b8⟩:=gO bj.1;clear bO h0;revert w1 ao c7 bj bl ct bW bZ b0 b1 b2 Z2 b3 b4 b5 b6 b7 b8;exact ag.1):P:=h ⟨k⟩
theorem Kf(h:aI Q→P:=by
 intro ag;rintro bk w1 ⟨ao,c7,rfl,bO,h0⟩;have bj:=I (h0.k.ft cE.1 cA (by simp));have bl:=I bO;have ct:=I (ey.n bT.1 h0);obtain⟨bW,bZ,b0,b1,b2,Z2,b3,b4,b5,b6,b7,b8⟩:=gO bj.1;clear bO h0;revert w1 ao c7 bj bl ct bW bZ b0 b1 b2 Z2 b3 b4 b5 b6 b7 b8;exact ag.1):P:=h ⟨k⟩
theorem TK(h:aI Q→P:=by
 intro ag;rintro bk w1 ⟨rfl,eV⟩;have AD:=I (bw GQ.1 (Nat.le_refl _) eV);have dn:=I (cn aV.1 eV);have iZ:=I (cn bj.1 eV);have vm:=I (cn hE.1 eV);clear eV;revert w1 AD dn iZ vm;exact ag.1):P:=h ⟨k⟩
theorem GR(h:aI Q→P:=by
 intro ag;rintro bk w1 ⟨⟨dI,dQ,rfl⟩,az⟩;have bj:=I (cn cE.1 (bw cX (Nat.le_refl _) az));have ct:=I (bT.1.below (bw cX (Nat.le_refl _) az)).m;obtain⟨bW,bZ,b0,b1,b2,Z2,b3,b4,b5,b6,b7,b8⟩:=gO bj.1;clear az;revert w1 dI dQ bj ct bW bZ b0 b1 b2 Z2 b3 b4 b5 b6 b7 b8;exact ag.1):P:=h ⟨k⟩
theorem TL(h:aI Q→P:=by
 intro ag;rintro bk bf ⟨⟨str,rfl, -⟩,ee⟩;have eP:=I (bw (w:=cJ) cX (Nat.le_refl _) ee);have ao:=I (oB.1.below eP.1);have lR:=I (cn dY.1 eP.1);have fB:=ao.1.c4;have cD:=ao.1.c5;have gL:=(bg lR.1 0).trans rfl;have gZ:=(bg lR.1 1).trans rfl;have de:=(bg lR.1 2).trans rfl;have iI:=(bg lR.1 3).trans rfl;revert bf ee str eP ao lR fB cD gL gZ de iI;exact ag.1):P:=h ⟨k⟩
theorem aaH(h:aI Q→P:=by
 intro ag;rintro bk bf ⟨⟨dI,dQ,rfl⟩,az⟩;have bM:=I (bw (w:=w1) cX (Nat.le_refl _) az);clear az;revert bf dI dQ bM;exact ag.1):P:=h ⟨k⟩
theorem Lj(h:aI Q→P:=by
 intro ag;rintro bk wc ⟨rfl,eV⟩;have yv:=I (bw x6.1 (Nat.le_refl _) eV);have uo:=I (cn CQ.1 eV);have GS:=I (cn z6.1 eV);have uq:=I (cn CR.1 eV);clear eV;revert wc yv uo GS uq;exact ag.1):P:=h ⟨k⟩
theorem AE(h:aI Q→P:=by
 intro ag;rintro bk ur ⟨rfl,cq⟩;have bS:=I cq;clear cq;revert ur bS;exact ag.1):P:=h ⟨k⟩
theorem abb(h:aI Q→P:=by
 intro ag;rintro v0 w1 ⟨mA,mB⟩;have J:=I mA;have fA:=I mB;clear mA mB;revert v0 w1 J fA;exact ag.1):P:=h ⟨k⟩
theorem Lk(h:aI Q→P:=by
 intro ag;have al:=al;rw[Int.toNat_natCast]at al;replace al:=(cT.1.bu.cell (World.block_lt_of_cell? w0 _ al)).trans al;replace al:=al;revert al;exact ag.1):P:=h ⟨k⟩
theorem GU(h:aI Q→P:=by
 intro ag;have al:=al;rw[Int.toNat_natCast]at al;replace al:=(h.bu.cell (World.block_lt_of_cell? w0 _ al)).trans al;replace al:=al;revert al;exact ag.1):P:=h ⟨k⟩
theorem GV(h:aI Q→P:=by
 intro ag;have w0:=w0;rw[Nat.add_zero]at w0;obtain⟨x,ae⟩:∃x,x=rd (r) ((0:Nat):Int):=⟨_,rfl⟩;rw[←ae]at w0;replace w0:=w0;revert x ae w0;exact ag.1):P:=h ⟨k⟩
theorem TM(h:aI Q→P:=by
 intro ag;rw[if_pos (show a6 s 1/64=2 by omega),if_pos a1,show k+6=(k+5)+1 from rfl,Da s _ _ 2 (k+5) (by omega) (by omega) (by omega) (by omega) (by omega) U];exact ag.1):P:=h ⟨k⟩
theorem AF(h:aI Q→P:=by
 intro ag;rw[show eA=.agg #[.int .u8 0,.int .u8 0,.int .u8 0,.int .i64 0,.slice none 0 0,.string ⟨#[]⟩]from rfl];exact ag.1):P:=h ⟨k⟩
theorem vn(h:aI Q→P:=by
 intro ag;rw[show eA=.agg #[.int .u8 0,.int .u8 0,.int .u8 0,.int .i64 0,.slice none 0 0,.string ⟨#[]⟩]from rfl];have bj:=I (h0.k.ft cE.1 cA (by simp));have ct:=I (c6.after bT.1.k h0);obtain⟨bW,bZ,b0,b1,b2,Z2,b3,b4,b5,b6,b7,b8⟩:=gO bj.1;revert bj ct bW bZ b0 b1 b2 Z2 b3 b4 b5 b6 b7 b8;exact ag.1):P:=h ⟨k⟩
theorem Ll(h:aI Q→P:=by
 intro ag;have cR:=cR;rw[←sa]at cR⊢;have dY:=I cR;have aC:=I az;have dc:=(bg cR 0).trans rfl;have dv:=(bg cR 1).trans rfl;have gf:=(bg cR 2).trans rfl;have gF:=(bg cR 3).trans rfl;have yd:=I (dL.1.below az);have hT:=I (cn bz.1 az);have ue:=I (cn im.1 az);have Ad:=I (cn kB.1 az);have c7:=(bg hT.1 0).trans rfl;clear cR;obtain⟨f0,gQ⟩:=yd.1.d;have cd:=gQ.c5;have bl:=I (gQ.gm.below gQ.bu);have oC:=I gQ;clear gQ;revert dY aC dc dv gf gF yd hT ue Ad c7 f0 cd bl oC;exact ag.1):P:=h ⟨k⟩
theorem Lm(h:aI Q→P:=by
 intro ag;have w1:=w1;rw[←aX]at w1;refine TN ?_;intro lL dm n3 n4;obtain⟨ao,c4,fV,hr⟩:=bU.1.from_ 2 (by have:=pE.1;omega);have bl:=I hr;have bs:∀aQ:World,(Instr.slice 22 (.slice (some ⟨bt,bR,none⟩) m1 c1) (some (.int .i64 2)) none none).run Tryz.prog aQ=.ok (.slice ao (m1-2) c4) aQ:=fV;clear hr fV;replace w1:=w1;revert lL dm n3 n4 ao c4 bl bs w1;exact ag.1):P:=h ⟨k⟩
theorem lS(h:aI Q→P:=by
 intro ag;have bK:=bK;simp only[Int.reduceToNat]at bK;rw[←gG.1]at bK;replace bK:=bK;revert bK;exact ag.1):P:=h ⟨k⟩
theorem jC(h:aI Q→P:=by
 intro ag;have H:=H;simp only[Option.some.injEq,Prod.mk.injEq]at H;replace H:=H;revert H;exact ag.1):P:=h ⟨k⟩
theorem r2(h:aI Q→P:=by
 intro ag;have h:=h;simp only[Option.some.injEq,Prod.mk.injEq]at h;replace h:=h;revert h;exact ag.1):P:=h ⟨k⟩
theorem yw(h:aI Q→P:=by
 intro ag;simp only[py,mu];have av:=I h;have fZ:=I ai;revert av fZ;exact ag.1):P:=h ⟨k⟩
theorem qg(h:aI Q→P:=by
 intro ag;simp only[vX,zA,vW,tH,rP,oW,oa,mU,l1];exact ag.1):P:=h ⟨k⟩
theorem Co(h:aI Q→P:=by
 intro ag
 go_at_call 111
 refine(Tryz.internal_strconv_lower _ _).mono ?_;exact ag.1):P:=h ⟨k⟩
theorem RN(h:aI Q→P:=by
 intro ag
 go_at_call 125
 (with_reducible refine(wK.calls bm t0 _ bd.1).mono ?_)
 rintro e w1 ⟨v2,rfl,bK,U⟩;have gK:=I (ab.jU bK (mP (w:=w) (g:=g) (row:=none) dB));have aV:=I (cI.trans dB (cI.kn U g none) (.inl rfl));have a7:=I (jV dT U);have bE:=I (cj.below dU U);revert w1 v2 bK U gK aV a7 bE;exact ag.1):P:=h ⟨k⟩
theorem SL(h:aI Q→P:=by
 intro ag
 go_at_call 43
 refine(Ab dL.1.d 0 (Nat.zero_le _)).mono ?_;rintro bk w1 ⟨rfl,h0⟩;rw[List.drop_zero,ej.1]at h0;have cE:=I (h0.k.ft bz.1 cA (by simp));have bT:=I (c6.after dL.1.k h0);replace h0:=h0;revert w1 cE bT h0;exact ag.1):P:=h ⟨k⟩
theorem Rd(h:aI Q→P:=by
 intro ag
 go_at_call 43
 refine(Ab vo.1.d sz zJ).mono ?_;rintro bk w3 ⟨rfl,h0⟩;have dO:=I (c6.after vo.1.k h0);have bj:=I (h0.k.ft kB.1 cA (by simp));have M2:=h0.k.ft tV.1 Rc.1 (by simp);revert w3 h0 dO bj M2;exact ag.1):P:=h ⟨k⟩
theorem SM(h:aI Q→P:=by
 intro ag
 go_at_call 48
 refine(abc bT.1.d hA.1).mono ?_;rintro bk w1 ⟨rfl,h0⟩;rw[hK.1,hL.1];have s8:=I (h0.k.ft cE.1 cA (by simp));have iw:=I (c6.after bT.1.k h0);have cE:=I s8.1;have bT:=I iw.1;clear s8 iw;revert w1 h0 cE bT;exact ag.1):P:=h ⟨k⟩
theorem Qt(h:aI Q→P:=by
 intro ag
 go_at_call 80
 refine(Kx (av.1.1.d.below (dq av.1.1.b av.1.1.b.size (bw av.1.2.1 (Nat.le_refl _) (bw aC.1 (Nat.le_refl _) cX)))) _ _ _ 0 lM.1 (by decide)).mono ?_;rintro bk w1 ⟨⟨dI,dQ,rfl⟩,az⟩;have bM:=I (bw (dq av.1.1.b av.1.1.b.size (bw av.1.2.1 (Nat.le_refl _) (bw aC.1 (Nat.le_refl _) cX))) (Nat.le_refl _) az);have bj:=I (cn (cn av.1.1.x (bw av.1.2.1 (Nat.le_refl _) (bw aC.1 (Nat.le_refl _) cX))) az);revert w1 az dI dQ bM bj;exact ag.1):P:=h ⟨k⟩
theorem SU(h:aI Q→P:=by
 intro ag;have dL:=I (h.here.below (da (Below.refl _ _) (.cells #[.int .u8 0,.int .u8 0,.int .u8 0,.int .i64 0,.slice none 0 0,.string ⟨#[]⟩] 47)));have bz:=I (gV w (.cells #[.int .u8 0,.int .u8 0,.int .u8 0,.int .i64 0,.slice none 0 0,.string ⟨#[]⟩] 47));revert dL bz;exact ag.1):P:=h ⟨k⟩
theorem abd(h:aI Q→P:=by
 intro ag;have dO:=I (ah (x:=92) (t1:=120::t2) (by decide) (by decide)).1;have fP:=I (ah (x:=92) (t1:=120::t2) (by decide) (by decide)).2;refine q1 ?_;revert dO fP;exact ag.1):P:=h ⟨k⟩
theorem CV(h:aI Q→P:=by
 intro ag;have bS:=I (And.intro h.lt (Nat.le_trans h.ge (Nat.le_of_lt h.lt)));revert bS;exact ag.1):P:=h ⟨k⟩
theorem QX(h:aI Q→P:=by
 intro ag;have mW:=I (show fF ((s.drop 2).drop j)=true→iy xs=.agg #[.int .u8 0,.bool false,.int .i64 0,.int .i64 0]from fun h=>by unfold iy;rw[qL.1];unfold kP;rw[if_pos h]);revert mW;exact ag.1):P:=h ⟨k⟩
theorem JN(h:aI Q→P:=by
 intro ag;have k0:=I (show dr x=true by unfold dr;simp only[Bool.or_eq_true,Bool.and_eq_true,decide_eq_true_eq];omega);revert k0;exact ag.1):P:=h ⟨k⟩
theorem vb(h:aI Q→P:=by
 intro ag;have aV:=I (cI.trans dB ad (.inl rfl));have a7:=I (U);have bE:=I (hi);revert aV a7 bE;exact ag.1):P:=h ⟨k⟩
theorem KE(h:aI Q→P:=by
 intro ag;have ef:=I cb;have gr:0<s.length:=by rw[ae];simp
 have gI:=I gr;have eX:=I (show 1≤s.length from gr);revert ef gr gI eX;exact ag.1):P:=h ⟨k⟩
theorem yx(h:aI Q→P:=by
 intro ag;have cW:=I hm;have jL:=I dM;refine lN ?_;intro hA hK hL;revert cW jL hA hK hL;exact ag.1):P:=h ⟨k⟩
theorem QO(h:aI Q→P:=by
 intro ag;have bV:=I (show gB qh (decide (told=2)||qT c) (B.drop (q+1))=gB qh false (B.drop (p+1))by rw[←aV.1.2.2.2.1,cf.1,←fZ.1,Db _ _ _ _ dW.1 H1.1 AG.1]);revert bV;exact ag.1):P:=h ⟨k⟩
theorem Ln(h:aI Q→P:=by
 intro ag;have dG:=I ae;have gw:=I hm;have m0:decide ((m:Int)>0)=true:=decide_eq_true (by omega);refine ym ?_;revert dG gw m0;exact ag.1):P:=h ⟨k⟩
theorem GW(h:aI Q→P:=by
 intro ag;have cT:=I aW;have df:=I cv;have gS:=I eK;refine wC ?_;intro et gE fk;have gR:=I aq;revert cT df gS et gE fk gR;exact ag.1):P:=h ⟨k⟩
theorem TN(h:aI Q→P:=by
 intro ag;have lL:=I (show s.drop 1=y::s.drop 2 by rw[aX];exact gz s 1 aaa);have dm:decide ((m1:Int)>1)=true:=decide_eq_true (by omega);have n3:=eq_true (show(1:Int)<(m1:Int)by omega);have n4:=eq_true rU;revert lL dm n3 n4;exact ag.1):P:=h ⟨k⟩
theorem JW(h:aI Q→P:=by
 intro ag;have eS:(decide (c≥128))=false:=decide_eq_false (by omega);have Cx:(decide (c<128))=true:=decide_eq_true (by omega);revert eS Cx;exact ag.1):P:=h ⟨k⟩
theorem KP(h:aI Q→P:=by
 intro ag;have f0:(x==95)=false:=beq_eq_false_iff_ne.mpr (by omega);have ln:(decide (97≤x))=true:=decide_eq_true (by omega);revert f0 ln;exact ag.1):P:=h ⟨k⟩
theorem An(h:aI Q→P:=by
 intro ag;have lv:(decide (x≤57))=false:=decide_eq_false (by omega);revert lv;exact ag.1):P:=h ⟨k⟩
theorem SS(h:aI Q→P:=by
 intro ag;have ni:=da (Below.refl w.heap.size w) (.cells #[.pointer (some ⟨g,0,none⟩)] 38);have aW:=gV w (.cells #[.pointer (some ⟨g,0,none⟩)] 38);have fH:(w.alloc (.cells #[.pointer (some ⟨g,0,none⟩)] 38)).heap.size=w.heap.size+1:=Array.size_push ..;have cv:=gV (w.alloc (.cells #[.pointer (some ⟨g,0,none⟩)] 38)) (.cells #[.int .u8 0,.int .u8 0,.int .u8 0,.int .i64 0,.slice none 0 0,.string ⟨#[]⟩] 47);have iu:((w.alloc (.cells #[.pointer (some ⟨g,0,none⟩)] 38)).alloc (.cells #[.int .u8 0,.int .u8 0,.int .u8 0,.int .i64 0,.slice none 0 0,.string ⟨#[]⟩] 47)).heap.size=w.heap.size+2:=(Array.size_push ..).trans (by rw[fH]);revert ni aW fH cv iu;exact ag.1):P:=h ⟨k⟩
theorem Ga(h:aI Q→P:=by
 intro ag;have iB:=X0 (P:=Tryz.prog) Tryz.underlying22 Tryz.underlying5 Tryz.underlying9 (ab.Ex gn.1);revert iB;exact ag.1):P:=h ⟨k⟩
theorem Dc(h:aI Q→P:=by
 intro ag;have eu:0<(92::y::t2).length:=by simp
 refine lz ?_;intro bl gx fq bV dY m0 fi fj;refine aaV ?_;intro dO fP;refine q1 ?_;revert eu bl gx fq bV dY m0 fi fj dO fP;exact ag.1):P:=h ⟨k⟩
theorem QS(h:aI Q→P:=by
 intro ag;have au:rd ((s.drop 2).drop j) ((0:Nat):Int)=rd (s.drop 2) (j:Int):=by rw[←Nat.add_zero j,←ta];rfl
 have bf:=bf;rw[au,Nat.add_zero]at bf;have l2:=I (gz (s.drop 2) j Ce);obtain⟨x,ae⟩:∃x,x=rd (s.drop 2) (j:Int):=⟨_,rfl⟩;rw[←ae]at bf;have dG:=I ae;have gw:=I hm;clear au ae;have m2:decide ((m:Int)>0)=true:=decide_eq_true (by omega);replace bf:=bf;revert l2 x dG gw m2 bf;exact ag.1):P:=h ⟨k⟩
theorem zP(h:aI Q→P:=by
 intro ag;have aW:decide (x≤57)=false:=decide_eq_false (by omega);revert aW;exact ag.1):P:=h ⟨k⟩
theorem FH(h:aI Q→P:=by
 intro ag;have ll:decide (48≤x)=true:=decide_eq_true (by omega);have sY:decide (97≤x)=false:=decide_eq_false (by omega);revert ll sY;exact ag.1):P:=h ⟨k⟩
theorem QU(h:aI Q→P:=by
 intro ag;have tU:decide (65≤x)=false:=decide_eq_false (by omega);have aW:decide (x≤57)=true:=decide_eq_true (by omega);have cv:decide (x≤102)=true:=decide_eq_true (by omega);have eK:decide (x≤70)=true:=decide_eq_true (by omega);revert tU aW cv eK;exact ag.1):P:=h ⟨k⟩
theorem JO(h:aI Q→P:=by
 intro ag;have tU:decide (65≤x)=true:=decide_eq_true (by omega);have aW:decide (x≤57)=false:=decide_eq_false (by omega);have cv:decide (x≤102)=true:=decide_eq_true (by omega);revert tU aW cv;exact ag.1):P:=h ⟨k⟩
theorem Cr(h:aI Q→P:=by
 intro ag;have m2:decide ((m:Int)>0)=false:=decide_eq_false (by omega);revert m2;exact ag.1):P:=h ⟨k⟩
theorem J4(h:aI Q→P:=by
 intro ag;have p0:0≤(cm:Int):=of_decide_eq_true fK;have a1:cm<(ys.length:Int):=of_decide_eq_true fK;obtain⟨dp,aD,eY⟩:=ab.iV vY.1 cm p0 a1;revert p0 a1 dp aD eY;exact ag.1):P:=h ⟨k⟩
theorem JT(h:aI Q→P:=by
 intro ag;have a1:decide ((q:Int)<(B.length:Int))=false:=decide_eq_false (by omega);have qZ:decide (q<B.length)=false:=decide_eq_false ar;revert a1 qZ;exact ag.1):P:=h ⟨k⟩
theorem Q9(h:aI Q→P:=by
 intro ag;have a1:decide ((q:Int)<(B.length:Int))=true:=decide_eq_true (by omega);have bQ:=eq_true (show(0:Int)≤(q:Int)by omega);have fs:=eq_true (show(q:Int)<(B.length:Int)by omega);revert a1 bQ fs;exact ag.1):P:=h ⟨k⟩
theorem FL(h:aI Q→P:=by
 intro ag;have z0:=fy bj.1 0;have cp:=fy bj.1 1;have z2:=fy bj.1 2;have z3:=fy bj.1 3;have z4:=fy bj.1 4;have z5:=fy bj.1 5;revert z0 cp z2 z3 z4 z5;exact ag.1):P:=h ⟨k⟩
theorem QT(h:aI Q→P:=by
 intro ag;obtain⟨cZ,c3,fV,hr⟩:=bU.1.1.from_ 1 tP;have dP:=I hr;have hn:∀aQ:World,(Instr.slice 22 (.slice (some ⟨eS,o1,none⟩) m c2) (some (.int .i64 1)) none none).run Tryz.prog aQ=.ok (.slice cZ (m-1) c3) aQ:=fV;clear hr fV;have hw:wrap64 (2+(j:Int)+1)=2+((j+1:Nat):Int):=by have h0:=lk.1;have h1:=xR.1;have h2:=bl.1.dN;have h3:=aV.1.2;unfold wrap64;omega
 have sP:=I hw;revert cZ c3 dP hn hw sP;exact ag.1):P:=h ⟨k⟩
theorem Kr(h:aI Q→P:=by
 intro ag;obtain⟨du,ud⟩:=bT.1.d;have c5:=ud.c5;obtain⟨eG,eH,TO,cB⟩:=(ud.gm.below ud.bu).cell 0 gI.1;rw[Nat.add_zero,fU.1]at cB;rw[TO]at c5;rw[←fv.1]at c5;clear ud TO;replace cB:=cB;replace c5:=c5;revert du eG eH cB c5;exact ag.1):P:=h ⟨k⟩
theorem JR(h:aI Q→P:=by
 intro ag;refine mQ Tryz.func40 aM rfl #[.int .u8 (rd B (q:Int))] (by rfl) rfl rfl mX ?_
 with_reducible refine(abe (rd B (q:Int)) _).mono ?_
 exact ag.1):P:=h ⟨k⟩
theorem Lo(h:aI Q→P:=by
 intro ag;refine wv ?_;intro w1 az aC;obtain⟨di,ek,bx,al⟩:=(bl.1.below aC.1).cell 1 j0;revert w1 az aC di ek bx al;exact ag.1):P:=h ⟨k⟩
theorem pK(h:aI Q→P:=by
 intro ag;refine wv ?_;intro w1 az aC;refine aa4 ?_;intro di ek aD al;revert w1 az aC di ek aD al;exact ag.1):P:=h ⟨k⟩
theorem GX(h:aI Q→P:=by
 intro ag;refine x2 ?_;intro f0 ln;have lp:(decide (65≤x))=false:=decide_eq_false (by omega);refine KQ ?_;revert f0 ln lp;exact ag.1):P:=h ⟨k⟩
theorem wL(h:aI Q→P:=by
 intro ag;refine abb ?_;intro v0 w1 J fA;refine AB ?_;intro hHeld;revert v0 w1 J fA hHeld;exact ag.1):P:=h ⟨k⟩
theorem yy(h:aI Q→P:=by
 intro ag;refine jB ?_;intro H;refine TA ?_;intro t0 bd H;revert t0 bd H;exact ag.1):P:=h ⟨k⟩
theorem TP(h:aI Q→P:=by
 intro ag;refine Le ?_;intro aT cL;have H:(some (aT,1,t2,t3))=some (r1,fe,iM,o8):=by first|(rw[cL];with_reducible exact H)|(exact s0)|(exact s3)|with_reducible exact H|(rw[cL];exact H)|exact H
 have gG:=I cL;clear cL;refine jC ?_;clear H;intro H;revert aT gG H;exact ag.1):P:=h ⟨k⟩
theorem TQ(h:aI Q→P:=by
 intro ag;refine Le ?_;intro aT cL;have H:(some (aT,1,fw,j2))=some (r1,fe,iM,o8):=by first|(rw[cL];with_reducible exact H)|(exact s0)|(exact s3)|with_reducible exact H|(rw[cL];exact H)|exact H
 have gG:=I cL;clear cL;refine jC ?_;clear H;intro H;revert aT gG H;exact ag.1):P:=h ⟨k⟩
theorem Lp(h:aI Q→P:=by
 intro ag;refine KL ?_;intro cK gT;have wz:=aX;have kz:=I (show∀x∈t2,0≤x∧x<256 from fun x ae=>fq.1 x tQ);revert cK gT wz kz;exact ag.1):P:=h ⟨k⟩
theorem wM(h:aI Q→P:=by
 intro ag;refine lN ?_;intro hA hK hL;have cT:=I aW;have df:=I cv;refine wC ?_;intro et gE fk;revert hA hK hL cT df et gE fk;exact ag.1):P:=h ⟨k⟩
theorem GY(h:aI Q→P:=by
 intro ag;refine aa7 ?_;intro K aH;refine AB ?_;clear aH K;intro hHeld;refine gb 5 137 fun K aH=>?_;revert hHeld K aH;exact ag.1):P:=h ⟨k⟩
theorem vp(h:aI Q→P:=by
 intro ag;refine kf ?_;intro H;have aK:=I H;clear H;revert aK;exact ag.1):P:=h ⟨k⟩
theorem yz(h:aI Q→P:=by
 intro ag;refine kf ?_;intro H;refine jB ?_;clear H;intro H;revert H;exact ag.1):P:=h ⟨k⟩
theorem oG(h:aI Q→P:=by
 intro ag;refine mz ?_;intro H;have aK:=I H;clear H;revert aK;exact ag.1):P:=h ⟨k⟩
theorem oH(h:aI Q→P:=by
 intro ag;refine Af ?_;intro cf ej bS dL bz nl ev fv;have cb:=h.len;refine SX ?_;clear ev cb;intro ef gI eX fU bn c8 dm;revert cf ej bS dL bz nl fv ef gI eX fU bn c8 dm;exact ag.1):P:=h ⟨k⟩
theorem sf(h:aI Q→P:=by
 intro ag;refine Af ?_;intro cf ej bS dL bz nl ev fv;refine aa1 ?_;intro cb ef eX;revert cf ej bS dL bz nl ev fv cb ef eX;exact ag.1):P:=h ⟨k⟩
theorem Dd(h:aI Q→P:=by
 intro ag;refine Af ?_;intro cf ej bS dL bz nl ev fv;refine KU ?_;intro cb;refine SX ?_;clear ev cb;revert cf ej bS dL bz nl fv;exact ag.1):P:=h ⟨k⟩
theorem q8(h:aI Q→P:=by
 intro ag;refine Af ?_;intro cf ej bS dL bz nl ev fv;refine aa2 ?_;intro cb ef gr gI eX;revert cf ej bS dL bz nl ev fv cb ef gr gI eX;exact ag.1):P:=h ⟨k⟩
theorem RG(h:aI Q→P:=by
 intro ag;refine IY 2 fun K aH=>?_;refine tG ?_;refine aH.out _ _ (Lq w1 w.heap.size (.int .u8 0) (.int .u8 0) (.int .u8 0) (.int .i64 0) (.slice none 0 0) (.string ⟨#[]⟩) 0 0 cA jO.1) (fun hHeld=>?_);clear aH K;refine ax 3 5 ?_;refine jX aM ?_;revert hHeld;exact ag.1):P:=h ⟨k⟩
theorem RE(h:aI Q→P:=by
 intro ag;refine ax 0 58 ?_;refine ax 1 59 ?_;refine ax 2 60 ?_;refine ax 3 61 ?_;refine ax 4 62 ?_;refine ax 5 63 ?_;refine ax 6 64 ?_;refine ax 7 65 ?_;refine ax 8 66 ?_;refine ax 9 67 ?_;refine ax 10 68 ?_;refine gb 11 69 fun K aH=>?_;revert K aH;exact ag.1):P:=h ⟨k⟩
theorem wN(h:aI Q→P:=by
 intro ag;refine px ?_;refine AB ?_;intro hHeld;revert hHeld;exact ag.1):P:=h ⟨k⟩
theorem TR(h:aI Q→P:=by
 intro ag;refine⟨_,rfl,?_⟩;have bM:=I (bw aC.1 (Nat.le_refl _) (bw (w:=w1) cX (Nat.le_refl _) ee));refine AB ?_;intro hHeld;refine ax 6 202 ?_;refine ax 7 203 ?_;refine ax 8 11 ?_;refine jX aM ?_;revert bM hHeld;exact ag.1):P:=h ⟨k⟩
theorem Cu(h:aI Q→P:=by
 intro ag;refine⟨_,rfl,?_⟩;refine aH.out _ _ ⟨aT,bh,al⟩ (fun hHeld=>?_);refine ik ?_;revert hHeld;exact ag.1):P:=h ⟨k⟩
theorem TS(h:aI Q→P:=by
 intro ag;have H:(some bh)=some r:=by first|(rw[cL];with_reducible exact H)|(exact s0)|(exact s3)|with_reducible exact H|(rw[cL];exact H)|exact H
 have uu:=I cL;revert H uu;exact ag.1):P:=h ⟨k⟩
theorem my(h:aI Q→P:=by
 intro ag;have p0:=eq_true p0;have a1:=eq_true a1;revert p0 a1;exact ag.1):P:=h ⟨k⟩
theorem GZ(h:aI Q→P:=by
 intro ag;refine wL ?_;intro v0 w1 J fA hHeld;refine ax 6 4 ?_;refine ax 7 7 ?_;refine jX aM ?_;revert v0 w1 J fA hHeld;exact ag.1):P:=h ⟨k⟩
end
end Go

