/- The words of the walks. Conditions: each its own. -/
import Derived.Below
import Derived.Deep.Draws
import Derived.Deep.AppendLies
import Derived.Maps.AppendAt
import Derived.OwnWalk
import Derived.Laws.BytesArg
import Derived.Laws.MakeOwn
import Derived.Laws.OwnMore
import Derived.Deep.OwnRows
import Derived.Tactics
import Derived.Lib.ConvBytes
import Derived.Laws.Slices
import Derived.WalkKit
import Derived.KernelRfl
import Derived.RowKit3
import Derived.Deep.LoopGhost
import Derived.Deep.QuietTactic
import Derived.BigQuiet
import Derived.WideLaws
import Derived.Deep.DeepCutAuto
import Derived.Deep.CutBlock
import Derived.Deep.RegionHeld3
import Derived.Laws.Rows
import Derived.Lib.AppendStr
import Derived.ArgAppend
import Derived.Laws.IdiomCopy
import Derived.RowKit
import Derived.OrdersHeld
import Derived.Laws.BitsLemmas
import Derived.Deep.DeepMust
import Derived.Test.YtmpeadgiclfapaaGreatDoorProg
set_option linter.all false
set_option maxHeartbeats 0
set_option maxRecDepth 100000
section
namespace Go.Proofs.YtmpeadgiclfapaaGreatDoorW.PrintWords
open Go.RowKit
structure aN(p:Prop):Prop where mk::(out:p)
structure eO(w w':World):Prop where mk::(out:∃n,w'=w.drewN n)
theorem eO.refl(w:World):eO w w:=⟨⟨0,rfl⟩⟩
theorem eO.step{w w':World}(h:eO w w')(n:Nat):eO w (w'.drewN n):=by
 obtain⟨m,rfl⟩:=h;exact⟨⟨m+n,World.drewN_drewN ..⟩⟩
theorem eO.grown{w w':World}(h:eO w w'):Grown w w':=by
 obtain⟨n,rfl⟩:=h
 induction n with
 |zero=>exact Grown.refl _
 |succ n bb=>rw[←World.drew_drewN];exact Grown.drew bb
theorem eO.below{w w':World}(h:eO w w'):Below w.heap.size w w':=by
 obtain⟨n,rfl⟩:=h
 induction n with
 |zero=>exact Below.refl _ _
 |succ n bb=>rw[←World.drew_drewN];exact bb.drew
def rd(xs:List Int)(i:Int):Int:=xs.getD i.toNat 0
def bB(s:ByteArray)(i:Int):Int:=if h:i.toNat<s.size then((s[i.toNat]'h).toNat:Int)else 0
theorem nx(s:ByteArray)(i:Int):∀h:i.toNat<s.size,((s[i.toNat]'h).toNat:Int)=bB s i:=fun h=>by simp[bB,h]
def nums(k:IntKind)(xs:List Int):List Value:=xs.map fun x=> .int k x
theorem da{w W:World}(h:Below w.heap.size w W)(o:Obj):Below w.heap.size w (W.alloc o):=h.alloc h.size o
theorem kH{B:Nat}{w W:World}(h:Below B w W):Below B w W.drew:=⟨h.os,h.tape,h.output,h.size,h.block⟩
theorem jI{B:Nat}{w W:World}(h:Below B w W)(n:Nat):Below B w (W.drewN n):=⟨h.os,h.tape,h.output,h.size,h.block⟩
theorem dq{B:Nat}{w w1 bf:World}(h:Below B w w1)(dw:B≤w1.heap.size)(k:Below w1.heap.size w1 bf):Below B w bf:=
 h.trans ⟨k.os,k.tape,k.output,k.size,fun i hi=>k.block i (Nat.lt_of_lt_of_le hi dw)⟩
theorem XU{B:Nat}{w w1:World}(h:Below B w w1)(row:Option Nat)(dw:B≤w1.heap.size){bf:World}(aw:w1.grownBy bf row)(au:∀k,row=some k→B≤k):Below B w bf:=h.grown aw dw au
theorem Oc{w w1:World}(h:Below w.heap.size w w1)(row:Option Nat):w.grownBy w1 row:=⟨h.os,h.tape,h.output,h.size,fun i hi _=>h.block i hi⟩
theorem mL{w w1:World}(h:Below w.heap.size w w1){a:Addr}{v:Value}(ai:w.cell? a=some v):w1.cell? a=some v:=(h.cell (World.block_lt_of_cell? w a ai)).trans ai
theorem add_plain(g j:Nat):(⟨g,0,none⟩:Addr).add j=⟨g,j,none⟩:=by unfold Addr.add;split<;>simp_all
def kV(w:World)(k:IntKind)(A:Option Addr)(n:Nat)(xs:List Int):Prop:=
 xs.length=n∧n≤9223372036854775807∧(0<n→∃cc,A=some cc∧∀j,j<n→w.cell? (cc.add j)=some (.int k (xs.getD j 0)))
theorem kV.at_{w:World}{k:IntKind}{A:Option Addr}{n:Nat}{xs:List Int}(h:kV w k A n xs)(i:Int)(h0:0≤i)(h1:i<n):∃cc,A=some cc∧w.cell? (cc.add i.toNat)=some (.int k (rd xs i)):=by
 obtain⟨cc,e,ai⟩:=h.2.2 (by omega);exact⟨cc,e,ai _ (by omega)⟩
theorem kV.below{w w1:World}{k:IntKind}{A:Option Addr}{n:Nat}{xs:List Int}(h:kV w k A n xs)(U:Below w.heap.size w w1):kV w1 k A n xs:=
 ⟨h.1,h.2.1,fun aq=>by
  obtain⟨cc,e,ai⟩:=h.2.2 aq;exact⟨cc,e,fun j bq=>mL U (ai j bq)⟩⟩
theorem XV(W:World)(base:Nat)(e:TypeId)(size:Nat):W.ownsRow base e size (.slice none 0 0) 0 []:=⟨by simp,.inl ⟨rfl,rfl⟩⟩
theorem zr{w:World}{base:Nat}{e:TypeId}{size n:Nat}{v:Value}{xs:List Value}(h:w.ownsRow base e size v n xs)(k:Nat)(ad:v.ownBlock=some k):base≤k:=by
 rcases h.2 with⟨rfl,_⟩|⟨g,cap,cur,rfl,U,_⟩
 ·simp[Value.ownBlock]at ad
 ·have:g=k:=by simpa [Value.ownBlock]using ad
  omega
theorem XW{w:World}{base:Nat}{e:TypeId}{size n:Nat}{v:Value}{xs:List Value}(h:w.ownsRow base e size v n xs)(k:Nat)(ad:v.ownBlock=some k):k<w.heap.size:=by
 rcases h.2 with⟨rfl,_⟩|⟨g,cap,cur,rfl,U,ed,_⟩
 ·simp[Value.ownBlock]at ad
 ·have:g=k:=by simpa [Value.ownBlock]using ad
  subst this;exact(Array.getElem?_eq_some_iff.1 ed).1
theorem XX{w w1:World}{base:Nat}{e:TypeId}{size n:Nat}{v:Value}{xs:List Value}(h:w.ownsRow base e size v n xs)(U:Below w.heap.size w w1):w1.ownsRow base e size v n xs:=
 h.kept (Oc U none) (by cases v.ownBlock<;>simp)
theorem XY{w w1:World}{base:Nat}{e:TypeId}{size n:Nat}{v:Value}{xs:List Value}(h:w.ownsRow base e size v n xs){row:Option Nat}(aw:w.grownBy w1 row)(bL:v.ownBlock=none∨v.ownBlock≠row):w1.ownsRow base e size v n xs:=h.kept aw bL
theorem XZ{w:World}{base n:Nat}{e:TypeId}{size:Nat}{v:Value}{xs:List Value}(h:w.ownsRow base e size v n xs):∃A c,v=.slice A n c:=by
 rcases h.2 with⟨rfl,rfl⟩|⟨g,cap,cur,rfl,_⟩
 ·exact⟨none,0,rfl⟩
 ·exact⟨_,cap,rfl⟩
theorem X0{P:Program}{w:World}{base n:Nat}{xq src dst e:TypeId}{v:Value}{xs:List Int}(ak:P.underlying src=some (.slice e))(he:P.underlying e=some (.int .u8))(hd:P.underlying dst=some .string)
 (h:w.ownsRow base xq 1 v n (nums .u8 xs)):(convert src dst v).run P w=.ok (.string (strOfNums xs)) w:=by
 have an:xs.length=n:=by have:=h.1;simp[nums]at this;exact this
 rcases h.2 with⟨rfl,rfl⟩|⟨g,cap,cur,rfl,_⟩
 ·obtain rfl:xs=[]:=List.eq_nil_of_length_eq_zero an;exact run_convert_bytes_nil w src e ak he 0 0 dst hd
 ·refine run_convert_bytes_arg w src e ak he g 0 n cap xs an (fun i hi=>?_) dst hd;have ai:=h.cells (g:=g) rfl i (.int .u8 (xs.getD i 0)) (by simp[nums,List.getElem?_eq_getElem (show i<xs.length by omega),List.getD_eq_getElem?_getD]);have eh:(⟨g,0,none⟩:Addr).add i=⟨g,0+i,none⟩:=by unfold Addr.add;split<;>simp_all
  rwa[eh]at ai
def bytesOf(s:ByteArray):List Int:=s.data.toList.map fun b=>(b.toNat:Int)
theorem X1{P:Program}(src dst e:TypeId){u:TypeDesc}(ak:P.underlying src=some u)(hd:P.underlying dst=some (.slice e))(he:P.underlying e=some (.int .u8))(s:ByteArray)(W:World):
 (convert src dst (.string s)).run P W=.ok (.slice (some ⟨W.heap.size,0,none⟩) s.size (grownCap W s.size 0 e)) (Lib.bytesWorld W e s):=Lib.run_convert_string_bytes W src dst e s ak hd he
theorem X2{B:Nat}{w W:World}(h:Below B w W)(dw:B≤W.heap.size)(e:TypeId)(s:ByteArray):Below B w (Lib.bytesWorld W e s):=
 h.trans ⟨rfl,rfl,rfl,by rw[Lib.bytesWorld_size];omega,fun i hi=>Lib.bytesWorld_at_old W e s i (by omega)⟩
theorem kV.Bw{w:World}{k:IntKind}{A:Option Addr}{n:Nat}{xs:List Int}(h:kV w k A n xs)(i:Nat)(hi:i≤n):kV w k A i (xs.take i):=by
 refine⟨by rw[List.length_take,h.1];omega,by have:=h.2.1;omega,fun hp=>?_⟩;obtain⟨cc,e,ai⟩:=h.2.2 (by omega);refine⟨cc,e,fun j bq=>?_⟩;rw[ai j (by omega)];simp[List.getD_eq_getElem?_getD,bq]
theorem kV.Ir{w:World}{k:IntKind}{A:Option Addr}{n c:Nat}{xs:List Int}(h:kV w k A n xs)(i:Nat)(hi:i≤n)(ai:n≤c):kV w k (if c=i then A else A.map (·.add i)) (n-i) (xs.drop i):=by
 refine⟨by rw[List.length_drop,h.1],by have:=h.2.1;omega,fun hp=>?_⟩;obtain⟨cc,rfl,mm⟩:=h.2.2 (by omega);rw[if_neg (by omega)];refine⟨cc.add i,rfl,fun j bq=>?_⟩
 have eh:(cc.add i).add j=cc.add (i+j):=by
  unfold Addr.add;by_cases h1:i=0<;>by_cases h2:j=0<;>simp[h1,h2,Nat.add_assoc]
 rw[eh,mm (i+j) (by omega)];simp[List.getD_eq_getElem?_getD,List.getElem?_drop]
theorem ajM{P:Program}(t e:TypeId)(nX:IntKind){i:TypeInfo}(aU:P.underlying t=some (.slice e))(hi:P.info? e=some i)(dd:i.size=1)(A:Option Addr)(n c m:Nat)(hm:m≤n):
 ∃ib:Option Addr,(∀W:World,(Instr.slice t (.slice A n c) (some (.int nX (m:Int))) none none).run P W=.ok (.slice ib (n-m) (c-m)) W)∧
  ∀(w:World) (k:IntKind) (xs:List Int),n≤c→kV w k A n xs→kV w k ib (n-m) (xs.drop m):=by
 refine⟨if c=m then A else A.map (·.add m),fun W=>?_,fun w k xs ai h=>h.Ir m hm ai⟩;have kW:P.elem t=e:=by simp[Program.elem,aU]
 have hu:P.underlying t=some (.slice (P.elem t)):=by rw[kW];exact aU
 rw[run_slice_l W t A n c hu nX (m:Int) (Int.natCast_nonneg _) (by omega),kW];simp[sizeOf,typeInfo,hi,dd,sliced,Result.andThen]
def gj{α:Type}(a b:Option α):Prop:=∀r,a=some r→b=some r
theorem gj.refl{α:Type}(a:Option α):gj a a:=fun _ h=>h
theorem gj.none{α:Type}(b:Option α):gj Option.none b:=fun _ h=>by cases h
theorem gj.trans{α:Type}{a b c:Option α}(h:gj a b)(k:gj b c):gj a c:=fun r au=>k r (h r au)
theorem gj.ite{α:Type}{c:Prop} [Decidable c]{a a' b qD:Option α}(h:gj a a')(k:gj b qD):gj (if c then a else b) (if c then a' else qD):=by
 split
 ·exact h
 ·exact k
theorem gj.bind{α β:Type}{a a':Option α}{f Od:α→Option β}(h:gj a a')(k:∀x,gj (f x) (Od x)):gj (a.bind f) (a'.bind Od):=by
 intro r au;obtain⟨x,ae,aA⟩:=Option.bind_eq_some_iff.1 au;exact Option.bind_eq_some_iff.2 ⟨x,h x ae,k x r aA⟩
theorem gj.map{α β:Type}{a a':Option α}(f:α→β)(h:gj a a'):gj (a.map f) (a'.map f):=by
 intro r au;obtain⟨x,ae,aA⟩:=Option.map_eq_some_iff.1 au;exact Option.map_eq_some_iff.2 ⟨x,h x ae,aA⟩
theorem Oe{α:Type}{g:Nat→Option α}(h:∀k,gj (g k) (g (k+1)))(k:Nat):∀j,gj (g k) (g (k+j))
 |0=>gj.refl _
 |j+1=>(Oe h k j).trans (h (k+j))
theorem Bx{α:Type}{g:Nat→Option α}(h:∀k,gj (g k) (g (k+1))){k k':Nat}(ad:k≤k'){r:α}(au:g k=some r):g k'=some r:=by
 have:=Oe h k (k'-k) r au
 rwa[Nat.add_sub_cancel' ad]at this
theorem ajN{α β:Type}{g:Nat→Option α}{f:Nat→Option β}(aw:∀k,gj (g k) (g (k+1)))(aA:∀k,gj (f k) (f (k+1))){r:α}{q:β}(h:∃k,g k=some r)(km:∃k,f k=some q):∃k,g k=some r∧f k=some q:=by
 obtain⟨k,ad⟩:=h;obtain⟨k',X3⟩:=km;exact⟨max k k',Bx aw (Nat.le_max_left _ _) ad,Bx aA (Nat.le_max_right _ _) X3⟩
def cF{α:Type}(R:α→List Value→Prop)(size:Nat)(cS:List α)(cs:List Value):Prop:=
 cs.length=cS.length*size∧∀j p,cS[j]?=some p→R p ((cs.drop (j*size)).take size)
theorem cF.none{α:Type}(R:α→List Value→Prop)(size:Nat):cF R size [] []:=⟨by simp,fun j p h=>by simp at h⟩
theorem cF.snoc{α:Type}{R:α→List Value→Prop}{size:Nat}{cS:List α}{cs c:List Value}{p:α}(h:cF R size cS cs)(hp:R p c)(ai:c.length=size):cF R size (cS++[p]) (cs++c):=by
 refine⟨by rw[List.length_append,h.1,ai,List.length_append,List.length_singleton,Nat.add_mul,Nat.one_mul],fun j q ar=>?_⟩;rcases Nat.lt_or_ge j cS.length with bq|bq
 ·rw[List.getElem?_append_left bq]at ar;have h1:j*size+size≤cs.length:=by rw[h.1,←Nat.succ_mul];exact Nat.mul_le_mul_right _ bq
  have h2:=h.2 j q ar;rw[List.drop_append_of_le_length (by omega),List.take_append_of_le_length (by rw[List.length_drop];omega)];exact h2
 ·have X4:j=cS.length:=by
   have:=(List.getElem?_eq_some_iff.1 ar).1;rw[List.length_append,List.length_singleton]at this;omega
  subst X4;have X5:p=q:=by simpa using ar
  subst X5;rw[←h.1,List.drop_left,←ai,List.take_length];exact hp
theorem cF.pn{α:Type}{R vK:α→List Value→Prop}{size:Nat}{cS:List α}{cs:List Value}(h:cF R size cS cs)(ew:∀p c,R p c→vK p c):cF vK size cS cs:=⟨h.1,fun j p bq=>ew _ _ (h.2 j p bq)⟩
def pR{α:Type}(R:α→List Value→Prop)(size:Nat)(w:World)(A:Option Addr)(n:Nat)(cS:List α):Prop:=
 cS.length=n∧n≤9223372036854775807∧(0<n→∃cc,A=some cc∧∀j p,cS[j]?=some p→∃c,c.length=size∧R p c∧∀i u,c[i]?=some u→w.cell? (cc.add (j*size+i))=some u)
theorem pR.X6{α:Type}{R:α→List Value→Prop}{size:Nat}{w:World}{A:Option Addr}{n:Nat}{cS:List α}(h:pR R size w A n cS)(d:α)(i:Int)(h0:0≤i)(h1:i<n):
 ∃cc c,A=some cc∧c.length=size∧R (cS.getD i.toNat d) c∧∀j u,c[j]?=some u→w.cell? (cc.add (i.toNat*size+j))=some u:=by
 obtain⟨cc,e,ai⟩:=h.2.2 (by omega);have an:i.toNat<cS.length:=by have:=h.1;omega
 obtain⟨c,ak,au,mm⟩:=ai i.toNat _ (List.getElem?_eq_getElem an);refine⟨cc,c,e,ak,?_,mm⟩;rw[List.getD_eq_getElem?_getD,List.getElem?_eq_getElem an];exact au
theorem pR.pn{α:Type}{R vK:α→List Value→Prop}{size:Nat}{w w1:World}{A:Option Addr}{n:Nat}{cS:List α}(h:pR R size w A n cS)(U:Below w.heap.size w w1)(ew:∀p c,R p c→vK p c):pR vK size w1 A n cS:=
 ⟨h.1,h.2.1,fun aq=>by
  obtain⟨cc,e,ai⟩:=h.2.2 aq;refine⟨cc,e,fun j p bq=>?_⟩;obtain⟨c,ak,au,mm⟩:=ai j p bq;exact⟨c,ak,ew _ _ au,fun i u hu=>mL U (mm i u hu)⟩⟩
theorem X7{α:Type}{R:α→List Value→Prop}{w:World}{base n size:Nat}{e:TypeId}{v:Value}{cS:List α}{cs:List Value}(h:w.ownsRow base e size v n cs)(ew:cF R size cS cs)(aq:cS.length=n):
 ∃A c,v=.slice A n c∧pR R size w A n cS:=by
 rcases Nat.eq_zero_or_pos n with h0|h0
 ·rcases h.2 with⟨rfl,rfl⟩|⟨g,cap,cur,rfl,_⟩
  ·exact⟨none,0,rfl,aq,by omega,fun hp=>absurd hp (by omega)⟩
  ·exact⟨_,cap,rfl,aq,by omega,fun hp=>absurd hp (by omega)⟩
 ·obtain⟨g,cap,rfl,_,_⟩:=h.form h0
  have hm:n≤9223372036854775807:=by
   rcases h.2 with⟨_,h1⟩|⟨aa,cap',cur,he,_,_,h1,h2,_⟩
   ·omega
   ·simp only[maxLen]at h2;omega
  refine⟨_,cap,rfl,aq,hm,fun _=>⟨_,rfl,fun j p bq=>⟨(cs.drop (j*size)).take size,?_,ew.2 j p bq,fun i u hu=>?_⟩⟩⟩
  ·have oS:=(List.getElem?_eq_some_iff.1 bq).1;have h1:j*size+size≤cs.length:=by rw[ew.1,←Nat.succ_mul];exact Nat.mul_le_mul_right _ oS
   rw[List.length_take,List.length_drop];omega
  ·refine h.cells (g:=g) rfl _ u ?_;rw[List.getElem?_take]at hu;split at hu
   ·rw[List.getElem?_drop]at hu;exact hu
   ·cases hu
theorem By(cc:Addr)(m j:Nat)(bq:0<j):cc.add (m+j)=⟨(cc.add m).block,(cc.add m).off+j,none⟩:=by
 unfold Addr.add;by_cases hm:m=0
 ·subst hm;simp[Nat.ne_of_gt bq]
 ·simp[hm,Nat.add_assoc]
section
variable {P:Program} {ops:Array Oper} {rest:List Oper} {o:Oper} {a:Act} {Q:Exit→Act→World→Prop}
theorem Of{w0 W:World}(base:Nat)(pq:o.guard=none)(s x:Operand)(t e:TypeId)(z:Value)(size bytes:Nat)
 (aY:o.op=.call {callee:=.builtin .append,args:=#[s,x],argTypes:=#[t,t]})
 (aU:P.underlying t=some (.slice e)) (qE:(P.info? e).map (fun i=>(i.zero,i.size,i.bytes))=some (some z,size,bytes)) (aG:z.cells.size=size) (bs:0<size) (az:0<bytes)
 (v:Value) (n:Nat) (xs ys:List Value) (ak:a.eval s=v) (ae:a.eval x=.slice (some ⟨W.heap.size,0,none⟩) 1 1) (pS:ys.length=size) (h1:∀u∈ys,u.oneCell'=true)
 (hW:W.ownsRow base e size v n xs) (a7:Below base w0 W) (nY:base≤W.heap.size) (an:(n+1)*bytes≤140737488355328)
 (h:∀v1 w1,w1.ownsRow base e size v1 (n+1) (xs++ys)→Below base w0 w1→W.grownBy w1 v.ownBlock→(v1.ownBlock=v.ownBlock∨∃b,v1.ownBlock=some b∧W.heap.size≤b)→wpList P ops Q rest (a.put o.dst v1) w1):
 wpList P ops Q (o::rest) a (W.alloc (.cells ys.toArray e)):=by
 obtain⟨i0,hi,vL⟩:=Option.map_eq_some_iff.1 qE;simp only[Prod.mk.injEq]at vL;obtain⟨fH,iu,Bz⟩:=vL;have hlen:n+1≤140737488355328:=Nat.le_trans (Nat.le_mul_of_pos_right _ az) an
 refine wpList_append_own_at (W.alloc (.cells ys.toArray e)) pq s x t aY base e i0 z size bytes aU hi fH iu Bz aG bs v n xs ak (hW.alloc _) ⟨W.heap.size,0,none⟩ 1 1 ys ae (by rw[pS];simp)
  (by simpa using World.news_of_block (cs:=ys.toArray) (t:=e) (fr:=(0,0)) (heap_alloc_new W (.cells ys.toArray e))) h1 (by simp only[maxLen];omega) an (by simp;omega) ?_
 intro v1 w1 iv aw _ ea;refine h v1 w1 iv ((a7.alloc nY _).grown aw (by simp;omega) (zr hW)) (World.grownBy.trans (World.grownBy_alloc W _ _) aw) ?_;rcases ea with ea|ea
 ·exact .inl ea
 ·exact .inr ⟨_,ea,by simp⟩
end
theorem vM{w:World}{base:Nat}{e t:TypeId}{size n g:Nat}{v:Value}{xs:List Value}{cs:Array Value}(h:w.ownsRow base e size v n xs)(aw:w.heap[g]?=some (.cells cs t (0,0)))(bL:e≠t):some g≠v.ownBlock:=by
 rcases h.2 with⟨rfl,_⟩|⟨aa,cap,cur,rfl,_,ed,_⟩
 ·simp[Value.ownBlock]
 ·intro he;have:g=aa:=by simpa [Value.ownBlock]using he
  subst this;rw[aw]at ed;injection ed with ed;injection ed with _ aU;exact bL aU.symm
theorem X8{w:World}{base:Nat}{e:TypeId}{size n:Nat}{v:Value}{xs:List Value}(h:w.ownsRow base e size v n xs){p:Addr}(bL:some p.block≠v.ownBlock)(u:Value):(w.setCell p u).ownsRow base e size v n xs:=by
 obtain⟨h1,h2⟩:=h;refine⟨h1,?_⟩;rcases h2 with h2|⟨g,cap,cur,rfl,aw,ed,r⟩
 ·exact .inl h2
 ·exact .inr ⟨g,cap,cur,rfl,aw,by rw[Below.heap_setCell _ _ _ _ (fun e=>bL (by rw[e];rfl))];exact ed,r⟩
theorem Eu{w:World}{g:Nat}{t:TypeId}{cs:Array Value}(h:w.heap[g]?=some (.cells cs t (0,0)))(i:Nat)(u:Value):(w.setCell ⟨g,i,none⟩ u).heap[g]?=some (.cells (cs.setIfInBounds i u) t (0,0)):=by
 simp[World.setCell,Array.getElem?_modify,h]
theorem X9{w:World}{g:Nat}{t:TypeId}{cs:Array Value}(h:w.heap[g]?=some (.cells cs t (0,0))){p:Addr}(hp:g≠p.block)(u:Value):(w.setCell p u).heap[g]?=some (.cells cs t (0,0)):=(Below.heap_setCell w p u g hp).trans h
theorem sv{w:World}{g:Nat}{o:Obj}(h:w.heap[g]?=some o):g<w.heap.size:=(Array.getElem?_eq_some_iff.1 h).1
theorem bg{w:World}{g:Nat}{t:TypeId}{cs:Array Value}(h:w.heap[g]?=some (.cells cs t (0,0)))(i:Nat):w.cell? ⟨g,i,none⟩=cs[i]?:=cell_of_row w g i cs t (0,0) h
theorem fy{w:World}{g:Nat}{t:TypeId}{cs:Array Value}(h:w.heap[g]?=some (.cells cs t (0,0)))(i:Nat):w.frozen? ⟨g,i,none⟩=false:=by simp[World.frozen?,h]
theorem qF{w w1:World}{g:Nat}{o:Obj}{row:Option Nat}(h:w.heap[g]?=some o)(aw:w.grownBy w1 row)(bL:some g≠row):w1.heap[g]?=some o:=(aw.block g (sv h) bL).trans h
def cI(w w':World)(g:Nat)(row:Option Nat):Prop:=w.heap.size≤w'.heap.size∧∀i,i<w.heap.size→i≠g→some i≠row→w'.heap[i]?=w.heap[i]?
theorem cI.refl(w:World)(g:Nat)(row:Option Nat):cI w w g row:=⟨Nat.le_refl _,fun _ _ _ _=>rfl⟩
theorem cI.BA{w w1:World}{row:Option Nat}(h:w.grownBy w1 row)(g:Nat):cI w w1 g row:=⟨h.size,fun i hi _ au=>h.block i hi au⟩
theorem cI.kn{w w1:World}(h:Below w.heap.size w w1)(g:Nat)(row:Option Nat):cI w w1 g row:=⟨h.size,fun i hi _ _=>h.block i hi⟩
theorem cI.zs{w w1:World}{g:Nat}{row:Option Nat}(h:cI w w1 g row)(j:Nat)(u:Value):cI w (w1.setCell ⟨g,j,none⟩ u) g row:=
 ⟨by simpa [World.setCell]using h.1,fun i hi aw au=>(Below.heap_setCell w1 ⟨g,j,none⟩ u i aw).trans (h.2 i hi aw au)⟩
theorem cI.trans{w w1 bf:World}{g:Nat}{row Is:Option Nat}(h:cI w w1 g row)(k:cI w1 bf g Is)(au:Is=row∨∃b,Is=some b∧w.heap.size≤b):cI w bf g row:=
 ⟨Nat.le_trans h.1 k.1,fun i hi aw aq=>by
  refine(k.2 i (Nat.lt_of_lt_of_le hi h.1) aw ?_).trans (h.2 i hi aw aq);rcases au with rfl|⟨b,rfl,U⟩
  ·exact aq
  ·intro e;injection e with e;omega⟩
theorem cI.ft{w w1:World}{g aa:Nat}{row:Option Nat}{o:Obj}(h:cI w w1 g row)(U:w.heap[aa]?=some o)(aw:aa≠g)(au:some aa≠row):w1.heap[aa]?=some o:=(h.2 aa (sv U) aw au).trans U
theorem cI.own{w w1:World}{g:Nat}{row:Option Nat}{base:Nat}{e:TypeId}{size n:Nat}{v:Value}{xs:List Value}(h:cI w w1 g row)(aY:w.ownsRow base e size v n xs)(aw:v.ownBlock≠some g)(au:v.ownBlock=none∨v.ownBlock≠row):w1.ownsRow base e size v n xs:=by
 obtain⟨h1,h2⟩:=aY;refine⟨h1,?_⟩;rcases h2 with h2|⟨b,cap,cur,rfl,U,ed,r⟩
 ·exact .inl h2
 ·refine .inr ⟨b,cap,cur,rfl,U,h.ft ed ?_ ?_,r⟩
  ·intro e;exact aw (by rw[←e];rfl)
  ·rcases au with au|au
   ·simp[Value.ownBlock]at au
   ·exact au
def pT{α:Type}(g:Nat→Option α)(r:α):Prop:=∃K,∀k,K≤k→g k=some r
theorem pT.of{α:Type}{g:Nat→Option α}{r:α}(aw:∀k,gj (g k) (g (k+1))){k:Nat}(h:g k=some r):pT g r:=⟨k,fun _ ad=>Bx aw ad h⟩
theorem pT.rounds{α:Type}{g:Nat→Option α}{r:α}(h:pT g r):∃k,g k=some r:=by
 obtain⟨K,h⟩:=h;exact⟨K,h K (Nat.le_refl _)⟩
theorem pT.bind{α β:Type}{g:Nat→Option α}{f:Nat→α→Option β}{a:α}{r:β}(h:pT g a)(k:pT (fun n=>f n a) r):pT (fun n=>(g n).bind (f n)) r:=by
 obtain⟨K,h⟩:=h;obtain⟨ic,k⟩:=k;refine⟨max K ic,fun n aq=>?_⟩;have h1:=h n (by omega);have h2:=k n (by omega);simp only[h1,Option.bind_some];exact h2
theorem pT.step{α:Type}{g f:Nat→Option α}{r:α}(h:∀k,g (k+1)=f k)(k:pT f r):pT g r:=by
 obtain⟨K,k⟩:=k;refine⟨K+1,fun n aq=>?_⟩;obtain⟨m,rfl⟩:∃m,n=m+1:=⟨n-1,by omega⟩;rw[h];exact k m (by omega)
theorem pT.congr{α:Type}{g f:Nat→Option α}{r:α}(h:∀k,g k=f k)(k:pT f r):pT g r:=by
 obtain⟨K,k⟩:=k;exact⟨K,fun n aq=>(h n).trans (k n aq)⟩
section
variable {P:Program} {ops:Array Oper} {o:Oper} {a:Act} {Q:Exit→Act→World→Prop} {K:Act→World→Prop}
theorem Ya{w0 W:World}(base:Nat)(hw:Region.wanted o (yielded ops a.tmps)=true)(s x:Operand)(t e:TypeId)(z:Value)(size bytes:Nat)
 (aY:o.op=.call {callee:=.builtin .append,args:=#[s,x],argTypes:=#[t,t]})
 (aU:P.underlying t=some (.slice e)) (qE:(P.info? e).map (fun i=>(i.zero,i.size,i.bytes))=some (some z,size,bytes)) (aG:z.cells.size=size) (bs:0<size) (az:0<bytes)
 (v:Value) (n:Nat) (xs ys:List Value) (ak:a.eval s=v) (ae:a.eval x=.slice (some ⟨W.heap.size,0,none⟩) 1 1) (pS:ys.length=size) (h1:∀u∈ys,u.oneCell'=true)
 (hW:W.ownsRow base e size v n xs) (a7:Below base w0 W) (nY:base≤W.heap.size) (an:(n+1)*bytes≤140737488355328)
 (h:∀v1 w1,w1.ownsRow base e size v1 (n+1) (xs++ys)→Below base w0 w1→W.grownBy w1 v.ownBlock→(v1.ownBlock=v.ownBlock∨∃b,v1.ownBlock=some b∧W.heap.size≤b)→K (a.put o.dst v1) w1):
 if Region.wanted o (yielded ops a.tmps)=true then Oper.wp P o a (W.alloc (.cells ys.toArray e)) K Q else K (a.put o.dst undef) (W.alloc (.cells ys.toArray e)):=by
 obtain⟨i0,hi,vL⟩:=Option.map_eq_some_iff.1 qE;simp only[Prod.mk.injEq]at vL;obtain⟨fH,iu,Bz⟩:=vL;have hlen:n+1≤140737488355328:=Nat.le_trans (Nat.le_mul_of_pos_right _ az) an;rw[if_pos hw]
 obtain⟨v1,w1,au,iv,aw,_,ea⟩:=run_append_own_at (P:=P) (W.alloc (.cells ys.toArray e)) base t o.type e i0 z size bytes aU hi fH iu Bz aG bs v n xs (hW.alloc _) ⟨W.heap.size,0,none⟩ 1 1 ys (by rw[pS];simp)
  (by simpa using World.news_of_block (cs:=ys.toArray) (t:=e) (fr:=(0,0)) (heap_alloc_new W (.cells ys.toArray e))) h1 (by simp only[maxLen];omega) an (by simp;omega)
 unfold Oper.wp execOp;simp only[aY,resolve,invoke,builtin,Sem.run_bind,Sem.run_pure,Result.andThen_ok,List.map_toArray,List.map_cons,List.map_nil,ak,ae,au];refine h v1 w1 iv ((a7.alloc nY _).grown aw (by simp;omega) (zr hW)) (World.grownBy.trans (World.grownBy_alloc W _ _) aw) ?_;rcases ea with ea|ea
 ·exact .inl ea
 ·exact .inr ⟨_,ea,by simp⟩
end
theorem Yb{w:World}{base qG:Nat}{e:TypeId}{size n:Nat}{v:Value}{xs:List Value}(h:w.ownsRow base e size v n xs)(U:qG≤base):w.ownsRow qG e size v n xs:=by
 obtain⟨h1,h2⟩:=h;refine⟨h1,?_⟩;rcases h2 with h2|⟨g,cap,cur,rfl,aw,r⟩
 ·exact .inl h2
 ·exact .inr ⟨g,cap,cur,rfl,Nat.le_trans U aw,r⟩
section
variable {α:Type} {enc:α→Value} {d:α}
def ny(enc:α→Value)(xs:List α):List Value:=xs.map enc
def Yc(d:α)(xs:List α)(i:Int):α:=xs.getD i.toNat d
theorem Og(xs:List α):(ny enc xs).length=xs.length:=by simp[ny]
def jT(enc:α→Value)(d:α)(w:World)(A:Option Addr)(n:Nat)(xs:List α):Prop:=
 xs.length=n∧n≤9223372036854775807∧(0<n→∃cc,A=some cc∧∀j,j<n→w.cell? (cc.add j)=some (enc (xs.getD j d)))
theorem jT.at_{w:World}{A:Option Addr}{n:Nat}{xs:List α}(h:jT enc d w A n xs)(i:Int)(h0:0≤i)(h1:i<n):∃cc,A=some cc∧w.cell? (cc.add i.toNat)=some (enc (Yc d xs i)):=by
 obtain⟨cc,e,ai⟩:=h.2.2 (by omega);exact⟨cc,e,ai _ (by omega)⟩
theorem jT.below{w w1:World}{A:Option Addr}{n:Nat}{xs:List α}(h:jT enc d w A n xs)(U:Below w.heap.size w w1):jT enc d w1 A n xs:=
 ⟨h.1,h.2.1,fun aq=>by
  obtain⟨cc,e,ai⟩:=h.2.2 aq;exact⟨cc,e,fun j bq=>mL U (ai j bq)⟩⟩
theorem jT.Bw{w:World}{A:Option Addr}{n:Nat}{xs:List α}(h:jT enc d w A n xs)(i:Nat)(hi:i≤n):jT enc d w A i (xs.take i):=by
 refine⟨by rw[List.length_take,h.1];omega,by have:=h.2.1;omega,fun hp=>?_⟩;obtain⟨cc,e,ai⟩:=h.2.2 (by omega);refine⟨cc,e,fun j bq=>?_⟩;rw[ai j (by omega)];simp[List.getD_eq_getElem?_getD,bq]
theorem jT.Ir{w:World}{A:Option Addr}{n c:Nat}{xs:List α}(h:jT enc d w A n xs)(i:Nat)(hi:i≤n)(ai:n≤c):jT enc d w (if c=i then A else A.map (·.add i)) (n-i) (xs.drop i):=by
 refine⟨by rw[List.length_drop,h.1],by have:=h.2.1;omega,fun hp=>?_⟩;obtain⟨cc,rfl,mm⟩:=h.2.2 (by omega);rw[if_neg (by omega)];refine⟨cc.add i,rfl,fun j bq=>?_⟩
 have eh:(cc.add i).add j=cc.add (i+j):=by
  unfold Addr.add;by_cases h1:i=0<;>by_cases h2:j=0<;>simp[h1,h2,Nat.add_assoc]
 rw[eh,mm (i+j) (by omega)];simp[List.getD_eq_getElem?_getD,List.getElem?_drop]
theorem Yd{P:Program}(enc:α→Value)(d:α)(t e:TypeId)(nX:IntKind){i:TypeInfo}(aU:P.underlying t=some (.slice e))(hi:P.info? e=some i)(dd:i.size=1)(A:Option Addr)(n c m:Nat)(hm:m≤n):
 ∃ib:Option Addr,(∀W:World,(Instr.slice t (.slice A n c) (some (.int nX (m:Int))) none none).run P W=.ok (.slice ib (n-m) (c-m)) W)∧
  ∀(w:World) (xs:List α),n≤c→jT enc d w A n xs→jT enc d w ib (n-m) (xs.drop m):=by
 refine⟨if c=m then A else A.map (·.add m),fun W=>?_,fun w xs ai h=>h.Ir m hm ai⟩;have kW:P.elem t=e:=by simp[Program.elem,aU]
 have hu:P.underlying t=some (.slice (P.elem t)):=by rw[kW];exact aU
 rw[run_slice_l W t A n c hu nX (m:Int) (Int.natCast_nonneg _) (by omega),kW];simp[sizeOf,typeInfo,hi,dd,sliced,Result.andThen]
end
theorem iU{w:World}{g:Nat}{o:Obj}(h:w.heap[g]?=some o)(o':Obj):(w.alloc o').heap[g]?=some o:=(Below.heap_alloc w o' g (sv h)).trans h
theorem gl{w:World}{g:Nat}{o:Obj}(h:w.heap[g]?=some o):w.drew.heap[g]?=some o:=h
theorem zt{w:World}{g:Nat}{o:Obj}(h:w.heap[g]?=some o)(n:Nat):(w.drewN n).heap[g]?=some o:=h
theorem cn{w w1:World}{g:Nat}{o:Obj}(h:w.heap[g]?=some o)(U:Below w.heap.size w w1):w1.heap[g]?=some o:=(U.block g (sv h)).trans h
theorem gV(w:World)(o:Obj):(w.alloc o).heap[w.heap.size]?=some o:=heap_alloc_new w o
theorem Ye{w:World}{base n m c size:Nat}{e:TypeId}{A:Option Addr}{xs:List Value}(h:w.ownsRow base e size (.slice A m c) n xs):m≤c:=by
 rcases h.2 with⟨he,_⟩|⟨g,cap,cur,he,_,_,vN,_⟩
 ·injection he with _ h2 h3;omega
 ·injection he with _ h2 h3;omega
def jy{α:Type}(R:α→List Value→Prop)(e:TypeId)(size:Nat)(w:World)(base:Nat)(v:Value)(cS:List α):Prop:=
 ∃inner,w.ownsRow base e size v cS.length inner∧cF R size cS inner
section
variable {α:Type} {R vK:α→List Value→Prop} {e:TypeId} {size:Nat} {w w1:World} {base:Nat} {v:Value} {cS:List α}
theorem jy.none_(R:α→List Value→Prop)(e:TypeId)(size:Nat)(w:World)(base:Nat):jy R e size w base (.slice none 0 0) []:=⟨[],XV _ _ _ _,cF.none _ _⟩
theorem jy.pn(h:jy R e size w base v cS)(ew:∀p c,R p c→vK p c):jy vK e size w base v cS:=by
 obtain⟨inner,aY,au⟩:=h;exact⟨inner,aY,au.pn ew⟩
theorem jy.below(h:jy R e size w base v cS)(U:Below w.heap.size w w1):jy R e size w1 base v cS:=by
 obtain⟨inner,aY,au⟩:=h;exact⟨inner,XX aY U,au⟩
theorem jy.other(h:jy R e size w base v cS){row:Option Nat}(aw:w.grownBy w1 row)(bL:v.ownBlock=none∨v.ownBlock≠row):jy R e size w1 base v cS:=by
 obtain⟨inner,aY,au⟩:=h;exact⟨inner,XY aY aw bL,au⟩
theorem jy.zs(h:jy R e size w base v cS){g:Nat}{t:TypeId}{cells:Array Value}(U:w.heap[g]?=some (.cells cells t (0,0)))(aU:e≠t)(j:Nat)(u:Value):jy R e size (w.setCell ⟨g,j,none⟩ u) base v cS:=by
 obtain⟨inner,aY,au⟩:=h;exact⟨inner,X8 aY (vM aY U aU) u,au⟩
theorem jy.It(h:jy R e size w base v cS){g:Nat}{t:TypeId}{cells:Array Value}(U:w.heap[g]?=some (.cells cells t (0,0)))(aU:e≠t)(ad:cI w w1 g none):jy R e size w1 base v cS:=by
 obtain⟨inner,aY,au⟩:=h;exact⟨inner,ad.own aY (Ne.symm (vM aY U aU)) (by cases v.ownBlock<;>simp),au⟩
theorem jy.reads(h:jy R e size w base v cS):∃A c,v=.slice A cS.length c∧cS.length≤c∧pR R size w A cS.length cS:=by
 obtain⟨inner,aY,au⟩:=h;obtain⟨A,c,rfl,Yf⟩:=X7 aY au rfl;exact⟨A,c,rfl,Ye aY,Yf⟩
theorem jy.Yg(h:jy R e size w base v cS){g:Nat}{t:TypeId}{cells:Array Value}(U:w.heap[g]?=some (.cells cells t (0,0)))(aU:e≠t):some g≠v.ownBlock:=by
 obtain⟨inner,aY,au⟩:=h;exact vM aY U aU
theorem jy.lit(W:World)(base:Nat){inner:List Value}(au:cF R size cS inner)(U:base≤W.heap.size)(hm:cS.length≤9223372036854775807):
 jy R e size (W.alloc (.cells inner.toArray e)) base (.slice (some ⟨W.heap.size,0,none⟩) cS.length cS.length) cS:=by
 have h:=World.ownsRow_lit (base:=base) (e:=e) (size:=size) W inner.toArray cS.length U (by simpa [maxLen]using hm) (by simpa using au.1);exact⟨inner,by simpa using h,au⟩
end
section
variable {P:Program} {ops:Array Oper} {rest:List Oper} {o:Oper} {a:Act} {Q:Exit→Act→World→Prop} {α:Type} {R:α→List Value→Prop}
theorem jy.append{w0 W:World}(base:Nat)(pq:o.guard=none)(s x:Operand)(t e:TypeId)(z:Value)(size bytes:Nat)
 (aY:o.op=.call {callee:=.builtin .append,args:=#[s,x],argTypes:=#[t,t]})
 (aU:P.underlying t=some (.slice e)) (qE:(P.info? e).map (fun i=>(i.zero,i.size,i.bytes))=some (some z,size,bytes)) (aG:z.cells.size=size) (bs:0<size) (az:0<bytes)
 (v:Value) (cS:List α) (p:α) (cs:List Value) (ak:a.eval s=v) (ae:a.eval x=.slice (some ⟨W.heap.size,0,none⟩) 1 1) (hp:R p cs) (kX:cs.length=size) (h1:∀u∈cs,u.oneCell'=true)
 (hW:jy R e size W base v cS) (a7:Below base w0 W) (nY:base≤W.heap.size) (an:(cS.length+1)*bytes≤140737488355328)
 (h:∀v1 w1,jy R e size w1 base v1 (cS++[p])→Below base w0 w1→W.grownBy w1 v.ownBlock→(v1.ownBlock=v.ownBlock∨∃b,v1.ownBlock=some b∧W.heap.size≤b)→wpList P ops Q rest (a.put o.dst v1) w1):
 wpList P ops Q (o::rest) a (W.alloc (.cells cs.toArray e)):=by
 obtain⟨inner,iv,au⟩:=hW;refine Of base pq s x t e z size bytes aY aU qE aG bs az v cS.length inner cs ak ae kX h1 iv a7 nY an ?_;intro v1 w1 BB ee xr xt;exact h v1 w1 ⟨inner++cs,by rw[List.length_append,List.length_singleton];exact BB,au.snoc hp kX⟩ ee xr xt
end
theorem pR.Yh{α:Type}{R:α→List Value→Prop}{size:Nat}{w:World}{cc:Addr}{n:Nat}{cS:List α}(h:pR R size w (some cc) n cS):
 ∃inner,cF R size cS inner∧∀j u,inner[j]?=some u→w.cell? (cc.add j)=some u:=by
 have key:∀m,m≤cS.length→∃inner,cF R size (cS.take m) inner∧∀j u,inner[j]?=some u→w.cell? (cc.add j)=some u:=by
  intro m
  induction m with
  |zero=>exact fun _=>⟨[],cF.none _ _,fun j u hu=>by simp at hu⟩
  |succ m bb=>
   intro hm;obtain⟨inner,au,ai⟩:=bb (by omega);obtain⟨Oh,he,mm⟩:=h.2.2 (by have:=h.1;omega);injection he with he;subst he;obtain⟨c,dM,hp,rJ⟩:=mm m _ (List.getElem?_eq_getElem (show m<cS.length by omega));refine⟨inner++c,?_,fun j u hu=>?_⟩
   ·rw[List.take_succ_eq_append_getElem (show m<cS.length by omega)];exact au.snoc hp dM
   ·have jz:inner.length=m*size:=by rw[au.1,List.length_take,Nat.min_eq_left (by omega)]
    rcases Nat.lt_or_ge j inner.length with bq|bq
    ·rw[List.getElem?_append_left bq]at hu;exact ai j u hu
    ·rw[List.getElem?_append_right bq]at hu;have:=rJ (j-inner.length) u hu
     rwa[jz,Nat.add_sub_cancel' (by omega)]at this
 obtain⟨inner,au,ai⟩:=key cS.length (Nat.le_refl _);rw[List.take_length]at au;exact⟨inner,au,ai⟩
section
variable {α:Type} {P:Program}
theorem Yi(enc:α→Value)(d:α)(t e:TypeId)(nX:IntKind){i:TypeInfo}(aU:P.underlying t=some (.slice e))(hi:P.info? e=some i)(dd:i.size=1)(A:Option Addr)(c:Nat)(xs:List α)(j:Int)(h0:0≤j)(hm:j≤xs.length)(ai:xs.length≤c):
 (∀W:World,(Instr.slice t (.slice A xs.length c) none (some (.int nX j)) none).run P W=.ok (.slice A (xs.take j.toNat).length c) W)∧
  (∀w:World,jT enc d w A xs.length xs→jT enc d w A (xs.take j.toNat).length (xs.take j.toNat))∧(xs.take j.toNat).length≤c:=by
 have an:(xs.take j.toNat).length=j.toNat:=by rw[List.length_take];omega
 refine⟨fun W=>?_,fun w h=>by rw[an];exact h.Bw j.toNat (by omega),by rw[an];omega⟩;have kW:P.elem t=e:=by simp[Program.elem,aU]
 have hu:P.underlying t=some (.slice (P.elem t)):=by rw[kW];exact aU
 have eh:(A.map fun x=>x.add 0)=A:=by cases A<;>simp[Addr.add]
 rw[run_slice_h W t A xs.length c hu nX j h0 (by omega),kW,an];simp[sizeOf,typeInfo,hi,dd,sliced,Result.andThen,eh]
theorem Oi(enc:α→Value)(d:α)(t e:TypeId)(nX:IntKind){i:TypeInfo}(aU:P.underlying t=some (.slice e))(hi:P.info? e=some i)(dd:i.size=1)(A:Option Addr)(c:Nat)(xs:List α)(j:Int)(h0:0≤j)(hm:j≤xs.length)(ai:xs.length≤c):
 ∃ib:Option Addr,(∀W:World,(Instr.slice t (.slice A xs.length c) (some (.int nX j)) none none).run P W=.ok (.slice ib (xs.drop j.toNat).length (c-j.toNat)) W)∧
  (∀w:World,jT enc d w A xs.length xs→jT enc d w ib (xs.drop j.toNat).length (xs.drop j.toNat))∧(xs.drop j.toNat).length≤c-j.toNat:=by
 obtain⟨m,rfl⟩:=Int.eq_ofNat_of_zero_le h0;simp only[Int.toNat_natCast];have Yj:m≤xs.length:=by omega
 obtain⟨ib,h1,h2⟩:=Yd (P:=P) enc d t e nX aU hi dd A xs.length c m Yj;have an:(xs.drop m).length=xs.length-m:=List.length_drop;exact⟨ib,fun W=>by rw[an];exact h1 W,fun w h=>by rw[an];exact h2 w xs ai h,by rw[an];omega⟩
end
structure ab(α:Type) where
 sz:Nat
 E:List Nat
 K:World→α→List Value→Prop
 M:World→Nat→(Nat→Prop)→α→List Value→Prop
 mM:∀{w x cs},K w x cs→cs.length=sz
 mN:∀{w x cs},K w x cs→∀u∈cs,u.oneCell'=true
 pr:∀{w w1:World} {x cs},Below w.heap.size w w1→K w x cs→K w1 x cs
 kY:∀{w base ok x cs},M w base ok x cs→K w x cs
 kI:∀{w base ok ok' x cs},(∀k,ok k→ok' k)→M w base ok x cs→M w base ok' x cs
 mO:∀{w:World} {base ok x cs},M w base ok x cs→M w base (fun k=>ok k∧base≤k∧k<w.heap.size∧∃q,q∈E∧∃cells,w.heap[k]?=some (.cells cells q (0,0))) x cs
 nz:∀{w w1:World} {base ok x cs},(∀k,ok k→w1.heap[k]?=w.heap[k]?)→M w base ok x cs→M w1 base ok x cs
 ps:∀{w base qG ok x cs},qG≤base→M w base ok x cs→M w qG ok x cs
theorem Yk{w w1:World}{base:Nat}{e:TypeId}{size n:Nat}{v:Value}{xs:List Value}(h:w.ownsRow base e size v n xs)(hm:∀k,v.ownBlock=some k→w1.heap[k]?=w.heap[k]?):w1.ownsRow base e size v n xs:=by
 obtain⟨h1,h2⟩:=h;refine⟨h1,?_⟩;rcases h2 with h2|⟨g,cap,cur,rfl,aw,ed,r⟩
 ·exact .inl h2
 ·exact .inr ⟨g,cap,cur,rfl,aw,(hm g (by simp[Value.ownBlock])).trans ed,r⟩
theorem BC{w:World}{base:Nat}{e:TypeId}{size n:Nat}{v:Value}{xs:List Value}(h:w.ownsRow base e size v n xs)(k:Nat)(ad:v.ownBlock=some k):∃cells,w.heap[k]?=some (.cells cells e (0,0)):=by
 rcases h.2 with⟨rfl,_⟩|⟨g,cap,cur,rfl,aw,ed,r⟩
 ·simp[Value.ownBlock]at ad
 ·have:g=k:=by simpa [Value.ownBlock]using ad
  subst this;exact⟨cur,ed⟩
namespace ab
def C{α:Type}(d:ab α)(w:World)(A:Option Addr)(n:Nat)(xs:List α):Prop:=pR (d.K w) d.sz w A n xs
def R{α:Type}(d:ab α)(e:Nat)(w:World)(base:Nat)(ok:Nat→Prop)(v:Value)(xs:List α):Prop:=
 (∀k,v.ownBlock=some k→ok k)∧jy (d.M w base (fun k=>ok k∧some k≠v.ownBlock)) e d.sz w base v xs
section
variable {α:Type} {d:ab α} {e:Nat} {w w1:World} {base:Nat} {ok ok':Nat→Prop} {v:Value} {xs:List α}
theorem ko{A:Option Addr}{n:Nat}(h:d.C w A n xs)(U:Below w.heap.size w w1):d.C w1 A n xs:=pR.pn h U (fun _ _ hp=>d.pr U hp)
theorem sw(d:ab α)(e:Nat)(w:World)(base:Nat)(ok:Nat→Prop):d.R e w base ok (.slice none 0 0) []:=⟨fun k ad=>by simp[Value.ownBlock]at ad,jy.none_ _ _ _ _ _⟩
theorem mn(h:d.R e w base ok v xs)(bC:∀k,ok k→ok' k):d.R e w base ok' v xs:=⟨fun k ad=>bC k (h.1 k ad),h.2.pn (fun _ _ hp=>d.kI (fun k ad=>⟨bC k ad.1,ad.2⟩) hp)⟩
theorem BD(h:d.R e w base ok v xs):d.R e w base (fun k=>ok k∧base≤k∧k<w.heap.size∧∃q,q∈e::d.E∧∃cells,w.heap[k]?=some (.cells cells q (0,0))) v xs:=by
 obtain⟨h0,inner,aY,au⟩:=h;refine⟨fun k ad=>?_,inner,aY,au.pn (fun _ _ hp=>d.kI (fun k ad=>?_) (d.mO hp))⟩
 ·obtain⟨cells,ai⟩:=BC aY k ad;exact⟨h0 k ad,zr aY k ad,XW aY k ad,e,List.mem_cons_self,cells,ai⟩
 ·obtain⟨⟨h1,h2⟩,h3,h4,q,ar,ai⟩:=ad;exact⟨⟨h1,h3,h4,q,List.mem_cons_of_mem _ ar,ai⟩,h2⟩
theorem Ev(h:d.R e w base ok v xs)(hm:∀k,ok k→w1.heap[k]?=w.heap[k]?):d.R e w1 base ok v xs:=by
 obtain⟨h0,inner,aY,au⟩:=h;exact⟨h0,inner,Yk aY (fun k ad=>hm k (h0 k ad)),au.pn (fun _ _ hp=>d.nz (fun k ad=>hm k ad.1) hp)⟩
theorem jU{qG:Nat}(h:d.R e w base ok v xs)(U:qG≤base):d.R e w qG ok v xs:=by
 obtain⟨h0,inner,aY,au⟩:=h;exact⟨h0,inner,Yb aY U,au.pn (fun _ _ hp=>d.ps U hp)⟩
theorem BE(h:d.R e w base ok v xs)(hm:∀k,ok k→k<w.heap.size→w1.heap[k]?=w.heap[k]?):d.R e w1 base ok v xs:=
 mn (Ev (BD h) (fun k ad=>hm k ad.1 ad.2.2.1)) (fun _ ad=>ad.1)
theorem Oj{x:α}{cs:List Value}(h:d.M w base ok x cs)(hm:∀k,ok k→k<w.heap.size→w1.heap[k]?=w.heap[k]?):d.M w1 base ok x cs:=
 d.kI (fun _ ad=>ad.1) (d.nz (fun k ad=>hm k ad.1 ad.2.2.1) (d.mO h))
theorem nZ(h:d.R e w base ok v xs)(U:Below w.heap.size w w1):d.R e w1 base ok v xs:=BE h (fun k _ ad=>U.block k ad)
theorem Yl{x:α}{cs:List Value}(h:d.M w base ok x cs)(U:Below w.heap.size w w1):d.M w1 base ok x cs:=Oj h (fun k _ ad=>U.block k ad)
theorem Ym(h:d.R e w base ok v xs){row:Option Nat}(aw:w.grownBy w1 row)(bC:∀k,ok k→some k≠row):d.R e w1 base ok v xs:=BE h (fun k aY ad=>aw.block k ad (bC k aY))
theorem mo(h:d.R e w base ok v xs){p:Addr}(bC:∀k,ok k→k≠p.block)(u:Value):d.R e (w.setCell p u) base ok v xs:=BE h (fun k aY _=>Below.heap_setCell w p u k (bC k aY))
theorem tC(h:d.R e w base ok v xs){g:Nat}(ad:cI w w1 g none)(bC:∀k,ok k→k≠g):d.R e w1 base ok v xs:=BE h (fun k aY fo=>ad.2 k fo (bC k aY) (by simp))
theorem Ok(h:d.R e w base ok v xs){g t:Nat}{cells:Array Value}(U:w.heap[g]?=some (.cells cells t (0,0)))(aU:∀q,q∈e::d.E→q≠t):d.R e w base (fun k=>ok k∧k≠g) v xs:=
 mn (BD h) (fun k ad=>⟨ad.1,by
  obtain⟨_,_,_,q,ar,Yn,ai⟩:=ad;rintro rfl;rw[ai]at U;injection U with U;injection U with _ U;exact aU q ar U⟩)
theorem Yo(h:d.R e w base ok v xs){g t:Nat}{cells:Array Value}(U:w.heap[g]?=some (.cells cells t (0,0)))(aU:∀q,q∈e::d.E→q≠t)(j:Nat)(u:Value):d.R e (w.setCell ⟨g,j,none⟩ u) base ok v xs:=
 mn (mo (p:=⟨g,j,none⟩) (Ok h U aU) (fun _ ad=>ad.2) u) (fun _ ad=>ad.1)
theorem xu(h:d.R e w base ok v xs):∃A c,v=.slice A xs.length c∧xs.length≤c∧d.C w A xs.length xs:=by
 obtain⟨A,c,he,an,au⟩:=jy.reads h.2;exact⟨A,c,he,an,au.pn (Below.refl _ _) (fun _ _ hp=>d.kY hp)⟩
theorem pU(h:d.R e w base ok v xs):∃A c,v=.slice A xs.length c:=by
 obtain⟨A,c,he,_⟩:=xu h;exact⟨A,c,he⟩
theorem BF(h:d.R e w base ok v xs):∃inner,w.ownsRow base e d.sz v xs.length inner:=by
 obtain⟨_,inner,aY,_⟩:=h;exact⟨inner,aY⟩
theorem pV(h:d.R e w base ok v xs){g t:Nat}{cells:Array Value}(U:w.heap[g]?=some (.cells cells t (0,0)))(aU:e≠t):some g≠v.ownBlock:=jy.Yg h.2 U aU
end
def scalar{α:Type}(enc:α→Value)(h1:∀x,(enc x).oneCell'=true):ab α where
 sz:=1
 E:=[]
 K:=fun _ x cs=>cs=[enc x]
 M:=fun _ _ _ x cs=>cs=[enc x]
 mM:=fun h=>by rw[h];rfl
 mN:=fun h u hu=>by
  rw[h]at hu;rw[List.mem_singleton.1 hu];exact h1 _
 pr:=fun _ h=>h
 kY:=fun h=>h
 kI:=fun _ h=>h
 mO:=fun h=>h
 nz:=fun _ h=>h
 ps:=fun _ h=>h
def int(k:IntKind):ab Int:=scalar (Value.int k) (fun _=>rfl)
def bool:ab Bool:=scalar Value.bool (fun _=>rfl)
def string:ab ByteArray:=scalar Value.string (fun _=>rfl)
def slice{α:Type}(e:Nat)(d:ab α):ab (List α) where
 sz:=1
 E:=e::d.E
 K:=fun w xs cs=>∃A c,cs=[.slice A xs.length c]∧xs.length≤c∧d.C w A xs.length xs
 M:=fun w base ok xs cs=>∃v,cs=[v]∧d.R e w base ok v xs
 mM:=by
  rintro w x cs ⟨A,c,rfl,_⟩;rfl
 mN:=by
  rintro w x cs ⟨A,c,rfl,_⟩ u hu;rw[List.mem_singleton.1 hu];rfl
 pr:=by
  rintro w w1 x cs U ⟨A,c,rfl,an,au⟩;exact⟨A,c,rfl,an,ko au U⟩
 kY:=by
  rintro w base ok x cs ⟨v,rfl,h⟩;obtain⟨A,c,rfl,an,au⟩:=xu h;exact⟨A,c,rfl,an,au⟩
 kI:=by
  rintro w base ok ok' x cs bC ⟨v,rfl,h⟩;exact⟨v,rfl,mn h bC⟩
 mO:=by
  rintro w base ok x cs ⟨v,rfl,h⟩;exact⟨v,rfl,BD h⟩
 nz:=by
  rintro w w1 base ok x cs hm ⟨v,rfl,h⟩;exact⟨v,rfl,Ev h hm⟩
 ps:=by
  rintro w base qG ok x cs U ⟨v,rfl,h⟩;exact⟨v,rfl,jU h U⟩
def pair{α β:Type}(a:ab α)(b:ab β):ab (α×β) where
 sz:=a.sz+b.sz
 E:=a.E++b.E
 K:=fun w x cs=>∃c0 c1,cs=c0++c1∧a.K w x.1 c0∧b.K w x.2 c1
 M:=fun w base ok x cs=>∃c0 c1,cs=c0++c1∧a.M w base ok x.1 c0∧b.M w base ok x.2 c1
 mM:=by
  rintro w x cs ⟨c0,c1,rfl,h0,h1⟩;rw[List.length_append,a.mM h0,b.mM h1]
 mN:=by
  rintro w x cs ⟨c0,c1,rfl,h0,h1⟩ u hu;rcases List.mem_append.1 hu with hu|hu
  ·exact a.mN h0 u hu
  ·exact b.mN h1 u hu
 pr:=by
  rintro w w1 x cs U ⟨c0,c1,rfl,h0,h1⟩;exact⟨c0,c1,rfl,a.pr U h0,b.pr U h1⟩
 kY:=by
  rintro w base ok x cs ⟨c0,c1,rfl,h0,h1⟩;exact⟨c0,c1,rfl,a.kY h0,b.kY h1⟩
 kI:=by
  rintro w base ok ok' x cs bC ⟨c0,c1,rfl,h0,h1⟩;exact⟨c0,c1,rfl,a.kI bC h0,b.kI bC h1⟩
 mO:=by
  rintro w base ok x cs ⟨c0,c1,rfl,h0,h1⟩;refine⟨c0,c1,rfl,a.kI ?_ (a.mO h0),b.kI ?_ (b.mO h1)⟩
  ·rintro k ⟨h2,h3,h4,q,ar,ai⟩;exact⟨h2,h3,h4,q,List.mem_append_left _ ar,ai⟩
  ·rintro k ⟨h2,h3,h4,q,ar,ai⟩;exact⟨h2,h3,h4,q,List.mem_append_right _ ar,ai⟩
 nz:=by
  rintro w w1 base ok x cs hm ⟨c0,c1,rfl,h0,h1⟩;exact⟨c0,c1,rfl,a.nz hm h0,b.nz hm h1⟩
 ps:=by
  rintro w base qG ok x cs U ⟨c0,c1,rfl,h0,h1⟩;exact⟨c0,c1,rfl,a.ps U h0,b.ps U h1⟩
def Yp{α β:Type}(d:ab α)(f:β→α):ab β where
 sz:=d.sz
 E:=d.E
 K:=fun w x cs=>d.K w (f x) cs
 M:=fun w base ok x cs=>d.M w base ok (f x) cs
 mM:=d.mM
 mN:=d.mN
 pr:=d.pr
 kY:=d.kY
 kI:=d.kI
 mO:=d.mO
 nz:=d.nz
 ps:=d.ps
theorem Yq{α:Type}{d:ab α}{w:World}{A:Option Addr}{n:Nat}{xs:List α}(h:d.C w A n xs)(z:α)(i:Int)(h0:0≤i)(h1:i<n):
 ∃cc c,A=some cc∧c.length=d.sz∧d.K w (xs.getD i.toNat z) c∧∀j u,c[j]?=some u→w.cell? (cc.add (i.toNat*d.sz+j))=some u:=pR.X6 h z i h0 h1
theorem Ol{α:Type}{d:ab α}{e base:Nat}{ok okp:Nat→Prop}{W w1:World}{v v1:Value}{xs:List α}{p:α}{inner cs:List Value}(h0:∀k,v.ownBlock=some k→ok k)(au:cF (d.M W base (fun k=>ok k∧some k≠v.ownBlock)) d.sz xs inner)(hp:d.M W base okp p cs)(sx:∀k,okp k→ok k∧some k≠v.ownBlock)(qH:∀k,W.heap.size≤k→ok k)
 (iv:w1.ownsRow base e d.sz v1 (xs.length+1) (inner++cs)) (aw:W.grownBy w1 v.ownBlock) (ea:v1.ownBlock=v.ownBlock∨∃b,v1.ownBlock=some b∧W.heap.size≤b):d.R e w1 base ok v1 (xs++[p]):=by
 have bL:∀k,some k≠v.ownBlock→k<W.heap.size→some k≠v1.ownBlock:=by
  intro k ad fo;rcases ea with ea|⟨b,U,hle⟩
  ·rw[ea];exact ad
  ·rw[U];intro he;injection he with he;omega
 have step:∀{q:α} {c:List Value} {o:Nat→Prop},d.M W base o q c→(∀k,o k→ok k∧some k≠v.ownBlock)→d.M w1 base (fun k=>ok k∧some k≠v1.ownBlock) q c:=by
  intro q c o ar aY;have h1:=d.nz (w1:=w1) (fun k ad=>aw.block k ad.2.2.1 (aY k ad.1).2) (d.mO ar);exact d.kI (fun k ad=>⟨(aY k ad.1).1,bL k (aY k ad.1).2 ad.2.2.1⟩) h1
 refine⟨fun k ad=>?_,inner++cs,by rw[List.length_append,List.length_singleton];exact iv,?_⟩
 ·rcases ea with ea|⟨b,U,hle⟩
  ·exact h0 k (ea▸ad)
  ·rw[U]at ad;injection ad with ad;exact qH k (by omega)
 ·exact(au.pn (fun _ _ ar=>step ar (fun _ ad=>ad))).snoc (step hp sx) (d.mM (d.kY hp))
section
variable {P:Program} {ops:Array Oper} {rest:List Oper} {o:Oper} {a:Act} {Q:Exit→Act→World→Prop} {α:Type}
theorem sy(d:ab α){w0 W:World}(base:Nat)(pq:o.guard=none)(s x:Operand)(t e:TypeId)(z:Value)(bytes:Nat)
 (aY:o.op=.call {callee:=.builtin .append,args:=#[s,x],argTypes:=#[t,t]})
 (aU:P.underlying t=some (.slice e)) (qE:(P.info? e).map (fun i=>(i.zero,i.size,i.bytes))=some (some z,d.sz,bytes)) (aG:z.cells.size=d.sz) (bs:0<d.sz) (az:0<bytes)
 (v:Value) (xs:List α) (p:α) (cs:List Value) (ok okp:Nat→Prop) (ak:a.eval s=v) (ae:a.eval x=.slice (some ⟨W.heap.size,0,none⟩) 1 1) (hp:d.M W base okp p cs) (sx:∀k,okp k→ok k∧some k≠v.ownBlock) (qH:∀k,W.heap.size≤k→ok k)
 (hW:d.R e W base ok v xs) (a7:Below base w0 W) (nY:base≤W.heap.size) (an:(xs.length+1)*bytes≤140737488355328)
 (h:∀v1 w1,d.R e w1 base ok v1 (xs++[p])→Below base w0 w1→W.grownBy w1 v.ownBlock→(v1.ownBlock=v.ownBlock∨∃b,v1.ownBlock=some b∧W.heap.size≤b)→wpList P ops Q rest (a.put o.dst v1) w1):
 wpList P ops Q (o::rest) a (W.alloc (.cells cs.toArray e)):=by
 obtain⟨h0,inner,iv,au⟩:=hW;refine Of base pq s x t e z d.sz bytes aY aU qE aG bs az v xs.length inner cs ak ae (d.mM (d.kY hp)) (d.mN (d.kY hp)) iv a7 nY an ?_;intro v1 w1 BB ee xr xt;exact h v1 w1 (Ol h0 au hp sx qH BB xr xt) ee xr xt
end
section
variable {P:Program} {ops:Array Oper} {o:Oper} {a:Act} {Q:Exit→Act→World→Prop} {Ew:Act→World→Prop} {α:Type}
theorem Iu(d:ab α){w0 W:World}(base:Nat)(hw:Region.wanted o (yielded ops a.tmps)=true)(s x:Operand)(t e:TypeId)(z:Value)(bytes:Nat)
 (aY:o.op=.call {callee:=.builtin .append,args:=#[s,x],argTypes:=#[t,t]})
 (aU:P.underlying t=some (.slice e)) (qE:(P.info? e).map (fun i=>(i.zero,i.size,i.bytes))=some (some z,d.sz,bytes)) (aG:z.cells.size=d.sz) (bs:0<d.sz) (az:0<bytes)
 (v:Value) (xs:List α) (p:α) (cs:List Value) (ok okp:Nat→Prop) (ak:a.eval s=v) (ae:a.eval x=.slice (some ⟨W.heap.size,0,none⟩) 1 1) (hp:d.M W base okp p cs) (sx:∀k,okp k→ok k∧some k≠v.ownBlock) (qH:∀k,W.heap.size≤k→ok k)
 (hW:d.R e W base ok v xs) (a7:Below base w0 W) (nY:base≤W.heap.size) (an:(xs.length+1)*bytes≤140737488355328)
 (h:∀v1 w1,d.R e w1 base ok v1 (xs++[p])→Below base w0 w1→W.grownBy w1 v.ownBlock→(v1.ownBlock=v.ownBlock∨∃b,v1.ownBlock=some b∧W.heap.size≤b)→Ew (a.put o.dst v1) w1):
 if Region.wanted o (yielded ops a.tmps)=true then Oper.wp P o a (W.alloc (.cells cs.toArray e)) Ew Q else Ew (a.put o.dst undef) (W.alloc (.cells cs.toArray e)):=by
 obtain⟨h0,inner,iv,au⟩:=hW;refine Ya base hw s x t e z d.sz bytes aY aU qE aG bs az v xs.length inner cs ak ae (d.mM (d.kY hp)) (d.mN (d.kY hp)) iv a7 nY an ?_;intro v1 w1 BB ee xr xt;exact h v1 w1 (Ol h0 au hp sx qH BB xr xt) ee xr xt
end
theorem Yr{α:Type}{enc:α→Value}(xs:List α):cF (fun(x:α) (cs:List Value)=>cs=[enc x]) 1 xs (ny enc xs):=by
 refine⟨by simp[ny],fun j p bq=>?_⟩;obtain⟨an,hp⟩:=List.getElem?_eq_some_iff.1 bq;have Ys:j<(ny enc xs).length:=by rw[Og];exact an
 rw[Nat.mul_one,List.drop_eq_getElem_cons Ys];simp[ny,hp]
theorem BG{α:Type}{enc:α→Value}{h1:∀x,(enc x).oneCell'=true}{e:Nat}{w:World}{base:Nat}{ok:Nat→Prop}{v:Value}{xs:List α}(aY:w.ownsRow base e 1 v xs.length (ny enc xs))(bC:∀k,v.ownBlock=some k→ok k):(scalar enc h1).R e w base ok v xs:=⟨bC,ny enc xs,aY,Yr xs⟩
theorem Ex{α:Type}{enc:α→Value}{h1:∀x,(enc x).oneCell'=true}{e:Nat}{w:World}{base:Nat}{ok:Nat→Prop}{v:Value}{xs:List α}(h:(scalar enc h1).R e w base ok v xs):w.ownsRow base e 1 v xs.length (ny enc xs):=by
 obtain⟨_,inner,aY,au⟩:=h
 have:inner=ny enc xs:=by
  apply List.ext_getElem?;intro j;rcases Nat.lt_or_ge j xs.length with bq|bq
  ·have h2:=au.2 j _ (List.getElem?_eq_getElem bq);have an:j<inner.length:=by have:=au.1;simp[scalar]at this;omega
   have h3:(inner.drop (j*1)).take 1=[enc xs[j]]:=h2;rw[Nat.mul_one,List.drop_eq_getElem_cons an]at h3
   have h4:inner[j]=enc xs[j]:=by
    have h5:=congrArg List.head? h3;rw[List.take_succ_cons]at h5;exact Option.some.inj h5
   rw[List.getElem?_eq_getElem an,h4];simp[ny,List.getElem?_eq_getElem bq]
  ·have h3:inner.length=xs.length:=by have:=au.1;simp[scalar]at this;omega
   rw[List.getElem?_eq_none (by omega),List.getElem?_eq_none (by rw[Og];omega)]
 rw[←this];exact aY
theorem vO{α:Type}{enc:α→Value}{d:α}{h1:∀x,(enc x).oneCell'=true}{w:World}{A:Option Addr}{n:Nat}{xs:List α}(h:jT enc d w A n xs):(scalar enc h1).C w A n xs:=by
 refine⟨h.1,h.2.1,fun aq=>?_⟩;obtain⟨cc,e,ai⟩:=h.2.2 aq;refine⟨cc,e,fun j p bq=>⟨[enc p],rfl,rfl,fun i u hu=>?_⟩⟩;obtain⟨an,hp⟩:=List.getElem?_eq_some_iff.1 bq;have h2:=ai j (by have:=h.1;omega);rw[List.getD_eq_getElem?_getD,bq]at h2;cases i with
 |zero=>
  have:enc p=u:=by simpa using hu
  subst this
  simpa [scalar]using h2
 |succ i=>simp at hu
theorem xw{α:Type}{enc:α→Value}{d:α}{h1:∀x,(enc x).oneCell'=true}{w:World}{A:Option Addr}{n:Nat}{xs:List α}(h:(scalar enc h1).C w A n xs):jT enc d w A n xs:=by
 refine⟨h.1,h.2.1,fun aq=>?_⟩;obtain⟨cc,e,ai⟩:=h.2.2 aq;refine⟨cc,e,fun j bq=>?_⟩;have an:j<xs.length:=by have:=h.1;omega
 obtain⟨c,_,aH,mm⟩:=ai j _ (List.getElem?_eq_getElem an);have Iv:c=[enc xs[j]]:=aH;subst Iv;have:=mm 0 _ rfl
 simpa [scalar,List.getD_eq_getElem?_getD,List.getElem?_eq_getElem an]using this
end ab
namespace ab
structure ajO{α β:Type}(F:ab α→ab β):Prop where
 sz:∀d d':ab α,d.sz=d'.sz→(F d).sz=(F d').sz
 K:∀d d':ab α,d.sz=d'.sz→(∀w x cs,d.K w x cs→d'.K w x cs)→∀w x cs,(F d).K w x cs→(F d').K w x cs
 M:∀d d':ab α,d.sz=d'.sz→(∀w base ok x cs,d.M w base ok x cs→d'.M w base ok x cs)→∀w base ok x cs,(F d).M w base ok x cs→(F d').M w base ok x cs
end ab
namespace ab
section
variable {α β:Type} {d:ab α} {d':ab β} {e xq:Nat} {w w1 W:World} {base b qD:Nat} {ok ok' Yt Yu:Nat→Prop} {v u:Value} {xs:List α} {ys:List β}
theorem xx(h:d.R e w base ok v xs)(o:Obj):d.R e (w.alloc o) base ok v xs:=nZ h (da (Below.refl _ _) o)
theorem pW(h:d.R e w base ok v xs):d.R e w.drew base ok v xs:=nZ h (kH (Below.refl _ _))
theorem uI(h:d.R e w base ok v xs)(m:Nat):d.R e (w.drewN m) base ok v xs:=nZ h (jI (Below.refl _ _) m)
theorem Iw{A:Option Addr}{n:Nat}(h:d.C w A n xs)(o:Obj):d.C (w.alloc o) A n xs:=ko h (da (Below.refl _ _) o)
theorem Ix{A:Option Addr}{n:Nat}(h:d.C w A n xs):d.C w.drew A n xs:=ko h (kH (Below.refl _ _))
theorem Iy{A:Option Addr}{n:Nat}(h:d.C w A n xs)(m:Nat):d.C (w.drewN m) A n xs:=ko h (jI (Below.refl _ _) m)
theorem Iz(d:ab α)(w:World):d.C w none ([]:List α).length []:=⟨rfl,by simp,fun h=>absurd h (Nat.lt_irrefl 0)⟩
theorem IA{A:Option Addr}{n:Nat}(h:d.C w A n xs):xs.length=n:=h.1
theorem pt{A:Option Addr}{n c:Nat}(h:d.R e w base ok (.slice A n c) xs):n=xs.length∧n≤c∧d.C w A xs.length xs:=by
 obtain⟨ib,cw,he,an,au⟩:=xu h;injection he with h1 h2 h3;subst h1;exact⟨h2,by omega,au⟩
theorem xy(h:d.R e w base ok v xs):∀k,v.ownBlock=some k→base≤k:=by
 obtain⟨inner,aY⟩:=BF h;exact zr aY
theorem Om(h:d.R e w base ok v xs)(hp:0<xs.length):∃g cap,v=.slice (some ⟨g,0,none⟩) xs.length cap∧base≤g∧g<w.heap.size∧∃cells,w.heap[g]?=some (.cells cells e (0,0)):=by
 obtain⟨inner,aY⟩:=BF h;obtain⟨g,cap,he,U,an⟩:=aY.form hp;obtain⟨cells,ai⟩:=BC aY g (by rw[he];simp[Value.ownBlock]);exact⟨g,cap,he,U,an,cells,ai⟩
theorem Yv(h:d.R e W b ok u xs)(aZ:d'.R xq W qD ok' v ys)(aU:∀q,q∈e::d.E→q≠xq)(aw:W.grownBy w1 v.ownBlock):d.R e w1 b ok u xs:=by
 obtain⟨inner,aY⟩:=BF aZ;refine mn (Ev (BD h) (fun k ad=>aw.block k ad.2.2.1 (fun he=>?_))) (fun _ ad=>ad.1);obtain⟨_,_,_,q,ar,cells,ai⟩:=ad;obtain⟨Yn,vP⟩:=BC aY k he.symm;rw[ai]at vP;injection vP with vP;injection vP with _ vP;exact aU q ar vP
end
section
variable {w W:World} {A:Option Addr} {n:Nat}
theorem iV{k:IntKind}{xs:List Int}(h:(ab.int k).C w A n xs)(i:Int)(h0:0≤i)(h1:i<n):∃cc,A=some cc∧w.cell? (cc.add i.toNat)=some (.int k (rd xs i)):=
 jT.at_ (xw (enc:=Value.int k) (d:=(0:Int)) (h1:=fun _=>rfl) h) i h0 h1
variable {α:Type} {enc:α→Value} {h1:∀x,(enc x).oneCell'=true} {e base g cap:Nat} {ok:Nat→Prop} {xs:List α}
end
section
variable {P:Program} {ops:Array Oper} {rest:List Oper} {o:Oper} {a:Act} {Q:Exit→Act→World→Prop}
theorem Yw{W w1:World}{v:Value}(pq:o.guard=none)(k8:(execOp a.eval o).run P W=.ok (.value v) w1)(h:wpList P ops Q rest (a.put o.dst v) w1):wpList P ops Q (o::rest) a W:=by
 refine wpList_plain pq fun K aH=>?_;unfold Oper.wp;rw[k8];exact aH _ _ h
variable {α:Type}
theorem k9(d:ab α){w0 W:World}(base e:Nat)(pq:o.guard=none){N:Tmp}(ajP:o.dst=some N){xs:List α}{inner:List Value}{ok okp:Nat→Prop}
 (k8:(execOp a.eval o).run P W=.ok (.value (.slice (some ⟨W.heap.size,0,none⟩) xs.length xs.length)) (W.alloc (.cells inner.toArray e)))
 (On:cF (d.M W base okp) d.sz xs inner) (bC:∀k,okp k→ok k) (qH:ok W.heap.size) (a7:Below base w0 W) (nY:base≤W.heap.size) (hm:xs.length≤9223372036854775807)
 (h:∀v1 w1,d.R e w1 base ok v1 xs→Below base w0 w1→W.grownBy w1 none→(∃b,v1.ownBlock=some b∧W.heap.size≤b)→wpList P ops Q rest (a.put o.dst v1) w1):wpList P ops Q (o::rest) a W:=by
 refine Yw pq k8 (h _ _ ⟨fun k ad=>?_,inner,?_,?_⟩ (a7.alloc nY _) (World.grownBy_alloc W _ none) ⟨W.heap.size,by simp[Value.ownBlock],Nat.le_refl _⟩)
 ·have:W.heap.size=k:=by simpa [Value.ownBlock]using ad
  subst this;exact qH
 ·have h2:=World.ownsRow_lit (base:=base) (e:=e) (size:=d.sz) W inner.toArray xs.length nY (by simpa [maxLen]using hm) (by simpa using On.1)
  simpa using h2
 ·refine On.pn (fun p c hp=>d.kI (fun k ad=>⟨bC k ad.1,fun he=>?_⟩) (Yl (d.mO hp) (da (Below.refl _ _) _)));have h3:k=W.heap.size:=by simpa [Value.ownBlock]using he
  have:=ad.2.2.1;omega
end
end ab
theorem Yx{w:World}{base n m c size:Nat}{e:TypeId}{A:Option Addr}{xs:List Value}(h:w.ownsRow base e size (.slice A n c) n xs)(hm:m≤n):w.ownsRow base e size (.slice A m c) m (xs.take (m*size)):=by
 obtain⟨h1,h2⟩:=h;refine⟨by rw[List.length_take,h1];exact Nat.min_eq_left (Nat.mul_le_mul_right _ hm),?_⟩;rcases h2 with⟨he,h0⟩|⟨g,cap,cur,he,U,ed,vN,oT,kX,aU⟩
 ·injection he with eh _ ai;subst eh;subst ai;exact .inl ⟨by rw[show m=0 by omega],by omega⟩
 ·injection he with eh _ ai;subst eh;subst ai;refine .inr ⟨g,c,cur,rfl,U,ed,by omega,oT,kX,?_⟩;rw[←aU,List.take_take,Nat.min_eq_left (Nat.mul_le_mul_right _ hm)]
section
variable {P:Program}
theorem Oo(t e:TypeId)(BH:IntKind){i:TypeInfo}(aU:P.underlying t=some (.slice e))(hi:P.info? e=some i)(A:Option Addr)(n c:Nat)(j:Int)(h0:0≤j)(hm:j≤n)(ai:n≤c):
 ∀W:World,(Instr.slice t (.slice A n c) none (some (.int BH j)) none).run P W=.ok (.slice A j.toNat c) W:=by
 intro W;have kW:P.elem t=e:=by simp[Program.elem,aU]
 have hu:P.underlying t=some (.slice (P.elem t)):=by rw[kW];exact aU
 have eh:(A.map fun x=>x.add 0)=A:=by cases A<;>simp[Addr.add]
 rw[run_slice_h W t A n c hu BH j h0 (by omega),kW];simp[sizeOf,typeInfo,hi,sliced,Result.andThen,eh]
theorem IB(t e:TypeId)(nX:IntKind){i:TypeInfo}(aU:P.underlying t=some (.slice e))(hi:P.info? e=some i)(size:Nat)(dd:i.size=size)(A:Option Addr)(n c:Nat)(j:Int)(h0:0≤j)(hm:j≤n):
 ∀W:World,(Instr.slice t (.slice A n c) (some (.int nX j)) none none).run P W=.ok (.slice (if c=j.toNat then A else A.map (·.add (j.toNat*size))) (n-j.toNat) (c-j.toNat)) W:=by
 intro W;have kW:P.elem t=e:=by simp[Program.elem,aU]
 have hu:P.underlying t=some (.slice (P.elem t)):=by rw[kW];exact aU
 rw[run_slice_l W t A n c hu nX j h0 hm,kW];simp[sizeOf,typeInfo,hi,dd,sliced,Result.andThen]
end
def Oq(w:World)(base:Nat)(e:TypeId)(size:Nat)(v:Value)(n:Nat)(xs:List Value):Prop:=
 xs.length=n*size∧
 ((n=0∧∃A,v=.slice A 0 0∧∀a,A=some a→base≤a.block∧∃cur,w.heap[a.block]?=some (.cells cur e (0,0)))∨
  ∃g off cap cur,v=.slice (some ⟨g,off*size,none⟩) n cap∧base≤g∧w.heap[g]?=some (.cells cur e (0,0))∧n≤cap∧off+cap≤maxLen∧cur.size=(off+cap)*size∧(cur.toList.drop (off*size)).take (n*size)=xs)
section
variable {w w1:World} {base n size:Nat} {e:TypeId} {v:Value} {xs:List Value}
theorem Yy(h:w.ownsRow base e size v n xs):Oq w base e size v n xs:=by
 obtain⟨h1,h2⟩:=h;refine⟨h1,?_⟩;rcases h2 with⟨rfl,h0⟩|⟨g,cap,cur,rfl,U,ed,vN,oT,kX,aU⟩
 ·exact .inl ⟨h0,none,rfl,fun a eh=>by cases eh⟩
 ·exact .inr ⟨g,0,cap,cur,by rw[Nat.zero_mul],U,ed,vN,by rw[Nat.zero_add];exact oT,by rw[Nat.zero_add];exact kX,by rw[Nat.zero_mul,List.drop_zero];exact aU⟩
end
namespace ab
theorem Yz{α:Type}{R:α→List Value→Prop}{size m:Nat}{cS:List α}{cs:List Value}(h:cF R size cS cs)(hm:m≤cS.length):cF R size (cS.take m) (cs.take (m*size)):=by
 refine⟨by rw[List.length_take,List.length_take,h.1,Nat.min_eq_left hm,Nat.min_eq_left (Nat.mul_le_mul_right _ hm)],fun j p bq=>?_⟩;rw[List.getElem?_take]at bq;split at bq
 ·rename_i hjm
  have:=h.2 j p bq;have hle:j*size+size≤m*size:=by rw[←Nat.succ_mul];exact Nat.mul_le_mul_right _ hjm
  rw[List.drop_take,List.take_take,Nat.min_eq_left (by omega)];exact this
 ·cases bq
theorem YA{α:Type}{R:α→List Value→Prop}{size m:Nat}{cS:List α}{cs:List Value}(h:cF R size cS cs):cF R size (cS.drop m) (cs.drop (m*size)):=by
 refine⟨by rw[List.length_drop,List.length_drop,h.1,Nat.sub_mul],fun j p bq=>?_⟩;rw[List.getElem?_drop]at bq;have:=h.2 (m+j) p bq;rw[List.drop_drop,←Nat.add_mul];exact this
theorem YB{α:Type}{d:ab α}{e m n c:Nat}{w:World}{base:Nat}{ok:Nat→Prop}{A:Option Addr}{xs:List α}(h:d.R e w base ok (.slice A n c) xs)(hm:m≤xs.length):d.R e w base ok (.slice A m c) (xs.take m):=by
 obtain⟨h0,inner,aY,au⟩:=h
 have aq:n=xs.length:=by
  obtain⟨ib,cw,he⟩:=XZ aY;injection he
 subst aq
 have U:∀x y:Nat,(Value.slice A x c).ownBlock=(Value.slice A y c).ownBlock:=by
  intro x y;cases A<;>rfl
 refine⟨fun k ad=>h0 k (by rw[U _ m];exact ad),inner.take (m*d.sz),?_,?_⟩
 ·rw[List.length_take,Nat.min_eq_left hm];exact Yx aY hm
 ·rw[U m xs.length];exact Yz au hm
def Q{α:Type}(d:ab α)(e:Nat)(w:World)(base:Nat)(ok:Nat→Prop)(v:Value)(xs:List α):Prop:=
 (∀k,v.ownBlock=some k→ok k)∧∃inner,Oq w base e d.sz v xs.length inner∧cF (d.M w base (fun k=>ok k∧some k≠v.ownBlock)) d.sz xs inner
section
variable {α:Type} {d:ab α} {e:Nat} {w w1 W:World} {base:Nat} {ok ok':Nat→Prop} {v:Value} {xs:List α}
theorem YC(h:d.R e w base ok v xs):d.Q e w base ok v xs:=by
 obtain⟨h0,inner,aY,au⟩:=h;exact⟨h0,inner,Yy aY,au⟩
theorem Ot(d:ab α)(e:Nat)(w:World)(base:Nat)(ok:Nat→Prop):d.Q e w base ok (.slice none 0 0) []:=YC (sw d e w base ok)
end
end ab
namespace ab
section
variable {α:Type} {d:ab α} {e xq:Nat} {w w1 W:World} {base:Nat} {ok:Nat→Prop} {u v:Value} {xs:List α}
theorem YD(h:d.R e w base ok v xs):∀k,v.ownBlock=some k→∃cells,w.heap[k]?=some (.cells cells e (0,0)):=by
 obtain⟨inner,aY⟩:=BF h;exact fun k ad=>BC aY k ad
end
end ab
theorem YE{n c g:Nat}{A:Option Addr}(bL:some g≠(Value.slice A n c).ownBlock):∀cc,A=some cc→0<n→cc.block≠g:=by
 rintro cc rfl _ rfl;exact bL (by simp[Value.ownBlock])
namespace ab
section
variable {α:Type} {d:ab α} {e base g n cap:Nat} {ok okp:Nat→Prop} {W:World} {xs:List α}
theorem Ou(h:d.R e W base ok (.slice (some ⟨g,0,none⟩) n cap) xs)(z:α)(i:Int)(h0:0≤i)(h1:i<n):
 ∃c,c.length=d.sz∧d.M W base (fun k=>ok k∧k≠g) (xs.getD i.toNat z) c∧(∀j u,c[j]?=some u→W.cell? ⟨g,i.toNat*d.sz+j,none⟩=some u)∧∀j,W.frozen? ⟨g,i.toNat*d.sz+j,none⟩=false:=by
 obtain⟨aq,vN,hC⟩:=pt h;obtain⟨_,inner,aY,au⟩:=h;have jz:i.toNat<xs.length:=by omega
 have ajQ:i.toNat*d.sz+d.sz≤inner.length:=by rw[au.1,←Nat.succ_mul];exact Nat.mul_le_mul_right _ jz
 have uJ:=au.2 i.toNat _ (List.getElem?_eq_getElem jz);refine⟨(inner.drop (i.toNat*d.sz)).take d.sz,by rw[List.length_take,List.length_drop];omega,?_,fun j u hu=>?_,fun j=>?_⟩
 ·rw[List.getD_eq_getElem?_getD,List.getElem?_eq_getElem jz];exact d.kI (fun k ad=>⟨ad.1,fun he=>ad.2 (by rw[he];simp[Value.ownBlock])⟩) uJ
 ·rw[List.getElem?_take]at hu;split at hu
  ·rw[List.getElem?_drop]at hu;have:=aY.cells (g:=g) (by simp[Value.ownBlock]) _ u hu
   rwa[add_plain]at this
  ·cases hu
 ·obtain⟨cells,ai⟩:=BC aY g (by simp[Value.ownBlock]);exact fy ai _
end
end ab
namespace ab
theorem YF{α:Type}{R:α→List Value→Prop}{size:Nat}{cS Ov:List α}{cs ds:List Value}(h:cF R size cS cs)(km:cF R size Ov ds):cF R size (cS++Ov) (cs++ds):=by
 refine⟨by rw[List.length_append,List.length_append,h.1,km.1,Nat.add_mul],fun j p bq=>?_⟩;rcases Nat.lt_or_ge j cS.length with fo|hR
 ·rw[List.getElem?_append_left fo]at bq;have hle:j*size+size≤cs.length:=by rw[h.1,←Nat.succ_mul];exact Nat.mul_le_mul_right _ fo
  rw[List.drop_append_of_le_length (by omega),List.take_append_of_le_length (by rw[List.length_drop];omega)];exact h.2 j p bq
 ·rw[List.getElem?_append_right hR]at bq;have h2:=km.2 (j-cS.length) p bq;have hle:cS.length*size≤j*size:=Nat.mul_le_mul_right _ hR;rw[List.drop_append,List.drop_eq_nil_of_le (by rw[h.1];exact hle),List.nil_append,h.1,←Nat.sub_mul];exact h2
section
variable {P:Program} {ops:Array Oper} {rest:List Oper} {o:Oper} {a:Act} {Q:Exit→Act→World→Prop} {α:Type}
theorem Ow(d:ab α){BI:α→List Value→Prop}{w0 W:World}(base:Nat)(pq:o.guard=none)(s x:Operand)(t e:TypeId)(z:Value)(bytes:Nat)
 (aY:o.op=.call {callee:=.builtin .append,args:=#[s,x],argTypes:=#[t,t]})
 (aU:P.underlying t=some (.slice e)) (qE:(P.info? e).map (fun i=>(i.zero,i.size,i.bytes))=some (some z,d.sz,bytes)) (aG:z.cells.size=d.sz) (bs:0<d.sz) (az:0<bytes)
 (v:Value) (xs ys:List α) (A:Option Addr) (m c:Nat) (ok okp:Nat→Prop) (ak:a.eval s=v) (ae:a.eval x=.slice A m c)
 (hW:d.R e W base ok v xs) (hI:pR BI d.sz W A m ys) (YG:∀x cs,BI x cs→d.M W base okp x cs) (sx:∀k,okp k→ok k∧some k≠v.ownBlock) (qH:∀k,W.heap.size≤k→ok k)
 (a7:Below base w0 W) (nY:base≤W.heap.size) (an:(xs.length+m)*bytes≤140737488355328)
 (h:∀v1 w1,d.R e w1 base ok v1 (xs++ys)→Below base w0 w1→W.grownBy w1 v.ownBlock→(v1.ownBlock=v.ownBlock∨∃b,v1.ownBlock=some b∧W.heap.size≤b)→wpList P ops Q rest (a.put o.dst v1) w1):
 wpList P ops Q (o::rest) a W:=by
 obtain⟨i0,hi,vL⟩:=Option.map_eq_some_iff.1 qE;simp only[Prod.mk.injEq]at vL;obtain⟨fH,iu,Bz⟩:=vL;have hm:ys.length=m:=hI.1;have hlen:xs.length+m≤140737488355328:=Nat.le_trans (Nat.le_mul_of_pos_right _ az) an;obtain⟨bC,inner,iv,au⟩:=hW
 have k8:∃v1 w1,(Builtin.append_ #[t,t] o.type #[v,.slice A m c]).run P W=.ok v1 w1∧d.R e w1 base ok v1 (xs++ys)∧W.grownBy w1 v.ownBlock∧(v1.ownBlock=v.ownBlock∨∃b,v1.ownBlock=some b∧W.heap.size≤b):=by
  rcases A with _|cc
  ·have h0:m=0:=by
    rcases Nat.eq_zero_or_pos m with h0|h0
    ·exact h0
    ·obtain⟨cc,h,_⟩:=hI.2.2 h0;cases h
   subst h0;obtain rfl:ys=[]:=List.eq_nil_of_length_eq_zero hm;refine⟨v,W,?_,by rw[List.append_nil];exact⟨bC,inner,iv,au⟩,World.grownBy.refl W _,.inl rfl⟩;rcases iv.2 with⟨rfl,aq⟩|⟨g,cap,cur,rfl,_,_,vN,_⟩
   ·simp[Builtin.append_,run_underlying aU,sizeOf,typeInfo,hi,Builtin.lenOf,Builtin.firstCells]
   ·simp[Builtin.append_,run_underlying aU,sizeOf,typeInfo,hi,Builtin.lenOf,Builtin.firstCells,vN,storeCells]
  ·obtain⟨news,YH,vN⟩:=pR.Yh hI;have Ey:cF (d.M W base okp) d.sz ys news:=YH.pn (fun p c hp=>YG p c hp)
   have YI:∀u∈news,u.oneCell'=true:=by
    intro u hu;obtain⟨q,ar,rfl⟩:=List.mem_iff_getElem.1 hu
    have YJ:q/d.sz<ys.length:=by
     rw[Nat.div_lt_iff_lt_mul bs];rw[←Ey.1];exact ar
    have ai:=Ey.2 (q/d.sz) _ (List.getElem?_eq_getElem YJ);refine d.mN (d.kY ai) _ ?_;rw[List.mem_iff_getElem?];refine⟨q%d.sz,?_⟩;rw[List.getElem?_take,if_pos (Nat.mod_lt _ bs),List.getElem?_drop,Nat.mul_comm,Nat.div_add_mod,List.getElem?_eq_getElem ar]
   obtain⟨v1,w1,k8,h2,aw,_,ea⟩:=run_append_own_at (P:=P) W base t o.type e i0 z d.sz bytes aU hi fH iu Bz aG bs v xs.length inner iv cc m c news (by rw[Ey.1,hm]) vN YI (by simp only[maxLen];omega) an nY
   have IC:v1.ownBlock=v.ownBlock∨∃b,v1.ownBlock=some b∧W.heap.size≤b:=by
    rcases ea with ea|ea
    ·exact .inl ea
    ·exact .inr ⟨_,ea,Nat.le_refl _⟩
   have bL:∀k,some k≠v.ownBlock→k<W.heap.size→some k≠v1.ownBlock:=by
    intro k ad fo;rcases IC with ea|⟨b,U,hle⟩
    ·rw[ea];exact ad
    ·rw[U];intro he;injection he with he;omega
   have step:∀{q:α} {c:List Value} {o:Nat→Prop},d.M W base o q c→(∀k,o k→ok k∧some k≠v.ownBlock)→d.M w1 base (fun k=>ok k∧some k≠v1.ownBlock) q c:=by
    intro q c o ar aY;have h1:=d.nz (w1:=w1) (fun k ad=>aw.block k ad.2.2.1 (aY k ad.1).2) (d.mO ar);exact d.kI (fun k ad=>⟨(aY k ad.1).1,bL k (aY k ad.1).2 ad.2.2.1⟩) h1
   refine⟨v1,w1,k8,⟨fun k ad=>?_,inner++news,by rw[List.length_append,hm];exact h2,YF (au.pn (fun _ _ ar=>step ar (fun _ ad=>ad))) (Ey.pn (fun _ _ ar=>step ar sx))⟩,aw,IC⟩;rcases IC with ea|⟨b,U,hle⟩
   ·exact bC k (ea▸ad)
   ·rw[U]at ad;injection ad with ad;exact qH k (by omega)
 obtain⟨v1,w1,ff,h1,aw,ea⟩:=k8;refine wpList_plain pq fun K aH=>?_;unfold Oper.wp execOp;simp only[aY,resolve,invoke,builtin,Sem.run_bind,Sem.run_pure,Result.andThen_ok,List.map_toArray,List.map_cons,List.map_nil,ak,ae,ff];exact aH _ _ (h v1 w1 h1 (a7.grown aw nY (zr iv)) aw ea)
end
end ab
theorem add_add(a:Addr)(i j:Nat):(a.add i).add j=a.add (i+j):=by
 unfold Addr.add;by_cases h1:i=0<;>by_cases h2:j=0<;>simp[h1,h2,Nat.add_assoc]
namespace ab
section
variable {α:Type} {k:ab α} {w:World} {A:Option Addr} {xs:List α} {m c:Nat}
theorem Ox(h:k.C w A xs.length xs)(hm:m≤xs.length):k.C w A (xs.take m).length (xs.take m):=by
 have an:(xs.take m).length=m:=by rw[List.length_take];omega
 refine⟨rfl,by rw[an];have:=h.2.1;omega,fun hp=>?_⟩;obtain⟨cc,e,ai⟩:=h.2.2 (by omega);refine⟨cc,e,fun j p bq=>ai j p ?_⟩;rw[List.getElem?_take]at bq;split at bq
 ·exact bq
 ·cases bq
theorem ID(h:k.C w A xs.length xs)(hm:m≤xs.length)(ai:xs.length≤c):k.C w (if c=m then A else A.map (·.add (m*k.sz))) (xs.drop m).length (xs.drop m):=by
 have an:(xs.drop m).length=xs.length-m:=List.length_drop;refine⟨rfl,by rw[an];have:=h.2.1;omega,fun hp=>?_⟩;rw[an]at hp;obtain⟨cc,rfl,mm⟩:=h.2.2 (by omega);rw[if_neg (by omega)];refine⟨cc.add (m*k.sz),rfl,fun j p bq=>?_⟩;rw[List.getElem?_drop]at bq;obtain⟨cs,h1,h2,h3⟩:=mm (m+j) p bq;refine⟨cs,h1,h2,fun i u hu=>?_⟩;rw[add_add,show m*k.sz+(j*k.sz+i)=(m+j)*k.sz+i by rw[Nat.add_mul];omega];exact h3 i u hu
theorem Ez{lo hi:Nat}(h:k.C w A xs.length xs)(h1:lo≤hi)(h2:hi≤xs.length)(ai:xs.length≤c):k.C w (if c=lo then A else A.map (·.add (lo*k.sz))) ((xs.take hi).drop lo).length ((xs.take hi).drop lo):=by
 have an:(xs.take hi).length=hi:=by rw[List.length_take];omega
 exact ID (Ox h h2) (by omega) (by omega)
end
end ab
section
variable {P:Program}
theorem EA(t e:TypeId)(nX BH:IntKind){i:TypeInfo}(aU:P.underlying t=some (.slice e))(hi:P.info? e=some i)(size:Nat)(dd:i.size=size)(A:Option Addr)(n c:Nat)(lo uK:Int)(h0:0≤lo)(h1:lo≤uK)(h2:uK≤n)(ai:n≤c):
 ∀W:World,(Instr.slice t (.slice A n c) (some (.int nX lo)) (some (.int BH uK)) none).run P W=.ok (.slice (if c=lo.toNat then A else A.map (·.add (lo.toNat*size))) (uK.toNat-lo.toNat) (c-lo.toNat)) W:=by
 intro W;have kW:P.elem t=e:=by simp[Program.elem,aU]
 have hu:P.underlying t=some (.slice (P.elem t)):=by rw[kW];exact aU
 rw[run_slice_lh W t A n c hu nX BH lo uK h0 h1 (by omega),kW];simp[sizeOf,typeInfo,hi,dd,sliced,Result.andThen]
end
theorem Oy{P:Program}{w:World}{src dst e:TypeId}{A:Option Addr}{n c:Nat}{xs:List Int}(ak:P.underlying src=some (.slice e))(he:P.underlying e=some (.int .u8))(hd:P.underlying dst=some .string)
 (h:kV w .u8 A n xs):(convert src dst (.slice A n c)).run P w=.ok (.string (strOfNums xs)) w:=by
 have aq:xs.length=n:=h.1;rcases A with _|cc
 ·have h0:n=0:=by
   rcases Nat.eq_zero_or_pos n with h0|h0
   ·exact h0
   ·obtain⟨cc,km,_⟩:=h.2.2 h0;cases km
  subst h0;obtain rfl:xs=[]:=List.eq_nil_of_length_eq_zero aq;exact run_convert_bytes_nil w src e ak he 0 c dst hd
 ·have an:(loadCells cc n).run P w=.ok (xs.map (Value.int .u8)).toArray w:=by
   have:=run_loadCells_list (P:=P) w cc (xs.map (Value.int .u8)) (fun j v bq=>by
    have oS:j<xs.length:=by
     rcases Nat.lt_or_ge j xs.length with km|km
     ·exact km
     ·rw[List.getElem?_eq_none (by rw[List.length_map];exact km)]at bq;cases bq
    obtain⟨Oh,IE,ai⟩:=h.2.2 (by omega);injection IE with IE;subst IE;rw[ai j (by omega)];rw[List.getElem?_map,List.getElem?_eq_getElem oS]at bq;simp at bq;subst bq;simp[List.getD_eq_getElem?_getD,List.getElem?_eq_getElem oS])
   simpa [aq]using this
  rw[run_convert_bytes_string w src dst e _ n c ak he hd,run_bytesToString w cc n c xs an,foldl_push_bytes];simp[strOfNums,ByteArray.empty,ByteArray.emptyWithCapacity];rfl
theorem ab.rK{P:Program}{w:World}{src dst e:TypeId}{A:Option Addr}{n c:Nat}{xs:List Int}(ak:P.underlying src=some (.slice e))(he:P.underlying e=some (.int .u8))(hd:P.underlying dst=some .string)
 (h:(ab.int .u8).C w A n xs):(convert src dst (.slice A n c)).run P w=.ok (.string (strOfNums xs)) w:=
 Oy ak he hd (ab.xw (enc:=Value.int .u8) (d:=(0:Int)) (h1:=fun _=>rfl) h)
theorem pv{w W:World}(h:Below w.heap.size w W):w.heap.size≤W.heap.size:=h.size
theorem jV{w W bf:World}(h:Below w.heap.size w W)(k:Below W.heap.size W bf):Below w.heap.size w bf:=dq h h.size k
theorem kV.nil(W:World)(k:IntKind):kV W k none ([]:List Int).length []:=⟨rfl,by simp,fun h=>absurd h (Nat.lt_irrefl 0)⟩
theorem kV.drewN{W:World}{k:IntKind}{A:Option Addr}{n:Nat}{xs:List Int}(h:kV W k A n xs)(m:Nat):kV (W.drewN m) k A n xs:=h
theorem YK{w W:World}{g j:Nat}{v:Value}(h:Below w.heap.size w W)(aw:w.heap.size≤g):Below w.heap.size w (W.setCell ⟨g,j,none⟩ v):=h.setCell aw _
theorem YL{w W:World}{g:Nat}{row:Option Nat}(h:cI w W g row)(m:Nat):cI w (W.drewN m) g row:=h
theorem YM{w W:World}{g:Nat}(h:cI w W g none)(o:Obj):cI w (W.alloc o) g none:=h.trans (cI.BA (World.grownBy_alloc W o none) g) (.inl rfl)
theorem qI{w W:World}{g:Nat}(h:cI w W g none){a:Addr}{v:Value}(ai:w.cell? a=some v)(bL:a.block≠g):W.cell? a=some v:=by
 have:=h.2 a.block (World.block_lt_of_cell? w a ai) bL (by simp)
 simpa [World.cell?,this]using ai
theorem uL(a:Addr)(i:Nat):(a.add i).block=a.block:=by unfold Addr.add;split<;>rfl
theorem IF{w0 w w1:World}{B:Nat}(h:Below w0.heap.size w0 w)(dw:w0.heap.size≤B)(k:Below B w w1):Below w0.heap.size w0 w1:=
 h.trans ⟨k.os,k.tape,k.output,k.size,fun i hi=>k.block i (Nat.lt_of_lt_of_le hi dw)⟩
theorem YN{w:World}{base:Nat}{e:TypeId}{size n:Nat}{v:Value}{xs:List Value}(h:w.ownsRow base e size v n xs):v.ownBlock=none∨∃b,v.ownBlock=some b∧base≤b:=by
 cases aZ:v.ownBlock with
 |none=>exact .inl rfl
 |some b=>exact .inr ⟨b,rfl,zr h b aZ⟩
theorem mP{w W:World}{g:Nat}{row:Option Nat}(h:cI w W g row):w.heap.size≤W.heap.size:=h.1
theorem jT.nil{α:Type}(enc:α→Value)(d:α)(W:World):jT enc d W none ([]:List α).length []:=⟨rfl,by simp,fun h=>absurd h (Nat.lt_irrefl 0)⟩
theorem jT.drewN{α:Type}{enc:α→Value}{d:α}{W:World}{A:Option Addr}{n:Nat}{xs:List α}(h:jT enc d W A n xs)(m:Nat):jT enc d (W.drewN m) A n xs:=h
theorem kV.It{w W:World}{k:IntKind}{A:Option Addr}{n g:Nat}{xs:List Int}(h:kV w k A n xs)(ad:cI w W g none)(aA:∀cc,A=some cc→0<n→cc.block≠g):kV W k A n xs:=
 ⟨h.1,h.2.1,fun aq=>by
  obtain⟨cc,e,ai⟩:=h.2.2 aq;exact⟨cc,e,fun j bq=>qI ad (ai j bq) (by rw[uL];exact aA cc e aq)⟩⟩
theorem jT.It{α:Type}{enc:α→Value}{d:α}{w W:World}{A:Option Addr}{n g:Nat}{xs:List α}(h:jT enc d w A n xs)(ad:cI w W g none)(aA:∀cc,A=some cc→0<n→cc.block≠g):jT enc d W A n xs:=
 ⟨h.1,h.2.1,fun aq=>by
  obtain⟨cc,e,ai⟩:=h.2.2 aq;exact⟨cc,e,fun j bq=>qI ad (ai j bq) (by rw[uL];exact aA cc e aq)⟩⟩
theorem cell_far{W:World}{p a:Addr}(h:a.block≠p.block)(u:Value):(W.setCell p u).cell? a=W.cell? a:=by
 have:=Below.heap_setCell W p u a.block h;simp[World.cell?,this]
theorem j7{w:World}{g:Nat}{t:TypeId}{cs Oz:Array Value}(h:w.heap[g]?=some (.cells cs t (0,0)))(i:Nat)(u:Value)(e:cs.setIfInBounds i u=Oz):(w.setCell ⟨g,i,none⟩ u).heap[g]?=some (.cells Oz t (0,0)):=e▸Eu h i u
theorem YO{w W:World}{g:Nat}{row:Option Nat}(h:cI w W g row){p:Addr}(hp:w.heap.size≤p.block)(u:Value):cI w (W.setCell p u) g row:=
 ⟨by simpa [World.setCell]using h.1,fun i hi aw au=>(Below.heap_setCell W p u i (by omega)).trans (h.2 i hi aw au)⟩
theorem OA{base:Nat}{w W:World}(h:Below base w W):Below base w W.drew:=h.drew
theorem YP{w W:World}{g:Nat}{row:Option Nat}(h:cI w W g row):cI w W.drew g row:=h
namespace ab
section
variable {α β:Type} {d:ab α} {d':ab β} {e xq base qG n:Nat} {ok ok':Nat→Prop} {w W w1 ay:World} {v u:Value} {xs:List α} {ys:List β} {A:Option Addr} {c:Nat}
theorem EB(h:d.R e w base ok v xs):v.ownBlock=none∨∃k,v.ownBlock=some k∧base≤k:=by
 obtain⟨inner,aY⟩:=BF h;exact YN aY
end
end ab
namespace ab
section
variable {α:Type} {d:ab α} {e base g:Nat} {ok:Nat→Prop} {w w1:World} {v:Value} {xs:List α} {o:Obj}
theorem EC(U:w.heap[g]?=some o):∀k,w.heap.size≤k→k≠g:=fun k ad=>by have:=sv U;omega
end
end ab
section
variable {P:Program} {ops:Array Oper} {rest:List Oper} {o:Oper} {a:Act} {Q:Exit→Act→World→Prop} {W:World}
theorem la{N:Tmp}(ajR:o.dst=some N)(h:wpList P ops Q (o::rest) a W):wpList P ops Q (o::rest) a W:=h
end
end Go.Proofs.YtmpeadgiclfapaaGreatDoorW.PrintWords
end
section
namespace Go.Proofs.YtmpeadgiclfapaaGreatDoorW.PrintLast
section
variable {P:Program} {ops:Array Oper} {Q:Exit→Act→World→Prop} {md:Region.Mode} {S:World→Prop} {ds:List Nat}
def Region.tD(md:Region.Mode)(ops:Array Oper)(i:Nat):Nat→Nat→Bool
 |0,_=>false
 |fuel+1,d=>match ops[d]? with
  |some o=>o.after.any fun e=>Region.binds md e&&(e.on==i||Region.tD md ops i fuel e.on)
  |none=>false
def Region.IG(md:Region.Mode)(ops:Array Oper)(listed:Array Bool):Bool:=
 (List.range ops.size).all fun j=> !listed.getD j false||match ops[j]? with
  |some o=>o.after.all fun e=> !Region.binds md e||listed.getD e.on false
  |none=>true
def Region.pw(md:Region.Mode)(ops:Array Oper)(listed:Array Bool)(ds:List Nat)(i:Nat):Bool:=
 ds.all fun d=>listed.getD d true||Region.tD md ops i ops.size d
def xz(md:Region.Mode)(ops:Array Oper)(listed:Array Bool):Prop:=
 ∀j jA,ops[j]?=some jA→listed.getD j false=true→∀e∈jA.after,Region.binds md e=true→listed.getD e.on false=true
theorem Region.YQ{listed:Array Bool}(h:Region.IG md ops listed=true):xz md ops listed:=by
 intro j jA bq an e he U;have fo:j<ops.size:=(Array.getElem?_eq_some_iff.1 bq).1;have h1:=List.all_eq_true.1 h j (List.mem_range.2 fo);simp only[an,bq,Bool.not_true,Bool.false_or]at h1;have h2:=Array.all_eq_true_iff_forall_mem.1 h1 e he
 simpa [U]using h2
theorem xz.set{listed:Array Bool}{i:Nat}(h:xz md ops listed)(hi:i∈Region.ready md ops listed):xz md ops (listed.setIfInBounds i true):=by
 obtain⟨_,cO,YR,jW⟩:=mem_ready.1 hi;intro j jA bq an e he U;by_cases hij:i=j
 ·subst hij;have:jA=cO:=Option.some.inj (bq.symm.trans YR);subst this;exact getD_set_true (jW e he U)
 ·rw[getD_set_ne false hij]at an;exact getD_set_true (h j jA bq an e he U)
theorem Region.OB{listed:Array Bool}{i:Nat}(ai:xz md ops listed):∀(fuel d:Nat),Region.tD md ops i fuel d=true→listed.getD d false=true→listed.getD i false=true
 |0,_,h,_=>by simp[Region.tD]at h
 |fuel+1,d,h,an=>by
  unfold Region.tD at h;cases aY:ops[d]? with
  |none=>rw[aY]at h;simp at h
  |some o=>
   rw[aY]at h;obtain⟨e,he,h1⟩:=Array.any_eq_true'.1 h;simp only[Bool.and_eq_true,Bool.or_eq_true,beq_iff_eq]at h1;have hle:=ai d o aY an e he h1.1;rcases h1.2 with h2|h2
   ·rw[←h2];exact hle
   ·exact Region.OB ai fuel e.on h2 hle
theorem Region.YS{listed:Array Bool}{i d fuel:Nat}(ai:xz md ops listed)(au:Region.tD md ops i fuel d=true)(pX:listed.getD i true=false):d∉Region.ready md ops listed:=by
 intro hd;obtain⟨_,o,aY,jW⟩:=mem_ready.1 hd
 have hi:listed.getD i false=true:=by
  cases fuel with
  |zero=>simp[Region.tD]at au
  |succ n=>
   unfold Region.tD at au;rw[aY]at au;obtain⟨e,he,h1⟩:=Array.any_eq_true'.1 au;simp only[Bool.and_eq_true,Bool.or_eq_true,beq_iff_eq]at h1;have hle:=jW e he h1.1;rcases h1.2 with h2|h2
   ·rw[←h2];exact hle
   ·exact Region.OB ai n e.on h2 hle
 rcases Nat.lt_or_ge i listed.size with km|km
 ·simp[km]at pX hi;rw[pX]at hi;cases hi
 ·simp[Array.getElem?_eq_none km]at pX
def gD(P:Program)(md:Region.Mode)(ops:Array Oper)(Q:Exit→Act→World→Prop)(S:World→Prop)(ds:List Nat):Nat→Array Bool→Act→World→Prop
 |0,listed,a,w=>Region.ready md ops listed=[]∧Q .normal a w
 |fuel+1,listed,a,w=>
  (Region.ready md ops listed=[]→Q .normal a w)∧
  ∀i∈Region.ready md ops listed,wpOp P ops Q i (fun a' w'=>(i∉ds→S w→S w')∧gD P md ops Q S ds fuel (listed.setIfInBounds i true) a' w') a w
theorem OC:∀(fuel:Nat) (listed:Array Bool) (a:Act) (w:World),gD P md ops Q S ds fuel listed a w→wpAny P md ops Q fuel listed a w
 |0,_,_,_,h=>h
 |fuel+1,_,_,_,h=>⟨h.1,fun i hi=>wpOp_mono (fun a' w' km=>OC fuel _ a' w' km.2) (h.2 i hi)⟩
theorem YT{i:Nat}{cO:Oper}{v:Value}(hi:ops[i]?=some cO)(BJ:∀(j:Nat) (o:Oper) cs b,ops[j]?=some o→o.op≠ .select cs b)
 (n0:∀c a w,Q (.panic c) (a.put cO.dst v) w→Q (.panic c) a w) (n:Nat):
 ∀(fuel:Nat) (listed:Array Bool) (a:Act) (w:World),
  (∀j jA,ops[j]?=some jA→j≠i→listed.getD j true=false→(∀e∈jA.after,Region.binds md e=true→e.on≠i)→cO.apart ops jA=true)→
  xz md ops listed→(∀d∈ds,listed.getD d true=false→Region.tD md ops i n d=true)→
  i∈Region.ready md ops listed→YieldsIf P ops S cO v a→S w→
  gD P md ops Q S ds fuel (listed.setIfInBounds i true) (a.put cO.dst v) w→gD P md ops Q S ds (fuel+1) listed a w:=by
 intro fuel
 induction fuel with
 |zero=>
  intro listed a w _ _ _ au aX hS H;refine⟨fun h=>(by rw[h]at au;cases au),fun j bq=>?_⟩;by_cases ij:j=i
  ·subst ij;exact aX.wpOp hi hS ⟨fun _ h=>h,H⟩
  ·have:=ready_mono bq ij;rw[H.1]at this;cases this
 |succ fuel bb=>
  intro listed a w BK ai hd au aX hS H;refine⟨fun h=>(by rw[h]at au;cases au),fun j bq=>?_⟩;by_cases ij:j=i
  ·subst ij;exact aX.wpOp hi hS ⟨fun _ h=>h,H⟩
  ·have h1:=H.2 j (ready_mono bq ij);obtain⟨xA,jA,xB,jW⟩:=mem_ready.1 bq;have zu:=(mem_ready.1 au).1
   have IH:∀e∈jA.after,Region.binds md e=true→e.on≠i:=fun e he U heq=>by
    have h1:=jW e he U;rw[heq]at h1;rcases Nat.lt_or_ge i listed.size with km|km
    ·simp[km]at zu h1;rw[zu]at h1;cases h1
    ·simp[Array.getElem?_eq_none km]at h1
   have YU:j∉ds:=fun hm=>Region.YS ai (hd j hm xA) zu bq;have h2:=wpOp_putIf xB (BK j jA xB ij xA IH) (fun cs b=>BJ i cO cs b hi) (fun cs b=>BJ j jA cs b xB) n0 aX h1
   have II:∀k ok,ops[k]?=some ok→k≠i→(listed.setIfInBounds j true).getD k true=false→
    (∀e∈ok.after,Region.binds md e=true→e.on≠i)→cO.apart ops ok=true:=fun k ok ad IJ pX vQ=>by
    refine BK k ok ad IJ ?_ vQ;by_cases hjk:j=k
    ·subst hjk;exact xA
    ·rw[getD_set_ne true hjk]at pX;exact pX
   have IK:∀d∈ds,(listed.setIfInBounds j true).getD d true=false→Region.tD md ops i n d=true:=fun d hm pX=>by
    refine hd d hm ?_;by_cases hjk:j=d
    ·subst hjk;exact xA
    ·rw[getD_set_ne true hjk]at pX;exact pX
   refine wpOp_mono (fun a' w' h3=>⟨h3.2.1,bb (listed.setIfInBounds j true) a' w' II (ai.set bq) IK (ready_mono au (Ne.symm ij)) h3.1 (h3.2.1 YU hS) ?_⟩) h2;rw[Array.setIfInBounds_comm _ _ ij];exact h3.2.2
theorem YV{i:Nat}{cO:Oper}{v:Value}(hi:ops[i]?=some cO)(BJ:∀(j:Nat) (o:Oper) cs b,ops[j]?=some o→o.op≠ .select cs b)
 (n0:∀c a w,Q (.panic c) (a.put cO.dst v) w→Q (.panic c) a w):
 ∀(fuel:Nat) (listed:Array Bool) (a:Act) (w:World),
  (∀j jA,ops[j]?=some jA→j≠i→listed.getD j true=false→(∀e∈jA.after,Region.binds md e=true→e.on≠i)→cO.apart ops jA=true)→
  i∈Region.ready md ops listed→Yields P ops cO v a→
  gD P md ops Q S ds fuel (listed.setIfInBounds i true) (a.put cO.dst v) w→gD P md ops Q S ds (fuel+1) listed a w:=by
 intro fuel
 induction fuel with
 |zero=>
  intro listed a w _ au aX H;refine⟨fun h=>(by rw[h]at au;cases au),fun j bq=>?_⟩;by_cases ij:j=i
  ·subst ij;exact(aX.yieldsIf (S:=fun _=>True)).wpOp hi trivial ⟨fun _ h=>h,H⟩
  ·have:=ready_mono bq ij;rw[H.1]at this;cases this
 |succ fuel bb=>
  intro listed a w BK au aX H;refine⟨fun h=>(by rw[h]at au;cases au),fun j bq=>?_⟩;by_cases ij:j=i
  ·subst ij;exact(aX.yieldsIf (S:=fun _=>True)).wpOp hi trivial ⟨fun _ h=>h,H⟩
  ·have h1:=H.2 j (ready_mono bq ij);obtain⟨xA,jA,xB,jW⟩:=mem_ready.1 bq;have zu:=(mem_ready.1 au).1
   have IH:∀e∈jA.after,Region.binds md e=true→e.on≠i:=fun e he U heq=>by
    have h1:=jW e he U;rw[heq]at h1;rcases Nat.lt_or_ge i listed.size with km|km
    ·simp[km]at zu h1;rw[zu]at h1;cases h1
    ·simp[Array.getElem?_eq_none km]at h1
   have h2:=wpOp_put xB (BK j jA xB ij xA IH) (fun cs b=>BJ i cO cs b hi) (fun cs b=>BJ j jA cs b xB) n0 aX h1
   have II:∀k ok,ops[k]?=some ok→k≠i→(listed.setIfInBounds j true).getD k true=false→
    (∀e∈ok.after,Region.binds md e=true→e.on≠i)→cO.apart ops ok=true:=fun k ok ad IJ pX vQ=>by
    refine BK k ok ad IJ ?_ vQ;by_cases hjk:j=k
    ·subst hjk;exact xA
    ·rw[getD_set_ne true hjk]at pX;exact pX
   refine wpOp_mono (fun a' w' h3=>⟨h3.2.1,bb (listed.setIfInBounds j true) a' w' II (ready_mono au (Ne.symm ij)) h3.1 ?_⟩) h2;rw[Array.setIfInBounds_comm _ _ ij];exact h3.2.2
theorem YW{i:Nat}{cO:Oper}{v:Value}{fuel:Nat}{listed:Array Bool}{a:Act}{w:World}(hi:ops[i]?=some cO)
 (ak:Region.noSelect ops=true) (aA:Region.free md ops listed i=true) (au:(Region.ready md ops listed).contains i=true)
 (ai:Region.IG md ops listed=true) (an:Region.pw md ops listed ds i=true)
 (n0:∀c a w,Q (.panic c) (a.put cO.dst v) w→Q (.panic c) a w) (aX:YieldsIf P ops S cO v a) (hS:S w)
 (h:gD P md ops Q S ds fuel (listed.setIfInBounds i true) (a.put cO.dst v) w):gD P md ops Q S ds (fuel+1) listed a w:=
 YT hi (Region.noSelect_spec ak) n0 ops.size fuel listed a w (Region.free_spec hi aA) (Region.YQ ai)
  (fun d hm pX=>by have:=List.all_eq_true.1 an d hm;rw[pX]at this;simpa using this) (by simpa using au) aX hS h
theorem YX{rs:List Nat}{fuel:Nat}{listed:Array Bool}{a:Act}{w:World}(au:Region.ready md ops listed=rs)(bL:rs≠[])
 (h:∀i∈rs,wpOp P ops Q i (fun a' w'=>(i∉ds→S w→S w')∧gD P md ops Q S ds fuel (listed.setIfInBounds i true) a' w') a w):gD P md ops Q S ds (fuel+1) listed a w:=
 ⟨fun h0=>absurd (au▸h0) bL,au▸h⟩
theorem YY{listed:Array Bool}{a:Act}{w:World}(au:Region.ready md ops listed=[])(h:Q .normal a w):
 ∀fuel,gD P md ops Q S ds fuel listed a w
 |0=>⟨au,h⟩
 |_+1=>⟨fun _=>h,by rw[au];simp⟩
theorem YZ{id:Nat}{a:Act}{w:World}(hm:P.follows .mixedOrders=true)
 (h:gD P .any ops Q S ds ops.size (Array.replicate ops.size false) a {w with drawn:=w.drawn+1}):(Code.region id ops true).wp P Q a w:=
 wp_region_any hm (OC _ _ _ _ h)
end
section
variable {P:Program} {ops:Array Oper} {Q:Exit→Act→World→Prop} {md:Region.Mode} {S:World→Prop} {ds:List Nat}
def oU(P:Program)(md:Region.Mode)(ops:Array Oper)(Q:Exit→Act→World→Prop)(S:World→Prop)(ds:List Nat)(fuel:Nat)(listed:Array Bool)(a:Act)(w:World)(rs:List Nat):Prop:=
 ∀i∈rs,wpOp P ops Q i (fun a' w'=>(i∉ds→S w→S w')∧gD P md ops Q S ds fuel (listed.setIfInBounds i true) a' w') a w
theorem oU.nil{fuel:Nat}{listed:Array Bool}{a:Act}{w:World}:oU P md ops Q S ds fuel listed a w []:=fun _ h=>by cases h
theorem oU.cons{fuel:Nat}{listed:Array Bool}{a:Act}{w:World}{i:Nat}{o:Oper}{rs:List Nat}(aY:ops[i]?=some o)(hd:i∉ds)
 (h:∀ic:Act→World→Prop,Shut (∀a w,S w→(S w→gD P md ops Q S ds fuel (listed.setIfInBounds i true) a w)→ic a w)→if Region.wanted o (yielded ops a.tmps)=true then Oper.wp P o a w ic Q else ic (a.put o.dst undef) w)
 (ak:oU P md ops Q S ds fuel listed a w rs):oU P md ops Q S ds fuel listed a w (i::rs):=fun j bq=>by
 rcases List.mem_cons.1 bq with rfl|bq
 ·exact wpOp_step aY (fun ic aH=>h ic (fun a w hS fD=>aH a w ⟨fun _ _=>hS,fD hS⟩))
 ·exact ak j bq
theorem oU.Y0{fuel:Nat}{listed:Array Bool}{a:Act}{w:World}{i:Nat}{o:Oper}{rs:List Nat}(aY:ops[i]?=some o)(hd:i∈ds)
 (h:∀ic:Act→World→Prop,Shut (∀a w,gD P md ops Q S ds fuel (listed.setIfInBounds i true) a w→ic a w)→if Region.wanted o (yielded ops a.tmps)=true then Oper.wp P o a w ic Q else ic (a.put o.dst undef) w)
 (ak:oU P md ops Q S ds fuel listed a w rs):oU P md ops Q S ds fuel listed a w (i::rs):=fun j bq=>by
 rcases List.mem_cons.1 bq with rfl|bq
 ·exact wpOp_step aY (fun ic aH=>h ic (fun a w fD=>aH a w ⟨fun aq=>absurd hd aq,fD⟩))
 ·exact ak j bq
theorem IL{rs:List Nat}{fuel:Nat}{listed:Array Bool}{a:Act}{w:World}(au:Region.ready md ops listed=rs)(bL:rs≠[])
 (h:oU P md ops Q S ds fuel listed a w rs):gD P md ops Q S ds (fuel+1) listed a w:=YX au bL h
theorem fX{id n:Nat}{a:Act}{w:World}(l:Array Bool)(hm:P.follows .mixedOrders=true)(aq:ops.size=n)(an:Array.replicate n false=l)(hS:S w.drew)
 (h:S w.drew→gD P .any ops Q S ds n l a w.drew):(Code.region id ops true).wp P Q a w:=by
 subst aq;subst an;exact YZ hm (h hS)
def ED(md:Region.Mode)(ops:Array Oper)(ds:List Nat)(l cU:Array Bool)(i:Nat):Bool:=
 Region.noSelect ops&&Region.free md ops l i&&(Region.ready md ops l).contains i&&Region.IG md ops l&&Region.pw md ops l ds i&&(l.setIfInBounds i true==cU)
theorem Bw{i:Nat}{N:Option Tmp}{cO:Oper}{v:Value}{fuel:Nat}{l:Array Bool}{a:Act}{w:World}(cU:Array Bool)(hi:ops[i]?=some cO)(eD:cO.dst=N)(ai:ED md ops ds l cU i=true)
 (n0:∀c a w,Q (.panic c) (a.put cO.dst v) w→Q (.panic c) a w) (aX:YieldsIf P ops S cO v a) (hS:S w) {a':Act} (eh:a.put N v=a')
 (h:gD P md ops Q S ds fuel cU a' w):gD P md ops Q S ds (fuel+1) l a w:=by
 subst eh;subst eD;simp only[ED,Bool.and_eq_true,beq_iff_eq]at ai;obtain⟨⟨⟨⟨⟨h1,h2⟩,h3⟩,h4⟩,h5⟩,h6⟩:=ai;subst h6;exact YW hi h1 h2 h3 h4 h5 n0 aX hS h
def EE(md:Region.Mode)(ops:Array Oper)(l cU:Array Bool)(i:Nat):Bool:=
 Region.noSelect ops&&Region.free md ops l i&&(Region.ready md ops l).contains i&&(l.setIfInBounds i true==cU)
theorem BL{i:Nat}{N:Option Tmp}{cO:Oper}{v:Value}{fuel:Nat}{l:Array Bool}{a:Act}{w:World}(cU:Array Bool)(hi:ops[i]?=some cO)(eD:cO.dst=N)(ai:EE md ops l cU i=true)
 (n0:∀c a w,Q (.panic c) (a.put cO.dst v) w→Q (.panic c) a w) (aX:Yields P ops cO v a) {a':Act} (eh:a.put N v=a')
 (h:gD P md ops Q S ds fuel cU a' w):gD P md ops Q S ds (fuel+1) l a w:=by
 subst eh;subst eD;simp only[EE,Bool.and_eq_true,beq_iff_eq]at ai;obtain⟨⟨⟨h1,h2⟩,h3⟩,h6⟩:=ai;subst h6;exact YV hi (Region.noSelect_spec h1) n0 fuel l a w (Region.free_spec hi h2) (by simpa using h3) aX h
def tF(md:Region.Mode)(ops:Array Oper)(l cU:Array Bool)(i:Nat):Bool:=(Region.ready md ops l==[i])&&(l.setIfInBounds i true==cU)
theorem OD{i:Nat}{N:Option Tmp}{cO:Oper}{fuel:Nat}{l:Array Bool}{a:Act}{w:World}(cU:Array Bool)(hi:ops[i]?=some cO)(eD:cO.dst=N)(ai:tF md ops l cU i=true)(hd:i∉ds)
 (h:∀K:Act→World→Prop,Shut (∀a' w',S w'→(S w'→gD P md ops Q S ds fuel cU a' w')→K a' w')→if Region.wanted cO (yielded ops a.tmps)=true then Oper.wp P cO a w K Q else K (a.put N undef) w):
 gD P md ops Q S ds (fuel+1) l a w:=by
 subst eD;simp only[tF,Bool.and_eq_true,beq_iff_eq]at ai;obtain⟨h1,h2⟩:=ai;subst h2;exact IL h1 (by simp) (oU.cons hi hd (fun K aH=>h K aH) oU.nil)
theorem OE{i:Nat}{N:Option Tmp}{cO:Oper}{fuel:Nat}{l:Array Bool}{a:Act}{w:World}(cU:Array Bool)(hi:ops[i]?=some cO)(eD:cO.dst=N)(ai:tF md ops l cU i=true)(hd:i∈ds)
 (h:∀K:Act→World→Prop,Shut (∀a' w',gD P md ops Q S ds fuel cU a' w'→K a' w')→if Region.wanted cO (yielded ops a.tmps)=true then Oper.wp P cO a w K Q else K (a.put N undef) w):
 gD P md ops Q S ds (fuel+1) l a w:=by
 subst eD;simp only[tF,Bool.and_eq_true,beq_iff_eq]at ai;obtain⟨h1,h2⟩:=ai;subst h2;exact IL h1 (by simp) (oU.Y0 hi hd (fun K aH=>h K aH) oU.nil)
theorem jX{l:Array Bool}{a:Act}{w:World}{n:Nat}(au:(Region.ready md ops l==[])=true)(h:Q .normal a w):gD P md ops Q S ds n l a w:=YY (by simpa using au) h n
theorem EF{i j:Nat}{Ni Nj:Option Tmp}{cO jA:Oper}{fuel:Nat}{l:Array Bool}{a:Act}{w:World}(li IM:Array Bool)(hi:ops[i]?=some cO)(bq:ops[j]?=some jA)(Y1:cO.dst=Ni)(Y2:jA.dst=Nj)
 (ai:(Region.ready md ops l==[i,j]&&l.setIfInBounds i true==li&&l.setIfInBounds j true==IM)=true) (Y3:i∉ds) (Y4:j∉ds)
 (h1:∀K:Act→World→Prop,Shut (∀a' w',S w'→(S w'→gD P md ops Q S ds fuel li a' w')→K a' w')→if Region.wanted cO (yielded ops a.tmps)=true then Oper.wp P cO a w K Q else K (a.put Ni undef) w)
 (h2:∀K:Act→World→Prop,Shut (∀a' w',S w'→(S w'→gD P md ops Q S ds fuel IM a' w')→K a' w')→if Region.wanted jA (yielded ops a.tmps)=true then Oper.wp P jA a w K Q else K (a.put Nj undef) w):
 gD P md ops Q S ds (fuel+1) l a w:=by
 subst Y1;subst Y2;simp only[Bool.and_eq_true,beq_iff_eq]at ai;obtain⟨⟨h3,h4⟩,h5⟩:=ai;subst h4;subst h5;exact IL h3 (by simp) (oU.cons hi Y3 (fun K aH=>h1 K aH) (oU.cons bq Y4 (fun K aH=>h2 K aH) oU.nil))
def BM:Act→List (Tmp×Value)→Act
 |a,[]=>a
 |a,(n,v)::r=>BM (a.put (some n) v) r
theorem OF{σ:Type}{fuel:Nat}{l:Array Bool}{a:Act}{w:World}(OG:Nat)(cU:Array Bool)(ns:σ→List (Tmp×Value))(F:σ→World→Prop)
 (Y5:∀s w',F s w'→gD P md ops Q S ds OG cU (BM a (ns s)) w')
 (h:(∀s w',F s w'→gD P md ops Q S ds OG cU (BM a (ns s)) w')→gD P md ops Q S ds fuel l a w):gD P md ops Q S ds fuel l a w:=h Y5
theorem uM{fuel:Nat}{l:Array Bool}{a a':Act}{w:World}(eh:a=a')(h:gD P md ops Q S ds fuel l a' w):gD P md ops Q S ds fuel l a w:=by
 subst eh;exact h
theorem Y6{cO:Oper}{N:Option Tmp}{a:Act}{w:World}{K:Act→World→Prop}(f:FuncId)(args:Array Value)(hw:Region.wanted cO (yielded ops a.tmps)=true)(eD:cO.dst=N)(k8:(execOp a.eval cO).run P w=.ok (.enter f args) w)
 (h:Calls P f args w fun e w'=>∃v,e=.returned v∧K (a.put N v) w'):if Region.wanted cO (yielded ops a.tmps)=true then Oper.wp P cO a w K Q else K (a.put N undef) w:=by
 rw[if_pos hw];subst eD;unfold Oper.wp;rw[k8,Oper.upon_enter];refine h.mono fun e BN ed=>?_;obtain⟨v,rfl,ad⟩:=ed;exact ad
theorem OH {f : FuncId} {fn : Func} (aA : P.funcs[f]? = some fn) (BO : (fn.name == "runtime.NumGoroutine") = false) (U : fn.body.isSome = true) (args : Array Value) (w : World) : (callFunc f args).run P w = .ok (.enter f args) w := by
 have h1 : fn.name ≠ "runtime.NumGoroutine" := by simpa using BO
 obtain⟨c,ai⟩:=Option.isSome_iff_exists.1 U;simp[callFunc,aA,h1,ai]
theorem mQ {cO : Oper} {N : Option Tmp} {a : Act} {w : World} {K : Act → World → Prop} {f : FuncId} {fn : Func} {xC : Array Operand} {xD : Array TypeId} (aA : P.funcs[f]? = some fn) (BO : (fn.name == "runtime.NumGoroutine") = false) (U : fn.body.isSome = true) (args : Array Value)
 (hw:Region.wanted cO (yielded ops a.tmps)=true) (eD:cO.dst=N) (dR:cO.op=.call {callee:=.value (.func f),args:=xC,argTypes:=xD}) (EG:xC.map a.eval=args)
 (h:Calls P f args w fun e w'=>∃v,e=.returned v∧K (a.put N v) w'):if Region.wanted cO (yielded ops a.tmps)=true then Oper.wp P cO a w K Q else K (a.put N undef) w:=by
 refine Y6 f args hw eD ?_ h;have he:=OH aA BO U args w;unfold execOp;simp[dR,resolve,Deferred.ofValue,invoke,Act.eval,EG,he]
theorem kJ {rest : List Oper} {cO : Oper} {a : Act} {w : World} (N : Option Tmp) (hd : cO.dst = N) (aw : cO.guard = none) {f : FuncId} {fn : Func} {xC : Array Operand} {xD : Array TypeId} (aA : P.funcs[f]? = some fn) (BO : (fn.name == "runtime.NumGoroutine") = false) (U : fn.body.isSome = true) (args : Array Value)
 (dR:cO.op=.call {callee:=.value (.func f),args:=xC,argTypes:=xD}) (EG:xC.map a.eval=args)
 (h:Calls P f args w fun e w'=>∃v,e=.returned v∧wpList P ops Q rest (a.put N v) w'):wpList P ops Q (cO::rest) a w:=by
 refine wpList_plain aw fun K aH=>?_;have he:=OH aA BO U args w
 have k8:(execOp a.eval cO).run P w=.ok (.enter f args) w:=by
  unfold execOp;simp[dR,resolve,Deferred.ofValue,invoke,Act.eval,EG,he]
 unfold Oper.wp;rw[k8,Oper.upon_enter];refine h.mono fun e BN ed=>?_;obtain⟨v,rfl,ad⟩:=ed;subst hd;exact aH _ _ ad
theorem Y7{cO:Oper}{N:Option Tmp}{a:Act}{w w1:World}{v:Value}{K:Act→World→Prop}(hw:Region.wanted cO (yielded ops a.tmps)=true)(eD:cO.dst=N)(k8:(execOp a.eval cO).run P w=.ok (.value v) w1)
 (h:K (a.put N v) w1):if Region.wanted cO (yielded ops a.tmps)=true then Oper.wp P cO a w K Q else K (a.put N undef) w:=by
 rw[if_pos hw];subst eD;unfold Oper.wp;rw[k8];exact h
theorem Y8{cO:Oper}{a:Act}{w w1:World}{K:Act→World→Prop}(hw:Region.wanted cO (yielded ops a.tmps)=true)(eD:cO.dst=none)(k8:(execOp a.eval cO).run P w=.ok .skip w1)
 (h:K a w1):if Region.wanted cO (yielded ops a.tmps)=true then Oper.wp P cO a w K Q else K (a.put none undef) w:=by
 rw[if_pos hw];unfold Oper.wp;rw[k8]
 show K (a.put cO.dst undef) w1
 rw[eD];exact h
theorem jj(n:Int):IntKind.i64.wrap n=Go.RowKit.wrap64 n:=by unfold Go.RowKit.wrap64;exact IntKind.wrap_i64 n
theorem oV(n:Int):IntKind.i32.wrap n=Go.RowKit.wrap32 n:=by unfold Go.RowKit.wrap32;exact IntKind.wrap_i32 n
end
end Go.Proofs.YtmpeadgiclfapaaGreatDoorW.PrintLast
end
section
namespace Go.Proofs.YtmpeadgiclfapaaGreatDoorW.PrintLast
open Go.Proofs.YtmpeadgiclfapaaGreatDoorW.PrintWords (aN)
def EH(md:Region.Mode)(o:Oper):List Nat:=(o.after.toList.filter (fun e=>Region.binds md e)).map (fun e=>e.on)
def OI(md:Region.Mode)(ops:Array Oper)(i:Nat)(cO:Oper):List Nat:=(List.range ops.size).filter fun j=> !(j==i)&&match ops[j]? with
 |some jA=> !(jA.after.any (fun e=>Region.binds md e&&e.on==i)||cO.apart ops jA)
 |none=>false
def vR(md:Region.Mode)(ops:Array Oper):Bool×List (List Nat×List Nat):=(Region.noSelect ops,(List.range ops.size).map fun i=>match ops[i]? with
 |some o=>(EH md o,OI md ops i o)
 |none=>([],[]))
def IN(T:List (List Nat×List Nat))(l:List Bool)(i:Nat):Bool:= !l.getD i true&&match T[i]? with
 |some r=>r.1.all (fun j=>l.getD j false)
 |none=>false
def IP(T:List (List Nat×List Nat))(l:List Bool):List Nat:=(List.range T.length).filter (IN T l)
section
variable {md:Region.Mode} {ops:Array Oper} {T:Bool×List (List Nat×List Nat)} {l cU li IM qJ:Array Bool} {ds:List Nat} {i j k:Nat}
theorem xE(l:Array Bool)(j:Nat)(b:Bool):l.getD j b=l.toList.getD j b:=by simp[Array.getD_eq_getD_getElem?,List.getD_eq_getElem?_getD]
theorem Y9(o:Oper)(p:Nat→Bool):o.after.all (fun e=> !Region.binds md e||p e.on)=(EH md o).all p:=by
 unfold EH;rw[←Array.all_toList]
 induction o.after.toList with
 |nil=>rfl
 |cons e r bb=>
  rw[List.all_cons,bb,List.filter_cons];cases h:Region.binds md e<;>simp
theorem OJ:(vR md ops).2.length=ops.size:=by simp[vR]
theorem Za{o:Oper}(h:ops[i]?=some o):(vR md ops).2[i]?=some (EH md o,OI md ops i o):=by
 have hi:=(Array.getElem?_eq_some_iff.1 h).1;unfold vR;rw[List.getElem?_map,List.getElem?_range hi,Option.map_some,h]
theorem Zb(h:ops[i]?=none):(vR md ops).2[i]?=none:=by
 have hi:ops.size≤i:=Array.getElem?_eq_none_iff.1 h;exact List.getElem?_eq_none (by rw[OJ];exact hi)
theorem Zc:IN (vR md ops).2 l.toList i=(!l.getD i true&&((ops[i]?).map (·.after.all fun e=> !Region.binds md e||l.getD e.on false)).getD false):=by
 unfold IN;rw[xE];cases h:ops[i]? with
 |none=>rw[Zb h];rfl
 |some o=>
  rw[Za h];simp only[Option.map_some,Option.getD_some];rw[←Y9];simp only[xE]
theorem Zd:Region.ready md ops l=IP (vR md ops).2 l.toList:=by
 unfold Region.ready IP;rw[OJ];refine List.filter_congr (fun i _=>?_);rw[Zc]
theorem Ze(h:(l.toList.set i true==cU.toList)=true):(l.setIfInBounds i true==cU)=true:=by
 rw[beq_iff_eq]at h⊢;apply Array.ext';rw[Array.toList_setIfInBounds];exact h
theorem BP(cV:vR md ops=T)(h:(IP T.2 l.toList==[i]&&l.toList.set i true==cU.toList)=true):tF md ops l cU i=true:=by
 simp only[Bool.and_eq_true]at h;obtain⟨h1,h2⟩:=h;subst cV;simp only[tF,Bool.and_eq_true];exact⟨by rw[Zd];exact h1,Ze h2⟩
end
end Go.Proofs.YtmpeadgiclfapaaGreatDoorW.PrintLast
end
section
namespace Go.Proofs.YtmpeadgiclfapaaGreatDoorW.PrintWords
open Go.RowKit
namespace ab
def tag{α:Type}(f:Nat→Nat)(d:ab α):ab (α×Nat) where
 sz:=d.sz
 E:=d.E
 K:=fun w x cs=>d.K w x.1 cs
 M:=fun w base ok x cs=>d.M w base (fun k=>ok k∧f k=x.2) x.1 cs
 mM:=fun h=>d.mM h
 mN:=fun h=>d.mN h
 pr:=fun U h=>d.pr U h
 kY:=fun h=>d.kY h
 kI:=fun bC h=>d.kI (fun k ad=>⟨bC k ad.1,ad.2⟩) h
 mO:=fun h=>d.kI (fun _ ad=>⟨⟨ad.1.1,ad.2⟩,ad.1.2⟩) (d.mO h)
 nz:=fun hm h=>d.nz (fun k ad=>hm k ad.1) h
 ps:=fun U h=>d.ps U h
def bare{α:Type}(d:ab α):ab α where
 sz:=d.sz
 E:=d.E
 K:=d.K
 M:=fun w base _ x cs=>d.M w base (fun _=>False) x cs
 mM:=fun h=>d.mM h
 mN:=fun h=>d.mN h
 pr:=fun U h=>d.pr U h
 kY:=fun h=>d.kY h
 kI:=fun _ h=>h
 mO:=fun h=>h
 nz:=fun _ h=>d.nz (fun _ ad=>ad.elim) h
 ps:=fun U h=>d.ps U h
def raw(sz:Nat):ab (List Value) where
 sz:=sz
 E:=[]
 K:=fun _ x cs=>cs=x∧cs.length=sz∧∀u∈cs,u.oneCell'=true
 M:=fun _ _ _ x cs=>cs=x∧cs.length=sz∧∀u∈cs,u.oneCell'=true
 mM:=fun h=>h.2.1
 mN:=fun h=>h.2.2
 pr:=fun _ h=>h
 kY:=fun h=>h
 kI:=fun _ h=>h
 mO:=fun h=>h
 nz:=fun _ h=>h
 ps:=fun _ h=>h
def S{α:Type}(d:ab α)(e:Nat)(w:World)(base:Nat)(ok:Nat→Prop)(v:Value)(xs:List α):Prop:=∃f,(tag f d).R e w base ok v xs.zipIdx
section
variable {α β:Type} {d:ab α} {d':ab β} {e xq:Nat} {w w1 W:World} {base b:Nat} {ok ok' Yt Yu:Nat→Prop} {u v:Value} {xs:List α} {ys:List β}
theorem IQ(cG:d.E=[])(h:d.R e w base ok v xs):d.R e w base (fun k=>some k=v.ownBlock) v xs:=by
 obtain⟨h0,inner,aY,au⟩:=h;refine⟨fun k ad=>ad.symm,inner,aY,au.pn (fun p c hp=>d.kI (fun k ad=>?_) (d.mO hp))⟩;obtain⟨_,_,_,q,ar,_⟩:=ad;rw[cG]at ar;cases ar
theorem OK(d:ab α)(e:Nat)(w:World)(base:Nat)(ok:Nat→Prop):S d e w base ok (.slice none 0 0) []:=⟨fun _=>0,sw _ _ _ _ _⟩
end
def Zf{α:Type}(f:Nat→Nat)(d:ab α)(i:Nat)(c:List Value):ab (α×Nat) where
 sz:=d.sz
 E:=d.E
 K:=fun w x cs=>(x.2=i→cs=c∧cs.length=d.sz∧∀u∈cs,u.oneCell'=true)∧(x.2≠i→d.K w x.1 cs)
 M:=fun w base ok x cs=>(x.2=i→cs=c∧cs.length=d.sz∧∀u∈cs,u.oneCell'=true)∧(x.2≠i→d.M w base (fun k=>ok k∧f k=x.2) x.1 cs)
 mM:=fun{w x cs} h=>by
  by_cases ae:x.2=i
  ·exact(h.1 ae).2.1
  ·exact d.mM (h.2 ae)
 mN:=fun{w x cs} h=>by
  by_cases ae:x.2=i
  ·exact(h.1 ae).2.2
  ·exact d.mN (h.2 ae)
 pr:=fun U h=>⟨h.1,fun ae=>d.pr U (h.2 ae)⟩
 kY:=fun h=>⟨h.1,fun ae=>d.kY (h.2 ae)⟩
 kI:=fun bC h=>⟨h.1,fun ae=>d.kI (fun k ad=>⟨bC k ad.1,ad.2⟩) (h.2 ae)⟩
 mO:=fun h=>⟨h.1,fun ae=>d.kI (fun _ ad=>⟨⟨ad.1.1,ad.2⟩,ad.1.2⟩) (d.mO (h.2 ae))⟩
 nz:=fun hm h=>⟨h.1,fun ae=>d.nz (fun k ad=>hm k ad.1) (h.2 ae)⟩
 ps:=fun U h=>⟨h.1,fun ae=>d.ps U (h.2 ae)⟩
def H{α:Type}(d:ab α)(e:Nat)(w:World)(base:Nat)(ok:Nat→Prop)(v:Value)(xs:List α)(i:Int)(OL:Nat→Prop)(c:List Value):Prop:=
 (∀k,OL k→ok k)∧∃f,(Zf f d i.toNat c).R e w base (fun k=>ok k∧¬OL k) v xs.zipIdx
end ab
end Go.Proofs.YtmpeadgiclfapaaGreatDoorW.PrintWords
end
section
namespace Go.Proofs.YtmpeadgiclfapaaGreatDoorW.PrintWords
open Go.RowKit
namespace ab
structure Heap{α:Type}(d:ab α):Prop where
 K:∀{w w1:World} {x:α} {cs:List Value},(∀k,k<w.heap.size→w1.heap[k]?=w.heap[k]?)→d.K w x cs→d.K w1 x cs
theorem Zg{w w1:World}(U:∀k,k<w.heap.size→w1.heap[k]?=w.heap[k]?){a:Addr}{v:Value}(h:w.cell? a=some v):w1.cell? a=some v:=by
 have:=U a.block (World.block_lt_of_cell? w a h)
 simpa [World.cell?,this]using h
theorem Heap.C{α:Type}{d:ab α}(hd:Heap d){w w1:World}{A:Option Addr}{n:Nat}{xs:List α}(U:∀k,k<w.heap.size→w1.heap[k]?=w.heap[k]?)(h:d.C w A n xs):d.C w1 A n xs:=
 ⟨h.1,h.2.1,fun aq=>by
  obtain⟨cc,e,ai⟩:=h.2.2 aq;refine⟨cc,e,fun j p bq=>?_⟩;obtain⟨c,ak,au,mm⟩:=ai j p bq;exact⟨c,ak,hd.K U au,fun i u hu=>Zg U (mm i u hu)⟩⟩
end ab
end Go.Proofs.YtmpeadgiclfapaaGreatDoorW.PrintWords
end
section
namespace Go.Proofs.YtmpeadgiclfapaaGreatDoorW.PrintWords
open Go.RowKit
def Kept(w W:World)(S:Nat→Prop):Prop:=w.heap.size≤W.heap.size∧∀i,i<w.heap.size→¬S i→W.heap[i]?=w.heap[i]?
section
variable {w W eJ:World} {S S2 OM:Nat→Prop}
theorem Kept.refl(w:World)(S:Nat→Prop):Kept w w S:=⟨Nat.le_refl _,fun _ _ _=>rfl⟩
theorem Kept.kn(h:Below w.heap.size w W)(S:Nat→Prop):Kept w W S:=⟨h.size,fun i hi _=>h.block i hi⟩
theorem Kept.mono(h:Kept w W S)(ak:∀k,S k→OM k):Kept w W OM:=⟨h.1,fun i hi aq=>h.2 i hi (fun ad=>aq (ak i ad))⟩
theorem Kept.IS(h:Kept w W S)(k:Kept W eJ S2)(ak:∀k,S2 k→S k∨w.heap.size≤k):Kept w eJ S:=
 ⟨Nat.le_trans h.1 k.1,fun i hi aq=>(k.2 i (Nat.lt_of_lt_of_le hi h.1) (fun h2=>(ak i h2).elim aq (fun h3=>by omega))).trans (h.2 i hi aq)⟩
theorem Kept.BA{row:Option Nat}(aw:W.grownBy eJ row)(h:Kept w W S)(au:∀k,row=some k→S k∨w.heap.size≤k):Kept w eJ S:=
 h.IS (S2:=fun k=>row=some k) ⟨aw.size,fun i hi aq=>aw.block i hi (fun he=>aq he.symm)⟩ au
theorem Kept.below(h:Kept w W S)(U:Below W.heap.size W eJ):Kept w eJ S:=h.IS (Kept.kn U (fun _=>False)) (fun _ ad=>ad.elim)
theorem Kept.alloc(h:Kept w W S)(o:Obj):Kept w (W.alloc o) S:=h.below (da (Below.refl _ _) o)
theorem Kept.drew(h:Kept w W S):Kept w W.drew S:=h
theorem Kept.drewN(h:Kept w W S)(m:Nat):Kept w (W.drewN m) S:=h
theorem Kept.setCell(h:Kept w W S){p:Addr}(hp:S p.block∨w.heap.size≤p.block)(u:Value):Kept w (W.setCell p u) S:=
 h.IS (S2:=fun k=>k=p.block) ⟨by simp[World.setCell],fun i _ aq=>Below.heap_setCell W p u i aq⟩ (fun k ad=>by rw[ad];exact hp)
theorem Kept.It{g:Nat}(h:cI w W g none)(k:Kept W eJ S2)(ak:∀k,S2 k→w.heap.size≤k):cI w eJ g none:=
 ⟨Nat.le_trans h.1 k.1,fun i hi aw au=>(k.2 i (Nat.lt_of_lt_of_le hi h.1) (fun h2=>by have:=ak i h2;omega)).trans (h.2 i hi aw au)⟩
end
end Go.Proofs.YtmpeadgiclfapaaGreatDoorW.PrintWords
end
section
namespace Go.Proofs.YtmpeadgiclfapaaGreatDoorW.PrintWords
open Go.RowKit
def lb(P:World→Prop)(W:World)(ok:Nat→Prop):Prop:=∀aQ:World,(∀k,ok k→k<W.heap.size→aQ.heap[k]?=W.heap[k]?)→P aQ
theorem ON{W ay:World}{k:Nat}(h:ay.heap[k]?=W.heap[k]?)(fo:k<W.heap.size):k<ay.heap.size:=by
 rw[Array.getElem?_eq_getElem fo]at h;exact(Array.getElem?_eq_some_iff.1 h).1
namespace lb
variable {P Q:World→Prop} {W ay:World} {ok ok':Nat→Prop}
theorem now(h:lb P W ok):P W:=h W (fun _ _ _=>rfl)
theorem mono(h:lb P W ok)(bC:∀k,ok k→ok' k):lb P W ok':=fun aQ fD=>h aQ (fun k ad fo=>fD k (bC k ad) fo)
theorem bound(h:lb P W ok):lb P W (fun k=>ok k∧k<W.heap.size):=fun aQ fD=>h aQ (fun k ad fo=>fD k ⟨ad,fo⟩ fo)
theorem step(h:lb P W ok)(hm:∀k,ok k→k<W.heap.size→ay.heap[k]?=W.heap[k]?):lb P ay ok:=fun aQ fD=>h aQ (fun k ad fo=>(fD k ad (ON (hm k ad fo) fo)).trans (hm k ad fo))
theorem imp(h:lb P W ok)(hi:∀aQ,P aQ→Q aQ):lb Q W ok:=fun aQ fD=>hi aQ (h aQ fD)
end lb
namespace ab
def F{α:Type}(d:ab α)(W:World)(ok:Nat→Prop)(A:Option Addr)(n:Nat)(xs:List α):Prop:=lb (fun W=>d.C W A n xs) W ok
def n1{α:Type}(d:ab α)(W:World)(ok:Nat→Prop)(x:α)(c:List Value):Prop:=lb (fun W=>d.K W x c) W ok
section
variable {α β:Type} {d:ab α} {e base n j8 mR g N:Nat} {ok ok' okp S:Nat→Prop} {w w0 w1 W ay:World} {A ib:Option Addr} {u v v1:Value} {xs:List α} {OO:List β} {d':ab β} {x:α} {c:List Value}
theorem Zh(h:F d W ok A n xs):d.C W A n xs:=lb.now h
theorem OP(h:F d W ok A n xs)(bC:∀k,ok k→ok' k):F d W ok' A n xs:=lb.mono h bC
theorem Zi(h:F d W ok A n xs):F d W (fun k=>ok k∧k<W.heap.size) A n xs:=lb.bound h
theorem Zj(h:F d W ok A n xs)(hm:∀k,ok k→k<W.heap.size→ay.heap[k]?=W.heap[k]?):F d ay ok A n xs:=lb.step h hm
theorem OQ(h:F d W ok A n xs)(hi:∀aQ,d.C aQ A n xs→d'.C aQ ib j8 OO):F d' W ok ib j8 OO:=lb.imp h hi
theorem IT(h:F d W ok A n xs)(U:Below W.heap.size W ay):F d ay ok A n xs:=Zj h (fun k _ fo=>U.block k fo)
theorem Zk(h:F d W ok A n xs)(o:Obj):F d (W.alloc o) ok A n xs:=IT h (da (Below.refl _ _) o)
theorem Zl(h:F d W ok A n xs):F d W.drew ok A n xs:=IT h (kH (Below.refl _ _))
theorem Zm(h:F d W ok A n xs)(m:Nat):F d (W.drewN m) ok A n xs:=IT h (jI (Below.refl _ _) m)
theorem Zn(d:ab α)(W:World)(ok:Nat→Prop):F d W ok none ([]:List α).length []:=fun aQ _=>Iz d aQ
theorem Zo(h:F d W (fun k=>ok k∧some k≠v.ownBlock) A n xs)(aw:W.grownBy ay v.ownBlock)(ea:v1.ownBlock=v.ownBlock∨∃b,v1.ownBlock=some b∧W.heap.size≤b):F d ay (fun k=>ok k∧some k≠v1.ownBlock) A n xs:=by
 refine OP (lb.step (Zi h) (fun k ad fo=>aw.block k fo ad.1.2)) (fun k ad=>⟨ad.1.1,?_⟩);rcases ea with ea|⟨b,U,hle⟩
 ·rw[ea];exact ad.1.2
 ·rw[U];intro he;injection he with he;have:=ad.2;omega
theorem IU(h:n1 d W ok x c):d.K W x c:=lb.now h
theorem IV(h:n1 d W ok x c)(bC:∀k,ok k→ok' k):n1 d W ok' x c:=lb.mono h bC
theorem Zp(h:n1 d W ok x c):n1 d W (fun k=>ok k∧k<W.heap.size) x c:=lb.bound h
theorem OR(h:n1 d W ok x c)(hm:∀k,ok k→k<W.heap.size→ay.heap[k]?=W.heap[k]?):n1 d ay ok x c:=lb.step h hm
theorem Zq(h:d.M W base ok x c):n1 d W ok x c:=fun _ fD=>d.kY (Oj h fD)
end
end ab
end Go.Proofs.YtmpeadgiclfapaaGreatDoorW.PrintWords
end
section
namespace Go.Proofs.YtmpeadgiclfapaaGreatDoorW.PrintWords
open Go.RowKit
namespace ab
def chunks(sz:Nat)(n:Nat)(inner:List Value):List (List Value):=(List.range n).map fun j=>(inner.drop (j*sz)).take sz
theorem BQ(sz n:Nat)(inner:List Value):(chunks sz n inner).length=n:=by simp[chunks]
theorem Zr{sz n:Nat}{inner:List Value}{j:Nat}(bq:j<n):(chunks sz n inner)[j]?=some ((inner.drop (j*sz)).take sz):=by simp[chunks,bq]
theorem OS{sz n:Nat}{inner:List Value}{j:Nat}{c:List Value}(h:(chunks sz n inner)[j]?=some c):c=(inner.drop (j*sz)).take sz:=by
 have bq:j<n:=by have:=(List.getElem?_eq_some_iff.1 h).1;rwa[BQ]at this
 rw[Zr bq]at h;injection h with h;exact h.symm
theorem Zs{α:Type}{BI:α→List Value→Prop}{sz:Nat}{xs:List α}{inner:List Value}(h:cF BI sz xs inner)(ew:∀x c,BI x c→c.length=sz∧∀u∈c,u.oneCell'=true):cF (fun x cs=>cs=x∧cs.length=sz∧∀u∈cs,u.oneCell'=true) sz (chunks sz xs.length inner) inner:=by
 refine⟨by rw[BQ];exact h.1,fun j p bq=>?_⟩;have oS:j<xs.length:=by have:=(List.getElem?_eq_some_iff.1 bq).1;rwa[BQ]at this
 have hp:=OS bq;exact⟨hp.symm,ew _ _ (h.2 j _ (List.getElem?_eq_getElem oS))⟩
section
variable {α:Type} {d:ab α} {e base n mR g:Nat} {ok ok' okp S:Nat→Prop} {w w1 W ay:World} {A:Option Addr} {u v v1:Value} {xs:List α} {x:α} {c:List Value}
def N{α:Type}(d:ab α)(e:Nat)(w:World)(base:Nat)(ok:Nat→Prop)(v:Value)(xs:List α):Prop:=
 (∀k,v.ownBlock=some k→ok k)∧∃rows:List (List Value),rows.length=xs.length∧(raw d.sz).R e w base (fun k=>some k=v.ownBlock) v rows∧∀(j:Nat) (x:α) (c:List Value),xs[j]?=some x→rows[j]?=some c→n1 d w (fun k=>ok k∧some k≠v.ownBlock) x c
theorem Zt{sz:Nat}{rows:List (List Value)}(h:(raw sz).R e w base ok v rows):(raw sz).R e w base (fun k=>some k=v.ownBlock) v rows:=IQ rfl h
theorem Zu{sz:Nat}{rows:List (List Value)}(h:(raw sz).R e w base ok v rows):(raw sz).R e w base (fun _=>True) v rows:=mn h (fun _ _=>trivial)
theorem Zv(h:d.R e w base ok v xs):N d e w base ok v xs:=by
 obtain⟨h0,inner,aY,au⟩:=h;refine⟨h0,chunks d.sz xs.length inner,BQ _ _ _,⟨fun k ad=>ad.symm,inner,by rw[BQ];exact aY,Zs au (fun x c hp=>⟨d.mM (d.kY hp),d.mN (d.kY hp)⟩)⟩,fun j x c ae ai=>?_⟩;rw[OS ai];exact Zq (au.2 j x ae)
theorem OT(d:ab α)(e:Nat)(w:World)(base:Nat)(ok:Nat→Prop):N d e w base ok (.slice none 0 0) []:=Zv (sw _ _ _ _ _)
theorem Zw(h:N d e w base ok v xs)(bC:∀k,ok k→ok' k):N d e w base ok' v xs:=by
 obtain⟨h0,rows,an,ew,aA⟩:=h;exact⟨fun k ad=>bC k (h0 k ad),rows,an,ew,fun j x c ae ai=>IV (aA j x c ae ai) (fun k ad=>⟨bC k ad.1,ad.2⟩)⟩
theorem Zx(h:N d e w base ok v xs)(hm:∀k,ok k→k<w.heap.size→w1.heap[k]?=w.heap[k]?):N d e w1 base ok v xs:=by
 obtain⟨h0,rows,an,ew,aA⟩:=h;exact⟨h0,rows,an,BE ew (fun k ad fo=>hm k (h0 k ad.symm) fo),fun j x c ae ai=>OR (aA j x c ae ai) (fun k ad fo=>hm k ad.1 fo)⟩
theorem IW(h:N d e w base ok v xs)(U:Below w.heap.size w w1):N d e w1 base ok v xs:=Zx h (fun k _ ad=>U.block k ad)
theorem OU(h:N d e w base ok v xs)(o:Obj):N d e (w.alloc o) base ok v xs:=IW h (da (Below.refl _ _) o)
theorem OV(h:N d e w base ok v xs):N d e w.drew base ok v xs:=IW h (kH (Below.refl _ _))
theorem OW(h:N d e w base ok v xs)(m:Nat):N d e (w.drewN m) base ok v xs:=IW h (jI (Below.refl _ _) m)
theorem Zy(h:N d e w base ok v xs)(hp:0<xs.length):∃g cap,v=.slice (some ⟨g,0,none⟩) xs.length cap∧base≤g∧g<w.heap.size∧∃cells,w.heap[g]?=some (.cells cells e (0,0)):=by
 obtain⟨_,rows,an,ew,_⟩:=h;rw[←an]at hp⊢;exact Om ew hp
theorem Zz{n cap:Nat}(h:N d e W base ok (.slice (some ⟨g,0,none⟩) n cap) xs)(z:α)(i:Int)(h0:0≤i)(h1:i<n):
 ∃c,c.length=d.sz∧n1 d W (fun k=>ok k∧k≠g) (xs.getD i.toNat z) c∧(∀j u,c[j]?=some u→W.cell? ⟨g,i.toNat*d.sz+j,none⟩=some u)∧∀j,W.frozen? ⟨g,i.toNat*d.sz+j,none⟩=false:=by
 obtain⟨_,rows,an,ew,aA⟩:=h;have aq:=(pt ew).1;obtain⟨c,dM,uJ,rJ,ZA⟩:=Ou ew [] i h0 h1;have jz:i.toNat<rows.length:=by omega
 have OX:i.toNat<xs.length:=by omega
 have ai:c=rows[i.toNat]:=by
  have h2:=uJ.1
  rwa[List.getD_eq_getElem?_getD,List.getElem?_eq_getElem jz]at h2
 refine⟨c,dM,?_,rJ,ZA⟩;rw[List.getD_eq_getElem?_getD,List.getElem?_eq_getElem OX];exact IV (aA _ _ _ (List.getElem?_eq_getElem OX) (by rw[ai];exact List.getElem?_eq_getElem jz)) (fun k ad=>⟨ad.1,fun he=>ad.2 (by rw[he];simp[Value.ownBlock])⟩)
end
end ab
end Go.Proofs.YtmpeadgiclfapaaGreatDoorW.PrintWords
end
section
namespace Go.Proofs.YtmpeadgiclfapaaGreatDoorW.PrintWords
open Go.RowKit
namespace ab
theorem ZB(W:World)(g:Nat):∃aQ:World,aQ.heap.size=W.heap.size∧(∀k,k≠g→aQ.heap[k]?=W.heap[k]?)∧∀a:Addr,a.block=g→aQ.cell? a=none:=by
 refine⟨{W with heap:=W.heap.setIfInBounds g (.cells #[] 0)},by simp,fun k ad=>by simp[Ne.symm ad],fun a eh=>?_⟩;subst eh;by_cases fo:a.block<W.heap.size
 ·simp[World.cell?,fo]
 ·simp[World.cell?,fo]
section
variable {α:Type} {d:ab α} {W:World} {g n:Nat} {S ok:Nat→Prop} {A:Option Addr} {cc:Addr} {xs:List α}
theorem ZC(h:d.C W (some cc) n xs)(aq:0<n)(ak:0<d.sz):W.cell? cc≠none:=by
 obtain⟨Oh,he,ai⟩:=h.2.2 aq;injection he with he;subst he;obtain⟨c,dM,_,mm⟩:=ai 0 _ (List.getElem?_eq_getElem (by rw[h.1];exact aq));have h1:=mm 0 _ (List.getElem?_eq_getElem (by omega));rw[Nat.zero_mul,Nat.zero_add,Addr.add_zero']at h1;rw[h1];exact Option.some_ne_none _
theorem OY(h:∀aQ,cI W aQ g none→d.C aQ (some cc) n xs)(aq:0<n)(ak:0<d.sz):cc.block≠g:=by
 intro he;obtain⟨aQ,h1,h2,h3⟩:=ZB W g;exact ZC (h aQ ⟨Nat.le_of_eq h1.symm,fun i _ hi _=>h2 i hi⟩) aq ak (h3 cc he)
end
end ab
end Go.Proofs.YtmpeadgiclfapaaGreatDoorW.PrintWords
end
section
namespace Go.Proofs.YtmpeadgiclfapaaGreatDoorW.PrintWords
open Go.RowKit
namespace ab
section
variable {α:Type} {d:ab α} {e base n m:Nat} {ok:Nat→Prop} {w w':World} {v:Value} {A:Option Addr} {xs:List α}
theorem OZ{g:Nat}(hd:∀{W aQ:World} {x:α} {cs:List Value},d.K W x cs→d.K aQ x cs)(h:d.C w A n xs)(aA:∀cc,A=some cc→0<n→cc.block≠g):∀aQ,cI w aQ g none→d.C aQ A n xs:=by
 intro aQ ad;refine⟨h.1,h.2.1,fun aq=>?_⟩;obtain⟨cc,he,ai⟩:=h.2.2 aq;refine⟨cc,he,fun j p bq=>?_⟩;obtain⟨cs,h1,h2,h3⟩:=ai j p bq;exact⟨cs,h1,hd h2,fun i u hu=>qI ad (h3 i u hu) (by rw[uL];exact aA cc he aq)⟩
end
end ab
end Go.Proofs.YtmpeadgiclfapaaGreatDoorW.PrintWords
end
section
namespace Go.Proofs.YtmpeadgiclfapaaGreatDoorW.PrintWords
theorem cF.one{α:Type}{R:α→List Value→Prop}{cS:List α}{cs:List Value}{p:α}{v:Value}(hp:R p [v])(h:cF R 1 cS cs):cF R 1 (p::cS) (v::cs):=by
 refine⟨by simp[h.1],fun j q ar=>?_⟩;cases j with
 |zero=>
  simp only[List.getElem?_cons_zero,Option.some.injEq]at ar;subst ar
  simpa using hp
 |succ j=>
  simp only[List.getElem?_cons_succ]at ar;have h1:=h.2 j q ar
  simpa [Nat.mul_one]using h1
theorem cF.front{α:Type}{R:α→List Value→Prop}{size:Nat}{cS:List α}{cs c all:List Value}{p:α}(hp:R p c)(ai:c.length=size)(h:cF R size cS cs)(eh:c++cs=all):cF R size (p::cS) all:=by
 subst eh;refine⟨by rw[List.length_append,ai,h.1,List.length_cons,Nat.succ_mul,Nat.add_comm],fun j q ar=>?_⟩;cases j with
 |zero=>
  simp only[List.getElem?_cons_zero,Option.some.injEq]at ar;subst ar;rw[Nat.zero_mul,List.drop_zero,List.take_append_of_le_length (by omega),List.take_of_length_le (by omega)];exact hp
 |succ j=>
  simp only[List.getElem?_cons_succ]at ar;have h1:=h.2 j q ar;rw[Nat.succ_mul,List.drop_append,List.drop_of_length_le (by rw[ai];exact Nat.le_add_left _ _),List.nil_append,ai,Nat.add_sub_cancel];exact h1
theorem cF.c2{α:Type}{R:α→List Value→Prop}{cS:List α}{cs:List Value}{p:α}{kp kq:Value}(hp:R p [kp,kq])(h:cF R 2 cS cs):cF R 2 (p::cS) (kp::kq::cs):=cF.front hp rfl h rfl
theorem cF.c3{α:Type}{R:α→List Value→Prop}{cS:List α}{cs:List Value}{p:α}{kp kq ld:Value}(hp:R p [kp,kq,ld])(h:cF R 3 cS cs):cF R 3 (p::cS) (kp::kq::ld::cs):=cF.front hp rfl h rfl
theorem cF.c4{α:Type}{R:α→List Value→Prop}{cS:List α}{cs:List Value}{p:α}{kp kq ld mq:Value}(hp:R p [kp,kq,ld,mq])(h:cF R 4 cS cs):cF R 4 (p::cS) (kp::kq::ld::mq::cs):=cF.front hp rfl h rfl
theorem cF.c5{α:Type}{R:α→List Value→Prop}{cS:List α}{cs:List Value}{p:α}{kp kq ld mq mS:Value}(hp:R p [kp,kq,ld,mq,mS])(h:cF R 5 cS cs):cF R 5 (p::cS) (kp::kq::ld::mq::mS::cs):=cF.front hp rfl h rfl
theorem cF.kr{α:Type}{R:α→List Value→Prop}{cS:List α}{cs:List Value}{p:α}{kp kq ld mq mS pY:Value}(hp:R p [kp,kq,ld,mq,mS,pY])(h:cF R 6 cS cs):cF R 6 (p::cS) (kp::kq::ld::mq::mS::pY::cs):=cF.front hp rfl h rfl
theorem cF.c7{α:Type}{R:α→List Value→Prop}{cS:List α}{cs:List Value}{p:α}{kp kq ld mq mS pY sA:Value}(hp:R p [kp,kq,ld,mq,mS,pY,sA])(h:cF R 7 cS cs):cF R 7 (p::cS) (kp::kq::ld::mq::mS::pY::sA::cs):=cF.front hp rfl h rfl
theorem cF.j9{α:Type}{R:α→List Value→Prop}{cS:List α}{cs:List Value}{p:α}{kp kq ld mq mS pY sA vS:Value}(hp:R p [kp,kq,ld,mq,mS,pY,sA,vS])(h:cF R 8 cS cs):cF R 8 (p::cS) (kp::kq::ld::mq::mS::pY::sA::vS::cs):=cF.front hp rfl h rfl
theorem cF.c9{α:Type}{R:α→List Value→Prop}{cS:List α}{cs:List Value}{p:α}{kp kq ld mq mS pY sA vS gm:Value}(hp:R p [kp,kq,ld,mq,mS,pY,sA,vS,gm])(h:cF R 9 cS cs):cF R 9 (p::cS) (kp::kq::ld::mq::mS::pY::sA::vS::gm::cs):=cF.front hp rfl h rfl
theorem cF.mT{α:Type}{R:α→List Value→Prop}{cS:List α}{cs:List Value}{p:α}{kp kq ld mq mS pY sA vS gm O0:Value}(hp:R p [kp,kq,ld,mq,mS,pY,sA,vS,gm,O0])(h:cF R 10 cS cs):cF R 10 (p::cS) (kp::kq::ld::mq::mS::pY::sA::vS::gm::O0::cs):=cF.front hp rfl h rfl
end Go.Proofs.YtmpeadgiclfapaaGreatDoorW.PrintWords
end
section
namespace Go.Proofs.YtmpeadgiclfapaaGreatDoorW.PrintLast
def up(b:Nat→Bool)(i:Nat):Nat→Bool:=fun j=>if j=i then true else b j
end Go.Proofs.YtmpeadgiclfapaaGreatDoorW.PrintLast
end
section
namespace Go.Proofs.YtmpeadgiclfapaaGreatDoorW.PrintWords
open Go.RowKit
section
variable {P:Program} {ops:Array Oper} {rest:List Oper} {o:Oper} {a:Act} {Q:Exit→Act→World→Prop} {W:World}
theorem EI(hw:Region.wanted o (yielded ops a.tmps)=true)(h:wpList P ops Q ({o with guard:=none}::rest) a W):wpList P ops Q (o::rest) a W:=by
 have h1:Region.wanted {o with guard:=none} (yielded ops a.tmps)=true:=rfl;unfold wpList at h⊢;rw[if_pos h1]at h;rw[if_pos hw];exact h
end
end Go.Proofs.YtmpeadgiclfapaaGreatDoorW.PrintWords
end
section
namespace Go.Proofs.YtmpeadgiclfapaaGreatDoorW.PrintWords
open Go.RowKit
namespace ab
section
variable {α:Type} {d:ab α} {e base n cap g:Nat} {ok ok' okp:Nat→Prop} {w w1 W:World} {v v1:Value} {xs ys:List α}
theorem ZD{rows news:List (List Value)}(h0:∀k,v.ownBlock=some k→ok k)(an:rows.length=xs.length)(aA:∀(j:Nat) (x:α) (c:List Value),xs[j]?=some x→rows[j]?=some c→n1 d W (fun k=>ok k∧some k≠v.ownBlock) x c)
 (O1:news.length=ys.length) (BR:∀(j:Nat) (x:α) (c:List Value),ys[j]?=some x→news[j]?=some c→n1 d W okp x c) (sx:∀k,okp k→ok k∧some k≠v.ownBlock) (qH:∀k,W.heap.size≤k→ok k)
 (ew:(raw d.sz).R e w1 base (fun _=>True) v1 (rows++news)) (aw:W.grownBy w1 v.ownBlock) (ea:v1.ownBlock=v.ownBlock∨∃b,v1.ownBlock=some b∧W.heap.size≤b):N d e w1 base ok v1 (xs++ys):=by
 have bL:∀k,some k≠v.ownBlock→k<W.heap.size→some k≠v1.ownBlock:=by
  intro k ad fo;rcases ea with ea|⟨b,U,hle⟩
  ·rw[ea];exact ad
  ·rw[U];intro he;injection he with he;omega
 have step:∀{x:α} {c:List Value} {o:Nat→Prop},n1 d W o x c→(∀k,o k→ok k∧some k≠v.ownBlock)→n1 d w1 (fun k=>ok k∧some k≠v1.ownBlock) x c:=by
  intro x c o ar aY;exact IV (OR (Zp ar) (fun k ad fo=>aw.block k fo (aY k ad.1).2)) (fun k ad=>⟨(aY k ad.1).1,bL k (aY k ad.1).2 ad.2⟩)
 refine⟨fun k ad=>?_,rows++news,by rw[List.length_append,List.length_append,an,O1],Zt ew,fun j x c ae ai=>?_⟩
 ·rcases ea with ea|⟨b,U,hle⟩
  ·exact h0 k (ea▸ad)
  ·rw[U]at ad;injection ad with ad;exact qH k (by omega)
 ·rcases Nat.lt_or_ge j xs.length with fo|hR
  ·rw[List.getElem?_append_left fo]at ae;rw[List.getElem?_append_left (by omega)]at ai;exact step (aA j x c ae ai) (fun _ ad=>ad)
  ·rw[List.getElem?_append_right hR]at ae;rw[List.getElem?_append_right (by omega),an]at ai;exact step (BR _ x c ae ai) sx
theorem ZE{x:α}{c:List Value}(h:n1 d W ok x c):c=c∧c.length=d.sz∧∀u∈c,u.oneCell'=true:=⟨rfl,d.mM (IU h),d.mN (IU h)⟩
end
section
variable {P:Program} {ops:Array Oper} {rest:List Oper} {o:Oper} {a:Act} {Q:Exit→Act→World→Prop} {Ew:Act→World→Prop} {α:Type}
theorem O2(d:ab α){w0 W:World}(base:Nat)(pq:o.guard=none)(s x:Operand)(t e:TypeId)(z:Value)(bytes:Nat)
 (aY:o.op=.call {callee:=.builtin .append,args:=#[s,x],argTypes:=#[t,t]})
 (aU:P.underlying t=some (.slice e)) (qE:(P.info? e).map (fun i=>(i.zero,i.size,i.bytes))=some (some z,d.sz,bytes)) (aG:z.cells.size=d.sz) (bs:0<d.sz) (az:0<bytes)
 (v:Value) (xs:List α) (p:α) (cs:List Value) (ok okp:Nat→Prop) (ak:a.eval s=v) (ae:a.eval x=.slice (some ⟨W.heap.size,0,none⟩) 1 1) (hp:n1 d W okp p cs) (sx:∀k,okp k→ok k∧some k≠v.ownBlock) (qH:∀k,W.heap.size≤k→ok k)
 (hW:N d e W base ok v xs) (a7:Below base w0 W) (nY:base≤W.heap.size) (an:(xs.length+1)*bytes≤140737488355328)
 (h:∀v1 w1,N d e w1 base ok v1 (xs++[p])→Below base w0 w1→W.grownBy w1 v.ownBlock→(v1.ownBlock=v.ownBlock∨∃b,v1.ownBlock=some b∧W.heap.size≤b)→wpList P ops Q rest (a.put o.dst v1) w1):
 wpList P ops Q (o::rest) a (W.alloc (.cells cs.toArray e)):=by
 obtain⟨h0,rows,mr,ew,aA⟩:=hW;refine sy (raw d.sz) base pq s x t e z bytes aY aU qE aG bs az v rows cs cs (fun _=>True) (fun _=>False) ak ae (ZE hp) (fun _ ad=>ad.elim) (fun _ _=>trivial) (Zu ew) a7 nY (by rw[mr];exact an) ?_;intro v1 w1 au U aw ea
 exact h v1 w1 (ZD h0 mr aA (ys:=[p]) (news:=[cs]) rfl (fun j y c aX ai=>by
  rcases j with _|j
  ·simp only[List.getElem?_cons_zero,Option.some.injEq]at aX ai;rw[←aX,←ai];exact hp
  ·simp at aX) sx qH au aw ea) U aw ea
end
end ab
end Go.Proofs.YtmpeadgiclfapaaGreatDoorW.PrintWords
end
section
namespace Go.Proofs.YtmpeadgiclfapaaGreatDoorW.PrintMore
open Go.RowKit Go.Proofs.YtmpeadgiclfapaaGreatDoorW.PrintWords
theorem sB(k k':IntKind)(x y:Int):Builtin.max2 (.int k x) (.int k' y)=pure (.int k (if x<y then y else x)):=by simp only[Builtin.max2,gt_iff_lt]
theorem sC(k k':IntKind)(x y:Int):Builtin.min2 (.int k x) (.int k' y)=pure (.int k (if y<x then y else x)):=by simp only[Builtin.min2]
theorem sD(sE:Array TypeId)(ty:TypeId)(a b:Value):Builtin.max_ sE ty #[a,b]=(Builtin.max2 a b>>=fun s=>pure s):=by simp only[Builtin.max_,List.foldlM_cons,List.foldlM_nil]
theorem sF(sE:Array TypeId)(ty:TypeId)(a b:Value):Builtin.min_ sE ty #[a,b]=(Builtin.min2 a b>>=fun s=>pure s):=by simp only[Builtin.min_,List.foldlM_cons,List.foldlM_nil]
theorem sG(sE:Array TypeId)(ty:TypeId)(a b c:Value):Builtin.max_ sE ty #[a,b,c]=(Builtin.max2 a b>>=fun s=>Builtin.max2 s c>>=fun s=>pure s):=by simp only[Builtin.max_,List.foldlM_cons,List.foldlM_nil]
theorem sH(sE:Array TypeId)(ty:TypeId)(a b c:Value):Builtin.min_ sE ty #[a,b,c]=(Builtin.min2 a b>>=fun s=>Builtin.min2 s c>>=fun s=>pure s):=by simp only[Builtin.min_,List.foldlM_cons,List.foldlM_nil]
theorem sI(sE:Array TypeId)(ty:TypeId)(a b c d:Value):Builtin.max_ sE ty #[a,b,c,d]=(Builtin.max2 a b>>=fun s=>Builtin.max2 s c>>=fun s=>Builtin.max2 s d>>=fun s=>pure s):=by simp only[Builtin.max_,List.foldlM_cons,List.foldlM_nil]
theorem sJ(sE:Array TypeId)(ty:TypeId)(a b c d:Value):Builtin.min_ sE ty #[a,b,c,d]=(Builtin.min2 a b>>=fun s=>Builtin.min2 s c>>=fun s=>Builtin.min2 s d>>=fun s=>pure s):=by simp only[Builtin.min_,List.foldlM_cons,List.foldlM_nil]
end Go.Proofs.YtmpeadgiclfapaaGreatDoorW.PrintMore
namespace Go.Proofs.YtmpeadgiclfapaaGreatDoorW.PrintWords
open Go.RowKit
section
variable {P:Program} {ops:Array Oper} {rest:List Oper} {o:Oper} {a:Act} {Q:Exit→Act→World→Prop} {W:World}
theorem kK{f:FuncId}{xC:Array Operand}{xD:Array TypeId}(ZF:o.op=.call {callee:=.value (.func f),args:=xC,argTypes:=xD})(h:wpList P ops Q (o::rest) a W):wpList P ops Q (o::rest) a W:=h
theorem BS{b:Builtin}{xs:Array Operand}{xD:Array TypeId}(ZF:o.op=.call {callee:=.builtin b,args:=xs,argTypes:=xD})(h:wpList P ops Q (o::rest) a W):wpList P ops Q (o::rest) a W:=h
end
namespace ab
section
variable {α:Type} {d:ab α} {e base:Nat} {ok:Nat→Prop} {W w1:World} {v:Value} {xs:List α}
theorem O3(h:d.R e W base ok v xs)(cG:d.E=[]){g:Nat}(bL:some g≠v.ownBlock):d.R e W base (fun k=>ok k∧k≠g) v xs:=
 mn (IQ cG h) (fun k ad=>⟨h.1 k ad.symm,fun bk=>bL (by rw[←bk];exact ad)⟩)
theorem ZG(h:d.R e W base ok v xs)(cG:d.E=[]){row:Option Nat}(aw:W.grownBy w1 row)(bL:∀k,row=some k→some k≠v.ownBlock):d.R e w1 base ok v xs:=
 mn (Ym (IQ cG h) aw (fun k ad bk=>bL k bk.symm ad)) (fun k ad=>h.1 k ad.symm)
end
end ab
end Go.Proofs.YtmpeadgiclfapaaGreatDoorW.PrintWords
namespace Go.Proofs.YtmpeadgiclfapaaGreatDoorW.PrintWords
open Go.RowKit
namespace ab
def V{α:Type}(d:ab α)(ajS:Nat)(W:World)(ajT:Nat)(ok:Nat→Prop)(v:Value)(xs:List α):Prop:=∃A c,v=.slice A xs.length c∧xs.length≤c∧F d W ok A xs.length xs
section
variable {α β:Type} {d:ab α} {e base qG n m c g ajU lo hi:Nat} {ok ok' S:Nat→Prop} {w W w1:World} {A:Option Addr} {cc:Addr} {u v v1:Value} {xs:List α}
theorem BU(h:V d e W base ok v xs)(hF:∀A,F d W ok A xs.length xs→F d w1 ok' A xs.length xs):V d e w1 qG ok' v xs:=by
 obtain⟨A,c,aZ,an,aA⟩:=h;exact⟨A,c,aZ,an,hF A aA⟩
theorem IX(an:xs.length≤c)(aA:F d W ok A xs.length xs):V d e W base ok (.slice A xs.length c) xs:=⟨A,c,rfl,an,aA⟩
theorem zv(h:V d e W base ok (.slice A n c) xs):n=xs.length∧n≤c∧F d W ok A xs.length xs:=by
 obtain⟨ib,cw,aZ,an,aA⟩:=h;injection aZ with eh aq ai;subst eh;subst ai;exact⟨aq,by rw[aq];exact an,aA⟩
theorem zw(h:V d e W base ok (.slice A n c) xs):n=xs.length∧n≤c∧d.C W A xs.length xs:=⟨(zv h).1,(zv h).2.1,Zh (zv h).2.2⟩
theorem O4(h:V d e W base ok (.slice A n c) xs):F d W ok A n xs:=by
 obtain⟨aq,_,aA⟩:=zv h;rw[aq];exact aA
theorem O5(d:ab α)(e:Nat)(W:World)(base:Nat)(ok:Nat→Prop):V d e W base ok (.slice none 0 0) []:=⟨none,0,rfl,Nat.le_refl _,Zn d W ok⟩
theorem zx(h:V d e W base ok v xs)(bC:∀k,ok k→ok' k):V d e W base ok' v xs:=BU h (fun _ aA=>OP aA bC)
theorem EJ(h:V d e W base ok v xs)(o:Obj):V d e (W.alloc o) base ok v xs:=BU h (fun _ aA=>Zk aA o)
theorem EK(h:V d e W base ok v xs):V d e W.drew base ok v xs:=BU h (fun _ aA=>Zl aA)
theorem EL(h:V d e W base ok v xs)(m:Nat):V d e (W.drewN m) base ok v xs:=BU h (fun _ aA=>Zm aA m)
theorem ZH(h:V d e W base (fun k=>ok k∧some k≠u.ownBlock) v xs)(aw:W.grownBy w1 u.ownBlock)(ea:v1.ownBlock=u.ownBlock∨∃b,v1.ownBlock=some b∧W.heap.size≤b):V d e w1 base (fun k=>ok k∧some k≠v1.ownBlock) v xs:=BU h (fun _ aA=>Zo aA aw ea)
theorem zy(h:V d e W base (fun k=>ok k∧some k≠v.ownBlock) u xs)(aw:W.grownBy w1 v.ownBlock)(ea:v1.ownBlock=v.ownBlock∨∃b,v1.ownBlock=some b∧W.heap.size≤b):V d e w1 base (fun k=>ok k∧some k≠v1.ownBlock) u xs:=ZH h aw ea
theorem ZI(h:F d W ok A xs.length xs)(hm:m≤xs.length)(ai:xs.length≤c):F d W ok (if c=m then A else A.map (·.add (m*d.sz))) (xs.drop m).length (xs.drop m):=OQ h (fun _ hC=>ID hC hm ai)
theorem ZJ(h:F d W ok A xs.length xs)(h1:lo≤hi)(h2:hi≤xs.length)(ai:xs.length≤c):F d W ok (if c=lo then A else A.map (·.add (lo*d.sz))) ((xs.take hi).drop lo).length ((xs.take hi).drop lo):=OQ h (fun _ hC=>Ez hC h1 h2 ai)
theorem O6{l:List α}(an:l.length≤c)(aA:F d W ok A l.length l):n1 (ab.slice e d) W ok l [.slice A l.length c]:=fun aQ fD=>⟨A,c,rfl,an,aA aQ fD⟩
end
end ab
end Go.Proofs.YtmpeadgiclfapaaGreatDoorW.PrintWords
end
section
namespace Go.Proofs.YtmpeadgiclfapaaGreatDoor.ei
open Go.RowKit Go.Proofs.YtmpeadgiclfapaaGreatDoorW.PrintWords Go.Proofs.YtmpeadgiclfapaaGreatDoorW.PrintLast Go.Proofs.YtmpeadgiclfapaaGreatDoorW.PrintMore
attribute [local go_sem] sB sC sD sF sG sH sI sJ   -- for this text's walks alone
def O7:Option Int→Value
 |none=> .nilIface
 |some c=> .iface 104 (.int .i64 c)
theorem BV:O7 none=.nilIface:=rfl
theorem BW(c:Int):O7 (some c)=.iface 104 (.int .i64 c):=rfl
theorem n2:(Tryz.prog.info? 5).map (fun i=>(i.zero,i.size,i.bytes))=some (some (.int .u8 0),1,1):=by kernel_rfl
theorem O8:(Tryz.prog.info? 22).map (fun i=>(i.zero,i.size,i.bytes))=some (some (.slice none 0 0),1,24):=by kernel_rfl
structure cx where
 f0:Int
 f1:Int
 f2:Int
 f3:Bool
 f4:ByteArray
 f5:ByteArray
def zz:cx:=⟨(0:Int),(0:Int),(0:Int),false,(⟨#[]⟩:ByteArray),(⟨#[]⟩:ByteArray)⟩
def l0:ab cx:=ab.Yp (ab.pair (ab.int .i64) (ab.pair (ab.int .i64) (ab.pair (ab.int .i64) (ab.pair ab.bool (ab.pair ab.string ab.string))))) (fun x:cx=>(x.f0,x.f1,x.f2,x.f3,x.f4,x.f5))
theorem ZK{w:World}{x:cx}{cs:List Value}(h:l0.K w x cs):cs=[.int .i64 x.f0,.int .i64 x.f1,.int .i64 x.f2,.bool x.f3,.string x.f4,.string x.f5]:=by
 obtain⟨_,_,rfl,rfl,⟨_,_,rfl,rfl,⟨_,_,rfl,rfl,⟨_,_,rfl,rfl,⟨_,_,rfl,rfl,rfl⟩⟩⟩⟩⟩:=h;exact rfl
theorem ZL{w:World}{base:Nat}{ok:Nat→Prop}{x:cx}{cs:List Value}(h:l0.M w base ok x cs):cs=[.int .i64 x.f0,.int .i64 x.f1,.int .i64 x.f2,.bool x.f3,.string x.f4,.string x.f5]:=by
 obtain⟨_,_,rfl,rfl,⟨_,_,rfl,rfl,⟨_,_,rfl,rfl,⟨_,_,rfl,rfl,⟨_,_,rfl,rfl,rfl⟩⟩⟩⟩⟩:=h;exact rfl
theorem BX(w:World)(base:Nat)(ok:Nat→Prop)(x:cx):l0.M w base ok x [.int .i64 x.f0,.int .i64 x.f1,.int .i64 x.f2,.bool x.f3,.string x.f4,.string x.f5]:=⟨[.int .i64 x.f0],[.int .i64 x.f1,.int .i64 x.f2,.bool x.f3,.string x.f4,.string x.f5],rfl,rfl,⟨[.int .i64 x.f1],[.int .i64 x.f2,.bool x.f3,.string x.f4,.string x.f5],rfl,rfl,⟨[.int .i64 x.f2],[.bool x.f3,.string x.f4,.string x.f5],rfl,rfl,⟨[.bool x.f3],[.string x.f4,.string x.f5],rfl,rfl,⟨[.string x.f4],[.string x.f5],rfl,rfl,rfl⟩⟩⟩⟩⟩
def rL(xs:List cx)(i:Int):cx:=xs.getD i.toNat zz
theorem O9{w:World}{A:Option Addr}{n:Nat}{xs:List cx}(h:ab.C l0 w A n xs)(i:Int)(h0:0≤i)(h1:i<n):∃cc,A=some cc∧w.cell? (cc.add (i.toNat*6))=some (.int .i64 (rL xs i).f0)∧w.cell? ⟨(cc.add (i.toNat*6)).block,(cc.add (i.toNat*6)).off+1,none⟩=some (.int .i64 (rL xs i).f1)∧w.cell? ⟨(cc.add (i.toNat*6)).block,(cc.add (i.toNat*6)).off+2,none⟩=some (.int .i64 (rL xs i).f2)∧w.cell? ⟨(cc.add (i.toNat*6)).block,(cc.add (i.toNat*6)).off+3,none⟩=some (.bool (rL xs i).f3)∧w.cell? ⟨(cc.add (i.toNat*6)).block,(cc.add (i.toNat*6)).off+4,none⟩=some (.string (rL xs i).f4)∧w.cell? ⟨(cc.add (i.toNat*6)).block,(cc.add (i.toNat*6)).off+5,none⟩=some (.string (rL xs i).f5):=by
 obtain⟨cc,c,e,_,aH,eT⟩:=ab.Yq h zz i h0 h1;have ai:∀j u,c[j]?=some u→w.cell? (cc.add (i.toNat*6+j))=some u:=eT;obtain rfl:=ZK aH;exact⟨cc,e,ai 0 _ rfl,by rw[←By _ _ 1 (by omega)];exact ai 1 _ rfl,by rw[←By _ _ 2 (by omega)];exact ai 2 _ rfl,by rw[←By _ _ 3 (by omega)];exact ai 3 _ rfl,by rw[←By _ _ 4 (by omega)];exact ai 4 _ rfl,by rw[←By _ _ 5 (by omega)];exact ai 5 _ rfl⟩
end Go.Proofs.YtmpeadgiclfapaaGreatDoor.ei
end

