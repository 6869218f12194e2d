/- append of a string to a row of bytes of the call's own, and where the new row lies; the elder value's bytes stay. Conditions: the row is the call's own; room below 2^47 bytes. -/
import Derived.Test.YtdggjpdhbailpaaDoorZWords
import Derived.Test.YtdggjpdhbailpaaDoorZG0
import Derived.Lib.AppendStr
import Derived.Deep.AppendLies
set_option linter.unusedSectionVars false
namespace Go.Proofs.YtdggjpdhbailpaaDoor.As1
open Go.RowKit Go.Proofs.YtdggjpdhbailpaaDoorW.PrintWords Go.Proofs.YtdggjpdhbailpaaDoorW.PrintLast Go.Proofs.YtdggjpdhbailpaaDoorW.PrintMore
variable [γ_ : Gho]

section
variable {P : Program} {ops : Array Oper} {rest : List Oper} {o : Oper} {a : Act} {Q : Exit → Act → World → Prop}
/-- At a plain region's list of operations. -/
theorem wpList_app_str {w0 W : World} (base : Nat) (hgd : o.guard = none) (s x : Operand) (t u e : TypeId)
    (ho : o.op = .call { callee := .builtin .append, args := #[s, x], argTypes := #[t, u] }) (ht : P.underlying t = some (.slice e)) (hu : P.underlying u = some .string)
    (hinfo : (P.info? e).map (fun i => (i.zero, i.size, i.bytes)) = some (some (.int .u8 0), 1, 1)) (ok : Nat → Prop) (v : Value) (xs : List Int) (y : ByteArray) (hs : a.eval s = v) (hx : a.eval x = .string y)
    (HO : Kd.G (Kd.int .u8) e W base ok v xs) (HB : Below base w0 W) (hbase : base ≤ W.heap.size) (hl : xs.length + y.size ≤ 140737488355328)
    (h : ∀ v1 w1, Kd.G (Kd.int .u8) e w1 base (fun k => ok k ∨ W.heap.size ≤ k) v1 (xs ++ bytesOf y) → Below base w0 w1 → Kept W w1 ok → wpList P ops Q rest (a.put o.dst v1) w1) :
    wpList P ops Q (o :: rest) a W := by
  obtain ⟨v1, w1, hr, h1, h2, h3⟩ := Kd.run_G_str (P := P) base t u o.type e ht hu hinfo ok v xs y HO HB hbase hl
  refine wpList_plain hgd fun K hK => ?_
  unfold Oper.wp execOp
  simp only [ho, resolve, invoke, builtin, Sem.run_bind, Sem.run_pure, Result.andThen_ok, List.map_toArray, List.map_cons, List.map_nil, hs, hx, hr]
  exact hK _ _ (h v1 w1 h1 h2 h3)
/-- Of a row of bytes. -/
theorem wpList_app_row {w0 W : World} (base : Nat) (hgd : o.guard = none) (s x : Operand) (t e : TypeId)
    (ho : o.op = .call { callee := .builtin .append, args := #[s, x], argTypes := #[t, t] }) (ht : P.underlying t = some (.slice e))
    (hinfo : (P.info? e).map (fun i => (i.zero, i.size, i.bytes)) = some (some (.int .u8 0), 1, 1)) (ok : Nat → Prop) (v : Value) (xs ys : List Int) (ad : Addr) (m c : Nat) (hs : a.eval s = v) (hx : a.eval x = .slice (some ad) m c)
    (hm : ys.length = m) (_h0 : 0 < m) (hys : ∀ j y, ys[j]? = some y → W.cell? (ad.add j) = some (.int .u8 y))
    (HO : Kd.G (Kd.int .u8) e W base ok v xs) (HB : Below base w0 W) (hbase : base ≤ W.heap.size) (hl : xs.length + m ≤ 140737488355328)
    (h : ∀ v1 w1, Kd.G (Kd.int .u8) e w1 base (fun k => ok k ∨ W.heap.size ≤ k) v1 (xs ++ ys) → Below base w0 w1 → Kept W w1 ok → wpList P ops Q rest (a.put o.dst v1) w1) :
    wpList P ops Q (o :: rest) a W := by
  obtain ⟨v1, w1, hr, h1, h2, h3, h4⟩ := Kd.run_G_rows (P := P) (w0 := w0) base t o.type e ht hinfo (fun k => ok k ∨ W.heap.size ≤ k) v xs ys ad m c hm (by
    intro j u hu
    simp only [nums, List.getElem?_map, Option.map_eq_some_iff] at hu
    obtain ⟨y, hy, rfl⟩ := hu
    exact hys j y hy) (fun k hk => .inr hk) (Kd.G_mono HO (fun k hk => .inl hk)) HB hbase hl
  refine wpList_plain hgd fun K hK => ?_
  unfold Oper.wp execOp
  simp only [ho, resolve, invoke, builtin, Sem.run_bind, Sem.run_pure, Result.andThen_ok, List.map_toArray, List.map_cons, List.map_nil, hs, hx, hr]
  exact hK _ _ (h v1 w1 h1 h2 ⟨h3.size, fun k hk hn => h3.block k hk (fun he => hn (HO.1 k he.symm))⟩)
end

section
variable {P : Program} {ops : Array Oper} {o : Oper} {a : Act} {Q : Exit → Act → World → Prop} {K : Act → World → Prop}
/-- As one step of a region that draws its order. -/
theorem step_app_str {w0 W : World} (base : Nat) (hw : Region.wanted o (yielded ops a.tmps) = true) (s x : Operand) (t u e : TypeId)
    (ho : o.op = .call { callee := .builtin .append, args := #[s, x], argTypes := #[t, u] }) (ht : P.underlying t = some (.slice e)) (hu : P.underlying u = some .string)
    (hinfo : (P.info? e).map (fun i => (i.zero, i.size, i.bytes)) = some (some (.int .u8 0), 1, 1)) (ok : Nat → Prop) (v : Value) (xs : List Int) (y : ByteArray) (hs : a.eval s = v) (hx : a.eval x = .string y) (hfresh : ∀ k, W.heap.size ≤ k → ok k)
    (HO : Kd.G (Kd.int .u8) e W base ok v xs) (HB : Below base w0 W) (hbase : base ≤ W.heap.size) (hl : xs.length + y.size ≤ 140737488355328)
    (h : ∀ v1 w1, Kd.G (Kd.int .u8) e w1 base ok v1 (xs ++ bytesOf y) → Below base w0 w1 → Kept W w1 ok → K (a.put o.dst v1) w1) :
    if Region.wanted o (yielded ops a.tmps) = true then Oper.wp P o a W K Q else K (a.put o.dst undef) W := by
  obtain ⟨v1, w1, hr, h1, h2, h3⟩ := Kd.run_G_str (P := P) base t u o.type e ht hu hinfo ok v xs y HO HB hbase hl
  rw [if_pos hw]
  unfold Oper.wp execOp
  simp only [ho, resolve, invoke, builtin, Sem.run_bind, Sem.run_pure, Result.andThen_ok, List.map_toArray, List.map_cons, List.map_nil, hs, hx, hr]
  exact h v1 w1 (Kd.G_mono h1 (fun k hk => hk.elim id (hfresh k))) h2 h3
end

end Go.Proofs.YtdggjpdhbailpaaDoor.As1
