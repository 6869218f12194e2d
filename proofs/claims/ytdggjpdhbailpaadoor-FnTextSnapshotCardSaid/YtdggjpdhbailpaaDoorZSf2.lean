/- The walks of prescale and shortFloat: the shortest digits of a float. Condition: the table pow10Tab reads as laid. -/
import Derived.Test.YtdggjpdhbailpaaDoorZSf1
import Derived.Test.YtdggjpdhbailpaaDoorZShD
import GoSem.PinnedTables
import Derived.Outline
import Derived.Deep.DeepMust
namespace Go.Proofs.YtdggjpdhbailpaaDoor.Sf2
open Go.RowKit Go.Proofs.YtdggjpdhbailpaaDoorW.PrintWords Go.Proofs.YtdggjpdhbailpaaDoorW.PrintLast Go.Proofs.YtdggjpdhbailpaaDoorW.PrintMore Go.Proofs.YtdggjpdhbailpaaDoor.Lf Go.Proofs.YtdggjpdhbailpaaDoor.PFnTextAscii Go.Proofs.YtdggjpdhbailpaaDoor.Sf1

def hiAt (j : Nat) : Int := ((Pinned.pow10Rows.getD j (0, 0)).1 : Int)
def loAt (j : Nat) : Int := ((Pinned.pow10Rows.getD j (0, 0)).2 : Int)
theorem rows_ok : (Pinned.pow10Rows.length == 696 && Pinned.pow10Rows.all fun x => decide (9223372036854775808 ≤ (x.1 : Int)) && decide ((x.1 : Int) < 18446744073709551616) && decide (0 ≤ (x.2 : Int)) && decide ((x.2 : Int) < 18446744073709551616)) = true := by kernel_rfl
theorem row_ok (j : Nat) (h : j < 696) : 9223372036854775808 ≤ hiAt j ∧ hiAt j < 18446744073709551616 ∧ 0 ≤ loAt j ∧ loAt j < 18446744073709551616 := by
  have hk := rows_ok
  simp only [Bool.and_eq_true, beq_iff_eq, List.all_eq_true, decide_eq_true_eq] at hk
  have hj : j < Pinned.pow10Rows.length := by omega
  have hm := hk.2 (Pinned.pow10Rows[j]) (List.getElem_mem hj)
  unfold hiAt loAt
  rw [List.getD_eq_getElem?_getD, List.getElem?_eq_getElem hj]
  exact ⟨hm.1.1.1, hm.1.1.2, hm.1.2, hm.2⟩

/-- The table of the powers of ten, in memory. -/
def Pow (w : World) : Prop := ∀ j, j < 696 → w.cell? ⟨7, j * 2, none⟩ = some (.int .u64 (hiAt j)) ∧ w.cell? ⟨7, j * 2 + 1, none⟩ = some (.int .u64 (loAt j))

theorem Pow.on {w w' : World} (h : Pow w) (hb : Below w.heap.size w w') : Pow w' := fun j hj => by
  obtain ⟨h1, h2⟩ := h j hj
  have hl : 7 < w.heap.size := World.block_lt_of_cell? w _ h1
  exact ⟨(hb.cell (p := ⟨7, j * 2, none⟩) hl).trans h1, (hb.cell (p := ⟨7, j * 2 + 1, none⟩) hl).trans h2⟩

theorem pres (g : Nat) (e p lp a b c : Int) (p0 : -348 ≤ p) (p1 : p ≤ 347) (e0 : -5000 ≤ e) (e1 : e ≤ 5000) (q0 : -5000 ≤ lp) (q1 : lp ≤ 5000) (w0 w : World) (hI : IsS170 w0 w g a b c) (hB : Below w0.heap.size w0 w) (hT0 : Pow w0) :
    Calls Tryd.prog 119 #[.pointer (some ⟨g, 0, none⟩), .int .i64 e, .int .i64 p, .int .i64 lp] w fun en w' => en = .returned (.tuple #[]) ∧ IsS170 w0 w' g (hiAt (p + 348).toNat) (loAt (p + 348).toNat) (-(e + lp + 3)) ∧ Below w0.heap.size w0 w' := by
  have hT := hT0.on hB
  obtain ⟨t0, t1⟩ := hT (p + 348).toNat (by omega)
  have hl : 7 < w0.heap.size := World.block_lt_of_cell? w0 _ (hT0 0 (by decide)).1
  generalize hj : (p + 348).toNat = j at *
  have hp : p = (j : Int) - 348 := by omega
  have hs : IntKind.i64.wrap (p - -348) = (j : Int) := by rw [IntKind.wrap_i64]; omega
  have hs2 : IntKind.i64.wrap (e + lp) = e + lp := by rw [IntKind.wrap_i64]; omega
  have hs3 : IntKind.i64.wrap (e + lp + 3) = e + lp + 3 := by rw [IntKind.wrap_i64]; omega
  have hs4 : IntKind.i64.wrap (-(e + lp + 3)) = -(e + lp + 3) := by rw [IntKind.wrap_i64]; omega
  obtain ⟨HG, hg⟩ := id hI
  have c0 := cellS170_0 HG
  have c1 := cellS170_1 HG
  have c2 := cellS170_2 HG
  have f0 := blk_frozen HG 0
  have f1 := blk_frozen HG 1
  have f2 := blk_frozen HG 2
  have hgt : g ≠ 7 := by omega
  clear HG
  go_enter Tryd.func119, Tryd.ntmps119
  go_wp2
  refine bodyPost_end (v := .tuple #[]) (by simp [results, Tryd.results119, go_sem]) rfl ?_
  exact ⟨rfl, ((hI.set_0 _).set_1 _).set_2 _, ((hB.setCell hg _).setCell hg _).setCell hg _⟩

theorem l10 (x : Int) (h0 : -5000 ≤ x) (h1 : x ≤ 5000) (w : World) : Calls Tryd.prog 96 #[.int .i64 x] w fun e w' => e = .returned (.int .i64 (x * 78913 / 262144)) ∧ w = w' := by
  have hs : IntKind.i64.wrap (x * 78913) = x * 78913 := by rw [IntKind.wrap_i64]; omega
  go_enter Tryd.func96, Tryd.ntmps96
  go_wp2
  go_ret
  simp
theorem l2 (x : Int) (h0 : -5000 ≤ x) (h1 : x ≤ 5000) (w : World) : Calls Tryd.prog 120 #[.int .i64 x] w fun e w' => e = .returned (.int .i64 (x * 108853 / 32768)) ∧ w = w' := by
  have hs : IntKind.i64.wrap (x * 108853) = x * 108853 := by rw [IntKind.wrap_i64]; omega
  go_enter Tryd.func120, Tryd.ntmps120
  go_wp2
  go_ret
  simp
theorem skew (x : Int) (h0 : -5000 ≤ x) (h1 : x ≤ 5000) (w : World) : Calls Tryd.prog 118 #[.int .i64 x] w fun e w' => e = .returned (.int .i64 ((x * 631305 - 261663) / 2097152)) ∧ w = w' := by
  have hs : IntKind.i64.wrap (x * 631305) = x * 631305 := by rw [IntKind.wrap_i64]; omega
  have hs2 : IntKind.i64.wrap (x * 631305 - 261663) = x * 631305 - 261663 := by rw [IntKind.wrap_i64]; omega
  go_enter Tryd.func118, Tryd.ntmps118
  go_wp2
  go_ret
  simp

end Go.Proofs.YtdggjpdhbailpaaDoor.Sf2
