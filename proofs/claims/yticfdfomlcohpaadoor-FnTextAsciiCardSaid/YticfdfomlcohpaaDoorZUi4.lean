/- AppendUint and AppendInt at base 10, the public ones too. Conditions: the row that is appended to is the call's own; the table uint64pow10 reads as laid. -/
import Derived.Test.YticfdfomlcohpaaDoorZUi3
namespace Go.Proofs.YticfdfomlcohpaaDoor.Ui4
open Go.RowKit Go.Proofs.YticfdfomlcohpaaDoorW.PrintWords Go.Proofs.YticfdfomlcohpaaDoorW.PrintLast Go.Proofs.YticfdfomlcohpaaDoorW.PrintMore Go.Proofs.YticfdfomlcohpaaDoor.As1 Go.Proofs.YticfdfomlcohpaaDoor.PFnTextAscii Go.Proofs.YticfdfomlcohpaaDoor.Sd1 Go.Proofs.YticfdfomlcohpaaDoor.Ui1 Go.Proofs.YticfdfomlcohpaaDoor.Ui2 Go.Proofs.YticfdfomlcohpaaDoor.Ui3

theorem au (u : Nat) (hu : u < 18446744073709551616) (P0 : Nat → Prop) (v : Value) (l : List Int) (w0 w : World) (hl : l.length + 4600 < 140737488355328) (hB : Below w0.heap.size w0 w) (ho : Kd.R (Kd.int .u8) 5 w w0.heap.size P0 v l) (hT2 : Ft1.Tab w) :
    Calls Tryd.prog 95 #[v, .int .u64 u, .int .i64 10] w fun e w' => ∃ v', e = .returned v' ∧ Kd.R (Kd.int .u8) 5 w' w0.heap.size (fun k => P0 k ∨ w.heap.size ≤ k) v' (l ++ bytesOf (decs u)) ∧ Below w0.heap.size w0 w' ∧ Kept w w' P0 := by
  by_cases h : u < 100
  · exact au_small u h P0 v l w0 w hl hB ho
  · exact au_big u (by omega) hu P0 v l w0 w hl hB ho hT2

theorem aup (u : Nat) (hu : u < 18446744073709551616) (P0 : Nat → Prop) (v : Value) (l : List Int) (w0 w : World) (hl : l.length + 4600 < 140737488355328) (hB : Below w0.heap.size w0 w) (ho : Kd.R (Kd.int .u8) 5 w w0.heap.size P0 v l) (hT2 : Ft1.Tab w) :
    Calls Tryd.prog 81 #[v, .int .u64 u, .int .i64 10] w fun e w' => ∃ v', e = .returned v' ∧ Kd.R (Kd.int .u8) 5 w' w0.heap.size (fun k => P0 k ∨ w.heap.size ≤ k) v' (l ++ bytesOf (decs u)) ∧ Below w0.heap.size w0 w' ∧ Kept w w' P0 := by
  have HC := Aside0.mk (au u hu P0 v l w0 w hl hB ho hT2)
  clear hu hl hB ho hT2
  go_enter Tryd.func81, Tryd.ntmps81
  go_wp2_with (go_at_call 95; go_must (refine HC.out.mono ?_; rintro en w4 ⟨v', rfl, hR, hB4, hK4⟩))
  go_ret
  exact ⟨v', rfl, hR, hB4, hK4⟩

end Go.Proofs.YticfdfomlcohpaaDoor.Ui4
