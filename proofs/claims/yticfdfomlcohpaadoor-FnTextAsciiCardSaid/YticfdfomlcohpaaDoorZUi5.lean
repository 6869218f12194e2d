/- AppendInt at base 10, numbers from 0 on. Conditions: as in Ui4. -/
import Derived.Test.YticfdfomlcohpaaDoorZUi4
namespace Go.Proofs.YticfdfomlcohpaaDoor.Ui5
open Go.RowKit Go.Proofs.YticfdfomlcohpaaDoorW.PrintWords Go.Proofs.YticfdfomlcohpaaDoorW.PrintLast Go.Proofs.YticfdfomlcohpaaDoorW.PrintMore Go.Proofs.YticfdfomlcohpaaDoor.As1 Go.Proofs.YticfdfomlcohpaaDoor.PFnTextAscii Go.Proofs.YticfdfomlcohpaaDoor.Sd1 Go.Proofs.YticfdfomlcohpaaDoor.Ui1 Go.Proofs.YticfdfomlcohpaaDoor.Ui2 Go.Proofs.YticfdfomlcohpaaDoor.Ui4

theorem ai_pos (u : Nat) (hu : u < 9223372036854775808) (P0 : Nat → Prop) (v : Value) (l : List Int) (w0 w : World) (hl : l.length + 4600 < 140737488355328) (hB : Below w0.heap.size w0 w) (ho : Kd.R (Kd.int .u8) 5 w w0.heap.size P0 v l) (hT2 : Ft1.Tab w) :
    Calls Tryd.prog 94 #[v, .int .i64 u, .int .i64 10] w fun e w' => ∃ v', e = .returned v' ∧ Kd.R (Kd.int .u8) 5 w' w0.heap.size (fun k => P0 k ∨ w.heap.size ≤ k) v' (l ++ bytesOf (decs u)) ∧ Below w0.heap.size w0 w' ∧ Kept w w' P0 := by
  have HC := Aside0.mk (au u (by omega) P0 v l w0 w hl hB ho hT2)
  have n1 : IntKind.u64.wrap (u : Int) = u := by rw [IntKind.wrap_u64]; omega
  have n2 : decide ((u : Int) < 0) = false := decide_eq_false (by omega)
  clear hu hl hB ho hT2
  go_enter Tryd.func94, Tryd.ntmps94
  go_wp2_with (go_at_call 95; go_must (refine HC.out.mono ?_; rintro en w4 ⟨v', rfl, hR, hB4, hK4⟩))
  go_ret
  exact ⟨v', rfl, hR, hB4, hK4⟩

end Go.Proofs.YticfdfomlcohpaaDoor.Ui5
