/- appendFloat: bytes of ASCII are appended; at 64 bits the same ones whatever stands ahead. Conditions: as in Ft3. -/
import Derived.Test.YticfdfomlcohpaaDoorZFl
namespace Go.Proofs.YticfdfomlcohpaaDoor.Af1
open Go.RowKit Go.Proofs.YticfdfomlcohpaaDoorW.PrintWords Go.Proofs.YticfdfomlcohpaaDoorW.PrintLast Go.Proofs.YticfdfomlcohpaaDoorW.PrintMore Go.Proofs.YticfdfomlcohpaaDoor.Ft3 Go.Proofs.YticfdfomlcohpaaDoor.As1 Go.Proofs.YticfdfomlcohpaaDoor.PFnTextAscii

theorem c4 (W : World) (b : Nat) : (convert 92 108 (.float .f64 b)).run Tryd.prog W = .ok (.float .f32 (Fl.cvN W .f64 b .f32)) (Fl.cvW W .f64 b .f32) :=
  Fl.run_cv Tryd.prog 92 108 .f64 .f32 b (by rw [Tryd.underlying92]; rfl) Tryd.underlying108 (by decide) W

theorem af64 (n : Nat) (P0 : Nat → Prop) (v : Value) (l r : List Int) (w0 w : World)
    (hc : Calls Tryd.prog 87 #[v, .float .f64 n, .int .u8 103, .int .i64 (-1)] w fun e w' => ∃ v', e = .returned v' ∧ Kd.R (Kd.int .u8) 5 w' w0.heap.size (fun k => P0 k ∨ w.heap.size ≤ k) v' (l ++ r) ∧ Below w0.heap.size w0 w' ∧ Kept w w' P0) :
    Calls Tryd.prog 93 #[v, .float .f64 n, .int .u8 103, .int .i64 (-1), .int .i64 64] w fun e w' => ∃ v', e = .returned v' ∧ Kd.R (Kd.int .u8) 5 w' w0.heap.size (fun k => P0 k ∨ w.heap.size ≤ k) v' (l ++ r) ∧ Below w0.heap.size w0 w' ∧ Kept w w' P0 := by
  have hi : Aside0 (Calls Tryd.prog 114 #[v, .float .f64 n, .int .u8 103, .int .i64 (-1), .int .i64 64] w fun e w' => ∃ v', e = .returned v' ∧ Kd.R (Kd.int .u8) 5 w' w0.heap.size (fun k => P0 k ∨ w.heap.size ≤ k) v' (l ++ r) ∧ Below w0.heap.size w0 w' ∧ Kept w w' P0) := Aside0.mk (by
    have HC := Aside0.mk hc
    clear hc
    go_enter Tryd.func114, Tryd.ntmps114
    go_wp2_with (go_at_call 87; go_must (refine HC.out.mono ?_; rintro en w4 ⟨v', rfl, hR, hB4, hK4⟩))
    go_ret
    exact ⟨v', rfl, hR, hB4, hK4⟩)
  clear hc
  go_enter Tryd.func93, Tryd.ntmps93
  go_wp2_with (go_at_call 114; go_must (refine hi.out.mono ?_; rintro en w4 ⟨v', rfl, hR, hB4, hK4⟩))
  go_ret
  exact ⟨v', rfl, hR, hB4, hK4⟩

end Go.Proofs.YticfdfomlcohpaaDoor.Af1
