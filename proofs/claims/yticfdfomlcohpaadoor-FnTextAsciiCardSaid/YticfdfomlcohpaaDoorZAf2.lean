/- appendFloat: bytes of ASCII are appended; at 64 bits the same ones whatever stands ahead. Conditions: as in Ft3. -/
import Derived.Test.YticfdfomlcohpaaDoorZAf1
namespace Go.Proofs.YticfdfomlcohpaaDoor.Af2
open Go.RowKit Go.Proofs.YticfdfomlcohpaaDoorW.PrintWords Go.Proofs.YticfdfomlcohpaaDoorW.PrintLast Go.Proofs.YticfdfomlcohpaaDoorW.PrintMore Go.Proofs.YticfdfomlcohpaaDoor.Ft3 Go.Proofs.YticfdfomlcohpaaDoor.As1 Go.Proofs.YticfdfomlcohpaaDoor.PFnTextAscii

/-- The word of a float that is no number or an infinity, if it is one. -/
def word (a b c : Bool) : Option (List Int) := if c = true then some [110, 97, 110] else if b = true then some [105, 110, 102] else if a = true then some [45, 105, 110, 102] else none

set_option maxHeartbeats 2000000 in
theorem apf (n : Nat) (sz : Int) (P0 : Nat → Prop) (v : Value) (l r : List Int) (w0 w : World) (hl : l.length + 4600 < 140737488355328) (hB : Below w0.heap.size w0 w) (ho : Kd.R (Kd.int .u8) 5 w w0.heap.size P0 v l)
    (hr : word (Fl.gtM (Op.negFloat .f64 n)) (Fl.gtM n) (Fl.nanB n) = some r ∨ (word (Fl.gtM (Op.negFloat .f64 n)) (Fl.gtM n) (Fl.nanB n) = none ∧ Calls Tryd.prog 93 #[v, .float .f64 n, .int .u8 103, .int .i64 (-1), .int .i64 sz] w fun e w' => ∃ v', e = .returned v' ∧ Kd.R (Kd.int .u8) 5 w' w0.heap.size (fun k => P0 k ∨ w.heap.size ≤ k) v' (l ++ r) ∧ Below w0.heap.size w0 w' ∧ Kept w w' P0)) :
    Calls Tryd.prog 79 #[v, .float .f64 n, .int .i64 sz] w fun e w' => ∃ v', e = .returned v' ∧ Kd.R (Kd.int .u8) 5 w' w0.heap.size (fun k => P0 k ∨ w.heap.size ≤ k) v' (l ++ r) ∧ Below w0.heap.size w0 w' ∧ Kept w w' P0 := by
  have hA := Aside0.mk (fun w => Fl.isinf_m n w)
  have hI := Aside0.mk (fun w => Fl.isinf_p n w)
  have hC := Aside0.mk (fun w => Fl.isnan n w)
  generalize Fl.gtM (Op.negFloat .f64 n) = a at hA hr
  generalize Fl.gtM n = b at hI hr
  generalize Fl.nanB n = c at hC hr
  have hD : Aside0 (∀ (s : Int) (w : World), s = 1 ∨ s = -1 → Calls Tryd.prog 37 #[.float .f64 n, .int .i64 s] w fun e w' => e = .returned (.bool (if s = 1 then b else a)) ∧ w = w') :=
    Aside0.mk (fun s w h => by
      rcases h with rfl | rfl
      · exact hI.out w
      · exact hA.out w)
  clear hA hI
  have HO := Aside0.mk ho
  have HB := Aside0.mk hB
  have HL := Aside0.mk hl
  have HR := Aside0.mk hr
  clear ho hB hl hr
  cases c <;> cases b <;> cases a
  all_goals
    go_enter Tryd.func79, Tryd.ntmps79
    go_wp2_with (first
    | (go_at_call 37; go_must (refine (hD.out _ _ (by decide)).mono ?_; rintro e w1 ⟨rfl, rfl⟩))
    | (go_at_call 38; go_must (refine (hC.out _).mono ?_; rintro e w3 ⟨rfl, rfl⟩))
    | (go_at_call 93; go_must (refine ((HR.out.resolve_left (by simp [word])).2).mono ?_; rintro en w4 ⟨v1, rfl, hR, hB1, hK1⟩))
    | (at_builtin; refine wpList_app_str (w0 := w0) w0.heap.size rfl (.tmp 14) _ 29 9 5 rfl Tryd.underlying29 Tryd.underlying9 info5 P0 v l (⟨#[110, 97, 110]⟩ : ByteArray) rfl rfl ?aO ?aB ?aS ?aL ?_; (case aO => exact HO.out); (case aB => exact HB.out); (case aS => exact HB.out.size); (case aL => have := HL.out; simp [ByteArray.size]; omega); intro v1 w1 hR hB1 hK1)
    | (at_builtin; refine wpList_app_str (w0 := w0) w0.heap.size rfl (.tmp 19) _ 29 9 5 rfl Tryd.underlying29 Tryd.underlying9 info5 P0 v l (⟨#[105, 110, 102]⟩ : ByteArray) rfl rfl ?aO ?aB ?aS ?aL ?_; (case aO => exact HO.out); (case aB => exact HB.out); (case aS => exact HB.out.size); (case aL => have := HL.out; simp [ByteArray.size]; omega); intro v1 w1 hR hB1 hK1)
    | (at_builtin; refine wpList_app_str (w0 := w0) w0.heap.size rfl (.tmp 24) _ 29 9 5 rfl Tryd.underlying29 Tryd.underlying9 info5 P0 v l (⟨#[45, 105, 110, 102]⟩ : ByteArray) rfl rfl ?aO ?aB ?aS ?aL ?_; (case aO => exact HO.out); (case aB => exact HB.out); (case aS => exact HB.out.size); (case aL => have := HL.out; simp [ByteArray.size]; omega); intro v1 w1 hR hB1 hK1))
    go_ret
    have h := HR.out
    simp [word] at h
    first | (subst h; exact ⟨v1, rfl, hR, hB1, hK1⟩) | exact ⟨v1, rfl, hR, hB1, hK1⟩

end Go.Proofs.YticfdfomlcohpaaDoor.Af2
