/- AppendUint at base 10, numbers below 100. Conditions: the row that is appended to is the call's own. -/
import Derived.Test.YticfdfomlcohpaaDoorZAf3
namespace Go.Proofs.YticfdfomlcohpaaDoor.Ui1
open Go.RowKit Go.Proofs.YticfdfomlcohpaaDoorW.PrintWords Go.Proofs.YticfdfomlcohpaaDoorW.PrintLast Go.Proofs.YticfdfomlcohpaaDoorW.PrintMore Go.Proofs.YticfdfomlcohpaaDoor.As1 Go.Proofs.YticfdfomlcohpaaDoor.PFnTextAscii

def decs (u : Nat) : ByteArray := ⟨(Lib.decDigits u).toArray⟩

theorem small_size (u : Nat) (h : u < 18446744073709551616) : (decs u).size ≤ 20 := by
  have h1 := Lib.nDigits_le20 u h
  have h2 : (Lib.decDigits u).length = Lib.nDigits u := Lib.decDigits_length u
  show (Lib.decDigits u).toArray.size ≤ 20
  rw [List.size_toArray, h2]
  exact h1

theorem au_small (u : Nat) (hu : u < 100) (P0 : Nat → Prop) (v : Value) (l : List Int) (w0 w : World) (hl : l.length + 4600 < 140737488355328) (hB : Below w0.heap.size w0 w) (ho : Kd.R (Kd.int .u8) 5 w w0.heap.size P0 v l) :
    Calls Tryd.prog 95 #[v, .int .u64 u, .int .i64 10] w fun e w' => ∃ v', e = .returned v' ∧ Kd.R (Kd.int .u8) 5 w' w0.heap.size (fun k => P0 k ∨ w.heap.size ≤ k) v' (l ++ bytesOf (decs u)) ∧ Below w0.heap.size w0 w' ∧ Kept w w' P0 := by
  have hs : Aside0 ((decs u).size ≤ 20) := Aside0.mk (small_size u (by omega))
  have HSM : Aside0 (∀ w, Calls Tryd.prog 82 #[.int .i64 u] w fun e w' => e = .returned (.string (decs u)) ∧ w' = w) := Aside0.mk (fun w => Tryd.internal_strconv_small u hu w)
  obtain ⟨y, hy⟩ : ∃ y, y = decs u := ⟨_, rfl⟩
  rw [← hy] at hs HSM ⊢
  clear hy
  have HO := Aside0.mk ho
  have HB := Aside0.mk hB
  have HL := Aside0.mk hl
  clear ho hB hl
  have n1 : IntKind.i64.wrap (u : Int) = u := by rw [IntKind.wrap_i64]; omega
  go_enter Tryd.func95, Tryd.ntmps95
  go_wp2_with (first
    | (go_at_call 82; go_must (refine (HSM.out _).mono ?_; rintro e w1 ⟨rfl, rfl⟩))
    | (at_builtin; refine wpList_app_str (w0 := w0) w0.heap.size rfl (.tmp 13) (.tmp 16) 29 9 5 rfl Tryd.underlying29 Tryd.underlying9 info5 P0 v l y rfl rfl ?aO ?aB ?aS ?aL ?_; (case aO => exact HO.out); (case aB => exact HB.out); (case aS => exact HB.out.size); (case aL => have := HL.out; have := hs.out; omega); intro v1 w1 hR hB1 hK1))
  go_ret
  exact ⟨v1, rfl, hR, hB1, hK1⟩

end Go.Proofs.YticfdfomlcohpaaDoor.Ui1
