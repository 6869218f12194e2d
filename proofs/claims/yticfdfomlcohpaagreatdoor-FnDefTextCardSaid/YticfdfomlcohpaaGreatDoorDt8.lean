/- The walks over floats of a default value: fitting, given, Marshal, DefText. -/
import Derived.Test.YticfdfomlcohpaaGreatDoorDt7
namespace Go.Proofs.YticfdfomlcohpaaGreatDoor.Dt8
open Go.RowKit Go.Proofs.YticfdfomlcohpaaGreatDoorW.PrintWords Go.Proofs.YticfdfomlcohpaaGreatDoorW.PrintLast Go.Proofs.YticfdfomlcohpaaGreatDoorW.PrintMore
open Go.Proofs.YticfdfomlcohpaaGreatDoor.Db Go.Proofs.YticfdfomlcohpaaGreatDoor.Dt Go.Proofs.YticfdfomlcohpaaGreatDoor.Dt4 Go.Proofs.YticfdfomlcohpaaGreatDoor.Dt5

theorem tob (b : Nat) (W : World) : (callFunc 15 #[.float .f64 b]).run Tryz.prog W = .ok (.value (.int .u64 b)) W := by kernel_rfl
theorem ofb (n : Int) (W : World) : (callFunc 16 #[.int .u64 n]).run Tryz.prog W = .ok (.value (.float .f64 n.toNat)) W := by kernel_rfl
theorem c4 (W : World) (b : Nat) : (convert 47 48 (.float .f64 b)).run Tryz.prog W = .ok (.float .f32 (Dt7.cvN W .f64 b .f32)) (Dt7.cvW W .f64 b .f32) :=
  Dt7.run_cv Tryz.prog 47 48 .f64 .f32 b (by rw [Tryz.underlying47]; rfl) Tryz.underlying48 (by decide) W
theorem c8 (W : World) (b : Nat) : (convert 48 47 (.float .f32 b)).run Tryz.prog W = .ok (.float .f64 (Dt7.cvN W .f32 b .f64)) (Dt7.cvW W .f32 b .f64) :=
  Dt7.run_cv Tryz.prog 48 47 .f32 .f64 b (by rw [Tryz.underlying48]; rfl) Tryz.underlying47 (by decide) W

theorem cell_cv (W : World) (s : FloatKind) (b : Nat) (k : FloatKind) (a : Addr) : (Dt7.cvW W s b k).cell? a = W.cell? a := World.cell?_of_block (w := W) (by rw [Dt7.cvW_heap])
theorem frozen_cv (W : World) (s : FloatKind) (b : Nat) (k : FloatKind) (a : Addr) : (Dt7.cvW W s b k).frozen? a = W.frozen? a := World.frozen?_of_block (w := W) (by rw [Dt7.cvW_heap])
theorem size_cv (W : World) (s : FloatKind) (b : Nat) (k : FloatKind) : (Dt7.cvW W s b k).heap.size = W.heap.size := by rw [Dt7.cvW_heap]

theorem vof64 (b : Nat) (w : World) : Calls Tryz.prog 51 #[.float .f64 b] w fun e w' => e = .returned (VV 7 (b : Int) es) ∧ Below w.heap.size w w' := by
  have ht := tob
  go_enter Tryz.func51, Tryz.ntmps51
  go_wp2
  exact bodyPost_ret (v := VV 7 (b : Int) es) (by simp [results, Tryz.results51, go_sem]) rfl ⟨rfl, (Below.refl _ _).alloc (Nat.le_refl _) _⟩

theorem vof32 (b : Nat) (w : World) : Calls Tryz.prog 50 #[.float .f32 b] w fun e w' => ∃ W, e = .returned (VV 6 (Dt7.cvN W .f32 b .f64 : Nat) es) ∧ Below w.heap.size w w' := by
  have ht := tob
  have h8 := c8
  have hc := cell_cv
  have hf := frozen_cv
  have hz := size_cv
  go_enter Tryz.func50, Tryz.ntmps50
  go_wp2
  refine bodyPost_ret (v := VV 6 (Dt7.cvN (w.alloc (.cells #[.int .i64 0, .int .u64 0, .string ⟨#[]⟩, .slice none 0 0] 71)) .f32 b .f64 : Nat) es) (by simp [results, Tryz.results50, go_sem, hc]) rfl ⟨_, rfl, ?_⟩
  exact ((((Dt7.cvW_below (below_alloc (Below.refl _ _) _) _ _ _).setCell (by simp) _).setCell (by simp) _).setCell (by simp) _).setCell (by simp) _

theorem given_f64 (n : Int) (h0 : 0 ≤ n) (w : World) :
    Calls Tryz.prog 24 #[V 1 false 0 0 n es es] w fun e w' => e = .returned (VV 7 n es) ∧ Below w.heap.size w w' := by
  obtain ⟨b, rfl⟩ := Int.eq_ofNat_of_zero_le h0
  have hof := ofb
  go_enter Tryz.func24, Tryz.ntmps24
  go_wp2_with (first | (go_at_call 51; go_must (refine (vof64 _ _).mono ?_; rintro e w1 ⟨rfl, hb⟩; obtain ⟨hc1, _⟩ := bcell hb; have hz1 := hb.size; simp at hz1)))
  have hB : Below w.heap.size w w1 := (below_alloc (below_alloc (Below.refl _ _) _) _).trans (hb.mono (by simp; omega))
  refine bodyPost_ret (v := VV 7 (b : Int) es) (by simp [results, Tryz.results24, go_sem, hc1]) rfl ⟨rfl, ?_⟩
  exact ((((hB.setCell (by simp) _).setCell (by simp) _).setCell (by simp) _).setCell (by simp) _)

/-- The float of 32 bits: what comes is an infinity, or no number, just as what went in. -/
def Same (b c : Nat) : Prop := (b = 9218868437227405312 → c = 9218868437227405312) ∧ (b = 18442240474082181120 → c = 18442240474082181120) ∧ (9218868437227405312 < b % 9223372036854775808 → 9218868437227405312 < c % 9223372036854775808)
theorem same_cv (W W2 : World) (b : Nat) : Same b (Dt7.cvN W2 .f32 (Dt7.cvN W .f64 b .f32) .f64) :=
  ⟨fun h => by subst h; exact Dt7.cv_inf W W2, fun h => by subst h; exact Dt7.cv_ninf W W2, fun h => Dt7.cv_nan W W2 b h⟩

set_option maxHeartbeats 4000000 in
theorem given_f32 (n : Int) (h0 : 0 ≤ n) (w : World) :
    Calls Tryz.prog 24 #[V 2 false 0 0 n es es] w fun e w' => ∃ c : Nat, Same n.toNat c ∧ e = .returned (VV 6 c es) ∧ Below w.heap.size w w' := by
  obtain ⟨b, rfl⟩ := Int.eq_ofNat_of_zero_le h0
  have hof := ofb
  have h4 := c4
  have hc := cell_cv
  have hf := frozen_cv
  have hz := size_cv
  go_enter Tryz.func24, Tryz.ntmps24
  go_wp2_with (first | (go_at_call 50; go_must (refine (vof32 _ _).mono ?_; rintro e w1 ⟨W9, rfl, hb⟩; obtain ⟨hc1, _⟩ := bcell hb; have hz1 := hb.size; simp [hz] at hz1)))
  have hB : Below w.heap.size w w1 := (Dt7.cvW_below (below_alloc (below_alloc (Below.refl _ _) _) _) _ _ _).trans (hb.mono (by simp [hz]; omega))
  refine bodyPost_ret (v := VV 6 (Dt7.cvN W9 .f32 (Dt7.cvN _ .f64 b .f32) .f64 : Nat) es) (by simp [results, Tryz.results24, go_sem, hc1, hc, hz]; rfl) rfl ⟨_, by simpa using same_cv _ _ b, rfl, ?_⟩
  exact ((((hB.setCell (by simp) _).setCell (by simp) _).setCell (by simp) _).setCell (by simp) _)

end Go.Proofs.YticfdfomlcohpaaGreatDoor.Dt8
