/- The walks of ValueOf.. and given: a default value of each kind but floats, as the package has it. -/
import Derived.Test.YticfdfomlcohpaaGreatDoorDt1
import Derived.Test.YticfdfomlcohpaaGreatDoorDt3
namespace Go.Proofs.YticfdfomlcohpaaGreatDoor.Dt4
open Go.RowKit Go.Proofs.YticfdfomlcohpaaGreatDoorW.PrintWords Go.Proofs.YticfdfomlcohpaaGreatDoorW.PrintLast Go.Proofs.YticfdfomlcohpaaGreatDoorW.PrintMore
open Go.Proofs.YticfdfomlcohpaaGreatDoor.Db Go.Proofs.YticfdfomlcohpaaGreatDoor.Dt

def bn (b : Bool) : Int := if b = true then 1 else 0
abbrev VV (t m : Int) (s : ByteArray) : Value := .agg #[.int .i64 t, .int .u64 m, .string s, .slice none 0 0]

theorem ValueOfBool (b : Bool) (w : World) : Calls Tryz.prog 44 #[.bool b] w fun e w' => e = .returned (VV 1 (bn b) es) ∧ Below w.heap.size w w' := by
  cases b
  all_goals
    go_enter Tryz.func44, Tryz.ntmps44
    go_wp2
    exact bodyPost_ret (v := VV 1 (bn _) es) (by simp [results, Tryz.results44, bn, go_sem]) rfl ⟨rfl, (Below.refl _ _).alloc (Nat.le_refl _) _⟩

theorem ValueOfInt32 (n : Int) (w : World) : Calls Tryz.prog 46 #[.int .i32 n] w fun e w' => e = .returned (VV 2 (IntKind.u64.wrap n) es) ∧ Below w.heap.size w w' := by
  all_goals
    go_enter Tryz.func46, Tryz.ntmps46
    go_wp2
    exact bodyPost_ret (v := VV 2 (IntKind.u64.wrap n) es) (by simp [results, Tryz.results46, go_sem]) rfl ⟨rfl, (Below.refl _ _).alloc (Nat.le_refl _) _⟩

theorem ValueOfInt64 (n : Int) (w : World) : Calls Tryz.prog 47 #[.int .i64 n] w fun e w' => e = .returned (VV 3 (IntKind.u64.wrap n) es) ∧ Below w.heap.size w w' := by
  all_goals
    go_enter Tryz.func47, Tryz.ntmps47
    go_wp2
    exact bodyPost_ret (v := VV 3 (IntKind.u64.wrap n) es) (by simp [results, Tryz.results47, go_sem]) rfl ⟨rfl, (Below.refl _ _).alloc (Nat.le_refl _) _⟩

theorem ValueOfUint32 (n : Int) (w : World) : Calls Tryz.prog 48 #[.int .u32 n] w fun e w' => e = .returned (VV 4 (IntKind.u64.wrap n) es) ∧ Below w.heap.size w w' := by
  all_goals
    go_enter Tryz.func48, Tryz.ntmps48
    go_wp2
    exact bodyPost_ret (v := VV 4 (IntKind.u64.wrap n) es) (by simp [results, Tryz.results48, go_sem]) rfl ⟨rfl, (Below.refl _ _).alloc (Nat.le_refl _) _⟩

theorem ValueOfUint64 (n : Int) (w : World) : Calls Tryz.prog 49 #[.int .u64 n] w fun e w' => e = .returned (VV 5 n es) ∧ Below w.heap.size w w' := by
  all_goals
    go_enter Tryz.func49, Tryz.ntmps49
    go_wp2
    exact bodyPost_ret (v := VV 5 n es) (by simp [results, Tryz.results49, go_sem]) rfl ⟨rfl, (Below.refl _ _).alloc (Nat.le_refl _) _⟩

theorem valueOfString (s : ByteArray) (w : World) : Calls Tryz.prog 70 #[.string s] w fun e w' => e = .returned (VV 8 0 s) ∧ Below w.heap.size w w' := by
  all_goals
    go_enter Tryz.func70, Tryz.ntmps70
    go_wp2
    exact bodyPost_ret (v := VV 8 0 s) (by simp [results, Tryz.results70, go_sem]) rfl ⟨rfl, (Below.refl _ _).alloc (Nat.le_refl _) _⟩

theorem ValueOfString (s : ByteArray) (w : World) : Calls Tryz.prog 52 #[.string s] w fun e w' => e = .returned (VV 8 0 s) ∧ Below w.heap.size w w' := by
  go_enter Tryz.func52, Tryz.ntmps52
  go_wp2_with (go_at_call 70; go_must (refine (valueOfString _ _).mono ?_; rintro e w1 ⟨rfl, hb⟩; obtain ⟨hc1, _⟩ := bcell hb; have hz1 := hb.size; simp at hz1))
  have hB : Below w.heap.size w w1 := (below_alloc (Below.refl _ _) _).trans (hb.mono (by simp))
  refine bodyPost_ret (v := VV 8 0 s) (by simp [results, Tryz.results52, go_sem, hc1]) rfl ⟨rfl, ?_⟩
  exact ((((hB.setCell (by simp) _).setCell (by simp) _).setCell (by simp) _).setCell (by simp) _)

theorem given_bool (K : Int) (hK : K = 8) (b : Bool) (w : World) :
    Calls Tryz.prog 24 #[V K b 0 0 0 es es] w fun e w' => e = .returned (VV 1 (bn b) es) ∧ Below w.heap.size w w' := by
  subst hK
  all_goals
    go_enter Tryz.func24, Tryz.ntmps24
    go_wp2_with (go_at_call 44; go_must (refine (ValueOfBool _ _).mono ?_; rintro e w1 ⟨rfl, hb⟩; obtain ⟨hc1, _⟩ := bcell hb; have hz1 := hb.size; simp at hz1))
    have hB : Below w.heap.size w w1 := (below_alloc (below_alloc (Below.refl _ _) _) _).trans (hb.mono (by simp; omega))
    refine bodyPost_ret (v := VV 1 (bn b) es) (by simp [results, Tryz.results24, go_sem, hc1]) rfl ⟨rfl, ?_⟩
    exact ((((hB.setCell (by simp) _).setCell (by simp) _).setCell (by simp) _).setCell (by simp) _)

set_option maxHeartbeats 1000000 in
theorem given_i32 (K : Int) (hK : K = 5 ∨ K = 17 ∨ K = 15) (n : Int) (w : World) :
    Calls Tryz.prog 24 #[V K false n 0 0 es es] w fun e w' => e = .returned (VV 2 (IntKind.u64.wrap (wrap32 n)) es) ∧ Below w.heap.size w w' := by
  rcases hK with rfl | rfl | rfl
  all_goals
    go_enter Tryz.func24, Tryz.ntmps24
    go_wp2_with (go_at_call 46; go_must (refine (ValueOfInt32 _ _).mono ?_; rintro e w1 ⟨rfl, hb⟩; obtain ⟨hc1, _⟩ := bcell hb; have hz1 := hb.size; simp at hz1))
    have hB : Below w.heap.size w w1 := (below_alloc (below_alloc (Below.refl _ _) _) _).trans (hb.mono (by simp; omega))
    refine bodyPost_ret (v := VV 2 (IntKind.u64.wrap (wrap32 n)) es) (by simp [results, Tryz.results24, go_sem, hc1]) rfl ⟨rfl, ?_⟩
    exact ((((hB.setCell (by simp) _).setCell (by simp) _).setCell (by simp) _).setCell (by simp) _)

set_option maxHeartbeats 1000000 in
theorem given_i64 (K : Int) (hK : K = 3 ∨ K = 18 ∨ K = 16) (n : Int) (w : World) :
    Calls Tryz.prog 24 #[V K false n 0 0 es es] w fun e w' => e = .returned (VV 3 (IntKind.u64.wrap n) es) ∧ Below w.heap.size w w' := by
  rcases hK with rfl | rfl | rfl
  all_goals
    go_enter Tryz.func24, Tryz.ntmps24
    go_wp2_with (go_at_call 47; go_must (refine (ValueOfInt64 _ _).mono ?_; rintro e w1 ⟨rfl, hb⟩; obtain ⟨hc1, _⟩ := bcell hb; have hz1 := hb.size; simp at hz1))
    have hB : Below w.heap.size w w1 := (below_alloc (below_alloc (Below.refl _ _) _) _).trans (hb.mono (by simp; omega))
    refine bodyPost_ret (v := VV 3 (IntKind.u64.wrap n) es) (by simp [results, Tryz.results24, go_sem, hc1]) rfl ⟨rfl, ?_⟩
    exact ((((hB.setCell (by simp) _).setCell (by simp) _).setCell (by simp) _).setCell (by simp) _)

set_option maxHeartbeats 1000000 in
theorem given_u32 (K : Int) (hK : K = 13 ∨ K = 7) (n : Int) (w : World) :
    Calls Tryz.prog 24 #[V K false 0 n 0 es es] w fun e w' => e = .returned (VV 4 (n % 4294967296) es) ∧ Below w.heap.size w w' := by
  rcases hK with rfl | rfl
  all_goals
    go_enter Tryz.func24, Tryz.ntmps24
    go_wp2_with (go_at_call 48; go_must (refine (ValueOfUint32 _ _).mono ?_; rintro e w1 ⟨rfl, hb⟩; obtain ⟨hc1, _⟩ := bcell hb; have hz1 := hb.size; simp at hz1))
    have hB : Below w.heap.size w w1 := (below_alloc (below_alloc (Below.refl _ _) _) _).trans (hb.mono (by simp; omega))
    refine bodyPost_ret (v := VV 4 (n % 4294967296) es) (by simp [results, Tryz.results24, go_sem, hc1]) rfl ⟨rfl, ?_⟩
    exact ((((hB.setCell (by simp) _).setCell (by simp) _).setCell (by simp) _).setCell (by simp) _)

set_option maxHeartbeats 1000000 in
theorem given_u64 (K : Int) (hK : K = 4 ∨ K = 6) (n : Int) (w : World) :
    Calls Tryz.prog 24 #[V K false 0 n 0 es es] w fun e w' => e = .returned (VV 5 n es) ∧ Below w.heap.size w w' := by
  rcases hK with rfl | rfl
  all_goals
    go_enter Tryz.func24, Tryz.ntmps24
    go_wp2_with (go_at_call 49; go_must (refine (ValueOfUint64 _ _).mono ?_; rintro e w1 ⟨rfl, hb⟩; obtain ⟨hc1, _⟩ := bcell hb; have hz1 := hb.size; simp at hz1))
    have hB : Below w.heap.size w w1 := (below_alloc (below_alloc (Below.refl _ _) _) _).trans (hb.mono (by simp; omega))
    refine bodyPost_ret (v := VV 5 n es) (by simp [results, Tryz.results24, go_sem, hc1]) rfl ⟨rfl, ?_⟩
    exact ((((hB.setCell (by simp) _).setCell (by simp) _).setCell (by simp) _).setCell (by simp) _)

theorem given_str (K : Int) (hK : K = 9) (s : ByteArray) (w : World) :
    Calls Tryz.prog 24 #[V K false 0 0 0 s es] w fun e w' => e = .returned (VV 8 0 s) ∧ Below w.heap.size w w' := by
  subst hK
  all_goals
    go_enter Tryz.func24, Tryz.ntmps24
    go_wp2_with (go_at_call 52; go_must (refine (ValueOfString _ _).mono ?_; rintro e w1 ⟨rfl, hb⟩; obtain ⟨hc1, _⟩ := bcell hb; have hz1 := hb.size; simp at hz1))
    have hB : Below w.heap.size w w1 := (below_alloc (below_alloc (Below.refl _ _) _) _).trans (hb.mono (by simp; omega))
    refine bodyPost_ret (v := VV 8 0 s) (by simp [results, Tryz.results24, go_sem, hc1]) rfl ⟨rfl, ?_⟩
    exact ((((hB.setCell (by simp) _).setCell (by simp) _).setCell (by simp) _).setCell (by simp) _)

end Go.Proofs.YticfdfomlcohpaaGreatDoor.Dt4
