/- The walks of fitting: what a value of a kind is made. -/
import Derived.Test.YticfdfomlcohpaaGreatDoorDb1
import Derived.RegionTactic
import Derived.ChangeAlike
namespace Go.Proofs.YticfdfomlcohpaaGreatDoor.Dt
open Go.RowKit Go.Proofs.YticfdfomlcohpaaGreatDoorW.PrintWords Go.Proofs.YticfdfomlcohpaaGreatDoorW.PrintLast Go.Proofs.YticfdfomlcohpaaGreatDoorW.PrintMore
open Go.Proofs.YticfdfomlcohpaaGreatDoor.Db

abbrev V (K : Int) (B : Bool) (I U F : Int) (S N : ByteArray) : Value := .agg #[.int .i64 K, .bool B, .int .i64 I, .int .u64 U, .int .u64 F, .string S, .string N]
abbrev es : ByteArray := ⟨#[]⟩

theorem fit_bool (K : Int) (hK : K = 8) (B : Bool) (I U F : Int) (S N : ByteArray) (w : World) :
    Calls Tryz.prog 6 #[V K B I U F S N] w fun e w' =>
      e = .returned (.tuple #[V K B 0 0 0 es es, .bool (decide ((S.size : Int) ≤ 2000))]) ∧ Below w.heap.size w w' := by
  subst hK
  all_goals
    go_enter Tryz.func6, Tryz.ntmps6
    go_wp2
    go_region
    all_goals go_wp2
    all_goals exact bodyPost_ret (v := .tuple #[V _ B 0 0 0 es es, .bool (decide ((S.size : Int) ≤ 2000))]) (by simp [results, Tryz.results6, go_sem]) rfl ⟨rfl, ((below_alloc (below_alloc (below_alloc (Below.refl _ _) _) _) _)).drew⟩

theorem w6432 (I : Int) : wrap64 (wrap32 I) = wrap32 I := by unfold wrap64 wrap32; omega

set_option maxHeartbeats 1000000 in
theorem fit_i32 (K : Int) (hK : K = 5 ∨ K = 17 ∨ K = 15) (B : Bool) (I U F : Int) (S N : ByteArray) (w : World) :
    Calls Tryz.prog 6 #[V K B I U F S N] w fun e w' =>
      e = .returned (.tuple #[V K false (wrap32 I) 0 0 es es, .bool (decide ((S.size : Int) ≤ 2000))]) ∧ Below w.heap.size w w' := by
  rcases hK with rfl | rfl | rfl
  all_goals
    go_enter Tryz.func6, Tryz.ntmps6
    go_wp2
    go_region
    all_goals go_wp2
    all_goals exact bodyPost_ret (v := .tuple #[V _ false (wrap32 I) 0 0 es es, .bool (decide ((S.size : Int) ≤ 2000))]) (by simp [results, Tryz.results6, go_sem, w6432]) rfl ⟨rfl, ((below_alloc (below_alloc (below_alloc (Below.refl _ _) _) _) _)).drew⟩

set_option maxHeartbeats 1000000 in
theorem fit_i64 (K : Int) (hK : K = 3 ∨ K = 18 ∨ K = 16) (B : Bool) (I U F : Int) (S N : ByteArray) (w : World) :
    Calls Tryz.prog 6 #[V K B I U F S N] w fun e w' =>
      e = .returned (.tuple #[V K false I 0 0 es es, .bool (decide ((S.size : Int) ≤ 2000))]) ∧ Below w.heap.size w w' := by
  rcases hK with rfl | rfl | rfl
  all_goals
    go_enter Tryz.func6, Tryz.ntmps6
    go_wp2
    go_region
    all_goals go_wp2
    all_goals exact bodyPost_ret (v := .tuple #[V _ false I 0 0 es es, .bool (decide ((S.size : Int) ≤ 2000))]) (by simp [results, Tryz.results6, go_sem]) rfl ⟨rfl, ((below_alloc (below_alloc (below_alloc (Below.refl _ _) _) _) _)).drew⟩

set_option maxHeartbeats 1000000 in
theorem fit_u32 (K : Int) (hK : K = 13 ∨ K = 7) (B : Bool) (I U F : Int) (S N : ByteArray) (w : World) :
    Calls Tryz.prog 6 #[V K B I U F S N] w fun e w' =>
      e = .returned (.tuple #[V K false 0 (U % 4294967296) 0 es es, .bool (decide ((S.size : Int) ≤ 2000))]) ∧ Below w.heap.size w w' := by
  rcases hK with rfl | rfl
  all_goals
    go_enter Tryz.func6, Tryz.ntmps6
    go_wp2
    go_region
    all_goals go_wp2
    all_goals exact bodyPost_ret (v := .tuple #[V _ false 0 (U % 4294967296) 0 es es, .bool (decide ((S.size : Int) ≤ 2000))]) (by simp [results, Tryz.results6, go_sem]) rfl ⟨rfl, ((below_alloc (below_alloc (below_alloc (Below.refl _ _) _) _) _)).drew⟩

set_option maxHeartbeats 1000000 in
theorem fit_u64 (K : Int) (hK : K = 4 ∨ K = 6) (B : Bool) (I U F : Int) (S N : ByteArray) (w : World) :
    Calls Tryz.prog 6 #[V K B I U F S N] w fun e w' =>
      e = .returned (.tuple #[V K false 0 U 0 es es, .bool (decide ((S.size : Int) ≤ 2000))]) ∧ Below w.heap.size w w' := by
  rcases hK with rfl | rfl
  all_goals
    go_enter Tryz.func6, Tryz.ntmps6
    go_wp2
    go_region
    all_goals go_wp2
    all_goals exact bodyPost_ret (v := .tuple #[V _ false 0 U 0 es es, .bool (decide ((S.size : Int) ≤ 2000))]) (by simp [results, Tryz.results6, go_sem]) rfl ⟨rfl, ((below_alloc (below_alloc (below_alloc (Below.refl _ _) _) _) _)).drew⟩

theorem fit_f64 (K : Int) (hK : K = 1) (B : Bool) (I U F : Int) (S N : ByteArray) (w : World) :
    Calls Tryz.prog 6 #[V K B I U F S N] w fun e w' =>
      e = .returned (.tuple #[V K false 0 0 F es es, .bool (decide ((S.size : Int) ≤ 2000))]) ∧ Below w.heap.size w w' := by
  subst hK
  all_goals
    go_enter Tryz.func6, Tryz.ntmps6
    go_wp2
    go_region
    all_goals go_wp2
    all_goals exact bodyPost_ret (v := .tuple #[V _ false 0 0 F es es, .bool (decide ((S.size : Int) ≤ 2000))]) (by simp [results, Tryz.results6, go_sem]) rfl ⟨rfl, ((below_alloc (below_alloc (below_alloc (Below.refl _ _) _) _) _)).drew⟩

set_option maxHeartbeats 1000000 in
theorem fit_str (K : Int) (hK : K = 9 ∨ K = 12) (B : Bool) (I U F : Int) (S N : ByteArray) (w : World) :
    Calls Tryz.prog 6 #[V K B I U F S N] w fun e w' =>
      e = .returned (.tuple #[V K false 0 0 0 S es, .bool (decide ((S.size : Int) ≤ 2000))]) ∧ Below w.heap.size w w' := by
  rcases hK with rfl | rfl
  all_goals
    go_enter Tryz.func6, Tryz.ntmps6
    go_wp2
    go_region
    all_goals go_wp2
    all_goals exact bodyPost_ret (v := .tuple #[V _ false 0 0 0 S es, .bool (decide ((S.size : Int) ≤ 2000))]) (by simp [results, Tryz.results6, go_sem]) rfl ⟨rfl, ((below_alloc (below_alloc (below_alloc (Below.refl _ _) _) _) _)).drew⟩

end Go.Proofs.YticfdfomlcohpaaGreatDoor.Dt
