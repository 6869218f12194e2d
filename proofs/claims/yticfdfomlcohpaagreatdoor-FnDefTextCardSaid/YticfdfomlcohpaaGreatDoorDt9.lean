/- The walk over a float of 32 bits of a default value: fitting. -/
import Derived.Test.YticfdfomlcohpaaGreatDoorDt8
namespace Go.Proofs.YticfdfomlcohpaaGreatDoor.Dt9
open Go.RowKit Go.Proofs.YticfdfomlcohpaaGreatDoorW.PrintWords Go.Proofs.YticfdfomlcohpaaGreatDoorW.PrintLast Go.Proofs.YticfdfomlcohpaaGreatDoorW.PrintMore
open Go.Proofs.YticfdfomlcohpaaGreatDoor.Db Go.Proofs.YticfdfomlcohpaaGreatDoor.Dt Go.Proofs.YticfdfomlcohpaaGreatDoor.Dt4 Go.Proofs.YticfdfomlcohpaaGreatDoor.Dt5 Go.Proofs.YticfdfomlcohpaaGreatDoor.Dt8

attribute [local irreducible] Dt7.cvW Dt7.cvN

set_option maxHeartbeats 2000000 in
theorem fit_f32 (B : Bool) (I U F : Int) (S N : ByteArray) (w : World) :
    Calls Tryz.prog 6 #[V 2 B I U F S N] w fun e w' => ∃ F' : Nat, F' < 18446744073709551616 ∧
      e = .returned (.tuple #[V 2 false 0 0 F' es es, .bool (decide ((S.size : Int) ≤ 2000))]) ∧ Below w.heap.size w w' := by
  have h4 := c4
  have h8 := c8
  have hc := cell_cv
  have hf := frozen_cv
  have hz := size_cv
  have ht := tob
  have hof := ofb
  go_enter Tryz.func6, Tryz.ntmps6
  go_wp2
  generalize hG : Dt7.cvN (Dt7.cvW _ _ _ _) .f32 _ .f64 = G
  have hb : G < 18446744073709551616 := hG ▸ Dt7.cv64_lt _ _
  have HB := Aside0.mk hb
  clear hG hb h4 h8 hof ht
  go_region
  all_goals go_wp2
  have hB : ∀ x y z u v, Below w.heap.size w (Dt7.cvW (Dt7.cvW (((w.alloc x).alloc y).alloc z) .f64 u .f32) .f32 v .f64) := fun _ _ _ _ _ =>
    Dt7.cvW_below (Dt7.cvW_below (below_alloc (below_alloc (below_alloc (Below.refl _ _) _) _) _) _ _ _) _ _ _
  refine bodyPost_ret (v := .tuple #[V 2 false 0 0 (G : Int) es es, .bool (decide ((S.size : Int) ≤ 2000))]) (by simp [results, Tryz.results6, go_sem, hc]) rfl ⟨G, HB.out, rfl, ?_⟩
  refine Below.drew ?_
  refine (((((((Below.setCell ?_ (by simp; omega) _).setCell (by simp) _).setCell (by simp) _).setCell (by simp) _).setCell (by simp) _).setCell (by simp) _).setCell (by simp) _).setCell (by simp) _
  exact hB _ _ _ _ _

end Go.Proofs.YticfdfomlcohpaaGreatDoor.Dt9
