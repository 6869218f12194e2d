/- The walks of Marshal and DefText at floats: the words of the infinities and of what is no number. -/
import Derived.Test.YticfdfomlcohpaaGreatDoorDt9
namespace Go.Proofs.YticfdfomlcohpaaGreatDoor.Dta
open Go.RowKit Go.Proofs.YticfdfomlcohpaaGreatDoorW.PrintWords Go.Proofs.YticfdfomlcohpaaGreatDoorW.PrintLast Go.Proofs.YticfdfomlcohpaaGreatDoorW.PrintMore
open Go.Proofs.YticfdfomlcohpaaGreatDoor.Db Go.Proofs.YticfdfomlcohpaaGreatDoor.Dt Go.Proofs.YticfdfomlcohpaaGreatDoor.Dt4 Go.Proofs.YticfdfomlcohpaaGreatDoor.Dt5 Go.Proofs.YticfdfomlcohpaaGreatDoor.Dt8

/-- The word of a float that has one. -/
def Word (n : Nat) (r : ByteArray) : Prop :=
  (n = 9218868437227405312 ∧ r = ⟨#[105, 110, 102]⟩) ∨ (n = 18442240474082181120 ∧ r = ⟨#[45, 105, 110, 102]⟩) ∨ (9218868437227405312 < n % 9223372036854775808 ∧ r = ⟨#[110, 97, 110]⟩)
theorem Word.same {b c : Nat} {r : ByteArray} (h : Word b r) (s : Same b c) : Word c r := by
  rcases h with ⟨h, rfl⟩ | ⟨h, rfl⟩ | ⟨h, rfl⟩
  · exact .inl ⟨s.1 h, rfl⟩
  · exact .inr (.inl ⟨s.2.1 h, rfl⟩)
  · exact .inr (.inr ⟨s.2.2 h, rfl⟩)

set_option maxHeartbeats 2000000 in
theorem mar_fl (j t : Int) (hj : (j = 1 ∧ t = 7) ∨ (j = 2 ∧ t = 6)) (n : Nat) (r : ByteArray) (h : Word n r) (ev : Value) (f : Int) (w : World) :
    Calls Tryz.prog 23 #[VV t n es, ev, .int .i8 j, .int .i64 f] w fun e w' => e = .returned (.tuple #[.string r, .nilIface]) ∧ Below w.heap.size w w' := by
  have hof := ofb
  have hM : (Dt7.gtM (Op.negFloat .f64 n) = true ∧ r = ⟨#[45, 105, 110, 102]⟩) ∨ (Dt7.gtM (Op.negFloat .f64 n) = false ∧ ((Dt7.gtM n = true ∧ r = ⟨#[105, 110, 102]⟩) ∨ (Dt7.gtM n = false ∧ Dt7.nanB n = true ∧ r = ⟨#[110, 97, 110]⟩))) := by
    rcases h with ⟨rfl, h⟩ | ⟨rfl, h⟩ | ⟨h1, h⟩
    · exact .inr ⟨by rw [Dt7.neg_inf]; exact Dt7.gt_ninf, .inl ⟨Dt7.gt_inf, h⟩⟩
    · exact .inl ⟨by rw [Dt7.neg_ninf]; exact Dt7.gt_inf, h⟩
    · exact .inr ⟨Dt7.gt_nan _ (Dt7.neg_nan _ h1), .inr ⟨Dt7.gt_nan _ h1, Dt7.nanB_nan _ h1, h⟩⟩
  clear h
  have hA := Aside0.mk (fun w => Dt7.isinf_m n w)
  have hB := Aside0.mk (fun w => Dt7.isinf_p n w)
  have hC := Aside0.mk (fun w => Dt7.isnan n w)
  generalize Dt7.gtM (Op.negFloat .f64 n) = a at hA hM
  generalize Dt7.gtM n = b at hB hM
  generalize Dt7.nanB n = c at hC hM
  have hD : Aside0 (∀ (s : Int) (w : World), s = 1 ∨ s = -1 → Calls Tryz.prog 37 #[.float .f64 n, .int .i64 s] w fun e w' => e = .returned (.bool (if s = 1 then b else a)) ∧ w = w') :=
    Aside0.mk (fun s w h => by
      rcases h with rfl | rfl
      · exact hB.out w
      · exact hA.out w)
  clear hA hB
  rcases hj with ⟨rfl, rfl⟩ | ⟨rfl, rfl⟩
  all_goals
    rcases hM with ⟨rfl, rfl⟩ | ⟨rfl, ⟨rfl, rfl⟩ | ⟨rfl, rfl, rfl⟩⟩
  all_goals
    go_enter Tryz.func23, Tryz.ntmps23
    go_wp2_with (first
      | (go_at_call 37; go_must (refine (hD.out _ _ (by decide)).mono ?_; rintro e w1 ⟨rfl, rfl⟩))
      | (go_at_call 38; go_must (refine (hC.out _).mono ?_; rintro e w3 ⟨rfl, rfl⟩)) | go_in)
    go_ret2
    exact ⟨rfl, below_alloc (below_alloc (Below.refl _ _) _) _⟩

set_option maxHeartbeats 2000000 in
theorem def_fl (n : Nat) (h1 : n < 18446744073709551616) (w : World) :
    Calls Tryz.prog 19 #[.int .u64 n] w fun e w' => ((∃ r, Word n r ∧ e = .returned (.tuple #[.string r, .int .i64 1])) ∨ e = .returned (.tuple #[.string es, .int .i64 2])) ∧ Below w.heap.size w w' := by
  have hm := Dt7.mod63 n (by omega) (by omega)
  by_cases c1 : (n : Int) = 9218868437227405312
  · go_enter Tryz.func19, Tryz.ntmps19
    go_wp2
    go_ret2
    exact ⟨.inl ⟨_, .inl ⟨by omega, rfl⟩, rfl⟩, Below.refl _ _⟩
  by_cases c2 : (n : Int) = 18442240474082181120
  · go_enter Tryz.func19, Tryz.ntmps19
    go_wp2
    go_ret2
    exact ⟨.inl ⟨_, .inr (.inl ⟨by omega, rfl⟩), rfl⟩, Below.refl _ _⟩
  by_cases c3 : 9218868437227405312 < (n : Int) % 9223372036854775808
  · go_enter Tryz.func19, Tryz.ntmps19
    go_wp2
    go_ret2
    exact ⟨.inl ⟨_, .inr (.inr ⟨by omega, rfl⟩), rfl⟩, Below.refl _ _⟩
  · go_enter Tryz.func19, Tryz.ntmps19
    go_wp2
    go_ret2
    exact ⟨.inr rfl, Below.refl _ _⟩

set_option maxHeartbeats 2000000 in
theorem txt_fl (j : Int) (hj : j = 1 ∨ j = 2) (f : Int) (B : Bool) (n U : Int) (F : Nat) (S : ByteArray) (h1 : F < 18446744073709551616) (w : World) :
    Calls Tryz.prog 7 #[.int .i64 j, .int .i64 f, .bool B, .int .i64 n, .int .u64 U, .int .u64 F, .string S, .string es] w fun e w' => ((∃ r, Word F r ∧ e = .returned (.tuple #[.string r, .int .i64 1])) ∨ e = .returned (.tuple #[.string es, .int .i64 2])) ∧ Below w.heap.size w w' := by
  have hF := Aside0.mk (fun w => def_fl F h1 w)
  clear h1
  rcases hj with rfl | rfl
  all_goals
    go_enter Tryz.func7, Tryz.ntmps7
    go_wp2_with (go_at_call 19; go_must (refine (hF.out _).mono ?_; rintro e w1 ⟨⟨r, hr, rfl⟩ | rfl, hb⟩))
  all_goals go_ret2
  all_goals (first | exact ⟨.inl ⟨r, hr, rfl⟩, hb⟩ | exact ⟨.inr rfl, hb⟩)

end Go.Proofs.YticfdfomlcohpaaGreatDoor.Dta
