/- The walks of spec.Count, spec.Whole, strconv.FormatUint, strconv.FormatInt: both ways of writing a whole number in digits. -/
import Derived.Test.YticfdfomlcohpaaGreatDoorDb1
import Derived.Lib.ItoaNum
import Derived.Deep.QuietTactic
import Derived.BigQuiet
import Derived.Laws.Concat
import Derived.Deep.RegionWith
import Derived.Deep.DeepMust
import Derived.Lib.Hide
namespace Go.Proofs.YticfdfomlcohpaaGreatDoor.Dt2
open Go.RowKit Go.Proofs.YticfdfomlcohpaaGreatDoorW.PrintWords Go.Proofs.YticfdfomlcohpaaGreatDoorW.PrintLast Go.Proofs.YticfdfomlcohpaaGreatDoorW.PrintMore
open Go.Proofs.YticfdfomlcohpaaGreatDoor.Db

def dgs (d : Nat) : ByteArray := ⟨#[UInt8.ofNat (48 + d)]⟩
theorem ext10 : ∀ d : Nat, d < 10 → (⟨#[48, 49, 50, 51, 52, 53, 54, 55, 56, 57]⟩ : ByteArray).extract d (d + 1) = dgs d := by unfold dgs; decide
theorem dec1 (n : Nat) (h : n < 10) : (⟨(Lib.decDigits n).toArray⟩ : ByteArray) = dgs n := by rw [Lib.decDigits, dif_pos h]; rfl
theorem dec2 (n : Nat) (h : ¬ n < 10) : (⟨(Lib.decDigits n).toArray⟩ : ByteArray) = ⟨(Lib.decDigits (n / 10)).toArray⟩ ++ dgs (n % 10) := by
  rw [Lib.decDigits, dif_neg h]
  apply ByteArray.ext
  simp [dgs]
theorem dec_len (k : Nat) : ∀ n : Nat, n < 10 ^ k → (Lib.decDigits n).length ≤ k + 1 := by
  induction k with
  | zero => intro n hn; rw [Lib.decDigits, dif_pos (by omega)]; simp
  | succ k ih =>
    intro n hn
    rw [Lib.decDigits]
    split
    · simp
    · have := ih (n / 10) (by rw [Nat.pow_succ] at hn; omega)
      simp
      omega
theorem dec_size (n : Nat) (hn : n < 18446744073709551616) : (⟨(Lib.decDigits n).toArray⟩ : ByteArray).size ≤ 100 := by
  have := dec_len 20 n (by omega)
  show (Lib.decDigits n).toArray.size ≤ 100
  simp
  omega

set_option maxHeartbeats 1000000 in
theorem count_any (n : Nat) (hn : n < 18446744073709551616) : ∀ w : World,
    Calls Tryz.prog 18 #[.int .u64 n] w fun e w' => e = .returned (.string ⟨(Lib.decDigits n).toArray⟩) ∧ ∃ m, w' = w.drewN m := by
  induction n using Nat.strongRecOn with
  | _ n ih =>
  intro w
  by_cases h : n < 10
  · have hd := Aside0.mk (dec1 n h)
    have he := ext10 n h
    clear ih
    obtain ⟨R, hR⟩ : ∃ R : ByteArray, R = ⟨(Lib.decDigits n).toArray⟩ := ⟨_, rfl⟩
    rw [← hR] at hd ⊢
    clear hR
    go_enter Tryz.func18, Tryz.ntmps18
    go_wp2
    go_ret
    exact ⟨by rw [hd.out]; rfl, 0, rfl⟩
  · have hd := Aside0.mk (dec2 n h)
    have hi := ih (n / 10) (by omega) (by omega)
    have he := ext10 (n % 10) (by omega)
    have hs := dec_size (n / 10) (by omega)
    obtain ⟨R, hR⟩ : ∃ R : ByteArray, R = ⟨(Lib.decDigits n).toArray⟩ := ⟨_, rfl⟩
    obtain ⟨R1, hR1⟩ : ∃ R : ByteArray, R = ⟨(Lib.decDigits (n / 10)).toArray⟩ := ⟨_, rfl⟩
    rw [← hR] at hd ⊢
    rw [← hR1] at hd hi hs
    have hi2 := Aside0.mk (show ∀ w : World, Calls Tryz.prog 18 #[.int .u64 ((n : Int) / 10)] w fun e w' => e = .returned (.string R1) ∧ ∃ m, w' = w.drewN m by
      intro w; have := hi w; rwa [show ((n / 10 : Nat) : Int) = (n : Int) / 10 from by omega] at this)
    clear hR hR1 hi ih
    have hs2 : R1.size + (dgs (n % 10)).size ≤ 9223372036854775807 := by have e : (dgs (n % 10)).size = 1 := rfl; omega
    have hw1 : IntKind.u64.wrap ((n : Int) / 10) = (n : Int) / 10 := IntWalk.u64_in _ (by omega)
    have hw2 : (n : Int).tmod 10 = (n : Int) % 10 := by rw [Int.tmod_eq_emod_of_nonneg (by omega)]
    have hw3 : IntKind.u64.wrap ((n : Int) % 10 + 1) = (n : Int) % 10 + 1 := IntWalk.u64_in _ (by omega)
    have hw4 : (n : Int) % 10 ≤ (n : Int) % 10 + 1 := by omega
    have hw5 : ((n : Int) % 10).toNat = n % 10 := by omega
    have hw6 : ((n : Int) % 10 + 1).toNat = n % 10 + 1 := by omega
    have hw7 : 0 ≤ (n : Int) % 10 := by omega
    have hw8 : (n : Int) % 10 + 1 ≤ 10 := by omega
    clear hn
    go_enter Tryz.func18, Tryz.ntmps18
    go_wp2_with fail
    go_region_with (go_at_call 18; go_must (refine (hi2.out _).mono ?_; rintro e w1 ⟨rfl, m, rfl⟩))
    all_goals go_wp2
    all_goals go_ret
    all_goals refine ⟨by rw [hd.out]; rfl, ?_⟩
    all_goals exact ⟨_, rfl⟩

theorem itoa_nn (n : Int) (h : ¬ n < 0) : Lib.itoa n = Lib.decDigits n.toNat := by rw [Lib.itoa, if_neg h]
theorem itoa_neg (n : Int) (h : n < 0) : (⟨(Lib.itoa n).toArray⟩ : ByteArray) = (⟨#[45]⟩ : ByteArray) ++ ⟨(Lib.decDigits n.natAbs).toArray⟩ := by
  rw [Lib.itoa, if_pos h]
  apply ByteArray.ext
  simp

theorem count_int (a : Int) (r : ByteArray) (h0 : 0 ≤ a) (h1 : a < 18446744073709551616) (hr : r = ⟨(Lib.decDigits a.toNat).toArray⟩) (w : World) :
    Calls Tryz.prog 18 #[.int .u64 a] w fun e w' => e = .returned (.string r) ∧ ∃ m, w' = w.drewN m := by
  obtain ⟨n, rfl⟩ := Int.eq_ofNat_of_zero_le h0
  subst hr
  rw [Int.toNat_natCast]
  exact count_any n (by omega) w

set_option maxHeartbeats 1000000 in
theorem whole_any (n : Int) (h0 : -9223372036854775808 ≤ n) (h1 : n ≤ 9223372036854775807) (w : World) :
    Calls Tryz.prog 17 #[.int .i64 n] w fun e w' => e = .returned (.string ⟨(Lib.itoa n).toArray⟩) ∧ ∃ m, w' = w.drewN m := by
  by_cases h : n < 0
  · have hd := Aside0.mk (itoa_neg n h)
    have hs := dec_size n.natAbs (by omega)
    have hw1 : IntKind.u64.wrap (-IntKind.u64.wrap n) = -n := by simp only [IntKind.wrap_u64]; omega
    have hc := Aside0.mk (count_int (IntKind.u64.wrap (-IntKind.u64.wrap n)) ⟨(Lib.decDigits n.natAbs).toArray⟩ (by omega) (by omega) (by rw [hw1]; congr 3; omega))
    obtain ⟨R, hR⟩ : ∃ R : ByteArray, R = ⟨(Lib.itoa n).toArray⟩ := ⟨_, rfl⟩
    obtain ⟨R1, hR1⟩ : ∃ R : ByteArray, R = ⟨(Lib.decDigits n.natAbs).toArray⟩ := ⟨_, rfl⟩
    rw [← hR] at hd ⊢
    rw [← hR1] at hd hc hs
    have hs2 : (⟨#[45]⟩ : ByteArray).size + R1.size ≤ 9223372036854775807 := by have e : (⟨#[45]⟩ : ByteArray).size = 1 := rfl; omega
    have hadd := fun w => run_string_add_sum (P := Tryz.prog) w ⟨#[45]⟩ R1 hs2
    clear hR hR1 hw1
    go_enter Tryz.func17, Tryz.ntmps17
    go_wp2_with (go_at_call 18; go_must (refine (hc.out _).mono ?_; rintro e w1 ⟨rfl, m, rfl⟩))
    go_ret
    exact ⟨by rw [hd.out]; rfl, _, rfl⟩
  · rw [itoa_nn n h]
    have hc := Aside0.mk (count_int n ⟨(Lib.decDigits n.toNat).toArray⟩ (by omega) (by omega) rfl)
    obtain ⟨R1, hR1⟩ : ∃ R : ByteArray, R = ⟨(Lib.decDigits n.toNat).toArray⟩ := ⟨_, rfl⟩
    rw [← hR1] at hc ⊢
    clear hR1
    go_enter Tryz.func17, Tryz.ntmps17
    go_wp2_with (go_at_call 18; go_must (refine (hc.out _).mono ?_; rintro e w1 ⟨rfl, m, rfl⟩))
    go_ret
    exact ⟨rfl, _, rfl⟩

end Go.Proofs.YticfdfomlcohpaaGreatDoor.Dt2
