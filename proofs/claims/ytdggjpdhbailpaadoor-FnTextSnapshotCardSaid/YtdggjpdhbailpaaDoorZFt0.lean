/- Which branch of shortFloat a float's mantissa and exponent come to. No conditions beyond each theorem's own. -/
import Derived.Test.YtdggjpdhbailpaaDoorZSd1
namespace Go.Proofs.YtdggjpdhbailpaaDoor.Ft0
open Go.RowKit Go.Proofs.YtdggjpdhbailpaaDoorW.PrintWords Go.Proofs.YtdggjpdhbailpaaDoorW.PrintLast Go.Proofs.YtdggjpdhbailpaaDoorW.PrintMore Go.Proofs.YtdggjpdhbailpaaDoor.Sf3 Go.Proofs.YtdggjpdhbailpaaDoor.Sf4

theorem lenOf (M k : Nat) (h1 : 1 ≤ M) (h2 : M < 2 ^ k) (hk : k ≤ 53) : ∃ s : Nat, s = 64 - Lib.bitLen M ∧ 64 - k ≤ s ∧ s ≤ 63 ∧ 9223372036854775808 ≤ M * 2 ^ s ∧ M * 2 ^ s + 2 ^ s ≤ 18446744073709551616 ∧ (64 - k < s → M < 2 ^ (k - 1)) := by
  have h64 : M < 2 ^ 64 := Nat.lt_of_lt_of_le h2 (Nat.pow_le_pow_right (by decide) (by omega))
  obtain ⟨b1, b2, b3⟩ := Lib.bitLenAux_bounds 64 M h64 (by omega)
  have b4 := Lib.bitLen_le M k (by omega) h2
  change 1 ≤ Lib.bitLen M at b1
  change 2 ^ (Lib.bitLen M - 1) ≤ M at b2
  change M < 2 ^ Lib.bitLen M at b3
  generalize Lib.bitLen M = bl at *
  have e1 : 2 ^ (bl - 1) * 2 ^ (64 - bl) = 9223372036854775808 := by rw [← Nat.pow_add]; have : bl - 1 + (64 - bl) = 63 := by omega
                                                                     rw [this]
  have e2 : 2 ^ bl * 2 ^ (64 - bl) = 18446744073709551616 := by rw [← Nat.pow_add]; have : bl + (64 - bl) = 64 := by omega
                                                                rw [this]
  refine ⟨64 - bl, rfl, by omega, by omega, ?_, ?_, fun hlt => ?_⟩
  · rw [← e1]; exact Nat.mul_le_mul_right _ b2
  · rw [← e2]
    have : (M + 1) * 2 ^ (64 - bl) ≤ 2 ^ bl * 2 ^ (64 - bl) := Nat.mul_le_mul_right _ b3
    rw [Nat.add_mul, Nat.one_mul] at this
    exact this
  · exact Nat.lt_of_lt_of_le b3 (Nat.pow_le_pow_right (by decide) (by omega))

theorem short64 (M : Nat) (E : Int) (h1 : 1 ≤ M) (h2 : M < 9007199254740992) (hE : -1022 ≤ E) (hE2 : E ≤ 1023) (hn : 4503599627370496 ≤ M ∨ E = -1022) :
    ∃ s : Nat, s = 64 - Lib.bitLen M ∧ 11 ≤ s ∧ s ≤ 63 ∧ M * 2 ^ s < 18446744073709551616 ∧ ShortOk 112 ((M * 2 ^ s : Nat) : Int) (E - s - 52) := by
  obtain ⟨s, hs, s0, s1, m0, m1, hlt⟩ := lenOf M 53 h1 h2 (by decide)
  have hp : 0 < 2 ^ s := Nat.two_pow_pos s
  refine ⟨s, hs, by omega, s1, by omega, ?_⟩
  by_cases g : s = 11
  · subst g
    by_cases gm : M * 2 ^ 11 = 9223372036854775808
    · by_cases ge : -1022 < E
      · exact sf64A _ _ (by rw [gm]; rfl) (by omega) (by omega)
      · exact sf64D _ _ (by rw [gm]; rfl) (by omega)
    · exact sf64B _ _ (by omega) (by omega) (by omega) (by omega) (by omega)
  · have hM := hlt (by omega)
    have hM : M < 4503599627370496 := hM
    have e : E = -1022 := by omega
    have ht : 2 ^ s = 2 * 2 ^ (s - 1) := by
      obtain ⟨j, rfl⟩ : ∃ j, s = j + 1 := ⟨s - 1, by omega⟩
      rw [Nat.pow_succ, Nat.add_sub_cancel]; omega
    refine sf64C _ _ (s : Int) ((2 ^ (s - 1) : Nat) : Int) (by omega) (by omega) (by omega) ?_ (by omega) (by omega)
    simp

theorem short32 (M : Nat) (E : Int) (h1 : 1 ≤ M) (h2 : M < 16777216) (hE : -126 ≤ E) (hE2 : E ≤ 127) (hn : 8388608 ≤ M ∨ E = -126) :
    ∃ s : Nat, s = 64 - Lib.bitLen M ∧ 40 ≤ s ∧ s ≤ 63 ∧ M * 2 ^ s < 18446744073709551616 ∧ ShortOk 106 ((M * 2 ^ s : Nat) : Int) (E - s - 23) := by
  obtain ⟨s, hs, s0, s1, m0, m1, hlt⟩ := lenOf M 24 h1 h2 (by decide)
  have hp : 0 < 2 ^ s := Nat.two_pow_pos s
  refine ⟨s, hs, by omega, s1, by omega, ?_⟩
  by_cases g : s = 40
  · subst g
    by_cases gm : M * 2 ^ 40 = 9223372036854775808
    · by_cases ge : -126 < E
      · exact sf32A _ _ (by rw [gm]; rfl) (by omega) (by omega)
      · exact sf32D _ _ (by rw [gm]; rfl) (by omega)
    · exact sf32B _ _ (by omega) (by omega) (by omega) (by omega) (by omega)
  · have hM := hlt (by omega)
    have hM : M < 8388608 := hM
    have e : E = -126 := by omega
    have ht : 2 ^ s = 2 * 2 ^ (s - 1) := by
      obtain ⟨j, rfl⟩ : ∃ j, s = j + 1 := ⟨s - 1, by omega⟩
      rw [Nat.pow_succ, Nat.add_sub_cancel]; omega
    refine sf32C _ _ (s : Int) ((2 ^ (s - 1) : Nat) : Int) (by omega) (by omega) (by omega) ?_ (by omega) (by omega)
    simp

end Go.Proofs.YtdggjpdhbailpaaDoor.Ft0
