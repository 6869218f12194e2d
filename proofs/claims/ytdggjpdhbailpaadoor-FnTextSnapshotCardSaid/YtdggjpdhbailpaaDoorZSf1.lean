/- The numbers of the shortest form of a float: what uscale gives of numbers that it is called with. No conditions beyond each theorem's own. -/
import Derived.Test.YtdggjpdhbailpaaDoorZLf
import Derived.Laws.BitsAllLaws
namespace Go.Proofs.YtdggjpdhbailpaaDoor.Sf1
open Go.RowKit Go.Proofs.YtdggjpdhbailpaaDoorW.PrintWords Go.Proofs.YtdggjpdhbailpaaDoorW.PrintLast Go.Proofs.YtdggjpdhbailpaaDoorW.PrintMore Go.Proofs.YtdggjpdhbailpaaDoor.Lf

theorem mask32 (a : Int) (h0 : 0 ≤ a) (h1 : a < 18446744073709551616) : Go.bits .and .u64 a 4294967295 = a % 4294967296 := by
  rw [u64_and a 4294967295 h0 h1 (by decide) (by decide)]
  have e : ((4294967295 : Int).toNat : Nat) = 2 ^ 32 - 1 := by decide
  rw [e, Nat.and_two_pow_sub_one_eq_mod]
  omega
theorem and1 (a : Int) (h0 : 0 ≤ a) (h1 : a < 18446744073709551616) : Go.bits .and .u64 a 1 = a % 2 := by
  rw [u64_and a 1 h0 h1 (by decide) (by decide)]
  have e : ((1 : Int).toNat : Nat) = 2 ^ 1 - 1 := by decide
  rw [e, Nat.and_two_pow_sub_one_eq_mod]
  omega
theorem uw (x : Int) (h0 : 0 ≤ x) (h1 : x < 18446744073709551616) : IntKind.u64.wrap x = x := by rw [IntKind.wrap_u64]; omega

theorem mul_b (a b : Int) (h0 : 0 ≤ a) (h1 : a < 4294967296) (h2 : 0 ≤ b) (h3 : b < 4294967296) : 0 ≤ a * b ∧ a * b ≤ 18446744065119617025 := by
  refine ⟨Int.mul_nonneg h0 h2, ?_⟩
  have := Int.mul_le_mul (show a ≤ 4294967295 by omega) (show b ≤ 4294967295 by omega) h2 (by omega)
  omega

theorem mul64 (a b : Int) (h0 : 0 ≤ a) (h1 : a < 18446744073709551616) (h2 : 0 ≤ b) (h3 : b < 18446744073709551616) :
    bits_Mul64.f a b = some (a * b / 18446744073709551616, a * b % 18446744073709551616) := by
  unfold bits_Mul64.f
  rw [mask32 a h0 h1, mask32 b h2 h3]
  obtain ⟨a1, ha1⟩ : ∃ a1, a1 = a / 4294967296 := ⟨_, rfl⟩
  obtain ⟨a0, ha0⟩ : ∃ a0, a0 = a % 4294967296 := ⟨_, rfl⟩
  obtain ⟨b1, hb1⟩ : ∃ b1, b1 = b / 4294967296 := ⟨_, rfl⟩
  obtain ⟨b0, hb0⟩ : ∃ b0, b0 = b % 4294967296 := ⟨_, rfl⟩
  have b11 := mul_b a1 b1 (by omega) (by omega) (by omega) (by omega)
  have b10 := mul_b a1 b0 (by omega) (by omega) (by omega) (by omega)
  have b01 := mul_b a0 b1 (by omega) (by omega) (by omega) (by omega)
  have b00 := mul_b a0 b0 (by omega) (by omega) (by omega) (by omega)
  have ea : a = a1 * 4294967296 + a0 := by omega
  have eb : b = b1 * 4294967296 + b0 := by omega
  have eab : a * b = a1 * b1 * 18446744073709551616 + (a1 * b0 + a0 * b1) * 4294967296 + a0 * b0 := by
    rw [ea, eb]
    simp only [Int.add_mul, Int.mul_add]
    have e1 : a1 * 4294967296 * (b1 * 4294967296) = a1 * b1 * 18446744073709551616 := by
      rw [Int.mul_assoc, Int.mul_left_comm 4294967296, ← Int.mul_assoc]; rfl
    have e2 : a1 * 4294967296 * b0 = a1 * b0 * 4294967296 := by rw [Int.mul_assoc, Int.mul_comm 4294967296, ← Int.mul_assoc]
    have e3 : a0 * (b1 * 4294967296) = a0 * b1 * 4294967296 := by rw [Int.mul_assoc]
    omega
  rw [← ha1, ← ha0, ← hb1, ← hb0, eab]
  generalize a1 * b1 = p11 at *
  generalize a1 * b0 = p10 at *
  generalize a0 * b1 = p01 at *
  generalize a0 * b0 = p00 at *
  rw [uw p11 (by omega) (by omega), uw p10 (by omega) (by omega), uw p01 (by omega) (by omega), uw p00 (by omega) (by omega), uw (p10 + p00 / 4294967296) (by omega) (by omega),
    mask32 (p10 + p00 / 4294967296) (by omega) (by omega), uw ((p10 + p00 / 4294967296) % 4294967296 + p01) (by omega) (by omega), uw (p11 + (p10 + p00 / 4294967296) / 4294967296) (by omega) (by omega), uw (p11 + (p10 + p00 / 4294967296) / 4294967296 + ((p10 + p00 / 4294967296) % 4294967296 + p01) / 4294967296) (by omega) (by omega)]
  rw [IntKind.wrap_u64]
  simp only [Option.some.injEq, Prod.mk.injEq]
  refine ⟨?_, trivial⟩
  have e1 : (p11 * 18446744073709551616 + (p10 + p01) * 4294967296 + p00) / 18446744073709551616 = (p11 * 18446744073709551616 + (p10 + p01) * 4294967296 + p00) / 4294967296 / 4294967296 := by
    rw [Int.ediv_ediv_of_nonneg (by decide)]
    rfl
  have e2 : (p11 * 18446744073709551616 + (p10 + p01) * 4294967296 + p00) / 4294967296 = p11 * 4294967296 + p10 + p01 + p00 / 4294967296 := by omega
  rw [e1, e2]
  generalize p00 / 4294967296 = z at *
  omega

theorem and63 (s : Int) (h0 : 0 ≤ s) (h1 : s < 64) : Go.bits .and .i64 s 63 = s := by
  have : ∀ n : Fin 64, Go.bits .and .i64 (n.val : Int) 63 = (n.val : Int) := by decide +kernel
  have h := this ⟨s.toNat, by omega⟩
  simpa [Int.toNat_of_nonneg h0] using h

theorem or01 (a b : Int) (h0 : 0 ≤ a) (h1 : a < 9223372036854775808) (hb : b = 0 ∨ b = 1) : a ≤ Go.bits .or .u64 a b ∧ b ≤ Go.bits .or .u64 a b ∧ Go.bits .or .u64 a b ≤ a + 1 := by
  rw [u64_or a b h0 (by omega) (by omega) (by omega)]
  have l1 : a.toNat ≤ a.toNat ||| b.toNat := Nat.left_le_or
  have l2 : b.toNat ≤ a.toNat ||| b.toNat := Nat.right_le_or
  have l3 : a.toNat ||| b.toNat ≤ a.toNat + 1 := by
    have e : (a.toNat ||| b.toNat) / 2 = a.toNat / 2 ||| b.toNat / 2 := Nat.or_div_two
    have eb : b.toNat / 2 = 0 := by omega
    rw [eb, Nat.or_zero] at e
    omega
  omega

theorem pow_le (s : Int) (h0 : 2 ≤ s) (h1 : s ≤ 60) : (4 : Int) ≤ 2 ^ s.toNat ∧ (2 : Int) ^ s.toNat ≤ 1152921504606846976 := by
  have h : ∀ n : Fin 61, 2 ≤ n.val → (4 : Int) ≤ 2 ^ n.val ∧ (2 : Int) ^ n.val ≤ 1152921504606846976 := by decide +kernel
  exact h ⟨s.toNat, by omega⟩ (by show 2 ≤ s.toNat; omega)

/-- uscale of a number from 2^62 on, a scaler of which the high half has its first bit, and a shift from 2 to 60. -/
theorem us (x hi lo s : Int) (x0 : 4611686018427387904 ≤ x) (x1 : x < 18446744073709551616) (h0 : 9223372036854775808 ≤ hi) (h1 : hi < 18446744073709551616) (l0 : 0 ≤ lo) (l1 : lo < 18446744073709551616) (s0 : 2 ≤ s) (s1 : s ≤ 60) :
    ∃ u, strconv_uscale.f x hi lo s = some (u, hi, lo, s) ∧ 1 ≤ u ∧ u ≤ 4611686018427387905 ∧ (9223372036854775808 ≤ x → 3 ≤ u) := by
  have hP : 4611686018427387904 * 9223372036854775808 ≤ x * hi := Int.mul_le_mul x0 h0 (by omega) (by omega)
  have hP2 : 9223372036854775808 ≤ x → 9223372036854775808 * 9223372036854775808 ≤ x * hi := fun h => Int.mul_le_mul h h0 (by omega) (by omega)
  have hP3 : x * hi < 18446744073709551616 * 18446744073709551616 := Int.mul_lt_mul x1 (by omega) (by omega) (by omega)
  obtain ⟨p1, p2⟩ := pow_le s s0 s1
  unfold strconv_uscale.f
  rw [mul64 x hi (by omega) x1 (by omega) h1, and63 s (by omega) (by omega)]
  simp only [Option.bind_some]
  rw [if_pos (by omega), mul64 x lo (by omega) x1 l0 l1]
  simp only [Option.bind_some]
  generalize x * hi = P at *
  obtain ⟨H, hH⟩ : ∃ H, H = P / 18446744073709551616 := ⟨_, rfl⟩
  have hHb : 2305843009213693952 ≤ H ∧ H < 18446744073709551616 ∧ (9223372036854775808 ≤ x → 4611686018427387904 ≤ H) := by
    refine ⟨by omega, by omega, fun h => ?_⟩
    have := hP2 h
    omega
  rw [← hH]
  have hsh : ∀ y, shr .u64 y s = y / 2 ^ s.toNat := fun y => shr_small (k := .u64) (y := s) rfl (by show s ≤ (64 : Nat); omega) |>.symm
  rw [hsh]
  generalize (2 : Int) ^ s.toNat = T at *
  have q1 : ∀ y : Int, 0 ≤ y → y < 18446744073709551616 → 0 ≤ y / T ∧ y / T ≤ 4611686018427387904 := fun y y0 y1 => by
    refine ⟨Int.ediv_nonneg y0 (by omega), ?_⟩
    have : y / T < 4611686018427387905 := Int.ediv_lt_of_lt_mul (by omega) (by omega)
    omega
  have q2 : ∀ y : Int, 2305843009213693951 ≤ y → 1 ≤ y / T := fun y y0 => by
    have : 1 * T ≤ y := by omega
    exact Int.le_ediv_of_mul_le (by omega) this
  have q3 : ∀ y : Int, 4611686018427387903 ≤ y → 3 ≤ y / T := fun y y0 => by
    have : 3 * T ≤ y := by omega
    exact Int.le_ediv_of_mul_le (by omega) this
  split
  · obtain ⟨t, ht, ht2⟩ : ∃ t : Int, strconv_bool2_uint64.f (decide (P % 18446744073709551616 < x * lo / 18446744073709551616)) = some t ∧ (t = 0 ∨ t = 1) := by
      unfold strconv_bool2_uint64.f
      split <;> simp
    obtain ⟨v, hv, hv2⟩ : ∃ t : Int, strconv_bool2_uint64.f (decide (IntKind.u64.wrap (P % 18446744073709551616 - x * lo / 18446744073709551616) > 1)) = some t ∧ (t = 0 ∨ t = 1) := by
      unfold strconv_bool2_uint64.f
      split <;> simp
    rw [ht, Option.bind_some, hv, Option.bind_some]
    refine ⟨_, rfl, ?_⟩
    rw [uw (H - t) (by omega) (by omega), hsh]
    have b1 := q1 (H - t) (by omega) (by omega)
    have b2 := q2 (H - t) (by omega)
    have o := or01 ((H - t) / T) v b1.1 (by omega) hv2
    refine ⟨by omega, by omega, fun h => ?_⟩
    have := hHb.2.2 h
    have := q3 (H - t) (by omega)
    omega
  · refine ⟨_, rfl, ?_⟩
    have b1 := q1 H (by omega) (by omega)
    have b2 := q2 H (by omega)
    have o := or01 (H / T) 1 b1.1 (by omega) (.inr rfl)
    refine ⟨by omega, by omega, fun h => ?_⟩
    have := hHb.2.2 h
    have := q3 H (by omega)
    omega

end Go.Proofs.YtdggjpdhbailpaaDoor.Sf1
