/- A float of 32 bits made one of 64 is turned back without an overflow, so without a draw. Conditions: none. -/
import Derived.Test.YtdggjpdhbailpaaDoorZGTd2
namespace Go.Proofs.YtdggjpdhbailpaaDoor.Fx
set_option linter.unusedVariables false
open Go.RowKit Go.Proofs.YtdggjpdhbailpaaDoorW.PrintWords Go.Proofs.YtdggjpdhbailpaaDoorW.PrintLast Go.Proofs.YtdggjpdhbailpaaDoorW.PrintMore Go.Proofs.YtdggjpdhbailpaaDoor.Td2

theorem cut0 (neg : Bool) (n : Nat) : Ieee.Toward.even.cut neg n 0 = n := by
  unfold Ieee.Toward.cut
  simp [Nat.mod_one]
theorem log_le {mag : Nat} (h0 : 0 < mag) (h1 : mag < 16777216) : mag.log2 ≤ 23 := by
  have := (Nat.log2_lt (by omega : mag ≠ 0)).2 (show mag < 2 ^ 24 by omega)
  omega
theorem kept_lo {mag : Nat} (h0 : 0 < mag) (h1 : mag < 16777216) : 4503599627370496 ≤ mag * 2 ^ (52 - mag.log2) := by
  have hk := log_le h0 h1
  have h := Nat.log2_self_le (by omega : mag ≠ 0)
  have e : 2 ^ mag.log2 * 2 ^ (52 - mag.log2) = 4503599627370496 := by rw [← Nat.pow_add, show mag.log2 + (52 - mag.log2) = 52 by omega]
  rw [← e]
  exact Nat.mul_le_mul_right _ h
theorem kept_hi {mag : Nat} (h0 : 0 < mag) (h1 : mag < 16777216) : mag * 2 ^ (52 - mag.log2) < 9007199254740992 := by
  have hk := log_le h0 h1
  have h := @Nat.lt_log2_self mag
  have e : 2 ^ (mag.log2 + 1) * 2 ^ (52 - mag.log2) = 9007199254740992 := by rw [← Nat.pow_add, show mag.log2 + 1 + (52 - mag.log2) = 53 by omega]
  rw [← e]
  exact Nat.mul_lt_mul_of_pos_right h (Nat.two_pow_pos _)

theorem near64 (neg : Bool) (mag : Nat) (place : Int) (h0 : 0 < mag) (h1 : mag < 16777216) (p0 : -149 ≤ place) (p1 : place ≤ 104) :
    Ieee.double.nearest neg mag place = Ieee.double.word neg ((place + mag.log2 + 1022).toNat * 4503599627370496 + mag * 2 ^ (52 - mag.log2)) := by
  have hk := log_le h0 h1
  have hl := kept_lo h0 h1
  have hh := kept_hi h0 h1
  unfold Ieee.Format.nearest
  rw [if_neg (by omega)]
  have e1 : Ieee.double.leastPlace = -1074 := by decide
  have e2 : ((Ieee.double.fractionBits : Nat) : Int) = 52 := rfl
  have e3 : Ieee.double.binade = 4503599627370496 := by decide
  have e4 : Ieee.double.infRung = 9218868437227405312 := by decide
  simp only [e1, e2, e3, e4]
  have m1 : max (place + (mag.log2 : Int) - 52) (-1074) = place + mag.log2 - 52 := by omega
  rw [m1]
  have m2 : (place - (place + (mag.log2 : Int) - 52)).toNat = 52 - mag.log2 := by omega
  have m3 : ((place + (mag.log2 : Int) - 52) - place).toNat = 0 := by omega
  rw [m2, m3, cut0, Nat.shiftLeft_eq]
  generalize mag * 2 ^ (52 - mag.log2) = q at *
  have m4 : (place + (mag.log2 : Int) - 52 - -1074).toNat = (place + (mag.log2 : Int) + 1022).toNat := by omega
  rw [m4, Nat.min_eq_left (by omega)]

theorem read64 (neg : Bool) (q kept : Nat) (hq : q ≤ 1200) (h0 : 4503599627370496 ≤ kept) (h1 : kept < 9007199254740992) :
    FloatKind.f64.decode (Ieee.double.word neg (q * 4503599627370496 + kept)) = .number neg kept (-1074 + (q : Int)) := by
  unfold FloatKind.decode FloatKind.format Ieee.Format.read Ieee.Format.word
  have e1 : Ieee.double.signWeight = 9223372036854775808 := by decide
  have e2 : Ieee.double.binade = 4503599627370496 := by decide
  have e3 : Ieee.double.infRung = 9218868437227405312 := by decide
  have e4 : Ieee.double.leastPlace = -1074 := by decide
  simp only [e1, e2, e3, e4]
  cases neg
  · simp only [if_false, Bool.false_eq_true]
    rw [if_neg (by omega), if_pos (by omega)]
    have a1 : ((q * 4503599627370496 + kept) / 9223372036854775808 % 2 == 1) = false := by rw [beq_eq_false_iff_ne]; omega
    have a2 : 4503599627370496 + (q * 4503599627370496 + kept) % 9223372036854775808 % 4503599627370496 = kept := by omega
    have a3 : ((q * 4503599627370496 + kept) % 9223372036854775808 / 4503599627370496 - 1 : Nat) = q := by omega
    rw [a1, a2, a3]
  · simp only [if_true]
    rw [if_neg (by omega), if_pos (by omega)]
    have a1 : ((9223372036854775808 + (q * 4503599627370496 + kept)) / 9223372036854775808 % 2 == 1) = true := by rw [beq_iff_eq]; omega
    have a2 : 4503599627370496 + (9223372036854775808 + (q * 4503599627370496 + kept)) % 9223372036854775808 % 4503599627370496 = kept := by omega
    have a3 : ((9223372036854775808 + (q * 4503599627370496 + kept)) % 9223372036854775808 / 4503599627370496 - 1 : Nat) = q := by omega
    rw [a1, a2, a3]

theorem cut_le (neg : Bool) (n drop : Nat) (h0 : 4503599627370496 ≤ n) (hn : n < 9007199254740992) (hd : 29 ≤ drop) : Ieee.Toward.even.cut neg n drop ≤ 16777216 := by
  have hlog : n.log2 = 52 := by
    have a := (Nat.log2_lt (by omega : n ≠ 0)).2 (show n < 2 ^ 53 by omega)
    have b := (Nat.le_log2 (by omega : n ≠ 0)).2 (show 2 ^ 52 ≤ n by omega)
    omega
  unfold Ieee.Toward.cut
  rw [hlog]
  have hg : 1 <<< min drop (52 + 2) = 2 ^ min drop 54 := by rw [Nat.shiftLeft_eq, Nat.one_mul]
  simp only [hg]
  have hm : 29 ≤ min drop 54 := by omega
  have h2 : 2 ^ 29 ≤ 2 ^ min drop 54 := Nat.pow_le_pow_right (by decide) hm
  have h3 : n / 2 ^ min drop 54 ≤ n / 2 ^ 29 := Nat.div_le_div_left h2 (by decide)
  have h4 : n / 2 ^ 29 < 16777216 := by omega
  have h5 : ∀ b : Bool, b.toNat ≤ 1 := fun b => by cases b <;> decide
  exact Nat.le_trans (Nat.add_le_add_left (h5 _) _) (by omega)
theorem cut_eq (neg : Bool) (mag : Nat) (h0 : 0 < mag) (h1 : mag < 16777216) (h2 : 8388608 ≤ mag) : Ieee.Toward.even.cut neg (mag * 2 ^ 29) 29 = mag := by
  have hlog : (mag * 2 ^ 29).log2 = 52 := by
    have a := (Nat.log2_lt (by omega : mag * 2 ^ 29 ≠ 0)).2 (show mag * 2 ^ 29 < 2 ^ 53 by omega)
    have b := (Nat.le_log2 (by omega : mag * 2 ^ 29 ≠ 0)).2 (show 2 ^ 52 ≤ mag * 2 ^ 29 by omega)
    omega
  unfold Ieee.Toward.cut
  rw [hlog]
  have hg : 1 <<< min 29 (52 + 2) = 2 ^ 29 := by decide
  simp only [hg]
  rw [Nat.mul_div_cancel _ (by decide : 0 < 2 ^ 29), Nat.mul_mod_left]
  simp

theorem near32 (neg : Bool) (mag : Nat) (place : Int) (h0 : 0 < mag) (h1 : mag < 16777216) (p0 : -149 ≤ place) (p1 : place ≤ 104) :
    ∃ rung, rung < 2139095040 ∧ Ieee.single.nearest neg (mag * 2 ^ (52 - mag.log2)) (place + mag.log2 - 52) = Ieee.single.word neg rung := by
  have hk := log_le h0 h1
  have hl := kept_lo h0 h1
  have hh := kept_hi h0 h1
  have hlog : (mag * 2 ^ (52 - mag.log2)).log2 = 52 := by
    generalize mag * 2 ^ (52 - mag.log2) = n at *
    have a := (Nat.log2_lt (by omega : n ≠ 0)).2 (show n < 2 ^ 53 by omega)
    have b := (Nat.le_log2 (by omega : n ≠ 0)).2 (show 2 ^ 52 ≤ n by omega)
    omega
  unfold Ieee.Format.nearest
  rw [if_neg (by omega), hlog]
  have e1 : Ieee.single.leastPlace = -149 := by decide
  have e2 : ((Ieee.single.fractionBits : Nat) : Int) = 23 := rfl
  have e3 : Ieee.single.binade = 8388608 := by decide
  have e4 : Ieee.single.infRung = 2139095040 := by decide
  simp only [e1, e2, e3, e4]
  by_cases hb : place + (mag.log2 : Int) ≤ 126
  · have m2 : (place + (mag.log2 : Int) - 52 - max (place + (mag.log2 : Int) - 52 + ((52 : Nat) : Int) - 23) (-149)).toNat = 0 := by omega
    rw [m2, Nat.shiftLeft_zero]
    have hc := cut_le neg _ (max (place + (mag.log2 : Int) - 52 + ((52 : Nat) : Int) - 23) (-149) - (place + (mag.log2 : Int) - 52)).toNat hl hh (by omega)
    refine ⟨_, ?_, rfl⟩
    refine Nat.lt_of_le_of_lt (Nat.min_le_left _ _) ?_
    generalize Ieee.Toward.even.cut neg _ _ = x at hc
    omega
  · have hp : place = 104 := by omega
    have hk23 : mag.log2 = 23 := by omega
    have h2 : 8388608 ≤ mag := by
      have := Nat.log2_self_le (by omega : mag ≠ 0)
      rw [hk23] at this
      omega
    rw [hp, hk23]
    have m1 : max ((104 : Int) + ((23 : Nat) : Int) - 52 + ((52 : Nat) : Int) - 23) (-149) = 104 := by omega
    rw [m1]
    have m2 : ((104 : Int) + ((23 : Nat) : Int) - 52 - 104).toNat = 0 := by decide
    have m3 : ((104 : Int) - (104 + ((23 : Nat) : Int) - 52)).toNat = 29 := by decide
    have m4 : ((104 : Int) - -149).toNat = 253 := by decide
    rw [m2, m3, m4, Nat.shiftLeft_zero, show 52 - 23 = 29 from rfl, cut_eq neg mag h0 h1 h2]
    exact ⟨_, Nat.lt_of_le_of_lt (Nat.min_le_left _ _) (by omega), rfl⟩
theorem fin32 (neg : Bool) (rung : Nat) (h : rung < 2139095040) : (FloatKind.f32.decode (Ieee.single.word neg rung)).isInfinity = false := by
  unfold FloatKind.decode FloatKind.format Ieee.Format.read Ieee.Format.word
  have e1 : Ieee.single.signWeight = 2147483648 := by decide
  have e2 : Ieee.single.binade = 8388608 := by decide
  have e3 : Ieee.single.infRung = 2139095040 := by decide
  simp only [e1, e2, e3]
  have hw : (if neg then 2147483648 + rung else rung) % 2147483648 = rung := by cases neg <;> simp <;> omega
  rw [hw]
  by_cases hb : rung < 8388608
  · rw [if_pos hb]; rfl
  · rw [if_neg hb, if_pos h]; rfl

/-- A number of 32 bits, as 64, is turned back without an overflow. -/
theorem num (g : Bool) (m : Nat) (e : Int) (h1 : m < 16777216) (p0 : -149 ≤ e) (p1 : e ≤ 104) :
    ∃ g2 m2 e2, FloatKind.f64.decode (FloatKind.f64.encode (.number g m e)) = .number g2 m2 e2 ∧ (FloatKind.f32.decode (FloatKind.f32.encode (.number g2 m2 e2))).isInfinity = false := by
  by_cases h0 : m = 0
  · subst h0
    have hz : FloatKind.f64.encode (.number g 0 e) = Ieee.double.word g 0 := rfl
    have hr : FloatKind.f64.decode (Ieee.double.word g 0) = .number g 0 (-1074) := by cases g <;> decide +kernel
    exact ⟨g, 0, -1074, by rw [hz, hr], by cases g <;> decide +kernel⟩
  · have hk := log_le (by omega : 0 < m) h1
    have hn : FloatKind.f64.encode (.number g m e) = Ieee.double.nearest g m e := rfl
    rw [hn, near64 g m e (by omega) h1 p0 p1, read64 g _ _ (by omega) (kept_lo (by omega) h1) (kept_hi (by omega) h1)]
    refine ⟨_, _, _, rfl, ?_⟩
    have he : (-1074 : Int) + (((e + (m.log2 : Int) + 1022).toNat : Nat) : Int) = e + m.log2 - 52 := by omega
    rw [he]
    obtain ⟨rung, hr, hq⟩ := near32 g m e (by omega) h1 p0 p1
    have hn2 : FloatKind.f32.encode (.number g (m * 2 ^ (52 - m.log2)) (e + m.log2 - 52)) = Ieee.single.nearest g (m * 2 ^ (52 - m.log2)) (e + m.log2 - 52) := rfl
    rw [hn2, hq]
    exact fin32 g rung hr

theorem dec32 (r : Nat) {g : Bool} {m : Nat} {e : Int} (h : FloatKind.f32.decode r = .number g m e) : m < 16777216 ∧ -149 ≤ e ∧ e ≤ 104 := by
  unfold FloatKind.decode FloatKind.format Ieee.Format.read at h
  have e1 : Ieee.single.signWeight = 2147483648 := by decide
  have e2 : Ieee.single.binade = 8388608 := by decide
  have e3 : Ieee.single.infRung = 2139095040 := by decide
  have e4 : Ieee.single.leastPlace = -149 := by decide
  simp only [e1, e2, e3, e4] at h
  by_cases c1 : r % 2147483648 < 8388608
  · rw [if_pos c1] at h
    injection h with _ h2 h3
    omega
  · rw [if_neg c1] at h
    by_cases c2 : r % 2147483648 < 2139095040
    · rw [if_pos c2] at h
      injection h with _ h2 h3
      omega
    · rw [if_neg c2] at h
      by_cases c3 : r % 2147483648 = 2139095040
      · rw [if_pos c3] at h; cases h
      · rw [if_neg c3] at h; cases h

theorem cv_num (W : World) {s k : FloatKind} {b : Nat} {g : Bool} {m : Nat} {e : Int} (h : s.decode b = .number g m e) (hf : (k.decode (k.encode (.number g m e))).isInfinity = false) : Fl.cvN W s b k = k.encode (.number g m e) := by
  unfold Fl.cvN
  rw [h]
  show (if (k.decode (k.encode (.number g m e))).isInfinity = true then _ else _) = _
  rw [if_neg (by rw [hf]; decide)]
theorem cv_infn (W : World) {s k : FloatKind} {b : Nat} {g : Bool} (h : s.decode b = .infinity g) : Fl.cvN W s b k = k.encode (.infinity g) := by
  unfold Fl.cvN
  rw [h]
theorem cv_nann (W : World) {b a2 : Nat} {a : Bool} (h : FloatKind.f32.decode b = .nan a a2) : 9218868437227405312 < Fl.cvN W .f32 b .f64 % 9223372036854775808 := by
  unfold Fl.cvN
  rw [h]
  exact (Fl.cut64 _ b _ rfl).1
theorem word_inf (g : Bool) : wordB (FloatKind.f64.encode (.infinity g)) = true := by
  cases g
  · have e : FloatKind.f64.encode (.infinity false) = 9218868437227405312 := by decide +kernel
    rw [e]
    unfold wordB
    rw [Fl.gt_inf]
    simp
  · have e : FloatKind.f64.encode (.infinity true) = 18442240474082181120 := by decide +kernel
    rw [e]
    unfold wordB
    rw [Fl.neg_ninf, Fl.gt_inf]
    simp

theorem fix (W : World) (r : Nat) (h : wordB (Fl.cvN W .f32 r .f64) = false) : Fix (Fl.cvN W .f32 r .f64) := by
  cases hd : FloatKind.f32.decode r with
  | nan a b =>
    have hn := cv_nann W hd
    generalize Fl.cvN W .f32 r .f64 = x at *
    unfold wordB at h
    rw [Fl.nanB_nan _ hn] at h
    simp at h
  | infinity g =>
    rw [cv_infn W hd, word_inf] at h
    cases h
  | number g m e =>
    obtain ⟨h1, p0, p1⟩ := dec32 r hd
    obtain ⟨g2, m2, e2, q1, q2⟩ := num g m e h1 p0 p1
    have hf : (FloatKind.f64.decode (FloatKind.f64.encode (.number g m e))).isInfinity = false := by rw [q1]; rfl
    rw [cv_num W hd hf]
    generalize FloatKind.f64.encode (.number g m e) = x at q1
    exact ⟨FloatKind.f32.encode (.number g2 m2 e2), fun W2 => cv_num W2 q1 q2⟩

end Go.Proofs.YtdggjpdhbailpaaDoor.Fx
