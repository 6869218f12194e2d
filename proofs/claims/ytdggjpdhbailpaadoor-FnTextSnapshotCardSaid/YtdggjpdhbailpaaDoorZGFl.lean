/- Floats: conversions between the two sizes, infinities and what is no number (as in seat ZD, Dt7). No conditions beyond each theorem's own. -/
import Derived.Test.YtdggjpdhbailpaaDoorZWords
import Derived.Laws.FloatArith
import Derived.Laws.BitsAllLaws
namespace Go.Proofs.YtdggjpdhbailpaaDoor.Fl
open Go.RowKit Go.Proofs.YtdggjpdhbailpaaDoorW.PrintWords Go.Proofs.YtdggjpdhbailpaaDoorW.PrintLast Go.Proofs.YtdggjpdhbailpaaDoorW.PrintMore


theorem mod63 (F : Int) (h0 : 0 ≤ F) (h1 : F < 18446744073709551616) : Go.bits .andNot .u64 F 9223372036854775808 = F % 9223372036854775808 := by
  rw [u64_andNot F 9223372036854775808 h0 h1 (by decide) (by decide)]
  have e : (18446744073709551615 - (9223372036854775808 : Int).toNat : Nat) = 2 ^ 63 - 1 := by decide
  rw [e, Nat.and_two_pow_sub_one_eq_mod]
  omega

theorem dec_nan (n : Nat) (h : 9218868437227405312 < n % 9223372036854775808) : (FloatKind.f64.decode n).isNaN = true := by
  unfold FloatKind.decode FloatKind.format Ieee.Format.read
  have e1 : Ieee.double.signWeight = 9223372036854775808 := by decide
  have e2 : Ieee.double.binade = 4503599627370496 := by decide
  have e3 : Ieee.double.infRung = 9218868437227405312 := by decide
  simp only [e1, e2, e3]
  rw [if_neg (by omega), if_neg (by omega), if_neg (by omega)]
  rfl
theorem dec_nan32 (n : Nat) (h : 2139095040 < n % 2147483648) : (FloatKind.f32.decode n).isNaN = true := by
  unfold FloatKind.decode FloatKind.format Ieee.Format.read
  have e1 : Ieee.single.signWeight = 2147483648 := by decide
  have e2 : Ieee.single.binade = 8388608 := by decide
  have e3 : Ieee.single.infRung = 2139095040 := by decide
  simp only [e1, e2, e3]
  rw [if_neg (by omega), if_neg (by omega), if_neg (by omega)]
  rfl

/-- What a float is made by a conversion, and the world behind it. -/
def cvN (W : World) (s : FloatKind) (b : Nat) (k : FloatKind) : Nat :=
  match s.decode b with
  | .nan _ _ => (Question.nanConv k b).cut (W.tape W.drawn (.nanConv k b))
  | .infinity g => k.encode (.infinity g)
  | .number g m e => if (k.decode (k.encode (.number g m e))).isInfinity then (Question.floatToFloat b).cut (W.tape W.drawn (.floatToFloat b)) else k.encode (.number g m e)
def cvW (W : World) (s : FloatKind) (b : Nat) (k : FloatKind) : World :=
  match s.decode b with
  | .nan _ _ => W.drew
  | .infinity _ => W
  | .number g m e => if (k.decode (k.encode (.number g m e))).isInfinity then W.drew else W

theorem run_cv (P : Program) (src dst : TypeId) (s k : FloatKind) (b : Nat) (hs : (P.underlying src).isSome = true) (hd : P.underlying dst = some (.float k)) (hne : s ≠ k) (W : World) :
    (convert src dst (.float s b)).run P W = .ok (.float k (cvN W s b k)) (cvW W s b k) := by
  obtain ⟨u, hs'⟩ := Option.isSome_iff_exists.1 hs
  have key : (Conv.floatToFloat s b k).run P W = .ok (.float k (cvN W s b k)) (cvW W s b k) := by
    unfold cvN cvW
    split
    · rename_i h; simp [Conv.floatToFloat, hne, h, Question.forced]
    · rename_i h; simp [Conv.floatToFloat, hne, h]
    · rename_i h
      split
      · rename_i h2; simp [Conv.floatToFloat, hne, h, h2, Question.forced]
      · rename_i h2; simp [Conv.floatToFloat, hne, h, h2]
  cases u <;> simp [convert, run_underlying hs', run_underlying hd, key]

theorem cvW_below {B : Nat} {w W : World} (h : Below B w W) (s : FloatKind) (b : Nat) (k : FloatKind) : Below B w (cvW W s b k) := by
  unfold cvW
  split
  · exact h.drew
  · exact h
  · split
    · exact h.drew
    · exact h
theorem cvW_heap (W : World) (s : FloatKind) (b : Nat) (k : FloatKind) : (cvW W s b k).heap = W.heap := by
  unfold cvW
  split
  · rfl
  · rfl
  · split <;> rfl

theorem cut64 (q : Question) (b : Nat) (t : Nat) (hq : q = .nanConv .f64 b) : 9218868437227405312 < q.cut t % 9223372036854775808 ∧ q.cut t < 18446744073709551616 := by
  subst hq
  simp only [Question.cut]
  have hc : t / 2 % (2 ^ 52 - 1) < 2 ^ 52 - 1 := Nat.mod_lt _ (by decide)
  generalize t / 2 % (2 ^ 52 - 1) = c at hc
  rcases (by omega : t % 2 = 0 ∨ t % 2 = 1) with h | h <;> rw [h] <;> omega
theorem cut32 (q : Question) (b : Nat) (t : Nat) (hq : q = .nanConv .f32 b) : 2139095040 < q.cut t % 2147483648 := by
  subst hq
  simp only [Question.cut]
  have hc : t / 2 % (2 ^ 23 - 1) < 2 ^ 23 - 1 := Nat.mod_lt _ (by decide)
  generalize t / 2 % (2 ^ 23 - 1) = c at hc
  rcases (by omega : t % 2 = 0 ∨ t % 2 = 1) with h | h <;> rw [h] <;> omega

theorem cv64_lt (W : World) (b : Nat) : cvN W .f32 b .f64 < 18446744073709551616 := by
  unfold cvN
  split
  · exact (cut64 _ b _ rfl).2
  · exact FloatKind.f64.format.write_lt _
  · split
    · simp only [Question.cut]
      omega
    · exact FloatKind.f64.format.write_lt _
/-- What is no number stays none. -/
theorem cv_nan (W W2 : World) (b : Nat) (h : 9218868437227405312 < b % 9223372036854775808) :
    9218868437227405312 < cvN W2 .f32 (cvN W .f64 b .f32) .f64 % 9223372036854775808 := by
  have h1 := dec_nan b h
  have h2 : 2139095040 < cvN W .f64 b .f32 % 2147483648 := by
    unfold cvN
    split
    · exact cut32 _ b _ rfl
    · rename_i e; rw [e] at h1; cases h1
    · rename_i e; rw [e] at h1; cases h1
  have h3 := dec_nan32 _ h2
  generalize cvN W .f64 b .f32 = r at h3
  unfold cvN
  split
  · exact (cut64 _ r _ rfl).1
  · rename_i e; rw [e] at h3; cases h3
  · rename_i e; rw [e] at h3; cases h3

theorem cv_inf (W W2 : World) : cvN W2 .f32 (cvN W .f64 9218868437227405312 .f32) .f64 = 9218868437227405312 := by
  have e : cvN W .f64 9218868437227405312 .f32 = 2139095040 := by
    unfold cvN
    have : FloatKind.f64.decode 9218868437227405312 = .infinity false := by decide +kernel
    rw [this]
    show FloatKind.f32.encode (.infinity false) = _
    decide +kernel
  rw [e]
  unfold cvN
  have : FloatKind.f32.decode 2139095040 = .infinity false := by decide +kernel
  rw [this]
  show FloatKind.f64.encode (.infinity false) = _
  decide +kernel
theorem cv_ninf (W W2 : World) : cvN W2 .f32 (cvN W .f64 18442240474082181120 .f32) .f64 = 18442240474082181120 := by
  have e : cvN W .f64 18442240474082181120 .f32 = 4286578688 := by
    unfold cvN
    have : FloatKind.f64.decode 18442240474082181120 = .infinity true := by decide +kernel
    rw [this]
    show FloatKind.f32.encode (.infinity true) = _
    decide +kernel
  rw [e]
  unfold cvN
  have : FloatKind.f32.decode 4286578688 = .infinity true := by decide +kernel
  rw [this]
  show FloatKind.f64.encode (.infinity true) = _
  decide +kernel

def gtM (b : Nat) : Bool := FloatKind.f64.format.order b 9218868437227405311 == some Ordering.gt
theorem isinf_p (b : Nat) (w : World) : Calls Tryd.prog 37 #[.float .f64 b, .int .i64 1] w fun e w' => e = .returned (.bool (gtM b)) ∧ w = w' := by
  go_enter Tryd.func37, Tryd.ntmps37
  go_wp2
  go_ret
  exact ⟨rfl, rfl⟩
theorem isinf_m (b : Nat) (w : World) : Calls Tryd.prog 37 #[.float .f64 b, .int .i64 (-1)] w fun e w' => e = .returned (.bool (gtM (Op.negFloat .f64 b))) ∧ w = w' := by
  have hneg : ∀ W : World, (Op.unary .neg (.float .f64 b)).run Tryd.prog W = .ok (.float .f64 (Op.negFloat .f64 b)) W := fun _ => rfl
  go_enter Tryd.func37, Tryd.ntmps37
  go_wp2
  go_ret
  exact ⟨rfl, rfl⟩
def nanB (b : Nat) : Bool := FloatKind.f64.format.order b b != some Ordering.eq
theorem isnan (b : Nat) (w : World) : Calls Tryd.prog 38 #[.float .f64 b] w fun e w' => e = .returned (.bool (nanB b)) ∧ w = w' := by
  go_enter Tryd.func38, Tryd.ntmps38
  go_wp2
  go_ret
  exact ⟨rfl, rfl⟩

theorem gt_inf : gtM 9218868437227405312 = true := by decide +kernel
theorem gt_ninf : gtM 18442240474082181120 = false := by decide +kernel
theorem neg_inf : Op.negFloat .f64 9218868437227405312 = 18442240474082181120 := by decide +kernel
theorem neg_ninf : Op.negFloat .f64 18442240474082181120 = 9218868437227405312 := by decide +kernel
theorem gt_nan (b : Nat) (h : 9218868437227405312 < b % 9223372036854775808) : gtM b = false := by
  have h1 := dec_nan b h
  unfold gtM Ieee.Format.order
  have e : FloatKind.f64.format.read b = FloatKind.f64.decode b := rfl
  rw [e]
  generalize FloatKind.f64.decode b = d at h1
  cases d <;> simp_all [Ieee.Datum.isNaN, Ieee.Datum.order]
theorem nanB_nan (b : Nat) (h : 9218868437227405312 < b % 9223372036854775808) : nanB b = true := by
  have h1 := dec_nan b h
  unfold nanB Ieee.Format.order
  have e : FloatKind.f64.format.read b = FloatKind.f64.decode b := rfl
  rw [e]
  generalize FloatKind.f64.decode b = d at h1
  cases d <;> simp_all [Ieee.Datum.isNaN, Ieee.Datum.order]
theorem neg_nan (b : Nat) (h : 9218868437227405312 < b % 9223372036854775808) : 9218868437227405312 < Op.negFloat .f64 b % 9223372036854775808 := by
  have e : Op.negFloat .f64 b = b ^^^ 2 ^ 63 := rfl
  rw [e, show (9223372036854775808 : Nat) = 2 ^ 63 from rfl, Nat.xor_mod_two_pow, Nat.mod_self, Nat.xor_zero]
  exact h

end Go.Proofs.YtdggjpdhbailpaaDoor.Fl
