/- ftoa64 and ftoa32 with 'g' and -1: whatever the float, bytes of ASCII are appended, the same ones whatever stands ahead. Conditions: the tables pow10Tab and uint64pow10 read as laid; the row that is appended to is the call's own. -/
import Derived.Test.YtdggjpdhbailpaaDoorZGFt2
namespace Go.Proofs.YtdggjpdhbailpaaDoor.Ft3
open Go.RowKit Go.Proofs.YtdggjpdhbailpaaDoorW.PrintWords Go.Proofs.YtdggjpdhbailpaaDoorW.PrintLast Go.Proofs.YtdggjpdhbailpaaDoorW.PrintMore Go.Proofs.YtdggjpdhbailpaaDoor.Sf1 Go.Proofs.YtdggjpdhbailpaaDoor.Sf2 Go.Proofs.YtdggjpdhbailpaaDoor.Sf3 Go.Proofs.YtdggjpdhbailpaaDoor.Sd1 Go.Proofs.YtdggjpdhbailpaaDoor.Efp Go.Proofs.YtdggjpdhbailpaaDoor.Ft0 Go.Proofs.YtdggjpdhbailpaaDoor.Ft1 Go.Proofs.YtdggjpdhbailpaaDoor.Ft2
set_option linter.unusedSectionVars false
set_option linter.unusedVariables false

theorem i64_mask (k : Nat) (m : Int) (hm : (BitVec.ofInt 64 m).toNat = 2 ^ k - 1) (x : Int) : Go.bits .and .i64 x m = IntKind.i64.wrap (((x % ((2 ^ 64 : Nat) : Int)).toNat % 2 ^ k : Nat) : Int) := by
  have key : (BitVec.ofInt 64 x &&& BitVec.ofInt 64 m).toNat = (x % ((2 ^ 64 : Nat) : Int)).toNat % 2 ^ k := by
    rw [BitVec.toNat_and, BitVec.toNat_ofInt, hm, Nat.and_two_pow_sub_one_eq_mod]
  have e : Go.bits .and .i64 x m = IntKind.i64.wrap ((BitVec.ofInt 64 x &&& BitVec.ofInt 64 m).toNat : Nat) := rfl
  rw [e, key]
theorem ex64 (n : Nat) (hn : n < 18446744073709551616) : Go.bits .and .i64 (wrap64 ((n : Int) / 4503599627370496)) 2047 = (n : Int) / 4503599627370496 % 2048 := by
  rw [i64_mask 11 2047 (by decide), IntKind.wrap_i64]
  unfold wrap64
  omega
theorem ex32 (n : Nat) (hn : n < 4294967296) : Go.bits .and .i64 (wrap64 ((n : Int) / 8388608)) 255 = (n : Int) / 8388608 % 256 := by
  rw [i64_mask 8 255 (by decide), IntKind.wrap_i64]
  unfold wrap64
  omega
theorem mt64 (n : Nat) (hn : n < 18446744073709551616) : Go.bits .and .u64 (n : Int) 4503599627370495 = ((n % 4503599627370496 : Nat) : Int) := by
  rw [u64_and _ _ (by omega) (by omega) (by decide) (by decide)]
  have e : ((4503599627370495 : Int).toNat : Nat) = 2 ^ 52 - 1 := by decide
  rw [e, Nat.and_two_pow_sub_one_eq_mod]
  simp
theorem mt32 (n : Nat) (hn : n < 18446744073709551616) : Go.bits .and .u64 (n : Int) 8388607 = ((n % 8388608 : Nat) : Int) := by
  rw [u64_and _ _ (by omega) (by omega) (by decide) (by decide)]
  have e : ((8388607 : Int).toNat : Nat) = 2 ^ 23 - 1 := by decide
  rw [e, Nat.and_two_pow_sub_one_eq_mod]
  simp
theorem or64 (m : Nat) (hm : m < 4503599627370496) : Go.bits .or .u64 (m : Int) 4503599627370496 = ((m + 4503599627370496 : Nat) : Int) := by
  rw [u64_or _ _ (by omega) (by omega) (by decide) (by decide)]
  have h := Nat.two_pow_add_eq_or_of_lt (i := 52) (b := m) hm 1
  have e : ((4503599627370496 : Int).toNat : Nat) = 2 ^ 52 * 1 := by decide
  rw [e, Nat.or_comm, Int.toNat_natCast, ← h]
  omega
theorem or32 (m : Nat) (hm : m < 8388608) : Go.bits .or .u64 (m : Int) 8388608 = ((m + 8388608 : Nat) : Int) := by
  rw [u64_or _ _ (by omega) (by omega) (by decide) (by decide)]
  have h := Nat.two_pow_add_eq_or_of_lt (i := 23) (b := m) hm 1
  have e : ((8388608 : Int).toNat : Nat) = 2 ^ 23 * 1 := by decide
  rw [e, Nat.or_comm, Int.toNat_natCast, ← h]
  omega

/-- What a call appends, whatever stands ahead. -/
def Adds (f : Nat) (x : Value) : Prop := ∃ r : List Int, (∀ c ∈ r, 0 ≤ c ∧ c < 128) ∧ r.length ≤ 4600 ∧ ∀ (γ_ : Gho) (P0 : Nat → Prop) (v : Value) (l : List Int) (w0 w : World), l.length + 4600 < 140737488355328 → Below w0.heap.size w0 w → Kd.G (Kd.int .u8) 5 w w0.heap.size P0 v l → (∀ k, P0 k → k < w.heap.size) → Sf2.Pow w → Ft1.Tab w →
  Calls Tryd.prog f #[v, x, .int .u8 103, .int .i64 (-1)] w fun e w' => ∃ v', e = .returned v' ∧ Kd.G (Kd.int .u8) 5 w' w0.heap.size (fun k => P0 k ∨ w.heap.size ≤ k) v' (l ++ r) ∧ Below w0.heap.size w0 w' ∧ Kept w w' P0

theorem digits (d : Nat) (p : Int) (neg : Bool) (d1 : d < 18446744073709551616) (p0 : -400 ≤ p) (p1 : p ≤ 400) :
    Ap (fun k x => Efgd.strconv_fmtEFG.f k x neg (bufOf d) (Lib.nDigits d + p) (strip d (Lib.nDigits d)) (strip d (Lib.nDigits d)) 103 true) 4600 4600 := by
  have h20 := Lib.nDigits_le20 d d1
  have hs := strip_le d (Lib.nDigits d)
  have hl : (bufOf d).length = 32 := by simp [bufOf]
  exact efg (bufOf d) (buf_range d) (by omega) neg _ _ _ (by omega) (by omega) (by omega) (by omega) (by omega) (by omega)
theorem zeros (neg : Bool) : Ap (fun k x => Efgd.strconv_fmtEFG.f k x neg [] 0 0 (-1) 103 true) 4600 4600 :=
  efg [] (by simp) (by simp) neg 0 0 (-1) (by decide) (by decide) (by decide) (by decide) (by decide) (by decide)

theorem ft64 (n : Nat) (hn : n < 18446744073709551616) : Adds 87 (.float .f64 n) := by
  have hex := ex64 n hn
  have hmt := mt64 n hn
  obtain ⟨neg, hneg⟩ : ∃ b, ((n : Int) / 9223372036854775808 != 0) = b := ⟨_, rfl⟩
  by_cases c1 : (n : Int) / 4503599627370496 % 2048 = 2047
  · refine ⟨bytesOf (if ((n % 4503599627370496 : Nat) : Int) = 0 then (if neg = true then ⟨#[45, 73, 110, 102]⟩ else ⟨#[43, 73, 110, 102]⟩) else ⟨#[78, 97, 78]⟩), ?_, ?_, fun γ_ P0 v l w0 w hl hB hR _ _ _ => spec64 n neg _ hneg (hex.trans c1) hmt P0 v l (by omega) w0 w hB hR⟩
    · split
      · split <;> decide
      · decide
    · split
      · split <;> decide
      · decide
  by_cases c2 : (n : Int) / 4503599627370496 % 2048 = 0
  · by_cases c3 : n % 4503599627370496 = 0
    · obtain ⟨r, r1, r2, r3⟩ := zeros neg
      exact ⟨r, r1, r2, fun γ_ P0 v l w0 w hl hB hR _ _ _ => zero64 n neg r 4600 hneg (hex.trans c2) (by rw [hmt, c3]; rfl) P0 v l (r3 4600 l (Nat.le_refl _) hl) w0 w hB hR⟩
    · obtain ⟨s, hs, s0, s1, hm, d, p, d0, d1, p0, p1, hsf⟩ := short64 (n % 4503599627370496) (-1022) (by omega) (by omega) (by omega) (by omega) (.inr rfl)
      obtain ⟨u, rfl⟩ := Int.eq_ofNat_of_zero_le (show 0 ≤ d by omega)
      obtain ⟨r, r1, r2, r3⟩ := digits u p neg (by omega) p0 p1
      exact ⟨r, r1, r2, fun γ_ P0 v l w0 w hl hB hR hP hT hT2 => sub64 n (n % 4503599627370496) s u p neg r 4600 hneg (hex.trans c2) hmt (by omega) (by omega) hs s0 s1 hm (by omega) (by omega) p0 p1 hsf P0 v l (r3 4600 l (Nat.le_refl _) hl) w0 w hB hR hP hT hT2⟩
  · obtain ⟨s, hs, s0, s1, hm, d, p, d0, d1, p0, p1, hsf⟩ := short64 (n % 4503599627370496 + 4503599627370496) ((n : Int) / 4503599627370496 % 2048 + -1023) (by omega) (by omega) (by omega) (by omega) (.inl (by omega))
    obtain ⟨u, rfl⟩ := Int.eq_ofNat_of_zero_le (show 0 ≤ d by omega)
    obtain ⟨r, r1, r2, r3⟩ := digits u p neg (by omega) p0 p1
    exact ⟨r, r1, r2, fun γ_ P0 v l w0 w hl hB hR hP hT hT2 => norm64 (n % 4503599627370496 + 4503599627370496) _ _ _ rfl (by omega) (by omega) (or64 _ (by omega)) n s u p neg r 4600 hneg hex hmt (by omega) (by omega) hs s0 s1 hm (by omega) (by omega) p0 p1 hsf P0 v l (r3 4600 l (Nat.le_refl _) hl) w0 w hB hR hP hT hT2⟩

theorem ft32 (n : Nat) (hn : n < 4294967296) : Adds 86 (.float .f32 n) := by
  have hex := ex32 n hn
  have hmt := mt32 n (by omega)
  obtain ⟨neg, hneg⟩ : ∃ b, ((n : Int) / 2147483648 != 0) = b := ⟨_, rfl⟩
  by_cases c1 : (n : Int) / 8388608 % 256 = 255
  · refine ⟨bytesOf (if ((n % 8388608 : Nat) : Int) = 0 then (if neg = true then ⟨#[45, 73, 110, 102]⟩ else ⟨#[43, 73, 110, 102]⟩) else ⟨#[78, 97, 78]⟩), ?_, ?_, fun γ_ P0 v l w0 w hl hB hR _ _ _ => spec32 n hn neg _ hneg (hex.trans c1) hmt P0 v l (by omega) w0 w hB hR⟩
    · split
      · split <;> decide
      · decide
    · split
      · split <;> decide
      · decide
  by_cases c2 : (n : Int) / 8388608 % 256 = 0
  · by_cases c3 : n % 8388608 = 0
    · obtain ⟨r, r1, r2, r3⟩ := zeros neg
      exact ⟨r, r1, r2, fun γ_ P0 v l w0 w hl hB hR _ _ _ => zero32 n hn neg r 4600 hneg (hex.trans c2) (by rw [hmt, c3]; rfl) P0 v l (r3 4600 l (Nat.le_refl _) hl) w0 w hB hR⟩
    · obtain ⟨s, hs, s0, s1, hm, d, p, d0, d1, p0, p1, hsf⟩ := short32 (n % 8388608) (-126) (by omega) (by omega) (by omega) (by omega) (.inr rfl)
      obtain ⟨u, rfl⟩ := Int.eq_ofNat_of_zero_le (show 0 ≤ d by omega)
      obtain ⟨r, r1, r2, r3⟩ := digits u p neg (by omega) p0 p1
      exact ⟨r, r1, r2, fun γ_ P0 v l w0 w hl hB hR hP hT hT2 => sub32 n (n % 8388608) s hn u p neg r 4600 hneg (hex.trans c2) hmt (by omega) (by omega) hs s0 s1 hm (by omega) (by omega) p0 p1 hsf P0 v l (r3 4600 l (Nat.le_refl _) hl) w0 w hB hR hP hT hT2⟩
  · obtain ⟨s, hs, s0, s1, hm, d, p, d0, d1, p0, p1, hsf⟩ := short32 (n % 8388608 + 8388608) ((n : Int) / 8388608 % 256 + -127) (by omega) (by omega) (by omega) (by omega) (.inl (by omega))
    obtain ⟨u, rfl⟩ := Int.eq_ofNat_of_zero_le (show 0 ≤ d by omega)
    obtain ⟨r, r1, r2, r3⟩ := digits u p neg (by omega) p0 p1
    exact ⟨r, r1, r2, fun γ_ P0 v l w0 w hl hB hR hP hT hT2 => norm32 (n % 8388608 + 8388608) _ _ _ rfl (by omega) (by omega) (or32 _ (by omega)) n s hn u p neg r 4600 hneg hex hmt (by omega) (by omega) hs s0 s1 hm (by omega) (by omega) p0 p1 hsf P0 v l (r3 4600 l (Nat.le_refl _) hl) w0 w hB hR hP hT hT2⟩

end Go.Proofs.YtdggjpdhbailpaaDoor.Ft3
