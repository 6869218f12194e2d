/- The walks of shortFloat: digits from 1 on, and a power of ten within 400, the same ones in whatever world. Condition: the table pow10Tab reads as laid. -/
import Derived.Test.YtdggjpdhbailpaaDoorZSf2
namespace Go.Proofs.YtdggjpdhbailpaaDoor.Sf3
open Go.RowKit Go.Proofs.YtdggjpdhbailpaaDoorW.PrintWords Go.Proofs.YtdggjpdhbailpaaDoorW.PrintLast Go.Proofs.YtdggjpdhbailpaaDoorW.PrintMore Go.Proofs.YtdggjpdhbailpaaDoor.Lf Go.Proofs.YtdggjpdhbailpaaDoor.PFnTextAscii Go.Proofs.YtdggjpdhbailpaaDoor.Sf1 Go.Proofs.YtdggjpdhbailpaaDoor.Sf2

theorem nud (u o r : Int) (hr : IntKind.u64.wrap (u + IntKind.u64.wrap o) = r) (w : World) : Calls Tryd.prog 122 #[.int .u64 u, .int .i64 o] w fun e w' => e = .returned (.int .u64 r) ∧ w = w' := by
  subst hr
  go_enter Tryd.func122, Tryd.ntmps122
  go_wp2
  go_ret
  simp
theorem cei (u : Int) (h0 : 0 ≤ u) (h1 : u ≤ 9000000000000000000) (w : World) : Calls Tryd.prog 123 #[.int .u64 u] w fun e w' => e = .returned (.int .u64 ((u + 3) / 4)) ∧ w = w' := by
  have hs : IntKind.u64.wrap (u + 3) = u + 3 := uw _ (by omega) (by omega)
  go_enter Tryd.func123, Tryd.ntmps123
  go_wp2
  go_ret
  simp
theorem flo (u : Int) (h0 : 0 ≤ u) (h1 : u ≤ 9000000000000000000) (w : World) : Calls Tryd.prog 124 #[.int .u64 u] w fun e w' => e = .returned (.int .u64 (u / 4)) ∧ w = w' := by
  have hs : IntKind.u64.wrap (u + 0) = u := by rw [Int.add_zero]; exact uw _ (by omega) (by omega)
  have hs2 : IntKind.u64.wrap u = u := uw _ (by omega) (by omega)
  go_enter Tryd.func124, Tryd.ntmps124
  go_wp2
  go_ret
  simp
theorem rou (u : Int) (h0 : 0 ≤ u) (h1 : u ≤ 9000000000000000000) (w : World) : Calls Tryd.prog 125 #[.int .u64 u] w fun e w' => e = .returned (.int .u64 ((u + 1 + u / 4 % 2) / 4)) ∧ w = w' := by
  have hs : IntKind.u64.wrap (u + 1) = u + 1 := uw _ (by omega) (by omega)
  have ha : Go.bits .and .u64 (u / 4) 1 = u / 4 % 2 := and1 _ (by omega) (by omega)
  have hs2 : IntKind.u64.wrap (u + 1 + u / 4 % 2) = u + 1 + u / 4 % 2 := uw _ (by omega) (by omega)
  go_enter Tryd.func125, Tryd.ntmps125
  go_wp2
  go_ret
  simp

/-- What the last lines of shortFloat do with the three scaled numbers. -/
theorem pick (umin umax um odd : Int) (a0 : 1 ≤ umin) (a1 : umin ≤ 4611686018427387905) (b0 : 1 ≤ umax) (b1 : umax ≤ 4611686018427387905) (c0 : 3 ≤ um) (c1 : um ≤ 4611686018427387905) (o : odd = 0 ∨ odd = 1) :
    ∃ dmin dmax dm : Int, dmin = (umin + odd + 3) / 4 ∧ dmax = (umax - odd) / 4 ∧ dm = (um + 1 + um / 4 % 2) / 4 ∧ 1 ≤ dmin ∧ 0 ≤ dmax ∧ 1 ≤ dm ∧ dmin ≤ 2000000000000000000 ∧ dmax ≤ 2000000000000000000 ∧ dm ≤ 2000000000000000000 :=
  ⟨_, _, _, rfl, rfl, rfl, by omega, by omega, by omega, by omega, by omega, by omega⟩

def ShortOk (fn : Nat) (m e : Int) : Prop := ∃ d p : Int, 1 ≤ d ∧ d < 18446744073709551616 ∧ -400 ≤ p ∧ p ≤ 400 ∧ ∀ w, Pow w → Calls Tryd.prog fn #[.int .u64 m, .int .i64 e] w fun en w' => en = .returned (.tuple #[.int .u64 d, .int .i64 p]) ∧ Below w.heap.size w w'

theorem and1i (x : Int) : Go.bits .and .i64 x 1 = 0 ∨ Go.bits .and .i64 x 1 = 1 := by
  have h1 : (BitVec.ofInt 64 1).toNat = 2 ^ 1 - 1 := by decide
  have key : (BitVec.ofInt 64 x &&& BitVec.ofInt 64 1).toNat = (x % ((2 ^ 64 : Nat) : Int)).toNat % 2 ^ 1 := by
    rw [BitVec.toNat_and, BitVec.toNat_ofInt, h1, Nat.and_two_pow_sub_one_eq_mod]
  have e : Go.bits .and .i64 x 1 = IntKind.i64.wrap ((BitVec.ofInt 64 x &&& BitVec.ofInt 64 1).toNat : Nat) := rfl
  rw [e, key, IntKind.wrap_i64]
  omega

set_option maxHeartbeats 1000000 in
theorem sf64A (m e : Int) (hm : m = 9223372036854775808) (e0 : -1085 < e) (e1 : e ≤ 960) : ShortOk 112 m e := by
  have m0 : 9223372036854775808 ≤ m := by omega
  have m1 : m + 2048 ≤ 18446744073709551616 := by omega
  have hm2 : (m == 9223372036854775808) = true := by rw [hm]; rfl
  clear hm
  obtain ⟨L, hL⟩ : ∃ L : Int, L = ((e + 11) * 631305 - 261663) / 2097152 := ⟨_, rfl⟩
  have hp : -347 ≤ L ∧ L ≤ 348 := by omega
  obtain ⟨lp, hlp⟩ : ∃ lp : Int, lp = (-L) * 108853 / 32768 := ⟨_, rfl⟩
  obtain ⟨s, hs⟩ : ∃ s : Int, s = -(e + lp + 3) := ⟨_, rfl⟩
  have hsb : 2 ≤ s ∧ s ≤ 60 ∧ -2000 ≤ lp ∧ lp ≤ 2000 := by omega
  obtain ⟨j, hj⟩ : ∃ j, j = (-L + 348).toNat := ⟨_, rfl⟩
  obtain ⟨h1, h2, h3, h4⟩ := row_ok j (by omega)
  obtain ⟨umin, hmin, a0, a1, _⟩ := us (m - 512) (hiAt j) (loAt j) s (by omega) (by omega) h1 h2 h3 h4 hsb.1 hsb.2.1
  obtain ⟨umax, hmax, b0, b1, _⟩ := us (m + 1024) (hiAt j) (loAt j) s (by omega) (by omega) h1 h2 h3 h4 hsb.1 hsb.2.1
  obtain ⟨um, hum, _, c1, c0⟩ := us m (hiAt j) (loAt j) s (by omega) (by omega) h1 h2 h3 h4 hsb.1 hsb.2.1
  have c0 := c0 m0
  have hod := and1i (m / 2048)
  have n6 : wrap64 (m / 2048) = m / 2048 := by unfold wrap64; omega
  rw [← n6] at hod
  clear n6
  obtain ⟨odd, hodd⟩ : ∃ o, Go.bits .and .i64 (wrap64 (m / 2048)) 1 = o := ⟨_, rfl⟩
  rw [hodd] at hod
  obtain ⟨dmin, dmax, dm, d1, d2, d3, r1, r2, r3, r4, r5, r6⟩ := pick umin umax um odd a0 a1 b0 b1 c0 c1 hod
  have n2 : IntKind.i64.wrap (e + 11) = e + 11 := by rw [IntKind.wrap_i64]; omega
  have n3 : IntKind.i64.wrap (-L) = -L := by rw [IntKind.wrap_i64]; omega
  have n4 : IntKind.u64.wrap (m - 512) = m - 512 := uw _ (by omega) (by omega)
  have n5 : IntKind.u64.wrap (m + 1024) = m + 1024 := uw _ (by omega) (by omega)
  have n7 : IntKind.i64.wrap (-odd) = -odd := by rw [IntKind.wrap_i64]; omega
  have n8 : IntKind.u64.wrap (umin + IntKind.u64.wrap odd) = umin + odd := by simp only [IntKind.wrap_u64]; omega
  have n9 : IntKind.u64.wrap (umax + IntKind.u64.wrap (-odd)) = umax - odd := by simp only [IntKind.wrap_u64]; omega
  have n10 : IntKind.i64.wrap (-L - 1) = -L - 1 := by rw [IntKind.wrap_i64]; omega
  have n11 : IntKind.i64.wrap (-(-L - 1)) = -(-L - 1) := by rw [IntKind.wrap_i64]; omega
  have n12 : IntKind.i64.wrap (- -L) = - -L := by rw [IntKind.wrap_i64]; omega
  have n14 : IntKind.u64.wrap (dmax.tdiv 10) = dmax / 10 := by rw [Int.tdiv_eq_ediv_of_nonneg r2]; exact uw _ (by omega) (by omega)
  have n13 : IntKind.u64.wrap (dmax / 10 * 10) = dmax / 10 * 10 := uw _ (by omega) (by omega)
  have HL := Aside0.mk hL
  have HLP := Aside0.mk hlp
  have HS := Aside0.mk hs
  have HJ := Aside0.mk hj
  have HMIN := Aside0.mk hmin
  have HMAX := Aside0.mk hmax
  have HM := Aside0.mk hum
  have HD := Aside0.mk (And.intro d1 (And.intro d2 d3))
  have HU : Aside0 ((odd = 0 ∨ odd = 1) ∧ 1 ≤ umin ∧ umin ≤ 4611686018427387905 ∧ 1 ≤ umax ∧ umax ≤ 4611686018427387905 ∧ 3 ≤ um ∧ um ≤ 4611686018427387905) := Aside0.mk ⟨hod, a0, a1, b0, b1, c0, c1⟩
  clear hmin hmax hum hL hlp hs hj
  obtain ⟨d, p, hd0, hd1, hp0, hp1, hdp⟩ : ∃ d p : Int, 1 ≤ d ∧ d < 18446744073709551616 ∧ -400 ≤ p ∧ p ≤ 400 ∧ ((dmin ≤ dmax / 10 * 10 ∧ d = dmax / 10 ∧ p = -(-L - 1)) ∨ (dmax / 10 * 10 < dmin ∧ dmin < dmax ∧ d = dm ∧ p = L) ∨ (dmax / 10 * 10 < dmin ∧ dmax ≤ dmin ∧ d = dmin ∧ p = L)) := by
    by_cases g1 : dmin ≤ dmax / 10 * 10
    · exact ⟨dmax / 10, -(-L - 1), by omega, by omega, by omega, by omega, .inl ⟨g1, rfl, rfl⟩⟩
    · by_cases g2 : dmin < dmax
      · exact ⟨dm, L, by omega, by omega, by omega, by omega, .inr (.inl ⟨by omega, g2, rfl, rfl⟩)⟩
      · exact ⟨dmin, L, by omega, by omega, by omega, by omega, .inr (.inr ⟨by omega, by omega, rfl, rfl⟩)⟩
  refine ⟨d, p, hd0, hd1, hp0, hp1, fun w hT => ?_⟩
  clear hod h1 h2 h3 h4 d1 d2 d3 m0 m1 a0 a1 b0 b1 c0 c1 r1 r2 r3 r4 r5 r6 hd0 hd1 hp0 hp1
  rcases hdp with ⟨g1, x1, x2⟩ | ⟨g1, g2, x1, x2⟩ | ⟨g1, g2, x1, x2⟩
  all_goals
    rw [x1, x2]
    clear x1 x2
    go_enter Tryd.func112, Tryd.ntmps112
    go_wp2_with (first
      | (go_at_call 118; go_must (refine (skew (e + 11) ?h0 ?h1 _).mono ?_; (case h0 => omega); (case h1 => omega); rintro en w1 ⟨rfl, rfl⟩; rw [← HL.out]))
      | (go_at_call 120; go_must (refine (l2 (-L) ?h0 ?h1 _).mono ?_; (case h0 => omega); (case h1 => omega); rintro en w1 ⟨rfl, rfl⟩; rw [← HLP.out]))
      | (go_at_call 119; go_must (refine (pres w.heap.size e (-L) lp 0 0 0 ?h0 ?h1 ?h2 ?h3 ?h4 ?h5 w _ (IsS170.new w w 0 0 0 (Below.refl _ _)) (below_alloc (Below.refl _ _) _) hT).mono ?_; (case h0 => omega); (case h1 => omega); (case h2 => omega); (case h3 => omega); (case h4 => omega); (case h5 => omega); rintro en w1 ⟨rfl, hI, hB⟩; rw [← HJ.out, ← HS.out] at hI; have HI := Aside0.mk hI; clear hI))
      | (go_at_call 121; go_must ((first
          | (with_reducible refine (strconv_uscale.calls (m - 512) w.heap.size _ _ _ _ _ _ _ w _ HI.out hB HMIN.out).mono ?_)
          | (with_reducible refine (strconv_uscale.calls (m + 1024) w.heap.size _ _ _ _ _ _ _ w _ HI.out hB HMAX.out).mono ?_)
          | (with_reducible refine (strconv_uscale.calls m w.heap.size _ _ _ _ _ _ _ w _ HI.out hB HM.out).mono ?_)); rintro en w2 ⟨rfl, hI, hB, _⟩; have HI := Aside0.mk hI; clear hI))
      | (go_at_call 122; go_must ((first
          | (with_reducible refine (nud umin odd _ n8 _).mono ?_)
          | (with_reducible refine (nud umax (-odd) _ n9 _).mono ?_)); rintro en w2 ⟨rfl, rfl⟩))
      | (go_at_call 123; go_must (refine (cei (umin + odd) ?h0 ?h1 _).mono ?_; (case h0 => have := HU.out; omega); (case h1 => have := HU.out; omega); rintro en w2 ⟨rfl, rfl⟩; rw [← HD.out.1]))
      | (go_at_call 124; go_must (refine (flo (umax - odd) ?h0 ?h1 _).mono ?_; (case h0 => have := HU.out; omega); (case h1 => have := HU.out; omega); rintro en w2 ⟨rfl, rfl⟩; rw [← HD.out.2.1]))
      | (go_at_call 125; go_must (refine (rou um ?h0 ?h1 _).mono ?_; (case h0 => have := HU.out; omega); (case h1 => have := HU.out; omega); rintro en w2 ⟨rfl, rfl⟩; rw [← HD.out.2.2])))
    go_ret2
    exact ⟨rfl, hB⟩

set_option maxHeartbeats 1000000 in
theorem sf64B (m e : Int) (m0 : 9223372036854775808 ≤ m) (m1 : m + 2048 ≤ 18446744073709551616) (hm : m ≠ 9223372036854775808) (e0 : -1085 ≤ e) (e1 : e ≤ 960) : ShortOk 112 m e := by
  have hm2 : (m == 9223372036854775808) = false := beq_eq_false_iff_ne.mpr hm
  clear hm
  obtain ⟨L, hL⟩ : ∃ L : Int, L = (e + 11) * 78913 / 262144 := ⟨_, rfl⟩
  have hp : -347 ≤ L ∧ L ≤ 348 := by omega
  obtain ⟨lp, hlp⟩ : ∃ lp : Int, lp = (-L) * 108853 / 32768 := ⟨_, rfl⟩
  obtain ⟨s, hs⟩ : ∃ s : Int, s = -(e + lp + 3) := ⟨_, rfl⟩
  have hsb : 2 ≤ s ∧ s ≤ 60 ∧ -2000 ≤ lp ∧ lp ≤ 2000 := by omega
  obtain ⟨j, hj⟩ : ∃ j, j = (-L + 348).toNat := ⟨_, rfl⟩
  obtain ⟨h1, h2, h3, h4⟩ := row_ok j (by omega)
  obtain ⟨umin, hmin, a0, a1, _⟩ := us (m - 1024) (hiAt j) (loAt j) s (by omega) (by omega) h1 h2 h3 h4 hsb.1 hsb.2.1
  obtain ⟨umax, hmax, b0, b1, _⟩ := us (m + 1024) (hiAt j) (loAt j) s (by omega) (by omega) h1 h2 h3 h4 hsb.1 hsb.2.1
  obtain ⟨um, hum, _, c1, c0⟩ := us m (hiAt j) (loAt j) s (by omega) (by omega) h1 h2 h3 h4 hsb.1 hsb.2.1
  have c0 := c0 m0
  have hod := and1i (m / 2048)
  have n6 : wrap64 (m / 2048) = m / 2048 := by unfold wrap64; omega
  rw [← n6] at hod
  clear n6
  obtain ⟨odd, hodd⟩ : ∃ o, Go.bits .and .i64 (wrap64 (m / 2048)) 1 = o := ⟨_, rfl⟩
  rw [hodd] at hod
  obtain ⟨dmin, dmax, dm, d1, d2, d3, r1, r2, r3, r4, r5, r6⟩ := pick umin umax um odd a0 a1 b0 b1 c0 c1 hod
  have n2 : IntKind.i64.wrap (e + 11) = e + 11 := by rw [IntKind.wrap_i64]; omega
  have n3 : IntKind.i64.wrap (-L) = -L := by rw [IntKind.wrap_i64]; omega
  have n4 : IntKind.u64.wrap (m - 1024) = m - 1024 := uw _ (by omega) (by omega)
  have n5 : IntKind.u64.wrap (m + 1024) = m + 1024 := uw _ (by omega) (by omega)
  have n7 : IntKind.i64.wrap (-odd) = -odd := by rw [IntKind.wrap_i64]; omega
  have n8 : IntKind.u64.wrap (umin + IntKind.u64.wrap odd) = umin + odd := by simp only [IntKind.wrap_u64]; omega
  have n9 : IntKind.u64.wrap (umax + IntKind.u64.wrap (-odd)) = umax - odd := by simp only [IntKind.wrap_u64]; omega
  have n10 : IntKind.i64.wrap (-L - 1) = -L - 1 := by rw [IntKind.wrap_i64]; omega
  have n11 : IntKind.i64.wrap (-(-L - 1)) = -(-L - 1) := by rw [IntKind.wrap_i64]; omega
  have n12 : IntKind.i64.wrap (- -L) = - -L := by rw [IntKind.wrap_i64]; omega
  have n14 : IntKind.u64.wrap (dmax.tdiv 10) = dmax / 10 := by rw [Int.tdiv_eq_ediv_of_nonneg r2]; exact uw _ (by omega) (by omega)
  have n13 : IntKind.u64.wrap (dmax / 10 * 10) = dmax / 10 * 10 := uw _ (by omega) (by omega)
  have HL := Aside0.mk hL
  have HLP := Aside0.mk hlp
  have HS := Aside0.mk hs
  have HJ := Aside0.mk hj
  have HMIN := Aside0.mk hmin
  have HMAX := Aside0.mk hmax
  have HM := Aside0.mk hum
  have HD := Aside0.mk (And.intro d1 (And.intro d2 d3))
  have HU : Aside0 ((odd = 0 ∨ odd = 1) ∧ 1 ≤ umin ∧ umin ≤ 4611686018427387905 ∧ 1 ≤ umax ∧ umax ≤ 4611686018427387905 ∧ 3 ≤ um ∧ um ≤ 4611686018427387905) := Aside0.mk ⟨hod, a0, a1, b0, b1, c0, c1⟩
  clear hmin hmax hum hL hlp hs hj
  obtain ⟨d, p, hd0, hd1, hp0, hp1, hdp⟩ : ∃ d p : Int, 1 ≤ d ∧ d < 18446744073709551616 ∧ -400 ≤ p ∧ p ≤ 400 ∧ ((dmin ≤ dmax / 10 * 10 ∧ d = dmax / 10 ∧ p = -(-L - 1)) ∨ (dmax / 10 * 10 < dmin ∧ dmin < dmax ∧ d = dm ∧ p = L) ∨ (dmax / 10 * 10 < dmin ∧ dmax ≤ dmin ∧ d = dmin ∧ p = L)) := by
    by_cases g1 : dmin ≤ dmax / 10 * 10
    · exact ⟨dmax / 10, -(-L - 1), by omega, by omega, by omega, by omega, .inl ⟨g1, rfl, rfl⟩⟩
    · by_cases g2 : dmin < dmax
      · exact ⟨dm, L, by omega, by omega, by omega, by omega, .inr (.inl ⟨by omega, g2, rfl, rfl⟩)⟩
      · exact ⟨dmin, L, by omega, by omega, by omega, by omega, .inr (.inr ⟨by omega, by omega, rfl, rfl⟩)⟩
  refine ⟨d, p, hd0, hd1, hp0, hp1, fun w hT => ?_⟩
  clear hod h1 h2 h3 h4 d1 d2 d3 m0 m1 a0 a1 b0 b1 c0 c1 r1 r2 r3 r4 r5 r6 hd0 hd1 hp0 hp1
  rcases hdp with ⟨g1, x1, x2⟩ | ⟨g1, g2, x1, x2⟩ | ⟨g1, g2, x1, x2⟩
  all_goals
    rw [x1, x2]
    clear x1 x2
    go_enter Tryd.func112, Tryd.ntmps112
    go_wp2_with (first
      | (go_at_call 96; go_must (refine (l10 (e + 11) ?h0 ?h1 _).mono ?_; (case h0 => omega); (case h1 => omega); rintro en w1 ⟨rfl, rfl⟩; rw [← HL.out]))
      | (go_at_call 120; go_must (refine (l2 (-L) ?h0 ?h1 _).mono ?_; (case h0 => omega); (case h1 => omega); rintro en w1 ⟨rfl, rfl⟩; rw [← HLP.out]))
      | (go_at_call 119; go_must (refine (pres w.heap.size e (-L) lp 0 0 0 ?h0 ?h1 ?h2 ?h3 ?h4 ?h5 w _ (IsS170.new w w 0 0 0 (Below.refl _ _)) (below_alloc (Below.refl _ _) _) hT).mono ?_; (case h0 => omega); (case h1 => omega); (case h2 => omega); (case h3 => omega); (case h4 => omega); (case h5 => omega); rintro en w1 ⟨rfl, hI, hB⟩; rw [← HJ.out, ← HS.out] at hI; have HI := Aside0.mk hI; clear hI))
      | (go_at_call 121; go_must ((first
          | (with_reducible refine (strconv_uscale.calls (m - 1024) w.heap.size _ _ _ _ _ _ _ w _ HI.out hB HMIN.out).mono ?_)
          | (with_reducible refine (strconv_uscale.calls (m + 1024) w.heap.size _ _ _ _ _ _ _ w _ HI.out hB HMAX.out).mono ?_)
          | (with_reducible refine (strconv_uscale.calls m w.heap.size _ _ _ _ _ _ _ w _ HI.out hB HM.out).mono ?_)); rintro en w2 ⟨rfl, hI, hB, _⟩; have HI := Aside0.mk hI; clear hI))
      | (go_at_call 122; go_must ((first
          | (with_reducible refine (nud umin odd _ n8 _).mono ?_)
          | (with_reducible refine (nud umax (-odd) _ n9 _).mono ?_)); rintro en w2 ⟨rfl, rfl⟩))
      | (go_at_call 123; go_must (refine (cei (umin + odd) ?h0 ?h1 _).mono ?_; (case h0 => have := HU.out; omega); (case h1 => have := HU.out; omega); rintro en w2 ⟨rfl, rfl⟩; rw [← HD.out.1]))
      | (go_at_call 124; go_must (refine (flo (umax - odd) ?h0 ?h1 _).mono ?_; (case h0 => have := HU.out; omega); (case h1 => have := HU.out; omega); rintro en w2 ⟨rfl, rfl⟩; rw [← HD.out.2.1]))
      | (go_at_call 125; go_must (refine (rou um ?h0 ?h1 _).mono ?_; (case h0 => have := HU.out; omega); (case h1 => have := HU.out; omega); rintro en w2 ⟨rfl, rfl⟩; rw [← HD.out.2.2])))
    go_ret2
    exact ⟨rfl, hB⟩

set_option maxHeartbeats 1000000 in
theorem sf64D (m e : Int) (hm : m = 9223372036854775808) (he : e = -1085) : ShortOk 112 m e := by
  have m0 : 9223372036854775808 ≤ m := by omega
  have m1 : m + 2048 ≤ 18446744073709551616 := by omega
  have e0 : -1085 ≤ e := by omega
  have e1 : e ≤ 960 := by omega
  have e2 : e ≤ -1085 := by omega
  have hm2 : (m == 9223372036854775808) = true := by rw [hm]; rfl
  clear hm he
  obtain ⟨L, hL⟩ : ∃ L : Int, L = (e + 11) * 78913 / 262144 := ⟨_, rfl⟩
  have hp : -347 ≤ L ∧ L ≤ 348 := by omega
  obtain ⟨lp, hlp⟩ : ∃ lp : Int, lp = (-L) * 108853 / 32768 := ⟨_, rfl⟩
  obtain ⟨s, hs⟩ : ∃ s : Int, s = -(e + lp + 3) := ⟨_, rfl⟩
  have hsb : 2 ≤ s ∧ s ≤ 60 ∧ -2000 ≤ lp ∧ lp ≤ 2000 := by omega
  obtain ⟨j, hj⟩ : ∃ j, j = (-L + 348).toNat := ⟨_, rfl⟩
  obtain ⟨h1, h2, h3, h4⟩ := row_ok j (by omega)
  obtain ⟨umin, hmin, a0, a1, _⟩ := us (m - 1024) (hiAt j) (loAt j) s (by omega) (by omega) h1 h2 h3 h4 hsb.1 hsb.2.1
  obtain ⟨umax, hmax, b0, b1, _⟩ := us (m + 1024) (hiAt j) (loAt j) s (by omega) (by omega) h1 h2 h3 h4 hsb.1 hsb.2.1
  obtain ⟨um, hum, _, c1, c0⟩ := us m (hiAt j) (loAt j) s (by omega) (by omega) h1 h2 h3 h4 hsb.1 hsb.2.1
  have c0 := c0 m0
  have hod := and1i (m / 2048)
  have n6 : wrap64 (m / 2048) = m / 2048 := by unfold wrap64; omega
  rw [← n6] at hod
  clear n6
  obtain ⟨odd, hodd⟩ : ∃ o, Go.bits .and .i64 (wrap64 (m / 2048)) 1 = o := ⟨_, rfl⟩
  rw [hodd] at hod
  obtain ⟨dmin, dmax, dm, d1, d2, d3, r1, r2, r3, r4, r5, r6⟩ := pick umin umax um odd a0 a1 b0 b1 c0 c1 hod
  have n2 : IntKind.i64.wrap (e + 11) = e + 11 := by rw [IntKind.wrap_i64]; omega
  have n3 : IntKind.i64.wrap (-L) = -L := by rw [IntKind.wrap_i64]; omega
  have n4 : IntKind.u64.wrap (m - 1024) = m - 1024 := uw _ (by omega) (by omega)
  have n5 : IntKind.u64.wrap (m + 1024) = m + 1024 := uw _ (by omega) (by omega)
  have n7 : IntKind.i64.wrap (-odd) = -odd := by rw [IntKind.wrap_i64]; omega
  have n8 : IntKind.u64.wrap (umin + IntKind.u64.wrap odd) = umin + odd := by simp only [IntKind.wrap_u64]; omega
  have n9 : IntKind.u64.wrap (umax + IntKind.u64.wrap (-odd)) = umax - odd := by simp only [IntKind.wrap_u64]; omega
  have n10 : IntKind.i64.wrap (-L - 1) = -L - 1 := by rw [IntKind.wrap_i64]; omega
  have n11 : IntKind.i64.wrap (-(-L - 1)) = -(-L - 1) := by rw [IntKind.wrap_i64]; omega
  have n12 : IntKind.i64.wrap (- -L) = - -L := by rw [IntKind.wrap_i64]; omega
  have n14 : IntKind.u64.wrap (dmax.tdiv 10) = dmax / 10 := by rw [Int.tdiv_eq_ediv_of_nonneg r2]; exact uw _ (by omega) (by omega)
  have n13 : IntKind.u64.wrap (dmax / 10 * 10) = dmax / 10 * 10 := uw _ (by omega) (by omega)
  have HL := Aside0.mk hL
  have HLP := Aside0.mk hlp
  have HS := Aside0.mk hs
  have HJ := Aside0.mk hj
  have HMIN := Aside0.mk hmin
  have HMAX := Aside0.mk hmax
  have HM := Aside0.mk hum
  have HD := Aside0.mk (And.intro d1 (And.intro d2 d3))
  have HU : Aside0 ((odd = 0 ∨ odd = 1) ∧ 1 ≤ umin ∧ umin ≤ 4611686018427387905 ∧ 1 ≤ umax ∧ umax ≤ 4611686018427387905 ∧ 3 ≤ um ∧ um ≤ 4611686018427387905) := Aside0.mk ⟨hod, a0, a1, b0, b1, c0, c1⟩
  clear hmin hmax hum hL hlp hs hj
  obtain ⟨d, p, hd0, hd1, hp0, hp1, hdp⟩ : ∃ d p : Int, 1 ≤ d ∧ d < 18446744073709551616 ∧ -400 ≤ p ∧ p ≤ 400 ∧ ((dmin ≤ dmax / 10 * 10 ∧ d = dmax / 10 ∧ p = -(-L - 1)) ∨ (dmax / 10 * 10 < dmin ∧ dmin < dmax ∧ d = dm ∧ p = L) ∨ (dmax / 10 * 10 < dmin ∧ dmax ≤ dmin ∧ d = dmin ∧ p = L)) := by
    by_cases g1 : dmin ≤ dmax / 10 * 10
    · exact ⟨dmax / 10, -(-L - 1), by omega, by omega, by omega, by omega, .inl ⟨g1, rfl, rfl⟩⟩
    · by_cases g2 : dmin < dmax
      · exact ⟨dm, L, by omega, by omega, by omega, by omega, .inr (.inl ⟨by omega, g2, rfl, rfl⟩)⟩
      · exact ⟨dmin, L, by omega, by omega, by omega, by omega, .inr (.inr ⟨by omega, by omega, rfl, rfl⟩)⟩
  refine ⟨d, p, hd0, hd1, hp0, hp1, fun w hT => ?_⟩
  clear hod h1 h2 h3 h4 d1 d2 d3 m0 m1 a0 a1 b0 b1 c0 c1 r1 r2 r3 r4 r5 r6 hd0 hd1 hp0 hp1
  rcases hdp with ⟨g1, x1, x2⟩ | ⟨g1, g2, x1, x2⟩ | ⟨g1, g2, x1, x2⟩
  all_goals
    rw [x1, x2]
    clear x1 x2
    go_enter Tryd.func112, Tryd.ntmps112
    go_wp2_with (first
      | (go_at_call 96; go_must (refine (l10 (e + 11) ?h0 ?h1 _).mono ?_; (case h0 => omega); (case h1 => omega); rintro en w1 ⟨rfl, rfl⟩; rw [← HL.out]))
      | (go_at_call 120; go_must (refine (l2 (-L) ?h0 ?h1 _).mono ?_; (case h0 => omega); (case h1 => omega); rintro en w1 ⟨rfl, rfl⟩; rw [← HLP.out]))
      | (go_at_call 119; go_must (refine (pres w.heap.size e (-L) lp 0 0 0 ?h0 ?h1 ?h2 ?h3 ?h4 ?h5 w _ (IsS170.new w w 0 0 0 (Below.refl _ _)) (below_alloc (Below.refl _ _) _) hT).mono ?_; (case h0 => omega); (case h1 => omega); (case h2 => omega); (case h3 => omega); (case h4 => omega); (case h5 => omega); rintro en w1 ⟨rfl, hI, hB⟩; rw [← HJ.out, ← HS.out] at hI; have HI := Aside0.mk hI; clear hI))
      | (go_at_call 121; go_must ((first
          | (with_reducible refine (strconv_uscale.calls (m - 1024) w.heap.size _ _ _ _ _ _ _ w _ HI.out hB HMIN.out).mono ?_)
          | (with_reducible refine (strconv_uscale.calls (m + 1024) w.heap.size _ _ _ _ _ _ _ w _ HI.out hB HMAX.out).mono ?_)
          | (with_reducible refine (strconv_uscale.calls m w.heap.size _ _ _ _ _ _ _ w _ HI.out hB HM.out).mono ?_)); rintro en w2 ⟨rfl, hI, hB, _⟩; have HI := Aside0.mk hI; clear hI))
      | (go_at_call 122; go_must ((first
          | (with_reducible refine (nud umin odd _ n8 _).mono ?_)
          | (with_reducible refine (nud umax (-odd) _ n9 _).mono ?_)); rintro en w2 ⟨rfl, rfl⟩))
      | (go_at_call 123; go_must (refine (cei (umin + odd) ?h0 ?h1 _).mono ?_; (case h0 => have := HU.out; omega); (case h1 => have := HU.out; omega); rintro en w2 ⟨rfl, rfl⟩; rw [← HD.out.1]))
      | (go_at_call 124; go_must (refine (flo (umax - odd) ?h0 ?h1 _).mono ?_; (case h0 => have := HU.out; omega); (case h1 => have := HU.out; omega); rintro en w2 ⟨rfl, rfl⟩; rw [← HD.out.2.1]))
      | (go_at_call 125; go_must (refine (rou um ?h0 ?h1 _).mono ?_; (case h0 => have := HU.out; omega); (case h1 => have := HU.out; omega); rintro en w2 ⟨rfl, rfl⟩; rw [← HD.out.2.2])))
    go_ret2
    exact ⟨rfl, hB⟩

set_option maxHeartbeats 1000000 in
theorem sf32A (m e : Int) (hm : m = 9223372036854775808) (e0 : -189 < e) (e1 : e ≤ 64) : ShortOk 106 m e := by
  have m0 : 9223372036854775808 ≤ m := by omega
  have m1 : m + 1099511627776 ≤ 18446744073709551616 := by omega
  have hm2 : (m == 9223372036854775808) = true := by rw [hm]; rfl
  clear hm
  obtain ⟨L, hL⟩ : ∃ L : Int, L = ((e + 40) * 631305 - 261663) / 2097152 := ⟨_, rfl⟩
  have hp : -347 ≤ L ∧ L ≤ 348 := by omega
  obtain ⟨lp, hlp⟩ : ∃ lp : Int, lp = (-L) * 108853 / 32768 := ⟨_, rfl⟩
  obtain ⟨s, hs⟩ : ∃ s : Int, s = -(e + lp + 3) := ⟨_, rfl⟩
  have hsb : 2 ≤ s ∧ s ≤ 60 ∧ -2000 ≤ lp ∧ lp ≤ 2000 := by omega
  obtain ⟨j, hj⟩ : ∃ j, j = (-L + 348).toNat := ⟨_, rfl⟩
  obtain ⟨h1, h2, h3, h4⟩ := row_ok j (by omega)
  obtain ⟨umin, hmin, a0, a1, _⟩ := us (m - 274877906944) (hiAt j) (loAt j) s (by omega) (by omega) h1 h2 h3 h4 hsb.1 hsb.2.1
  obtain ⟨umax, hmax, b0, b1, _⟩ := us (m + 549755813888) (hiAt j) (loAt j) s (by omega) (by omega) h1 h2 h3 h4 hsb.1 hsb.2.1
  obtain ⟨um, hum, _, c1, c0⟩ := us m (hiAt j) (loAt j) s (by omega) (by omega) h1 h2 h3 h4 hsb.1 hsb.2.1
  have c0 := c0 m0
  have hod := and1i (m / 1099511627776)
  have n6 : wrap64 (m / 1099511627776) = m / 1099511627776 := by unfold wrap64; omega
  rw [← n6] at hod
  clear n6
  obtain ⟨odd, hodd⟩ : ∃ o, Go.bits .and .i64 (wrap64 (m / 1099511627776)) 1 = o := ⟨_, rfl⟩
  rw [hodd] at hod
  obtain ⟨dmin, dmax, dm, d1, d2, d3, r1, r2, r3, r4, r5, r6⟩ := pick umin umax um odd a0 a1 b0 b1 c0 c1 hod
  have n2 : IntKind.i64.wrap (e + 40) = e + 40 := by rw [IntKind.wrap_i64]; omega
  have n3 : IntKind.i64.wrap (-L) = -L := by rw [IntKind.wrap_i64]; omega
  have n4 : IntKind.u64.wrap (m - 274877906944) = m - 274877906944 := uw _ (by omega) (by omega)
  have n5 : IntKind.u64.wrap (m + 549755813888) = m + 549755813888 := uw _ (by omega) (by omega)
  have n7 : IntKind.i64.wrap (-odd) = -odd := by rw [IntKind.wrap_i64]; omega
  have n8 : IntKind.u64.wrap (umin + IntKind.u64.wrap odd) = umin + odd := by simp only [IntKind.wrap_u64]; omega
  have n9 : IntKind.u64.wrap (umax + IntKind.u64.wrap (-odd)) = umax - odd := by simp only [IntKind.wrap_u64]; omega
  have n10 : IntKind.i64.wrap (-L - 1) = -L - 1 := by rw [IntKind.wrap_i64]; omega
  have n11 : IntKind.i64.wrap (-(-L - 1)) = -(-L - 1) := by rw [IntKind.wrap_i64]; omega
  have n12 : IntKind.i64.wrap (- -L) = - -L := by rw [IntKind.wrap_i64]; omega
  have n14 : IntKind.u64.wrap (dmax.tdiv 10) = dmax / 10 := by rw [Int.tdiv_eq_ediv_of_nonneg r2]; exact uw _ (by omega) (by omega)
  have n13 : IntKind.u64.wrap (dmax / 10 * 10) = dmax / 10 * 10 := uw _ (by omega) (by omega)
  have HL := Aside0.mk hL
  have HLP := Aside0.mk hlp
  have HS := Aside0.mk hs
  have HJ := Aside0.mk hj
  have HMIN := Aside0.mk hmin
  have HMAX := Aside0.mk hmax
  have HM := Aside0.mk hum
  have HD := Aside0.mk (And.intro d1 (And.intro d2 d3))
  have HU : Aside0 ((odd = 0 ∨ odd = 1) ∧ 1 ≤ umin ∧ umin ≤ 4611686018427387905 ∧ 1 ≤ umax ∧ umax ≤ 4611686018427387905 ∧ 3 ≤ um ∧ um ≤ 4611686018427387905) := Aside0.mk ⟨hod, a0, a1, b0, b1, c0, c1⟩
  clear hmin hmax hum hL hlp hs hj
  obtain ⟨d, p, hd0, hd1, hp0, hp1, hdp⟩ : ∃ d p : Int, 1 ≤ d ∧ d < 18446744073709551616 ∧ -400 ≤ p ∧ p ≤ 400 ∧ ((dmin ≤ dmax / 10 * 10 ∧ d = dmax / 10 ∧ p = -(-L - 1)) ∨ (dmax / 10 * 10 < dmin ∧ dmin < dmax ∧ d = dm ∧ p = L) ∨ (dmax / 10 * 10 < dmin ∧ dmax ≤ dmin ∧ d = dmin ∧ p = L)) := by
    by_cases g1 : dmin ≤ dmax / 10 * 10
    · exact ⟨dmax / 10, -(-L - 1), by omega, by omega, by omega, by omega, .inl ⟨g1, rfl, rfl⟩⟩
    · by_cases g2 : dmin < dmax
      · exact ⟨dm, L, by omega, by omega, by omega, by omega, .inr (.inl ⟨by omega, g2, rfl, rfl⟩)⟩
      · exact ⟨dmin, L, by omega, by omega, by omega, by omega, .inr (.inr ⟨by omega, by omega, rfl, rfl⟩)⟩
  refine ⟨d, p, hd0, hd1, hp0, hp1, fun w hT => ?_⟩
  clear hod h1 h2 h3 h4 d1 d2 d3 m0 m1 a0 a1 b0 b1 c0 c1 r1 r2 r3 r4 r5 r6 hd0 hd1 hp0 hp1
  rcases hdp with ⟨g1, x1, x2⟩ | ⟨g1, g2, x1, x2⟩ | ⟨g1, g2, x1, x2⟩
  all_goals
    rw [x1, x2]
    clear x1 x2
    go_enter Tryd.func106, Tryd.ntmps106
    go_wp2_with (first
      | (go_at_call 118; go_must (refine (skew (e + 40) ?h0 ?h1 _).mono ?_; (case h0 => omega); (case h1 => omega); rintro en w1 ⟨rfl, rfl⟩; rw [← HL.out]))
      | (go_at_call 120; go_must (refine (l2 (-L) ?h0 ?h1 _).mono ?_; (case h0 => omega); (case h1 => omega); rintro en w1 ⟨rfl, rfl⟩; rw [← HLP.out]))
      | (go_at_call 119; go_must (refine (pres w.heap.size e (-L) lp 0 0 0 ?h0 ?h1 ?h2 ?h3 ?h4 ?h5 w _ (IsS170.new w w 0 0 0 (Below.refl _ _)) (below_alloc (Below.refl _ _) _) hT).mono ?_; (case h0 => omega); (case h1 => omega); (case h2 => omega); (case h3 => omega); (case h4 => omega); (case h5 => omega); rintro en w1 ⟨rfl, hI, hB⟩; rw [← HJ.out, ← HS.out] at hI; have HI := Aside0.mk hI; clear hI))
      | (go_at_call 121; go_must ((first
          | (with_reducible refine (strconv_uscale.calls (m - 274877906944) w.heap.size _ _ _ _ _ _ _ w _ HI.out hB HMIN.out).mono ?_)
          | (with_reducible refine (strconv_uscale.calls (m + 549755813888) w.heap.size _ _ _ _ _ _ _ w _ HI.out hB HMAX.out).mono ?_)
          | (with_reducible refine (strconv_uscale.calls m w.heap.size _ _ _ _ _ _ _ w _ HI.out hB HM.out).mono ?_)); rintro en w2 ⟨rfl, hI, hB, _⟩; have HI := Aside0.mk hI; clear hI))
      | (go_at_call 122; go_must ((first
          | (with_reducible refine (nud umin odd _ n8 _).mono ?_)
          | (with_reducible refine (nud umax (-odd) _ n9 _).mono ?_)); rintro en w2 ⟨rfl, rfl⟩))
      | (go_at_call 123; go_must (refine (cei (umin + odd) ?h0 ?h1 _).mono ?_; (case h0 => have := HU.out; omega); (case h1 => have := HU.out; omega); rintro en w2 ⟨rfl, rfl⟩; rw [← HD.out.1]))
      | (go_at_call 124; go_must (refine (flo (umax - odd) ?h0 ?h1 _).mono ?_; (case h0 => have := HU.out; omega); (case h1 => have := HU.out; omega); rintro en w2 ⟨rfl, rfl⟩; rw [← HD.out.2.1]))
      | (go_at_call 125; go_must (refine (rou um ?h0 ?h1 _).mono ?_; (case h0 => have := HU.out; omega); (case h1 => have := HU.out; omega); rintro en w2 ⟨rfl, rfl⟩; rw [← HD.out.2.2])))
    go_ret2
    exact ⟨rfl, hB⟩

set_option maxHeartbeats 1000000 in
theorem sf32B (m e : Int) (m0 : 9223372036854775808 ≤ m) (m1 : m + 1099511627776 ≤ 18446744073709551616) (hm : m ≠ 9223372036854775808) (e0 : -189 ≤ e) (e1 : e ≤ 64) : ShortOk 106 m e := by
  have hm2 : (m == 9223372036854775808) = false := beq_eq_false_iff_ne.mpr hm
  clear hm
  obtain ⟨L, hL⟩ : ∃ L : Int, L = (e + 40) * 78913 / 262144 := ⟨_, rfl⟩
  have hp : -347 ≤ L ∧ L ≤ 348 := by omega
  obtain ⟨lp, hlp⟩ : ∃ lp : Int, lp = (-L) * 108853 / 32768 := ⟨_, rfl⟩
  obtain ⟨s, hs⟩ : ∃ s : Int, s = -(e + lp + 3) := ⟨_, rfl⟩
  have hsb : 2 ≤ s ∧ s ≤ 60 ∧ -2000 ≤ lp ∧ lp ≤ 2000 := by omega
  obtain ⟨j, hj⟩ : ∃ j, j = (-L + 348).toNat := ⟨_, rfl⟩
  obtain ⟨h1, h2, h3, h4⟩ := row_ok j (by omega)
  obtain ⟨umin, hmin, a0, a1, _⟩ := us (m - 549755813888) (hiAt j) (loAt j) s (by omega) (by omega) h1 h2 h3 h4 hsb.1 hsb.2.1
  obtain ⟨umax, hmax, b0, b1, _⟩ := us (m + 549755813888) (hiAt j) (loAt j) s (by omega) (by omega) h1 h2 h3 h4 hsb.1 hsb.2.1
  obtain ⟨um, hum, _, c1, c0⟩ := us m (hiAt j) (loAt j) s (by omega) (by omega) h1 h2 h3 h4 hsb.1 hsb.2.1
  have c0 := c0 m0
  have hod := and1i (m / 1099511627776)
  have n6 : wrap64 (m / 1099511627776) = m / 1099511627776 := by unfold wrap64; omega
  rw [← n6] at hod
  clear n6
  obtain ⟨odd, hodd⟩ : ∃ o, Go.bits .and .i64 (wrap64 (m / 1099511627776)) 1 = o := ⟨_, rfl⟩
  rw [hodd] at hod
  obtain ⟨dmin, dmax, dm, d1, d2, d3, r1, r2, r3, r4, r5, r6⟩ := pick umin umax um odd a0 a1 b0 b1 c0 c1 hod
  have n2 : IntKind.i64.wrap (e + 40) = e + 40 := by rw [IntKind.wrap_i64]; omega
  have n3 : IntKind.i64.wrap (-L) = -L := by rw [IntKind.wrap_i64]; omega
  have n4 : IntKind.u64.wrap (m - 549755813888) = m - 549755813888 := uw _ (by omega) (by omega)
  have n5 : IntKind.u64.wrap (m + 549755813888) = m + 549755813888 := uw _ (by omega) (by omega)
  have n7 : IntKind.i64.wrap (-odd) = -odd := by rw [IntKind.wrap_i64]; omega
  have n8 : IntKind.u64.wrap (umin + IntKind.u64.wrap odd) = umin + odd := by simp only [IntKind.wrap_u64]; omega
  have n9 : IntKind.u64.wrap (umax + IntKind.u64.wrap (-odd)) = umax - odd := by simp only [IntKind.wrap_u64]; omega
  have n10 : IntKind.i64.wrap (-L - 1) = -L - 1 := by rw [IntKind.wrap_i64]; omega
  have n11 : IntKind.i64.wrap (-(-L - 1)) = -(-L - 1) := by rw [IntKind.wrap_i64]; omega
  have n12 : IntKind.i64.wrap (- -L) = - -L := by rw [IntKind.wrap_i64]; omega
  have n14 : IntKind.u64.wrap (dmax.tdiv 10) = dmax / 10 := by rw [Int.tdiv_eq_ediv_of_nonneg r2]; exact uw _ (by omega) (by omega)
  have n13 : IntKind.u64.wrap (dmax / 10 * 10) = dmax / 10 * 10 := uw _ (by omega) (by omega)
  have HL := Aside0.mk hL
  have HLP := Aside0.mk hlp
  have HS := Aside0.mk hs
  have HJ := Aside0.mk hj
  have HMIN := Aside0.mk hmin
  have HMAX := Aside0.mk hmax
  have HM := Aside0.mk hum
  have HD := Aside0.mk (And.intro d1 (And.intro d2 d3))
  have HU : Aside0 ((odd = 0 ∨ odd = 1) ∧ 1 ≤ umin ∧ umin ≤ 4611686018427387905 ∧ 1 ≤ umax ∧ umax ≤ 4611686018427387905 ∧ 3 ≤ um ∧ um ≤ 4611686018427387905) := Aside0.mk ⟨hod, a0, a1, b0, b1, c0, c1⟩
  clear hmin hmax hum hL hlp hs hj
  obtain ⟨d, p, hd0, hd1, hp0, hp1, hdp⟩ : ∃ d p : Int, 1 ≤ d ∧ d < 18446744073709551616 ∧ -400 ≤ p ∧ p ≤ 400 ∧ ((dmin ≤ dmax / 10 * 10 ∧ d = dmax / 10 ∧ p = -(-L - 1)) ∨ (dmax / 10 * 10 < dmin ∧ dmin < dmax ∧ d = dm ∧ p = L) ∨ (dmax / 10 * 10 < dmin ∧ dmax ≤ dmin ∧ d = dmin ∧ p = L)) := by
    by_cases g1 : dmin ≤ dmax / 10 * 10
    · exact ⟨dmax / 10, -(-L - 1), by omega, by omega, by omega, by omega, .inl ⟨g1, rfl, rfl⟩⟩
    · by_cases g2 : dmin < dmax
      · exact ⟨dm, L, by omega, by omega, by omega, by omega, .inr (.inl ⟨by omega, g2, rfl, rfl⟩)⟩
      · exact ⟨dmin, L, by omega, by omega, by omega, by omega, .inr (.inr ⟨by omega, by omega, rfl, rfl⟩)⟩
  refine ⟨d, p, hd0, hd1, hp0, hp1, fun w hT => ?_⟩
  clear hod h1 h2 h3 h4 d1 d2 d3 m0 m1 a0 a1 b0 b1 c0 c1 r1 r2 r3 r4 r5 r6 hd0 hd1 hp0 hp1
  rcases hdp with ⟨g1, x1, x2⟩ | ⟨g1, g2, x1, x2⟩ | ⟨g1, g2, x1, x2⟩
  all_goals
    rw [x1, x2]
    clear x1 x2
    go_enter Tryd.func106, Tryd.ntmps106
    go_wp2_with (first
      | (go_at_call 96; go_must (refine (l10 (e + 40) ?h0 ?h1 _).mono ?_; (case h0 => omega); (case h1 => omega); rintro en w1 ⟨rfl, rfl⟩; rw [← HL.out]))
      | (go_at_call 120; go_must (refine (l2 (-L) ?h0 ?h1 _).mono ?_; (case h0 => omega); (case h1 => omega); rintro en w1 ⟨rfl, rfl⟩; rw [← HLP.out]))
      | (go_at_call 119; go_must (refine (pres w.heap.size e (-L) lp 0 0 0 ?h0 ?h1 ?h2 ?h3 ?h4 ?h5 w _ (IsS170.new w w 0 0 0 (Below.refl _ _)) (below_alloc (Below.refl _ _) _) hT).mono ?_; (case h0 => omega); (case h1 => omega); (case h2 => omega); (case h3 => omega); (case h4 => omega); (case h5 => omega); rintro en w1 ⟨rfl, hI, hB⟩; rw [← HJ.out, ← HS.out] at hI; have HI := Aside0.mk hI; clear hI))
      | (go_at_call 121; go_must ((first
          | (with_reducible refine (strconv_uscale.calls (m - 549755813888) w.heap.size _ _ _ _ _ _ _ w _ HI.out hB HMIN.out).mono ?_)
          | (with_reducible refine (strconv_uscale.calls (m + 549755813888) w.heap.size _ _ _ _ _ _ _ w _ HI.out hB HMAX.out).mono ?_)
          | (with_reducible refine (strconv_uscale.calls m w.heap.size _ _ _ _ _ _ _ w _ HI.out hB HM.out).mono ?_)); rintro en w2 ⟨rfl, hI, hB, _⟩; have HI := Aside0.mk hI; clear hI))
      | (go_at_call 122; go_must ((first
          | (with_reducible refine (nud umin odd _ n8 _).mono ?_)
          | (with_reducible refine (nud umax (-odd) _ n9 _).mono ?_)); rintro en w2 ⟨rfl, rfl⟩))
      | (go_at_call 123; go_must (refine (cei (umin + odd) ?h0 ?h1 _).mono ?_; (case h0 => have := HU.out; omega); (case h1 => have := HU.out; omega); rintro en w2 ⟨rfl, rfl⟩; rw [← HD.out.1]))
      | (go_at_call 124; go_must (refine (flo (umax - odd) ?h0 ?h1 _).mono ?_; (case h0 => have := HU.out; omega); (case h1 => have := HU.out; omega); rintro en w2 ⟨rfl, rfl⟩; rw [← HD.out.2.1]))
      | (go_at_call 125; go_must (refine (rou um ?h0 ?h1 _).mono ?_; (case h0 => have := HU.out; omega); (case h1 => have := HU.out; omega); rintro en w2 ⟨rfl, rfl⟩; rw [← HD.out.2.2])))
    go_ret2
    exact ⟨rfl, hB⟩

set_option maxHeartbeats 1000000 in
theorem sf32D (m e : Int) (hm : m = 9223372036854775808) (he : e = -189) : ShortOk 106 m e := by
  have m0 : 9223372036854775808 ≤ m := by omega
  have m1 : m + 1099511627776 ≤ 18446744073709551616 := by omega
  have e0 : -189 ≤ e := by omega
  have e1 : e ≤ 64 := by omega
  have e2 : e ≤ -189 := by omega
  have hm2 : (m == 9223372036854775808) = true := by rw [hm]; rfl
  clear hm he
  obtain ⟨L, hL⟩ : ∃ L : Int, L = (e + 40) * 78913 / 262144 := ⟨_, rfl⟩
  have hp : -347 ≤ L ∧ L ≤ 348 := by omega
  obtain ⟨lp, hlp⟩ : ∃ lp : Int, lp = (-L) * 108853 / 32768 := ⟨_, rfl⟩
  obtain ⟨s, hs⟩ : ∃ s : Int, s = -(e + lp + 3) := ⟨_, rfl⟩
  have hsb : 2 ≤ s ∧ s ≤ 60 ∧ -2000 ≤ lp ∧ lp ≤ 2000 := by omega
  obtain ⟨j, hj⟩ : ∃ j, j = (-L + 348).toNat := ⟨_, rfl⟩
  obtain ⟨h1, h2, h3, h4⟩ := row_ok j (by omega)
  obtain ⟨umin, hmin, a0, a1, _⟩ := us (m - 549755813888) (hiAt j) (loAt j) s (by omega) (by omega) h1 h2 h3 h4 hsb.1 hsb.2.1
  obtain ⟨umax, hmax, b0, b1, _⟩ := us (m + 549755813888) (hiAt j) (loAt j) s (by omega) (by omega) h1 h2 h3 h4 hsb.1 hsb.2.1
  obtain ⟨um, hum, _, c1, c0⟩ := us m (hiAt j) (loAt j) s (by omega) (by omega) h1 h2 h3 h4 hsb.1 hsb.2.1
  have c0 := c0 m0
  have hod := and1i (m / 1099511627776)
  have n6 : wrap64 (m / 1099511627776) = m / 1099511627776 := by unfold wrap64; omega
  rw [← n6] at hod
  clear n6
  obtain ⟨odd, hodd⟩ : ∃ o, Go.bits .and .i64 (wrap64 (m / 1099511627776)) 1 = o := ⟨_, rfl⟩
  rw [hodd] at hod
  obtain ⟨dmin, dmax, dm, d1, d2, d3, r1, r2, r3, r4, r5, r6⟩ := pick umin umax um odd a0 a1 b0 b1 c0 c1 hod
  have n2 : IntKind.i64.wrap (e + 40) = e + 40 := by rw [IntKind.wrap_i64]; omega
  have n3 : IntKind.i64.wrap (-L) = -L := by rw [IntKind.wrap_i64]; omega
  have n4 : IntKind.u64.wrap (m - 549755813888) = m - 549755813888 := uw _ (by omega) (by omega)
  have n5 : IntKind.u64.wrap (m + 549755813888) = m + 549755813888 := uw _ (by omega) (by omega)
  have n7 : IntKind.i64.wrap (-odd) = -odd := by rw [IntKind.wrap_i64]; omega
  have n8 : IntKind.u64.wrap (umin + IntKind.u64.wrap odd) = umin + odd := by simp only [IntKind.wrap_u64]; omega
  have n9 : IntKind.u64.wrap (umax + IntKind.u64.wrap (-odd)) = umax - odd := by simp only [IntKind.wrap_u64]; omega
  have n10 : IntKind.i64.wrap (-L - 1) = -L - 1 := by rw [IntKind.wrap_i64]; omega
  have n11 : IntKind.i64.wrap (-(-L - 1)) = -(-L - 1) := by rw [IntKind.wrap_i64]; omega
  have n12 : IntKind.i64.wrap (- -L) = - -L := by rw [IntKind.wrap_i64]; omega
  have n14 : IntKind.u64.wrap (dmax.tdiv 10) = dmax / 10 := by rw [Int.tdiv_eq_ediv_of_nonneg r2]; exact uw _ (by omega) (by omega)
  have n13 : IntKind.u64.wrap (dmax / 10 * 10) = dmax / 10 * 10 := uw _ (by omega) (by omega)
  have HL := Aside0.mk hL
  have HLP := Aside0.mk hlp
  have HS := Aside0.mk hs
  have HJ := Aside0.mk hj
  have HMIN := Aside0.mk hmin
  have HMAX := Aside0.mk hmax
  have HM := Aside0.mk hum
  have HD := Aside0.mk (And.intro d1 (And.intro d2 d3))
  have HU : Aside0 ((odd = 0 ∨ odd = 1) ∧ 1 ≤ umin ∧ umin ≤ 4611686018427387905 ∧ 1 ≤ umax ∧ umax ≤ 4611686018427387905 ∧ 3 ≤ um ∧ um ≤ 4611686018427387905) := Aside0.mk ⟨hod, a0, a1, b0, b1, c0, c1⟩
  clear hmin hmax hum hL hlp hs hj
  obtain ⟨d, p, hd0, hd1, hp0, hp1, hdp⟩ : ∃ d p : Int, 1 ≤ d ∧ d < 18446744073709551616 ∧ -400 ≤ p ∧ p ≤ 400 ∧ ((dmin ≤ dmax / 10 * 10 ∧ d = dmax / 10 ∧ p = -(-L - 1)) ∨ (dmax / 10 * 10 < dmin ∧ dmin < dmax ∧ d = dm ∧ p = L) ∨ (dmax / 10 * 10 < dmin ∧ dmax ≤ dmin ∧ d = dmin ∧ p = L)) := by
    by_cases g1 : dmin ≤ dmax / 10 * 10
    · exact ⟨dmax / 10, -(-L - 1), by omega, by omega, by omega, by omega, .inl ⟨g1, rfl, rfl⟩⟩
    · by_cases g2 : dmin < dmax
      · exact ⟨dm, L, by omega, by omega, by omega, by omega, .inr (.inl ⟨by omega, g2, rfl, rfl⟩)⟩
      · exact ⟨dmin, L, by omega, by omega, by omega, by omega, .inr (.inr ⟨by omega, by omega, rfl, rfl⟩)⟩
  refine ⟨d, p, hd0, hd1, hp0, hp1, fun w hT => ?_⟩
  clear hod h1 h2 h3 h4 d1 d2 d3 m0 m1 a0 a1 b0 b1 c0 c1 r1 r2 r3 r4 r5 r6 hd0 hd1 hp0 hp1
  rcases hdp with ⟨g1, x1, x2⟩ | ⟨g1, g2, x1, x2⟩ | ⟨g1, g2, x1, x2⟩
  all_goals
    rw [x1, x2]
    clear x1 x2
    go_enter Tryd.func106, Tryd.ntmps106
    go_wp2_with (first
      | (go_at_call 96; go_must (refine (l10 (e + 40) ?h0 ?h1 _).mono ?_; (case h0 => omega); (case h1 => omega); rintro en w1 ⟨rfl, rfl⟩; rw [← HL.out]))
      | (go_at_call 120; go_must (refine (l2 (-L) ?h0 ?h1 _).mono ?_; (case h0 => omega); (case h1 => omega); rintro en w1 ⟨rfl, rfl⟩; rw [← HLP.out]))
      | (go_at_call 119; go_must (refine (pres w.heap.size e (-L) lp 0 0 0 ?h0 ?h1 ?h2 ?h3 ?h4 ?h5 w _ (IsS170.new w w 0 0 0 (Below.refl _ _)) (below_alloc (Below.refl _ _) _) hT).mono ?_; (case h0 => omega); (case h1 => omega); (case h2 => omega); (case h3 => omega); (case h4 => omega); (case h5 => omega); rintro en w1 ⟨rfl, hI, hB⟩; rw [← HJ.out, ← HS.out] at hI; have HI := Aside0.mk hI; clear hI))
      | (go_at_call 121; go_must ((first
          | (with_reducible refine (strconv_uscale.calls (m - 549755813888) w.heap.size _ _ _ _ _ _ _ w _ HI.out hB HMIN.out).mono ?_)
          | (with_reducible refine (strconv_uscale.calls (m + 549755813888) w.heap.size _ _ _ _ _ _ _ w _ HI.out hB HMAX.out).mono ?_)
          | (with_reducible refine (strconv_uscale.calls m w.heap.size _ _ _ _ _ _ _ w _ HI.out hB HM.out).mono ?_)); rintro en w2 ⟨rfl, hI, hB, _⟩; have HI := Aside0.mk hI; clear hI))
      | (go_at_call 122; go_must ((first
          | (with_reducible refine (nud umin odd _ n8 _).mono ?_)
          | (with_reducible refine (nud umax (-odd) _ n9 _).mono ?_)); rintro en w2 ⟨rfl, rfl⟩))
      | (go_at_call 123; go_must (refine (cei (umin + odd) ?h0 ?h1 _).mono ?_; (case h0 => have := HU.out; omega); (case h1 => have := HU.out; omega); rintro en w2 ⟨rfl, rfl⟩; rw [← HD.out.1]))
      | (go_at_call 124; go_must (refine (flo (umax - odd) ?h0 ?h1 _).mono ?_; (case h0 => have := HU.out; omega); (case h1 => have := HU.out; omega); rintro en w2 ⟨rfl, rfl⟩; rw [← HD.out.2.1]))
      | (go_at_call 125; go_must (refine (rou um ?h0 ?h1 _).mono ?_; (case h0 => have := HU.out; omega); (case h1 => have := HU.out; omega); rintro en w2 ⟨rfl, rfl⟩; rw [← HD.out.2.2])))
    go_ret2
    exact ⟨rfl, hB⟩

end Go.Proofs.YtdggjpdhbailpaaDoor.Sf3
