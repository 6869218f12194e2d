/- The walks of shortFloat at its third branch (floats below the normal ones). Condition: the table pow10Tab reads as laid. -/
import Derived.Test.YtdggjpdhbailpaaDoorZSf3
namespace Go.Proofs.YtdggjpdhbailpaaDoor.Sf4
open Go.RowKit Go.Proofs.YtdggjpdhbailpaaDoorW.PrintWords Go.Proofs.YtdggjpdhbailpaaDoorW.PrintLast Go.Proofs.YtdggjpdhbailpaaDoorW.PrintMore Go.Proofs.YtdggjpdhbailpaaDoor.Lf Go.Proofs.YtdggjpdhbailpaaDoor.PFnTextAscii Go.Proofs.YtdggjpdhbailpaaDoor.Sf1 Go.Proofs.YtdggjpdhbailpaaDoor.Sf2 Go.Proofs.YtdggjpdhbailpaaDoor.Sf3

theorem eqB (b : Bool) : b = true ∨ b = false := by cases b <;> simp

set_option maxHeartbeats 1000000 in
theorem sf64C (m e z T : Int) (hz : z = -1074 - e) (z0 : 12 ≤ z) (z1 : z ≤ 63) (hT : T = 2 ^ (z.toNat - 1)) (m0 : 9223372036854775808 ≤ m) (m1 : m + 2 * T ≤ 18446744073709551616) : ShortOk 112 m e := by
  have hTb : 1 ≤ T ∧ T ≤ 4611686018427387904 := by
    have h : ∀ n : Fin 64, (1 : Int) ≤ 2 ^ (n.val - 1) ∧ (2 : Int) ^ (n.val - 1) ≤ 4611686018427387904 := by decide +kernel
    have := h ⟨z.toNat, by omega⟩
    rw [hT]
    exact this
  have k1 : IntKind.u64.wrap (2 ^ (z.toNat - 1)) = T := by rw [← hT]; exact uw _ (by omega) (by omega)
  clear hT
  have he : e < -1085 := by omega
  obtain ⟨s, hs⟩ : ∃ s : Int, s = -(e + 1076 + 3) := ⟨_, rfl⟩
  have hsb : 2 ≤ s ∧ s ≤ 60 := by omega
  obtain ⟨j, hj⟩ : ∃ j, j = ((324 : Int) + 348).toNat := ⟨_, rfl⟩
  obtain ⟨h1, h2, h3, h4⟩ := row_ok j (by omega)
  obtain ⟨umin, hmin, a0, a1, _⟩ := us (m - T) (hiAt j) (loAt j) s (by omega) (by omega) h1 h2 h3 h4 hsb.1 hsb.2
  obtain ⟨umax, hmax, b0, b1, _⟩ := us (m + T) (hiAt j) (loAt j) s (by omega) (by omega) h1 h2 h3 h4 hsb.1 hsb.2
  obtain ⟨um, hum, _, c1, c0⟩ := us m (hiAt j) (loAt j) s (by omega) (by omega) h1 h2 h3 h4 hsb.1 hsb.2
  have c0 := c0 m0
  obtain ⟨odd, hodd⟩ : ∃ o, Go.bits .and .i64 (wrap64 (m / 2 ^ z.toNat)) 1 = o := ⟨_, rfl⟩
  have hod := and1i (wrap64 (m / 2 ^ z.toNat))
  rw [hodd] at hod
  obtain ⟨dmin, dmax, dm, d1, d2, d3, r1, r2, r3, r4, r5, r6⟩ := pick umin umax um odd a0 a1 b0 b1 c0 c1 hod
  have n1 : IntKind.i64.wrap (-1085 - e) = -1085 - e := by rw [IntKind.wrap_i64]; omega
  have n2 : IntKind.i64.wrap (11 + (-1085 - e)) = z := by rw [IntKind.wrap_i64]; omega
  have n3 : IntKind.i64.wrap (e + z) = -1074 := by rw [IntKind.wrap_i64]; omega
  have n0 : IntKind.i64.wrap (z - 1) = z - 1 := by rw [IntKind.wrap_i64]; omega
  have n4 : IntKind.u64.wrap (m - T) = m - T := uw _ (by omega) (by omega)
  have n5 : IntKind.u64.wrap (m + T) = m + T := uw _ (by omega) (by omega)
  have n7 : IntKind.i64.wrap (-odd) = -odd := by rw [IntKind.wrap_i64]; omega
  have n8 : IntKind.u64.wrap (umin + IntKind.u64.wrap odd) = umin + odd := by simp only [IntKind.wrap_u64]; omega
  have n9 : IntKind.u64.wrap (umax + IntKind.u64.wrap (-odd)) = umax - odd := by simp only [IntKind.wrap_u64]; omega
  have n14 : IntKind.u64.wrap (dmax.tdiv 10) = dmax / 10 := by rw [Int.tdiv_eq_ediv_of_nonneg r2]; exact uw _ (by omega) (by omega)
  have n13 : IntKind.u64.wrap (dmax / 10 * 10) = dmax / 10 * 10 := uw _ (by omega) (by omega)
  have HS := Aside0.mk hs
  have HJ := Aside0.mk hj
  have HMIN := Aside0.mk hmin
  have HMAX := Aside0.mk hmax
  have HM := Aside0.mk hum
  have HD := Aside0.mk (And.intro d1 (And.intro d2 d3))
  have HU : Aside0 ((odd = 0 ∨ odd = 1) ∧ 1 ≤ umin ∧ umin ≤ 4611686018427387905 ∧ 1 ≤ umax ∧ umax ≤ 4611686018427387905 ∧ 3 ≤ um ∧ um ≤ 4611686018427387905) := Aside0.mk ⟨hod, a0, a1, b0, b1, c0, c1⟩
  have HB0 : -300 ≤ e + 0 ∨ True := .inr trivial
  clear HB0
  have hee : -5000 ≤ e ∧ e ≤ 5000 := by omega
  clear hmin hmax hum hs hj hz
  obtain ⟨d, p, hd0, hd1, hp0, hp1, hdp⟩ : ∃ d p : Int, 1 ≤ d ∧ d < 18446744073709551616 ∧ -400 ≤ p ∧ p ≤ 400 ∧ ((dmin ≤ dmax / 10 * 10 ∧ d = dmax / 10 ∧ p = -323) ∨ (dmax / 10 * 10 < dmin ∧ dmin < dmax ∧ d = dm ∧ p = -324) ∨ (dmax / 10 * 10 < dmin ∧ dmax ≤ dmin ∧ d = dmin ∧ p = -324)) := by
    by_cases g1 : dmin ≤ dmax / 10 * 10
    · exact ⟨dmax / 10, -323, by omega, by omega, by omega, by omega, .inl ⟨g1, rfl, rfl⟩⟩
    · by_cases g2 : dmin < dmax
      · exact ⟨dm, -324, by omega, by omega, by omega, by omega, .inr (.inl ⟨by omega, g2, rfl, rfl⟩)⟩
      · exact ⟨dmin, -324, by omega, by omega, by omega, by omega, .inr (.inr ⟨by omega, by omega, rfl, rfl⟩)⟩
  refine ⟨d, p, hd0, hd1, hp0, hp1, fun w hT => ?_⟩
  clear hod h1 h2 h3 h4 d1 d2 d3 m0 m1 a0 a1 b0 b1 c0 c1 r1 r2 r3 r4 r5 r6 hd0 hd1 hp0 hp1
  rcases eqB (m == 9223372036854775808) with hm2 | hm2
  all_goals rcases hdp with ⟨g1, x1, x2⟩ | ⟨g1, g2, x1, x2⟩ | ⟨g1, g2, x1, x2⟩
  all_goals
    rw [x1, x2]
    clear x1 x2
    go_enter Tryd.func112, Tryd.ntmps112
    go_wp2_with (first
      | (go_at_call 96; go_must (refine (l10 (-1074) ?h0 ?h1 _).mono ?_; (case h0 => omega); (case h1 => omega); rintro en w1 ⟨rfl, rfl⟩))
      | (go_at_call 120; go_must (refine (l2 324 ?h0 ?h1 _).mono ?_; (case h0 => omega); (case h1 => omega); rintro en w1 ⟨rfl, rfl⟩))
      | (go_at_call 119; go_must (refine (pres w.heap.size e 324 1076 0 0 0 ?h0 ?h1 ?h2 ?h3 ?h4 ?h5 w _ (IsS170.new w w 0 0 0 (Below.refl _ _)) (below_alloc (Below.refl _ _) _) hT).mono ?_; (case h0 => omega); (case h1 => omega); (case h2 => omega); (case h3 => omega); (case h4 => omega); (case h5 => omega); rintro en w1 ⟨rfl, hI, hB⟩; rw [← HJ.out, ← HS.out] at hI; have HI := Aside0.mk hI; clear hI))
      | (go_at_call 121; go_must ((first
          | (with_reducible refine (strconv_uscale.calls (m - T) w.heap.size _ _ _ _ _ _ _ w _ HI.out hB HMIN.out).mono ?_)
          | (with_reducible refine (strconv_uscale.calls (m + T) w.heap.size _ _ _ _ _ _ _ w _ HI.out hB HMAX.out).mono ?_)
          | (with_reducible refine (strconv_uscale.calls m w.heap.size _ _ _ _ _ _ _ w _ HI.out hB HM.out).mono ?_)); rintro en w2 ⟨rfl, hI, hB, _⟩; have HI := Aside0.mk hI; clear hI))
      | (go_at_call 122; go_must ((first
          | (with_reducible refine (nud umin odd _ n8 _).mono ?_)
          | (with_reducible refine (nud umax (-odd) _ n9 _).mono ?_)); rintro en w2 ⟨rfl, rfl⟩))
      | (go_at_call 123; go_must (refine (cei (umin + odd) ?h0 ?h1 _).mono ?_; (case h0 => have := HU.out; omega); (case h1 => have := HU.out; omega); rintro en w2 ⟨rfl, rfl⟩; rw [← HD.out.1]))
      | (go_at_call 124; go_must (refine (flo (umax - odd) ?h0 ?h1 _).mono ?_; (case h0 => have := HU.out; omega); (case h1 => have := HU.out; omega); rintro en w2 ⟨rfl, rfl⟩; rw [← HD.out.2.1]))
      | (go_at_call 125; go_must (refine (rou um ?h0 ?h1 _).mono ?_; (case h0 => have := HU.out; omega); (case h1 => have := HU.out; omega); rintro en w2 ⟨rfl, rfl⟩; rw [← HD.out.2.2])))
    go_ret2
    exact ⟨rfl, hB⟩

set_option maxHeartbeats 1000000 in
theorem sf32C (m e z T : Int) (hz : z = -149 - e) (z0 : 41 ≤ z) (z1 : z ≤ 63) (hT : T = 2 ^ (z.toNat - 1)) (m0 : 9223372036854775808 ≤ m) (m1 : m + 2 * T ≤ 18446744073709551616) : ShortOk 106 m e := by
  have hTb : 1 ≤ T ∧ T ≤ 4611686018427387904 := by
    have h : ∀ n : Fin 64, (1 : Int) ≤ 2 ^ (n.val - 1) ∧ (2 : Int) ^ (n.val - 1) ≤ 4611686018427387904 := by decide +kernel
    have := h ⟨z.toNat, by omega⟩
    rw [hT]
    exact this
  have k1 : IntKind.u64.wrap (2 ^ (z.toNat - 1)) = T := by rw [← hT]; exact uw _ (by omega) (by omega)
  clear hT
  have he : e < -189 := by omega
  obtain ⟨s, hs⟩ : ∃ s : Int, s = -(e + 149 + 3) := ⟨_, rfl⟩
  have hsb : 2 ≤ s ∧ s ≤ 60 := by omega
  obtain ⟨j, hj⟩ : ∃ j, j = ((45 : Int) + 348).toNat := ⟨_, rfl⟩
  obtain ⟨h1, h2, h3, h4⟩ := row_ok j (by omega)
  obtain ⟨umin, hmin, a0, a1, _⟩ := us (m - T) (hiAt j) (loAt j) s (by omega) (by omega) h1 h2 h3 h4 hsb.1 hsb.2
  obtain ⟨umax, hmax, b0, b1, _⟩ := us (m + T) (hiAt j) (loAt j) s (by omega) (by omega) h1 h2 h3 h4 hsb.1 hsb.2
  obtain ⟨um, hum, _, c1, c0⟩ := us m (hiAt j) (loAt j) s (by omega) (by omega) h1 h2 h3 h4 hsb.1 hsb.2
  have c0 := c0 m0
  obtain ⟨odd, hodd⟩ : ∃ o, Go.bits .and .i64 (wrap64 (m / 2 ^ z.toNat)) 1 = o := ⟨_, rfl⟩
  have hod := and1i (wrap64 (m / 2 ^ z.toNat))
  rw [hodd] at hod
  obtain ⟨dmin, dmax, dm, d1, d2, d3, r1, r2, r3, r4, r5, r6⟩ := pick umin umax um odd a0 a1 b0 b1 c0 c1 hod
  have n1 : IntKind.i64.wrap (-189 - e) = -189 - e := by rw [IntKind.wrap_i64]; omega
  have n2 : IntKind.i64.wrap (40 + (-189 - e)) = z := by rw [IntKind.wrap_i64]; omega
  have n3 : IntKind.i64.wrap (e + z) = -149 := by rw [IntKind.wrap_i64]; omega
  have n0 : IntKind.i64.wrap (z - 1) = z - 1 := by rw [IntKind.wrap_i64]; omega
  have n4 : IntKind.u64.wrap (m - T) = m - T := uw _ (by omega) (by omega)
  have n5 : IntKind.u64.wrap (m + T) = m + T := uw _ (by omega) (by omega)
  have n7 : IntKind.i64.wrap (-odd) = -odd := by rw [IntKind.wrap_i64]; omega
  have n8 : IntKind.u64.wrap (umin + IntKind.u64.wrap odd) = umin + odd := by simp only [IntKind.wrap_u64]; omega
  have n9 : IntKind.u64.wrap (umax + IntKind.u64.wrap (-odd)) = umax - odd := by simp only [IntKind.wrap_u64]; omega
  have n14 : IntKind.u64.wrap (dmax.tdiv 10) = dmax / 10 := by rw [Int.tdiv_eq_ediv_of_nonneg r2]; exact uw _ (by omega) (by omega)
  have n13 : IntKind.u64.wrap (dmax / 10 * 10) = dmax / 10 * 10 := uw _ (by omega) (by omega)
  have HS := Aside0.mk hs
  have HJ := Aside0.mk hj
  have HMIN := Aside0.mk hmin
  have HMAX := Aside0.mk hmax
  have HM := Aside0.mk hum
  have HD := Aside0.mk (And.intro d1 (And.intro d2 d3))
  have HU : Aside0 ((odd = 0 ∨ odd = 1) ∧ 1 ≤ umin ∧ umin ≤ 4611686018427387905 ∧ 1 ≤ umax ∧ umax ≤ 4611686018427387905 ∧ 3 ≤ um ∧ um ≤ 4611686018427387905) := Aside0.mk ⟨hod, a0, a1, b0, b1, c0, c1⟩
  have HB0 : -300 ≤ e + 0 ∨ True := .inr trivial
  clear HB0
  have hee : -5000 ≤ e ∧ e ≤ 5000 := by omega
  clear hmin hmax hum hs hj hz
  obtain ⟨d, p, hd0, hd1, hp0, hp1, hdp⟩ : ∃ d p : Int, 1 ≤ d ∧ d < 18446744073709551616 ∧ -400 ≤ p ∧ p ≤ 400 ∧ ((dmin ≤ dmax / 10 * 10 ∧ d = dmax / 10 ∧ p = -44) ∨ (dmax / 10 * 10 < dmin ∧ dmin < dmax ∧ d = dm ∧ p = -45) ∨ (dmax / 10 * 10 < dmin ∧ dmax ≤ dmin ∧ d = dmin ∧ p = -45)) := by
    by_cases g1 : dmin ≤ dmax / 10 * 10
    · exact ⟨dmax / 10, -44, by omega, by omega, by omega, by omega, .inl ⟨g1, rfl, rfl⟩⟩
    · by_cases g2 : dmin < dmax
      · exact ⟨dm, -45, by omega, by omega, by omega, by omega, .inr (.inl ⟨by omega, g2, rfl, rfl⟩)⟩
      · exact ⟨dmin, -45, by omega, by omega, by omega, by omega, .inr (.inr ⟨by omega, by omega, rfl, rfl⟩)⟩
  refine ⟨d, p, hd0, hd1, hp0, hp1, fun w hT => ?_⟩
  clear hod h1 h2 h3 h4 d1 d2 d3 m0 m1 a0 a1 b0 b1 c0 c1 r1 r2 r3 r4 r5 r6 hd0 hd1 hp0 hp1
  rcases eqB (m == 9223372036854775808) with hm2 | hm2
  all_goals rcases hdp with ⟨g1, x1, x2⟩ | ⟨g1, g2, x1, x2⟩ | ⟨g1, g2, x1, x2⟩
  all_goals
    rw [x1, x2]
    clear x1 x2
    go_enter Tryd.func106, Tryd.ntmps106
    go_wp2_with (first
      | (go_at_call 96; go_must (refine (l10 (-149) ?h0 ?h1 _).mono ?_; (case h0 => omega); (case h1 => omega); rintro en w1 ⟨rfl, rfl⟩))
      | (go_at_call 120; go_must (refine (l2 45 ?h0 ?h1 _).mono ?_; (case h0 => omega); (case h1 => omega); rintro en w1 ⟨rfl, rfl⟩))
      | (go_at_call 119; go_must (refine (pres w.heap.size e 45 149 0 0 0 ?h0 ?h1 ?h2 ?h3 ?h4 ?h5 w _ (IsS170.new w w 0 0 0 (Below.refl _ _)) (below_alloc (Below.refl _ _) _) hT).mono ?_; (case h0 => omega); (case h1 => omega); (case h2 => omega); (case h3 => omega); (case h4 => omega); (case h5 => omega); rintro en w1 ⟨rfl, hI, hB⟩; rw [← HJ.out, ← HS.out] at hI; have HI := Aside0.mk hI; clear hI))
      | (go_at_call 121; go_must ((first
          | (with_reducible refine (strconv_uscale.calls (m - T) w.heap.size _ _ _ _ _ _ _ w _ HI.out hB HMIN.out).mono ?_)
          | (with_reducible refine (strconv_uscale.calls (m + T) w.heap.size _ _ _ _ _ _ _ w _ HI.out hB HMAX.out).mono ?_)
          | (with_reducible refine (strconv_uscale.calls m w.heap.size _ _ _ _ _ _ _ w _ HI.out hB HM.out).mono ?_)); rintro en w2 ⟨rfl, hI, hB, _⟩; have HI := Aside0.mk hI; clear hI))
      | (go_at_call 122; go_must ((first
          | (with_reducible refine (nud umin odd _ n8 _).mono ?_)
          | (with_reducible refine (nud umax (-odd) _ n9 _).mono ?_)); rintro en w2 ⟨rfl, rfl⟩))
      | (go_at_call 123; go_must (refine (cei (umin + odd) ?h0 ?h1 _).mono ?_; (case h0 => have := HU.out; omega); (case h1 => have := HU.out; omega); rintro en w2 ⟨rfl, rfl⟩; rw [← HD.out.1]))
      | (go_at_call 124; go_must (refine (flo (umax - odd) ?h0 ?h1 _).mono ?_; (case h0 => have := HU.out; omega); (case h1 => have := HU.out; omega); rintro en w2 ⟨rfl, rfl⟩; rw [← HD.out.2.1]))
      | (go_at_call 125; go_must (refine (rou um ?h0 ?h1 _).mono ?_; (case h0 => have := HU.out; omega); (case h1 => have := HU.out; omega); rintro en w2 ⟨rfl, rfl⟩; rw [← HD.out.2.2])))
    go_ret2
    exact ⟨rfl, hB⟩

end Go.Proofs.YtdggjpdhbailpaaDoor.Sf4
