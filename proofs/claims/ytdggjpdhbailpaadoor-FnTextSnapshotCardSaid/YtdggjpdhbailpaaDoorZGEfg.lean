/- The walk of fmtEFG: turned from a printed text. Conditions: the row that it appends to is the call's own; the digits' row is kept. -/
import Derived.Test.YtdggjpdhbailpaaDoorZWords
import Derived.Test.YtdggjpdhbailpaaDoorZG0
import Derived.Test.YtdggjpdhbailpaaDoorZEfgd
namespace Go.Proofs.YtdggjpdhbailpaaDoor.Efg
open Go.Proofs.YtdggjpdhbailpaaDoor.PFnTextAscii Go.Proofs.YtdggjpdhbailpaaDoor.Efgd Go.RowKit Go.Proofs.YtdggjpdhbailpaaDoorW.PrintWords Go.Proofs.YtdggjpdhbailpaaDoorW.PrintLast Go.Proofs.YtdggjpdhbailpaaDoorW.PrintMore
attribute [local go_sem] max2_int min2_int max_two min_two max_three min_three max_four min_four   -- for this text's walks alone
set_option linter.unusedVariables false
set_option linter.unusedSimpArgs false
set_option linter.unusedSectionVars false
set_option linter.unusedVariables false
variable [γ_ : Gho]
set_option maxHeartbeats 8000000 in
set_option maxRecDepth 100000 in
theorem strconv_fmtEFG.calls (k : Nat) (P0_ : Nat → Prop) (u9000_ : Value) (l0 : List Int) (a1 : Bool) (A2 : Option Addr) (c2 : Nat) (l2 : List Int) (a3 : Int) (a4 : Int) (a5 : Int) (a6 : Int) (a7 : Bool) (r : List Int) (w0 w : World) (hB : Below w0.heap.size w0 w) (ho0 : Kd.G (Kd.int .u8) 5 w w0.heap.size P0_ u9000_ l0) (hr2 : ∀ W_, Kept w W_ (fun k_ => P0_ k_) → Kd.C (Kd.int .u8) W_ A2 l2.length l2) (hc2 : l2.length ≤ c2) (h : strconv_fmtEFG.f k l0 a1 l2 a3 a4 a5 a6 a7 = some r) :
    Calls Tryd.prog 105 #[u9000_, .bool a1, .slice A2 l2.length c2, .int .i64 a3, .int .i64 a4, .int .i64 a5, .int .u8 a6, .bool a7] w fun e w' => ∃ v0_ : Value, e = .returned (v0_) ∧ Kd.G (Kd.int .u8) 5 w' w0.heap.size (fun k_ => (P0_ k_ ∨ w.heap.size ≤ k_)) v0_ r ∧ Below w0.heap.size w0 w' ∧ Kept w w' (fun k_ => P0_ k_) := by
  have HO0 := Aside0.mk (show Kd.G (Kd.int .u8) 5 w w0.heap.size (fun k_ => (P0_ k_ ∨ w.heap.size ≤ k_)) u9000_ l0 from Kd.G_mono ho0 (fun k_ hk => (.inl hk)))
  have HR2 := Aside0.mk hr2
  have HC2 := Aside0.mk hc2
  clear hr2 hc2
  have HK := Aside0.mk (Kept.refl w (fun k_ => P0_ k_))
  have HW0 := Aside0.mk hB.size
  have HB := Aside0.mk hB
  clear hB
  have H : (if a6 = 103 then (strconv_fmtEFG.j0 k l0 a1 l2 a3 a4 a5 a6 a7 true) else (strconv_fmtEFG.j0 k l0 a1 l2 a3 a4 a5 a6 a7 (a6 == 71))) = some r := h
  clear h
  have HC9 := Aside0.mk H
  clear H
  go_enter Tryd.func105, Tryd.ntmps105
  go_upto_region 1 with (fail)
  go_cut [36] (fun v36 wc => ∃ (kq : Nat) (x36_8 : Bool), v36 = .bool x36_8 ∧ Aside0 (strconv_fmtEFG.j0 kq l0 a1 l2 a3 a4 a5 a6 a7 x36_8 = some r) ∧ Aside0 (kq ≤ k) ∧ Aside0 (Kd.G (Kd.int .u8) 5 wc w0.heap.size (fun k_ => (P0_ k_ ∨ w.heap.size ≤ k_)) u9000_ l0) ∧ Aside0 (Kept w wc (fun k_ => P0_ k_)) ∧ Aside0 (Below w0.heap.size w0 wc))
  case first => as_aux_lemma =>
    have H := HC9.out
    clear HC9
    by_cases c10 : a6 = 103
    · rw [if_pos c10] at H
      have c10b0 : (a6 == 103) = true := beq_iff_eq.mpr c10
      have c10b1 : (a6 != 103) = false := bne_eq_false_iff_eq.mpr c10
      clear c10
      (first | rw [c10b0] | (simp only [i64_w, i32_w]; rw [c10b0]) | skip)
      have H' := Aside0.mk H
      clear H
      go_wp2
      go_meet
      case rel => exact ⟨_, (true), (by first | rfl | (simp; done) | (simp [*]; done)), H', ⟨by first | omega | exact Nat.le_refl _⟩, ⟨by (with_reducible repeat (first | apply Kd.R_alloc | apply Kd.G_alloc | apply Kd.R_drewN | apply Kd.G_drewN | apply Kd.R_drew | apply Kd.G_drew)); exact HO0.out⟩, ⟨by repeat (first | (with_reducible first | exact HK.out | apply Kept.alloc | apply Kept.drewN | apply Kept.drew) | exact HK.out)⟩, ⟨by repeat (first | (with_reducible first | exact HB.out | apply below_alloc | apply pw_below_drewN | apply below_drew1) | exact HB.out)⟩⟩
    · rw [if_neg c10] at H
      have c10b0 : (a6 == 103) = false := beq_eq_false_iff_ne.mpr c10
      have c10b1 : (a6 != 103) = true := bne_iff_ne.mpr c10
      (first | rw [c10b0] | (simp only [i64_w, i32_w]; rw [c10b0]) | skip)
      have H' := Aside0.mk H
      clear H
      go_wp2
      go_meet
      case rel => exact ⟨_, ((a6 == 71)), (by first | rfl | (simp; done) | (simp [*]; done)), H', ⟨by first | omega | exact Nat.le_refl _⟩, ⟨by (with_reducible repeat (first | apply Kd.R_alloc | apply Kd.G_alloc | apply Kd.R_drewN | apply Kd.G_drewN | apply Kd.R_drew | apply Kd.G_drew)); exact HO0.out⟩, ⟨by repeat (first | (with_reducible first | exact HK.out | apply Kept.alloc | apply Kept.drewN | apply Kept.drew) | exact HK.out)⟩, ⟨by repeat (first | (with_reducible first | exact HB.out | apply below_alloc | apply pw_below_drewN | apply below_drew1) | exact HB.out)⟩⟩
  case rest => as_aux_lemma =>
    clear HC9
    try clear c1; try clear c2; try clear p2; try clear c10; try clear c10b0; try clear c10b1
    obtain ⟨kq, x36_8, rfl, HA, HJ8, HO_0, HK, HB⟩ := hcut
    cases kq with
    | zero => exact absurd HA.out (by simp [strconv_fmtEFG.j0])
    | succ kj8 =>
      have H := HA.out
      clear HA
      simp only [strconv_fmtEFG.j0] at H
      have HC11 := Aside0.mk H
      clear H
      go_upto_if 36 with (fail)
      go_cut [5, 6] (fun v5 v6 wc => ∃ (kq : Nat) (x5_10 : Int) (x6_10 : Int), v5 = .int .i64 x5_10 ∧ v6 = .int .u8 x6_10 ∧ Aside0 (strconv_fmtEFG.j5 kq l0 a1 l2 a3 a4 x5_10 x6_10 = some r) ∧ Aside0 (kq ≤ kj8) ∧ Aside0 (Kd.G (Kd.int .u8) 5 wc w0.heap.size (fun k_ => (P0_ k_ ∨ w.heap.size ≤ k_)) u9000_ l0) ∧ Aside0 (Kept w wc (fun k_ => P0_ k_)) ∧ Aside0 (Below w0.heap.size w0 wc))
      case first => as_aux_lemma =>
        have H := HC11.out
        clear HC11
        by_cases c12 : x36_8 = true
        · subst c12
          have H1 : (if a5 > a4 then (strconv_fmtEFG.j1 kj8 l0 a1 l2 a3 a4 a5 a6 a7 a5 (decide (a4 ≥ a3))) else (strconv_fmtEFG.j1 kj8 l0 a1 l2 a3 a4 a5 a6 a7 a5 false)) = some r := by rw [if_pos rfl] at H; exact H
          clear H
          have H := H1
          clear H1
          have HC13 := Aside0.mk H
          clear H
          go_upto_region 3 with (fail)
          go_cut [45] (fun v45 wc => ∃ (kq : Nat) (x45_12 : Bool), v45 = .bool x45_12 ∧ Aside0 (strconv_fmtEFG.j1 kq l0 a1 l2 a3 a4 a5 a6 a7 a5 x45_12 = some r) ∧ Aside0 (kq ≤ kj8) ∧ Aside0 (Kd.G (Kd.int .u8) 5 wc w0.heap.size (fun k_ => (P0_ k_ ∨ w.heap.size ≤ k_)) u9000_ l0) ∧ Aside0 (Kept w wc (fun k_ => P0_ k_)) ∧ Aside0 (Below w0.heap.size w0 wc))
          case first => as_aux_lemma =>
            have H := HC13.out
            clear HC13
            by_cases c14 : a5 > a4
            · rw [if_pos c14] at H
              have c14b0 : decide (a4 < a5) = true := decide_eq_true c14
              clear c14
              (first | rw [c14b0] | (simp only [i64_w, i32_w]; rw [c14b0]) | skip)
              have H' := Aside0.mk H
              clear H
              go_wp2
              go_meet
              case rel => exact ⟨_, (decide (a4 ≥ a3)), (by first | rfl | (simp; done) | (simp [*]; done)), H', ⟨by have := HJ8.out; first | omega | exact Nat.le_refl _⟩, ⟨by (with_reducible repeat (first | apply Kd.R_alloc | apply Kd.G_alloc | apply Kd.R_drewN | apply Kd.G_drewN | apply Kd.R_drew | apply Kd.G_drew)); exact HO_0.out⟩, ⟨by repeat (first | (with_reducible first | exact HK.out | apply Kept.alloc | apply Kept.drewN | apply Kept.drew) | exact HK.out)⟩, ⟨by repeat (first | (with_reducible first | exact HB.out | apply below_alloc | apply pw_below_drewN | apply below_drew1) | exact HB.out)⟩⟩
            · rw [if_neg c14] at H
              have c14b0 : decide (a4 < a5) = false := decide_eq_false c14
              clear c14
              (first | rw [c14b0] | (simp only [i64_w, i32_w]; rw [c14b0]) | skip)
              have H' := Aside0.mk H
              clear H
              go_wp2
              go_meet
              case rel => exact ⟨_, (false), (by first | rfl | (simp; done) | (simp [*]; done)), H', ⟨by have := HJ8.out; first | omega | exact Nat.le_refl _⟩, ⟨by (with_reducible repeat (first | apply Kd.R_alloc | apply Kd.G_alloc | apply Kd.R_drewN | apply Kd.G_drewN | apply Kd.R_drew | apply Kd.G_drew)); exact HO_0.out⟩, ⟨by repeat (first | (with_reducible first | exact HK.out | apply Kept.alloc | apply Kept.drewN | apply Kept.drew) | exact HK.out)⟩, ⟨by repeat (first | (with_reducible first | exact HB.out | apply below_alloc | apply pw_below_drewN | apply below_drew1) | exact HB.out)⟩⟩
          case rest => as_aux_lemma =>
            clear HC13
            try clear c1; try clear c2; try clear p2; try clear c10; try clear c10b0; try clear c10b1; try clear c12; try clear c14; try clear c14b0; try clear p2
            obtain ⟨kq, x45_12, rfl, HA, HJ12, HO_0, HK, HB⟩ := hcut
            cases kq with
            | zero => exact absurd HA.out (by simp [strconv_fmtEFG.j1])
            | succ kj12 =>
              have H := HA.out
              clear HA
              simp only [strconv_fmtEFG.j1] at H
              have HC15 := Aside0.mk H
              clear H
              go_upto_if 45 with (fail)
              go_cut [17] (fun v17 wc => ∃ (kq : Nat) (x17_14 : Int), v17 = .int .i64 x17_14 ∧ Aside0 (strconv_fmtEFG.j2 kq l0 a1 l2 a3 a4 a5 a6 a7 x17_14 = some r) ∧ Aside0 (kq ≤ kj12) ∧ Aside0 (Kd.G (Kd.int .u8) 5 wc w0.heap.size (fun k_ => (P0_ k_ ∨ w.heap.size ≤ k_)) u9000_ l0) ∧ Aside0 (Kept w wc (fun k_ => P0_ k_)) ∧ Aside0 (Below w0.heap.size w0 wc))
              case first => as_aux_lemma =>
                have H := HC15.out
                clear HC15
                by_cases c16 : x45_12 = true
                · subst c16
                  have H1 : (strconv_fmtEFG.j2 kj12 l0 a1 l2 a3 a4 a5 a6 a7 a4) = some r := by rw [if_pos rfl] at H; exact H
                  clear H
                  have H := H1
                  clear H1
                  have H' := Aside0.mk H
                  clear H
                  go_wp2
                  go_meet
                  case rel => exact ⟨_, (a4), (by first | rfl | (simp; done) | (simp [*]; done)), H', ⟨by have := HJ8.out; have := HJ12.out; first | omega | exact Nat.le_refl _⟩, ⟨by (with_reducible repeat (first | apply Kd.R_alloc | apply Kd.G_alloc | apply Kd.R_drewN | apply Kd.G_drewN | apply Kd.R_drew | apply Kd.G_drew)); exact HO_0.out⟩, ⟨by repeat (first | (with_reducible first | exact HK.out | apply Kept.alloc | apply Kept.drewN | apply Kept.drew) | exact HK.out)⟩, ⟨by repeat (first | (with_reducible first | exact HB.out | apply below_alloc | apply pw_below_drewN | apply below_drew1) | exact HB.out)⟩⟩
                · replace c16 := Bool.eq_false_iff.mpr c16
                  subst c16
                  have H1 : (strconv_fmtEFG.j2 kj12 l0 a1 l2 a3 a4 a5 a6 a7 a5) = some r := by rw [if_neg (show ¬ (false = true) by decide)] at H; exact H
                  clear H
                  have H := H1
                  clear H1
                  have H' := Aside0.mk H
                  clear H
                  go_wp2
                  go_meet
                  case rel => exact ⟨_, (a5), (by first | rfl | (simp; done) | (simp [*]; done)), H', ⟨by have := HJ8.out; have := HJ12.out; first | omega | exact Nat.le_refl _⟩, ⟨by (with_reducible repeat (first | apply Kd.R_alloc | apply Kd.G_alloc | apply Kd.R_drewN | apply Kd.G_drewN | apply Kd.R_drew | apply Kd.G_drew)); exact HO_0.out⟩, ⟨by repeat (first | (with_reducible first | exact HK.out | apply Kept.alloc | apply Kept.drewN | apply Kept.drew) | exact HK.out)⟩, ⟨by repeat (first | (with_reducible first | exact HB.out | apply below_alloc | apply pw_below_drewN | apply below_drew1) | exact HB.out)⟩⟩
              case rest => as_aux_lemma =>
                clear HC15
                try clear c1; try clear c2; try clear p2; try clear c10; try clear c10b0; try clear c10b1; try clear c12; try clear c14; try clear c14b0; try clear c16; try clear p2
                obtain ⟨kq, x17_14, rfl, HA, HJ14, HO_0, HK, HB⟩ := hcut
                cases kq with
                | zero => exact absurd HA.out (by simp [strconv_fmtEFG.j2])
                | succ kj14 =>
                  have H := HA.out
                  clear HA
                  simp only [strconv_fmtEFG.j2] at H
                  have HC17 := Aside0.mk H
                  clear H
                  go_upto_if 47 with (fail)
                  go_cut [17] (fun v17 wc => ∃ (kq : Nat) (x17_16 : Int), v17 = .int .i64 x17_16 ∧ Aside0 (strconv_fmtEFG.j3 kq l0 a1 l2 a3 a4 a5 a6 x17_16 = some r) ∧ Aside0 (kq ≤ kj14) ∧ Aside0 (Kd.G (Kd.int .u8) 5 wc w0.heap.size (fun k_ => (P0_ k_ ∨ w.heap.size ≤ k_)) u9000_ l0) ∧ Aside0 (Kept w wc (fun k_ => P0_ k_)) ∧ Aside0 (Below w0.heap.size w0 wc))
                  case first => as_aux_lemma =>
                    have H := HC17.out
                    clear HC17
                    by_cases c18 : a7 = true
                    · subst c18
                      have H1 : (strconv_fmtEFG.j3 kj14 l0 a1 l2 a3 a4 a5 a6 6) = some r := by rw [if_pos rfl] at H; exact H
                      clear H
                      have H := H1
                      clear H1
                      have H' := Aside0.mk H
                      clear H
                      go_wp2
                      go_meet
                      case rel => exact ⟨_, (6), (by first | rfl | (simp; done) | (simp [*]; done)), H', ⟨by have := HJ8.out; have := HJ12.out; have := HJ14.out; first | omega | exact Nat.le_refl _⟩, ⟨by (with_reducible repeat (first | apply Kd.R_alloc | apply Kd.G_alloc | apply Kd.R_drewN | apply Kd.G_drewN | apply Kd.R_drew | apply Kd.G_drew)); exact HO_0.out⟩, ⟨by repeat (first | (with_reducible first | exact HK.out | apply Kept.alloc | apply Kept.drewN | apply Kept.drew) | exact HK.out)⟩, ⟨by repeat (first | (with_reducible first | exact HB.out | apply below_alloc | apply pw_below_drewN | apply below_drew1) | exact HB.out)⟩⟩
                    · replace c18 := Bool.eq_false_iff.mpr c18
                      subst c18
                      have H1 : (strconv_fmtEFG.j3 kj14 l0 a1 l2 a3 a4 a5 a6 x17_14) = some r := by rw [if_neg (show ¬ (false = true) by decide)] at H; exact H
                      clear H
                      have H := H1
                      clear H1
                      have H' := Aside0.mk H
                      clear H
                      go_wp2
                      go_meet
                      case rel => exact ⟨_, (x17_14), (by first | rfl | (simp; done) | (simp [*]; done)), H', ⟨by have := HJ8.out; have := HJ12.out; have := HJ14.out; first | omega | exact Nat.le_refl _⟩, ⟨by (with_reducible repeat (first | apply Kd.R_alloc | apply Kd.G_alloc | apply Kd.R_drewN | apply Kd.G_drewN | apply Kd.R_drew | apply Kd.G_drew)); exact HO_0.out⟩, ⟨by repeat (first | (with_reducible first | exact HK.out | apply Kept.alloc | apply Kept.drewN | apply Kept.drew) | exact HK.out)⟩, ⟨by repeat (first | (with_reducible first | exact HB.out | apply below_alloc | apply pw_below_drewN | apply below_drew1) | exact HB.out)⟩⟩
                  case rest => as_aux_lemma =>
                    clear HC17
                    try clear c1; try clear c2; try clear p2; try clear c10; try clear c10b0; try clear c10b1; try clear c12; try clear c14; try clear c14b0; try clear c16; try clear c18; try clear p2
                    obtain ⟨kq, x17_16, rfl, HA, HJ16, HO_0, HK, HB⟩ := hcut
                    cases kq with
                    | zero => exact absurd HA.out (by simp [strconv_fmtEFG.j3])
                    | succ kj16 =>
                      have H := HA.out
                      clear HA
                      simp only [strconv_fmtEFG.j3] at H
                      have HC19 := Aside0.mk H
                      clear H
                      go_upto_region 8 with (fail)
                      go_cut [56] (fun v56 wc => ∃ (kq : Nat) (x56_18 : Bool), v56 = .bool x56_18 ∧ Aside0 (strconv_fmtEFG.j4 kq l0 a1 l2 a3 a4 a5 a6 x56_18 = some r) ∧ Aside0 (kq ≤ kj16) ∧ Aside0 (Kd.G (Kd.int .u8) 5 wc w0.heap.size (fun k_ => (P0_ k_ ∨ w.heap.size ≤ k_)) u9000_ l0) ∧ Aside0 (Kept w wc (fun k_ => P0_ k_)) ∧ Aside0 (Below w0.heap.size w0 wc))
                      case first => as_aux_lemma =>
                        have H := HC19.out
                        clear HC19
                        by_cases c20 : (wrap64 (a3 - 1)) < (-4)
                        · rw [if_pos c20] at H
                          have c20b0 : decide ((wrap64 (a3 - 1)) < (-4)) = true := decide_eq_true c20
                          clear c20
                          (first | rw [c20b0] | (simp only [i64_w, i32_w]; rw [c20b0]) | skip)
                          have H' := Aside0.mk H
                          clear H
                          go_wp2
                          go_meet
                          case rel => exact ⟨_, (true), (by first | rfl | (simp; done) | (simp [*]; done)), H', ⟨by have := HJ8.out; have := HJ12.out; have := HJ14.out; have := HJ16.out; first | omega | exact Nat.le_refl _⟩, ⟨by (with_reducible repeat (first | apply Kd.R_alloc | apply Kd.G_alloc | apply Kd.R_drewN | apply Kd.G_drewN | apply Kd.R_drew | apply Kd.G_drew)); exact HO_0.out⟩, ⟨by repeat (first | (with_reducible first | exact HK.out | apply Kept.alloc | apply Kept.drewN | apply Kept.drew) | exact HK.out)⟩, ⟨by repeat (first | (with_reducible first | exact HB.out | apply below_alloc | apply pw_below_drewN | apply below_drew1) | exact HB.out)⟩⟩
                        · rw [if_neg c20] at H
                          have c20b0 : decide ((wrap64 (a3 - 1)) < (-4)) = false := decide_eq_false c20
                          clear c20
                          (first | rw [c20b0] | (simp only [i64_w, i32_w]; rw [c20b0]) | skip)
                          have H' := Aside0.mk H
                          clear H
                          go_wp2
                          go_meet
                          case rel => exact ⟨_, (decide ((wrap64 (a3 - 1)) ≥ x17_16)), (by first | rfl | (simp; done) | (simp [*]; done)), H', ⟨by have := HJ8.out; have := HJ12.out; have := HJ14.out; have := HJ16.out; first | omega | exact Nat.le_refl _⟩, ⟨by (with_reducible repeat (first | apply Kd.R_alloc | apply Kd.G_alloc | apply Kd.R_drewN | apply Kd.G_drewN | apply Kd.R_drew | apply Kd.G_drew)); exact HO_0.out⟩, ⟨by repeat (first | (with_reducible first | exact HK.out | apply Kept.alloc | apply Kept.drewN | apply Kept.drew) | exact HK.out)⟩, ⟨by repeat (first | (with_reducible first | exact HB.out | apply below_alloc | apply pw_below_drewN | apply below_drew1) | exact HB.out)⟩⟩
                      case rest => as_aux_lemma =>
                        clear HC19
                        try clear c1; try clear c2; try clear p2; try clear p6; try clear c10; try clear c10b0; try clear c10b1; try clear c12; try clear c14; try clear c14b0; try clear c16; try clear c18; try clear c20; try clear c20b0; try clear p2
                        obtain ⟨kq, x56_18, rfl, HA, HJ18, HO_0, HK, HB⟩ := hcut
                        cases kq with
                        | zero => exact absurd HA.out (by simp [strconv_fmtEFG.j4])
                        | succ kj18 =>
                          have H := HA.out
                          clear HA
                          simp only [strconv_fmtEFG.j4] at H
                          by_cases c21 : x56_18 = true
                          · subst c21
                            have H1 : (if a5 > a4 then (strconv_fmtEFG.j5 kj18 l0 a1 l2 a3 a4 (wrap64 (a4 - 1)) ((((a6 + 101) % 256) - 103) % 256)) else (strconv_fmtEFG.j5 kj18 l0 a1 l2 a3 a4 (wrap64 (a5 - 1)) ((((a6 + 101) % 256) - 103) % 256))) = some r := by rw [if_pos rfl] at H; exact H
                            clear H
                            have H := H1
                            clear H1
                            by_cases c22 : a5 > a4
                            · rw [if_pos c22] at H
                              have c22b0 : decide (a4 < a5) = true := decide_eq_true c22
                              clear c22
                              have H' := Aside0.mk H
                              clear H
                              go_wp2
                              go_meet
                              case rel => exact ⟨_, (wrap64 (a4 - 1)), ((((a6 + 101) % 256) - 103) % 256), (by first | rfl | (simp; done) | (simp [*]; done)), (by first | rfl | (simp; done) | (simp [*]; done)), H', ⟨by have := HJ8.out; have := HJ12.out; have := HJ14.out; have := HJ16.out; have := HJ18.out; first | omega | exact Nat.le_refl _⟩, ⟨by (with_reducible repeat (first | apply Kd.R_alloc | apply Kd.G_alloc | apply Kd.R_drewN | apply Kd.G_drewN | apply Kd.R_drew | apply Kd.G_drew)); exact HO_0.out⟩, ⟨by repeat (first | (with_reducible first | exact HK.out | apply Kept.alloc | apply Kept.drewN | apply Kept.drew) | exact HK.out)⟩, ⟨by repeat (first | (with_reducible first | exact HB.out | apply below_alloc | apply pw_below_drewN | apply below_drew1) | exact HB.out)⟩⟩
                            · rw [if_neg c22] at H
                              have c22b0 : decide (a4 < a5) = false := decide_eq_false c22
                              clear c22
                              have H' := Aside0.mk H
                              clear H
                              go_wp2
                              go_meet
                              case rel => exact ⟨_, (wrap64 (a5 - 1)), ((((a6 + 101) % 256) - 103) % 256), (by first | rfl | (simp; done) | (simp [*]; done)), (by first | rfl | (simp; done) | (simp [*]; done)), H', ⟨by have := HJ8.out; have := HJ12.out; have := HJ14.out; have := HJ16.out; have := HJ18.out; first | omega | exact Nat.le_refl _⟩, ⟨by (with_reducible repeat (first | apply Kd.R_alloc | apply Kd.G_alloc | apply Kd.R_drewN | apply Kd.G_drewN | apply Kd.R_drew | apply Kd.G_drew)); exact HO_0.out⟩, ⟨by repeat (first | (with_reducible first | exact HK.out | apply Kept.alloc | apply Kept.drewN | apply Kept.drew) | exact HK.out)⟩, ⟨by repeat (first | (with_reducible first | exact HB.out | apply below_alloc | apply pw_below_drewN | apply below_drew1) | exact HB.out)⟩⟩
                          · replace c21 := Bool.eq_false_iff.mpr c21
                            subst c21
                            have H1 : (if a5 > a3 then (strconv_fmtEFG.j5 kj18 l0 a1 l2 a3 a4 (mx (wrap64 (a4 - a3)) 0) 102) else (strconv_fmtEFG.j5 kj18 l0 a1 l2 a3 a4 (mx (wrap64 (a5 - a3)) 0) 102)) = some r := by rw [if_neg (show ¬ (false = true) by decide)] at H; exact H
                            clear H
                            have H := H1
                            clear H1
                            by_cases c23 : a5 > a3
                            · rw [if_pos c23] at H
                              have c23b0 : decide (a3 < a5) = true := decide_eq_true c23
                              clear c23
                              obtain ⟨ji24, hji24⟩ : ∃ j_ : Int, (mx (wrap64 (a4 - a3)) 0) = j_ := ⟨_, rfl⟩
                              replace H : (strconv_fmtEFG.j5 kj18 l0 a1 l2 a3 a4 ji24 102) = some r := by first | (rw [hji24] at H; exact H) | (simp only [hji24] at H ⊢; exact H)
                              have hji24_ : (if (wrap64 (a4 - a3)) < 0 then 0 else (wrap64 (a4 - a3))) = ji24 := hji24
                              have H' := Aside0.mk H
                              clear H
                              go_wp2
                              go_meet
                              case rel => exact ⟨_, (ji24), (102), (by first | rfl | (simp; done) | (simp only [← hji24] <;> (first | rfl | simp)) | (simp [*]; done)), (by first | rfl | (simp; done) | (simp [*]; done)), H', ⟨by have := HJ8.out; have := HJ12.out; have := HJ14.out; have := HJ16.out; have := HJ18.out; first | omega | exact Nat.le_refl _⟩, ⟨by (with_reducible repeat (first | apply Kd.R_alloc | apply Kd.G_alloc | apply Kd.R_drewN | apply Kd.G_drewN | apply Kd.R_drew | apply Kd.G_drew)); exact HO_0.out⟩, ⟨by repeat (first | (with_reducible first | exact HK.out | apply Kept.alloc | apply Kept.drewN | apply Kept.drew) | exact HK.out)⟩, ⟨by repeat (first | (with_reducible first | exact HB.out | apply below_alloc | apply pw_below_drewN | apply below_drew1) | exact HB.out)⟩⟩
                            · rw [if_neg c23] at H
                              have c23b0 : decide (a3 < a5) = false := decide_eq_false c23
                              clear c23
                              obtain ⟨ji25, hji25⟩ : ∃ j_ : Int, (mx (wrap64 (a5 - a3)) 0) = j_ := ⟨_, rfl⟩
                              replace H : (strconv_fmtEFG.j5 kj18 l0 a1 l2 a3 a4 ji25 102) = some r := by first | (rw [hji25] at H; exact H) | (simp only [hji25] at H ⊢; exact H)
                              have hji25_ : (if (wrap64 (a5 - a3)) < 0 then 0 else (wrap64 (a5 - a3))) = ji25 := hji25
                              have H' := Aside0.mk H
                              clear H
                              go_wp2
                              go_meet
                              case rel => exact ⟨_, (ji25), (102), (by first | rfl | (simp; done) | (simp only [← hji25] <;> (first | rfl | simp)) | (simp [*]; done)), (by first | rfl | (simp; done) | (simp [*]; done)), H', ⟨by have := HJ8.out; have := HJ12.out; have := HJ14.out; have := HJ16.out; have := HJ18.out; first | omega | exact Nat.le_refl _⟩, ⟨by (with_reducible repeat (first | apply Kd.R_alloc | apply Kd.G_alloc | apply Kd.R_drewN | apply Kd.G_drewN | apply Kd.R_drew | apply Kd.G_drew)); exact HO_0.out⟩, ⟨by repeat (first | (with_reducible first | exact HK.out | apply Kept.alloc | apply Kept.drewN | apply Kept.drew) | exact HK.out)⟩, ⟨by repeat (first | (with_reducible first | exact HB.out | apply below_alloc | apply pw_below_drewN | apply below_drew1) | exact HB.out)⟩⟩
        · replace c12 := Bool.eq_false_iff.mpr c12
          subst c12
          have H1 : (strconv_fmtEFG.j5 kj8 l0 a1 l2 a3 a4 a5 a6) = some r := by rw [if_neg (show ¬ (false = true) by decide)] at H; exact H
          clear H
          have H := H1
          clear H1
          have H' := Aside0.mk H
          clear H
          go_wp2
          go_meet
          case rel => exact ⟨_, (a5), (a6), (by first | rfl | (simp; done) | (simp [*]; done)), (by first | rfl | (simp; done) | (simp [*]; done)), H', ⟨by have := HJ8.out; first | omega | exact Nat.le_refl _⟩, ⟨by (with_reducible repeat (first | apply Kd.R_alloc | apply Kd.G_alloc | apply Kd.R_drewN | apply Kd.G_drewN | apply Kd.R_drew | apply Kd.G_drew)); exact HO_0.out⟩, ⟨by repeat (first | (with_reducible first | exact HK.out | apply Kept.alloc | apply Kept.drewN | apply Kept.drew) | exact HK.out)⟩, ⟨by repeat (first | (with_reducible first | exact HB.out | apply below_alloc | apply pw_below_drewN | apply below_drew1) | exact HB.out)⟩⟩
      case rest => as_aux_lemma =>
        clear HC11
        try clear c1; try clear c2; try clear p2; try clear p6; try clear c10; try clear c10b0; try clear c10b1; try clear c12; try clear c14; try clear c14b0; try clear c16; try clear c18; try clear c20; try clear c20b0; try clear c21; try clear c22; try clear c22b0; try clear c23; try clear c23b0; try clear p2; try clear p6
        obtain ⟨kq, x5_10, x6_10, rfl, rfl, HA, HJ10, HO_0, HK, HB⟩ := hcut
        cases kq with
        | zero => exact absurd HA.out (by simp [strconv_fmtEFG.j5])
        | succ kj10 =>
          have H := HA.out
          clear HA
          simp only [strconv_fmtEFG.j5] at H
          have HC26 := Aside0.mk H
          clear H
          go_upto_if 75 with (fail)
          go_cut [75] (fun v75 wc => ∃ (kq : Nat) (x75_25 : Bool), v75 = .bool x75_25 ∧ Aside0 (strconv_fmtEFG.j6 kq l0 a1 l2 a3 a4 x5_10 x6_10 x6_10 x75_25 = some r) ∧ Aside0 (kq ≤ kj10) ∧ Aside0 (Kd.G (Kd.int .u8) 5 wc w0.heap.size (fun k_ => (P0_ k_ ∨ w.heap.size ≤ k_)) u9000_ l0) ∧ Aside0 (Kept w wc (fun k_ => P0_ k_)) ∧ Aside0 (Below w0.heap.size w0 wc))
          case first => as_aux_lemma =>
            have H := HC26.out
            clear HC26
            by_cases c27 : x6_10 = 101
            · rw [if_pos c27] at H
              have c27b0 : (x6_10 == 101) = true := beq_iff_eq.mpr c27
              have c27b1 : (x6_10 != 101) = false := bne_eq_false_iff_eq.mpr c27
              clear c27
              (first | rw [c27b0] | (simp only [i64_w, i32_w]; rw [c27b0]) | skip)
              have H' := Aside0.mk H
              clear H
              go_wp2
              go_meet
              case rel => exact ⟨_, ((x6_10 == 101)), (by first | rfl | (simp; done) | (simp [*]; done)), H', ⟨by have := HJ8.out; have := HJ10.out; first | omega | exact Nat.le_refl _⟩, ⟨by (with_reducible repeat (first | apply Kd.R_alloc | apply Kd.G_alloc | apply Kd.R_drewN | apply Kd.G_drewN | apply Kd.R_drew | apply Kd.G_drew)); exact HO_0.out⟩, ⟨by repeat (first | (with_reducible first | exact HK.out | apply Kept.alloc | apply Kept.drewN | apply Kept.drew) | exact HK.out)⟩, ⟨by repeat (first | (with_reducible first | exact HB.out | apply below_alloc | apply pw_below_drewN | apply below_drew1) | exact HB.out)⟩⟩
            · rw [if_neg c27] at H
              have c27b0 : (x6_10 == 101) = false := beq_eq_false_iff_ne.mpr c27
              have c27b1 : (x6_10 != 101) = true := bne_iff_ne.mpr c27
              (first | rw [c27b0] | (simp only [i64_w, i32_w]; rw [c27b0]) | skip)
              have H' := Aside0.mk H
              clear H
              go_wp2
              go_meet
              case rel => exact ⟨_, ((x6_10 == 69)), (by first | rfl | (simp; done) | (simp [*]; done)), H', ⟨by have := HJ8.out; have := HJ10.out; first | omega | exact Nat.le_refl _⟩, ⟨by (with_reducible repeat (first | apply Kd.R_alloc | apply Kd.G_alloc | apply Kd.R_drewN | apply Kd.G_drewN | apply Kd.R_drew | apply Kd.G_drew)); exact HO_0.out⟩, ⟨by repeat (first | (with_reducible first | exact HK.out | apply Kept.alloc | apply Kept.drewN | apply Kept.drew) | exact HK.out)⟩, ⟨by repeat (first | (with_reducible first | exact HB.out | apply below_alloc | apply pw_below_drewN | apply below_drew1) | exact HB.out)⟩⟩
          case rest => as_aux_lemma =>
            clear HC26
            try clear c1; try clear c2; try clear p2; try clear p6; try clear c10; try clear c10b0; try clear c10b1; try clear c12; try clear c14; try clear c14b0; try clear c16; try clear c18; try clear c20; try clear c20b0; try clear c21; try clear c22; try clear c22b0; try clear c23; try clear c23b0; try clear c27; try clear c27b0; try clear c27b1; try clear p2; try clear p6
            obtain ⟨kq, x75_25, rfl, HA, HJ25, HO_0, HK, HB⟩ := hcut
            cases kq with
            | zero => exact absurd HA.out (by simp [strconv_fmtEFG.j6])
            | succ kj25 =>
              have H := HA.out
              clear HA
              simp only [strconv_fmtEFG.j6] at H
              by_cases c28 : x75_25 = true
              · subst c28
                have H1 : (if a1 = true then (if l0.length < 140737488355328 then (strconv_fmtEFG.j7 kj25 (l0 ++ [45]) l2 a3 a4 x5_10 x6_10) else (none)) else (strconv_fmtEFG.j7 kj25 l0 l2 a3 a4 x5_10 x6_10)) = some r := by rw [if_pos rfl] at H; exact H
                clear H
                have H := H1
                clear H1
                have HC29 := Aside0.mk H
                clear H
                go_upto_if 78 with (fail)
                go_cut [0] (fun v0 wc => ∃ (kq : Nat) (x0_28 : List Int), Aside0 (strconv_fmtEFG.j7 kq x0_28 l2 a3 a4 x5_10 x6_10 = some r) ∧ Aside0 (kq ≤ kj25) ∧ Aside0 (Kd.G (Kd.int .u8) 5 wc w0.heap.size (fun k_ => (P0_ k_ ∨ w.heap.size ≤ k_)) v0 x0_28) ∧ Aside0 (Kept w wc (fun k_ => P0_ k_)) ∧ Aside0 (Below w0.heap.size w0 wc))
                case first => as_aux_lemma =>
                  have H := HC29.out
                  clear HC29
                  by_cases c30 : a1 = true
                  · subst c30
                    have H1 : (if l0.length < 140737488355328 then (strconv_fmtEFG.j7 kj25 (l0 ++ [45]) l2 a3 a4 x5_10 x6_10) else (none)) = some r := by rw [if_pos rfl] at H; exact H
                    clear H
                    have H := H1
                    clear H1
                    by_cases c31 : l0.length < 140737488355328
                    · rw [if_pos c31] at H
                      have LMc31 := Aside0.mk c31
                      clear c31
                      obtain ⟨y189, hy189⟩ : ∃ y_ : List Int, y_ = (l0 ++ [45]) := ⟨_, rfl⟩
                      replace H : (strconv_fmtEFG.j7 kj25 y189 l2 a3 a4 x5_10 x6_10) = some r := by first | (rw [hy189]; with_reducible exact H) | (have H2_ := (Option.bind_some _ _).symm.trans H; rw [hy189]; with_reducible exact H2_) | (have H2_ := (Option.bind_some _ _).symm.trans H; with_reducible exact H2_) | with_reducible exact H | (rw [hy189]; exact H) | exact H
                      have Ny189 := Aside0.mk hy189
                      clear hy189
                      have H' := Aside0.mk H
                      clear H
                      go_wp2_with (first | ((with_reducible refine gate_builtin (b := .append) (xs := #[.tmp 79, .tmp 80]) rfl ?_); at_builtin; refine Kd.G_append (dd := Kd.int .u8) (Kd.int .u8) (w0 := w0) w0.heap.size rfl (.tmp 79) (.tmp 80) 29 5 (.int .u8 0) 1 rfl Tryd.underlying29 info5 rfl (by decide) (by omega) u9000_ l0 45 [.int .u8 45] (fun k_ => (P0_ k_ ∨ w.heap.size ≤ k_)) (fun _ => False) rfl rfl ?aP (fun _ hk => hk.elim) ?aF ?aO ?aB ?aS ?aL ?_; (case aP => exact rfl); (case aB => exact (by repeat (first | (with_reducible first | exact HB.out | apply below_alloc | apply pw_below_drewN | apply below_drew1) | exact HB.out))); (case aF => exact (fun k_ hk => (.inr (Nat.le_trans (by first | exact HK.out.1 | exact (show Kept w _ (fun k_ => P0_ k_) from by repeat (first | (with_reducible first | exact HK.out | apply Kept.alloc | apply Kept.drewN | apply Kept.drew) | exact HK.out)).1) hk)))); (case aO => exact (by (with_reducible repeat (first | apply Kd.R_alloc | apply Kd.G_alloc | apply Kd.R_drewN | apply Kd.G_drewN | apply Kd.R_drew | apply Kd.G_drew)); exact HO_0.out)); (case aS => exact (below_size (by repeat (first | (with_reducible first | exact HB.out | apply below_alloc | apply pw_below_drewN | apply below_drew1) | exact HB.out)))); (case aL => have := LMc31.out; omega); intro v190 w32 ho hb hg hat; rw [← Ny189.out] at ho; have n0_ := Aside0.mk (hb); have n1_ := Aside0.mk (Kept.of_grown (S := (fun k_ => P0_ k_)) hg (by repeat (first | (with_reducible first | exact HK.out | apply Kept.alloc | apply Kept.drewN | apply Kept.drew) | exact HK.out)) (fun k_ e_ => (HO_0.out.1 k_ e_))); have n2_ := Aside0.mk (ho); clear HB; clear HK; clear HO_0; have HB := n0_; have HK := n1_; have HO191 := n2_; clear n0_ n1_ n2_; clear ho hb hg hat))
                      go_meet
                      case rel => exact ⟨_, (y189), H', ⟨by have := HJ8.out; have := HJ10.out; have := HJ25.out; first | omega | exact Nat.le_refl _⟩, ⟨by (with_reducible repeat (first | apply Kd.R_alloc | apply Kd.G_alloc | apply Kd.R_drewN | apply Kd.G_drewN | apply Kd.R_drew | apply Kd.G_drew)); exact HO191.out⟩, ⟨by repeat (first | (with_reducible first | exact HK.out | apply Kept.alloc | apply Kept.drewN | apply Kept.drew) | exact HK.out)⟩, ⟨by repeat (first | (with_reducible first | exact HB.out | apply below_alloc | apply pw_below_drewN | apply below_drew1) | exact HB.out)⟩⟩
                    · rw [if_neg c31] at H
                      exact absurd H (by simp)
                  · replace c30 := Bool.eq_false_iff.mpr c30
                    subst c30
                    have H1 : (strconv_fmtEFG.j7 kj25 l0 l2 a3 a4 x5_10 x6_10) = some r := by rw [if_neg (show ¬ (false = true) by decide)] at H; exact H
                    clear H
                    have H := H1
                    clear H1
                    have H' := Aside0.mk H
                    clear H
                    go_wp2
                    go_meet
                    case rel => exact ⟨_, (l0), H', ⟨by have := HJ8.out; have := HJ10.out; have := HJ25.out; first | omega | exact Nat.le_refl _⟩, ⟨by (with_reducible repeat (first | apply Kd.R_alloc | apply Kd.G_alloc | apply Kd.R_drewN | apply Kd.G_drewN | apply Kd.R_drew | apply Kd.G_drew)); exact HO_0.out⟩, ⟨by repeat (first | (with_reducible first | exact HK.out | apply Kept.alloc | apply Kept.drewN | apply Kept.drew) | exact HK.out)⟩, ⟨by repeat (first | (with_reducible first | exact HB.out | apply below_alloc | apply pw_below_drewN | apply below_drew1) | exact HB.out)⟩⟩
                case rest => as_aux_lemma =>
                  clear HC29
                  try clear c1; try clear c2; try clear p2; try clear c3; try clear p6; try clear c10; try clear c10b0; try clear c10b1; try clear c12; try clear c14; try clear c14b0; try clear c16; try clear c18; try clear c20; try clear c20b0; try clear c21; try clear c22; try clear c22b0; try clear c23; try clear c23b0; try clear c27; try clear c27b0; try clear c27b1; try clear c28; try clear c30
                  try clear c31; try clear p2; try clear p6
                  obtain ⟨kq, x0_28, HA, HJ28, HO_0, HK, HB⟩ := hcut
                  cases kq with
                  | zero => exact absurd HA.out (by simp [strconv_fmtEFG.j7])
                  | succ kj28 =>
                    have H := HA.out
                    clear HA
                    simp only [strconv_fmtEFG.j7] at H
                    have HC33 := Aside0.mk H
                    clear H
                    go_upto_if 83 with (fail)
                    go_cut [19] (fun v19 wc => ∃ (kq : Nat) (x19_32 : Int), v19 = .int .u8 x19_32 ∧ Aside0 (strconv_fmtEFG.j8 kq x0_28 l2 a3 a4 x5_10 x6_10 x19_32 = some r) ∧ Aside0 (kq ≤ kj28) ∧ Aside0 (Kd.G (Kd.int .u8) 5 wc w0.heap.size (fun k_ => (P0_ k_ ∨ w.heap.size ≤ k_)) u0 x0_28) ∧ Aside0 (Kept w wc (fun k_ => P0_ k_)) ∧ Aside0 (Below w0.heap.size w0 wc))
                    case first => as_aux_lemma =>
                      have H := HC33.out
                      clear HC33
                      by_cases c34 : a4 = 0
                      · rw [if_pos c34] at H
                        have c34b0 : (a4 == 0) = true := beq_iff_eq.mpr c34
                        have c34b1 : (a4 != 0) = false := bne_eq_false_iff_eq.mpr c34
                        clear c34
                        (first | rw [c34b0] | (simp only [i64_w, i32_w]; rw [c34b0]) | skip)
                        have H' := Aside0.mk H
                        clear H
                        go_wp2
                        go_meet
                        case rel => exact ⟨_, (48), (by first | rfl | (simp; done) | (simp [*]; done)), H', ⟨by have := HJ8.out; have := HJ10.out; have := HJ25.out; have := HJ28.out; first | omega | exact Nat.le_refl _⟩, ⟨by (with_reducible repeat (first | apply Kd.R_alloc | apply Kd.G_alloc | apply Kd.R_drewN | apply Kd.G_drewN | apply Kd.R_drew | apply Kd.G_drew)); exact HO_0.out⟩, ⟨by repeat (first | (with_reducible first | exact HK.out | apply Kept.alloc | apply Kept.drewN | apply Kept.drew) | exact HK.out)⟩, ⟨by repeat (first | (with_reducible first | exact HB.out | apply below_alloc | apply pw_below_drewN | apply below_drew1) | exact HB.out)⟩⟩
                      · rw [if_neg c34] at H
                        have c34b0 : (a4 == 0) = false := beq_eq_false_iff_ne.mpr c34
                        have c34b1 : (a4 != 0) = true := bne_iff_ne.mpr c34
                        (first | rw [c34b0] | (simp only [i64_w, i32_w]; rw [c34b0]) | skip)
                        by_cases c35 : 0 < (l2.length : Int)
                        · rw [if_pos c35] at H
                          have c35b0 : decide (0 < (l2.length : Int)) = true := decide_eq_true c35
                          have c35b1 : decide (0 < l2.length) = true := decide_eq_true (by omega)
                          clear c35
                          have H' := Aside0.mk H
                          clear H
                          have p192 : 0 ≤ (0 : Int) := (by omega)
                          have q192 : 0 < (l2.length : Int) := of_decide_eq_true (by first | (with_reducible assumption) | assumption)
                          obtain ⟨ad192, e192, hx192_0⟩ := Kd.at_int (Kd.C_kept_now HR2.out HK.out) 0 p192 q192
                          cases e192
                          have qi192 : (0 < l2.length) = True := eq_true (by omega)
                          (try rw [show ((0 : Int)).toNat = 0 from rfl] at hx192_0)
                          (try rw [Addr.add_zero'] at hx192_0)
                          replace p192 := eq_true p192
                          replace q192 := eq_true q192
                          go_wp2
                          go_meet
                          case rel => exact ⟨_, (rd l2 0), (by first | rfl | (simp; done) | (simp [*]; done)), H', ⟨by have := HJ8.out; have := HJ10.out; have := HJ25.out; have := HJ28.out; first | omega | exact Nat.le_refl _⟩, ⟨by (with_reducible repeat (first | apply Kd.R_alloc | apply Kd.G_alloc | apply Kd.R_drewN | apply Kd.G_drewN | apply Kd.R_drew | apply Kd.G_drew)); exact HO_0.out⟩, ⟨by repeat (first | (with_reducible first | exact HK.out | apply Kept.alloc | apply Kept.drewN | apply Kept.drew) | exact HK.out)⟩, ⟨by repeat (first | (with_reducible first | exact HB.out | apply below_alloc | apply pw_below_drewN | apply below_drew1) | exact HB.out)⟩⟩
                        · rw [if_neg c35] at H
                          exact absurd H (by simp)
                    case rest => as_aux_lemma =>
                      clear HC33
                      try clear c1; try clear p1; try clear q1; try clear hx1; try clear qi1; try clear c2; try clear p2; try clear c3; try clear p6; try clear c10; try clear c10b0; try clear c10b1; try clear c12; try clear c14; try clear c14b0; try clear c16; try clear c18; try clear p19; try clear q19; try clear hx19; try clear qi19; try clear c20; try clear c20b0; try clear c21; try clear c22; try clear c22b0
                      try clear c23; try clear c23b0; try clear c27; try clear c27b0; try clear c27b1; try clear c28; try clear c30; try clear c31; try clear c34; try clear c34b0; try clear c34b1; try clear c35; try clear c35b0; try clear c35b1; try clear hx192_0; try clear p192; try clear p2; try clear p6; try clear q192
                      obtain ⟨kq, x19_32, rfl, HA, HJ32, HO_0, HK, HB⟩ := hcut
                      cases kq with
                      | zero => exact absurd HA.out (by simp [strconv_fmtEFG.j8])
                      | succ kj32 =>
                        have H := HA.out
                        clear HA
                        simp only [strconv_fmtEFG.j8] at H
                        by_cases c36 : x0_28.length < 140737488355328
                        · rw [if_pos c36] at H
                          have LMc36 := Aside0.mk c36
                          clear c36
                          obtain ⟨y193, hy193⟩ : ∃ y_ : List Int, y_ = (x0_28 ++ [x19_32]) := ⟨_, rfl⟩
                          replace H : (if x5_10 > 0 then (if y193.length < 140737488355328 then ((some (y193 ++ [46] : List Int)).bind fun y196 => (if 1 < (mn a4 (wrap64 (x5_10 + 1))) then (if 1 ≤ (mn a4 (wrap64 (x5_10 + 1))) then (if (mn a4 (wrap64 (x5_10 + 1))) ≤ (l2.length : Int) then ((some ((l2.take ((mn a4 (wrap64 (x5_10 + 1))) : Int).toNat).drop 1 : List Int)).bind fun y199 => (if y196.length + y199.length < 140737488355328 then (strconv_fmtEFG.j9 kj32 (y196 ++ y199) a3 a4 x5_10 x6_10 (mn a4 (wrap64 (x5_10 + 1)))) else (none))) else (none)) else (none)) else (strconv_fmtEFG.j9 kj32 y196 a3 a4 x5_10 x6_10 1))) else (none)) else (strconv_fmtEFG.j11 kj32 y193 a3 a4 x6_10)) = some r := by first | (rw [hy193]; with_reducible exact H) | (have H2_ := (Option.bind_some _ _).symm.trans H; rw [hy193]; with_reducible exact H2_) | (have H2_ := (Option.bind_some _ _).symm.trans H; with_reducible exact H2_) | with_reducible exact H | (rw [hy193]; exact H) | exact H
                          have Ny193 := Aside0.mk hy193
                          clear hy193
                          have HC37 := Aside0.mk H
                          clear H
                          go_upto_if 92 with (first | ((with_reducible refine gate_builtin (b := .append) (xs := #[.tmp 87, .tmp 89]) rfl ?_); at_builtin; refine Kd.G_append (dd := Kd.int .u8) (Kd.int .u8) (w0 := w0) w0.heap.size rfl (.tmp 87) (.tmp 89) 29 5 (.int .u8 0) 1 rfl Tryd.underlying29 info5 rfl (by decide) (by omega) u0 x0_28 x19_32 [.int .u8 x19_32] (fun k_ => (P0_ k_ ∨ w.heap.size ≤ k_)) (fun _ => False) rfl rfl ?aP (fun _ hk => hk.elim) ?aF ?aO ?aB ?aS ?aL ?_; (case aP => exact rfl); (case aB => exact (by repeat (first | (with_reducible first | exact HB.out | apply below_alloc | apply pw_below_drewN | apply below_drew1) | exact HB.out))); (case aF => exact (fun k_ hk => (.inr (Nat.le_trans (by first | exact HK.out.1 | exact (show Kept w _ (fun k_ => P0_ k_) from by repeat (first | (with_reducible first | exact HK.out | apply Kept.alloc | apply Kept.drewN | apply Kept.drew) | exact HK.out)).1) hk)))); (case aO => exact (by (with_reducible repeat (first | apply Kd.R_alloc | apply Kd.G_alloc | apply Kd.R_drewN | apply Kd.G_drewN | apply Kd.R_drew | apply Kd.G_drew)); exact HO_0.out)); (case aS => exact (below_size (by repeat (first | (with_reducible first | exact HB.out | apply below_alloc | apply pw_below_drewN | apply below_drew1) | exact HB.out)))); (case aL => have := LMc36.out; omega); intro v194 w38 ho hb hg hat; rw [← Ny193.out] at ho; have n0_ := Aside0.mk (hb); have n1_ := Aside0.mk (Kept.of_grown (S := (fun k_ => P0_ k_)) hg (by repeat (first | (with_reducible first | exact HK.out | apply Kept.alloc | apply Kept.drewN | apply Kept.drew) | exact HK.out)) (fun k_ e_ => (HO_0.out.1 k_ e_))); have n2_ := Aside0.mk (ho); clear HB; clear HK; clear HO_0; have HB := n0_; have HK := n1_; have HO195 := n2_; clear n0_ n1_ n2_; clear ho hb hg hat))
                          (try simp only [Act.put, List.setIfInBounds_toArray, List.set_cons_zero, List.set_cons_succ])
                          go_cut [0] (fun v0 wc => ∃ (kq : Nat) (x0_36 : List Int), Aside0 (strconv_fmtEFG.j11 kq x0_36 a3 a4 x6_10 = some r) ∧ Aside0 (kq ≤ kj32) ∧ Aside0 (Kd.G (Kd.int .u8) 5 wc w0.heap.size (fun k_ => (P0_ k_ ∨ w.heap.size ≤ k_)) v0 x0_36) ∧ Aside0 (Kept w wc (fun k_ => P0_ k_)) ∧ Aside0 (Below w0.heap.size w0 wc))
                          case first => as_aux_lemma =>
                            have H := HC37.out
                            clear HC37
                            by_cases c39 : x5_10 > 0
                            · rw [if_pos c39] at H
                              have c39b0 : decide (0 < x5_10) = true := decide_eq_true c39
                              clear c39
                              (first | rw [c39b0] | (simp only [i64_w, i32_w]; rw [c39b0]) | skip)
                              by_cases c40 : y193.length < 140737488355328
                              · rw [if_pos c40] at H
                                have LMc40 := Aside0.mk c40
                                clear c40
                                obtain ⟨y196, hy196⟩ : ∃ y_ : List Int, y_ = (y193 ++ [46]) := ⟨_, rfl⟩
                                replace H : (if 1 < (mn a4 (wrap64 (x5_10 + 1))) then (if 1 ≤ (mn a4 (wrap64 (x5_10 + 1))) then (if (mn a4 (wrap64 (x5_10 + 1))) ≤ (l2.length : Int) then ((some ((l2.take ((mn a4 (wrap64 (x5_10 + 1))) : Int).toNat).drop 1 : List Int)).bind fun y199 => (if y196.length + y199.length < 140737488355328 then (strconv_fmtEFG.j9 kj32 (y196 ++ y199) a3 a4 x5_10 x6_10 (mn a4 (wrap64 (x5_10 + 1)))) else (none))) else (none)) else (none)) else (strconv_fmtEFG.j9 kj32 y196 a3 a4 x5_10 x6_10 1)) = some r := by first | (rw [hy196]; with_reducible exact H) | (have H2_ := (Option.bind_some _ _).symm.trans H; rw [hy196]; with_reducible exact H2_) | (have H2_ := (Option.bind_some _ _).symm.trans H; with_reducible exact H2_) | with_reducible exact H | (rw [hy196]; exact H) | exact H
                                have Ny196 := Aside0.mk hy196
                                clear hy196
                                obtain ⟨ji41, hji41⟩ : ∃ j_ : Int, (mn a4 (wrap64 (x5_10 + 1))) = j_ := ⟨_, rfl⟩
                                replace H : (if 1 < (ji41) then (if 1 ≤ (ji41) then (if (ji41) ≤ (l2.length : Int) then ((some ((l2.take ((ji41) : Int).toNat).drop 1 : List Int)).bind fun y199 => (if y196.length + y199.length < 140737488355328 then (strconv_fmtEFG.j9 kj32 (y196 ++ y199) a3 a4 x5_10 x6_10 ji41) else (none))) else (none)) else (none)) else (strconv_fmtEFG.j9 kj32 y196 a3 a4 x5_10 x6_10 1)) = some r := by first | (rw [hji41] at H; exact H) | (simp only [hji41] at H ⊢; exact H)
                                have hji41_ : (if (wrap64 (x5_10 + 1)) < a4 then (wrap64 (x5_10 + 1)) else a4) = ji41 := hji41
                                have HC42 := Aside0.mk H
                                clear H
                                go_upto_if 102 with (first | ((with_reducible refine gate_builtin (b := .append) (xs := #[.tmp 93, .tmp 94]) rfl ?_); at_builtin; refine Kd.G_append (dd := Kd.int .u8) (Kd.int .u8) (w0 := w0) w0.heap.size rfl (.tmp 93) (.tmp 94) 29 5 (.int .u8 0) 1 rfl Tryd.underlying29 info5 rfl (by decide) (by omega) v194 y193 46 [.int .u8 46] (fun k_ => (P0_ k_ ∨ w.heap.size ≤ k_)) (fun _ => False) rfl rfl ?aP (fun _ hk => hk.elim) ?aF ?aO ?aB ?aS ?aL ?_; (case aP => exact rfl); (case aB => exact (by repeat (first | (with_reducible first | exact HB.out | apply below_alloc | apply pw_below_drewN | apply below_drew1) | exact HB.out))); (case aF => exact (fun k_ hk => (.inr (Nat.le_trans (by first | exact HK.out.1 | exact (show Kept w _ (fun k_ => P0_ k_) from by repeat (first | (with_reducible first | exact HK.out | apply Kept.alloc | apply Kept.drewN | apply Kept.drew) | exact HK.out)).1) hk)))); (case aO => exact (by (with_reducible repeat (first | apply Kd.R_alloc | apply Kd.G_alloc | apply Kd.R_drewN | apply Kd.G_drewN | apply Kd.R_drew | apply Kd.G_drew)); exact HO195.out)); (case aS => exact (below_size (by repeat (first | (with_reducible first | exact HB.out | apply below_alloc | apply pw_below_drewN | apply below_drew1) | exact HB.out)))); (case aL => have := LMc40.out; omega); intro v197 w43 ho hb hg hat; rw [← Ny196.out] at ho; have n0_ := Aside0.mk (hb); have n1_ := Aside0.mk (Kept.of_grown (S := (fun k_ => P0_ k_)) hg (by repeat (first | (with_reducible first | exact HK.out | apply Kept.alloc | apply Kept.drewN | apply Kept.drew) | exact HK.out)) (fun k_ e_ => (HO195.out.1 k_ e_))); have n2_ := Aside0.mk (ho); clear HB; clear HK; clear HO195; have HB := n0_; have HK := n1_; have HO198 := n2_; clear n0_ n1_ n2_; clear ho hb hg hat))
                                (try simp only [Act.put, List.setIfInBounds_toArray, List.set_cons_zero, List.set_cons_succ])
                                go_cut [0, 20] (fun v0 v20 wc => ∃ (kq : Nat) (x0_41 : List Int) (x20_41 : Int), v20 = .int .i64 x20_41 ∧ Aside0 (strconv_fmtEFG.j9 kq x0_41 a3 a4 x5_10 x6_10 x20_41 = some r) ∧ Aside0 (kq ≤ kj32) ∧ Aside0 (Kd.G (Kd.int .u8) 5 wc w0.heap.size (fun k_ => (P0_ k_ ∨ w.heap.size ≤ k_)) v0 x0_41) ∧ Aside0 (Kept w wc (fun k_ => P0_ k_)) ∧ Aside0 (Below w0.heap.size w0 wc))
                                case first => as_aux_lemma =>
                                  have H := HC42.out
                                  clear HC42
                                  by_cases c44 : 1 < (ji41)
                                  · rw [if_pos c44] at H
                                    have c44b0 : decide (1 < (ji41)) = true := decide_eq_true c44
                                    clear c44
                                    (first | rw [c44b0] | (simp only [i64_w, i32_w]; rw [c44b0]) | skip)
                                    by_cases c45 : 1 ≤ (ji41)
                                    · rw [if_pos c45] at H
                                      have c45b0 := eq_true c45
                                      have c45b1 : decide (1 ≤ (ji41)) = true := decide_eq_true c45
                                      clear c45
                                      by_cases c46 : (ji41) ≤ (l2.length : Int)
                                      · rw [if_pos c46] at H
                                        have c46b0 := eq_true c46
                                        have c46b1 : decide ((ji41) ≤ (l2.length : Int)) = true := decide_eq_true c46
                                        clear c46
                                        obtain ⟨y199, hy199⟩ : ∃ y_ : List Int, y_ = ((l2.take ((ji41) : Int).toNat).drop 1) := ⟨_, rfl⟩
                                        replace H : (if y196.length + y199.length < 140737488355328 then (strconv_fmtEFG.j9 kj32 (y196 ++ y199) a3 a4 x5_10 x6_10 ji41) else (none)) = some r := by first | (rw [hy199]; with_reducible exact H) | (have H2_ := (Option.bind_some _ _).symm.trans H; rw [hy199]; with_reducible exact H2_) | (have H2_ := (Option.bind_some _ _).symm.trans H; with_reducible exact H2_) | with_reducible exact H | (rw [hy199]; exact H) | exact H
                                        have Ny199 := Aside0.mk hy199
                                        clear hy199
                                        by_cases c47 : y196.length + y199.length < 140737488355328
                                        · rw [if_pos c47] at H
                                          have LMc47 := Aside0.mk c47
                                          clear c47
                                          obtain ⟨y203, hy203⟩ : ∃ y_ : List Int, y_ = (y196 ++ y199) := ⟨_, rfl⟩
                                          replace H : (strconv_fmtEFG.j9 kj32 y203 a3 a4 x5_10 x6_10 ji41) = some r := by first | (rw [hy203]; with_reducible exact H) | (have H2_ := (Option.bind_some _ _).symm.trans H; rw [hy203]; with_reducible exact H2_) | (have H2_ := (Option.bind_some _ _).symm.trans H; with_reducible exact H2_) | with_reducible exact H | (rw [hy203]; exact H) | exact H
                                          have Ny203 := Aside0.mk hy203
                                          clear hy203
                                          have H' := Aside0.mk H
                                          clear H
                                          have q48 : ((ji41) : Int) ≤ ((l2.length : Int) : Int) := of_decide_eq_true (by first | (with_reducible assumption) | assumption)
                                          obtain ⟨i048, hi048, _, hsz48, _⟩ := info_parts info5
                                          have hroom48 : l2.length ≤ c2 := HC2.out
                                          have hC48 : Kd.C (Kd.int .u8) _ A2 l2.length l2 := (Kd.C_kept_now HR2.out HK.out)
                                          have ql48 : (1 : Int) ≤ ((ji41) : Int) := of_decide_eq_true (by first | (with_reducible assumption) | assumption)
                                          have hcut48 := cut_mid (P := Tryd.prog) 29 5 .i64 .i64 Tryd.underlying29 hi048 1 hsz48 A2 l2.length c2 1 (ji41) (by omega) ql48 q48 hroom48
                                          have hr48 := Kd.C_mid (lo := (1 : Int).toNat) (hi := ((ji41) : Int).toNat) (c := c2) hC48 (by omega) (by omega) hroom48
                                          obtain ⟨A48, hA48⟩ : ∃ A1, A1 = (if c2 = (1 : Int).toNat then A2 else (A2 : Option Addr).map (·.add ((1 : Int).toNat * 1))) := ⟨_, rfl⟩
                                          obtain ⟨c48, hc48⟩ : ∃ c1, c1 = c2 - (1 : Int).toNat := ⟨_, rfl⟩
                                          have hy48 : y199.length = ((ji41) : Int).toNat - (1 : Int).toNat := (by rw [Ny199.out, List.length_drop, List.length_take] <;> omega)
                                          rw [show ((l2).take ((ji41) : Int).toNat).drop (1 : Int).toNat = y199 from Ny199.out.symm] at hr48
                                          replace hr48 : Kd.C (Kd.int .u8) _ A48 y199.length y199 := (by rw [hA48]; exact hr48)
                                          rw [← hy48, ← hA48, ← hc48] at hcut48
                                          have HR202 := Aside0.mk hr48
                                          have HC202 := Aside0.mk (show y199.length ≤ c48 from by rw [hy48, hc48]; exact Nat.sub_le_sub_right (Nat.le_trans (by omega) hroom48) _)
                                          clear hr48 hC48 hroom48 hi048 hsz48 hc48
                                          have KY48 := Aside0.mk hy48
                                          have KA48 := Aside0.mk hA48
                                          clear hy48 hA48
                                          have KL48 := Aside0.mk (show ((ji41) : Int).toNat ≤ l2.length from by omega)
                                          have KM48 := Aside0.mk (show 1 ≤ ((ji41) : Int).toNat from by omega)
                                          replace q48 := eq_true q48
                                          go_wp2_with (first | ((with_reducible refine gate_builtin (b := .append) (xs := #[.tmp 103, .tmp 107]) rfl ?_); at_builtin; refine Kd.G_append_rows (dd := Kd.int .u8) (Kd.int .u8) (w0 := w0) w0.heap.size rfl (.tmp 103) (.tmp 107) 29 5 (.int .u8 0) 1 rfl Tryd.underlying29 info5 rfl (by decide) (by omega) v197 y196 y199 _ _ _ (fun k_ => (P0_ k_ ∨ w.heap.size ≤ k_)) (fun _ => False) rfl rfl ?aO ?aR (fun _ _ h => h) (fun _ h => h.elim) ?aF ?aB ?aS ?aL ?_; (case aR => repeat (first | exact (by repeat (first | (with_reducible exact HR202.out) | (with_reducible refine Kd.C_alloc ?_ _) | (with_reducible refine Kd.C_drewN ?_ _) | (with_reducible refine Kd.C_drew ?_) | exact HR202.out)) | (with_reducible refine Kd.C_alloc ?_ _) | (with_reducible refine Kd.C_drewN ?_ _) | (with_reducible refine Kd.C_drew ?_))); (case aB => exact (by repeat (first | (with_reducible first | exact HB.out | apply below_alloc | apply pw_below_drewN | apply below_drew1) | exact HB.out))); (case aF => exact (fun k_ hk => (.inr (Nat.le_trans (by first | exact HK.out.1 | exact (show Kept w _ (fun k_ => P0_ k_) from by repeat (first | (with_reducible first | exact HK.out | apply Kept.alloc | apply Kept.drewN | apply Kept.drew) | exact HK.out)).1) hk)))); (case aO => exact (by (with_reducible repeat (first | apply Kd.R_alloc | apply Kd.G_alloc | apply Kd.R_drewN | apply Kd.G_drewN | apply Kd.R_drew | apply Kd.G_drew)); exact HO198.out)); (case aS => exact (below_size (by repeat (first | (with_reducible first | exact HB.out | apply below_alloc | apply pw_below_drewN | apply below_drew1) | exact HB.out)))); (case aL => have := LMc47.out; omega); intro v204 w49 ho hb hg hat; rw [← Ny203.out] at ho; have n0_ := Aside0.mk (hb); have n1_ := Aside0.mk (Kept.of_grown (S := (fun k_ => P0_ k_)) hg (by repeat (first | (with_reducible first | exact HK.out | apply Kept.alloc | apply Kept.drewN | apply Kept.drew) | exact HK.out)) (fun k_ e_ => (HO198.out.1 k_ e_))); have n2_ := Aside0.mk ((show Kd.C (Kd.int .u8) w49 A48 y199.length y199 from by rw [Ny199.out, KA48.out]; exact Kd.C_mid (lo := 1) (hi := ((ji41) : Int).toNat) (c := c2) (Kd.C_kept_now HR2.out (show Kept w w49 (fun k_ => P0_ k_) from (Kept.of_grown (S := (fun k_ => P0_ k_)) hg (by repeat (first | (with_reducible first | exact HK.out | apply Kept.alloc | apply Kept.drewN | apply Kept.drew) | exact HK.out)) (fun k_ e_ => (HO198.out.1 k_ e_))))) KM48.out KL48.out HC2.out)); have n3_ := Aside0.mk (ho); clear HB; clear HK; clear HR202; clear HO198; have HB := n0_; have HK := n1_; have HR202 := n2_; have HO205 := n3_; clear n0_ n1_ n2_ n3_; clear ho hb hg hat))
                                          go_meet
                                          case rel => exact ⟨_, (y203), (ji41), (by first | rfl | (simp; done) | (simp only [← hji41] <;> (first | rfl | simp)) | (simp [*]; done)), H', ⟨by have := HJ8.out; have := HJ10.out; have := HJ25.out; have := HJ28.out; have := HJ32.out; first | omega | exact Nat.le_refl _⟩, ⟨by (with_reducible repeat (first | apply Kd.R_alloc | apply Kd.G_alloc | apply Kd.R_drewN | apply Kd.G_drewN | apply Kd.R_drew | apply Kd.G_drew)); exact HO205.out⟩, ⟨by repeat (first | (with_reducible first | exact HK.out | apply Kept.alloc | apply Kept.drewN | apply Kept.drew) | exact HK.out)⟩, ⟨by repeat (first | (with_reducible first | exact HB.out | apply below_alloc | apply pw_below_drewN | apply below_drew1) | exact HB.out)⟩⟩
                                        · rw [if_neg c47] at H
                                          exact absurd H (by simp)
                                      · rw [if_neg c46] at H
                                        exact absurd H (by simp)
                                    · rw [if_neg c45] at H
                                      exact absurd H (by simp)
                                  · rw [if_neg c44] at H
                                    have c44b0 : decide (1 < (ji41)) = false := decide_eq_false c44
                                    clear c44
                                    (first | rw [c44b0] | (simp only [i64_w, i32_w]; rw [c44b0]) | skip)
                                    have H' := Aside0.mk H
                                    clear H
                                    go_wp2
                                    go_meet
                                    case rel => exact ⟨_, (y196), (1), (by first | rfl | (simp; done) | (simp [*]; done)), H', ⟨by have := HJ8.out; have := HJ10.out; have := HJ25.out; have := HJ28.out; have := HJ32.out; first | omega | exact Nat.le_refl _⟩, ⟨by (with_reducible repeat (first | apply Kd.R_alloc | apply Kd.G_alloc | apply Kd.R_drewN | apply Kd.G_drewN | apply Kd.R_drew | apply Kd.G_drew)); exact HO198.out⟩, ⟨by repeat (first | (with_reducible first | exact HK.out | apply Kept.alloc | apply Kept.drewN | apply Kept.drew) | exact HK.out)⟩, ⟨by repeat (first | (with_reducible first | exact HB.out | apply below_alloc | apply pw_below_drewN | apply below_drew1) | exact HB.out)⟩⟩
                                case rest => as_aux_lemma =>
                                  clear HC42
                                  try clear c1; try clear p1; try clear q1; try clear hx1; try clear qi1; try clear c2; try clear p2; try clear c3; try clear c4; try clear q4; try clear p6; try clear c10; try clear c10b0; try clear c10b1; try clear c12; try clear c14; try clear c14b0; try clear c16; try clear c18; try clear p19; try clear q19; try clear hx19; try clear qi19; try clear c20; try clear c20b0
                                  try clear c21; try clear c22; try clear c22b0; try clear c23; try clear c23b0; try clear c27; try clear c27b0; try clear c27b1; try clear c28; try clear c30; try clear c31; try clear c34; try clear c34b0; try clear c34b1; try clear c35; try clear c35b0; try clear c35b1; try clear c36; try clear c39; try clear c39b0; try clear c40; try clear c44; try clear c44b0; try clear c45
                                  try clear c45b0; try clear c45b1; try clear c46; try clear c46b0; try clear c46b1; try clear c47; try clear c48; try clear q48; try clear hx192_0; try clear p1; try clear p19; try clear p192; try clear p2; try clear p6; try clear q1; try clear q19; try clear q192; try clear q48
                                  obtain ⟨kq, x0_41, x20_41, rfl, HA, HJ41, HO_0, HK, HB⟩ := hcut
                                  cases kq with
                                  | zero => exact absurd HA.out (by simp [strconv_fmtEFG.j9])
                                  | succ kj41 =>
                                    have H := HA.out
                                    clear HA
                                    simp only [strconv_fmtEFG.j9] at H
                                    have H' := Aside0.mk H
                                    clear H
                                    go_wp2
                                    go_loopg [0, 114] kj41 (fun kq v0 v114 w' => ∃ (x0_7 : List Int) (x114_7 : Int), v114 = .int .i64 x114_7 ∧ Aside0 (strconv_fmtEFG.l0 kq x0_7 a3 a4 x6_10 (wrap64 ((wrap64 (x5_10 + 1)) - x20_41)) x114_7 = some r) ∧ Aside0 (kq ≤ kj41) ∧ Aside0 (Kd.G (Kd.int .u8) 5 w' w0.heap.size (fun k_ => (P0_ k_ ∨ w.heap.size ≤ k_)) v0 x0_7) ∧ Aside0 (Kept w w' (fun k_ => P0_ k_)) ∧ Aside0 (Below w0.heap.size w0 w'))
                                    case atStart => exact ⟨(x0_41), (0), (by first | rfl | (simp; done) | (simp [*]; done)), H', ⟨Nat.le_refl _⟩, ⟨by (with_reducible repeat (first | apply Kd.R_alloc | apply Kd.G_alloc | apply Kd.R_drewN | apply Kd.G_drewN | apply Kd.R_drew | apply Kd.G_drew)); exact HO_0.out⟩, ⟨by repeat (first | (with_reducible first | exact HK.out | apply Kept.alloc | apply Kept.drewN | apply Kept.drew) | exact HK.out)⟩, ⟨by repeat (first | (with_reducible first | exact HB.out | apply below_alloc | apply pw_below_drewN | apply below_drew1) | exact HB.out)⟩⟩
                                    case round => as_aux_lemma =>
                                      clear H'
                                      try clear c1; try clear p1; try clear q1; try clear hx1; try clear qi1; try clear c2; try clear p2; try clear c3; try clear c4; try clear q4; try clear p6; try clear c10; try clear c10b0; try clear c10b1; try clear c12; try clear c14; try clear c14b0; try clear c16; try clear c18; try clear p19; try clear q19; try clear hx19; try clear qi19; try clear c20; try clear c20b0
                                      try clear c21; try clear c22; try clear c22b0; try clear c23; try clear c23b0; try clear c27; try clear c27b0; try clear c27b1; try clear c28; try clear c30; try clear c31; try clear c34; try clear c34b0; try clear c34b1; try clear c35; try clear c35b0; try clear c35b1; try clear c36; try clear c39; try clear c39b0; try clear c40; try clear c44; try clear c44b0
                                      try clear c45; try clear c45b0; try clear c45b1; try clear c46; try clear c46b0; try clear c46b1; try clear c47; try clear c48; try clear q48; try clear hx192_0; try clear p1; try clear p19; try clear p192; try clear p2; try clear p6; try clear q1; try clear q19; try clear q192; try clear q4; try clear q48
                                      obtain ⟨x0_7, x114_7, rfl, HA, HK7, HO_0, HK, HB⟩ := hrel
                                      cases gk with
                                      | zero => exact absurd HA.out (by simp [strconv_fmtEFG.l0])
                                      | succ k7 =>
                                        have H := HA.out
                                        clear HA
                                        simp only [strconv_fmtEFG.l0] at H
                                        by_cases c50 : x114_7 < (wrap64 ((wrap64 (x5_10 + 1)) - x20_41))
                                        · rw [if_pos c50] at H
                                          have c50b0 : decide (x114_7 < (wrap64 ((wrap64 (x5_10 + 1)) - x20_41))) = true := decide_eq_true c50
                                          clear c50
                                          by_cases c51 : x0_7.length < 140737488355328
                                          · rw [if_pos c51] at H
                                            have LMc51 := Aside0.mk c51
                                            clear c51
                                            obtain ⟨y206, hy206⟩ : ∃ y_ : List Int, y_ = (x0_7 ++ [48]) := ⟨_, rfl⟩
                                            replace H : (strconv_fmtEFG.l0 k7 y206 a3 a4 x6_10 (wrap64 ((wrap64 (x5_10 + 1)) - x20_41)) (wrap64 (x114_7 + 1))) = some r := by first | (rw [hy206]; with_reducible exact H) | (have H2_ := (Option.bind_some _ _).symm.trans H; rw [hy206]; with_reducible exact H2_) | (have H2_ := (Option.bind_some _ _).symm.trans H; with_reducible exact H2_) | with_reducible exact H | (rw [hy206]; exact H) | exact H
                                            have Ny206 := Aside0.mk hy206
                                            clear hy206
                                            have H' := Aside0.mk H
                                            clear H
                                            go_wp2_with (first | ((with_reducible refine gate_builtin (b := .append) (xs := #[.tmp 116, .tmp 117]) rfl ?_); at_builtin; refine Kd.G_append (dd := Kd.int .u8) (Kd.int .u8) (w0 := w0) w0.heap.size rfl (.tmp 116) (.tmp 117) 29 5 (.int .u8 0) 1 rfl Tryd.underlying29 info5 rfl (by decide) (by omega) u0 x0_7 48 [.int .u8 48] (fun k_ => (P0_ k_ ∨ w.heap.size ≤ k_)) (fun _ => False) rfl rfl ?aP (fun _ hk => hk.elim) ?aF ?aO ?aB ?aS ?aL ?_; (case aP => exact rfl); (case aB => exact (by repeat (first | (with_reducible first | exact HB.out | apply below_alloc | apply pw_below_drewN | apply below_drew1) | exact HB.out))); (case aF => exact (fun k_ hk => (.inr (Nat.le_trans (by first | exact HK.out.1 | exact (show Kept w _ (fun k_ => P0_ k_) from by repeat (first | (with_reducible first | exact HK.out | apply Kept.alloc | apply Kept.drewN | apply Kept.drew) | exact HK.out)).1) hk)))); (case aO => exact (by (with_reducible repeat (first | apply Kd.R_alloc | apply Kd.G_alloc | apply Kd.R_drewN | apply Kd.G_drewN | apply Kd.R_drew | apply Kd.G_drew)); exact HO_0.out)); (case aS => exact (below_size (by repeat (first | (with_reducible first | exact HB.out | apply below_alloc | apply pw_below_drewN | apply below_drew1) | exact HB.out)))); (case aL => have := LMc51.out; omega); intro v207 w52 ho hb hg hat; rw [← Ny206.out] at ho; have n0_ := Aside0.mk (hb); have n1_ := Aside0.mk (Kept.of_grown (S := (fun k_ => P0_ k_)) hg (by repeat (first | (with_reducible first | exact HK.out | apply Kept.alloc | apply Kept.drewN | apply Kept.drew) | exact HK.out)) (fun k_ e_ => (HO_0.out.1 k_ e_))); have n2_ := Aside0.mk (ho); clear HB; clear HK; clear HO_0; have HB := n0_; have HK := n1_; have HO208 := n2_; clear n0_ n1_ n2_; clear ho hb hg hat))
                                            go_roundg k7
                                            case measure => have := HJ8.out; have := HJ10.out; have := HJ25.out; have := HJ28.out; have := HJ32.out; have := HJ41.out; have := HK7.out; omega
                                            case rel => exact ⟨(y206), (wrap64 (x114_7 + 1)), (by first | rfl | (simp; done) | (simp [*]; done)), H', ⟨by have := HJ8.out; have := HJ10.out; have := HJ25.out; have := HJ28.out; have := HJ32.out; have := HJ41.out; have := HK7.out; omega⟩, ⟨by (with_reducible repeat (first | apply Kd.R_alloc | apply Kd.G_alloc | apply Kd.R_drewN | apply Kd.G_drewN | apply Kd.R_drew | apply Kd.G_drew)); exact HO208.out⟩, ⟨by repeat (first | (with_reducible first | exact HK.out | apply Kept.alloc | apply Kept.drewN | apply Kept.drew) | exact HK.out)⟩, ⟨by repeat (first | (with_reducible first | exact HB.out | apply below_alloc | apply pw_below_drewN | apply below_drew1) | exact HB.out)⟩⟩
                                          · rw [if_neg c51] at H
                                            exact absurd H (by simp)
                                        · rw [if_neg c50] at H
                                          have c50b0 : decide (x114_7 < (wrap64 ((wrap64 (x5_10 + 1)) - x20_41))) = false := decide_eq_false c50
                                          clear c50
                                          have H' := Aside0.mk H
                                          clear H
                                          go_wp2
                                          go_meet
                                          case rel => exact ⟨_, (x0_7), H', ⟨by have := HJ8.out; have := HJ10.out; have := HJ25.out; have := HJ28.out; have := HJ32.out; have := HJ41.out; have := HK7.out; first | omega | exact Nat.le_refl _⟩, ⟨by (with_reducible repeat (first | apply Kd.R_alloc | apply Kd.G_alloc | apply Kd.R_drewN | apply Kd.G_drewN | apply Kd.R_drew | apply Kd.G_drew)); exact HO_0.out⟩, ⟨by repeat (first | (with_reducible first | exact HK.out | apply Kept.alloc | apply Kept.drewN | apply Kept.drew) | exact HK.out)⟩, ⟨by repeat (first | (with_reducible first | exact HB.out | apply below_alloc | apply pw_below_drewN | apply below_drew1) | exact HB.out)⟩⟩
                              · rw [if_neg c40] at H
                                exact absurd H (by simp)
                            · rw [if_neg c39] at H
                              have c39b0 : decide (0 < x5_10) = false := decide_eq_false c39
                              clear c39
                              (first | rw [c39b0] | (simp only [i64_w, i32_w]; rw [c39b0]) | skip)
                              have H' := Aside0.mk H
                              clear H
                              go_wp2
                              go_meet
                              case rel => exact ⟨_, (y193), H', ⟨by have := HJ8.out; have := HJ10.out; have := HJ25.out; have := HJ28.out; have := HJ32.out; first | omega | exact Nat.le_refl _⟩, ⟨by (with_reducible repeat (first | apply Kd.R_alloc | apply Kd.G_alloc | apply Kd.R_drewN | apply Kd.G_drewN | apply Kd.R_drew | apply Kd.G_drew)); exact HO195.out⟩, ⟨by repeat (first | (with_reducible first | exact HK.out | apply Kept.alloc | apply Kept.drewN | apply Kept.drew) | exact HK.out)⟩, ⟨by repeat (first | (with_reducible first | exact HB.out | apply below_alloc | apply pw_below_drewN | apply below_drew1) | exact HB.out)⟩⟩
                          case rest => as_aux_lemma =>
                            clear HC37
                            try clear c1; try clear p1; try clear q1; try clear hx1; try clear qi1; try clear c2; try clear p2; try clear c3; try clear c4; try clear q4; try clear c5; try clear p6; try clear c10; try clear c10b0; try clear c10b1; try clear c12; try clear c14; try clear c14b0; try clear c16; try clear c18; try clear p19; try clear q19; try clear hx19; try clear qi19; try clear c20; try clear c20b0
                            try clear c21; try clear c22; try clear c22b0; try clear c23; try clear c23b0; try clear c27; try clear c27b0; try clear c27b1; try clear c28; try clear c30; try clear c31; try clear c34; try clear c34b0; try clear c34b1; try clear c35; try clear c35b0; try clear c35b1; try clear c36; try clear c39; try clear c39b0; try clear c40; try clear c44; try clear c44b0; try clear c45
                            try clear c45b0; try clear c45b1; try clear c46; try clear c46b0; try clear c46b1; try clear c47; try clear c48; try clear q48; try clear c50; try clear c50b0; try clear c51; try clear hx192_0; try clear p1; try clear p19; try clear p192; try clear p2; try clear p6; try clear q1; try clear q19; try clear q192; try clear q4; try clear q48
                            obtain ⟨kq, x0_36, HA, HJ36, HO_0, HK, HB⟩ := hcut
                            cases kq with
                            | zero => exact absurd HA.out (by simp [strconv_fmtEFG.j11])
                            | succ kj36 =>
                              have H := HA.out
                              clear HA
                              simp only [strconv_fmtEFG.j11] at H
                              by_cases c53 : x0_36.length < 140737488355328
                              · rw [if_pos c53] at H
                                have LMc53 := Aside0.mk c53
                                clear c53
                                obtain ⟨y209, hy209⟩ : ∃ y_ : List Int, y_ = (x0_36 ++ [x6_10]) := ⟨_, rfl⟩
                                replace H : (if a4 = 0 then (strconv_fmtEFG.j12 kj36 y209 0) else (strconv_fmtEFG.j12 kj36 y209 (wrap64 (a3 - 1)))) = some r := by first | (rw [hy209]; with_reducible exact H) | (have H2_ := (Option.bind_some _ _).symm.trans H; rw [hy209]; with_reducible exact H2_) | (have H2_ := (Option.bind_some _ _).symm.trans H; with_reducible exact H2_) | with_reducible exact H | (rw [hy209]; exact H) | exact H
                                have Ny209 := Aside0.mk hy209
                                clear hy209
                                have HC54 := Aside0.mk H
                                clear H
                                go_upto_if 127 with (first | ((with_reducible refine gate_builtin (b := .append) (xs := #[.tmp 120, .tmp 122]) rfl ?_); at_builtin; refine Kd.G_append (dd := Kd.int .u8) (Kd.int .u8) (w0 := w0) w0.heap.size rfl (.tmp 120) (.tmp 122) 29 5 (.int .u8 0) 1 rfl Tryd.underlying29 info5 rfl (by decide) (by omega) u0 x0_36 x6_10 [.int .u8 x6_10] (fun k_ => (P0_ k_ ∨ w.heap.size ≤ k_)) (fun _ => False) rfl rfl ?aP (fun _ hk => hk.elim) ?aF ?aO ?aB ?aS ?aL ?_; (case aP => exact rfl); (case aB => exact (by repeat (first | (with_reducible first | exact HB.out | apply below_alloc | apply pw_below_drewN | apply below_drew1) | exact HB.out))); (case aF => exact (fun k_ hk => (.inr (Nat.le_trans (by first | exact HK.out.1 | exact (show Kept w _ (fun k_ => P0_ k_) from by repeat (first | (with_reducible first | exact HK.out | apply Kept.alloc | apply Kept.drewN | apply Kept.drew) | exact HK.out)).1) hk)))); (case aO => exact (by (with_reducible repeat (first | apply Kd.R_alloc | apply Kd.G_alloc | apply Kd.R_drewN | apply Kd.G_drewN | apply Kd.R_drew | apply Kd.G_drew)); exact HO_0.out)); (case aS => exact (below_size (by repeat (first | (with_reducible first | exact HB.out | apply below_alloc | apply pw_below_drewN | apply below_drew1) | exact HB.out)))); (case aL => have := LMc53.out; omega); intro v210 w55 ho hb hg hat; rw [← Ny209.out] at ho; have n0_ := Aside0.mk (hb); have n1_ := Aside0.mk (Kept.of_grown (S := (fun k_ => P0_ k_)) hg (by repeat (first | (with_reducible first | exact HK.out | apply Kept.alloc | apply Kept.drewN | apply Kept.drew) | exact HK.out)) (fun k_ e_ => (HO_0.out.1 k_ e_))); have n2_ := Aside0.mk (ho); clear HB; clear HK; clear HO_0; have HB := n0_; have HK := n1_; have HO211 := n2_; clear n0_ n1_ n2_; clear ho hb hg hat))
                                (try simp only [Act.put, List.setIfInBounds_toArray, List.set_cons_zero, List.set_cons_succ])
                                go_cut [22] (fun v22 wc => ∃ (kq : Nat) (x22_53 : Int), v22 = .int .i64 x22_53 ∧ Aside0 (strconv_fmtEFG.j12 kq y209 x22_53 = some r) ∧ Aside0 (kq ≤ kj36) ∧ Aside0 (Kd.G (Kd.int .u8) 5 wc w0.heap.size (fun k_ => (P0_ k_ ∨ w.heap.size ≤ k_)) v210 y209) ∧ Aside0 (Kept w wc (fun k_ => P0_ k_)) ∧ Aside0 (Below w0.heap.size w0 wc))
                                case first => as_aux_lemma =>
                                  have H := HC54.out
                                  clear HC54
                                  by_cases c56 : a4 = 0
                                  · rw [if_pos c56] at H
                                    have c56b0 : (a4 == 0) = true := beq_iff_eq.mpr c56
                                    have c56b1 : (a4 != 0) = false := bne_eq_false_iff_eq.mpr c56
                                    clear c56
                                    (first | rw [c56b0] | (simp only [i64_w, i32_w]; rw [c56b0]) | skip)
                                    have H' := Aside0.mk H
                                    clear H
                                    go_wp2
                                    go_meet
                                    case rel => exact ⟨_, (0), (by first | rfl | (simp; done) | (simp [*]; done)), H', ⟨by have := HJ8.out; have := HJ10.out; have := HJ25.out; have := HJ28.out; have := HJ32.out; have := HJ36.out; first | omega | exact Nat.le_refl _⟩, ⟨by (with_reducible repeat (first | apply Kd.R_alloc | apply Kd.G_alloc | apply Kd.R_drewN | apply Kd.G_drewN | apply Kd.R_drew | apply Kd.G_drew)); exact HO211.out⟩, ⟨by repeat (first | (with_reducible first | exact HK.out | apply Kept.alloc | apply Kept.drewN | apply Kept.drew) | exact HK.out)⟩, ⟨by repeat (first | (with_reducible first | exact HB.out | apply below_alloc | apply pw_below_drewN | apply below_drew1) | exact HB.out)⟩⟩
                                  · rw [if_neg c56] at H
                                    have c56b0 : (a4 == 0) = false := beq_eq_false_iff_ne.mpr c56
                                    have c56b1 : (a4 != 0) = true := bne_iff_ne.mpr c56
                                    (first | rw [c56b0] | (simp only [i64_w, i32_w]; rw [c56b0]) | skip)
                                    have H' := Aside0.mk H
                                    clear H
                                    go_wp2
                                    go_meet
                                    case rel => exact ⟨_, (wrap64 (a3 - 1)), (by first | rfl | (simp; done) | (simp [*]; done)), H', ⟨by have := HJ8.out; have := HJ10.out; have := HJ25.out; have := HJ28.out; have := HJ32.out; have := HJ36.out; first | omega | exact Nat.le_refl _⟩, ⟨by (with_reducible repeat (first | apply Kd.R_alloc | apply Kd.G_alloc | apply Kd.R_drewN | apply Kd.G_drewN | apply Kd.R_drew | apply Kd.G_drew)); exact HO211.out⟩, ⟨by repeat (first | (with_reducible first | exact HK.out | apply Kept.alloc | apply Kept.drewN | apply Kept.drew) | exact HK.out)⟩, ⟨by repeat (first | (with_reducible first | exact HB.out | apply below_alloc | apply pw_below_drewN | apply below_drew1) | exact HB.out)⟩⟩
                                case rest => as_aux_lemma =>
                                  clear HC54
                                  try clear c1; try clear p1; try clear q1; try clear hx1; try clear qi1; try clear c2; try clear p2; try clear c3; try clear c4; try clear q4; try clear c5; try clear p6; try clear c10; try clear c10b0; try clear c10b1; try clear c12; try clear c14; try clear c14b0; try clear c16; try clear c18; try clear p19; try clear q19; try clear hx19; try clear qi19; try clear c20
                                  try clear c20b0; try clear c21; try clear c22; try clear c22b0; try clear c23; try clear c23b0; try clear c27; try clear c27b0; try clear c27b1; try clear c28; try clear c30; try clear c31; try clear c34; try clear c34b0; try clear c34b1; try clear c35; try clear c35b0; try clear c35b1; try clear c36; try clear c39; try clear c39b0; try clear c40; try clear c44; try clear c44b0
                                  try clear c45; try clear c45b0; try clear c45b1; try clear c46; try clear c46b0; try clear c46b1; try clear c47; try clear c48; try clear q48; try clear c50; try clear c50b0; try clear c51; try clear c53; try clear c56; try clear c56b0; try clear c56b1; try clear hx192_0; try clear p1; try clear p19; try clear p192; try clear p2; try clear p6; try clear q1; try clear q19
                                  try clear q192; try clear q4; try clear q48
                                  obtain ⟨kq, x22_53, rfl, HA, HJ53, HO_0, HK, HB⟩ := hcut
                                  cases kq with
                                  | zero => exact absurd HA.out (by simp [strconv_fmtEFG.j12])
                                  | succ kj53 =>
                                    have H := HA.out
                                    clear HA
                                    simp only [strconv_fmtEFG.j12] at H
                                    have HC57 := Aside0.mk H
                                    clear H
                                    go_upto_if 129 with (fail)
                                    go_cut [19, 22] (fun v19 v22 wc => ∃ (kq : Nat) (x19_56 : Int) (x22_56 : Int), v19 = .int .u8 x19_56 ∧ v22 = .int .i64 x22_56 ∧ Aside0 (strconv_fmtEFG.j13 kq y209 x19_56 x22_56 = some r) ∧ Aside0 (kq ≤ kj53) ∧ Aside0 (Kd.G (Kd.int .u8) 5 wc w0.heap.size (fun k_ => (P0_ k_ ∨ w.heap.size ≤ k_)) v210 y209) ∧ Aside0 (Kept w wc (fun k_ => P0_ k_)) ∧ Aside0 (Below w0.heap.size w0 wc))
                                    case first => as_aux_lemma =>
                                      have H := HC57.out
                                      clear HC57
                                      by_cases c58 : x22_53 < 0
                                      · rw [if_pos c58] at H
                                        have c58b0 : decide (x22_53 < 0) = true := decide_eq_true c58
                                        clear c58
                                        (first | rw [c58b0] | (simp only [i64_w, i32_w]; rw [c58b0]) | skip)
                                        have H' := Aside0.mk H
                                        clear H
                                        go_wp2
                                        go_meet
                                        case rel => exact ⟨_, (45), (wrap64 (-x22_53)), (by first | rfl | (simp; done) | (simp [*]; done)), (by first | rfl | (simp; done) | (simp [*]; done)), H', ⟨by have := HJ8.out; have := HJ10.out; have := HJ25.out; have := HJ28.out; have := HJ32.out; have := HJ36.out; have := HJ53.out; first | omega | exact Nat.le_refl _⟩, ⟨by (with_reducible repeat (first | apply Kd.R_alloc | apply Kd.G_alloc | apply Kd.R_drewN | apply Kd.G_drewN | apply Kd.R_drew | apply Kd.G_drew)); exact HO_0.out⟩, ⟨by repeat (first | (with_reducible first | exact HK.out | apply Kept.alloc | apply Kept.drewN | apply Kept.drew) | exact HK.out)⟩, ⟨by repeat (first | (with_reducible first | exact HB.out | apply below_alloc | apply pw_below_drewN | apply below_drew1) | exact HB.out)⟩⟩
                                      · rw [if_neg c58] at H
                                        have c58b0 : decide (x22_53 < 0) = false := decide_eq_false c58
                                        clear c58
                                        (first | rw [c58b0] | (simp only [i64_w, i32_w]; rw [c58b0]) | skip)
                                        have H' := Aside0.mk H
                                        clear H
                                        go_wp2
                                        go_meet
                                        case rel => exact ⟨_, (43), (x22_53), (by first | rfl | (simp; done) | (simp [*]; done)), (by first | rfl | (simp; done) | (simp [*]; done)), H', ⟨by have := HJ8.out; have := HJ10.out; have := HJ25.out; have := HJ28.out; have := HJ32.out; have := HJ36.out; have := HJ53.out; first | omega | exact Nat.le_refl _⟩, ⟨by (with_reducible repeat (first | apply Kd.R_alloc | apply Kd.G_alloc | apply Kd.R_drewN | apply Kd.G_drewN | apply Kd.R_drew | apply Kd.G_drew)); exact HO_0.out⟩, ⟨by repeat (first | (with_reducible first | exact HK.out | apply Kept.alloc | apply Kept.drewN | apply Kept.drew) | exact HK.out)⟩, ⟨by repeat (first | (with_reducible first | exact HB.out | apply below_alloc | apply pw_below_drewN | apply below_drew1) | exact HB.out)⟩⟩
                                    case rest => as_aux_lemma =>
                                      clear HC57
                                      try clear c1; try clear p1; try clear q1; try clear hx1; try clear qi1; try clear c2; try clear p2; try clear c3; try clear c4; try clear q4; try clear c5; try clear p6; try clear c10; try clear c10b0; try clear c10b1; try clear c12; try clear c14; try clear c14b0; try clear c16; try clear c18; try clear p19; try clear q19; try clear hx19; try clear qi19; try clear c20
                                      try clear c20b0; try clear c21; try clear c22; try clear c22b0; try clear c23; try clear c23b0; try clear c27; try clear c27b0; try clear c27b1; try clear c28; try clear c30; try clear c31; try clear c34; try clear c34b0; try clear c34b1; try clear c35; try clear c35b0; try clear c35b1; try clear c36; try clear c39; try clear c39b0; try clear c40; try clear c44
                                      try clear c44b0; try clear c45; try clear c45b0; try clear c45b1; try clear c46; try clear c46b0; try clear c46b1; try clear c47; try clear c48; try clear q48; try clear c50; try clear c50b0; try clear c51; try clear c53; try clear c56; try clear c56b0; try clear c56b1; try clear c58; try clear c58b0; try clear hx192_0; try clear p1; try clear p19; try clear p192
                                      try clear p2; try clear p6; try clear q1; try clear q19; try clear q192; try clear q4; try clear q48
                                      obtain ⟨kq, x19_56, x22_56, rfl, rfl, HA, HJ56, HO_0, HK, HB⟩ := hcut
                                      cases kq with
                                      | zero => exact absurd HA.out (by simp [strconv_fmtEFG.j13])
                                      | succ kj56 =>
                                        have H := HA.out
                                        clear HA
                                        simp only [strconv_fmtEFG.j13] at H
                                        by_cases c59 : y209.length < 140737488355328
                                        · rw [if_pos c59] at H
                                          have LMc59 := Aside0.mk c59
                                          clear c59
                                          obtain ⟨y212, hy212⟩ : ∃ y_ : List Int, y_ = (y209 ++ [x19_56]) := ⟨_, rfl⟩
                                          replace H : (if x22_56 < 10 then ((some (([48, (((x22_56) % 256) + 48) % 256] : List Int) : List Int)).bind fun y215 => (if y212.length + y215.length < 140737488355328 then (some (y212 ++ y215)) else (none))) else (if x22_56 < 100 then ((some (([(((wrap64 (Int.tdiv x22_56 10)) % 256) + 48) % 256, (((Int.tmod x22_56 10) % 256) + 48) % 256] : List Int) : List Int)).bind fun y221 => (if y212.length + y221.length < 140737488355328 then (some (y212 ++ y221)) else (none))) else ((some (([(((wrap64 (Int.tdiv x22_56 100)) % 256) + 48) % 256, (((wrap64 (Int.tdiv x22_56 10)) % 256) % 10) + 48, (((Int.tmod x22_56 10) % 256) + 48) % 256] : List Int) : List Int)).bind fun y227 => (if y212.length + y227.length < 140737488355328 then (some (y212 ++ y227)) else (none))))) = some r := by first | (rw [hy212]; with_reducible exact H) | (have H2_ := (Option.bind_some _ _).symm.trans H; rw [hy212]; with_reducible exact H2_) | (have H2_ := (Option.bind_some _ _).symm.trans H; with_reducible exact H2_) | with_reducible exact H | (rw [hy212]; exact H) | exact H
                                          have Ny212 := Aside0.mk hy212
                                          clear hy212
                                          by_cases c60 : x22_56 < 10
                                          · rw [if_pos c60] at H
                                            have c60b0 : decide (x22_56 < 10) = true := decide_eq_true c60
                                            clear c60
                                            obtain ⟨y215, hy215⟩ : ∃ y_ : List Int, y_ = (([48, (((x22_56) % 256) + 48) % 256] : List Int)) := ⟨_, rfl⟩
                                            replace H : (if y212.length + y215.length < 140737488355328 then (some (y212 ++ y215)) else (none)) = some r := by first | (rw [hy215]; with_reducible exact H) | (have H2_ := (Option.bind_some _ _).symm.trans H; rw [hy215]; with_reducible exact H2_) | (have H2_ := (Option.bind_some _ _).symm.trans H; with_reducible exact H2_) | with_reducible exact H | (rw [hy215]; exact H) | exact H
                                            have Ny215 := Aside0.mk hy215
                                            clear hy215
                                            by_cases c61 : y212.length + y215.length < 140737488355328
                                            · rw [if_pos c61] at H
                                              have LMc61 := Aside0.mk c61
                                              clear c61
                                              obtain ⟨y218, hy218⟩ : ∃ y_ : List Int, y_ = (y212 ++ y215) := ⟨_, rfl⟩
                                              replace H : (some y218) = some r := by first | (rw [hy218]; with_reducible exact H) | (have H2_ := (Option.bind_some _ _).symm.trans H; rw [hy218]; with_reducible exact H2_) | (have H2_ := (Option.bind_some _ _).symm.trans H; with_reducible exact H2_) | with_reducible exact H | (rw [hy218]; exact H) | exact H
                                              have Ny218 := Aside0.mk hy218
                                              clear hy218
                                              obtain rfl := Option.some.inj H
                                              go_wp2_with (first | ((with_reducible refine gate_builtin (b := .append) (xs := #[.tmp 132, .tmp 134]) rfl ?_); at_builtin; refine Kd.G_append (dd := Kd.int .u8) (Kd.int .u8) (w0 := w0) w0.heap.size rfl (.tmp 132) (.tmp 134) 29 5 (.int .u8 0) 1 rfl Tryd.underlying29 info5 rfl (by decide) (by omega) v210 y209 x19_56 [.int .u8 x19_56] (fun k_ => (P0_ k_ ∨ w.heap.size ≤ k_)) (fun _ => False) rfl rfl ?aP (fun _ hk => hk.elim) ?aF ?aO ?aB ?aS ?aL ?_; (case aP => exact rfl); (case aB => exact (by repeat (first | (with_reducible first | exact HB.out | apply below_alloc | apply pw_below_drewN | apply below_drew1) | exact HB.out))); (case aF => exact (fun k_ hk => (.inr (Nat.le_trans (by first | exact HK.out.1 | exact (show Kept w _ (fun k_ => P0_ k_) from by repeat (first | (with_reducible first | exact HK.out | apply Kept.alloc | apply Kept.drewN | apply Kept.drew) | exact HK.out)).1) hk)))); (case aO => exact (by (with_reducible repeat (first | apply Kd.R_alloc | apply Kd.G_alloc | apply Kd.R_drewN | apply Kd.G_drewN | apply Kd.R_drew | apply Kd.G_drew)); exact HO_0.out)); (case aS => exact (below_size (by repeat (first | (with_reducible first | exact HB.out | apply below_alloc | apply pw_below_drewN | apply below_drew1) | exact HB.out)))); (case aL => have := LMc59.out; omega); intro v213 w62 ho hb hg hat; rw [← Ny212.out] at ho; have n0_ := Aside0.mk (hb); have n1_ := Aside0.mk (Kept.of_grown (S := (fun k_ => P0_ k_)) hg (by repeat (first | (with_reducible first | exact HK.out | apply Kept.alloc | apply Kept.drewN | apply Kept.drew) | exact HK.out)) (fun k_ e_ => (HO_0.out.1 k_ e_))); have n2_ := Aside0.mk (ho); clear HB; clear HK; clear HO_0; have HB := n0_; have HK := n1_; have HO214 := n2_; clear n0_ n1_ n2_; clear ho hb hg hat) | ((with_reducible refine gate_dst (N := 159) rfl ?_); refine Kd.R_lit (Kd.int .u8) _ 5 ?hg (N := 159) ?hd (xs := ([48, (((x22_56) % 256) + 48) % 256] : List Int)) (inner := [.int .u8 48, .int .u8 ((((x22_56) % 256) + 48) % 256)]) (ok := fun _ => True) (okp := fun _ => True) ?hr ?hp (fun _ hk => hk) trivial (Below.refl _ _) (Nat.le_refl _) (by simp) ?_; (case hd => rfl); (case hg => rfl); (case hr => first | (go_simp; done) | (go_simp; rfl)); (case hp => exact (Reps.one (show Kd.M (Kd.int .u8) _ _ _ 48 [.int .u8 48] from rfl) (Reps.one (show Kd.M (Kd.int .u8) _ _ _ ((((x22_56) % 256) + 48) % 256) [.int .u8 ((((x22_56) % 256) + 48) % 256)] from rfl) (Reps.none _ _)))); intro v216 w63 ho64 hb hg_ hnew_; clear hg_ hnew_; (first | rw [← Ny215.out] at ho64 | (simp only [Int.reduceToNat] at ho64; rw [← Ny215.out] at ho64)); have n0_ := Aside0.mk (Kd.G_elder' (by (with_reducible repeat (first | apply Kd.R_alloc | apply Kd.G_alloc | apply Kd.R_drewN | apply Kd.G_drewN | apply Kd.R_drew | apply Kd.G_drew)); exact HO214.out) (Kd.R_base ho64) hb); have n1_ := Aside0.mk (Kd.R_lower (Kd.R_new' (Kd.R_newM (M := fun k_ => (P0_ k_ ∨ w.heap.size ≤ k_)) ho64 (by first | exact HK.out.1 | exact (show Kept w _ (fun k_ => P0_ k_) from by repeat (first | (with_reducible first | exact HK.out | apply Kept.alloc | apply Kept.drewN | apply Kept.drew) | exact HK.out)).1) (fun k_ h_ => .inr h_)) (Kd.G_lt (by (with_reducible repeat (first | apply Kd.R_alloc | apply Kd.G_alloc | apply Kd.R_drewN | apply Kd.G_drewN | apply Kd.R_drew | apply Kd.G_drew)); exact HO214.out))) (below_size (by repeat (first | (with_reducible first | exact HB.out | apply below_alloc | apply pw_below_drewN | apply below_drew1) | exact HB.out)))); have n2_ := Aside0.mk (Kept.below (S := (fun k_ => P0_ k_)) (by repeat (first | (with_reducible first | exact HK.out | apply Kept.alloc | apply Kept.drewN | apply Kept.drew) | exact HK.out)) hb); have n3_ := Aside0.mk (below_step (by repeat (first | (with_reducible first | exact HB.out | apply below_alloc | apply pw_below_drewN | apply below_drew1) | exact HB.out)) hb); clear HO214; clear HK; clear HB; have HO214 := n0_; have HO217 := n1_; have HK := n2_; have HB := n3_; clear n0_ n1_ n2_ n3_; clear hb ho64; obtain ⟨Ao66, co66, eo66⟩ := Kd.R_slice HO217.out; subst eo66) | ((with_reducible refine gate_builtin (b := .append) (xs := #[.tmp 155, .tmp 159]) rfl ?_); at_builtin; refine Kd.G_append_rows (dd := Kd.int .u8) (Kd.int .u8) (w0 := w0) w0.heap.size rfl (.tmp 155) (.tmp 159) 29 5 (.int .u8 0) 1 rfl Tryd.underlying29 info5 rfl (by decide) (by omega) v213 y212 y215 _ _ _ (fun k_ => (P0_ k_ ∨ w.heap.size ≤ k_) ∧ some k_ ≠ (.slice Ao66 y215.length co66 : Value).ownBlock) (fun _ => False) rfl rfl ?aO ?aR (fun _ _ h => h) (fun _ h => h.elim) ?aF ?aB ?aS ?aL ?_; (case aR => repeat (first | exact (Kd.R_reads' HO217.out).2.2 | (with_reducible refine Kd.C_alloc ?_ _) | (with_reducible refine Kd.C_drewN ?_ _) | (with_reducible refine Kd.C_drew ?_))); (case aB => exact (by repeat (first | (with_reducible first | exact HB.out | apply below_alloc | apply pw_below_drewN | apply below_drew1) | exact HB.out))); (case aF => exact (fun k_ hk => ⟨(.inr (Nat.le_trans (by first | exact HK.out.1 | exact (show Kept w _ (fun k_ => P0_ k_) from by repeat (first | (with_reducible first | exact HK.out | apply Kept.alloc | apply Kept.drewN | apply Kept.drew) | exact HK.out)).1) hk)), Kd.fresh' (Kd.R_lt (by (with_reducible repeat (first | apply Kd.R_alloc | apply Kd.G_alloc | apply Kd.R_drewN | apply Kd.G_drewN | apply Kd.R_drew | apply Kd.G_drew)); exact HO217.out)) k_ hk⟩)); (case aO => exact (by (with_reducible repeat (first | apply Kd.R_alloc | apply Kd.G_alloc | apply Kd.R_drewN | apply Kd.G_drewN | apply Kd.R_drew | apply Kd.G_drew)); exact HO214.out)); (case aS => exact (below_size (by repeat (first | (with_reducible first | exact HB.out | apply below_alloc | apply pw_below_drewN | apply below_drew1) | exact HB.out)))); (case aL => have := LMc61.out; omega); intro v219 w65 ho hb hg hat; rw [← Ny218.out] at ho; have n0_ := Aside0.mk (Kd.R_after (ok := (fun k_ => (P0_ k_ ∨ w.heap.size ≤ k_))) (by (with_reducible repeat (first | apply Kd.R_alloc | apply Kd.G_alloc | apply Kd.R_drewN | apply Kd.G_drewN | apply Kd.R_drew | apply Kd.G_drew)); exact Kd.R_mono HO217.out (fun _ hk => ⟨hk.1.1, hk.2⟩)) hg hat); have n1_ := Aside0.mk (hb); have n2_ := Aside0.mk (Kept.of_grown (S := (fun k_ => P0_ k_)) hg (by repeat (first | (with_reducible first | exact HK.out | apply Kept.alloc | apply Kept.drewN | apply Kept.drew) | exact HK.out)) (fun k_ e_ => (HO214.out.1 k_ e_).1)); have n3_ := Aside0.mk (ho); clear HO217; clear HB; clear HK; clear HO214; have HO217 := n0_; have HB := n1_; have HK := n2_; have HO220 := n3_; clear n0_ n1_ n2_ n3_; clear ho hb hg hat))
                                              go_ret
                                              exact ⟨_, by first | rfl | (simp [errW_none, errW_some] <;> rfl) | (simp [*, errW_none, errW_some] <;> rfl), by (with_reducible repeat (first | apply Kd.R_alloc | apply Kd.G_alloc | apply Kd.R_drewN | apply Kd.G_drewN | apply Kd.R_drew | apply Kd.G_drew)); exact Kd.G_mono HO220.out (fun _ hk => hk.1), by repeat (first | (with_reducible first | exact HB.out | apply below_alloc | apply pw_below_drewN | apply below_drew1) | exact HB.out), by repeat (first | (with_reducible first | exact HK.out | apply Kept.alloc | apply Kept.drewN | apply Kept.drew) | exact HK.out)⟩
                                            · rw [if_neg c61] at H
                                              exact absurd H (by simp)
                                          · rw [if_neg c60] at H
                                            have c60b0 : decide (x22_56 < 10) = false := decide_eq_false c60
                                            clear c60
                                            by_cases c67 : x22_56 < 100
                                            · rw [if_pos c67] at H
                                              have c67b0 : decide (x22_56 < 100) = true := decide_eq_true c67
                                              clear c67
                                              obtain ⟨y221, hy221⟩ : ∃ y_ : List Int, y_ = (([(((wrap64 (Int.tdiv x22_56 10)) % 256) + 48) % 256, (((Int.tmod x22_56 10) % 256) + 48) % 256] : List Int)) := ⟨_, rfl⟩
                                              replace H : (if y212.length + y221.length < 140737488355328 then (some (y212 ++ y221)) else (none)) = some r := by first | (rw [hy221]; with_reducible exact H) | (have H2_ := (Option.bind_some _ _).symm.trans H; rw [hy221]; with_reducible exact H2_) | (have H2_ := (Option.bind_some _ _).symm.trans H; with_reducible exact H2_) | with_reducible exact H | (rw [hy221]; exact H) | exact H
                                              have Ny221 := Aside0.mk hy221
                                              clear hy221
                                              by_cases c68 : y212.length + y221.length < 140737488355328
                                              · rw [if_pos c68] at H
                                                have LMc68 := Aside0.mk c68
                                                clear c68
                                                obtain ⟨y224, hy224⟩ : ∃ y_ : List Int, y_ = (y212 ++ y221) := ⟨_, rfl⟩
                                                replace H : (some y224) = some r := by first | (rw [hy224]; with_reducible exact H) | (have H2_ := (Option.bind_some _ _).symm.trans H; rw [hy224]; with_reducible exact H2_) | (have H2_ := (Option.bind_some _ _).symm.trans H; with_reducible exact H2_) | with_reducible exact H | (rw [hy224]; exact H) | exact H
                                                have Ny224 := Aside0.mk hy224
                                                clear hy224
                                                obtain rfl := Option.some.inj H
                                                go_wp2_with (first | ((with_reducible refine gate_builtin (b := .append) (xs := #[.tmp 132, .tmp 134]) rfl ?_); at_builtin; refine Kd.G_append (dd := Kd.int .u8) (Kd.int .u8) (w0 := w0) w0.heap.size rfl (.tmp 132) (.tmp 134) 29 5 (.int .u8 0) 1 rfl Tryd.underlying29 info5 rfl (by decide) (by omega) v210 y209 x19_56 [.int .u8 x19_56] (fun k_ => (P0_ k_ ∨ w.heap.size ≤ k_)) (fun _ => False) rfl rfl ?aP (fun _ hk => hk.elim) ?aF ?aO ?aB ?aS ?aL ?_; (case aP => exact rfl); (case aB => exact (by repeat (first | (with_reducible first | exact HB.out | apply below_alloc | apply pw_below_drewN | apply below_drew1) | exact HB.out))); (case aF => exact (fun k_ hk => (.inr (Nat.le_trans (by first | exact HK.out.1 | exact (show Kept w _ (fun k_ => P0_ k_) from by repeat (first | (with_reducible first | exact HK.out | apply Kept.alloc | apply Kept.drewN | apply Kept.drew) | exact HK.out)).1) hk)))); (case aO => exact (by (with_reducible repeat (first | apply Kd.R_alloc | apply Kd.G_alloc | apply Kd.R_drewN | apply Kd.G_drewN | apply Kd.R_drew | apply Kd.G_drew)); exact HO_0.out)); (case aS => exact (below_size (by repeat (first | (with_reducible first | exact HB.out | apply below_alloc | apply pw_below_drewN | apply below_drew1) | exact HB.out)))); (case aL => have := LMc59.out; omega); intro v213 w69 ho hb hg hat; rw [← Ny212.out] at ho; have n0_ := Aside0.mk (hb); have n1_ := Aside0.mk (Kept.of_grown (S := (fun k_ => P0_ k_)) hg (by repeat (first | (with_reducible first | exact HK.out | apply Kept.alloc | apply Kept.drewN | apply Kept.drew) | exact HK.out)) (fun k_ e_ => (HO_0.out.1 k_ e_))); have n2_ := Aside0.mk (ho); clear HB; clear HK; clear HO_0; have HB := n0_; have HK := n1_; have HO214 := n2_; clear n0_ n1_ n2_; clear ho hb hg hat) | ((with_reducible refine gate_dst (N := 173) rfl ?_); refine Kd.R_lit (Kd.int .u8) _ 5 ?hg (N := 173) ?hd (xs := ([(((wrap64 (Int.tdiv x22_56 10)) % 256) + 48) % 256, (((Int.tmod x22_56 10) % 256) + 48) % 256] : List Int)) (inner := [.int .u8 ((((wrap64 (Int.tdiv x22_56 10)) % 256) + 48) % 256), .int .u8 ((((Int.tmod x22_56 10) % 256) + 48) % 256)]) (ok := fun _ => True) (okp := fun _ => True) ?hr ?hp (fun _ hk => hk) trivial (Below.refl _ _) (Nat.le_refl _) (by simp) ?_; (case hd => rfl); (case hg => rfl); (case hr => first | (go_simp; done) | (go_simp; rfl)); (case hp => exact (Reps.one (show Kd.M (Kd.int .u8) _ _ _ ((((wrap64 (Int.tdiv x22_56 10)) % 256) + 48) % 256) [.int .u8 ((((wrap64 (Int.tdiv x22_56 10)) % 256) + 48) % 256)] from rfl) (Reps.one (show Kd.M (Kd.int .u8) _ _ _ ((((Int.tmod x22_56 10) % 256) + 48) % 256) [.int .u8 ((((Int.tmod x22_56 10) % 256) + 48) % 256)] from rfl) (Reps.none _ _)))); intro v222 w70 ho71 hb hg_ hnew_; clear hg_ hnew_; (first | rw [← Ny221.out] at ho71 | (simp only [Int.reduceToNat] at ho71; rw [← Ny221.out] at ho71)); have n0_ := Aside0.mk (Kd.G_elder' (by (with_reducible repeat (first | apply Kd.R_alloc | apply Kd.G_alloc | apply Kd.R_drewN | apply Kd.G_drewN | apply Kd.R_drew | apply Kd.G_drew)); exact HO214.out) (Kd.R_base ho71) hb); have n1_ := Aside0.mk (Kd.R_lower (Kd.R_new' (Kd.R_newM (M := fun k_ => (P0_ k_ ∨ w.heap.size ≤ k_)) ho71 (by first | exact HK.out.1 | exact (show Kept w _ (fun k_ => P0_ k_) from by repeat (first | (with_reducible first | exact HK.out | apply Kept.alloc | apply Kept.drewN | apply Kept.drew) | exact HK.out)).1) (fun k_ h_ => .inr h_)) (Kd.G_lt (by (with_reducible repeat (first | apply Kd.R_alloc | apply Kd.G_alloc | apply Kd.R_drewN | apply Kd.G_drewN | apply Kd.R_drew | apply Kd.G_drew)); exact HO214.out))) (below_size (by repeat (first | (with_reducible first | exact HB.out | apply below_alloc | apply pw_below_drewN | apply below_drew1) | exact HB.out)))); have n2_ := Aside0.mk (Kept.below (S := (fun k_ => P0_ k_)) (by repeat (first | (with_reducible first | exact HK.out | apply Kept.alloc | apply Kept.drewN | apply Kept.drew) | exact HK.out)) hb); have n3_ := Aside0.mk (below_step (by repeat (first | (with_reducible first | exact HB.out | apply below_alloc | apply pw_below_drewN | apply below_drew1) | exact HB.out)) hb); clear HO214; clear HK; clear HB; have HO214 := n0_; have HO223 := n1_; have HK := n2_; have HB := n3_; clear n0_ n1_ n2_ n3_; clear hb ho71; obtain ⟨Ao73, co73, eo73⟩ := Kd.R_slice HO223.out; subst eo73) | ((with_reducible refine gate_builtin (b := .append) (xs := #[.tmp 164, .tmp 173]) rfl ?_); at_builtin; refine Kd.G_append_rows (dd := Kd.int .u8) (Kd.int .u8) (w0 := w0) w0.heap.size rfl (.tmp 164) (.tmp 173) 29 5 (.int .u8 0) 1 rfl Tryd.underlying29 info5 rfl (by decide) (by omega) v213 y212 y221 _ _ _ (fun k_ => (P0_ k_ ∨ w.heap.size ≤ k_) ∧ some k_ ≠ (.slice Ao73 y221.length co73 : Value).ownBlock) (fun _ => False) rfl rfl ?aO ?aR (fun _ _ h => h) (fun _ h => h.elim) ?aF ?aB ?aS ?aL ?_; (case aR => repeat (first | exact (Kd.R_reads' HO223.out).2.2 | (with_reducible refine Kd.C_alloc ?_ _) | (with_reducible refine Kd.C_drewN ?_ _) | (with_reducible refine Kd.C_drew ?_))); (case aB => exact (by repeat (first | (with_reducible first | exact HB.out | apply below_alloc | apply pw_below_drewN | apply below_drew1) | exact HB.out))); (case aF => exact (fun k_ hk => ⟨(.inr (Nat.le_trans (by first | exact HK.out.1 | exact (show Kept w _ (fun k_ => P0_ k_) from by repeat (first | (with_reducible first | exact HK.out | apply Kept.alloc | apply Kept.drewN | apply Kept.drew) | exact HK.out)).1) hk)), Kd.fresh' (Kd.R_lt (by (with_reducible repeat (first | apply Kd.R_alloc | apply Kd.G_alloc | apply Kd.R_drewN | apply Kd.G_drewN | apply Kd.R_drew | apply Kd.G_drew)); exact HO223.out)) k_ hk⟩)); (case aO => exact (by (with_reducible repeat (first | apply Kd.R_alloc | apply Kd.G_alloc | apply Kd.R_drewN | apply Kd.G_drewN | apply Kd.R_drew | apply Kd.G_drew)); exact HO214.out)); (case aS => exact (below_size (by repeat (first | (with_reducible first | exact HB.out | apply below_alloc | apply pw_below_drewN | apply below_drew1) | exact HB.out)))); (case aL => have := LMc68.out; omega); intro v225 w72 ho hb hg hat; rw [← Ny224.out] at ho; have n0_ := Aside0.mk (Kd.R_after (ok := (fun k_ => (P0_ k_ ∨ w.heap.size ≤ k_))) (by (with_reducible repeat (first | apply Kd.R_alloc | apply Kd.G_alloc | apply Kd.R_drewN | apply Kd.G_drewN | apply Kd.R_drew | apply Kd.G_drew)); exact Kd.R_mono HO223.out (fun _ hk => ⟨hk.1.1, hk.2⟩)) hg hat); have n1_ := Aside0.mk (hb); have n2_ := Aside0.mk (Kept.of_grown (S := (fun k_ => P0_ k_)) hg (by repeat (first | (with_reducible first | exact HK.out | apply Kept.alloc | apply Kept.drewN | apply Kept.drew) | exact HK.out)) (fun k_ e_ => (HO214.out.1 k_ e_).1)); have n3_ := Aside0.mk (ho); clear HO223; clear HB; clear HK; clear HO214; have HO223 := n0_; have HB := n1_; have HK := n2_; have HO226 := n3_; clear n0_ n1_ n2_ n3_; clear ho hb hg hat))
                                                go_ret
                                                exact ⟨_, by first | rfl | (simp [errW_none, errW_some] <;> rfl) | (simp [*, errW_none, errW_some] <;> rfl), by (with_reducible repeat (first | apply Kd.R_alloc | apply Kd.G_alloc | apply Kd.R_drewN | apply Kd.G_drewN | apply Kd.R_drew | apply Kd.G_drew)); exact Kd.G_mono HO226.out (fun _ hk => hk.1), by repeat (first | (with_reducible first | exact HB.out | apply below_alloc | apply pw_below_drewN | apply below_drew1) | exact HB.out), by repeat (first | (with_reducible first | exact HK.out | apply Kept.alloc | apply Kept.drewN | apply Kept.drew) | exact HK.out)⟩
                                              · rw [if_neg c68] at H
                                                exact absurd H (by simp)
                                            · rw [if_neg c67] at H
                                              have c67b0 : decide (x22_56 < 100) = false := decide_eq_false c67
                                              clear c67
                                              obtain ⟨y227, hy227⟩ : ∃ y_ : List Int, y_ = (([(((wrap64 (Int.tdiv x22_56 100)) % 256) + 48) % 256, (((wrap64 (Int.tdiv x22_56 10)) % 256) % 10) + 48, (((Int.tmod x22_56 10) % 256) + 48) % 256] : List Int)) := ⟨_, rfl⟩
                                              replace H : (if y212.length + y227.length < 140737488355328 then (some (y212 ++ y227)) else (none)) = some r := by first | (rw [hy227]; with_reducible exact H) | (have H2_ := (Option.bind_some _ _).symm.trans H; rw [hy227]; with_reducible exact H2_) | (have H2_ := (Option.bind_some _ _).symm.trans H; with_reducible exact H2_) | with_reducible exact H | (rw [hy227]; exact H) | exact H
                                              have Ny227 := Aside0.mk hy227
                                              clear hy227
                                              by_cases c74 : y212.length + y227.length < 140737488355328
                                              · rw [if_pos c74] at H
                                                have LMc74 := Aside0.mk c74
                                                clear c74
                                                obtain ⟨y230, hy230⟩ : ∃ y_ : List Int, y_ = (y212 ++ y227) := ⟨_, rfl⟩
                                                replace H : (some y230) = some r := by first | (rw [hy230]; with_reducible exact H) | (have H2_ := (Option.bind_some _ _).symm.trans H; rw [hy230]; with_reducible exact H2_) | (have H2_ := (Option.bind_some _ _).symm.trans H; with_reducible exact H2_) | with_reducible exact H | (rw [hy230]; exact H) | exact H
                                                have Ny230 := Aside0.mk hy230
                                                clear hy230
                                                obtain rfl := Option.some.inj H
                                                go_wp2_with (first | ((with_reducible refine gate_builtin (b := .append) (xs := #[.tmp 132, .tmp 134]) rfl ?_); at_builtin; refine Kd.G_append (dd := Kd.int .u8) (Kd.int .u8) (w0 := w0) w0.heap.size rfl (.tmp 132) (.tmp 134) 29 5 (.int .u8 0) 1 rfl Tryd.underlying29 info5 rfl (by decide) (by omega) v210 y209 x19_56 [.int .u8 x19_56] (fun k_ => (P0_ k_ ∨ w.heap.size ≤ k_)) (fun _ => False) rfl rfl ?aP (fun _ hk => hk.elim) ?aF ?aO ?aB ?aS ?aL ?_; (case aP => exact rfl); (case aB => exact (by repeat (first | (with_reducible first | exact HB.out | apply below_alloc | apply pw_below_drewN | apply below_drew1) | exact HB.out))); (case aF => exact (fun k_ hk => (.inr (Nat.le_trans (by first | exact HK.out.1 | exact (show Kept w _ (fun k_ => P0_ k_) from by repeat (first | (with_reducible first | exact HK.out | apply Kept.alloc | apply Kept.drewN | apply Kept.drew) | exact HK.out)).1) hk)))); (case aO => exact (by (with_reducible repeat (first | apply Kd.R_alloc | apply Kd.G_alloc | apply Kd.R_drewN | apply Kd.G_drewN | apply Kd.R_drew | apply Kd.G_drew)); exact HO_0.out)); (case aS => exact (below_size (by repeat (first | (with_reducible first | exact HB.out | apply below_alloc | apply pw_below_drewN | apply below_drew1) | exact HB.out)))); (case aL => have := LMc59.out; omega); intro v213 w75 ho hb hg hat; rw [← Ny212.out] at ho; have n0_ := Aside0.mk (hb); have n1_ := Aside0.mk (Kept.of_grown (S := (fun k_ => P0_ k_)) hg (by repeat (first | (with_reducible first | exact HK.out | apply Kept.alloc | apply Kept.drewN | apply Kept.drew) | exact HK.out)) (fun k_ e_ => (HO_0.out.1 k_ e_))); have n2_ := Aside0.mk (ho); clear HB; clear HK; clear HO_0; have HB := n0_; have HK := n1_; have HO214 := n2_; clear n0_ n1_ n2_; clear ho hb hg hat) | ((with_reducible refine gate_dst (N := 150) rfl ?_); refine Kd.R_lit (Kd.int .u8) _ 5 ?hg (N := 150) ?hd (xs := ([(((wrap64 (Int.tdiv x22_56 100)) % 256) + 48) % 256, (((wrap64 (Int.tdiv x22_56 10)) % 256) % 10) + 48, (((Int.tmod x22_56 10) % 256) + 48) % 256] : List Int)) (inner := [.int .u8 ((((wrap64 (Int.tdiv x22_56 100)) % 256) + 48) % 256), .int .u8 ((((wrap64 (Int.tdiv x22_56 10)) % 256) % 10) + 48), .int .u8 ((((Int.tmod x22_56 10) % 256) + 48) % 256)]) (ok := fun _ => True) (okp := fun _ => True) ?hr ?hp (fun _ hk => hk) trivial (Below.refl _ _) (Nat.le_refl _) (by simp) ?_; (case hd => rfl); (case hg => rfl); (case hr => first | (go_simp; done) | (go_simp; rfl)); (case hp => exact (Reps.one (show Kd.M (Kd.int .u8) _ _ _ ((((wrap64 (Int.tdiv x22_56 100)) % 256) + 48) % 256) [.int .u8 ((((wrap64 (Int.tdiv x22_56 100)) % 256) + 48) % 256)] from rfl) (Reps.one (show Kd.M (Kd.int .u8) _ _ _ ((((wrap64 (Int.tdiv x22_56 10)) % 256) % 10) + 48) [.int .u8 ((((wrap64 (Int.tdiv x22_56 10)) % 256) % 10) + 48)] from rfl) (Reps.one (show Kd.M (Kd.int .u8) _ _ _ ((((Int.tmod x22_56 10) % 256) + 48) % 256) [.int .u8 ((((Int.tmod x22_56 10) % 256) + 48) % 256)] from rfl) (Reps.none _ _))))); intro v228 w76 ho77 hb hg_ hnew_; clear hg_ hnew_; (first | rw [← Ny227.out] at ho77 | (simp only [Int.reduceToNat] at ho77; rw [← Ny227.out] at ho77)); have n0_ := Aside0.mk (Kd.G_elder' (by (with_reducible repeat (first | apply Kd.R_alloc | apply Kd.G_alloc | apply Kd.R_drewN | apply Kd.G_drewN | apply Kd.R_drew | apply Kd.G_drew)); exact HO214.out) (Kd.R_base ho77) hb); have n1_ := Aside0.mk (Kd.R_lower (Kd.R_new' (Kd.R_newM (M := fun k_ => (P0_ k_ ∨ w.heap.size ≤ k_)) ho77 (by first | exact HK.out.1 | exact (show Kept w _ (fun k_ => P0_ k_) from by repeat (first | (with_reducible first | exact HK.out | apply Kept.alloc | apply Kept.drewN | apply Kept.drew) | exact HK.out)).1) (fun k_ h_ => .inr h_)) (Kd.G_lt (by (with_reducible repeat (first | apply Kd.R_alloc | apply Kd.G_alloc | apply Kd.R_drewN | apply Kd.G_drewN | apply Kd.R_drew | apply Kd.G_drew)); exact HO214.out))) (below_size (by repeat (first | (with_reducible first | exact HB.out | apply below_alloc | apply pw_below_drewN | apply below_drew1) | exact HB.out)))); have n2_ := Aside0.mk (Kept.below (S := (fun k_ => P0_ k_)) (by repeat (first | (with_reducible first | exact HK.out | apply Kept.alloc | apply Kept.drewN | apply Kept.drew) | exact HK.out)) hb); have n3_ := Aside0.mk (below_step (by repeat (first | (with_reducible first | exact HB.out | apply below_alloc | apply pw_below_drewN | apply below_drew1) | exact HB.out)) hb); clear HO214; clear HK; clear HB; have HO214 := n0_; have HO229 := n1_; have HK := n2_; have HB := n3_; clear n0_ n1_ n2_ n3_; clear hb ho77; obtain ⟨Ao79, co79, eo79⟩ := Kd.R_slice HO229.out; subst eo79) | ((with_reducible refine gate_builtin (b := .append) (xs := #[.tmp 136, .tmp 150]) rfl ?_); at_builtin; refine Kd.G_append_rows (dd := Kd.int .u8) (Kd.int .u8) (w0 := w0) w0.heap.size rfl (.tmp 136) (.tmp 150) 29 5 (.int .u8 0) 1 rfl Tryd.underlying29 info5 rfl (by decide) (by omega) v213 y212 y227 _ _ _ (fun k_ => (P0_ k_ ∨ w.heap.size ≤ k_) ∧ some k_ ≠ (.slice Ao79 y227.length co79 : Value).ownBlock) (fun _ => False) rfl rfl ?aO ?aR (fun _ _ h => h) (fun _ h => h.elim) ?aF ?aB ?aS ?aL ?_; (case aR => repeat (first | exact (Kd.R_reads' HO229.out).2.2 | (with_reducible refine Kd.C_alloc ?_ _) | (with_reducible refine Kd.C_drewN ?_ _) | (with_reducible refine Kd.C_drew ?_))); (case aB => exact (by repeat (first | (with_reducible first | exact HB.out | apply below_alloc | apply pw_below_drewN | apply below_drew1) | exact HB.out))); (case aF => exact (fun k_ hk => ⟨(.inr (Nat.le_trans (by first | exact HK.out.1 | exact (show Kept w _ (fun k_ => P0_ k_) from by repeat (first | (with_reducible first | exact HK.out | apply Kept.alloc | apply Kept.drewN | apply Kept.drew) | exact HK.out)).1) hk)), Kd.fresh' (Kd.R_lt (by (with_reducible repeat (first | apply Kd.R_alloc | apply Kd.G_alloc | apply Kd.R_drewN | apply Kd.G_drewN | apply Kd.R_drew | apply Kd.G_drew)); exact HO229.out)) k_ hk⟩)); (case aO => exact (by (with_reducible repeat (first | apply Kd.R_alloc | apply Kd.G_alloc | apply Kd.R_drewN | apply Kd.G_drewN | apply Kd.R_drew | apply Kd.G_drew)); exact HO214.out)); (case aS => exact (below_size (by repeat (first | (with_reducible first | exact HB.out | apply below_alloc | apply pw_below_drewN | apply below_drew1) | exact HB.out)))); (case aL => have := LMc74.out; omega); intro v231 w78 ho hb hg hat; rw [← Ny230.out] at ho; have n0_ := Aside0.mk (Kd.R_after (ok := (fun k_ => (P0_ k_ ∨ w.heap.size ≤ k_))) (by (with_reducible repeat (first | apply Kd.R_alloc | apply Kd.G_alloc | apply Kd.R_drewN | apply Kd.G_drewN | apply Kd.R_drew | apply Kd.G_drew)); exact Kd.R_mono HO229.out (fun _ hk => ⟨hk.1.1, hk.2⟩)) hg hat); have n1_ := Aside0.mk (hb); have n2_ := Aside0.mk (Kept.of_grown (S := (fun k_ => P0_ k_)) hg (by repeat (first | (with_reducible first | exact HK.out | apply Kept.alloc | apply Kept.drewN | apply Kept.drew) | exact HK.out)) (fun k_ e_ => (HO214.out.1 k_ e_).1)); have n3_ := Aside0.mk (ho); clear HO229; clear HB; clear HK; clear HO214; have HO229 := n0_; have HB := n1_; have HK := n2_; have HO232 := n3_; clear n0_ n1_ n2_ n3_; clear ho hb hg hat))
                                                go_ret
                                                exact ⟨_, by first | rfl | (simp [errW_none, errW_some] <;> rfl) | (simp [*, errW_none, errW_some] <;> rfl), by (with_reducible repeat (first | apply Kd.R_alloc | apply Kd.G_alloc | apply Kd.R_drewN | apply Kd.G_drewN | apply Kd.R_drew | apply Kd.G_drew)); exact Kd.G_mono HO232.out (fun _ hk => hk.1), by repeat (first | (with_reducible first | exact HB.out | apply below_alloc | apply pw_below_drewN | apply below_drew1) | exact HB.out), by repeat (first | (with_reducible first | exact HK.out | apply Kept.alloc | apply Kept.drewN | apply Kept.drew) | exact HK.out)⟩
                                              · rw [if_neg c74] at H
                                                exact absurd H (by simp)
                                        · rw [if_neg c59] at H
                                          exact absurd H (by simp)
                              · rw [if_neg c53] at H
                                exact absurd H (by simp)
                        · rw [if_neg c36] at H
                          exact absurd H (by simp)
              · replace c28 := Bool.eq_false_iff.mpr c28
                subst c28
                have H1 : (if x6_10 = 102 then (if a1 = true then (if l0.length < 140737488355328 then (strconv_fmtEFG.j14 kj25 (l0 ++ [45]) l2 a3 a4 x5_10) else (none)) else (strconv_fmtEFG.j14 kj25 l0 l2 a3 a4 x5_10)) else ((some (([37, x6_10] : List Int) : List Int)).bind fun y263 => (if l0.length + y263.length < 140737488355328 then (some (l0 ++ y263)) else (none)))) = some r := by rw [if_neg (show ¬ (false = true) by decide)] at H; exact H
                clear H
                have H := H1
                clear H1
                by_cases c80 : x6_10 = 102
                · rw [if_pos c80] at H
                  have c80b0 : (x6_10 == 102) = true := beq_iff_eq.mpr c80
                  have c80b1 : (x6_10 != 102) = false := bne_eq_false_iff_eq.mpr c80
                  clear c80
                  have HC81 := Aside0.mk H
                  clear H
                  go_upto_if 178 with (fail)
                  go_cut [0] (fun v0 wc => ∃ (kq : Nat) (x0_80 : List Int), Aside0 (strconv_fmtEFG.j14 kq x0_80 l2 a3 a4 x5_10 = some r) ∧ Aside0 (kq ≤ kj25) ∧ Aside0 (Kd.G (Kd.int .u8) 5 wc w0.heap.size (fun k_ => (P0_ k_ ∨ w.heap.size ≤ k_)) v0 x0_80) ∧ Aside0 (Kept w wc (fun k_ => P0_ k_)) ∧ Aside0 (Below w0.heap.size w0 wc))
                  case first => as_aux_lemma =>
                    have H := HC81.out
                    clear HC81
                    by_cases c82 : a1 = true
                    · subst c82
                      have H1 : (if l0.length < 140737488355328 then (strconv_fmtEFG.j14 kj25 (l0 ++ [45]) l2 a3 a4 x5_10) else (none)) = some r := by rw [if_pos rfl] at H; exact H
                      clear H
                      have H := H1
                      clear H1
                      by_cases c83 : l0.length < 140737488355328
                      · rw [if_pos c83] at H
                        have LMc83 := Aside0.mk c83
                        clear c83
                        obtain ⟨y233, hy233⟩ : ∃ y_ : List Int, y_ = (l0 ++ [45]) := ⟨_, rfl⟩
                        replace H : (strconv_fmtEFG.j14 kj25 y233 l2 a3 a4 x5_10) = some r := by first | (rw [hy233]; with_reducible exact H) | (have H2_ := (Option.bind_some _ _).symm.trans H; rw [hy233]; with_reducible exact H2_) | (have H2_ := (Option.bind_some _ _).symm.trans H; with_reducible exact H2_) | with_reducible exact H | (rw [hy233]; exact H) | exact H
                        have Ny233 := Aside0.mk hy233
                        clear hy233
                        have H' := Aside0.mk H
                        clear H
                        go_wp2_with (first | ((with_reducible refine gate_builtin (b := .append) (xs := #[.tmp 179, .tmp 180]) rfl ?_); at_builtin; refine Kd.G_append (dd := Kd.int .u8) (Kd.int .u8) (w0 := w0) w0.heap.size rfl (.tmp 179) (.tmp 180) 29 5 (.int .u8 0) 1 rfl Tryd.underlying29 info5 rfl (by decide) (by omega) u9000_ l0 45 [.int .u8 45] (fun k_ => (P0_ k_ ∨ w.heap.size ≤ k_)) (fun _ => False) rfl rfl ?aP (fun _ hk => hk.elim) ?aF ?aO ?aB ?aS ?aL ?_; (case aP => exact rfl); (case aB => exact (by repeat (first | (with_reducible first | exact HB.out | apply below_alloc | apply pw_below_drewN | apply below_drew1) | exact HB.out))); (case aF => exact (fun k_ hk => (.inr (Nat.le_trans (by first | exact HK.out.1 | exact (show Kept w _ (fun k_ => P0_ k_) from by repeat (first | (with_reducible first | exact HK.out | apply Kept.alloc | apply Kept.drewN | apply Kept.drew) | exact HK.out)).1) hk)))); (case aO => exact (by (with_reducible repeat (first | apply Kd.R_alloc | apply Kd.G_alloc | apply Kd.R_drewN | apply Kd.G_drewN | apply Kd.R_drew | apply Kd.G_drew)); exact HO_0.out)); (case aS => exact (below_size (by repeat (first | (with_reducible first | exact HB.out | apply below_alloc | apply pw_below_drewN | apply below_drew1) | exact HB.out)))); (case aL => have := LMc83.out; omega); intro v234 w84 ho hb hg hat; rw [← Ny233.out] at ho; have n0_ := Aside0.mk (hb); have n1_ := Aside0.mk (Kept.of_grown (S := (fun k_ => P0_ k_)) hg (by repeat (first | (with_reducible first | exact HK.out | apply Kept.alloc | apply Kept.drewN | apply Kept.drew) | exact HK.out)) (fun k_ e_ => (HO_0.out.1 k_ e_))); have n2_ := Aside0.mk (ho); clear HB; clear HK; clear HO_0; have HB := n0_; have HK := n1_; have HO235 := n2_; clear n0_ n1_ n2_; clear ho hb hg hat))
                        go_meet
                        case rel => exact ⟨_, (y233), H', ⟨by have := HJ8.out; have := HJ10.out; have := HJ25.out; first | omega | exact Nat.le_refl _⟩, ⟨by (with_reducible repeat (first | apply Kd.R_alloc | apply Kd.G_alloc | apply Kd.R_drewN | apply Kd.G_drewN | apply Kd.R_drew | apply Kd.G_drew)); exact HO235.out⟩, ⟨by repeat (first | (with_reducible first | exact HK.out | apply Kept.alloc | apply Kept.drewN | apply Kept.drew) | exact HK.out)⟩, ⟨by repeat (first | (with_reducible first | exact HB.out | apply below_alloc | apply pw_below_drewN | apply below_drew1) | exact HB.out)⟩⟩
                      · rw [if_neg c83] at H
                        exact absurd H (by simp)
                    · replace c82 := Bool.eq_false_iff.mpr c82
                      subst c82
                      have H1 : (strconv_fmtEFG.j14 kj25 l0 l2 a3 a4 x5_10) = some r := by rw [if_neg (show ¬ (false = true) by decide)] at H; exact H
                      clear H
                      have H := H1
                      clear H1
                      have H' := Aside0.mk H
                      clear H
                      go_wp2
                      go_meet
                      case rel => exact ⟨_, (l0), H', ⟨by have := HJ8.out; have := HJ10.out; have := HJ25.out; first | omega | exact Nat.le_refl _⟩, ⟨by (with_reducible repeat (first | apply Kd.R_alloc | apply Kd.G_alloc | apply Kd.R_drewN | apply Kd.G_drewN | apply Kd.R_drew | apply Kd.G_drew)); exact HO_0.out⟩, ⟨by repeat (first | (with_reducible first | exact HK.out | apply Kept.alloc | apply Kept.drewN | apply Kept.drew) | exact HK.out)⟩, ⟨by repeat (first | (with_reducible first | exact HB.out | apply below_alloc | apply pw_below_drewN | apply below_drew1) | exact HB.out)⟩⟩
                  case rest => as_aux_lemma =>
                    clear HC81
                    try clear c1; try clear p1; try clear q1; try clear hx1; try clear qi1; try clear c2; try clear p2; try clear c3; try clear c4; try clear q4; try clear c5; try clear c6; try clear p6; try clear c7; try clear c8; try clear c10; try clear c10b0; try clear c10b1; try clear c12; try clear c14; try clear c14b0; try clear c16; try clear c18; try clear p19; try clear q19; try clear hx19
                    try clear qi19; try clear c20; try clear c20b0; try clear c21; try clear c22; try clear c22b0; try clear c23; try clear c23b0; try clear c27; try clear c27b0; try clear c27b1; try clear c28; try clear c30; try clear c31; try clear c34; try clear c34b0; try clear c34b1; try clear c35; try clear c35b0; try clear c35b1; try clear c36; try clear c39; try clear c39b0; try clear c40; try clear c44
                    try clear c44b0; try clear c45; try clear c45b0; try clear c45b1; try clear c46; try clear c46b0; try clear c46b1; try clear c47; try clear c48; try clear q48; try clear c50; try clear c50b0; try clear c51; try clear c53; try clear c56; try clear c56b0; try clear c56b1; try clear c58; try clear c58b0; try clear c59; try clear c60; try clear c60b0; try clear c61; try clear p64; try clear c67
                    try clear c67b0; try clear c68; try clear c74; try clear c80; try clear c80b0; try clear c80b1; try clear c82; try clear c83; try clear hx192_0; try clear p1; try clear p19; try clear p192; try clear p2; try clear p6; try clear q1; try clear q19; try clear q192; try clear q4; try clear q48
                    obtain ⟨kq, x0_80, HA, HJ80, HO_0, HK, HB⟩ := hcut
                    cases kq with
                    | zero => exact absurd HA.out (by simp [strconv_fmtEFG.j14])
                    | succ kj80 =>
                      have H := HA.out
                      clear HA
                      simp only [strconv_fmtEFG.j14] at H
                      have HC85 := Aside0.mk H
                      clear H
                      go_upto_if 183 with (fail)
                      go_cut [0] (fun v0 wc => ∃ (kq : Nat) (x0_84 : List Int), Aside0 (strconv_fmtEFG.j17 kq x0_84 l2 a3 a4 x5_10 = some r) ∧ Aside0 (kq ≤ kj80) ∧ Aside0 (Kd.G (Kd.int .u8) 5 wc w0.heap.size (fun k_ => (P0_ k_ ∨ w.heap.size ≤ k_)) v0 x0_84) ∧ Aside0 (Kept w wc (fun k_ => P0_ k_)) ∧ Aside0 (Below w0.heap.size w0 wc))
                      case first => as_aux_lemma =>
                        have H := HC85.out
                        clear HC85
                        by_cases c86 : a3 > 0
                        · rw [if_pos c86] at H
                          have c86b0 : decide (0 < a3) = true := decide_eq_true c86
                          clear c86
                          (first | rw [c86b0] | (simp only [i64_w, i32_w]; rw [c86b0]) | skip)
                          obtain ⟨ji87, hji87⟩ : ∃ j_ : Int, (mn a4 a3) = j_ := ⟨_, rfl⟩
                          replace H : (if 0 ≤ (ji87) then (if (ji87) ≤ (l2.length : Int) then ((some (l2.take ((ji87) : Int).toNat : List Int)).bind fun y236 => (strconv_fmtEFG.l1 kj80 x0_80 l2 a3 a4 x5_10 ji87 y236 (y236.length : Int) 0)) else (none)) else (none)) = some r := by first | (rw [hji87] at H; exact H) | (simp only [hji87] at H ⊢; exact H)
                          have hji87_ : (if a3 < a4 then a3 else a4) = ji87 := hji87
                          by_cases c88 : 0 ≤ (ji87)
                          · rw [if_pos c88] at H
                            have c88b0 := eq_true c88
                            have c88b1 : decide (0 ≤ (ji87)) = true := decide_eq_true c88
                            clear c88
                            by_cases c89 : (ji87) ≤ (l2.length : Int)
                            · rw [if_pos c89] at H
                              have c89b0 := eq_true c89
                              have c89b1 : decide ((ji87) ≤ (l2.length : Int)) = true := decide_eq_true c89
                              clear c89
                              obtain ⟨y236, hy236⟩ : ∃ y_ : List Int, y_ = (l2.take ((ji87) : Int).toNat) := ⟨_, rfl⟩
                              replace H : (strconv_fmtEFG.l1 kj80 x0_80 l2 a3 a4 x5_10 ji87 y236 (y236.length : Int) 0) = some r := by first | (rw [hy236]; with_reducible exact H) | (have H2_ := (Option.bind_some _ _).symm.trans H; rw [hy236]; with_reducible exact H2_) | (have H2_ := (Option.bind_some _ _).symm.trans H; with_reducible exact H2_) | with_reducible exact H | (rw [hy236]; exact H) | exact H
                              have Ny236 := Aside0.mk hy236
                              clear hy236
                              have H' := Aside0.mk H
                              clear H
                              have q90 : ((ji87) : Int) ≤ ((l2.length : Int) : Int) := of_decide_eq_true (by first | (with_reducible assumption) | assumption)
                              obtain ⟨i090, hi090, _, hsz90, _⟩ := info_parts info5
                              have hroom90 : l2.length ≤ c2 := HC2.out
                              have hC90 : Kd.C (Kd.int .u8) _ A2 l2.length l2 := (Kd.C_kept_now HR2.out HK.out)
                              have hcut90 := cut_to (P := Tryd.prog) 29 5 .i64 Tryd.underlying29 hi090 A2 l2.length c2 (ji87) (of_decide_eq_true (by first | (with_reducible assumption) | assumption)) q90 hroom90
                              have hr90 := Kd.C_take (m := ((ji87) : Int).toNat) hC90 (by omega)
                              have hy90 : y236.length = ((ji87) : Int).toNat := (by rw [Ny236.out, List.length_take]; omega)
                              rw [← Ny236.out] at hr90
                              rw [← hy90] at hcut90
                              have HR239 := Aside0.mk hr90
                              have HC239 := Aside0.mk (show y236.length ≤ c2 from by omega)
                              clear hr90 hC90 hroom90 hi090 hsz90
                              have KY90 := Aside0.mk hy90
                              clear hy90
                              have KL90 := Aside0.mk (show ((ji87) : Int).toNat ≤ l2.length from by omega)
                              replace q90 := eq_true q90
                              go_wp2
                              go_loopg [0, 191] kj80 (fun kq v0 v191 w' => ∃ (x0_5 : List Int) (x191_5 : Int), v191 = .int .i64 x191_5 ∧ Aside0 (strconv_fmtEFG.l1 kq x0_5 l2 a3 a4 x5_10 ji87 y236 (y236.length : Int) x191_5 = some r) ∧ Aside0 (kq ≤ kj80) ∧ Aside0 (Kd.G (Kd.int .u8) 5 w' w0.heap.size (fun k_ => (P0_ k_ ∨ w.heap.size ≤ k_)) v0 x0_5) ∧ Aside0 (Kd.C (Kd.int .u8) w' A2 y236.length y236) ∧ Aside0 (Kept w w' (fun k_ => P0_ k_)) ∧ Aside0 (Below w0.heap.size w0 w'))
                              case atStart => exact ⟨(x0_80), (0), (by first | rfl | (simp; done) | (simp [*]; done)), H', ⟨Nat.le_refl _⟩, ⟨by (with_reducible repeat (first | apply Kd.R_alloc | apply Kd.G_alloc | apply Kd.R_drewN | apply Kd.G_drewN | apply Kd.R_drew | apply Kd.G_drew)); exact HO_0.out⟩, ⟨by repeat (first | (with_reducible exact HR239.out) | (with_reducible refine Kd.C_alloc ?_ _) | (with_reducible refine Kd.C_drewN ?_ _) | (with_reducible refine Kd.C_drew ?_) | exact HR239.out)⟩, ⟨by repeat (first | (with_reducible first | exact HK.out | apply Kept.alloc | apply Kept.drewN | apply Kept.drew) | exact HK.out)⟩, ⟨by repeat (first | (with_reducible first | exact HB.out | apply below_alloc | apply pw_below_drewN | apply below_drew1) | exact HB.out)⟩⟩
                              case round => as_aux_lemma =>
                                clear H'
                                try clear c1; try clear p1; try clear q1; try clear hx1; try clear qi1; try clear c2; try clear p2; try clear c3; try clear c4; try clear q4; try clear c5; try clear c6; try clear p6; try clear c7; try clear c8; try clear q9; try clear c10; try clear c10b0; try clear c10b1; try clear c12; try clear c14; try clear c14b0; try clear c16; try clear c18; try clear p19; try clear q19
                                try clear hx19; try clear qi19; try clear c20; try clear c20b0; try clear c21; try clear c22; try clear c22b0; try clear c23; try clear c23b0; try clear c27; try clear c27b0; try clear c27b1; try clear c28; try clear c30; try clear c31; try clear c34; try clear c34b0; try clear c34b1; try clear c35; try clear c35b0; try clear c35b1; try clear c36; try clear c39; try clear c39b0
                                try clear c40; try clear c44; try clear c44b0; try clear c45; try clear c45b0; try clear c45b1; try clear c46; try clear c46b0; try clear c46b1; try clear c47; try clear c48; try clear q48; try clear c50; try clear c50b0; try clear c51; try clear c53; try clear c56; try clear c56b0; try clear c56b1; try clear c58; try clear c58b0; try clear c59; try clear c60; try clear c60b0
                                try clear c61; try clear p64; try clear c67; try clear c67b0; try clear c68; try clear c74; try clear c80; try clear c80b0; try clear c80b1; try clear c82; try clear c83; try clear c86; try clear c86b0; try clear c88; try clear c88b0; try clear c88b1; try clear c89; try clear c89b0; try clear c89b1; try clear q90; try clear hx192_0; try clear p1; try clear p19; try clear p192
                                try clear p2; try clear p6; try clear p64; try clear q1; try clear q19; try clear q192; try clear q4; try clear q48; try clear q90
                                obtain ⟨x0_5, x191_5, rfl, HA, HK5, HO_0, HR239, HK, HB⟩ := hrel
                                cases gk with
                                | zero => exact absurd HA.out (by simp [strconv_fmtEFG.l1])
                                | succ k5 =>
                                  have H := HA.out
                                  clear HA
                                  simp only [strconv_fmtEFG.l1] at H
                                  by_cases c91 : x191_5 < (y236.length : Int)
                                  · rw [if_pos c91] at H
                                    have c91b0 : decide (x191_5 < (y236.length : Int)) = true := decide_eq_true c91
                                    clear c91
                                    by_cases c92 : 0 ≤ x191_5
                                    · rw [if_pos c92] at H
                                      have c92b0 : decide (0 ≤ x191_5) = true := decide_eq_true c92
                                      clear c92
                                      by_cases c93 : x191_5 < (y236.length : Int)
                                      · rw [if_pos c93] at H
                                        have c93b0 : decide (x191_5 < (y236.length : Int)) = true := decide_eq_true c93
                                        clear c93
                                        by_cases c94 : x0_5.length < 140737488355328
                                        · rw [if_pos c94] at H
                                          have LMc94 := Aside0.mk c94
                                          clear c94
                                          obtain ⟨y241, hy241⟩ : ∃ y_ : List Int, y_ = (x0_5 ++ [rd y236 x191_5]) := ⟨_, rfl⟩
                                          replace H : (strconv_fmtEFG.l1 k5 y241 l2 a3 a4 x5_10 ji87 y236 (y236.length : Int) (wrap64 (x191_5 + 1))) = some r := by first | (rw [hy241]; with_reducible exact H) | (have H2_ := (Option.bind_some _ _).symm.trans H; rw [hy241]; with_reducible exact H2_) | (have H2_ := (Option.bind_some _ _).symm.trans H; with_reducible exact H2_) | with_reducible exact H | (rw [hy241]; exact H) | exact H
                                          have Ny241 := Aside0.mk hy241
                                          clear hy241
                                          have H' := Aside0.mk H
                                          clear H
                                          have p240 : 0 ≤ (x191_5 : Int) := of_decide_eq_true (by first | (with_reducible assumption) | assumption)
                                          have q240 : x191_5 < (y236.length : Int) := of_decide_eq_true (by first | (with_reducible assumption) | assumption)
                                          obtain ⟨ad240, e240, hx240_0⟩ := Kd.at_int HR239.out x191_5 p240 q240
                                          cases e240
                                          replace p240 := eq_true p240
                                          replace q240 := eq_true q240
                                          go_wp2_with (first | ((with_reducible refine gate_builtin (b := .append) (xs := #[.tmp 195, .tmp 197]) rfl ?_); at_builtin; refine Kd.G_append (dd := Kd.int .u8) (Kd.int .u8) (w0 := w0) w0.heap.size rfl (.tmp 195) (.tmp 197) 29 5 (.int .u8 0) 1 rfl Tryd.underlying29 info5 rfl (by decide) (by omega) u0 x0_5 (rd y236 x191_5) [.int .u8 (rd y236 x191_5)] (fun k_ => (P0_ k_ ∨ w.heap.size ≤ k_)) (fun _ => False) rfl rfl ?aP (fun _ hk => hk.elim) ?aF ?aO ?aB ?aS ?aL ?_; (case aP => exact rfl); (case aB => exact (by repeat (first | (with_reducible first | exact HB.out | apply below_alloc | apply pw_below_drewN | apply below_drew1) | exact HB.out))); (case aF => exact (fun k_ hk => (.inr (Nat.le_trans (by first | exact HK.out.1 | exact (show Kept w _ (fun k_ => P0_ k_) from by repeat (first | (with_reducible first | exact HK.out | apply Kept.alloc | apply Kept.drewN | apply Kept.drew) | exact HK.out)).1) hk)))); (case aO => exact (by (with_reducible repeat (first | apply Kd.R_alloc | apply Kd.G_alloc | apply Kd.R_drewN | apply Kd.G_drewN | apply Kd.R_drew | apply Kd.G_drew)); exact HO_0.out)); (case aS => exact (below_size (by repeat (first | (with_reducible first | exact HB.out | apply below_alloc | apply pw_below_drewN | apply below_drew1) | exact HB.out)))); (case aL => have := LMc94.out; omega); intro v242 w95 ho hb hg hat; rw [← Ny241.out] at ho; have n0_ := Aside0.mk (hb); have n1_ := Aside0.mk (Kept.of_grown (S := (fun k_ => P0_ k_)) hg (by repeat (first | (with_reducible first | exact HK.out | apply Kept.alloc | apply Kept.drewN | apply Kept.drew) | exact HK.out)) (fun k_ e_ => (HO_0.out.1 k_ e_))); have n2_ := Aside0.mk ((show Kd.C (Kd.int .u8) w95 (some ad240) y236.length y236 from by rw [Ny236.out]; exact Kd.C_take (m := ((ji87) : Int).toNat) (Kd.C_kept_now HR2.out (show Kept w w95 (fun k_ => P0_ k_) from (Kept.of_grown (S := (fun k_ => P0_ k_)) hg (by repeat (first | (with_reducible first | exact HK.out | apply Kept.alloc | apply Kept.drewN | apply Kept.drew) | exact HK.out)) (fun k_ e_ => (HO_0.out.1 k_ e_))))) KL90.out)); have n3_ := Aside0.mk (ho); clear HB; clear HK; clear HR239; clear HO_0; have HB := n0_; have HK := n1_; have HR239 := n2_; have HO243 := n3_; clear n0_ n1_ n2_ n3_; clear ho hb hg hat))
                                          go_roundg k5
                                          case measure => have := HJ8.out; have := HJ10.out; have := HJ25.out; have := HJ80.out; have := HK5.out; omega
                                          case rel => exact ⟨(y241), (wrap64 (x191_5 + 1)), (by first | rfl | (simp; done) | (simp [*]; done)), H', ⟨by have := HJ8.out; have := HJ10.out; have := HJ25.out; have := HJ80.out; have := HK5.out; omega⟩, ⟨by (with_reducible repeat (first | apply Kd.R_alloc | apply Kd.G_alloc | apply Kd.R_drewN | apply Kd.G_drewN | apply Kd.R_drew | apply Kd.G_drew)); exact HO243.out⟩, ⟨by repeat (first | (with_reducible exact HR239.out) | (with_reducible refine Kd.C_alloc ?_ _) | (with_reducible refine Kd.C_drewN ?_ _) | (with_reducible refine Kd.C_drew ?_) | exact HR239.out)⟩, ⟨by repeat (first | (with_reducible first | exact HK.out | apply Kept.alloc | apply Kept.drewN | apply Kept.drew) | exact HK.out)⟩, ⟨by repeat (first | (with_reducible first | exact HB.out | apply below_alloc | apply pw_below_drewN | apply below_drew1) | exact HB.out)⟩⟩
                                        · rw [if_neg c94] at H
                                          exact absurd H (by simp)
                                      · rw [if_neg c93] at H
                                        exact absurd H (by simp)
                                    · rw [if_neg c92] at H
                                      exact absurd H (by simp)
                                  · rw [if_neg c91] at H
                                    have c91b0 : decide (x191_5 < (y236.length : Int)) = false := decide_eq_false c91
                                    clear c91
                                    have H' := Aside0.mk H
                                    clear H
                                    go_wp2
                                    go_loopg [0, 203] k5 (fun kq v0 v203 w' => ∃ (x0_6 : List Int) (x203_6 : Int), v203 = .int .i64 x203_6 ∧ Aside0 (strconv_fmtEFG.l2 kq x0_6 l2 a3 a4 x5_10 (wrap64 (a3 - ji87)) x203_6 = some r) ∧ Aside0 (kq ≤ k5) ∧ Aside0 (Kd.G (Kd.int .u8) 5 w' w0.heap.size (fun k_ => (P0_ k_ ∨ w.heap.size ≤ k_)) v0 x0_6) ∧ Aside0 (Kd.C (Kd.int .u8) w' A2 y236.length y236) ∧ Aside0 (Kept w w' (fun k_ => P0_ k_)) ∧ Aside0 (Below w0.heap.size w0 w'))
                                    case atStart => exact ⟨(x0_5), (0), (by first | rfl | (simp; done) | (simp [*]; done)), H', ⟨Nat.le_refl _⟩, ⟨by (with_reducible repeat (first | apply Kd.R_alloc | apply Kd.G_alloc | apply Kd.R_drewN | apply Kd.G_drewN | apply Kd.R_drew | apply Kd.G_drew)); exact HO_0.out⟩, ⟨by repeat (first | (with_reducible exact HR239.out) | (with_reducible refine Kd.C_alloc ?_ _) | (with_reducible refine Kd.C_drewN ?_ _) | (with_reducible refine Kd.C_drew ?_) | exact HR239.out)⟩, ⟨by repeat (first | (with_reducible first | exact HK.out | apply Kept.alloc | apply Kept.drewN | apply Kept.drew) | exact HK.out)⟩, ⟨by repeat (first | (with_reducible first | exact HB.out | apply below_alloc | apply pw_below_drewN | apply below_drew1) | exact HB.out)⟩⟩
                                    case round => as_aux_lemma =>
                                      clear H'
                                      try clear c1; try clear p1; try clear q1; try clear hx1; try clear qi1; try clear c2; try clear p2; try clear q2; try clear hx2; try clear c3; try clear c4; try clear q4; try clear c5; try clear c6; try clear p6; try clear c7; try clear c8; try clear c9; try clear q9; try clear c10; try clear c10b0; try clear c10b1; try clear c12; try clear c14; try clear c14b0
                                      try clear c16; try clear c18; try clear p19; try clear q19; try clear hx19; try clear qi19; try clear c20; try clear c20b0; try clear c21; try clear c22; try clear c22b0; try clear c23; try clear c23b0; try clear p24; try clear q24; try clear hx24; try clear c27; try clear c27b0; try clear c27b1; try clear c28; try clear c30; try clear c31; try clear c34; try clear c34b0
                                      try clear c34b1; try clear c35; try clear c35b0; try clear c35b1; try clear c36; try clear c39; try clear c39b0; try clear c40; try clear c44; try clear c44b0; try clear c45; try clear c45b0; try clear c45b1; try clear c46; try clear c46b0; try clear c46b1; try clear c47; try clear c48; try clear q48; try clear c50; try clear c50b0; try clear c51; try clear c53
                                      try clear c56; try clear c56b0; try clear c56b1; try clear c58; try clear c58b0; try clear c59; try clear c60; try clear c60b0; try clear c61; try clear p64; try clear c67; try clear c67b0; try clear c68; try clear c74; try clear c80; try clear c80b0; try clear c80b1; try clear c82; try clear c83; try clear c86; try clear c86b0; try clear c88; try clear c88b0; try clear c88b1
                                      try clear c89; try clear c89b0; try clear c89b1; try clear q90; try clear c91; try clear c91b0; try clear c92; try clear c92b0; try clear c93; try clear c93b0; try clear c94; try clear hx192_0; try clear hx240_0; try clear p1; try clear p19; try clear p192; try clear p2; try clear p240; try clear p6; try clear p64; try clear q1; try clear q19; try clear q192; try clear q240
                                      try clear q4; try clear q48; try clear q9; try clear q90
                                      obtain ⟨x0_6, x203_6, rfl, HA, HK6, HO_0, HR239, HK, HB⟩ := hrel
                                      cases gk with
                                      | zero => exact absurd HA.out (by simp [strconv_fmtEFG.l2])
                                      | succ k6 =>
                                        have H := HA.out
                                        clear HA
                                        simp only [strconv_fmtEFG.l2] at H
                                        by_cases c96 : x203_6 < (wrap64 (a3 - ji87))
                                        · rw [if_pos c96] at H
                                          have c96b0 : decide (x203_6 < (wrap64 (a3 - ji87))) = true := decide_eq_true c96
                                          clear c96
                                          by_cases c97 : x0_6.length < 140737488355328
                                          · rw [if_pos c97] at H
                                            have LMc97 := Aside0.mk c97
                                            clear c97
                                            obtain ⟨y244, hy244⟩ : ∃ y_ : List Int, y_ = (x0_6 ++ [48]) := ⟨_, rfl⟩
                                            replace H : (strconv_fmtEFG.l2 k6 y244 l2 a3 a4 x5_10 (wrap64 (a3 - ji87)) (wrap64 (x203_6 + 1))) = some r := by first | (rw [hy244]; with_reducible exact H) | (have H2_ := (Option.bind_some _ _).symm.trans H; rw [hy244]; with_reducible exact H2_) | (have H2_ := (Option.bind_some _ _).symm.trans H; with_reducible exact H2_) | with_reducible exact H | (rw [hy244]; exact H) | exact H
                                            have Ny244 := Aside0.mk hy244
                                            clear hy244
                                            have H' := Aside0.mk H
                                            clear H
                                            go_wp2_with (first | ((with_reducible refine gate_builtin (b := .append) (xs := #[.tmp 205, .tmp 206]) rfl ?_); at_builtin; refine Kd.G_append (dd := Kd.int .u8) (Kd.int .u8) (w0 := w0) w0.heap.size rfl (.tmp 205) (.tmp 206) 29 5 (.int .u8 0) 1 rfl Tryd.underlying29 info5 rfl (by decide) (by omega) u0 x0_6 48 [.int .u8 48] (fun k_ => (P0_ k_ ∨ w.heap.size ≤ k_)) (fun _ => False) rfl rfl ?aP (fun _ hk => hk.elim) ?aF ?aO ?aB ?aS ?aL ?_; (case aP => exact rfl); (case aB => exact (by repeat (first | (with_reducible first | exact HB.out | apply below_alloc | apply pw_below_drewN | apply below_drew1) | exact HB.out))); (case aF => exact (fun k_ hk => (.inr (Nat.le_trans (by first | exact HK.out.1 | exact (show Kept w _ (fun k_ => P0_ k_) from by repeat (first | (with_reducible first | exact HK.out | apply Kept.alloc | apply Kept.drewN | apply Kept.drew) | exact HK.out)).1) hk)))); (case aO => exact (by (with_reducible repeat (first | apply Kd.R_alloc | apply Kd.G_alloc | apply Kd.R_drewN | apply Kd.G_drewN | apply Kd.R_drew | apply Kd.G_drew)); exact HO_0.out)); (case aS => exact (below_size (by repeat (first | (with_reducible first | exact HB.out | apply below_alloc | apply pw_below_drewN | apply below_drew1) | exact HB.out)))); (case aL => have := LMc97.out; omega); intro v245 w98 ho hb hg hat; rw [← Ny244.out] at ho; have n0_ := Aside0.mk (hb); have n1_ := Aside0.mk (Kept.of_grown (S := (fun k_ => P0_ k_)) hg (by repeat (first | (with_reducible first | exact HK.out | apply Kept.alloc | apply Kept.drewN | apply Kept.drew) | exact HK.out)) (fun k_ e_ => (HO_0.out.1 k_ e_))); have n2_ := Aside0.mk ((show Kd.C (Kd.int .u8) w98 A2 y236.length y236 from by rw [Ny236.out]; exact Kd.C_take (m := ((ji87) : Int).toNat) (Kd.C_kept_now HR2.out (show Kept w w98 (fun k_ => P0_ k_) from (Kept.of_grown (S := (fun k_ => P0_ k_)) hg (by repeat (first | (with_reducible first | exact HK.out | apply Kept.alloc | apply Kept.drewN | apply Kept.drew) | exact HK.out)) (fun k_ e_ => (HO_0.out.1 k_ e_))))) KL90.out)); have n3_ := Aside0.mk (ho); clear HB; clear HK; clear HR239; clear HO_0; have HB := n0_; have HK := n1_; have HR239 := n2_; have HO246 := n3_; clear n0_ n1_ n2_ n3_; clear ho hb hg hat))
                                            go_roundg k6
                                            case measure => have := HJ8.out; have := HJ10.out; have := HJ25.out; have := HJ80.out; have := HK5.out; have := HK6.out; omega
                                            case rel => exact ⟨(y244), (wrap64 (x203_6 + 1)), (by first | rfl | (simp; done) | (simp [*]; done)), H', ⟨by have := HJ8.out; have := HJ10.out; have := HJ25.out; have := HJ80.out; have := HK5.out; have := HK6.out; omega⟩, ⟨by (with_reducible repeat (first | apply Kd.R_alloc | apply Kd.G_alloc | apply Kd.R_drewN | apply Kd.G_drewN | apply Kd.R_drew | apply Kd.G_drew)); exact HO246.out⟩, ⟨by repeat (first | (with_reducible exact HR239.out) | (with_reducible refine Kd.C_alloc ?_ _) | (with_reducible refine Kd.C_drewN ?_ _) | (with_reducible refine Kd.C_drew ?_) | exact HR239.out)⟩, ⟨by repeat (first | (with_reducible first | exact HK.out | apply Kept.alloc | apply Kept.drewN | apply Kept.drew) | exact HK.out)⟩, ⟨by repeat (first | (with_reducible first | exact HB.out | apply below_alloc | apply pw_below_drewN | apply below_drew1) | exact HB.out)⟩⟩
                                          · rw [if_neg c97] at H
                                            exact absurd H (by simp)
                                        · rw [if_neg c96] at H
                                          have c96b0 : decide (x203_6 < (wrap64 (a3 - ji87))) = false := decide_eq_false c96
                                          clear c96
                                          have H' := Aside0.mk H
                                          clear H
                                          go_wp2
                                          go_meet
                                          case rel => exact ⟨_, (x0_6), H', ⟨by have := HJ8.out; have := HJ10.out; have := HJ25.out; have := HJ80.out; have := HK5.out; have := HK6.out; first | omega | exact Nat.le_refl _⟩, ⟨by (with_reducible repeat (first | apply Kd.R_alloc | apply Kd.G_alloc | apply Kd.R_drewN | apply Kd.G_drewN | apply Kd.R_drew | apply Kd.G_drew)); exact HO_0.out⟩, ⟨by repeat (first | (with_reducible first | exact HK.out | apply Kept.alloc | apply Kept.drewN | apply Kept.drew) | exact HK.out)⟩, ⟨by repeat (first | (with_reducible first | exact HB.out | apply below_alloc | apply pw_below_drewN | apply below_drew1) | exact HB.out)⟩⟩
                            · rw [if_neg c89] at H
                              exact absurd H (by simp)
                          · rw [if_neg c88] at H
                            exact absurd H (by simp)
                        · rw [if_neg c86] at H
                          have c86b0 : decide (0 < a3) = false := decide_eq_false c86
                          clear c86
                          (first | rw [c86b0] | (simp only [i64_w, i32_w]; rw [c86b0]) | skip)
                          by_cases c99 : x0_80.length < 140737488355328
                          · rw [if_pos c99] at H
                            have LMc99 := Aside0.mk c99
                            clear c99
                            obtain ⟨y247, hy247⟩ : ∃ y_ : List Int, y_ = (x0_80 ++ [48]) := ⟨_, rfl⟩
                            replace H : (strconv_fmtEFG.j17 kj80 y247 l2 a3 a4 x5_10) = some r := by first | (rw [hy247]; with_reducible exact H) | (have H2_ := (Option.bind_some _ _).symm.trans H; rw [hy247]; with_reducible exact H2_) | (have H2_ := (Option.bind_some _ _).symm.trans H; with_reducible exact H2_) | with_reducible exact H | (rw [hy247]; exact H) | exact H
                            have Ny247 := Aside0.mk hy247
                            clear hy247
                            have H' := Aside0.mk H
                            clear H
                            go_wp2_with (first | ((with_reducible refine gate_builtin (b := .append) (xs := #[.tmp 209, .tmp 210]) rfl ?_); at_builtin; refine Kd.G_append (dd := Kd.int .u8) (Kd.int .u8) (w0 := w0) w0.heap.size rfl (.tmp 209) (.tmp 210) 29 5 (.int .u8 0) 1 rfl Tryd.underlying29 info5 rfl (by decide) (by omega) u0 x0_80 48 [.int .u8 48] (fun k_ => (P0_ k_ ∨ w.heap.size ≤ k_)) (fun _ => False) rfl rfl ?aP (fun _ hk => hk.elim) ?aF ?aO ?aB ?aS ?aL ?_; (case aP => exact rfl); (case aB => exact (by repeat (first | (with_reducible first | exact HB.out | apply below_alloc | apply pw_below_drewN | apply below_drew1) | exact HB.out))); (case aF => exact (fun k_ hk => (.inr (Nat.le_trans (by first | exact HK.out.1 | exact (show Kept w _ (fun k_ => P0_ k_) from by repeat (first | (with_reducible first | exact HK.out | apply Kept.alloc | apply Kept.drewN | apply Kept.drew) | exact HK.out)).1) hk)))); (case aO => exact (by (with_reducible repeat (first | apply Kd.R_alloc | apply Kd.G_alloc | apply Kd.R_drewN | apply Kd.G_drewN | apply Kd.R_drew | apply Kd.G_drew)); exact HO_0.out)); (case aS => exact (below_size (by repeat (first | (with_reducible first | exact HB.out | apply below_alloc | apply pw_below_drewN | apply below_drew1) | exact HB.out)))); (case aL => have := LMc99.out; omega); intro v248 w100 ho hb hg hat; rw [← Ny247.out] at ho; have n0_ := Aside0.mk (hb); have n1_ := Aside0.mk (Kept.of_grown (S := (fun k_ => P0_ k_)) hg (by repeat (first | (with_reducible first | exact HK.out | apply Kept.alloc | apply Kept.drewN | apply Kept.drew) | exact HK.out)) (fun k_ e_ => (HO_0.out.1 k_ e_))); have n2_ := Aside0.mk (ho); clear HB; clear HK; clear HO_0; have HB := n0_; have HK := n1_; have HO249 := n2_; clear n0_ n1_ n2_; clear ho hb hg hat))
                            go_meet
                            case rel => exact ⟨_, (y247), H', ⟨by have := HJ8.out; have := HJ10.out; have := HJ25.out; have := HJ80.out; first | omega | exact Nat.le_refl _⟩, ⟨by (with_reducible repeat (first | apply Kd.R_alloc | apply Kd.G_alloc | apply Kd.R_drewN | apply Kd.G_drewN | apply Kd.R_drew | apply Kd.G_drew)); exact HO249.out⟩, ⟨by repeat (first | (with_reducible first | exact HK.out | apply Kept.alloc | apply Kept.drewN | apply Kept.drew) | exact HK.out)⟩, ⟨by repeat (first | (with_reducible first | exact HB.out | apply below_alloc | apply pw_below_drewN | apply below_drew1) | exact HB.out)⟩⟩
                          · rw [if_neg c99] at H
                            exact absurd H (by simp)
                      case rest => as_aux_lemma =>
                        clear HC85
                        try clear c1; try clear p1; try clear q1; try clear hx1; try clear qi1; try clear c2; try clear p2; try clear q2; try clear hx2; try clear c3; try clear c4; try clear q4; try clear c5; try clear c6; try clear p6; try clear c7; try clear c8; try clear c9; try clear q9; try clear c10; try clear c10b0; try clear c10b1; try clear c12; try clear c14; try clear c14b0; try clear c16
                        try clear c18; try clear p19; try clear q19; try clear hx19; try clear qi19; try clear c20; try clear c20b0; try clear c21; try clear c22; try clear c22b0; try clear c23; try clear c23b0; try clear p24; try clear q24; try clear hx24; try clear c27; try clear c27b0; try clear c27b1; try clear c28; try clear c30; try clear c31; try clear c34; try clear c34b0; try clear c34b1; try clear c35
                        try clear c35b0; try clear c35b1; try clear c36; try clear c39; try clear c39b0; try clear c40; try clear c44; try clear c44b0; try clear c45; try clear c45b0; try clear c45b1; try clear c46; try clear c46b0; try clear c46b1; try clear c47; try clear c48; try clear q48; try clear c50; try clear c50b0; try clear c51; try clear c53; try clear c56; try clear c56b0; try clear c56b1
                        try clear c58; try clear c58b0; try clear c59; try clear c60; try clear c60b0; try clear c61; try clear p64; try clear c67; try clear c67b0; try clear c68; try clear c74; try clear c80; try clear c80b0; try clear c80b1; try clear c82; try clear c83; try clear c86; try clear c86b0; try clear c88; try clear c88b0; try clear c88b1; try clear c89; try clear c89b0; try clear c89b1
                        try clear q90; try clear c91; try clear c91b0; try clear c92; try clear c92b0; try clear c93; try clear c93b0; try clear c94; try clear c96; try clear c96b0; try clear c97; try clear c99; try clear hx192_0; try clear hx240_0; try clear p1; try clear p19; try clear p192; try clear p2; try clear p24; try clear p240; try clear p6; try clear p64; try clear q1; try clear q19; try clear q192
                        try clear q2; try clear q24; try clear q240; try clear q4; try clear q48; try clear q9; try clear q90
                        obtain ⟨kq, x0_84, HA, HJ84, HO_0, HK, HB⟩ := hcut
                        cases kq with
                        | zero => exact absurd HA.out (by simp [strconv_fmtEFG.j17])
                        | succ kj84 =>
                          have H := HA.out
                          clear HA
                          simp only [strconv_fmtEFG.j17] at H
                          by_cases c101 : x5_10 > 0
                          · rw [if_pos c101] at H
                            have c101b0 : decide (0 < x5_10) = true := decide_eq_true c101
                            clear c101
                            by_cases c102 : x0_84.length < 140737488355328
                            · rw [if_pos c102] at H
                              have LMc102 := Aside0.mk c102
                              clear c102
                              obtain ⟨y250, hy250⟩ : ∃ y_ : List Int, y_ = (x0_84 ++ [46]) := ⟨_, rfl⟩
                              replace H : (strconv_fmtEFG.l3 kj84 y250 l2 (wrap64 (a3 + (mn x5_10 (mx 0 (wrap64 (-a3)))))) (mn (wrap64 (x5_10 - (mn x5_10 (mx 0 (wrap64 (-a3)))))) (mx 0 (wrap64 (a4 - (wrap64 (a3 + (mn x5_10 (mx 0 (wrap64 (-a3)))))))))) (mx 0 (wrap64 ((wrap64 (x5_10 - (mn x5_10 (mx 0 (wrap64 (-a3)))))) - (mn (wrap64 (x5_10 - (mn x5_10 (mx 0 (wrap64 (-a3)))))) (mx 0 (wrap64 (a4 - (wrap64 (a3 + (mn x5_10 (mx 0 (wrap64 (-a3))))))))))))) (mn x5_10 (mx 0 (wrap64 (-a3)))) 0) = some r := by first | (rw [hy250]; with_reducible exact H) | (have H2_ := (Option.bind_some _ _).symm.trans H; rw [hy250]; with_reducible exact H2_) | (have H2_ := (Option.bind_some _ _).symm.trans H; with_reducible exact H2_) | with_reducible exact H | (rw [hy250]; exact H) | exact H
                              have Ny250 := Aside0.mk hy250
                              clear hy250
                              obtain ⟨ji103, hji103⟩ : ∃ j_ : Int, (mx 0 (wrap64 (-a3))) = j_ := ⟨_, rfl⟩
                              replace H : (strconv_fmtEFG.l3 kj84 y250 l2 (wrap64 (a3 + (mn x5_10 (ji103)))) (mn (wrap64 (x5_10 - (mn x5_10 (ji103)))) (mx 0 (wrap64 (a4 - (wrap64 (a3 + (mn x5_10 (ji103)))))))) (mx 0 (wrap64 ((wrap64 (x5_10 - (mn x5_10 (ji103)))) - (mn (wrap64 (x5_10 - (mn x5_10 (ji103)))) (mx 0 (wrap64 (a4 - (wrap64 (a3 + (mn x5_10 (ji103))))))))))) (mn x5_10 (ji103)) 0) = some r := by first | (rw [hji103] at H; exact H) | (simp only [hji103] at H ⊢; exact H)
                              have hji103_ : (if 0 < (wrap64 (-a3)) then (wrap64 (-a3)) else 0) = ji103 := hji103
                              obtain ⟨ji104, hji104⟩ : ∃ j_ : Int, (mn x5_10 (ji103)) = j_ := ⟨_, rfl⟩
                              replace H : (strconv_fmtEFG.l3 kj84 y250 l2 (wrap64 (a3 + (ji104))) (mn (wrap64 (x5_10 - (ji104))) (mx 0 (wrap64 (a4 - (wrap64 (a3 + (ji104))))))) (mx 0 (wrap64 ((wrap64 (x5_10 - (ji104))) - (mn (wrap64 (x5_10 - (ji104))) (mx 0 (wrap64 (a4 - (wrap64 (a3 + (ji104)))))))))) ji104 0) = some r := by first | (rw [hji104] at H; exact H) | (simp only [hji104] at H ⊢; exact H)
                              have hji104_ : (if (ji103) < x5_10 then (ji103) else x5_10) = ji104 := hji104
                              obtain ⟨ji105, hji105⟩ : ∃ j_ : Int, (mx 0 (wrap64 (a4 - (wrap64 (a3 + (ji104)))))) = j_ := ⟨_, rfl⟩
                              replace H : (strconv_fmtEFG.l3 kj84 y250 l2 (wrap64 (a3 + (ji104))) (mn (wrap64 (x5_10 - (ji104))) (ji105)) (mx 0 (wrap64 ((wrap64 (x5_10 - (ji104))) - (mn (wrap64 (x5_10 - (ji104))) (ji105))))) ji104 0) = some r := by first | (rw [hji105] at H; exact H) | (simp only [hji105] at H ⊢; exact H)
                              have hji105_ : (if 0 < (wrap64 (a4 - (wrap64 (a3 + (ji104))))) then (wrap64 (a4 - (wrap64 (a3 + (ji104))))) else 0) = ji105 := hji105
                              obtain ⟨ji106, hji106⟩ : ∃ j_ : Int, (mn (wrap64 (x5_10 - (ji104))) (ji105)) = j_ := ⟨_, rfl⟩
                              replace H : (strconv_fmtEFG.l3 kj84 y250 l2 (wrap64 (a3 + (ji104))) ji106 (mx 0 (wrap64 ((wrap64 (x5_10 - (ji104))) - (ji106)))) ji104 0) = some r := by first | (rw [hji106] at H; exact H) | (simp only [hji106] at H ⊢; exact H)
                              have hji106_ : (if (ji105) < (wrap64 (x5_10 - (ji104))) then (ji105) else (wrap64 (x5_10 - (ji104)))) = ji106 := hji106
                              obtain ⟨ji107, hji107⟩ : ∃ j_ : Int, (mx 0 (wrap64 ((wrap64 (x5_10 - (ji104))) - (ji106)))) = j_ := ⟨_, rfl⟩
                              replace H : (strconv_fmtEFG.l3 kj84 y250 l2 (wrap64 (a3 + (ji104))) ji106 ji107 ji104 0) = some r := by first | (rw [hji107] at H; exact H) | (simp only [hji107] at H ⊢; exact H)
                              have hji107_ : (if 0 < (wrap64 ((wrap64 (x5_10 - (ji104))) - (ji106))) then (wrap64 ((wrap64 (x5_10 - (ji104))) - (ji106))) else 0) = ji107 := hji107
                              have H' := Aside0.mk H
                              clear H
                              go_wp2_with (first | ((with_reducible refine gate_builtin (b := .append) (xs := #[.tmp 214, .tmp 215]) rfl ?_); at_builtin; refine Kd.G_append (dd := Kd.int .u8) (Kd.int .u8) (w0 := w0) w0.heap.size rfl (.tmp 214) (.tmp 215) 29 5 (.int .u8 0) 1 rfl Tryd.underlying29 info5 rfl (by decide) (by omega) u0 x0_84 46 [.int .u8 46] (fun k_ => (P0_ k_ ∨ w.heap.size ≤ k_)) (fun _ => False) rfl rfl ?aP (fun _ hk => hk.elim) ?aF ?aO ?aB ?aS ?aL ?_; (case aP => exact rfl); (case aB => exact (by repeat (first | (with_reducible first | exact HB.out | apply below_alloc | apply pw_below_drewN | apply below_drew1) | exact HB.out))); (case aF => exact (fun k_ hk => (.inr (Nat.le_trans (by first | exact HK.out.1 | exact (show Kept w _ (fun k_ => P0_ k_) from by repeat (first | (with_reducible first | exact HK.out | apply Kept.alloc | apply Kept.drewN | apply Kept.drew) | exact HK.out)).1) hk)))); (case aO => exact (by (with_reducible repeat (first | apply Kd.R_alloc | apply Kd.G_alloc | apply Kd.R_drewN | apply Kd.G_drewN | apply Kd.R_drew | apply Kd.G_drew)); exact HO_0.out)); (case aS => exact (below_size (by repeat (first | (with_reducible first | exact HB.out | apply below_alloc | apply pw_below_drewN | apply below_drew1) | exact HB.out)))); (case aL => have := LMc102.out; omega); intro v251 w108 ho hb hg hat; rw [← Ny250.out] at ho; have n0_ := Aside0.mk (hb); have n1_ := Aside0.mk (Kept.of_grown (S := (fun k_ => P0_ k_)) hg (by repeat (first | (with_reducible first | exact HK.out | apply Kept.alloc | apply Kept.drewN | apply Kept.drew) | exact HK.out)) (fun k_ e_ => (HO_0.out.1 k_ e_))); have n2_ := Aside0.mk (ho); clear HB; clear HK; clear HO_0; have HB := n0_; have HK := n1_; have HO252 := n2_; clear n0_ n1_ n2_; clear ho hb hg hat))
                              go_loopg [0, 240] kj84 (fun kq v0 v240 w' => ∃ (x0_6 : List Int) (x240_6 : Int), v240 = .int .i64 x240_6 ∧ Aside0 (strconv_fmtEFG.l3 kq x0_6 l2 (wrap64 (a3 + (ji104))) ji106 ji107 ji104 x240_6 = some r) ∧ Aside0 (kq ≤ kj84) ∧ Aside0 (Kd.G (Kd.int .u8) 5 w' w0.heap.size (fun k_ => (P0_ k_ ∨ w.heap.size ≤ k_)) v0 x0_6) ∧ Aside0 (Kept w w' (fun k_ => P0_ k_)) ∧ Aside0 (Below w0.heap.size w0 w'))
                              case atStart => exact ⟨(y250), (0), (by first | rfl | (simp; done) | (simp [*]; done)), H', ⟨Nat.le_refl _⟩, ⟨by (with_reducible repeat (first | apply Kd.R_alloc | apply Kd.G_alloc | apply Kd.R_drewN | apply Kd.G_drewN | apply Kd.R_drew | apply Kd.G_drew)); exact HO252.out⟩, ⟨by repeat (first | (with_reducible first | exact HK.out | apply Kept.alloc | apply Kept.drewN | apply Kept.drew) | exact HK.out)⟩, ⟨by repeat (first | (with_reducible first | exact HB.out | apply below_alloc | apply pw_below_drewN | apply below_drew1) | exact HB.out)⟩⟩
                              case round => as_aux_lemma =>
                                clear H'
                                try clear c1; try clear p1; try clear q1; try clear hx1; try clear qi1; try clear c2; try clear p2; try clear q2; try clear hx2; try clear c3; try clear c4; try clear q4; try clear c5; try clear c6; try clear p6; try clear c7; try clear c8; try clear c9; try clear q9; try clear c10; try clear c10b0; try clear c10b1; try clear c12; try clear c14; try clear c14b0; try clear c16
                                try clear c18; try clear p19; try clear q19; try clear hx19; try clear qi19; try clear c20; try clear c20b0; try clear c21; try clear c22; try clear c22b0; try clear c23; try clear c23b0; try clear p24; try clear q24; try clear hx24; try clear c27; try clear c27b0; try clear c27b1; try clear c28; try clear c30; try clear c31; try clear c34; try clear c34b0; try clear c34b1
                                try clear c35; try clear c35b0; try clear c35b1; try clear c36; try clear c39; try clear c39b0; try clear c40; try clear c44; try clear c44b0; try clear c45; try clear c45b0; try clear c45b1; try clear c46; try clear c46b0; try clear c46b1; try clear c47; try clear c48; try clear q48; try clear c50; try clear c50b0; try clear c51; try clear c53; try clear c56; try clear c56b0
                                try clear c56b1; try clear c58; try clear c58b0; try clear c59; try clear c60; try clear c60b0; try clear c61; try clear p64; try clear c67; try clear c67b0; try clear c68; try clear c74; try clear c80; try clear c80b0; try clear c80b1; try clear c82; try clear c83; try clear c86; try clear c86b0; try clear c88; try clear c88b0; try clear c88b1; try clear c89; try clear c89b0
                                try clear c89b1; try clear q90; try clear c91; try clear c91b0; try clear c92; try clear c92b0; try clear c93; try clear c93b0; try clear c94; try clear c96; try clear c96b0; try clear c97; try clear c99; try clear c101; try clear c101b0; try clear c102; try clear hx192_0; try clear hx240_0; try clear p1; try clear p19; try clear p192; try clear p2; try clear p24; try clear p240
                                try clear p6; try clear p64; try clear q1; try clear q19; try clear q192; try clear q2; try clear q24; try clear q240; try clear q4; try clear q48; try clear q9; try clear q90
                                obtain ⟨x0_6, x240_6, rfl, HA, HK6, HO_0, HK, HB⟩ := hrel
                                cases gk with
                                | zero => exact absurd HA.out (by simp [strconv_fmtEFG.l3])
                                | succ k6 =>
                                  have H := HA.out
                                  clear HA
                                  simp only [strconv_fmtEFG.l3] at H
                                  by_cases c109 : x240_6 < ji104
                                  · rw [if_pos c109] at H
                                    have c109b0 : decide (x240_6 < ji104) = true := decide_eq_true c109
                                    clear c109
                                    by_cases c110 : x0_6.length < 140737488355328
                                    · rw [if_pos c110] at H
                                      have LMc110 := Aside0.mk c110
                                      clear c110
                                      obtain ⟨y253, hy253⟩ : ∃ y_ : List Int, y_ = (x0_6 ++ [48]) := ⟨_, rfl⟩
                                      replace H : (strconv_fmtEFG.l3 k6 y253 l2 (wrap64 (a3 + (ji104))) ji106 ji107 ji104 (wrap64 (x240_6 + 1))) = some r := by first | (rw [hy253]; with_reducible exact H) | (have H2_ := (Option.bind_some _ _).symm.trans H; rw [hy253]; with_reducible exact H2_) | (have H2_ := (Option.bind_some _ _).symm.trans H; with_reducible exact H2_) | with_reducible exact H | (rw [hy253]; exact H) | exact H
                                      have Ny253 := Aside0.mk hy253
                                      clear hy253
                                      have H' := Aside0.mk H
                                      clear H
                                      go_wp2_with (first | ((with_reducible refine gate_builtin (b := .append) (xs := #[.tmp 242, .tmp 243]) rfl ?_); at_builtin; refine Kd.G_append (dd := Kd.int .u8) (Kd.int .u8) (w0 := w0) w0.heap.size rfl (.tmp 242) (.tmp 243) 29 5 (.int .u8 0) 1 rfl Tryd.underlying29 info5 rfl (by decide) (by omega) u0 x0_6 48 [.int .u8 48] (fun k_ => (P0_ k_ ∨ w.heap.size ≤ k_)) (fun _ => False) rfl rfl ?aP (fun _ hk => hk.elim) ?aF ?aO ?aB ?aS ?aL ?_; (case aP => exact rfl); (case aB => exact (by repeat (first | (with_reducible first | exact HB.out | apply below_alloc | apply pw_below_drewN | apply below_drew1) | exact HB.out))); (case aF => exact (fun k_ hk => (.inr (Nat.le_trans (by first | exact HK.out.1 | exact (show Kept w _ (fun k_ => P0_ k_) from by repeat (first | (with_reducible first | exact HK.out | apply Kept.alloc | apply Kept.drewN | apply Kept.drew) | exact HK.out)).1) hk)))); (case aO => exact (by (with_reducible repeat (first | apply Kd.R_alloc | apply Kd.G_alloc | apply Kd.R_drewN | apply Kd.G_drewN | apply Kd.R_drew | apply Kd.G_drew)); exact HO_0.out)); (case aS => exact (below_size (by repeat (first | (with_reducible first | exact HB.out | apply below_alloc | apply pw_below_drewN | apply below_drew1) | exact HB.out)))); (case aL => have := LMc110.out; omega); intro v254 w111 ho hb hg hat; rw [← Ny253.out] at ho; have n0_ := Aside0.mk (hb); have n1_ := Aside0.mk (Kept.of_grown (S := (fun k_ => P0_ k_)) hg (by repeat (first | (with_reducible first | exact HK.out | apply Kept.alloc | apply Kept.drewN | apply Kept.drew) | exact HK.out)) (fun k_ e_ => (HO_0.out.1 k_ e_))); have n2_ := Aside0.mk (ho); clear HB; clear HK; clear HO_0; have HB := n0_; have HK := n1_; have HO255 := n2_; clear n0_ n1_ n2_; clear ho hb hg hat))
                                      go_roundg k6
                                      case measure => have := HJ8.out; have := HJ10.out; have := HJ25.out; have := HJ80.out; have := HJ84.out; have := HK6.out; omega
                                      case rel => exact ⟨(y253), (wrap64 (x240_6 + 1)), (by first | rfl | (simp; done) | (simp [*]; done)), H', ⟨by have := HJ8.out; have := HJ10.out; have := HJ25.out; have := HJ80.out; have := HJ84.out; have := HK6.out; omega⟩, ⟨by (with_reducible repeat (first | apply Kd.R_alloc | apply Kd.G_alloc | apply Kd.R_drewN | apply Kd.G_drewN | apply Kd.R_drew | apply Kd.G_drew)); exact HO255.out⟩, ⟨by repeat (first | (with_reducible first | exact HK.out | apply Kept.alloc | apply Kept.drewN | apply Kept.drew) | exact HK.out)⟩, ⟨by repeat (first | (with_reducible first | exact HB.out | apply below_alloc | apply pw_below_drewN | apply below_drew1) | exact HB.out)⟩⟩
                                    · rw [if_neg c110] at H
                                      exact absurd H (by simp)
                                  · rw [if_neg c109] at H
                                    have c109b0 : decide (x240_6 < ji104) = false := decide_eq_false c109
                                    clear c109
                                    have H' := Aside0.mk H
                                    clear H
                                    go_wp2
                                    go_loopg [0, 247] k6 (fun kq v0 v247 w' => ∃ (x0_7 : List Int) (x247_7 : Int), v247 = .int .i64 x247_7 ∧ Aside0 (strconv_fmtEFG.l4 kq x0_7 l2 (wrap64 (a3 + (ji104))) ji107 ji106 x247_7 = some r) ∧ Aside0 (kq ≤ k6) ∧ Aside0 (Kd.G (Kd.int .u8) 5 w' w0.heap.size (fun k_ => (P0_ k_ ∨ w.heap.size ≤ k_)) v0 x0_7) ∧ Aside0 (Kept w w' (fun k_ => P0_ k_)) ∧ Aside0 (Below w0.heap.size w0 w'))
                                    case atStart => exact ⟨(x0_6), (0), (by first | rfl | (simp; done) | (simp [*]; done)), H', ⟨Nat.le_refl _⟩, ⟨by (with_reducible repeat (first | apply Kd.R_alloc | apply Kd.G_alloc | apply Kd.R_drewN | apply Kd.G_drewN | apply Kd.R_drew | apply Kd.G_drew)); exact HO_0.out⟩, ⟨by repeat (first | (with_reducible first | exact HK.out | apply Kept.alloc | apply Kept.drewN | apply Kept.drew) | exact HK.out)⟩, ⟨by repeat (first | (with_reducible first | exact HB.out | apply below_alloc | apply pw_below_drewN | apply below_drew1) | exact HB.out)⟩⟩
                                    case round => as_aux_lemma =>
                                      clear H'
                                      try clear c1; try clear p1; try clear q1; try clear hx1; try clear qi1; try clear c2; try clear p2; try clear q2; try clear hx2; try clear c3; try clear c4; try clear q4; try clear c5; try clear c6; try clear p6; try clear c7; try clear c8; try clear c9; try clear q9; try clear c10; try clear c10b0; try clear c10b1; try clear c11; try clear c12; try clear c14; try clear c14b0
                                      try clear c16; try clear c18; try clear p19; try clear q19; try clear hx19; try clear qi19; try clear c20; try clear c20b0; try clear c21; try clear c22; try clear c22b0; try clear c23; try clear c23b0; try clear p24; try clear q24; try clear hx24; try clear c27; try clear c27b0; try clear c27b1; try clear c28; try clear c30; try clear c31; try clear c34; try clear c34b0
                                      try clear c34b1; try clear c35; try clear c35b0; try clear c35b1; try clear c36; try clear c39; try clear c39b0; try clear c40; try clear c44; try clear c44b0; try clear c45; try clear c45b0; try clear c45b1; try clear c46; try clear c46b0; try clear c46b1; try clear c47; try clear c48; try clear q48; try clear c50; try clear c50b0; try clear c51; try clear c53
                                      try clear c56; try clear c56b0; try clear c56b1; try clear c58; try clear c58b0; try clear c59; try clear c60; try clear c60b0; try clear c61; try clear p64; try clear c67; try clear c67b0; try clear c68; try clear c74; try clear c80; try clear c80b0; try clear c80b1; try clear c82; try clear c83; try clear c86; try clear c86b0; try clear c88; try clear c88b0; try clear c88b1
                                      try clear c89; try clear c89b0; try clear c89b1; try clear q90; try clear c91; try clear c91b0; try clear c92; try clear c92b0; try clear c93; try clear c93b0; try clear c94; try clear c96; try clear c96b0; try clear c97; try clear c99; try clear c101; try clear c101b0; try clear c102; try clear c109; try clear c109b0; try clear c110; try clear hx192_0; try clear hx240_0
                                      try clear p1; try clear p19; try clear p192; try clear p2; try clear p24; try clear p240; try clear p6; try clear p64; try clear q1; try clear q19; try clear q192; try clear q2; try clear q24; try clear q240; try clear q4; try clear q48; try clear q9; try clear q90
                                      obtain ⟨x0_7, x247_7, rfl, HA, HK7, HO_0, HK, HB⟩ := hrel
                                      cases gk with
                                      | zero => exact absurd HA.out (by simp [strconv_fmtEFG.l4])
                                      | succ k7 =>
                                        have H := HA.out
                                        clear HA
                                        simp only [strconv_fmtEFG.l4] at H
                                        by_cases c112 : x247_7 < ji106
                                        · rw [if_pos c112] at H
                                          have c112b0 : decide (x247_7 < ji106) = true := decide_eq_true c112
                                          clear c112
                                          obtain ⟨ji113, hji113⟩ : ∃ j_ : Int, (wrap64 ((wrap64 (a3 + (ji104))) + x247_7)) = j_ := ⟨_, rfl⟩
                                          replace H : (if 0 ≤ (ji113) then (if (ji113) < (l2.length : Int) then (if x0_7.length < 140737488355328 then (strconv_fmtEFG.l4 k7 (x0_7 ++ [rd l2 (ji113)]) l2 (wrap64 (a3 + (ji104))) ji107 ji106 (wrap64 (x247_7 + 1))) else (none)) else (none)) else (none)) = some r := by first | (rw [hji113] at H; exact H) | (simp only [hji113] at H ⊢; exact H)
                                          have hji113w : (IntKind.i64.wrap ((wrap64 (a3 + (ji104))) + x247_7)) = ji113 := (i64_w _).trans hji113
                                          by_cases c114 : 0 ≤ (ji113)
                                          · rw [if_pos c114] at H
                                            have c114b0 : decide (0 ≤ (ji113)) = true := decide_eq_true c114
                                            clear c114
                                            by_cases c115 : (ji113) < (l2.length : Int)
                                            · rw [if_pos c115] at H
                                              have c115b0 : decide ((ji113) < (l2.length : Int)) = true := decide_eq_true c115
                                              clear c115
                                              by_cases c116 : x0_7.length < 140737488355328
                                              · rw [if_pos c116] at H
                                                have LMc116 := Aside0.mk c116
                                                clear c116
                                                obtain ⟨y257, hy257⟩ : ∃ y_ : List Int, y_ = (x0_7 ++ [rd l2 (ji113)]) := ⟨_, rfl⟩
                                                replace H : (strconv_fmtEFG.l4 k7 y257 l2 (wrap64 (a3 + (ji104))) ji107 ji106 (wrap64 (x247_7 + 1))) = some r := by first | (rw [hy257]; with_reducible exact H) | (have H2_ := (Option.bind_some _ _).symm.trans H; rw [hy257]; with_reducible exact H2_) | (have H2_ := (Option.bind_some _ _).symm.trans H; with_reducible exact H2_) | with_reducible exact H | (rw [hy257]; exact H) | exact H
                                                have Ny257 := Aside0.mk hy257
                                                clear hy257
                                                have H' := Aside0.mk H
                                                clear H
                                                have p256 : 0 ≤ ((ji113) : Int) := of_decide_eq_true (by first | (with_reducible assumption) | assumption)
                                                have q256 : (ji113) < (l2.length : Int) := of_decide_eq_true (by first | (with_reducible assumption) | assumption)
                                                obtain ⟨ad256, e256, hx256_0⟩ := Kd.at_int (Kd.C_kept_now HR2.out HK.out) (ji113) p256 q256
                                                cases e256
                                                replace p256 := eq_true p256
                                                replace q256 := eq_true q256
                                                go_wp2_with (first | ((with_reducible refine gate_builtin (b := .append) (xs := #[.tmp 250, .tmp 257]) rfl ?_); at_builtin; refine Kd.G_append (dd := Kd.int .u8) (Kd.int .u8) (w0 := w0) w0.heap.size rfl (.tmp 250) (.tmp 257) 29 5 (.int .u8 0) 1 rfl Tryd.underlying29 info5 rfl (by decide) (by omega) u0 x0_7 (rd l2 (ji113)) [.int .u8 (rd l2 (ji113))] (fun k_ => (P0_ k_ ∨ w.heap.size ≤ k_)) (fun _ => False) rfl rfl ?aP (fun _ hk => hk.elim) ?aF ?aO ?aB ?aS ?aL ?_; (case aP => exact rfl); (case aB => exact (by repeat (first | (with_reducible first | exact HB.out | apply below_alloc | apply pw_below_drewN | apply below_drew1) | exact HB.out))); (case aF => exact (fun k_ hk => (.inr (Nat.le_trans (by first | exact HK.out.1 | exact (show Kept w _ (fun k_ => P0_ k_) from by repeat (first | (with_reducible first | exact HK.out | apply Kept.alloc | apply Kept.drewN | apply Kept.drew) | exact HK.out)).1) hk)))); (case aO => exact (by (with_reducible repeat (first | apply Kd.R_alloc | apply Kd.G_alloc | apply Kd.R_drewN | apply Kd.G_drewN | apply Kd.R_drew | apply Kd.G_drew)); exact HO_0.out)); (case aS => exact (below_size (by repeat (first | (with_reducible first | exact HB.out | apply below_alloc | apply pw_below_drewN | apply below_drew1) | exact HB.out)))); (case aL => have := LMc116.out; omega); intro v258 w117 ho hb hg hat; rw [← Ny257.out] at ho; have n0_ := Aside0.mk (hb); have n1_ := Aside0.mk (Kept.of_grown (S := (fun k_ => P0_ k_)) hg (by repeat (first | (with_reducible first | exact HK.out | apply Kept.alloc | apply Kept.drewN | apply Kept.drew) | exact HK.out)) (fun k_ e_ => (HO_0.out.1 k_ e_))); have n2_ := Aside0.mk (ho); clear HB; clear HK; clear HO_0; have HB := n0_; have HK := n1_; have HO259 := n2_; clear n0_ n1_ n2_; clear ho hb hg hat))
                                                go_roundg k7
                                                case measure => have := HJ8.out; have := HJ10.out; have := HJ25.out; have := HJ80.out; have := HJ84.out; have := HK6.out; have := HK7.out; omega
                                                case rel => exact ⟨(y257), (wrap64 (x247_7 + 1)), (by first | rfl | (simp; done) | (simp [*]; done)), H', ⟨by have := HJ8.out; have := HJ10.out; have := HJ25.out; have := HJ80.out; have := HJ84.out; have := HK6.out; have := HK7.out; omega⟩, ⟨by (with_reducible repeat (first | apply Kd.R_alloc | apply Kd.G_alloc | apply Kd.R_drewN | apply Kd.G_drewN | apply Kd.R_drew | apply Kd.G_drew)); exact HO259.out⟩, ⟨by repeat (first | (with_reducible first | exact HK.out | apply Kept.alloc | apply Kept.drewN | apply Kept.drew) | exact HK.out)⟩, ⟨by repeat (first | (with_reducible first | exact HB.out | apply below_alloc | apply pw_below_drewN | apply below_drew1) | exact HB.out)⟩⟩
                                              · rw [if_neg c116] at H
                                                exact absurd H (by simp)
                                            · rw [if_neg c115] at H
                                              exact absurd H (by simp)
                                          · rw [if_neg c114] at H
                                            exact absurd H (by simp)
                                        · rw [if_neg c112] at H
                                          have c112b0 : decide (x247_7 < ji106) = false := decide_eq_false c112
                                          clear c112
                                          have H' := Aside0.mk H
                                          clear H
                                          go_wp2
                                          go_loopg [0, 261] k7 (fun kq v0 v261 w' => ∃ (x0_8 : List Int) (x261_8 : Int), v261 = .int .i64 x261_8 ∧ Aside0 (strconv_fmtEFG.l5 kq x0_8 ji107 x261_8 = some r) ∧ Aside0 (kq ≤ k7) ∧ Aside0 (Kd.G (Kd.int .u8) 5 w' w0.heap.size (fun k_ => (P0_ k_ ∨ w.heap.size ≤ k_)) v0 x0_8) ∧ Aside0 (Kept w w' (fun k_ => P0_ k_)) ∧ Aside0 (Below w0.heap.size w0 w'))
                                          case atStart => exact ⟨(x0_7), (0), (by first | rfl | (simp; done) | (simp [*]; done)), H', ⟨Nat.le_refl _⟩, ⟨by (with_reducible repeat (first | apply Kd.R_alloc | apply Kd.G_alloc | apply Kd.R_drewN | apply Kd.G_drewN | apply Kd.R_drew | apply Kd.G_drew)); exact HO_0.out⟩, ⟨by repeat (first | (with_reducible first | exact HK.out | apply Kept.alloc | apply Kept.drewN | apply Kept.drew) | exact HK.out)⟩, ⟨by repeat (first | (with_reducible first | exact HB.out | apply below_alloc | apply pw_below_drewN | apply below_drew1) | exact HB.out)⟩⟩
                                          case round => as_aux_lemma =>
                                            clear H'
                                            try clear c1; try clear p1; try clear q1; try clear hx1; try clear qi1; try clear c2; try clear p2; try clear q2; try clear hx2; try clear c3; try clear c4; try clear q4; try clear c5; try clear c6; try clear p6; try clear c7; try clear c8; try clear c9; try clear q9; try clear c10; try clear c10b0; try clear c10b1; try clear c11; try clear c12; try clear c14
                                            try clear c14b0; try clear c16; try clear c18; try clear p19; try clear q19; try clear hx19; try clear qi19; try clear c20; try clear c20b0; try clear c21; try clear c22; try clear c22b0; try clear c23; try clear c23b0; try clear p24; try clear q24; try clear hx24; try clear p25; try clear q25; try clear hx25; try clear c27; try clear c27b0; try clear c27b1
                                            try clear c28; try clear c30; try clear c31; try clear c34; try clear c34b0; try clear c34b1; try clear c35; try clear c35b0; try clear c35b1; try clear c36; try clear c39; try clear c39b0; try clear c40; try clear c44; try clear c44b0; try clear c45; try clear c45b0; try clear c45b1; try clear c46; try clear c46b0; try clear c46b1; try clear c47; try clear c48
                                            try clear q48; try clear c50; try clear c50b0; try clear c51; try clear c53; try clear c56; try clear c56b0; try clear c56b1; try clear c58; try clear c58b0; try clear c59; try clear c60; try clear c60b0; try clear c61; try clear p64; try clear c67; try clear c67b0; try clear c68; try clear c74; try clear c80; try clear c80b0; try clear c80b1; try clear c82
                                            try clear c83; try clear c86; try clear c86b0; try clear c88; try clear c88b0; try clear c88b1; try clear c89; try clear c89b0; try clear c89b1; try clear q90; try clear c91; try clear c91b0; try clear c92; try clear c92b0; try clear c93; try clear c93b0; try clear c94; try clear c96; try clear c96b0; try clear c97; try clear c99; try clear c101; try clear c101b0
                                            try clear c102; try clear c109; try clear c109b0; try clear c110; try clear c112; try clear c112b0; try clear c114; try clear c114b0; try clear c115; try clear c115b0; try clear c116; try clear hx192_0; try clear hx240_0; try clear hx256_0; try clear p1; try clear p19; try clear p192; try clear p2; try clear p24; try clear p240; try clear p256; try clear p6
                                            try clear p64; try clear q1; try clear q19; try clear q192; try clear q2; try clear q24; try clear q240; try clear q256; try clear q4; try clear q48; try clear q9; try clear q90
                                            obtain ⟨x0_8, x261_8, rfl, HA, HK8, HO_0, HK, HB⟩ := hrel
                                            cases gk with
                                            | zero => exact absurd HA.out (by simp [strconv_fmtEFG.l5])
                                            | succ k8 =>
                                              have H := HA.out
                                              clear HA
                                              simp only [strconv_fmtEFG.l5] at H
                                              by_cases c118 : x261_8 < ji107
                                              · rw [if_pos c118] at H
                                                have c118b0 : decide (x261_8 < ji107) = true := decide_eq_true c118
                                                clear c118
                                                by_cases c119 : x0_8.length < 140737488355328
                                                · rw [if_pos c119] at H
                                                  have LMc119 := Aside0.mk c119
                                                  clear c119
                                                  obtain ⟨y260, hy260⟩ : ∃ y_ : List Int, y_ = (x0_8 ++ [48]) := ⟨_, rfl⟩
                                                  replace H : (strconv_fmtEFG.l5 k8 y260 ji107 (wrap64 (x261_8 + 1))) = some r := by first | (rw [hy260]; with_reducible exact H) | (have H2_ := (Option.bind_some _ _).symm.trans H; rw [hy260]; with_reducible exact H2_) | (have H2_ := (Option.bind_some _ _).symm.trans H; with_reducible exact H2_) | with_reducible exact H | (rw [hy260]; exact H) | exact H
                                                  have Ny260 := Aside0.mk hy260
                                                  clear hy260
                                                  have H' := Aside0.mk H
                                                  clear H
                                                  go_wp2_with (first | ((with_reducible refine gate_builtin (b := .append) (xs := #[.tmp 263, .tmp 264]) rfl ?_); at_builtin; refine Kd.G_append (dd := Kd.int .u8) (Kd.int .u8) (w0 := w0) w0.heap.size rfl (.tmp 263) (.tmp 264) 29 5 (.int .u8 0) 1 rfl Tryd.underlying29 info5 rfl (by decide) (by omega) u0 x0_8 48 [.int .u8 48] (fun k_ => (P0_ k_ ∨ w.heap.size ≤ k_)) (fun _ => False) rfl rfl ?aP (fun _ hk => hk.elim) ?aF ?aO ?aB ?aS ?aL ?_; (case aP => exact rfl); (case aB => exact (by repeat (first | (with_reducible first | exact HB.out | apply below_alloc | apply pw_below_drewN | apply below_drew1) | exact HB.out))); (case aF => exact (fun k_ hk => (.inr (Nat.le_trans (by first | exact HK.out.1 | exact (show Kept w _ (fun k_ => P0_ k_) from by repeat (first | (with_reducible first | exact HK.out | apply Kept.alloc | apply Kept.drewN | apply Kept.drew) | exact HK.out)).1) hk)))); (case aO => exact (by (with_reducible repeat (first | apply Kd.R_alloc | apply Kd.G_alloc | apply Kd.R_drewN | apply Kd.G_drewN | apply Kd.R_drew | apply Kd.G_drew)); exact HO_0.out)); (case aS => exact (below_size (by repeat (first | (with_reducible first | exact HB.out | apply below_alloc | apply pw_below_drewN | apply below_drew1) | exact HB.out)))); (case aL => have := LMc119.out; omega); intro v261 w120 ho hb hg hat; rw [← Ny260.out] at ho; have n0_ := Aside0.mk (hb); have n1_ := Aside0.mk (Kept.of_grown (S := (fun k_ => P0_ k_)) hg (by repeat (first | (with_reducible first | exact HK.out | apply Kept.alloc | apply Kept.drewN | apply Kept.drew) | exact HK.out)) (fun k_ e_ => (HO_0.out.1 k_ e_))); have n2_ := Aside0.mk (ho); clear HB; clear HK; clear HO_0; have HB := n0_; have HK := n1_; have HO262 := n2_; clear n0_ n1_ n2_; clear ho hb hg hat))
                                                  go_roundg k8
                                                  case measure => have := HJ8.out; have := HJ10.out; have := HJ25.out; have := HJ80.out; have := HJ84.out; have := HK6.out; have := HK7.out; have := HK8.out; omega
                                                  case rel => exact ⟨(y260), (wrap64 (x261_8 + 1)), (by first | rfl | (simp; done) | (simp [*]; done)), H', ⟨by have := HJ8.out; have := HJ10.out; have := HJ25.out; have := HJ80.out; have := HJ84.out; have := HK6.out; have := HK7.out; have := HK8.out; omega⟩, ⟨by (with_reducible repeat (first | apply Kd.R_alloc | apply Kd.G_alloc | apply Kd.R_drewN | apply Kd.G_drewN | apply Kd.R_drew | apply Kd.G_drew)); exact HO262.out⟩, ⟨by repeat (first | (with_reducible first | exact HK.out | apply Kept.alloc | apply Kept.drewN | apply Kept.drew) | exact HK.out)⟩, ⟨by repeat (first | (with_reducible first | exact HB.out | apply below_alloc | apply pw_below_drewN | apply below_drew1) | exact HB.out)⟩⟩
                                                · rw [if_neg c119] at H
                                                  exact absurd H (by simp)
                                              · rw [if_neg c118] at H
                                                have c118b0 : decide (x261_8 < ji107) = false := decide_eq_false c118
                                                clear c118
                                                obtain rfl := Option.some.inj H
                                                go_wp2
                                                go_ret
                                                exact ⟨_, by first | rfl | (simp [errW_none, errW_some] <;> rfl) | (simp only [← hji103, ← hji104, ← hji105, ← hji106, ← hji107]; first | rfl | (simp [errW_none, errW_some] <;> rfl)) | (simp [*, errW_none, errW_some] <;> rfl), by (with_reducible repeat (first | apply Kd.R_alloc | apply Kd.G_alloc | apply Kd.R_drewN | apply Kd.G_drewN | apply Kd.R_drew | apply Kd.G_drew)); exact HO_0.out, by repeat (first | (with_reducible first | exact HB.out | apply below_alloc | apply pw_below_drewN | apply below_drew1) | exact HB.out), by repeat (first | (with_reducible first | exact HK.out | apply Kept.alloc | apply Kept.drewN | apply Kept.drew) | exact HK.out)⟩
                            · rw [if_neg c102] at H
                              exact absurd H (by simp)
                          · rw [if_neg c101] at H
                            have c101b0 : decide (0 < x5_10) = false := decide_eq_false c101
                            clear c101
                            obtain rfl := Option.some.inj H
                            go_wp2
                            go_ret
                            exact ⟨_, by first | rfl | (simp [errW_none, errW_some] <;> rfl) | (simp [*, errW_none, errW_some] <;> rfl), by (with_reducible repeat (first | apply Kd.R_alloc | apply Kd.G_alloc | apply Kd.R_drewN | apply Kd.G_drewN | apply Kd.R_drew | apply Kd.G_drew)); exact HO_0.out, by repeat (first | (with_reducible first | exact HB.out | apply below_alloc | apply pw_below_drewN | apply below_drew1) | exact HB.out), by repeat (first | (with_reducible first | exact HK.out | apply Kept.alloc | apply Kept.drewN | apply Kept.drew) | exact HK.out)⟩
                · rw [if_neg c80] at H
                  have c80b0 : (x6_10 == 102) = false := beq_eq_false_iff_ne.mpr c80
                  have c80b1 : (x6_10 != 102) = true := bne_iff_ne.mpr c80
                  obtain ⟨y263, hy263⟩ : ∃ y_ : List Int, y_ = (([37, x6_10] : List Int)) := ⟨_, rfl⟩
                  replace H : (if l0.length + y263.length < 140737488355328 then (some (l0 ++ y263)) else (none)) = some r := by first | (rw [hy263]; with_reducible exact H) | (have H2_ := (Option.bind_some _ _).symm.trans H; rw [hy263]; with_reducible exact H2_) | (have H2_ := (Option.bind_some _ _).symm.trans H; with_reducible exact H2_) | with_reducible exact H | (rw [hy263]; exact H) | exact H
                  have Ny263 := Aside0.mk hy263
                  clear hy263
                  by_cases c121 : l0.length + y263.length < 140737488355328
                  · rw [if_pos c121] at H
                    have LMc121 := Aside0.mk c121
                    clear c121
                    obtain ⟨y266, hy266⟩ : ∃ y_ : List Int, y_ = (l0 ++ y263) := ⟨_, rfl⟩
                    replace H : (some y266) = some r := by first | (rw [hy266]; with_reducible exact H) | (have H2_ := (Option.bind_some _ _).symm.trans H; rw [hy266]; with_reducible exact H2_) | (have H2_ := (Option.bind_some _ _).symm.trans H; with_reducible exact H2_) | with_reducible exact H | (rw [hy266]; exact H) | exact H
                    have Ny266 := Aside0.mk hy266
                    clear hy266
                    obtain rfl := Option.some.inj H
                    go_wp2_with (first | ((with_reducible refine gate_dst (N := 270) rfl ?_); refine Kd.R_lit (Kd.int .u8) _ 5 ?hg (N := 270) ?hd (xs := ([37, x6_10] : List Int)) (inner := [.int .u8 37, .int .u8 x6_10]) (ok := fun _ => True) (okp := fun _ => True) ?hr ?hp (fun _ hk => hk) trivial (Below.refl _ _) (Nat.le_refl _) (by simp) ?_; (case hd => rfl); (case hg => rfl); (case hr => first | (go_simp; done) | (go_simp; rfl)); (case hp => exact (Reps.one (show Kd.M (Kd.int .u8) _ _ _ 37 [.int .u8 37] from rfl) (Reps.one (show Kd.M (Kd.int .u8) _ _ _ x6_10 [.int .u8 x6_10] from rfl) (Reps.none _ _)))); intro v264 w122 ho123 hb hg_ hnew_; clear hg_ hnew_; (first | rw [← Ny263.out] at ho123 | (simp only [Int.reduceToNat] at ho123; rw [← Ny263.out] at ho123)); have n0_ := Aside0.mk (Kd.G_elder' (by (with_reducible repeat (first | apply Kd.R_alloc | apply Kd.G_alloc | apply Kd.R_drewN | apply Kd.G_drewN | apply Kd.R_drew | apply Kd.G_drew)); exact HO_0.out) (Kd.R_base ho123) hb); have n1_ := Aside0.mk (Kd.R_lower (Kd.R_new' (Kd.R_newM (M := fun k_ => (P0_ k_ ∨ w.heap.size ≤ k_)) ho123 (by first | exact HK.out.1 | exact (show Kept w _ (fun k_ => P0_ k_) from by repeat (first | (with_reducible first | exact HK.out | apply Kept.alloc | apply Kept.drewN | apply Kept.drew) | exact HK.out)).1) (fun k_ h_ => .inr h_)) (Kd.G_lt (by (with_reducible repeat (first | apply Kd.R_alloc | apply Kd.G_alloc | apply Kd.R_drewN | apply Kd.G_drewN | apply Kd.R_drew | apply Kd.G_drew)); exact HO_0.out))) (below_size (by repeat (first | (with_reducible first | exact HB.out | apply below_alloc | apply pw_below_drewN | apply below_drew1) | exact HB.out)))); have n2_ := Aside0.mk (Kept.below (S := (fun k_ => P0_ k_)) (by repeat (first | (with_reducible first | exact HK.out | apply Kept.alloc | apply Kept.drewN | apply Kept.drew) | exact HK.out)) hb); have n3_ := Aside0.mk (below_step (by repeat (first | (with_reducible first | exact HB.out | apply below_alloc | apply pw_below_drewN | apply below_drew1) | exact HB.out)) hb); clear HO_0; clear HK; clear HB; have HO_0 := n0_; have HO265 := n1_; have HK := n2_; have HB := n3_; clear n0_ n1_ n2_ n3_; clear hb ho123; obtain ⟨Ao125, co125, eo125⟩ := Kd.R_slice HO265.out; subst eo125) | ((with_reducible refine gate_builtin (b := .append) (xs := #[.tmp 268, .tmp 270]) rfl ?_); at_builtin; refine Kd.G_append_rows (dd := Kd.int .u8) (Kd.int .u8) (w0 := w0) w0.heap.size rfl (.tmp 268) (.tmp 270) 29 5 (.int .u8 0) 1 rfl Tryd.underlying29 info5 rfl (by decide) (by omega) u9000_ l0 y263 _ _ _ (fun k_ => (P0_ k_ ∨ w.heap.size ≤ k_) ∧ some k_ ≠ (.slice Ao125 y263.length co125 : Value).ownBlock) (fun _ => False) rfl rfl ?aO ?aR (fun _ _ h => h) (fun _ h => h.elim) ?aF ?aB ?aS ?aL ?_; (case aR => repeat (first | exact (Kd.R_reads' HO265.out).2.2 | (with_reducible refine Kd.C_alloc ?_ _) | (with_reducible refine Kd.C_drewN ?_ _) | (with_reducible refine Kd.C_drew ?_))); (case aB => exact (by repeat (first | (with_reducible first | exact HB.out | apply below_alloc | apply pw_below_drewN | apply below_drew1) | exact HB.out))); (case aF => exact (fun k_ hk => ⟨(.inr (Nat.le_trans (by first | exact HK.out.1 | exact (show Kept w _ (fun k_ => P0_ k_) from by repeat (first | (with_reducible first | exact HK.out | apply Kept.alloc | apply Kept.drewN | apply Kept.drew) | exact HK.out)).1) hk)), Kd.fresh' (Kd.R_lt (by (with_reducible repeat (first | apply Kd.R_alloc | apply Kd.G_alloc | apply Kd.R_drewN | apply Kd.G_drewN | apply Kd.R_drew | apply Kd.G_drew)); exact HO265.out)) k_ hk⟩)); (case aO => exact (by (with_reducible repeat (first | apply Kd.R_alloc | apply Kd.G_alloc | apply Kd.R_drewN | apply Kd.G_drewN | apply Kd.R_drew | apply Kd.G_drew)); exact HO_0.out)); (case aS => exact (below_size (by repeat (first | (with_reducible first | exact HB.out | apply below_alloc | apply pw_below_drewN | apply below_drew1) | exact HB.out)))); (case aL => have := LMc121.out; omega); intro v267 w124 ho hb hg hat; rw [← Ny266.out] at ho; have n0_ := Aside0.mk (Kd.R_after (ok := (fun k_ => (P0_ k_ ∨ w.heap.size ≤ k_))) (by (with_reducible repeat (first | apply Kd.R_alloc | apply Kd.G_alloc | apply Kd.R_drewN | apply Kd.G_drewN | apply Kd.R_drew | apply Kd.G_drew)); exact Kd.R_mono HO265.out (fun _ hk => ⟨hk.1.1, hk.2⟩)) hg hat); have n1_ := Aside0.mk (hb); have n2_ := Aside0.mk (Kept.of_grown (S := (fun k_ => P0_ k_)) hg (by repeat (first | (with_reducible first | exact HK.out | apply Kept.alloc | apply Kept.drewN | apply Kept.drew) | exact HK.out)) (fun k_ e_ => (HO_0.out.1 k_ e_).1)); have n3_ := Aside0.mk (ho); clear HO265; clear HB; clear HK; clear HO_0; have HO265 := n0_; have HB := n1_; have HK := n2_; have HO268 := n3_; clear n0_ n1_ n2_ n3_; clear ho hb hg hat))
                    go_ret
                    exact ⟨_, by first | rfl | (simp [errW_none, errW_some] <;> rfl) | (simp [*, errW_none, errW_some] <;> rfl), by (with_reducible repeat (first | apply Kd.R_alloc | apply Kd.G_alloc | apply Kd.R_drewN | apply Kd.G_drewN | apply Kd.R_drew | apply Kd.G_drew)); exact Kd.G_mono HO268.out (fun _ hk => hk.1), by repeat (first | (with_reducible first | exact HB.out | apply below_alloc | apply pw_below_drewN | apply below_drew1) | exact HB.out), by repeat (first | (with_reducible first | exact HK.out | apply Kept.alloc | apply Kept.drewN | apply Kept.drew) | exact HK.out)⟩
                  · rw [if_neg c121] at H
                    exact absurd H (by simp)

end Go.Proofs.YtdggjpdhbailpaaDoor.Efg
