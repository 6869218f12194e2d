/- Small functions (indexNeedEscapeInString, zzTrimRight), and what they compute: turned from printed texts. Conditions: each theorem's own. -/
import Derived.Test.YtdggjpdhbailpaaDoorZWords
namespace Go.Proofs.YtdggjpdhbailpaaDoor.Ix
open Go.Proofs.YtdggjpdhbailpaaDoor.PFnTextAscii Go.RowKit Go.Proofs.YtdggjpdhbailpaaDoorW.PrintWords Go.Proofs.YtdggjpdhbailpaaDoorW.PrintLast Go.Proofs.YtdggjpdhbailpaaDoorW.PrintMore
attribute [local go_sem] max2_int min2_int max_two min_two max_three min_three max_four min_four   -- for this text's walks alone
set_option linter.unusedVariables false
set_option linter.unusedSimpArgs false

/-! ### text_indexNeedEscapeInString: function 90 -/
def text_indexNeedEscapeInString.l0 : Nat → ByteArray → Int → Option (Int)
  | 0, _, _ => none
  | k + 1, x0, x3 => if x3 < (x0.size : Int) then (if 0 ≤ x3 then (if (bt x0 x3) < 32 then (some x3) else (if (bt x0 x3) = 34 then (some x3) else (if (bt x0 x3) = 39 then (some x3) else (if (bt x0 x3) = 92 then (some x3) else (if (bt x0 x3) ≥ 127 then (some x3) else (text_indexNeedEscapeInString.l0 k x0 (wrap64 (x3 + 1)))))))) else (none)) else (some (x0.size : Int))
def text_indexNeedEscapeInString.f (k : Nat) (a0 : ByteArray) : Option (Int) := text_indexNeedEscapeInString.l0 k a0 0
theorem text_indexNeedEscapeInString.mono_l : ∀ k, (∀ y0 y1, LeO (text_indexNeedEscapeInString.l0 k y0 y1) (text_indexNeedEscapeInString.l0 (k + 1) y0 y1))
  | 0 => fun _ _ r h => by simp [text_indexNeedEscapeInString.l0] at h
  | k + 1 => by
    have ih0 := text_indexNeedEscapeInString.mono_l k
    · intro y0 y1
      unfold text_indexNeedEscapeInString.l0
      repeat' first
      | (with_reducible exact ih0 _ _)
      | (with_reducible exact LeO.refl _)
      | (with_reducible exact LeO.none _)
      | (with_reducible refine LeO.ite ?_ ?_)
      | (with_reducible refine LeO.bind ?_ (fun _ => ?_))
      | exact ih0 _ _
      | exact LeO.none _
      | refine LeO.ite ?_ ?_
      | refine LeO.bind ?_ (fun _ => ?_)
theorem text_indexNeedEscapeInString.mono : ∀ a0 k, LeO (text_indexNeedEscapeInString.f k a0) (text_indexNeedEscapeInString.f (k + 1) a0) := by
  intro a0 k
  have ih0 := text_indexNeedEscapeInString.mono_l k
  unfold text_indexNeedEscapeInString.f
  repeat' first
      | (with_reducible exact ih0 _ _)
      | (with_reducible exact LeO.refl _)
      | (with_reducible exact LeO.none _)
      | (with_reducible refine LeO.ite ?_ ?_)
      | (with_reducible refine LeO.bind ?_ (fun _ => ?_))
      | exact ih0 _ _
      | exact LeO.none _
      | refine LeO.ite ?_ ?_
      | refine LeO.bind ?_ (fun _ => ?_)
set_option maxHeartbeats 8000000 in
set_option maxRecDepth 100000 in
theorem text_indexNeedEscapeInString.calls (k : Nat) (a0 : ByteArray) (r : Int) (w : World) (h : text_indexNeedEscapeInString.f k a0 = some r) :
    Calls Tryd.prog 90 #[.string a0] w fun e w' => e = .returned (.int .i64 r) ∧ Drawn0 w w' := by
  have H : (text_indexNeedEscapeInString.l0 k a0 0) = some r := h
  clear h
  have H' := Aside0.mk H
  clear H
  go_enter Tryd.func90, Tryd.ntmps90
  go_wp2
  go_loopg [3] k (fun kq v3 w' => ∃ (x3_1 : Int), v3 = .int .i64 x3_1 ∧ Aside0 (text_indexNeedEscapeInString.l0 kq a0 x3_1 = some r) ∧ Aside0 (kq ≤ k) ∧ Drawn0 w w')
  case atStart => exact ⟨(0), (by first | rfl | (simp; done) | (simp [*]; done)), H', ⟨Nat.le_refl _⟩, by repeat (first | exact Drawn0.refl _ | apply Drawn0.step)⟩
  case round =>
    clear H'
    obtain ⟨x3_1, rfl, HA, HK1, ⟨m1, rfl⟩⟩ := hrel
    cases gk with
    | zero => exact absurd HA.out (by simp [text_indexNeedEscapeInString.l0])
    | succ k1 =>
      have H := HA.out
      clear HA
      simp only [text_indexNeedEscapeInString.l0] at H
      by_cases c2 : x3_1 < (a0.size : Int)
      · rw [if_pos c2] at H
        have c2b0 : decide (x3_1 < (a0.size : Int)) = true := decide_eq_true c2
        clear c2
        by_cases c3 : 0 ≤ x3_1
        · rw [if_pos c3] at H
          have c3b0 : decide (0 ≤ x3_1) = true := decide_eq_true c3
          clear c3
          by_cases c5 : (bt a0 x3_1) < 32
          · rw [if_pos c5] at H
            have c5b0 : decide ((bt a0 x3_1) < 32) = true := decide_eq_true c5
            clear c5
            obtain rfl := Option.some.inj H
            have p4 : 0 ≤ (x3_1 : Int) := of_decide_eq_true (by first | (with_reducible assumption) | assumption)
            have q4 : x3_1 < (a0.size : Int) := of_decide_eq_true (by first | (with_reducible assumption) | assumption)
            have hx4 := bt_at a0 x3_1
            replace p4 := eq_true p4
            replace q4 := eq_true q4
            go_wp2
            go_ret
            exact ⟨by first | rfl | (simp; done) | (simp [*]; done), by repeat (first | exact Drawn0.refl _ | apply Drawn0.step)⟩
          · rw [if_neg c5] at H
            have c5b0 : decide ((bt a0 x3_1) < 32) = false := decide_eq_false c5
            clear c5
            by_cases c6 : (bt a0 x3_1) = 34
            · rw [if_pos c6] at H
              have c6b0 : ((bt a0 x3_1) == 34) = true := beq_iff_eq.mpr c6
              have c6b1 : ((bt a0 x3_1) != 34) = false := bne_eq_false_iff_eq.mpr c6
              clear c6
              obtain rfl := Option.some.inj H
              have p4 : 0 ≤ (x3_1 : Int) := of_decide_eq_true (by first | (with_reducible assumption) | assumption)
              have q4 : x3_1 < (a0.size : Int) := of_decide_eq_true (by first | (with_reducible assumption) | assumption)
              have hx4 := bt_at a0 x3_1
              replace p4 := eq_true p4
              replace q4 := eq_true q4
              go_wp2
              go_ret
              exact ⟨by first | rfl | (simp; done) | (simp [*]; done), by repeat (first | exact Drawn0.refl _ | apply Drawn0.step)⟩
            · rw [if_neg c6] at H
              have c6b0 : ((bt a0 x3_1) == 34) = false := beq_eq_false_iff_ne.mpr c6
              have c6b1 : ((bt a0 x3_1) != 34) = true := bne_iff_ne.mpr c6
              by_cases c7 : (bt a0 x3_1) = 39
              · rw [if_pos c7] at H
                have c7b0 : ((bt a0 x3_1) == 39) = true := beq_iff_eq.mpr c7
                have c7b1 : ((bt a0 x3_1) != 39) = false := bne_eq_false_iff_eq.mpr c7
                clear c7
                obtain rfl := Option.some.inj H
                have p4 : 0 ≤ (x3_1 : Int) := of_decide_eq_true (by first | (with_reducible assumption) | assumption)
                have q4 : x3_1 < (a0.size : Int) := of_decide_eq_true (by first | (with_reducible assumption) | assumption)
                have hx4 := bt_at a0 x3_1
                replace p4 := eq_true p4
                replace q4 := eq_true q4
                go_wp2
                go_ret
                exact ⟨by first | rfl | (simp; done) | (simp [*]; done), by repeat (first | exact Drawn0.refl _ | apply Drawn0.step)⟩
              · rw [if_neg c7] at H
                have c7b0 : ((bt a0 x3_1) == 39) = false := beq_eq_false_iff_ne.mpr c7
                have c7b1 : ((bt a0 x3_1) != 39) = true := bne_iff_ne.mpr c7
                by_cases c8 : (bt a0 x3_1) = 92
                · rw [if_pos c8] at H
                  have c8b0 : ((bt a0 x3_1) == 92) = true := beq_iff_eq.mpr c8
                  have c8b1 : ((bt a0 x3_1) != 92) = false := bne_eq_false_iff_eq.mpr c8
                  clear c8
                  obtain rfl := Option.some.inj H
                  have p4 : 0 ≤ (x3_1 : Int) := of_decide_eq_true (by first | (with_reducible assumption) | assumption)
                  have q4 : x3_1 < (a0.size : Int) := of_decide_eq_true (by first | (with_reducible assumption) | assumption)
                  have hx4 := bt_at a0 x3_1
                  replace p4 := eq_true p4
                  replace q4 := eq_true q4
                  go_wp2
                  go_ret
                  exact ⟨by first | rfl | (simp; done) | (simp [*]; done), by repeat (first | exact Drawn0.refl _ | apply Drawn0.step)⟩
                · rw [if_neg c8] at H
                  have c8b0 : ((bt a0 x3_1) == 92) = false := beq_eq_false_iff_ne.mpr c8
                  have c8b1 : ((bt a0 x3_1) != 92) = true := bne_iff_ne.mpr c8
                  by_cases c9 : (bt a0 x3_1) ≥ 127
                  · rw [if_pos c9] at H
                    have c9b0 : decide (127 ≤ (bt a0 x3_1)) = true := decide_eq_true c9
                    clear c9
                    obtain rfl := Option.some.inj H
                    have p4 : 0 ≤ (x3_1 : Int) := of_decide_eq_true (by first | (with_reducible assumption) | assumption)
                    have q4 : x3_1 < (a0.size : Int) := of_decide_eq_true (by first | (with_reducible assumption) | assumption)
                    have hx4 := bt_at a0 x3_1
                    replace p4 := eq_true p4
                    replace q4 := eq_true q4
                    go_wp2
                    go_ret
                    exact ⟨by first | rfl | (simp; done) | (simp [*]; done), by repeat (first | exact Drawn0.refl _ | apply Drawn0.step)⟩
                  · rw [if_neg c9] at H
                    have c9b0 : decide (127 ≤ (bt a0 x3_1)) = false := decide_eq_false c9
                    clear c9
                    have H' := Aside0.mk H
                    clear H
                    have p4 : 0 ≤ (x3_1 : Int) := of_decide_eq_true (by first | (with_reducible assumption) | assumption)
                    have q4 : x3_1 < (a0.size : Int) := of_decide_eq_true (by first | (with_reducible assumption) | assumption)
                    have hx4 := bt_at a0 x3_1
                    replace p4 := eq_true p4
                    replace q4 := eq_true q4
                    go_wp2
                    go_roundg k1
                    case measure => have := HK1.out; omega
                    case rel => exact ⟨(wrap64 (x3_1 + 1)), (by first | rfl | (simp; done) | (simp [*]; done)), H', ⟨by have := HK1.out; omega⟩, by repeat (first | exact Drawn0.refl _ | apply Drawn0.step)⟩
        · rw [if_neg c3] at H
          exact absurd H (by simp)
      · rw [if_neg c2] at H
        have c2b0 : decide (x3_1 < (a0.size : Int)) = false := decide_eq_false c2
        clear c2
        obtain rfl := Option.some.inj H
        go_wp2
        go_ret
        exact ⟨by first | rfl | (simp; done) | (simp [*]; done), by repeat (first | exact Drawn0.refl _ | apply Drawn0.step)⟩


/-! ### text_zzTrimRight: function 75 -/
mutual
def text_zzTrimRight.l0 : Nat → ByteArray → ByteArray → Int → Option (ByteArray)
  | 0, _, _, _ => none
  | k + 1, x0, x1, x5 => if x5 > 0 then (text_zzTrimRight.l1 k x0 x1 x5 false 0) else (if 0 ≤ x5 then (if x5 ≤ (x0.size : Int) then (some (x0.extract 0 (x5 : Int).toNat)) else (none)) else (none))
def text_zzTrimRight.l1 : Nat → ByteArray → ByteArray → Int → Bool → Int → Option (ByteArray)
  | 0, _, _, _, _, _ => none
  | k + 1, x0, x1, x5, x6, x7 => if x7 < (x1.size : Int) then (if 0 ≤ x7 then (if 0 ≤ (wrap64 (x5 - 1)) then (if (wrap64 (x5 - 1)) < (x0.size : Int) then (if (bt x1 x7) = (bt x0 (wrap64 (x5 - 1))) then (text_zzTrimRight.l1 k x0 x1 x5 true (wrap64 (x7 + 1))) else (text_zzTrimRight.l1 k x0 x1 x5 x6 (wrap64 (x7 + 1)))) else (none)) else (none)) else (none)) else (if x6 = true then (text_zzTrimRight.l0 k x0 x1 (wrap64 (x5 - 1))) else (if 0 ≤ x5 then (if x5 ≤ (x0.size : Int) then (some (x0.extract 0 (x5 : Int).toNat)) else (none)) else (none)))
end
def text_zzTrimRight.f (k : Nat) (a0 : ByteArray) (a1 : ByteArray) : Option (ByteArray) := text_zzTrimRight.l0 k a0 a1 (a0.size : Int)
theorem text_zzTrimRight.mono_l : ∀ k, (∀ y0 y1 y2, LeO (text_zzTrimRight.l0 k y0 y1 y2) (text_zzTrimRight.l0 (k + 1) y0 y1 y2)) ∧ (∀ y0 y1 y2 y3 y4, LeO (text_zzTrimRight.l1 k y0 y1 y2 y3 y4) (text_zzTrimRight.l1 (k + 1) y0 y1 y2 y3 y4))
  | 0 => ⟨fun _ _ _ r h => by simp [text_zzTrimRight.l0] at h, fun _ _ _ _ _ r h => by simp [text_zzTrimRight.l1] at h⟩
  | k + 1 => by
    obtain ⟨ih0, ih1⟩ := text_zzTrimRight.mono_l k
    refine ⟨?_, ?_⟩
    · intro y0 y1 y2
      unfold text_zzTrimRight.l0
      repeat' first
      | (with_reducible exact ih0 _ _ _)
      | (with_reducible exact ih1 _ _ _ _ _)
      | (with_reducible exact LeO.refl _)
      | (with_reducible exact LeO.none _)
      | (with_reducible refine LeO.ite ?_ ?_)
      | (with_reducible refine LeO.bind ?_ (fun _ => ?_))
      | exact ih0 _ _ _
      | exact ih1 _ _ _ _ _
      | exact LeO.none _
      | refine LeO.ite ?_ ?_
      | refine LeO.bind ?_ (fun _ => ?_)
    · intro y0 y1 y2 y3 y4
      unfold text_zzTrimRight.l1
      repeat' first
      | (with_reducible exact ih0 _ _ _)
      | (with_reducible exact ih1 _ _ _ _ _)
      | (with_reducible exact LeO.refl _)
      | (with_reducible exact LeO.none _)
      | (with_reducible refine LeO.ite ?_ ?_)
      | (with_reducible refine LeO.bind ?_ (fun _ => ?_))
      | exact ih0 _ _ _
      | exact ih1 _ _ _ _ _
      | exact LeO.none _
      | refine LeO.ite ?_ ?_
      | refine LeO.bind ?_ (fun _ => ?_)
theorem text_zzTrimRight.mono : ∀ a0 a1 k, LeO (text_zzTrimRight.f k a0 a1) (text_zzTrimRight.f (k + 1) a0 a1) := by
  intro a0 a1 k
  obtain ⟨ih0, ih1⟩ := text_zzTrimRight.mono_l k
  unfold text_zzTrimRight.f
  repeat' first
      | (with_reducible exact ih0 _ _ _)
      | (with_reducible exact ih1 _ _ _ _ _)
      | (with_reducible exact LeO.refl _)
      | (with_reducible exact LeO.none _)
      | (with_reducible refine LeO.ite ?_ ?_)
      | (with_reducible refine LeO.bind ?_ (fun _ => ?_))
      | exact ih0 _ _ _
      | exact ih1 _ _ _ _ _
      | exact LeO.none _
      | refine LeO.ite ?_ ?_
      | refine LeO.bind ?_ (fun _ => ?_)
set_option maxHeartbeats 8000000 in
set_option maxRecDepth 100000 in
theorem text_zzTrimRight.calls (k : Nat) (a0 : ByteArray) (a1 : ByteArray) (r : ByteArray) (w : World) (h : text_zzTrimRight.f k a0 a1 = some r) :
    Calls Tryd.prog 75 #[.string a0, .string a1] w fun e w' => e = .returned (.string r) ∧ Drawn0 w w' := by
  have H : (text_zzTrimRight.l0 k a0 a1 (a0.size : Int)) = some r := h
  clear h
  have H' := Aside0.mk H
  clear H
  go_enter Tryd.func75, Tryd.ntmps75
  go_wp2
  repeat (go_quiet (fail); try go_wp2)
  go_loopg [5] k (fun kq v5 w' => ∃ (x5_1 : Int), v5 = .int .i64 x5_1 ∧ Aside0 (text_zzTrimRight.l0 kq a0 a1 x5_1 = some r) ∧ Aside0 (kq ≤ k) ∧ Drawn0 w w')
  case atStart => exact ⟨((a0.size : Int)), (by first | rfl | (simp; done) | (simp [*]; done)), H', ⟨Nat.le_refl _⟩, by repeat (first | exact Drawn0.refl _ | apply Drawn0.step)⟩
  case round =>
    clear H'
    try clear p2
    obtain ⟨x5_1, rfl, HA, HK1, ⟨m1, rfl⟩⟩ := hrel
    cases gk with
    | zero => exact absurd HA.out (by simp [text_zzTrimRight.l0])
    | succ k1 =>
      have H := HA.out
      clear HA
      simp only [text_zzTrimRight.l0] at H
      by_cases c3 : x5_1 > 0
      · rw [if_pos c3] at H
        have c3b0 : decide (0 < x5_1) = true := decide_eq_true c3
        clear c3
        have H' := Aside0.mk H
        clear H
        go_wp2
        repeat (go_quiet (fail); try go_wp2)
        go_loopg [6, 7] k1 (fun kq v6 v7 w' => ∃ (x6_2 : Bool) (x7_2 : Int), v6 = .bool x6_2 ∧ v7 = .int .i64 x7_2 ∧ Aside0 (text_zzTrimRight.l1 kq a0 a1 x5_1 x6_2 x7_2 = some r) ∧ Aside0 (kq ≤ k1) ∧ Drawn0 w w')
        case atStart => exact ⟨(false), (0), (by first | rfl | (simp; done) | (simp [*]; done)), (by first | rfl | (simp; done) | (simp [*]; done)), H', ⟨Nat.le_refl _⟩, by repeat (first | exact Drawn0.refl _ | apply Drawn0.step)⟩
        case round =>
          clear H'
          try clear p2
          try clear c3
          try clear c3b0
          try clear p2
          obtain ⟨x6_2, x7_2, rfl, rfl, HA, HK2, ⟨m2, rfl⟩⟩ := hrel
          cases gk with
          | zero => exact absurd HA.out (by simp [text_zzTrimRight.l1])
          | succ k2 =>
            have H := HA.out
            clear HA
            simp only [text_zzTrimRight.l1] at H
            by_cases c4 : x7_2 < (a1.size : Int)
            · rw [if_pos c4] at H
              have c4b0 : decide (x7_2 < (a1.size : Int)) = true := decide_eq_true c4
              clear c4
              by_cases c5 : 0 ≤ x7_2
              · rw [if_pos c5] at H
                have c5b0 : decide (0 ≤ x7_2) = true := decide_eq_true c5
                clear c5
                obtain ⟨ji7, hji7⟩ : ∃ j_ : Int, (wrap64 (x5_1 - 1)) = j_ := ⟨_, rfl⟩
                replace H : (if 0 ≤ (ji7) then (if (ji7) < (a0.size : Int) then (if (bt a1 x7_2) = (bt a0 (ji7)) then (text_zzTrimRight.l1 k2 a0 a1 x5_1 true (wrap64 (x7_2 + 1))) else (text_zzTrimRight.l1 k2 a0 a1 x5_1 x6_2 (wrap64 (x7_2 + 1)))) else (none)) else (none)) = some r := by first | (rw [hji7] at H; exact H) | (simp only [hji7] at H ⊢; exact H)
                have hji7w : (IntKind.i64.wrap (x5_1 - 1)) = ji7 := (i64_w _).trans hji7
                by_cases c8 : 0 ≤ (ji7)
                · rw [if_pos c8] at H
                  have c8b0 : decide (0 ≤ (ji7)) = true := decide_eq_true c8
                  clear c8
                  by_cases c9 : (ji7) < (a0.size : Int)
                  · rw [if_pos c9] at H
                    have c9b0 : decide ((ji7) < (a0.size : Int)) = true := decide_eq_true c9
                    clear c9
                    by_cases c11 : (bt a1 x7_2) = (bt a0 (ji7))
                    · rw [if_pos c11] at H
                      have c11b0 : ((bt a1 x7_2) == (bt a0 (ji7))) = true := beq_iff_eq.mpr c11
                      have c11b1 : ((bt a1 x7_2) != (bt a0 (ji7))) = false := bne_eq_false_iff_eq.mpr c11
                      clear c11
                      have H' := Aside0.mk H
                      clear H
                      have p6 : 0 ≤ (x7_2 : Int) := of_decide_eq_true (by first | (with_reducible assumption) | assumption)
                      have q6 : x7_2 < (a1.size : Int) := of_decide_eq_true (by first | (with_reducible assumption) | assumption)
                      have hx6 := bt_at a1 x7_2
                      replace p6 := eq_true p6
                      replace q6 := eq_true q6
                      have p10 : 0 ≤ ((ji7) : Int) := of_decide_eq_true (by first | (with_reducible assumption) | assumption)
                      have q10 : (ji7) < (a0.size : Int) := of_decide_eq_true (by first | (with_reducible assumption) | assumption)
                      have hx10 := bt_at a0 (ji7)
                      replace p10 := eq_true p10
                      replace q10 := eq_true q10
                      go_wp2
                      repeat (go_quiet (fail); try go_wp2)
                      go_roundg k2
                      case measure => have := HK1.out; have := HK2.out; omega
                      case rel => exact ⟨(true), (wrap64 (x7_2 + 1)), (by first | rfl | (simp; done) | (simp [*]; done)), (by first | rfl | (simp; done) | (simp [*]; done)), H', ⟨by have := HK1.out; have := HK2.out; omega⟩, by repeat (first | exact Drawn0.refl _ | apply Drawn0.step)⟩
                    · rw [if_neg c11] at H
                      have c11b0 : ((bt a1 x7_2) == (bt a0 (ji7))) = false := beq_eq_false_iff_ne.mpr c11
                      have c11b1 : ((bt a1 x7_2) != (bt a0 (ji7))) = true := bne_iff_ne.mpr c11
                      have H' := Aside0.mk H
                      clear H
                      have p6 : 0 ≤ (x7_2 : Int) := of_decide_eq_true (by first | (with_reducible assumption) | assumption)
                      have q6 : x7_2 < (a1.size : Int) := of_decide_eq_true (by first | (with_reducible assumption) | assumption)
                      have hx6 := bt_at a1 x7_2
                      replace p6 := eq_true p6
                      replace q6 := eq_true q6
                      have p10 : 0 ≤ ((ji7) : Int) := of_decide_eq_true (by first | (with_reducible assumption) | assumption)
                      have q10 : (ji7) < (a0.size : Int) := of_decide_eq_true (by first | (with_reducible assumption) | assumption)
                      have hx10 := bt_at a0 (ji7)
                      replace p10 := eq_true p10
                      replace q10 := eq_true q10
                      go_wp2
                      repeat (go_quiet (fail); try go_wp2)
                      go_roundg k2
                      case measure => have := HK1.out; have := HK2.out; omega
                      case rel => exact ⟨(x6_2), (wrap64 (x7_2 + 1)), (by first | rfl | (simp; done) | (simp [*]; done)), (by first | rfl | (simp; done) | (simp [*]; done)), H', ⟨by have := HK1.out; have := HK2.out; omega⟩, by repeat (first | exact Drawn0.refl _ | apply Drawn0.step)⟩
                  · rw [if_neg c9] at H
                    exact absurd H (by simp)
                · rw [if_neg c8] at H
                  exact absurd H (by simp)
              · rw [if_neg c5] at H
                exact absurd H (by simp)
            · rw [if_neg c4] at H
              have c4b0 : decide (x7_2 < (a1.size : Int)) = false := decide_eq_false c4
              clear c4
              by_cases c12 : x6_2 = true
              · subst c12
                have H1 : (text_zzTrimRight.l0 k2 a0 a1 (wrap64 (x5_1 - 1))) = some r := by rw [if_pos rfl] at H; exact H
                clear H
                have H := H1
                clear H1
                have H' := Aside0.mk H
                clear H
                go_wp2
                repeat (go_quiet (fail); try go_wp2)
                go_roundg k2
                case measure => have := HK1.out; have := HK2.out; omega
                case rel => exact ⟨(wrap64 (x5_1 - 1)), (by first | rfl | (simp; done) | (simp [*]; done)), H', ⟨by have := HK1.out; have := HK2.out; omega⟩, by repeat (first | exact Drawn0.refl _ | apply Drawn0.step)⟩
              · replace c12 := Bool.eq_false_iff.mpr c12
                subst c12
                have H1 : (if 0 ≤ x5_1 then (if x5_1 ≤ (a0.size : Int) then (some (a0.extract 0 (x5_1 : Int).toNat)) else (none)) else (none)) = some r := by rw [if_neg (show ¬ (false = true) by decide)] at H; exact H
                clear H
                have H := H1
                clear H1
                by_cases c13 : 0 ≤ x5_1
                · rw [if_pos c13] at H
                  have c13b0 := eq_true c13
                  have c13b1 : decide (0 ≤ x5_1) = true := decide_eq_true c13
                  clear c13
                  by_cases c14 : x5_1 ≤ (a0.size : Int)
                  · rw [if_pos c14] at H
                    have c14b0 := eq_true c14
                    have c14b1 : decide (x5_1 ≤ (a0.size : Int)) = true := decide_eq_true c14
                    clear c14
                    obtain rfl := Option.some.inj H
                    go_wp2
                    repeat (go_quiet (fail); try go_wp2)
                    go_ret
                    exact ⟨by first | rfl | (simp; done) | (simp [*]; done), by repeat (first | exact Drawn0.refl _ | apply Drawn0.step)⟩
                  · rw [if_neg c14] at H
                    exact absurd H (by simp)
                · rw [if_neg c13] at H
                  exact absurd H (by simp)
      · rw [if_neg c3] at H
        have c3b0 : decide (0 < x5_1) = false := decide_eq_false c3
        clear c3
        by_cases c15 : 0 ≤ x5_1
        · rw [if_pos c15] at H
          have c15b0 := eq_true c15
          have c15b1 : decide (0 ≤ x5_1) = true := decide_eq_true c15
          clear c15
          by_cases c16 : x5_1 ≤ (a0.size : Int)
          · rw [if_pos c16] at H
            have c16b0 := eq_true c16
            have c16b1 : decide (x5_1 ≤ (a0.size : Int)) = true := decide_eq_true c16
            clear c16
            obtain rfl := Option.some.inj H
            go_wp2
            repeat (go_quiet (fail); try go_wp2)
            go_ret
            exact ⟨by first | rfl | (simp; done) | (simp [*]; done), by repeat (first | exact Drawn0.refl _ | apply Drawn0.step)⟩
          · rw [if_neg c16] at H
            exact absurd H (by simp)
        · rw [if_neg c15] at H
          exact absurd H (by simp)

end Go.Proofs.YtdggjpdhbailpaaDoor.Ix
