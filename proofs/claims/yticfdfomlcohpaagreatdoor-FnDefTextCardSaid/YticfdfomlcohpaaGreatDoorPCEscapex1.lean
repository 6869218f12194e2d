-- PRINTED BY print.sh 35421559b90ae4d0a3588c463048766b98c2df88dd9212a6774a882060cdf62d: not written by this session
import Derived.Test.YticfdfomlcohpaaGreatDoorPCEscapex0
namespace Go.Proofs.YticfdfomlcohpaaGreatDoor.PCEscape
open Go.RowKit Go.Proofs.YticfdfomlcohpaaGreatDoorW.PrintWords Go.Proofs.YticfdfomlcohpaaGreatDoorW.PrintLast Go.Proofs.YticfdfomlcohpaaGreatDoorW.PrintMore
attribute [local go_sem] max2_int min2_int max_two min_two max_three min_three max_four min_four   -- for this text's walks alone
set_option linter.unusedVariables false
set_option linter.unusedSimpArgs false

/-! ### spec_octalByte: function 29 -/
def spec_octalByte.f (a0 : Int) : Option (ByteArray) := some (strOfNums (([92, (48 + (a0 / 64)) % 256, (48 + (Go.bits .and .u8 (a0 / 8) 7)) % 256, (48 + (Go.bits .and .u8 a0 7)) % 256] : List Int)))
set_option maxHeartbeats 8000000 in
set_option maxRecDepth 100000 in
theorem spec_octalByte.calls (a0 : Int) (r : ByteArray) (w : World) (h : spec_octalByte.f a0 = some r) :
    Calls Tryz.prog 29 #[.int .u8 a0] w fun e w' => e = .returned (.string r) ∧ Below w.heap.size w w' := by
  have HB := Aside0.mk (Below.refl w.heap.size w)
  have H : (some (strOfNums (([92, (48 + (a0 / 64)) % 256, (48 + (Go.bits .and .u8 (a0 / 8) 7)) % 256, (48 + (Go.bits .and .u8 a0 7)) % 256] : List Int)))) = some r := h
  clear h
  obtain ⟨y101, hy101⟩ : ∃ y_ : List Int, y_ = (([92, (48 + (a0 / 64)) % 256, (48 + (Go.bits .and .u8 (a0 / 8) 7)) % 256, (48 + (Go.bits .and .u8 a0 7)) % 256] : List Int)) := ⟨_, rfl⟩
  replace H : (some (strOfNums y101)) = some r := by first | (rw [hy101]; with_reducible exact H) | (have H2_ := (Option.bind_some _ _).symm.trans H; rw [hy101]; with_reducible exact H2_) | (have H2_ := (Option.bind_some _ _).symm.trans H; with_reducible exact H2_) | with_reducible exact H | (rw [hy101]; exact H) | exact H
  have Ny101 := Aside0.mk hy101
  clear hy101
  obtain rfl := Option.some.inj H
  go_enter Tryz.func29, Tryz.ntmps29
  go_wp2_with (first | ((with_reducible refine gate_dst (N := 13) rfl ?_); refine Kd.R_lit (Kd.int .u8) _ 5 ?hg (N := 13) ?hd (xs := ([92, (48 + (a0 / 64)) % 256, (48 + (Go.bits .and .u8 (a0 / 8) 7)) % 256, (48 + (Go.bits .and .u8 a0 7)) % 256] : List Int)) (inner := [.int .u8 92, .int .u8 ((48 + (a0 / 64)) % 256), .int .u8 ((48 + (Go.bits .and .u8 (a0 / 8) 7)) % 256), .int .u8 ((48 + (Go.bits .and .u8 a0 7)) % 256)]) (ok := fun _ => True) (okp := fun _ => True) ?hr ?hp (fun _ hk => hk) trivial (Below.refl _ _) (Nat.le_refl _) (by simp) ?_; (case hd => rfl); (case hg => rfl); (case hr => first | (go_simp; done) | (go_simp; rfl)); (case hp => exact (Reps.one (show Kd.M (Kd.int .u8) _ _ _ 92 [.int .u8 92] from rfl) (Reps.one (show Kd.M (Kd.int .u8) _ _ _ ((48 + (a0 / 64)) % 256) [.int .u8 ((48 + (a0 / 64)) % 256)] from rfl) (Reps.one (show Kd.M (Kd.int .u8) _ _ _ ((48 + (Go.bits .and .u8 (a0 / 8) 7)) % 256) [.int .u8 ((48 + (Go.bits .and .u8 (a0 / 8) 7)) % 256)] from rfl) (Reps.one (show Kd.M (Kd.int .u8) _ _ _ ((48 + (Go.bits .and .u8 a0 7)) % 256) [.int .u8 ((48 + (Go.bits .and .u8 a0 7)) % 256)] from rfl) (Reps.none _ _)))))); intro v102 w2 ho3 hb hg_ hnew_; clear hg_ hnew_; (first | rw [← Ny101.out] at ho3 | (simp only [Int.reduceToNat] at ho3; rw [← Ny101.out] at ho3)); have n0_ := Aside0.mk (Kd.R_lower ho3 (below_size (by repeat (first | (with_reducible first | exact HB.out | apply below_alloc | apply pw_below_drewN | apply below_drew1) | exact HB.out)))); have n1_ := Aside0.mk (below_step (by repeat (first | (with_reducible first | exact HB.out | apply below_alloc | apply pw_below_drewN | apply below_drew1) | exact HB.out)) hb); clear HB; have HO103 := n0_; have HB := n1_; clear n0_ n1_; clear hb ho3; have hcv4 := own_string (P := Tryz.prog) Tryz.underlying34 Tryz.underlying5 Tryz.underlying9 (Kd.own_of_R HO103.out)))
  go_ret
  exact ⟨by first | rfl | (simp [errW_none, errW_some] <;> rfl) | (simp [*, errW_none, errW_some] <;> rfl), by repeat (first | (with_reducible first | exact HB.out | apply below_alloc | apply pw_below_drewN | apply below_drew1) | exact HB.out)⟩

/-! ### spec_CEscape: function 20 -/
mutual
def spec_CEscape.l0 : Nat → List Int → ByteArray → Int → Option (ByteArray)
  | 0, _, _, _ => none
  | k + 1, x0, x3, x4 => if x4 < (x0.length : Int) then (if 0 ≤ x4 then (if (rd x0 x4) = 10 then (if x3.size + 2 ≤ 9223372036854775807 then (spec_CEscape.l0 k x0 (x3 ++ (⟨#[92, 110]⟩ : ByteArray)) (wrap64 (x4 + 1))) else (none)) else (if (rd x0 x4) = 13 then (if x3.size + 2 ≤ 9223372036854775807 then (spec_CEscape.l0 k x0 (x3 ++ (⟨#[92, 114]⟩ : ByteArray)) (wrap64 (x4 + 1))) else (none)) else (if (rd x0 x4) = 9 then (if x3.size + 2 ≤ 9223372036854775807 then (spec_CEscape.l0 k x0 (x3 ++ (⟨#[92, 116]⟩ : ByteArray)) (wrap64 (x4 + 1))) else (none)) else (if (rd x0 x4) = 34 then (spec_CEscape.j1 k x0 x3 x4 (rd x0 x4) true) else (if (rd x0 x4) = 39 then (spec_CEscape.j1 k x0 x3 x4 (rd x0 x4) true) else (spec_CEscape.j1 k x0 x3 x4 (rd x0 x4) ((rd x0 x4) == 92))))))) else (none)) else (some x3)
def spec_CEscape.j1 : Nat → List Int → ByteArray → Int → Int → Bool → Option (ByteArray)
  | 0, _, _, _, _, _ => none
  | k + 1, x0, x3, x4, x5, x35 => if x35 = true then ((some (([92, x5] : List Int) : List Int)).bind fun y105 => (if x3.size + (strOfNums y105).size ≤ 9223372036854775807 then (spec_CEscape.l0 k x0 (x3 ++ (strOfNums y105)) (wrap64 (x4 + 1))) else (none))) else (if x5 ≥ 32 then (if x5 < 127 then ((some (([x5] : List Int) : List Int)).bind fun y108 => (if x3.size + (strOfNums y108).size ≤ 9223372036854775807 then (spec_CEscape.l0 k x0 (x3 ++ (strOfNums y108)) (wrap64 (x4 + 1))) else (none))) else ((spec_octalByte.f x5).bind fun t111 => (if x3.size + t111.size ≤ 9223372036854775807 then (spec_CEscape.l0 k x0 (x3 ++ t111) (wrap64 (x4 + 1))) else (none)))) else ((spec_octalByte.f x5).bind fun t112 => (if x3.size + t112.size ≤ 9223372036854775807 then (spec_CEscape.l0 k x0 (x3 ++ t112) (wrap64 (x4 + 1))) else (none))))
end
def spec_CEscape.f (k : Nat) (l0 : List Int) : Option (ByteArray) := spec_CEscape.l0 k l0 (⟨#[]⟩ : ByteArray) 0
theorem spec_CEscape.mono_l : ∀ k, (∀ y0 y1 y2, LeO (spec_CEscape.l0 k y0 y1 y2) (spec_CEscape.l0 (k + 1) y0 y1 y2)) ∧ (∀ y0 y1 y2 y3 y4, LeO (spec_CEscape.j1 k y0 y1 y2 y3 y4) (spec_CEscape.j1 (k + 1) y0 y1 y2 y3 y4))
  | 0 => ⟨fun _ _ _ r h => by simp [spec_CEscape.l0] at h, fun _ _ _ _ _ r h => by simp [spec_CEscape.j1] at h⟩
  | k + 1 => by
    obtain ⟨ih0, ih1⟩ := spec_CEscape.mono_l k
    refine ⟨?_, ?_⟩
    · intro y0 y1 y2
      unfold spec_CEscape.l0
      repeat' first
      | (with_reducible exact ih0 _ _ _)
      | (with_reducible exact ih1 _ _ _ _ _)
      | (with_reducible exact LeO.refl _)
      | (with_reducible exact LeO.none _)
      | (with_reducible refine LeO.ite ?_ ?_)
      | (with_reducible refine LeO.bind ?_ (fun _ => ?_))
      | exact ih0 _ _ _
      | exact ih1 _ _ _ _ _
      | exact LeO.none _
      | refine LeO.ite ?_ ?_
      | refine LeO.bind ?_ (fun _ => ?_)
    · intro y0 y1 y2 y3 y4
      unfold spec_CEscape.j1
      repeat' first
      | (with_reducible exact ih0 _ _ _)
      | (with_reducible exact ih1 _ _ _ _ _)
      | (with_reducible exact LeO.refl _)
      | (with_reducible exact LeO.none _)
      | (with_reducible refine LeO.ite ?_ ?_)
      | (with_reducible refine LeO.bind ?_ (fun _ => ?_))
      | exact ih0 _ _ _
      | exact ih1 _ _ _ _ _
      | exact LeO.none _
      | refine LeO.ite ?_ ?_
      | refine LeO.bind ?_ (fun _ => ?_)
theorem spec_CEscape.mono : ∀ a0 k, LeO (spec_CEscape.f k a0) (spec_CEscape.f (k + 1) a0) := by
  intro a0 k
  obtain ⟨ih0, ih1⟩ := spec_CEscape.mono_l k
  unfold spec_CEscape.f
  repeat' first
      | (with_reducible exact ih0 _ _ _)
      | (with_reducible exact ih1 _ _ _ _ _)
      | (with_reducible exact LeO.refl _)
      | (with_reducible exact LeO.none _)
      | (with_reducible refine LeO.ite ?_ ?_)
      | (with_reducible refine LeO.bind ?_ (fun _ => ?_))
      | exact ih0 _ _ _
      | exact ih1 _ _ _ _ _
      | exact LeO.none _
      | refine LeO.ite ?_ ?_
      | refine LeO.bind ?_ (fun _ => ?_)
set_option maxHeartbeats 8000000 in
set_option maxRecDepth 100000 in
theorem spec_CEscape.calls (k : Nat) (A0 : Option Addr) (c0 : Nat) (l0 : List Int) (r : ByteArray) (w : World) (hr0 : Kd.C (Kd.int .u8) w A0 l0.length l0) (hc0 : l0.length ≤ c0) (h : spec_CEscape.f k l0 = some r) :
    Calls Tryz.prog 20 #[.slice A0 l0.length c0] w fun e w' => e = .returned (.string r) ∧ Below w.heap.size w w' := by
  have HR0 := Aside0.mk hr0
  have HC0 := Aside0.mk hc0
  clear hr0 hc0
  have HB := Aside0.mk (Below.refl w.heap.size w)
  have H : (spec_CEscape.l0 k l0 (⟨#[]⟩ : ByteArray) 0) = some r := h
  clear h
  have H' := Aside0.mk H
  clear H
  go_enter Tryz.func20, Tryz.ntmps20
  go_wp2
  go_loopg [3, 4] k (fun kq v3 v4 w' => ∃ (x3_1 : ByteArray) (x4_1 : Int), v3 = .string x3_1 ∧ v4 = .int .i64 x4_1 ∧ Aside0 (spec_CEscape.l0 kq l0 x3_1 x4_1 = some r) ∧ Aside0 (kq ≤ k) ∧ Aside0 (Below w.heap.size w w'))
  case atStart => exact ⟨((⟨#[]⟩ : ByteArray)), (0), (by first | rfl | (simp; done) | (simp [*]; done)), (by first | rfl | (simp; done) | (simp [*]; done)), H', ⟨Nat.le_refl _⟩, ⟨by repeat (first | (with_reducible first | exact HB.out | apply below_alloc | apply pw_below_drewN | apply below_drew1) | exact HB.out)⟩⟩
  case round =>
    clear H'
    obtain ⟨x3_1, x4_1, rfl, rfl, HA, HK1, HB⟩ := hrel
    cases gk with
    | zero => exact absurd HA.out (by simp [spec_CEscape.l0])
    | succ k1 =>
      have H := HA.out
      clear HA
      simp only [spec_CEscape.l0] at H
      by_cases c2 : x4_1 < (l0.length : Int)
      · rw [if_pos c2] at H
        have c2b0 : decide (x4_1 < (l0.length : Int)) = true := decide_eq_true c2
        clear c2
        by_cases c3 : 0 ≤ x4_1
        · rw [if_pos c3] at H
          have c3b0 : decide (0 ≤ x4_1) = true := decide_eq_true c3
          clear c3
          by_cases c4 : (rd l0 x4_1) = 10
          · rw [if_pos c4] at H
            have c4b0 : ((rd l0 x4_1) == 10) = true := beq_iff_eq.mpr c4
            have c4b1 : ((rd l0 x4_1) != 10) = false := bne_eq_false_iff_eq.mpr c4
            clear c4
            by_cases c5 : x3_1.size + 2 ≤ 9223372036854775807
            · rw [if_pos c5] at H
              have c5b0 := eq_true c5
              have c5b1 : decide (x3_1.size + 2 ≤ 9223372036854775807) = true := decide_eq_true c5
              try have c5b2 : (9223372036854775807 < x3_1.size + 2) = False := eq_false (Nat.not_lt.2 c5)
              have H' := Aside0.mk H
              clear H
              have p104 : 0 ≤ (x4_1 : Int) := of_decide_eq_true (by first | (with_reducible assumption) | assumption)
              have q104 : x4_1 < (l0.length : Int) := of_decide_eq_true (by first | (with_reducible assumption) | assumption)
              obtain ⟨ad104, e104, hx104_0⟩ := Kd.at_int HR0.out x4_1 p104 q104
              cases e104
              replace hx104_0 := (HB.out.cell (World.block_lt_of_cell? w _ hx104_0)).trans hx104_0
              replace p104 := eq_true p104
              replace q104 := eq_true q104
              go_wp2
              go_roundg k1
              case measure => have := HK1.out; omega
              case rel => exact ⟨(x3_1 ++ (⟨#[92, 110]⟩ : ByteArray)), (wrap64 (x4_1 + 1)), (by first | rfl | (simp; done) | (simp [*]; done)), (by first | rfl | (simp; done) | (simp [*]; done)), H', ⟨by have := HK1.out; omega⟩, ⟨by repeat (first | (with_reducible first | exact HB.out | apply below_alloc | apply pw_below_drewN | apply below_drew1) | exact HB.out)⟩⟩
            · rw [if_neg c5] at H
              exact absurd H (by simp)
          · rw [if_neg c4] at H
            have c4b0 : ((rd l0 x4_1) == 10) = false := beq_eq_false_iff_ne.mpr c4
            have c4b1 : ((rd l0 x4_1) != 10) = true := bne_iff_ne.mpr c4
            by_cases c6 : (rd l0 x4_1) = 13
            · rw [if_pos c6] at H
              have c6b0 : ((rd l0 x4_1) == 13) = true := beq_iff_eq.mpr c6
              have c6b1 : ((rd l0 x4_1) != 13) = false := bne_eq_false_iff_eq.mpr c6
              clear c6
              by_cases c7 : x3_1.size + 2 ≤ 9223372036854775807
              · rw [if_pos c7] at H
                have c7b0 := eq_true c7
                have c7b1 : decide (x3_1.size + 2 ≤ 9223372036854775807) = true := decide_eq_true c7
                try have c7b2 : (9223372036854775807 < x3_1.size + 2) = False := eq_false (Nat.not_lt.2 c7)
                have H' := Aside0.mk H
                clear H
                have p104 : 0 ≤ (x4_1 : Int) := of_decide_eq_true (by first | (with_reducible assumption) | assumption)
                have q104 : x4_1 < (l0.length : Int) := of_decide_eq_true (by first | (with_reducible assumption) | assumption)
                obtain ⟨ad104, e104, hx104_0⟩ := Kd.at_int HR0.out x4_1 p104 q104
                cases e104
                replace hx104_0 := (HB.out.cell (World.block_lt_of_cell? w _ hx104_0)).trans hx104_0
                replace p104 := eq_true p104
                replace q104 := eq_true q104
                go_wp2
                go_roundg k1
                case measure => have := HK1.out; omega
                case rel => exact ⟨(x3_1 ++ (⟨#[92, 114]⟩ : ByteArray)), (wrap64 (x4_1 + 1)), (by first | rfl | (simp; done) | (simp [*]; done)), (by first | rfl | (simp; done) | (simp [*]; done)), H', ⟨by have := HK1.out; omega⟩, ⟨by repeat (first | (with_reducible first | exact HB.out | apply below_alloc | apply pw_below_drewN | apply below_drew1) | exact HB.out)⟩⟩
              · rw [if_neg c7] at H
                exact absurd H (by simp)
            · rw [if_neg c6] at H
              have c6b0 : ((rd l0 x4_1) == 13) = false := beq_eq_false_iff_ne.mpr c6
              have c6b1 : ((rd l0 x4_1) != 13) = true := bne_iff_ne.mpr c6
              by_cases c8 : (rd l0 x4_1) = 9
              · rw [if_pos c8] at H
                have c8b0 : ((rd l0 x4_1) == 9) = true := beq_iff_eq.mpr c8
                have c8b1 : ((rd l0 x4_1) != 9) = false := bne_eq_false_iff_eq.mpr c8
                clear c8
                by_cases c9 : x3_1.size + 2 ≤ 9223372036854775807
                · rw [if_pos c9] at H
                  have c9b0 := eq_true c9
                  have c9b1 : decide (x3_1.size + 2 ≤ 9223372036854775807) = true := decide_eq_true c9
                  try have c9b2 : (9223372036854775807 < x3_1.size + 2) = False := eq_false (Nat.not_lt.2 c9)
                  have H' := Aside0.mk H
                  clear H
                  have p104 : 0 ≤ (x4_1 : Int) := of_decide_eq_true (by first | (with_reducible assumption) | assumption)
                  have q104 : x4_1 < (l0.length : Int) := of_decide_eq_true (by first | (with_reducible assumption) | assumption)
                  obtain ⟨ad104, e104, hx104_0⟩ := Kd.at_int HR0.out x4_1 p104 q104
                  cases e104
                  replace hx104_0 := (HB.out.cell (World.block_lt_of_cell? w _ hx104_0)).trans hx104_0
                  replace p104 := eq_true p104
                  replace q104 := eq_true q104
                  go_wp2
                  go_roundg k1
                  case measure => have := HK1.out; omega
                  case rel => exact ⟨(x3_1 ++ (⟨#[92, 116]⟩ : ByteArray)), (wrap64 (x4_1 + 1)), (by first | rfl | (simp; done) | (simp [*]; done)), (by first | rfl | (simp; done) | (simp [*]; done)), H', ⟨by have := HK1.out; omega⟩, ⟨by repeat (first | (with_reducible first | exact HB.out | apply below_alloc | apply pw_below_drewN | apply below_drew1) | exact HB.out)⟩⟩
                · rw [if_neg c9] at H
                  exact absurd H (by simp)
              · rw [if_neg c8] at H
                have c8b0 : ((rd l0 x4_1) == 9) = false := beq_eq_false_iff_ne.mpr c8
                have c8b1 : ((rd l0 x4_1) != 9) = true := bne_iff_ne.mpr c8
                have HC10 := Aside0.mk H
                clear H
                have p104 : 0 ≤ (x4_1 : Int) := of_decide_eq_true (by first | (with_reducible assumption) | assumption)
                have q104 : x4_1 < (l0.length : Int) := of_decide_eq_true (by first | (with_reducible assumption) | assumption)
                obtain ⟨ad104, e104, hx104_0⟩ := Kd.at_int HR0.out x4_1 p104 q104
                cases e104
                replace hx104_0 := (HB.out.cell (World.block_lt_of_cell? w _ hx104_0)).trans hx104_0
                replace p104 := eq_true p104
                replace q104 := eq_true q104
                go_upto_region 13 with (fail)
                go_cut [35] (fun v35 wc => ∃ (kq : Nat) (x35_9 : Bool), v35 = .bool x35_9 ∧ Aside0 (spec_CEscape.j1 kq l0 x3_1 x4_1 (rd l0 x4_1) x35_9 = some r) ∧ Aside0 (kq ≤ k1) ∧ Aside0 (Below w.heap.size w wc))
                case first =>
                  have H := HC10.out
                  clear HC10
                  by_cases c11 : (rd l0 x4_1) = 34
                  · rw [if_pos c11] at H
                    have c11b0 : ((rd l0 x4_1) == 34) = true := beq_iff_eq.mpr c11
                    have c11b1 : ((rd l0 x4_1) != 34) = false := bne_eq_false_iff_eq.mpr c11
                    clear c11
                    (first | rw [c11b0] | (simp only [i64_w, i32_w]; rw [c11b0]) | skip)
                    have H' := Aside0.mk H
                    clear H
                    go_wp2
                    go_meet
                    case rel => exact ⟨_, (true), (by first | rfl | (simp; done) | (simp [*]; done)), H', ⟨by have := HK1.out; first | omega | exact Nat.le_refl _⟩, ⟨by repeat (first | (with_reducible first | exact HB.out | apply below_alloc | apply pw_below_drewN | apply below_drew1) | exact HB.out)⟩⟩
                  · rw [if_neg c11] at H
                    have c11b0 : ((rd l0 x4_1) == 34) = false := beq_eq_false_iff_ne.mpr c11
                    have c11b1 : ((rd l0 x4_1) != 34) = true := bne_iff_ne.mpr c11
                    (first | rw [c11b0] | (simp only [i64_w, i32_w]; rw [c11b0]) | skip)
                    by_cases c12 : (rd l0 x4_1) = 39
                    · rw [if_pos c12] at H
                      have c12b0 : ((rd l0 x4_1) == 39) = true := beq_iff_eq.mpr c12
                      have c12b1 : ((rd l0 x4_1) != 39) = false := bne_eq_false_iff_eq.mpr c12
                      clear c12
                      have H' := Aside0.mk H
                      clear H
                      go_wp2
                      go_meet
                      case rel => exact ⟨_, (true), (by first | rfl | (simp; done) | (simp [*]; done)), H', ⟨by have := HK1.out; first | omega | exact Nat.le_refl _⟩, ⟨by repeat (first | (with_reducible first | exact HB.out | apply below_alloc | apply pw_below_drewN | apply below_drew1) | exact HB.out)⟩⟩
                    · rw [if_neg c12] at H
                      have c12b0 : ((rd l0 x4_1) == 39) = false := beq_eq_false_iff_ne.mpr c12
                      have c12b1 : ((rd l0 x4_1) != 39) = true := bne_iff_ne.mpr c12
                      have H' := Aside0.mk H
                      clear H
                      go_wp2
                      go_meet
                      case rel => exact ⟨_, (((rd l0 x4_1) == 92)), (by first | rfl | (simp; done) | (simp [*]; done)), H', ⟨by have := HK1.out; first | omega | exact Nat.le_refl _⟩, ⟨by repeat (first | (with_reducible first | exact HB.out | apply below_alloc | apply pw_below_drewN | apply below_drew1) | exact HB.out)⟩⟩
                case rest =>
                  clear HC10
                  try clear c1
                  try clear p1
                  try clear q1
                  try clear hx1
                  try clear c2
                  try clear c2b0
                  try clear p2
                  try clear c3
                  try clear c3b0
                  try clear c4
                  try clear c4b0
                  try clear c4b1
                  try clear c5
                  try clear c5b0
                  try clear c5b1
                  try clear c5b2
                  try clear c6
                  try clear c6b0
                  try clear c6b1
                  try clear p6
                  try clear c7
                  try clear c7b0
                  try clear c7b1
                  try clear c7b2
                  try clear c8
                  try clear c8b0
                  try clear c8b1
                  try clear c9
                  try clear c9b0
                  try clear c9b1
                  try clear c9b2
                  try clear p10
                  try clear q10
                  try clear hx10
                  try clear c11
                  try clear c11b0
                  try clear c11b1
                  try clear c12
                  try clear c12b0
                  try clear c12b1
                  try clear hx104_0
                  try clear p104
                  try clear q104
                  obtain ⟨kq, x35_9, rfl, HA, HJ9, HB⟩ := hcut
                  cases kq with
                  | zero => exact absurd HA.out (by simp [spec_CEscape.j1])
                  | succ kj9 =>
                    have H := HA.out
                    clear HA
                    simp only [spec_CEscape.j1] at H
                    by_cases c13 : x35_9 = true
                    · subst c13
                      have H1 : ((some (([92, (rd l0 x4_1)] : List Int) : List Int)).bind fun y105 => (if x3_1.size + (strOfNums y105).size ≤ 9223372036854775807 then (spec_CEscape.l0 kj9 l0 (x3_1 ++ (strOfNums y105)) (wrap64 (x4_1 + 1))) else (none))) = some r := by rw [if_pos rfl] at H; exact H
                      clear H
                      have H := H1
                      clear H1
                      obtain ⟨y105, hy105⟩ : ∃ y_ : List Int, y_ = (([92, (rd l0 x4_1)] : List Int)) := ⟨_, rfl⟩
                      replace H : (if x3_1.size + (strOfNums y105).size ≤ 9223372036854775807 then (spec_CEscape.l0 kj9 l0 (x3_1 ++ (strOfNums y105)) (wrap64 (x4_1 + 1))) else (none)) = some r := by first | (rw [hy105]; with_reducible exact H) | (have H2_ := (Option.bind_some _ _).symm.trans H; rw [hy105]; with_reducible exact H2_) | (have H2_ := (Option.bind_some _ _).symm.trans H; with_reducible exact H2_) | with_reducible exact H | (rw [hy105]; exact H) | exact H
                      have Ny105 := Aside0.mk hy105
                      clear hy105
                      by_cases c14 : x3_1.size + (strOfNums y105).size ≤ 9223372036854775807
                      · rw [if_pos c14] at H
                        have c14b0 := eq_true c14
                        have c14b1 : decide (x3_1.size + (strOfNums y105).size ≤ 9223372036854775807) = true := decide_eq_true c14
                        try have c14b2 : (9223372036854775807 < x3_1.size + (strOfNums y105).size) = False := eq_false (Nat.not_lt.2 c14)
                        have H' := Aside0.mk H
                        clear H
                        go_wp2_with (first | ((with_reducible refine gate_dst (N := 48) rfl ?_); refine Kd.R_lit (Kd.int .u8) _ 5 ?hg (N := 48) ?hd (xs := ([92, (rd l0 x4_1)] : List Int)) (inner := [.int .u8 92, .int .u8 (rd l0 x4_1)]) (ok := fun _ => True) (okp := fun _ => True) ?hr ?hp (fun _ hk => hk) trivial (Below.refl _ _) (Nat.le_refl _) (by simp) ?_; (case hd => rfl); (case hg => rfl); (case hr => first | (go_simp; done) | (go_simp; rfl)); (case hp => exact (Reps.one (show Kd.M (Kd.int .u8) _ _ _ 92 [.int .u8 92] from rfl) (Reps.one (show Kd.M (Kd.int .u8) _ _ _ (rd l0 x4_1) [.int .u8 (rd l0 x4_1)] from rfl) (Reps.none _ _)))); intro v106 w15 ho16 hb hg_ hnew_; clear hg_ hnew_; (first | rw [← Ny105.out] at ho16 | (simp only [Int.reduceToNat] at ho16; rw [← Ny105.out] at ho16)); have n0_ := Aside0.mk (Kd.R_lower ho16 (below_size (by repeat (first | (with_reducible first | exact HB.out | apply below_alloc | apply pw_below_drewN | apply below_drew1) | exact HB.out)))); have n1_ := Aside0.mk (below_step (by repeat (first | (with_reducible first | exact HB.out | apply below_alloc | apply pw_below_drewN | apply below_drew1) | exact HB.out)) hb); clear HB; have HO107 := n0_; have HB := n1_; clear n0_ n1_; clear hb ho16; have hcv17 := own_string (P := Tryz.prog) Tryz.underlying34 Tryz.underlying5 Tryz.underlying9 (Kd.own_of_R HO107.out)))
                        go_roundg kj9
                        case measure => have := HK1.out; have := HJ9.out; omega
                        case rel => exact ⟨(x3_1 ++ (strOfNums y105)), (wrap64 (x4_1 + 1)), (by first | rfl | (simp; done) | (simp [*]; done)), (by first | rfl | (simp; done) | (simp [*]; done)), H', ⟨by have := HK1.out; have := HJ9.out; omega⟩, ⟨by repeat (first | (with_reducible first | exact HB.out | apply below_alloc | apply pw_below_drewN | apply below_drew1) | exact HB.out)⟩⟩
                      · rw [if_neg c14] at H
                        exact absurd H (by simp)
                    · replace c13 := Bool.eq_false_iff.mpr c13
                      subst c13
                      have H1 : (if (rd l0 x4_1) ≥ 32 then (if (rd l0 x4_1) < 127 then ((some (([(rd l0 x4_1)] : List Int) : List Int)).bind fun y108 => (if x3_1.size + (strOfNums y108).size ≤ 9223372036854775807 then (spec_CEscape.l0 kj9 l0 (x3_1 ++ (strOfNums y108)) (wrap64 (x4_1 + 1))) else (none))) else ((spec_octalByte.f (rd l0 x4_1)).bind fun t111 => (if x3_1.size + t111.size ≤ 9223372036854775807 then (spec_CEscape.l0 kj9 l0 (x3_1 ++ t111) (wrap64 (x4_1 + 1))) else (none)))) else ((spec_octalByte.f (rd l0 x4_1)).bind fun t112 => (if x3_1.size + t112.size ≤ 9223372036854775807 then (spec_CEscape.l0 kj9 l0 (x3_1 ++ t112) (wrap64 (x4_1 + 1))) else (none)))) = some r := by rw [if_neg (show ¬ (false = true) by decide)] at H; exact H
                      clear H
                      have H := H1
                      clear H1
                      by_cases c18 : (rd l0 x4_1) ≥ 32
                      · rw [if_pos c18] at H
                        have c18b0 : decide (32 ≤ (rd l0 x4_1)) = true := decide_eq_true c18
                        clear c18
                        by_cases c19 : (rd l0 x4_1) < 127
                        · rw [if_pos c19] at H
                          have c19b0 : decide ((rd l0 x4_1) < 127) = true := decide_eq_true c19
                          clear c19
                          obtain ⟨y108, hy108⟩ : ∃ y_ : List Int, y_ = (([(rd l0 x4_1)] : List Int)) := ⟨_, rfl⟩
                          replace H : (if x3_1.size + (strOfNums y108).size ≤ 9223372036854775807 then (spec_CEscape.l0 kj9 l0 (x3_1 ++ (strOfNums y108)) (wrap64 (x4_1 + 1))) else (none)) = some r := by first | (rw [hy108]; with_reducible exact H) | (have H2_ := (Option.bind_some _ _).symm.trans H; rw [hy108]; with_reducible exact H2_) | (have H2_ := (Option.bind_some _ _).symm.trans H; with_reducible exact H2_) | with_reducible exact H | (rw [hy108]; exact H) | exact H
                          have Ny108 := Aside0.mk hy108
                          clear hy108
                          by_cases c20 : x3_1.size + (strOfNums y108).size ≤ 9223372036854775807
                          · rw [if_pos c20] at H
                            have c20b0 := eq_true c20
                            have c20b1 : decide (x3_1.size + (strOfNums y108).size ≤ 9223372036854775807) = true := decide_eq_true c20
                            try have c20b2 : (9223372036854775807 < x3_1.size + (strOfNums y108).size) = False := eq_false (Nat.not_lt.2 c20)
                            have H' := Aside0.mk H
                            clear H
                            go_wp2_with (first | ((with_reducible refine gate_dst (N := 60) rfl ?_); refine Kd.R_lit (Kd.int .u8) _ 5 ?hg (N := 60) ?hd (xs := ([(rd l0 x4_1)] : List Int)) (inner := [.int .u8 (rd l0 x4_1)]) (ok := fun _ => True) (okp := fun _ => True) ?hr ?hp (fun _ hk => hk) trivial (Below.refl _ _) (Nat.le_refl _) (by simp) ?_; (case hd => rfl); (case hg => rfl); (case hr => first | (go_simp; done) | (go_simp; rfl)); (case hp => exact (Reps.one (show Kd.M (Kd.int .u8) _ _ _ (rd l0 x4_1) [.int .u8 (rd l0 x4_1)] from rfl) (Reps.none _ _))); intro v109 w21 ho22 hb hg_ hnew_; clear hg_ hnew_; (first | rw [← Ny108.out] at ho22 | (simp only [Int.reduceToNat] at ho22; rw [← Ny108.out] at ho22)); have n0_ := Aside0.mk (Kd.R_lower ho22 (below_size (by repeat (first | (with_reducible first | exact HB.out | apply below_alloc | apply pw_below_drewN | apply below_drew1) | exact HB.out)))); have n1_ := Aside0.mk (below_step (by repeat (first | (with_reducible first | exact HB.out | apply below_alloc | apply pw_below_drewN | apply below_drew1) | exact HB.out)) hb); clear HB; have HO110 := n0_; have HB := n1_; clear n0_ n1_; clear hb ho22; have hcv23 := own_string (P := Tryz.prog) Tryz.underlying34 Tryz.underlying5 Tryz.underlying9 (Kd.own_of_R HO110.out)))
                            go_roundg kj9
                            case measure => have := HK1.out; have := HJ9.out; omega
                            case rel => exact ⟨(x3_1 ++ (strOfNums y108)), (wrap64 (x4_1 + 1)), (by first | rfl | (simp; done) | (simp [*]; done)), (by first | rfl | (simp; done) | (simp [*]; done)), H', ⟨by have := HK1.out; have := HJ9.out; omega⟩, ⟨by repeat (first | (with_reducible first | exact HB.out | apply below_alloc | apply pw_below_drewN | apply below_drew1) | exact HB.out)⟩⟩
                          · rw [if_neg c20] at H
                            exact absurd H (by simp)
                        · rw [if_neg c19] at H
                          have c19b0 : decide ((rd l0 x4_1) < 127) = false := decide_eq_false c19
                          clear c19
                          replace H := Option.bind_eq_some_iff.mp H
                          obtain ⟨t111, A240, H⟩ := H
                          replace H : (if x3_1.size + t111.size ≤ 9223372036854775807 then (spec_CEscape.l0 kj9 l0 (x3_1 ++ t111) (wrap64 (x4_1 + 1))) else (none)) = some r := H
                          have A24 := Aside0.mk A240
                          clear A240
                          by_cases c25 : x3_1.size + t111.size ≤ 9223372036854775807
                          · rw [if_pos c25] at H
                            have c25b0 := eq_true c25
                            have c25b1 : decide (x3_1.size + t111.size ≤ 9223372036854775807) = true := decide_eq_true c25
                            try have c25b2 : (9223372036854775807 < x3_1.size + t111.size) = False := eq_false (Nat.not_lt.2 c25)
                            have H' := Aside0.mk H
                            clear H
                            go_wp2_with (first | ((with_reducible refine gate_callee (f := 29) rfl ?_); refine goesL_ (some 18) rfl rfl Tryz.func29 (by kernel_rfl) rfl #[.int .u8 (rd l0 x4_1)] rfl (by (try simp only [List.map_toArray, List.map_cons, List.map_nil]); first | done | rfl | (simp only [List.length_drop, List.length_take]; rfl)) ?_; (with_reducible refine (spec_octalByte.calls (rd l0 x4_1) t111 _ A24.out).mono ?_); rintro e w26 ⟨rfl, hb⟩; refine ⟨_, rfl, ?_⟩; have n0_ := Aside0.mk (below_step (by repeat (first | (with_reducible first | exact HB.out | apply below_alloc | apply pw_below_drewN | apply below_drew1) | exact HB.out)) hb); clear HB; have HB := n0_; clear n0_; (try clear hb); (try clear hb2); (try clear hk); (try clear hi)))
                            go_roundg kj9
                            case measure => have := HK1.out; have := HJ9.out; omega
                            case rel => exact ⟨(x3_1 ++ t111), (wrap64 (x4_1 + 1)), (by first | rfl | (simp; done) | (simp [*]; done)), (by first | rfl | (simp; done) | (simp [*]; done)), H', ⟨by have := HK1.out; have := HJ9.out; omega⟩, ⟨by repeat (first | (with_reducible first | exact HB.out | apply below_alloc | apply pw_below_drewN | apply below_drew1) | exact HB.out)⟩⟩
                          · rw [if_neg c25] at H
                            exact absurd H (by simp)
                      · rw [if_neg c18] at H
                        have c18b0 : decide (32 ≤ (rd l0 x4_1)) = false := decide_eq_false c18
                        clear c18
                        replace H := Option.bind_eq_some_iff.mp H
                        obtain ⟨t112, A270, H⟩ := H
                        replace H : (if x3_1.size + t112.size ≤ 9223372036854775807 then (spec_CEscape.l0 kj9 l0 (x3_1 ++ t112) (wrap64 (x4_1 + 1))) else (none)) = some r := H
                        have A27 := Aside0.mk A270
                        clear A270
                        by_cases c28 : x3_1.size + t112.size ≤ 9223372036854775807
                        · rw [if_pos c28] at H
                          have c28b0 := eq_true c28
                          have c28b1 : decide (x3_1.size + t112.size ≤ 9223372036854775807) = true := decide_eq_true c28
                          try have c28b2 : (9223372036854775807 < x3_1.size + t112.size) = False := eq_false (Nat.not_lt.2 c28)
                          have H' := Aside0.mk H
                          clear H
                          go_wp2_with (first | ((with_reducible refine gate_callee (f := 29) rfl ?_); refine goesL_ (some 18) rfl rfl Tryz.func29 (by kernel_rfl) rfl #[.int .u8 (rd l0 x4_1)] rfl (by (try simp only [List.map_toArray, List.map_cons, List.map_nil]); first | done | rfl | (simp only [List.length_drop, List.length_take]; rfl)) ?_; (with_reducible refine (spec_octalByte.calls (rd l0 x4_1) t112 _ A27.out).mono ?_); rintro e w29 ⟨rfl, hb⟩; refine ⟨_, rfl, ?_⟩; have n0_ := Aside0.mk (below_step (by repeat (first | (with_reducible first | exact HB.out | apply below_alloc | apply pw_below_drewN | apply below_drew1) | exact HB.out)) hb); clear HB; have HB := n0_; clear n0_; (try clear hb); (try clear hb2); (try clear hk); (try clear hi)))
                          go_roundg kj9
                          case measure => have := HK1.out; have := HJ9.out; omega
                          case rel => exact ⟨(x3_1 ++ t112), (wrap64 (x4_1 + 1)), (by first | rfl | (simp; done) | (simp [*]; done)), (by first | rfl | (simp; done) | (simp [*]; done)), H', ⟨by have := HK1.out; have := HJ9.out; omega⟩, ⟨by repeat (first | (with_reducible first | exact HB.out | apply below_alloc | apply pw_below_drewN | apply below_drew1) | exact HB.out)⟩⟩
                        · rw [if_neg c28] at H
                          exact absurd H (by simp)
        · rw [if_neg c3] at H
          exact absurd H (by simp)
      · rw [if_neg c2] at H
        have c2b0 : decide (x4_1 < (l0.length : Int)) = false := decide_eq_false c2
        clear c2
        obtain rfl := Option.some.inj H
        go_wp2
        go_ret
        exact ⟨by first | rfl | (simp [errW_none, errW_some] <;> rfl) | (simp [*, errW_none, errW_some] <;> rfl), by repeat (first | (with_reducible first | exact HB.out | apply below_alloc | apply pw_below_drewN | apply below_drew1) | exact HB.out)⟩

end Go.Proofs.YticfdfomlcohpaaGreatDoor.PCEscape
