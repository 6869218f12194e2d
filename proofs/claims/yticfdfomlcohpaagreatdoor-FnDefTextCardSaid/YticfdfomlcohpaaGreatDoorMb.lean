/- The walk of marshalBytes: called with a slice of bytes it returns the text that the plain function defval_marshalBytes.f tells, and true; memory that was there stays. Condition: the plain function tells an answer. (Lines of a text that the kit's print wrote, turned: the bound at an append of a constant text.) -/
import Derived.Test.YticfdfomlcohpaaGreatDoorPmarshalBytesx0
namespace Go.Proofs.YticfdfomlcohpaaGreatDoor.Mb
open Go.Proofs.YticfdfomlcohpaaGreatDoor.PmarshalBytes
open Go.RowKit Go.Proofs.YticfdfomlcohpaaGreatDoorW.PrintWords Go.Proofs.YticfdfomlcohpaaGreatDoorW.PrintLast Go.Proofs.YticfdfomlcohpaaGreatDoorW.PrintMore
attribute [local go_sem] max2_int min2_int max_two min_two max_three min_three max_four min_four   -- for this text's walks alone
set_option linter.unusedVariables false
set_option linter.unusedSimpArgs false

/-! ### defval_marshalBytes: function 41 -/
def defval_marshalBytes.l0 : Nat → List Int → List Int → Int → Int → Option (ByteArray × Bool)
  | 0, _, _, _, _ => none
  | k + 1, x4, x8, x9, x10 => if x10 < x9 then (if 0 ≤ x10 then (if x10 < (x8.length : Int) then (if (rd x8 x10) = 10 then (if x4.length + 2 < 140737488355328 then (defval_marshalBytes.l0 k (x4 ++ bytesOf (⟨#[92, 110]⟩ : ByteArray)) x8 x9 (wrap64 (x10 + 1))) else (none)) else (if (rd x8 x10) = 13 then (if x4.length + 2 < 140737488355328 then (defval_marshalBytes.l0 k (x4 ++ bytesOf (⟨#[92, 114]⟩ : ByteArray)) x8 x9 (wrap64 (x10 + 1))) else (none)) else (if (rd x8 x10) = 9 then (if x4.length + 2 < 140737488355328 then (defval_marshalBytes.l0 k (x4 ++ bytesOf (⟨#[92, 116]⟩ : ByteArray)) x8 x9 (wrap64 (x10 + 1))) else (none)) else (if (rd x8 x10) = 34 then (if x4.length + 2 < 140737488355328 then (defval_marshalBytes.l0 k (x4 ++ bytesOf (⟨#[92, 34]⟩ : ByteArray)) x8 x9 (wrap64 (x10 + 1))) else (none)) else (if (rd x8 x10) = 39 then (if x4.length + 2 < 140737488355328 then (defval_marshalBytes.l0 k (x4 ++ bytesOf (⟨#[92, 39]⟩ : ByteArray)) x8 x9 (wrap64 (x10 + 1))) else (none)) else (if (rd x8 x10) = 92 then (if x4.length + 2 < 140737488355328 then (defval_marshalBytes.l0 k (x4 ++ bytesOf (⟨#[92, 92]⟩ : ByteArray)) x8 x9 (wrap64 (x10 + 1))) else (none)) else (if (rd x8 x10) ≥ 32 then (if (rd x8 x10) ≤ 126 then (if x4.length < 140737488355328 then (defval_marshalBytes.l0 k (x4 ++ [rd x8 x10]) x8 x9 (wrap64 (x10 + 1))) else (none)) else ((some (([92, (48 + ((rd x8 x10) / 64)) % 256, (48 + (Go.bits .and .u8 ((rd x8 x10) / 8) 7)) % 256, (48 + (Go.bits .and .u8 (rd x8 x10) 7)) % 256] : List Int) : List Int)).bind fun y123 => (if x4.length + y123.length < 140737488355328 then (defval_marshalBytes.l0 k (x4 ++ y123) x8 x9 (wrap64 (x10 + 1))) else (none)))) else ((some (([92, (48 + ((rd x8 x10) / 64)) % 256, (48 + (Go.bits .and .u8 ((rd x8 x10) / 8) 7)) % 256, (48 + (Go.bits .and .u8 (rd x8 x10) 7)) % 256] : List Int) : List Int)).bind fun y129 => (if x4.length + y129.length < 140737488355328 then (defval_marshalBytes.l0 k (x4 ++ y129) x8 x9 (wrap64 (x10 + 1))) else (none)))))))))) else (none)) else (none)) else (some (strOfNums x4, true))
def defval_marshalBytes.f (k : Nat) (l0 : List Int) : Option (ByteArray × Bool) := defval_marshalBytes.l0 k ([] : List Int) l0 (l0.length : Int) 0
theorem defval_marshalBytes.mono_l : ∀ k, (∀ y0 y1 y2 y3, LeO (defval_marshalBytes.l0 k y0 y1 y2 y3) (defval_marshalBytes.l0 (k + 1) y0 y1 y2 y3))
  | 0 => fun _ _ _ _ r h => by simp [defval_marshalBytes.l0] at h
  | k + 1 => by
    have ih0 := defval_marshalBytes.mono_l k
    · intro y0 y1 y2 y3
      unfold defval_marshalBytes.l0
      repeat' first
      | (with_reducible exact ih0 _ _ _ _)
      | (with_reducible exact LeO.refl _)
      | (with_reducible exact LeO.none _)
      | (with_reducible refine LeO.ite ?_ ?_)
      | (with_reducible refine LeO.bind ?_ (fun _ => ?_))
      | exact ih0 _ _ _ _
      | exact LeO.none _
      | refine LeO.ite ?_ ?_
      | refine LeO.bind ?_ (fun _ => ?_)
theorem defval_marshalBytes.mono : ∀ a0 k, LeO (defval_marshalBytes.f k a0) (defval_marshalBytes.f (k + 1) a0) := by
  intro a0 k
  have ih0 := defval_marshalBytes.mono_l k
  unfold defval_marshalBytes.f
  repeat' first
      | (with_reducible exact ih0 _ _ _ _)
      | (with_reducible exact LeO.refl _)
      | (with_reducible exact LeO.none _)
      | (with_reducible refine LeO.ite ?_ ?_)
      | (with_reducible refine LeO.bind ?_ (fun _ => ?_))
      | exact ih0 _ _ _ _
      | exact LeO.none _
      | refine LeO.ite ?_ ?_
      | refine LeO.bind ?_ (fun _ => ?_)
set_option maxHeartbeats 8000000 in
set_option maxRecDepth 100000 in
theorem defval_marshalBytes.calls (k : Nat) (A0 : Option Addr) (c0 : Nat) (l0 : List Int) (r1 : ByteArray) (r2 : Bool) (w : World) (hr0 : Kd.C (Kd.int .u8) w A0 l0.length l0) (hc0 : l0.length ≤ c0) (h : defval_marshalBytes.f k l0 = some (r1, r2)) :
    Calls Tryz.prog 41 #[.slice A0 l0.length c0] w fun e w' => e = .returned (.tuple #[.string r1, .bool r2]) ∧ Below w.heap.size w w' := by
  have HR0 := Aside0.mk hr0
  have HC0 := Aside0.mk hc0
  clear hr0 hc0
  have HB := Aside0.mk (Below.refl w.heap.size w)
  have H : (defval_marshalBytes.l0 k ([] : List Int) l0 (l0.length : Int) 0) = some (r1, r2) := h
  clear h
  have H' := Aside0.mk H
  clear H
  go_enter Tryz.func41, Tryz.ntmps41
  go_wp2
  go_loopg [4, 10] k (fun kq v4 v10 w' => ∃ (x4_1 : List Int) (x10_1 : Int), v10 = .int .i64 x10_1 ∧ Aside0 (defval_marshalBytes.l0 kq x4_1 l0 (l0.length : Int) x10_1 = some (r1, r2)) ∧ Aside0 (kq ≤ k) ∧ Aside0 (Kd.R (Kd.int .u8) 5 w' w.heap.size (fun _ => True) v4 x4_1) ∧ Aside0 (Below w.heap.size w w'))
  case atStart => exact ⟨(([] : List Int)), (0), (by first | rfl | (simp; done) | (simp [*]; done)), H', ⟨Nat.le_refl _⟩, ⟨by first | exact Kd.R_nil _ _ _ _ _ | exact Kd.N_nil _ _ _ _ _ | exact Kd.V_nil _ _ _ _ _ | exact Kd.Q_nil _ _ _ _ _ | exact Kd.S_nil _ _ _ _ _⟩, ⟨by repeat (first | (with_reducible first | exact HB.out | apply below_alloc | apply pw_below_drewN | apply below_drew1) | exact HB.out)⟩⟩
  case round =>
    clear H'
    obtain ⟨x4_1, x10_1, rfl, HA, HK1, HO_4, HB⟩ := hrel
    cases gk with
    | zero => exact absurd HA.out (by simp [defval_marshalBytes.l0])
    | succ k1 =>
      have H := HA.out
      clear HA
      simp only [defval_marshalBytes.l0] at H
      by_cases c2 : x10_1 < (l0.length : Int)
      · rw [if_pos c2] at H
        have c2b0 : decide (x10_1 < (l0.length : Int)) = true := decide_eq_true c2
        clear c2
        by_cases c3 : 0 ≤ x10_1
        · rw [if_pos c3] at H
          have c3b0 : decide (0 ≤ x10_1) = true := decide_eq_true c3
          clear c3
          by_cases c4 : x10_1 < (l0.length : Int)
          · rw [if_pos c4] at H
            have c4b0 : decide (x10_1 < (l0.length : Int)) = true := decide_eq_true c4
            clear c4
            by_cases c5 : (rd l0 x10_1) = 10
            · rw [if_pos c5] at H
              have c5b0 : ((rd l0 x10_1) == 10) = true := beq_iff_eq.mpr c5
              have c5b1 : ((rd l0 x10_1) != 10) = false := bne_eq_false_iff_eq.mpr c5
              clear c5
              by_cases c6 : x4_1.length + 2 < 140737488355328
              · rw [if_pos c6] at H
                have LMc6 := Aside0.mk c6
                clear c6
                obtain ⟨y102, hy102⟩ : ∃ y_ : List Int, y_ = (x4_1 ++ bytesOf (⟨#[92, 110]⟩ : ByteArray)) := ⟨_, rfl⟩
                replace H : (defval_marshalBytes.l0 k1 y102 l0 (l0.length : Int) (wrap64 (x10_1 + 1))) = some (r1, r2) := by first | (rw [hy102]; with_reducible exact H) | (have H2_ := (Option.bind_some _ _).symm.trans H; rw [hy102]; with_reducible exact H2_) | (have H2_ := (Option.bind_some _ _).symm.trans H; with_reducible exact H2_) | with_reducible exact H | (rw [hy102]; exact H) | exact H
                have Ny102 := Aside0.mk hy102
                clear hy102
                have H' := Aside0.mk H
                clear H
                have p101 : 0 ≤ (x10_1 : Int) := of_decide_eq_true (by first | (with_reducible assumption) | assumption)
                have q101 : x10_1 < (l0.length : Int) := of_decide_eq_true (by first | (with_reducible assumption) | assumption)
                obtain ⟨ad101, e101, hx101_0⟩ := Kd.at_int HR0.out x10_1 p101 q101
                cases e101
                replace hx101_0 := (HB.out.cell (World.block_lt_of_cell? w _ hx101_0)).trans hx101_0
                replace p101 := eq_true p101
                replace q101 := eq_true q101
                go_wp2_with (first | (at_builtin; refine print_append_str (w0 := w) w.heap.size rfl (.tmp 41) _ 34 9 5 rfl Tryz.underlying34 Tryz.underlying9 info5 u4 x4_1 (⟨#[92, 110]⟩ : ByteArray) rfl rfl ?aO ?aB ?aS ?aL ?_; (case aB => exact (by repeat (first | (with_reducible first | exact HB.out | apply below_alloc | apply pw_below_drewN | apply below_drew1) | exact HB.out))); (case aO => exact (Kd.own_of_R (by (with_reducible repeat (first | apply Kd.R_alloc | apply Kd.R_drewN | apply Kd.R_drew)); exact HO_4.out))); (case aS => exact (below_size (by repeat (first | (with_reducible first | exact HB.out | apply below_alloc | apply pw_below_drewN | apply below_drew1) | exact HB.out)))); (case aL => have := LMc6.out; first | exact Nat.le_of_lt this | omega); intro v103 w7 ho0 hb hg; have ho := Kd.R_of_own (h1 := fun _ => rfl) (ok := fun _ => True) ho0 (fun _ _ => trivial); clear ho0; have hat := True.intro; rw [← Ny102.out] at ho; change Kd.R (Kd.int .u8) 5 w7 w.heap.size (fun _ => True) v103 y102 at ho; have n0_ := Aside0.mk (hb); have n1_ := Aside0.mk (ho); clear HB; clear HO_4; have HB := n0_; have HO104 := n1_; clear n0_ n1_; clear ho hb hg hat))
                go_roundg k1
                case measure => have := HK1.out; omega
                case rel => exact ⟨(y102), (wrap64 (x10_1 + 1)), (by first | rfl | (simp; done) | (simp [*]; done)), H', ⟨by have := HK1.out; omega⟩, ⟨by (with_reducible repeat (first | apply Kd.R_alloc | apply Kd.R_drewN | apply Kd.R_drew)); exact HO104.out⟩, ⟨by repeat (first | (with_reducible first | exact HB.out | apply below_alloc | apply pw_below_drewN | apply below_drew1) | exact HB.out)⟩⟩
              · rw [if_neg c6] at H
                exact absurd H (by simp)
            · rw [if_neg c5] at H
              have c5b0 : ((rd l0 x10_1) == 10) = false := beq_eq_false_iff_ne.mpr c5
              have c5b1 : ((rd l0 x10_1) != 10) = true := bne_iff_ne.mpr c5
              by_cases c8 : (rd l0 x10_1) = 13
              · rw [if_pos c8] at H
                have c8b0 : ((rd l0 x10_1) == 13) = true := beq_iff_eq.mpr c8
                have c8b1 : ((rd l0 x10_1) != 13) = false := bne_eq_false_iff_eq.mpr c8
                clear c8
                by_cases c9 : x4_1.length + 2 < 140737488355328
                · rw [if_pos c9] at H
                  have LMc9 := Aside0.mk c9
                  clear c9
                  obtain ⟨y105, hy105⟩ : ∃ y_ : List Int, y_ = (x4_1 ++ bytesOf (⟨#[92, 114]⟩ : ByteArray)) := ⟨_, rfl⟩
                  replace H : (defval_marshalBytes.l0 k1 y105 l0 (l0.length : Int) (wrap64 (x10_1 + 1))) = some (r1, r2) := by first | (rw [hy105]; with_reducible exact H) | (have H2_ := (Option.bind_some _ _).symm.trans H; rw [hy105]; with_reducible exact H2_) | (have H2_ := (Option.bind_some _ _).symm.trans H; with_reducible exact H2_) | with_reducible exact H | (rw [hy105]; exact H) | exact H
                  have Ny105 := Aside0.mk hy105
                  clear hy105
                  have H' := Aside0.mk H
                  clear H
                  have p101 : 0 ≤ (x10_1 : Int) := of_decide_eq_true (by first | (with_reducible assumption) | assumption)
                  have q101 : x10_1 < (l0.length : Int) := of_decide_eq_true (by first | (with_reducible assumption) | assumption)
                  obtain ⟨ad101, e101, hx101_0⟩ := Kd.at_int HR0.out x10_1 p101 q101
                  cases e101
                  replace hx101_0 := (HB.out.cell (World.block_lt_of_cell? w _ hx101_0)).trans hx101_0
                  replace p101 := eq_true p101
                  replace q101 := eq_true q101
                  go_wp2_with (first | (at_builtin; refine print_append_str (w0 := w) w.heap.size rfl (.tmp 45) _ 34 9 5 rfl Tryz.underlying34 Tryz.underlying9 info5 u4 x4_1 (⟨#[92, 114]⟩ : ByteArray) rfl rfl ?aO ?aB ?aS ?aL ?_; (case aB => exact (by repeat (first | (with_reducible first | exact HB.out | apply below_alloc | apply pw_below_drewN | apply below_drew1) | exact HB.out))); (case aO => exact (Kd.own_of_R (by (with_reducible repeat (first | apply Kd.R_alloc | apply Kd.R_drewN | apply Kd.R_drew)); exact HO_4.out))); (case aS => exact (below_size (by repeat (first | (with_reducible first | exact HB.out | apply below_alloc | apply pw_below_drewN | apply below_drew1) | exact HB.out)))); (case aL => have := LMc9.out; first | exact Nat.le_of_lt this | omega); intro v106 w10 ho0 hb hg; have ho := Kd.R_of_own (h1 := fun _ => rfl) (ok := fun _ => True) ho0 (fun _ _ => trivial); clear ho0; have hat := True.intro; rw [← Ny105.out] at ho; change Kd.R (Kd.int .u8) 5 w10 w.heap.size (fun _ => True) v106 y105 at ho; have n0_ := Aside0.mk (hb); have n1_ := Aside0.mk (ho); clear HB; clear HO_4; have HB := n0_; have HO107 := n1_; clear n0_ n1_; clear ho hb hg hat))
                  go_roundg k1
                  case measure => have := HK1.out; omega
                  case rel => exact ⟨(y105), (wrap64 (x10_1 + 1)), (by first | rfl | (simp; done) | (simp [*]; done)), H', ⟨by have := HK1.out; omega⟩, ⟨by (with_reducible repeat (first | apply Kd.R_alloc | apply Kd.R_drewN | apply Kd.R_drew)); exact HO107.out⟩, ⟨by repeat (first | (with_reducible first | exact HB.out | apply below_alloc | apply pw_below_drewN | apply below_drew1) | exact HB.out)⟩⟩
                · rw [if_neg c9] at H
                  exact absurd H (by simp)
              · rw [if_neg c8] at H
                have c8b0 : ((rd l0 x10_1) == 13) = false := beq_eq_false_iff_ne.mpr c8
                have c8b1 : ((rd l0 x10_1) != 13) = true := bne_iff_ne.mpr c8
                by_cases c11 : (rd l0 x10_1) = 9
                · rw [if_pos c11] at H
                  have c11b0 : ((rd l0 x10_1) == 9) = true := beq_iff_eq.mpr c11
                  have c11b1 : ((rd l0 x10_1) != 9) = false := bne_eq_false_iff_eq.mpr c11
                  clear c11
                  by_cases c12 : x4_1.length + 2 < 140737488355328
                  · rw [if_pos c12] at H
                    have LMc12 := Aside0.mk c12
                    clear c12
                    obtain ⟨y108, hy108⟩ : ∃ y_ : List Int, y_ = (x4_1 ++ bytesOf (⟨#[92, 116]⟩ : ByteArray)) := ⟨_, rfl⟩
                    replace H : (defval_marshalBytes.l0 k1 y108 l0 (l0.length : Int) (wrap64 (x10_1 + 1))) = some (r1, r2) := by first | (rw [hy108]; with_reducible exact H) | (have H2_ := (Option.bind_some _ _).symm.trans H; rw [hy108]; with_reducible exact H2_) | (have H2_ := (Option.bind_some _ _).symm.trans H; with_reducible exact H2_) | with_reducible exact H | (rw [hy108]; exact H) | exact H
                    have Ny108 := Aside0.mk hy108
                    clear hy108
                    have H' := Aside0.mk H
                    clear H
                    have p101 : 0 ≤ (x10_1 : Int) := of_decide_eq_true (by first | (with_reducible assumption) | assumption)
                    have q101 : x10_1 < (l0.length : Int) := of_decide_eq_true (by first | (with_reducible assumption) | assumption)
                    obtain ⟨ad101, e101, hx101_0⟩ := Kd.at_int HR0.out x10_1 p101 q101
                    cases e101
                    replace hx101_0 := (HB.out.cell (World.block_lt_of_cell? w _ hx101_0)).trans hx101_0
                    replace p101 := eq_true p101
                    replace q101 := eq_true q101
                    go_wp2_with (first | (at_builtin; refine print_append_str (w0 := w) w.heap.size rfl (.tmp 49) _ 34 9 5 rfl Tryz.underlying34 Tryz.underlying9 info5 u4 x4_1 (⟨#[92, 116]⟩ : ByteArray) rfl rfl ?aO ?aB ?aS ?aL ?_; (case aB => exact (by repeat (first | (with_reducible first | exact HB.out | apply below_alloc | apply pw_below_drewN | apply below_drew1) | exact HB.out))); (case aO => exact (Kd.own_of_R (by (with_reducible repeat (first | apply Kd.R_alloc | apply Kd.R_drewN | apply Kd.R_drew)); exact HO_4.out))); (case aS => exact (below_size (by repeat (first | (with_reducible first | exact HB.out | apply below_alloc | apply pw_below_drewN | apply below_drew1) | exact HB.out)))); (case aL => have := LMc12.out; first | exact Nat.le_of_lt this | omega); intro v109 w13 ho0 hb hg; have ho := Kd.R_of_own (h1 := fun _ => rfl) (ok := fun _ => True) ho0 (fun _ _ => trivial); clear ho0; have hat := True.intro; rw [← Ny108.out] at ho; change Kd.R (Kd.int .u8) 5 w13 w.heap.size (fun _ => True) v109 y108 at ho; have n0_ := Aside0.mk (hb); have n1_ := Aside0.mk (ho); clear HB; clear HO_4; have HB := n0_; have HO110 := n1_; clear n0_ n1_; clear ho hb hg hat))
                    go_roundg k1
                    case measure => have := HK1.out; omega
                    case rel => exact ⟨(y108), (wrap64 (x10_1 + 1)), (by first | rfl | (simp; done) | (simp [*]; done)), H', ⟨by have := HK1.out; omega⟩, ⟨by (with_reducible repeat (first | apply Kd.R_alloc | apply Kd.R_drewN | apply Kd.R_drew)); exact HO110.out⟩, ⟨by repeat (first | (with_reducible first | exact HB.out | apply below_alloc | apply pw_below_drewN | apply below_drew1) | exact HB.out)⟩⟩
                  · rw [if_neg c12] at H
                    exact absurd H (by simp)
                · rw [if_neg c11] at H
                  have c11b0 : ((rd l0 x10_1) == 9) = false := beq_eq_false_iff_ne.mpr c11
                  have c11b1 : ((rd l0 x10_1) != 9) = true := bne_iff_ne.mpr c11
                  by_cases c14 : (rd l0 x10_1) = 34
                  · rw [if_pos c14] at H
                    have c14b0 : ((rd l0 x10_1) == 34) = true := beq_iff_eq.mpr c14
                    have c14b1 : ((rd l0 x10_1) != 34) = false := bne_eq_false_iff_eq.mpr c14
                    clear c14
                    by_cases c15 : x4_1.length + 2 < 140737488355328
                    · rw [if_pos c15] at H
                      have LMc15 := Aside0.mk c15
                      clear c15
                      obtain ⟨y111, hy111⟩ : ∃ y_ : List Int, y_ = (x4_1 ++ bytesOf (⟨#[92, 34]⟩ : ByteArray)) := ⟨_, rfl⟩
                      replace H : (defval_marshalBytes.l0 k1 y111 l0 (l0.length : Int) (wrap64 (x10_1 + 1))) = some (r1, r2) := by first | (rw [hy111]; with_reducible exact H) | (have H2_ := (Option.bind_some _ _).symm.trans H; rw [hy111]; with_reducible exact H2_) | (have H2_ := (Option.bind_some _ _).symm.trans H; with_reducible exact H2_) | with_reducible exact H | (rw [hy111]; exact H) | exact H
                      have Ny111 := Aside0.mk hy111
                      clear hy111
                      have H' := Aside0.mk H
                      clear H
                      have p101 : 0 ≤ (x10_1 : Int) := of_decide_eq_true (by first | (with_reducible assumption) | assumption)
                      have q101 : x10_1 < (l0.length : Int) := of_decide_eq_true (by first | (with_reducible assumption) | assumption)
                      obtain ⟨ad101, e101, hx101_0⟩ := Kd.at_int HR0.out x10_1 p101 q101
                      cases e101
                      replace hx101_0 := (HB.out.cell (World.block_lt_of_cell? w _ hx101_0)).trans hx101_0
                      replace p101 := eq_true p101
                      replace q101 := eq_true q101
                      go_wp2_with (first | (at_builtin; refine print_append_str (w0 := w) w.heap.size rfl (.tmp 53) _ 34 9 5 rfl Tryz.underlying34 Tryz.underlying9 info5 u4 x4_1 (⟨#[92, 34]⟩ : ByteArray) rfl rfl ?aO ?aB ?aS ?aL ?_; (case aB => exact (by repeat (first | (with_reducible first | exact HB.out | apply below_alloc | apply pw_below_drewN | apply below_drew1) | exact HB.out))); (case aO => exact (Kd.own_of_R (by (with_reducible repeat (first | apply Kd.R_alloc | apply Kd.R_drewN | apply Kd.R_drew)); exact HO_4.out))); (case aS => exact (below_size (by repeat (first | (with_reducible first | exact HB.out | apply below_alloc | apply pw_below_drewN | apply below_drew1) | exact HB.out)))); (case aL => have := LMc15.out; first | exact Nat.le_of_lt this | omega); intro v112 w16 ho0 hb hg; have ho := Kd.R_of_own (h1 := fun _ => rfl) (ok := fun _ => True) ho0 (fun _ _ => trivial); clear ho0; have hat := True.intro; rw [← Ny111.out] at ho; change Kd.R (Kd.int .u8) 5 w16 w.heap.size (fun _ => True) v112 y111 at ho; have n0_ := Aside0.mk (hb); have n1_ := Aside0.mk (ho); clear HB; clear HO_4; have HB := n0_; have HO113 := n1_; clear n0_ n1_; clear ho hb hg hat))
                      go_roundg k1
                      case measure => have := HK1.out; omega
                      case rel => exact ⟨(y111), (wrap64 (x10_1 + 1)), (by first | rfl | (simp; done) | (simp [*]; done)), H', ⟨by have := HK1.out; omega⟩, ⟨by (with_reducible repeat (first | apply Kd.R_alloc | apply Kd.R_drewN | apply Kd.R_drew)); exact HO113.out⟩, ⟨by repeat (first | (with_reducible first | exact HB.out | apply below_alloc | apply pw_below_drewN | apply below_drew1) | exact HB.out)⟩⟩
                    · rw [if_neg c15] at H
                      exact absurd H (by simp)
                  · rw [if_neg c14] at H
                    have c14b0 : ((rd l0 x10_1) == 34) = false := beq_eq_false_iff_ne.mpr c14
                    have c14b1 : ((rd l0 x10_1) != 34) = true := bne_iff_ne.mpr c14
                    by_cases c17 : (rd l0 x10_1) = 39
                    · rw [if_pos c17] at H
                      have c17b0 : ((rd l0 x10_1) == 39) = true := beq_iff_eq.mpr c17
                      have c17b1 : ((rd l0 x10_1) != 39) = false := bne_eq_false_iff_eq.mpr c17
                      clear c17
                      by_cases c18 : x4_1.length + 2 < 140737488355328
                      · rw [if_pos c18] at H
                        have LMc18 := Aside0.mk c18
                        clear c18
                        obtain ⟨y114, hy114⟩ : ∃ y_ : List Int, y_ = (x4_1 ++ bytesOf (⟨#[92, 39]⟩ : ByteArray)) := ⟨_, rfl⟩
                        replace H : (defval_marshalBytes.l0 k1 y114 l0 (l0.length : Int) (wrap64 (x10_1 + 1))) = some (r1, r2) := by first | (rw [hy114]; with_reducible exact H) | (have H2_ := (Option.bind_some _ _).symm.trans H; rw [hy114]; with_reducible exact H2_) | (have H2_ := (Option.bind_some _ _).symm.trans H; with_reducible exact H2_) | with_reducible exact H | (rw [hy114]; exact H) | exact H
                        have Ny114 := Aside0.mk hy114
                        clear hy114
                        have H' := Aside0.mk H
                        clear H
                        have p101 : 0 ≤ (x10_1 : Int) := of_decide_eq_true (by first | (with_reducible assumption) | assumption)
                        have q101 : x10_1 < (l0.length : Int) := of_decide_eq_true (by first | (with_reducible assumption) | assumption)
                        obtain ⟨ad101, e101, hx101_0⟩ := Kd.at_int HR0.out x10_1 p101 q101
                        cases e101
                        replace hx101_0 := (HB.out.cell (World.block_lt_of_cell? w _ hx101_0)).trans hx101_0
                        replace p101 := eq_true p101
                        replace q101 := eq_true q101
                        go_wp2_with (first | (at_builtin; refine print_append_str (w0 := w) w.heap.size rfl (.tmp 57) _ 34 9 5 rfl Tryz.underlying34 Tryz.underlying9 info5 u4 x4_1 (⟨#[92, 39]⟩ : ByteArray) rfl rfl ?aO ?aB ?aS ?aL ?_; (case aB => exact (by repeat (first | (with_reducible first | exact HB.out | apply below_alloc | apply pw_below_drewN | apply below_drew1) | exact HB.out))); (case aO => exact (Kd.own_of_R (by (with_reducible repeat (first | apply Kd.R_alloc | apply Kd.R_drewN | apply Kd.R_drew)); exact HO_4.out))); (case aS => exact (below_size (by repeat (first | (with_reducible first | exact HB.out | apply below_alloc | apply pw_below_drewN | apply below_drew1) | exact HB.out)))); (case aL => have := LMc18.out; first | exact Nat.le_of_lt this | omega); intro v115 w19 ho0 hb hg; have ho := Kd.R_of_own (h1 := fun _ => rfl) (ok := fun _ => True) ho0 (fun _ _ => trivial); clear ho0; have hat := True.intro; rw [← Ny114.out] at ho; change Kd.R (Kd.int .u8) 5 w19 w.heap.size (fun _ => True) v115 y114 at ho; have n0_ := Aside0.mk (hb); have n1_ := Aside0.mk (ho); clear HB; clear HO_4; have HB := n0_; have HO116 := n1_; clear n0_ n1_; clear ho hb hg hat))
                        go_roundg k1
                        case measure => have := HK1.out; omega
                        case rel => exact ⟨(y114), (wrap64 (x10_1 + 1)), (by first | rfl | (simp; done) | (simp [*]; done)), H', ⟨by have := HK1.out; omega⟩, ⟨by (with_reducible repeat (first | apply Kd.R_alloc | apply Kd.R_drewN | apply Kd.R_drew)); exact HO116.out⟩, ⟨by repeat (first | (with_reducible first | exact HB.out | apply below_alloc | apply pw_below_drewN | apply below_drew1) | exact HB.out)⟩⟩
                      · rw [if_neg c18] at H
                        exact absurd H (by simp)
                    · rw [if_neg c17] at H
                      have c17b0 : ((rd l0 x10_1) == 39) = false := beq_eq_false_iff_ne.mpr c17
                      have c17b1 : ((rd l0 x10_1) != 39) = true := bne_iff_ne.mpr c17
                      by_cases c20 : (rd l0 x10_1) = 92
                      · rw [if_pos c20] at H
                        have c20b0 : ((rd l0 x10_1) == 92) = true := beq_iff_eq.mpr c20
                        have c20b1 : ((rd l0 x10_1) != 92) = false := bne_eq_false_iff_eq.mpr c20
                        clear c20
                        by_cases c21 : x4_1.length + 2 < 140737488355328
                        · rw [if_pos c21] at H
                          have LMc21 := Aside0.mk c21
                          clear c21
                          obtain ⟨y117, hy117⟩ : ∃ y_ : List Int, y_ = (x4_1 ++ bytesOf (⟨#[92, 92]⟩ : ByteArray)) := ⟨_, rfl⟩
                          replace H : (defval_marshalBytes.l0 k1 y117 l0 (l0.length : Int) (wrap64 (x10_1 + 1))) = some (r1, r2) := by first | (rw [hy117]; with_reducible exact H) | (have H2_ := (Option.bind_some _ _).symm.trans H; rw [hy117]; with_reducible exact H2_) | (have H2_ := (Option.bind_some _ _).symm.trans H; with_reducible exact H2_) | with_reducible exact H | (rw [hy117]; exact H) | exact H
                          have Ny117 := Aside0.mk hy117
                          clear hy117
                          have H' := Aside0.mk H
                          clear H
                          have p101 : 0 ≤ (x10_1 : Int) := of_decide_eq_true (by first | (with_reducible assumption) | assumption)
                          have q101 : x10_1 < (l0.length : Int) := of_decide_eq_true (by first | (with_reducible assumption) | assumption)
                          obtain ⟨ad101, e101, hx101_0⟩ := Kd.at_int HR0.out x10_1 p101 q101
                          cases e101
                          replace hx101_0 := (HB.out.cell (World.block_lt_of_cell? w _ hx101_0)).trans hx101_0
                          replace p101 := eq_true p101
                          replace q101 := eq_true q101
                          go_wp2_with (first | (at_builtin; refine print_append_str (w0 := w) w.heap.size rfl (.tmp 61) _ 34 9 5 rfl Tryz.underlying34 Tryz.underlying9 info5 u4 x4_1 (⟨#[92, 92]⟩ : ByteArray) rfl rfl ?aO ?aB ?aS ?aL ?_; (case aB => exact (by repeat (first | (with_reducible first | exact HB.out | apply below_alloc | apply pw_below_drewN | apply below_drew1) | exact HB.out))); (case aO => exact (Kd.own_of_R (by (with_reducible repeat (first | apply Kd.R_alloc | apply Kd.R_drewN | apply Kd.R_drew)); exact HO_4.out))); (case aS => exact (below_size (by repeat (first | (with_reducible first | exact HB.out | apply below_alloc | apply pw_below_drewN | apply below_drew1) | exact HB.out)))); (case aL => have := LMc21.out; first | exact Nat.le_of_lt this | omega); intro v118 w22 ho0 hb hg; have ho := Kd.R_of_own (h1 := fun _ => rfl) (ok := fun _ => True) ho0 (fun _ _ => trivial); clear ho0; have hat := True.intro; rw [← Ny117.out] at ho; change Kd.R (Kd.int .u8) 5 w22 w.heap.size (fun _ => True) v118 y117 at ho; have n0_ := Aside0.mk (hb); have n1_ := Aside0.mk (ho); clear HB; clear HO_4; have HB := n0_; have HO119 := n1_; clear n0_ n1_; clear ho hb hg hat))
                          go_roundg k1
                          case measure => have := HK1.out; omega
                          case rel => exact ⟨(y117), (wrap64 (x10_1 + 1)), (by first | rfl | (simp; done) | (simp [*]; done)), H', ⟨by have := HK1.out; omega⟩, ⟨by (with_reducible repeat (first | apply Kd.R_alloc | apply Kd.R_drewN | apply Kd.R_drew)); exact HO119.out⟩, ⟨by repeat (first | (with_reducible first | exact HB.out | apply below_alloc | apply pw_below_drewN | apply below_drew1) | exact HB.out)⟩⟩
                        · rw [if_neg c21] at H
                          exact absurd H (by simp)
                      · rw [if_neg c20] at H
                        have c20b0 : ((rd l0 x10_1) == 92) = false := beq_eq_false_iff_ne.mpr c20
                        have c20b1 : ((rd l0 x10_1) != 92) = true := bne_iff_ne.mpr c20
                        by_cases c23 : (rd l0 x10_1) ≥ 32
                        · rw [if_pos c23] at H
                          have c23b0 : decide (32 ≤ (rd l0 x10_1)) = true := decide_eq_true c23
                          clear c23
                          by_cases c24 : (rd l0 x10_1) ≤ 126
                          · rw [if_pos c24] at H
                            have c24b0 : decide ((rd l0 x10_1) ≤ 126) = true := decide_eq_true c24
                            clear c24
                            by_cases c25 : x4_1.length < 140737488355328
                            · rw [if_pos c25] at H
                              have LMc25 := Aside0.mk c25
                              clear c25
                              obtain ⟨y120, hy120⟩ : ∃ y_ : List Int, y_ = (x4_1 ++ [rd l0 x10_1]) := ⟨_, rfl⟩
                              replace H : (defval_marshalBytes.l0 k1 y120 l0 (l0.length : Int) (wrap64 (x10_1 + 1))) = some (r1, r2) := by first | (rw [hy120]; with_reducible exact H) | (have H2_ := (Option.bind_some _ _).symm.trans H; rw [hy120]; with_reducible exact H2_) | (have H2_ := (Option.bind_some _ _).symm.trans H; with_reducible exact H2_) | with_reducible exact H | (rw [hy120]; exact H) | exact H
                              have Ny120 := Aside0.mk hy120
                              clear hy120
                              have H' := Aside0.mk H
                              clear H
                              have p101 : 0 ≤ (x10_1 : Int) := of_decide_eq_true (by first | (with_reducible assumption) | assumption)
                              have q101 : x10_1 < (l0.length : Int) := of_decide_eq_true (by first | (with_reducible assumption) | assumption)
                              obtain ⟨ad101, e101, hx101_0⟩ := Kd.at_int HR0.out x10_1 p101 q101
                              cases e101
                              replace hx101_0 := (HB.out.cell (World.block_lt_of_cell? w _ hx101_0)).trans hx101_0
                              replace p101 := eq_true p101
                              replace q101 := eq_true q101
                              go_wp2_with (first | ((with_reducible refine gate_builtin (b := .append) (xs := #[.tmp 22, .tmp 24]) rfl ?_); at_builtin; refine Kd.R_append (Kd.int .u8) (w0 := w) w.heap.size rfl (.tmp 22) (.tmp 24) 34 5 (.int .u8 0) 1 rfl Tryz.underlying34 info5 rfl (by decide) (by omega) u4 x4_1 (rd l0 x10_1) [.int .u8 (rd l0 x10_1)] (fun _ => True) (fun _ => False) rfl rfl ?aP (fun _ hk => hk.elim) ?aF ?aO ?aB ?aS ?aL ?_; (case aP => exact rfl); (case aB => exact (by repeat (first | (with_reducible first | exact HB.out | apply below_alloc | apply pw_below_drewN | apply below_drew1) | exact HB.out))); (case aF => exact (fun _ _ => trivial)); (case aO => exact (by (with_reducible repeat (first | apply Kd.R_alloc | apply Kd.R_drewN | apply Kd.R_drew)); exact HO_4.out)); (case aS => exact (below_size (by repeat (first | (with_reducible first | exact HB.out | apply below_alloc | apply pw_below_drewN | apply below_drew1) | exact HB.out)))); (case aL => have := LMc25.out; first | exact Nat.le_of_lt this | omega); intro v121 w26 ho hb hg hat; rw [← Ny120.out] at ho; have n0_ := Aside0.mk (hb); have n1_ := Aside0.mk (ho); clear HB; clear HO_4; have HB := n0_; have HO122 := n1_; clear n0_ n1_; clear ho hb hg hat))
                              go_roundg k1
                              case measure => have := HK1.out; omega
                              case rel => exact ⟨(y120), (wrap64 (x10_1 + 1)), (by first | rfl | (simp; done) | (simp [*]; done)), H', ⟨by have := HK1.out; omega⟩, ⟨by (with_reducible repeat (first | apply Kd.R_alloc | apply Kd.R_drewN | apply Kd.R_drew)); exact HO122.out⟩, ⟨by repeat (first | (with_reducible first | exact HB.out | apply below_alloc | apply pw_below_drewN | apply below_drew1) | exact HB.out)⟩⟩
                            · rw [if_neg c25] at H
                              exact absurd H (by simp)
                          · rw [if_neg c24] at H
                            have c24b0 : decide ((rd l0 x10_1) ≤ 126) = false := decide_eq_false c24
                            clear c24
                            obtain ⟨y123, hy123⟩ : ∃ y_ : List Int, y_ = (([92, (48 + ((rd l0 x10_1) / 64)) % 256, (48 + (Go.bits .and .u8 ((rd l0 x10_1) / 8) 7)) % 256, (48 + (Go.bits .and .u8 (rd l0 x10_1) 7)) % 256] : List Int)) := ⟨_, rfl⟩
                            replace H : (if x4_1.length + y123.length < 140737488355328 then (defval_marshalBytes.l0 k1 (x4_1 ++ y123) l0 (l0.length : Int) (wrap64 (x10_1 + 1))) else (none)) = some (r1, r2) := by first | (rw [hy123]; with_reducible exact H) | (have H2_ := (Option.bind_some _ _).symm.trans H; rw [hy123]; with_reducible exact H2_) | (have H2_ := (Option.bind_some _ _).symm.trans H; with_reducible exact H2_) | with_reducible exact H | (rw [hy123]; exact H) | exact H
                            have Ny123 := Aside0.mk hy123
                            clear hy123
                            by_cases c27 : x4_1.length + y123.length < 140737488355328
                            · rw [if_pos c27] at H
                              have LMc27 := Aside0.mk c27
                              clear c27
                              obtain ⟨y126, hy126⟩ : ∃ y_ : List Int, y_ = (x4_1 ++ y123) := ⟨_, rfl⟩
                              replace H : (defval_marshalBytes.l0 k1 y126 l0 (l0.length : Int) (wrap64 (x10_1 + 1))) = some (r1, r2) := by first | (rw [hy126]; with_reducible exact H) | (have H2_ := (Option.bind_some _ _).symm.trans H; rw [hy126]; with_reducible exact H2_) | (have H2_ := (Option.bind_some _ _).symm.trans H; with_reducible exact H2_) | with_reducible exact H | (rw [hy126]; exact H) | exact H
                              have Ny126 := Aside0.mk hy126
                              clear hy126
                              have H' := Aside0.mk H
                              clear H
                              have p101 : 0 ≤ (x10_1 : Int) := of_decide_eq_true (by first | (with_reducible assumption) | assumption)
                              have q101 : x10_1 < (l0.length : Int) := of_decide_eq_true (by first | (with_reducible assumption) | assumption)
                              obtain ⟨ad101, e101, hx101_0⟩ := Kd.at_int HR0.out x10_1 p101 q101
                              cases e101
                              replace hx101_0 := (HB.out.cell (World.block_lt_of_cell? w _ hx101_0)).trans hx101_0
                              replace p101 := eq_true p101
                              replace q101 := eq_true q101
                              go_wp2_with (first | ((with_reducible refine gate_dst (N := 37) rfl ?_); refine Kd.R_lit (Kd.int .u8) _ 5 ?hg (N := 37) ?hd (xs := ([92, (48 + ((rd l0 x10_1) / 64)) % 256, (48 + (Go.bits .and .u8 ((rd l0 x10_1) / 8) 7)) % 256, (48 + (Go.bits .and .u8 (rd l0 x10_1) 7)) % 256] : List Int)) (inner := [.int .u8 92, .int .u8 ((48 + ((rd l0 x10_1) / 64)) % 256), .int .u8 ((48 + (Go.bits .and .u8 ((rd l0 x10_1) / 8) 7)) % 256), .int .u8 ((48 + (Go.bits .and .u8 (rd l0 x10_1) 7)) % 256)]) (ok := fun _ => True) (okp := fun _ => True) ?hr ?hp (fun _ hk => hk) trivial (Below.refl _ _) (Nat.le_refl _) (by simp) ?_; (case hd => rfl); (case hg => rfl); (case hr => first | (go_simp; done) | (go_simp; rfl)); (case hp => exact (Reps.one (show Kd.M (Kd.int .u8) _ _ _ 92 [.int .u8 92] from rfl) (Reps.one (show Kd.M (Kd.int .u8) _ _ _ ((48 + ((rd l0 x10_1) / 64)) % 256) [.int .u8 ((48 + ((rd l0 x10_1) / 64)) % 256)] from rfl) (Reps.one (show Kd.M (Kd.int .u8) _ _ _ ((48 + (Go.bits .and .u8 ((rd l0 x10_1) / 8) 7)) % 256) [.int .u8 ((48 + (Go.bits .and .u8 ((rd l0 x10_1) / 8) 7)) % 256)] from rfl) (Reps.one (show Kd.M (Kd.int .u8) _ _ _ ((48 + (Go.bits .and .u8 (rd l0 x10_1) 7)) % 256) [.int .u8 ((48 + (Go.bits .and .u8 (rd l0 x10_1) 7)) % 256)] from rfl) (Reps.none _ _)))))); intro v124 w28 ho29 hb hg_ hnew_; clear hg_ hnew_; (first | rw [← Ny123.out] at ho29 | (simp only [Int.reduceToNat] at ho29; rw [← Ny123.out] at ho29)); have n0_ := Aside0.mk (Kd.R_elder' (by (with_reducible repeat (first | apply Kd.R_alloc | apply Kd.R_drewN | apply Kd.R_drew)); exact HO_4.out) (Kd.R_base ho29) hb); have n1_ := Aside0.mk (Kd.R_lower (Kd.R_new' ho29 (Kd.R_lt (by (with_reducible repeat (first | apply Kd.R_alloc | apply Kd.R_drewN | apply Kd.R_drew)); exact HO_4.out))) (below_size (by repeat (first | (with_reducible first | exact HB.out | apply below_alloc | apply pw_below_drewN | apply below_drew1) | exact HB.out)))); have n2_ := Aside0.mk (below_step (by repeat (first | (with_reducible first | exact HB.out | apply below_alloc | apply pw_below_drewN | apply below_drew1) | exact HB.out)) hb); clear HO_4; clear HB; have HO_4 := n0_; have HO125 := n1_; have HB := n2_; clear n0_ n1_ n2_; clear hb ho29; obtain ⟨Ao31, co31, eo31⟩ := Kd.R_slice HO125.out; subst eo31) | ((with_reducible refine gate_builtin (b := .append) (xs := #[.tmp 26, .tmp 37]) rfl ?_); at_builtin; refine Kd.R_append_rows (Kd.int .u8) (w0 := w) w.heap.size rfl (.tmp 26) (.tmp 37) 34 5 (.int .u8 0) 1 rfl Tryz.underlying34 info5 rfl (by decide) (by omega) u4 x4_1 y123 _ _ _ (fun k_ => some k_ ≠ (.slice Ao31 y123.length co31 : Value).ownBlock) (fun _ => False) rfl rfl ?aO ?aR (fun _ _ h => h) (fun _ h => h.elim) ?aF ?aB ?aS ?aL ?_; (case aR => repeat (first | exact (Kd.R_reads' HO125.out).2.2 | (with_reducible refine Kd.C_alloc ?_ _) | (with_reducible refine Kd.C_drewN ?_ _) | (with_reducible refine Kd.C_drew ?_))); (case aB => exact (by repeat (first | (with_reducible first | exact HB.out | apply below_alloc | apply pw_below_drewN | apply below_drew1) | exact HB.out))); (case aF => exact (fun k_ hk => Kd.fresh' (Kd.R_lt (by (with_reducible repeat (first | apply Kd.R_alloc | apply Kd.R_drewN | apply Kd.R_drew)); exact HO125.out)) k_ hk)); (case aO => exact (by (with_reducible repeat (first | apply Kd.R_alloc | apply Kd.R_drewN | apply Kd.R_drew)); exact Kd.R_mono HO_4.out (fun _ hk => hk.2))); (case aS => exact (below_size (by repeat (first | (with_reducible first | exact HB.out | apply below_alloc | apply pw_below_drewN | apply below_drew1) | exact HB.out)))); (case aL => have := LMc27.out; first | exact Nat.le_of_lt this | omega); intro v127 w30 ho hb hg hat; rw [← Ny126.out] at ho; have n0_ := Aside0.mk (Kd.R_after (ok := (fun _ => True)) (by (with_reducible repeat (first | apply Kd.R_alloc | apply Kd.R_drewN | apply Kd.R_drew)); exact HO125.out) hg hat); have n1_ := Aside0.mk (hb); have n2_ := Aside0.mk (ho); clear HO125; clear HB; clear HO_4; have HO125 := n0_; have HB := n1_; have HO128 := n2_; clear n0_ n1_ n2_; clear ho hb hg hat))
                              go_roundg k1
                              case measure => have := HK1.out; omega
                              case rel => exact ⟨(y126), (wrap64 (x10_1 + 1)), (by first | rfl | (simp; done) | (simp [*]; done)), H', ⟨by have := HK1.out; omega⟩, ⟨by (with_reducible repeat (first | apply Kd.R_alloc | apply Kd.R_drewN | apply Kd.R_drew)); exact Kd.R_mono HO128.out (fun _ hk => trivial)⟩, ⟨by repeat (first | (with_reducible first | exact HB.out | apply below_alloc | apply pw_below_drewN | apply below_drew1) | exact HB.out)⟩⟩
                            · rw [if_neg c27] at H
                              exact absurd H (by simp)
                        · rw [if_neg c23] at H
                          have c23b0 : decide (32 ≤ (rd l0 x10_1)) = false := decide_eq_false c23
                          clear c23
                          obtain ⟨y129, hy129⟩ : ∃ y_ : List Int, y_ = (([92, (48 + ((rd l0 x10_1) / 64)) % 256, (48 + (Go.bits .and .u8 ((rd l0 x10_1) / 8) 7)) % 256, (48 + (Go.bits .and .u8 (rd l0 x10_1) 7)) % 256] : List Int)) := ⟨_, rfl⟩
                          replace H : (if x4_1.length + y129.length < 140737488355328 then (defval_marshalBytes.l0 k1 (x4_1 ++ y129) l0 (l0.length : Int) (wrap64 (x10_1 + 1))) else (none)) = some (r1, r2) := by first | (rw [hy129]; with_reducible exact H) | (have H2_ := (Option.bind_some _ _).symm.trans H; rw [hy129]; with_reducible exact H2_) | (have H2_ := (Option.bind_some _ _).symm.trans H; with_reducible exact H2_) | with_reducible exact H | (rw [hy129]; exact H) | exact H
                          have Ny129 := Aside0.mk hy129
                          clear hy129
                          by_cases c32 : x4_1.length + y129.length < 140737488355328
                          · rw [if_pos c32] at H
                            have LMc32 := Aside0.mk c32
                            clear c32
                            obtain ⟨y132, hy132⟩ : ∃ y_ : List Int, y_ = (x4_1 ++ y129) := ⟨_, rfl⟩
                            replace H : (defval_marshalBytes.l0 k1 y132 l0 (l0.length : Int) (wrap64 (x10_1 + 1))) = some (r1, r2) := by first | (rw [hy132]; with_reducible exact H) | (have H2_ := (Option.bind_some _ _).symm.trans H; rw [hy132]; with_reducible exact H2_) | (have H2_ := (Option.bind_some _ _).symm.trans H; with_reducible exact H2_) | with_reducible exact H | (rw [hy132]; exact H) | exact H
                            have Ny132 := Aside0.mk hy132
                            clear hy132
                            have H' := Aside0.mk H
                            clear H
                            have p101 : 0 ≤ (x10_1 : Int) := of_decide_eq_true (by first | (with_reducible assumption) | assumption)
                            have q101 : x10_1 < (l0.length : Int) := of_decide_eq_true (by first | (with_reducible assumption) | assumption)
                            obtain ⟨ad101, e101, hx101_0⟩ := Kd.at_int HR0.out x10_1 p101 q101
                            cases e101
                            replace hx101_0 := (HB.out.cell (World.block_lt_of_cell? w _ hx101_0)).trans hx101_0
                            replace p101 := eq_true p101
                            replace q101 := eq_true q101
                            go_wp2_with (first | ((with_reducible refine gate_dst (N := 37) rfl ?_); refine Kd.R_lit (Kd.int .u8) _ 5 ?hg (N := 37) ?hd (xs := ([92, (48 + ((rd l0 x10_1) / 64)) % 256, (48 + (Go.bits .and .u8 ((rd l0 x10_1) / 8) 7)) % 256, (48 + (Go.bits .and .u8 (rd l0 x10_1) 7)) % 256] : List Int)) (inner := [.int .u8 92, .int .u8 ((48 + ((rd l0 x10_1) / 64)) % 256), .int .u8 ((48 + (Go.bits .and .u8 ((rd l0 x10_1) / 8) 7)) % 256), .int .u8 ((48 + (Go.bits .and .u8 (rd l0 x10_1) 7)) % 256)]) (ok := fun _ => True) (okp := fun _ => True) ?hr ?hp (fun _ hk => hk) trivial (Below.refl _ _) (Nat.le_refl _) (by simp) ?_; (case hd => rfl); (case hg => rfl); (case hr => first | (go_simp; done) | (go_simp; rfl)); (case hp => exact (Reps.one (show Kd.M (Kd.int .u8) _ _ _ 92 [.int .u8 92] from rfl) (Reps.one (show Kd.M (Kd.int .u8) _ _ _ ((48 + ((rd l0 x10_1) / 64)) % 256) [.int .u8 ((48 + ((rd l0 x10_1) / 64)) % 256)] from rfl) (Reps.one (show Kd.M (Kd.int .u8) _ _ _ ((48 + (Go.bits .and .u8 ((rd l0 x10_1) / 8) 7)) % 256) [.int .u8 ((48 + (Go.bits .and .u8 ((rd l0 x10_1) / 8) 7)) % 256)] from rfl) (Reps.one (show Kd.M (Kd.int .u8) _ _ _ ((48 + (Go.bits .and .u8 (rd l0 x10_1) 7)) % 256) [.int .u8 ((48 + (Go.bits .and .u8 (rd l0 x10_1) 7)) % 256)] from rfl) (Reps.none _ _)))))); intro v130 w33 ho34 hb hg_ hnew_; clear hg_ hnew_; (first | rw [← Ny129.out] at ho34 | (simp only [Int.reduceToNat] at ho34; rw [← Ny129.out] at ho34)); have n0_ := Aside0.mk (Kd.R_elder' (by (with_reducible repeat (first | apply Kd.R_alloc | apply Kd.R_drewN | apply Kd.R_drew)); exact HO_4.out) (Kd.R_base ho34) hb); have n1_ := Aside0.mk (Kd.R_lower (Kd.R_new' ho34 (Kd.R_lt (by (with_reducible repeat (first | apply Kd.R_alloc | apply Kd.R_drewN | apply Kd.R_drew)); exact HO_4.out))) (below_size (by repeat (first | (with_reducible first | exact HB.out | apply below_alloc | apply pw_below_drewN | apply below_drew1) | exact HB.out)))); have n2_ := Aside0.mk (below_step (by repeat (first | (with_reducible first | exact HB.out | apply below_alloc | apply pw_below_drewN | apply below_drew1) | exact HB.out)) hb); clear HO_4; clear HB; have HO_4 := n0_; have HO131 := n1_; have HB := n2_; clear n0_ n1_ n2_; clear hb ho34; obtain ⟨Ao36, co36, eo36⟩ := Kd.R_slice HO131.out; subst eo36) | ((with_reducible refine gate_builtin (b := .append) (xs := #[.tmp 26, .tmp 37]) rfl ?_); at_builtin; refine Kd.R_append_rows (Kd.int .u8) (w0 := w) w.heap.size rfl (.tmp 26) (.tmp 37) 34 5 (.int .u8 0) 1 rfl Tryz.underlying34 info5 rfl (by decide) (by omega) u4 x4_1 y129 _ _ _ (fun k_ => some k_ ≠ (.slice Ao36 y129.length co36 : Value).ownBlock) (fun _ => False) rfl rfl ?aO ?aR (fun _ _ h => h) (fun _ h => h.elim) ?aF ?aB ?aS ?aL ?_; (case aR => repeat (first | exact (Kd.R_reads' HO131.out).2.2 | (with_reducible refine Kd.C_alloc ?_ _) | (with_reducible refine Kd.C_drewN ?_ _) | (with_reducible refine Kd.C_drew ?_))); (case aB => exact (by repeat (first | (with_reducible first | exact HB.out | apply below_alloc | apply pw_below_drewN | apply below_drew1) | exact HB.out))); (case aF => exact (fun k_ hk => Kd.fresh' (Kd.R_lt (by (with_reducible repeat (first | apply Kd.R_alloc | apply Kd.R_drewN | apply Kd.R_drew)); exact HO131.out)) k_ hk)); (case aO => exact (by (with_reducible repeat (first | apply Kd.R_alloc | apply Kd.R_drewN | apply Kd.R_drew)); exact Kd.R_mono HO_4.out (fun _ hk => hk.2))); (case aS => exact (below_size (by repeat (first | (with_reducible first | exact HB.out | apply below_alloc | apply pw_below_drewN | apply below_drew1) | exact HB.out)))); (case aL => have := LMc32.out; first | exact Nat.le_of_lt this | omega); intro v133 w35 ho hb hg hat; rw [← Ny132.out] at ho; have n0_ := Aside0.mk (Kd.R_after (ok := (fun _ => True)) (by (with_reducible repeat (first | apply Kd.R_alloc | apply Kd.R_drewN | apply Kd.R_drew)); exact HO131.out) hg hat); have n1_ := Aside0.mk (hb); have n2_ := Aside0.mk (ho); clear HO131; clear HB; clear HO_4; have HO131 := n0_; have HB := n1_; have HO134 := n2_; clear n0_ n1_ n2_; clear ho hb hg hat))
                            go_roundg k1
                            case measure => have := HK1.out; omega
                            case rel => exact ⟨(y132), (wrap64 (x10_1 + 1)), (by first | rfl | (simp; done) | (simp [*]; done)), H', ⟨by have := HK1.out; omega⟩, ⟨by (with_reducible repeat (first | apply Kd.R_alloc | apply Kd.R_drewN | apply Kd.R_drew)); exact Kd.R_mono HO134.out (fun _ hk => trivial)⟩, ⟨by repeat (first | (with_reducible first | exact HB.out | apply below_alloc | apply pw_below_drewN | apply below_drew1) | exact HB.out)⟩⟩
                          · rw [if_neg c32] at H
                            exact absurd H (by simp)
          · rw [if_neg c4] at H
            exact absurd H (by simp)
        · rw [if_neg c3] at H
          exact absurd H (by simp)
      · rw [if_neg c2] at H
        have c2b0 : decide (x10_1 < (l0.length : Int)) = false := decide_eq_false c2
        clear c2
        simp only [Option.some.injEq, Prod.mk.injEq] at H
        obtain ⟨rfl, rfl⟩ := H
        have hcv37 := own_string (P := Tryz.prog) Tryz.underlying34 Tryz.underlying5 Tryz.underlying9 (Kd.own_of_R HO_4.out)
        go_wp2
        go_ret2
        exact ⟨by first | rfl | (simp [errW_none, errW_some] <;> rfl) | (simp [*, errW_none, errW_some] <;> rfl), by repeat (first | (with_reducible first | exact HB.out | apply below_alloc | apply pw_below_drewN | apply below_drew1) | exact HB.out)⟩

end Go.Proofs.YticfdfomlcohpaaGreatDoor.Mb
