/- Small functions (few, blank), and what they compute: turned from printed texts. Conditions: each theorem's own. -/
import Derived.Test.YtdggjpdhbailpaaDoorZWords
namespace Go.Proofs.YtdggjpdhbailpaaDoor.Fw
open Go.Proofs.YtdggjpdhbailpaaDoor.PFnTextAscii Go.RowKit Go.Proofs.YtdggjpdhbailpaaDoorW.PrintWords Go.Proofs.YtdggjpdhbailpaaDoorW.PrintLast Go.Proofs.YtdggjpdhbailpaaDoorW.PrintMore
attribute [local go_sem] max2_int min2_int max_two min_two max_three min_three max_four min_four   -- for this text's walks alone
set_option linter.unusedVariables false
set_option linter.unusedSimpArgs false

/-! ### laws_size: function 20 -/
mutual
def laws_size.j0 : Nat → List (S76) → Int → Bool → Option (Int)
  | 0, _, _, _ => none
  | k + 1, x0, x1, x14 => if x14 = true then (some 1073741824) else (laws_size.l0 k x1 0 x0 (x0.length : Int) 0)
def laws_size.l0 : Nat → Int → Int → List (S76) → Int → Int → Option (Int)
  | 0, _, _, _, _, _ => none
  | k + 1, x1, x5, x15, x16, x17 => if x17 < x16 then (if 0 ≤ x17 then (if x17 < (x15.length : Int) then (if (((rd_T76 x15 x17).f0).size : Int) > 1000 then (some 1073741824) else (if (((rd_T76 x15 x17).f3).size : Int) > 1000 then (some 1073741824) else (if x5 > 1048576 then (some 1073741824) else ((laws_size.f k ((rd_T76 x15 x17).f8) (wrap64 (x1 - 1))).bind fun t103 => (laws_size.l0 k x1 (wrap64 (x5 + (wrap64 (1 + t103)))) x15 x16 (wrap64 (x17 + 1))))))) else (none)) else (none)) else (some x5)
def laws_size.f : Nat → List (S76) → Int → Option (Int)
  | 0, _, _ => none
  | k + 1, l0, a1 => if a1 = 0 then (laws_size.j0 k l0 a1 (decide ((l0.length : Int) > 0))) else (laws_size.j0 k l0 a1 false)
end
theorem laws_size.mono_l : ∀ k, (∀ y0 y1, LeO (laws_size.f k y0 y1) (laws_size.f (k + 1) y0 y1)) ∧ (∀ y0 y1 y2, LeO (laws_size.j0 k y0 y1 y2) (laws_size.j0 (k + 1) y0 y1 y2)) ∧ (∀ y0 y1 y2 y3 y4, LeO (laws_size.l0 k y0 y1 y2 y3 y4) (laws_size.l0 (k + 1) y0 y1 y2 y3 y4))
  | 0 => ⟨fun _ _ r h => by simp [laws_size.f] at h, fun _ _ _ r h => by simp [laws_size.j0] at h, fun _ _ _ _ _ r h => by simp [laws_size.l0] at h⟩
  | k + 1 => by
    obtain ⟨ih0, ih1, ih2⟩ := laws_size.mono_l k
    refine ⟨?_, ?_, ?_⟩
    · intro y0 y1
      unfold laws_size.f
      repeat' first
      | (with_reducible exact ih0 _ _)
      | (with_reducible exact ih1 _ _ _)
      | (with_reducible exact ih2 _ _ _ _ _)
      | (with_reducible exact LeO.refl _)
      | (with_reducible exact LeO.none _)
      | (with_reducible refine LeO.ite ?_ ?_)
      | (with_reducible refine LeO.bind ?_ (fun _ => ?_))
      | exact ih0 _ _
      | exact ih1 _ _ _
      | exact ih2 _ _ _ _ _
      | exact LeO.none _
      | refine LeO.ite ?_ ?_
      | refine LeO.bind ?_ (fun _ => ?_)
    · intro y0 y1 y2
      unfold laws_size.j0
      repeat' first
      | (with_reducible exact ih0 _ _)
      | (with_reducible exact ih1 _ _ _)
      | (with_reducible exact ih2 _ _ _ _ _)
      | (with_reducible exact LeO.refl _)
      | (with_reducible exact LeO.none _)
      | (with_reducible refine LeO.ite ?_ ?_)
      | (with_reducible refine LeO.bind ?_ (fun _ => ?_))
      | exact ih0 _ _
      | exact ih1 _ _ _
      | exact ih2 _ _ _ _ _
      | exact LeO.none _
      | refine LeO.ite ?_ ?_
      | refine LeO.bind ?_ (fun _ => ?_)
    · intro y0 y1 y2 y3 y4
      unfold laws_size.l0
      repeat' first
      | (with_reducible exact ih0 _ _)
      | (with_reducible exact ih1 _ _ _)
      | (with_reducible exact ih2 _ _ _ _ _)
      | (with_reducible exact LeO.refl _)
      | (with_reducible exact LeO.none _)
      | (with_reducible refine LeO.ite ?_ ?_)
      | (with_reducible refine LeO.bind ?_ (fun _ => ?_))
      | exact ih0 _ _
      | exact ih1 _ _ _
      | exact ih2 _ _ _ _ _
      | exact LeO.none _
      | refine LeO.ite ?_ ?_
      | refine LeO.bind ?_ (fun _ => ?_)
theorem laws_size.mono : ∀ a0 a1 k, LeO (laws_size.f k a0 a1) (laws_size.f (k + 1) a0 a1) := by
  intro a0 a1 k
  obtain ⟨ih0, ih1, ih2⟩ := laws_size.mono_l k
  exact ih0 a0 a1
set_option maxHeartbeats 8000000 in
set_option maxRecDepth 100000 in
theorem laws_size.calls (k : Nat) : ∀ (A0 : Option Addr) (c0 : Nat) (l0 : List (S76)) (a1 : Int) (r : Int) (w : World) (hr0 : Kd.C k76 w A0 l0.length l0) (hc0 : l0.length ≤ c0) (h : laws_size.f k l0 a1 = some r),
    Calls Tryd.prog 20 #[.slice A0 l0.length c0, .int .i64 a1] w fun e w' => e = .returned (.int .i64 r) ∧ Below w.heap.size w w' := by
  induction k using Nat.strongRecOn with
  | _ k ih =>
  intro A0 c0 l0 a1 r w hr0 hc0 h
  cases k with
  | zero => exact absurd h (by simp [laws_size.f])
  | succ k =>
  simp only [laws_size.f] at h
  have hu76 := Tryd.underlying76
  have HR0 := Aside0.mk hr0
  have HC0 := Aside0.mk hc0
  clear hr0 hc0
  have HB := Aside0.mk (Below.refl w.heap.size w)
  have H : (if a1 = 0 then (laws_size.j0 k l0 a1 (decide ((l0.length : Int) > 0))) else (laws_size.j0 k l0 a1 false)) = some r := h
  clear h
  have HC3 := Aside0.mk H
  clear H
  go_enter Tryd.func20, Tryd.ntmps20
  go_upto_region 1 with (fail)
  go_cut [14] (fun v14 wc => ∃ (kq : Nat) (x14_2 : Bool), v14 = .bool x14_2 ∧ Aside0 (laws_size.j0 kq l0 a1 x14_2 = some r) ∧ Aside0 (kq ≤ k) ∧ Aside0 (Below w.heap.size w wc))
  case first =>
    have H := HC3.out
    clear HC3
    by_cases c4 : a1 = 0
    · rw [if_pos c4] at H
      have c4b0 : (a1 == 0) = true := beq_iff_eq.mpr c4
      have c4b1 : (a1 != 0) = false := bne_eq_false_iff_eq.mpr c4
      clear c4
      (first | rw [c4b0] | (simp only [i64_w, i32_w]; rw [c4b0]) | skip)
      have H' := Aside0.mk H
      clear H
      go_wp2
      go_meet
      case rel => exact ⟨_, (decide ((l0.length : Int) > 0)), (by first | rfl | (simp; done) | (simp [*]; done)), H', ⟨by first | omega | exact Nat.le_refl _⟩, ⟨by repeat (first | (with_reducible first | exact HB.out | apply below_alloc | apply pw_below_drewN | apply below_drew1) | exact HB.out)⟩⟩
    · rw [if_neg c4] at H
      have c4b0 : (a1 == 0) = false := beq_eq_false_iff_ne.mpr c4
      have c4b1 : (a1 != 0) = true := bne_iff_ne.mpr c4
      (first | rw [c4b0] | (simp only [i64_w, i32_w]; rw [c4b0]) | skip)
      have H' := Aside0.mk H
      clear H
      go_wp2
      go_meet
      case rel => exact ⟨_, (false), (by first | rfl | (simp; done) | (simp [*]; done)), H', ⟨by first | omega | exact Nat.le_refl _⟩, ⟨by repeat (first | (with_reducible first | exact HB.out | apply below_alloc | apply pw_below_drewN | apply below_drew1) | exact HB.out)⟩⟩
  case rest =>
    clear HC3
    try clear c2
    try clear p2
    try clear c4
    try clear c4b0
    try clear c4b1
    obtain ⟨kq, x14_2, rfl, HA, HJ2, HB⟩ := hcut
    cases kq with
    | zero => exact absurd HA.out (by simp [laws_size.j0])
    | succ kj2 =>
      have H := HA.out
      clear HA
      simp only [laws_size.j0] at H
      by_cases c5 : x14_2 = true
      · subst c5
        have H1 : (some 1073741824) = some r := by rw [if_pos rfl] at H; exact H
        clear H
        have H := H1
        clear H1
        obtain rfl := Option.some.inj H
        go_wp2
        go_ret
        exact ⟨by first | rfl | (simp [errW_none, errW_some] <;> rfl) | (simp [*, errW_none, errW_some] <;> rfl), by repeat (first | (with_reducible first | exact HB.out | apply below_alloc | apply pw_below_drewN | apply below_drew1) | exact HB.out)⟩
      · replace c5 := Bool.eq_false_iff.mpr c5
        subst c5
        have H1 : (laws_size.l0 kj2 a1 0 l0 (l0.length : Int) 0) = some r := by rw [if_neg (show ¬ (false = true) by decide)] at H; exact H
        clear H
        have H := H1
        clear H1
        have H' := Aside0.mk H
        clear H
        go_wp2
        go_loopg [5, 17] kj2 (fun kq v5 v17 w' => ∃ (x5_2 : Int) (x17_2 : Int), v5 = .int .i64 x5_2 ∧ v17 = .int .i64 x17_2 ∧ Aside0 (laws_size.l0 kq a1 x5_2 l0 (l0.length : Int) x17_2 = some r) ∧ Aside0 (kq ≤ kj2) ∧ Aside0 (Below w.heap.size w w'))
        case atStart => exact ⟨(0), (0), (by first | rfl | (simp; done) | (simp [*]; done)), (by first | rfl | (simp; done) | (simp [*]; done)), H', ⟨Nat.le_refl _⟩, ⟨by repeat (first | (with_reducible first | exact HB.out | apply below_alloc | apply pw_below_drewN | apply below_drew1) | exact HB.out)⟩⟩
        case round =>
          clear H'
          try clear c2
          try clear p2
          try clear c4
          try clear c4b0
          try clear c4b1
          try clear c5
          try clear p2
          obtain ⟨x5_2, x17_2, rfl, rfl, HA, HK2, HB⟩ := hrel
          cases gk with
          | zero => exact absurd HA.out (by simp [laws_size.l0])
          | succ k2 =>
            have H := HA.out
            clear HA
            simp only [laws_size.l0] at H
            by_cases c6 : x17_2 < (l0.length : Int)
            · rw [if_pos c6] at H
              have c6b0 : decide (x17_2 < (l0.length : Int)) = true := decide_eq_true c6
              clear c6
              by_cases c7 : 0 ≤ x17_2
              · rw [if_pos c7] at H
                have c7b0 : decide (0 ≤ x17_2) = true := decide_eq_true c7
                clear c7
                by_cases c8 : x17_2 < (l0.length : Int)
                · rw [if_pos c8] at H
                  have c8b0 : decide (x17_2 < (l0.length : Int)) = true := decide_eq_true c8
                  clear c8
                  by_cases c9 : (((rd_T76 l0 x17_2).f0).size : Int) > 1000
                  · rw [if_pos c9] at H
                    have c9b0 : decide (1000 < (((rd_T76 l0 x17_2).f0).size : Int)) = true := decide_eq_true c9
                    have c9b1 : decide (1000 < ((rd_T76 l0 x17_2).f0).size) = true := decide_eq_true (by omega)
                    clear c9
                    obtain rfl := Option.some.inj H
                    have p101 : 0 ≤ (x17_2 : Int) := of_decide_eq_true (by first | (with_reducible assumption) | assumption)
                    have q101 : x17_2 < (l0.length : Int) := of_decide_eq_true (by first | (with_reducible assumption) | assumption)
                    obtain ⟨ad101, A101_8, c101_8, e101, hx101_0, hx101_1, hx101_2, hx101_3, hx101_4, hx101_5, hx101_6, hx101_7, hx101_8, hl101_8, hi101_8⟩ := at_T76 HR0.out x17_2 p101 q101
                    cases e101
                    replace hx101_0 := (HB.out.cell (World.block_lt_of_cell? w _ hx101_0)).trans hx101_0
                    replace hx101_1 := (HB.out.cell (World.block_lt_of_cell? w _ hx101_1)).trans hx101_1
                    replace hx101_2 := (HB.out.cell (World.block_lt_of_cell? w _ hx101_2)).trans hx101_2
                    replace hx101_3 := (HB.out.cell (World.block_lt_of_cell? w _ hx101_3)).trans hx101_3
                    replace hx101_4 := (HB.out.cell (World.block_lt_of_cell? w _ hx101_4)).trans hx101_4
                    replace hx101_5 := (HB.out.cell (World.block_lt_of_cell? w _ hx101_5)).trans hx101_5
                    replace hx101_6 := (HB.out.cell (World.block_lt_of_cell? w _ hx101_6)).trans hx101_6
                    replace hx101_7 := (HB.out.cell (World.block_lt_of_cell? w _ hx101_7)).trans hx101_7
                    replace hx101_8 := (HB.out.cell (World.block_lt_of_cell? w _ hx101_8)).trans hx101_8
                    have HR101_8 := Aside0.mk hi101_8
                    have HC101_8 := Aside0.mk hl101_8
                    clear hi101_8 hl101_8
                    replace p101 := eq_true p101
                    replace q101 := eq_true q101
                    go_wp2_with (first | ((with_reducible refine gate_dst (N := 7) rfl ?_); (try (refine gate_guard (by rfl) ?_; dsimp only)); refine box_event ?hg (N := 7) ?hd (cs := #[.string (⟨#[]⟩ : ByteArray), .int .u8 0, .bool false, .string (⟨#[]⟩ : ByteArray), .int .i64 0, .int .u64 0, .int .u64 0, .bool false, .slice none 0 0]) (t := 76) ?hr ?_; (case hd => rfl); (case hg => rfl); (case hr => first | (go_simp; done) | (go_simp; rfl)); intro gb102 hg w10 hbox hb; have n0_ := Aside0.mk (below_step (by repeat (first | (with_reducible first | exact HB.out | apply below_alloc | apply pw_below_drewN | apply below_drew1) | exact HB.out)) hb); have n1_ := Aside0.mk (hbox); have n2_ := Aside0.mk ((by rw [hg]; exact (below_size (by repeat (first | (with_reducible first | exact HB.out | apply below_alloc | apply pw_below_drewN | apply below_drew1) | exact HB.out))) : w.heap.size ≤ gb102)); have n3_ := Aside0.mk ((by rw [hg]; exact (below_size (by repeat (first | (with_reducible first | exact HB.out | apply below_alloc | apply pw_below_drewN | apply below_drew1) | exact HB.out))) : w.heap.size ≤ gb102)); clear HB; have HB := n0_; have BK102 := n1_; have GW102 := n2_; have GE102 := n3_; clear n0_ n1_ n2_ n3_; clear hb hbox hg; have hcz11_0 : w10.cell? ⟨gb102, 0, none⟩ = some (.string (⟨#[]⟩ : ByteArray)) := (blk_cell BK102.out 0).trans rfl; have hcz11_1 : w10.cell? ⟨gb102, 1, none⟩ = some (.int .u8 0) := (blk_cell BK102.out 1).trans rfl; have hcz11_2 : w10.cell? ⟨gb102, 2, none⟩ = some (.bool false) := (blk_cell BK102.out 2).trans rfl; have hcz11_3 : w10.cell? ⟨gb102, 3, none⟩ = some (.string (⟨#[]⟩ : ByteArray)) := (blk_cell BK102.out 3).trans rfl; have hcz11_4 : w10.cell? ⟨gb102, 4, none⟩ = some (.int .i64 0) := (blk_cell BK102.out 4).trans rfl; have hcz11_5 : w10.cell? ⟨gb102, 5, none⟩ = some (.int .u64 0) := (blk_cell BK102.out 5).trans rfl; have hcz11_6 : w10.cell? ⟨gb102, 6, none⟩ = some (.int .u64 0) := (blk_cell BK102.out 6).trans rfl; have hcz11_7 : w10.cell? ⟨gb102, 7, none⟩ = some (.bool false) := (blk_cell BK102.out 7).trans rfl; have hcz11_8 : w10.cell? ⟨gb102, 8, none⟩ = some (.slice none 0 0) := (blk_cell BK102.out 8).trans rfl; have hfz11_0 := blk_frozen BK102.out 0; have hfz11_1 := blk_frozen BK102.out 1; have hfz11_2 := blk_frozen BK102.out 2; have hfz11_3 := blk_frozen BK102.out 3; have hfz11_4 := blk_frozen BK102.out 4; have hfz11_5 := blk_frozen BK102.out 5; have hfz11_6 := blk_frozen BK102.out 6; have hfz11_7 := blk_frozen BK102.out 7; have hfz11_8 := blk_frozen BK102.out 8))
                    go_ret
                    exact ⟨by first | rfl | (simp [errW_none, errW_some] <;> rfl) | (simp [*, errW_none, errW_some] <;> rfl), by repeat (first | (with_reducible first | exact HB.out | apply below_alloc | apply pw_below_drewN | apply below_drew1 | refine below_set ?_ GE102.out) | exact HB.out)⟩
                  · rw [if_neg c9] at H
                    have c9b0 : decide (1000 < (((rd_T76 l0 x17_2).f0).size : Int)) = false := decide_eq_false c9
                    have c9b1 : decide (1000 < ((rd_T76 l0 x17_2).f0).size) = false := decide_eq_false (by omega)
                    clear c9
                    by_cases c12 : (((rd_T76 l0 x17_2).f3).size : Int) > 1000
                    · rw [if_pos c12] at H
                      have c12b0 : decide (1000 < (((rd_T76 l0 x17_2).f3).size : Int)) = true := decide_eq_true c12
                      have c12b1 : decide (1000 < ((rd_T76 l0 x17_2).f3).size) = true := decide_eq_true (by omega)
                      clear c12
                      obtain rfl := Option.some.inj H
                      have p101 : 0 ≤ (x17_2 : Int) := of_decide_eq_true (by first | (with_reducible assumption) | assumption)
                      have q101 : x17_2 < (l0.length : Int) := of_decide_eq_true (by first | (with_reducible assumption) | assumption)
                      obtain ⟨ad101, A101_8, c101_8, e101, hx101_0, hx101_1, hx101_2, hx101_3, hx101_4, hx101_5, hx101_6, hx101_7, hx101_8, hl101_8, hi101_8⟩ := at_T76 HR0.out x17_2 p101 q101
                      cases e101
                      replace hx101_0 := (HB.out.cell (World.block_lt_of_cell? w _ hx101_0)).trans hx101_0
                      replace hx101_1 := (HB.out.cell (World.block_lt_of_cell? w _ hx101_1)).trans hx101_1
                      replace hx101_2 := (HB.out.cell (World.block_lt_of_cell? w _ hx101_2)).trans hx101_2
                      replace hx101_3 := (HB.out.cell (World.block_lt_of_cell? w _ hx101_3)).trans hx101_3
                      replace hx101_4 := (HB.out.cell (World.block_lt_of_cell? w _ hx101_4)).trans hx101_4
                      replace hx101_5 := (HB.out.cell (World.block_lt_of_cell? w _ hx101_5)).trans hx101_5
                      replace hx101_6 := (HB.out.cell (World.block_lt_of_cell? w _ hx101_6)).trans hx101_6
                      replace hx101_7 := (HB.out.cell (World.block_lt_of_cell? w _ hx101_7)).trans hx101_7
                      replace hx101_8 := (HB.out.cell (World.block_lt_of_cell? w _ hx101_8)).trans hx101_8
                      have HR101_8 := Aside0.mk hi101_8
                      have HC101_8 := Aside0.mk hl101_8
                      clear hi101_8 hl101_8
                      replace p101 := eq_true p101
                      replace q101 := eq_true q101
                      go_wp2_with (first | ((with_reducible refine gate_dst (N := 7) rfl ?_); (try (refine gate_guard (by rfl) ?_; dsimp only)); refine box_event ?hg (N := 7) ?hd (cs := #[.string (⟨#[]⟩ : ByteArray), .int .u8 0, .bool false, .string (⟨#[]⟩ : ByteArray), .int .i64 0, .int .u64 0, .int .u64 0, .bool false, .slice none 0 0]) (t := 76) ?hr ?_; (case hd => rfl); (case hg => rfl); (case hr => first | (go_simp; done) | (go_simp; rfl)); intro gb102 hg w13 hbox hb; have n0_ := Aside0.mk (below_step (by repeat (first | (with_reducible first | exact HB.out | apply below_alloc | apply pw_below_drewN | apply below_drew1) | exact HB.out)) hb); have n1_ := Aside0.mk (hbox); have n2_ := Aside0.mk ((by rw [hg]; exact (below_size (by repeat (first | (with_reducible first | exact HB.out | apply below_alloc | apply pw_below_drewN | apply below_drew1) | exact HB.out))) : w.heap.size ≤ gb102)); have n3_ := Aside0.mk ((by rw [hg]; exact (below_size (by repeat (first | (with_reducible first | exact HB.out | apply below_alloc | apply pw_below_drewN | apply below_drew1) | exact HB.out))) : w.heap.size ≤ gb102)); clear HB; have HB := n0_; have BK102 := n1_; have GW102 := n2_; have GE102 := n3_; clear n0_ n1_ n2_ n3_; clear hb hbox hg; have hcz14_0 : w13.cell? ⟨gb102, 0, none⟩ = some (.string (⟨#[]⟩ : ByteArray)) := (blk_cell BK102.out 0).trans rfl; have hcz14_1 : w13.cell? ⟨gb102, 1, none⟩ = some (.int .u8 0) := (blk_cell BK102.out 1).trans rfl; have hcz14_2 : w13.cell? ⟨gb102, 2, none⟩ = some (.bool false) := (blk_cell BK102.out 2).trans rfl; have hcz14_3 : w13.cell? ⟨gb102, 3, none⟩ = some (.string (⟨#[]⟩ : ByteArray)) := (blk_cell BK102.out 3).trans rfl; have hcz14_4 : w13.cell? ⟨gb102, 4, none⟩ = some (.int .i64 0) := (blk_cell BK102.out 4).trans rfl; have hcz14_5 : w13.cell? ⟨gb102, 5, none⟩ = some (.int .u64 0) := (blk_cell BK102.out 5).trans rfl; have hcz14_6 : w13.cell? ⟨gb102, 6, none⟩ = some (.int .u64 0) := (blk_cell BK102.out 6).trans rfl; have hcz14_7 : w13.cell? ⟨gb102, 7, none⟩ = some (.bool false) := (blk_cell BK102.out 7).trans rfl; have hcz14_8 : w13.cell? ⟨gb102, 8, none⟩ = some (.slice none 0 0) := (blk_cell BK102.out 8).trans rfl; have hfz14_0 := blk_frozen BK102.out 0; have hfz14_1 := blk_frozen BK102.out 1; have hfz14_2 := blk_frozen BK102.out 2; have hfz14_3 := blk_frozen BK102.out 3; have hfz14_4 := blk_frozen BK102.out 4; have hfz14_5 := blk_frozen BK102.out 5; have hfz14_6 := blk_frozen BK102.out 6; have hfz14_7 := blk_frozen BK102.out 7; have hfz14_8 := blk_frozen BK102.out 8))
                      go_ret
                      exact ⟨by first | rfl | (simp [errW_none, errW_some] <;> rfl) | (simp [*, errW_none, errW_some] <;> rfl), by repeat (first | (with_reducible first | exact HB.out | apply below_alloc | apply pw_below_drewN | apply below_drew1 | refine below_set ?_ GE102.out) | exact HB.out)⟩
                    · rw [if_neg c12] at H
                      have c12b0 : decide (1000 < (((rd_T76 l0 x17_2).f3).size : Int)) = false := decide_eq_false c12
                      have c12b1 : decide (1000 < ((rd_T76 l0 x17_2).f3).size) = false := decide_eq_false (by omega)
                      clear c12
                      by_cases c15 : x5_2 > 1048576
                      · rw [if_pos c15] at H
                        have c15b0 : decide (1048576 < x5_2) = true := decide_eq_true c15
                        clear c15
                        obtain rfl := Option.some.inj H
                        have p101 : 0 ≤ (x17_2 : Int) := of_decide_eq_true (by first | (with_reducible assumption) | assumption)
                        have q101 : x17_2 < (l0.length : Int) := of_decide_eq_true (by first | (with_reducible assumption) | assumption)
                        obtain ⟨ad101, A101_8, c101_8, e101, hx101_0, hx101_1, hx101_2, hx101_3, hx101_4, hx101_5, hx101_6, hx101_7, hx101_8, hl101_8, hi101_8⟩ := at_T76 HR0.out x17_2 p101 q101
                        cases e101
                        replace hx101_0 := (HB.out.cell (World.block_lt_of_cell? w _ hx101_0)).trans hx101_0
                        replace hx101_1 := (HB.out.cell (World.block_lt_of_cell? w _ hx101_1)).trans hx101_1
                        replace hx101_2 := (HB.out.cell (World.block_lt_of_cell? w _ hx101_2)).trans hx101_2
                        replace hx101_3 := (HB.out.cell (World.block_lt_of_cell? w _ hx101_3)).trans hx101_3
                        replace hx101_4 := (HB.out.cell (World.block_lt_of_cell? w _ hx101_4)).trans hx101_4
                        replace hx101_5 := (HB.out.cell (World.block_lt_of_cell? w _ hx101_5)).trans hx101_5
                        replace hx101_6 := (HB.out.cell (World.block_lt_of_cell? w _ hx101_6)).trans hx101_6
                        replace hx101_7 := (HB.out.cell (World.block_lt_of_cell? w _ hx101_7)).trans hx101_7
                        replace hx101_8 := (HB.out.cell (World.block_lt_of_cell? w _ hx101_8)).trans hx101_8
                        have HR101_8 := Aside0.mk hi101_8
                        have HC101_8 := Aside0.mk hl101_8
                        clear hi101_8 hl101_8
                        replace p101 := eq_true p101
                        replace q101 := eq_true q101
                        go_wp2_with (first | ((with_reducible refine gate_dst (N := 7) rfl ?_); (try (refine gate_guard (by rfl) ?_; dsimp only)); refine box_event ?hg (N := 7) ?hd (cs := #[.string (⟨#[]⟩ : ByteArray), .int .u8 0, .bool false, .string (⟨#[]⟩ : ByteArray), .int .i64 0, .int .u64 0, .int .u64 0, .bool false, .slice none 0 0]) (t := 76) ?hr ?_; (case hd => rfl); (case hg => rfl); (case hr => first | (go_simp; done) | (go_simp; rfl)); intro gb102 hg w16 hbox hb; have n0_ := Aside0.mk (below_step (by repeat (first | (with_reducible first | exact HB.out | apply below_alloc | apply pw_below_drewN | apply below_drew1) | exact HB.out)) hb); have n1_ := Aside0.mk (hbox); have n2_ := Aside0.mk ((by rw [hg]; exact (below_size (by repeat (first | (with_reducible first | exact HB.out | apply below_alloc | apply pw_below_drewN | apply below_drew1) | exact HB.out))) : w.heap.size ≤ gb102)); have n3_ := Aside0.mk ((by rw [hg]; exact (below_size (by repeat (first | (with_reducible first | exact HB.out | apply below_alloc | apply pw_below_drewN | apply below_drew1) | exact HB.out))) : w.heap.size ≤ gb102)); clear HB; have HB := n0_; have BK102 := n1_; have GW102 := n2_; have GE102 := n3_; clear n0_ n1_ n2_ n3_; clear hb hbox hg; have hcz17_0 : w16.cell? ⟨gb102, 0, none⟩ = some (.string (⟨#[]⟩ : ByteArray)) := (blk_cell BK102.out 0).trans rfl; have hcz17_1 : w16.cell? ⟨gb102, 1, none⟩ = some (.int .u8 0) := (blk_cell BK102.out 1).trans rfl; have hcz17_2 : w16.cell? ⟨gb102, 2, none⟩ = some (.bool false) := (blk_cell BK102.out 2).trans rfl; have hcz17_3 : w16.cell? ⟨gb102, 3, none⟩ = some (.string (⟨#[]⟩ : ByteArray)) := (blk_cell BK102.out 3).trans rfl; have hcz17_4 : w16.cell? ⟨gb102, 4, none⟩ = some (.int .i64 0) := (blk_cell BK102.out 4).trans rfl; have hcz17_5 : w16.cell? ⟨gb102, 5, none⟩ = some (.int .u64 0) := (blk_cell BK102.out 5).trans rfl; have hcz17_6 : w16.cell? ⟨gb102, 6, none⟩ = some (.int .u64 0) := (blk_cell BK102.out 6).trans rfl; have hcz17_7 : w16.cell? ⟨gb102, 7, none⟩ = some (.bool false) := (blk_cell BK102.out 7).trans rfl; have hcz17_8 : w16.cell? ⟨gb102, 8, none⟩ = some (.slice none 0 0) := (blk_cell BK102.out 8).trans rfl; have hfz17_0 := blk_frozen BK102.out 0; have hfz17_1 := blk_frozen BK102.out 1; have hfz17_2 := blk_frozen BK102.out 2; have hfz17_3 := blk_frozen BK102.out 3; have hfz17_4 := blk_frozen BK102.out 4; have hfz17_5 := blk_frozen BK102.out 5; have hfz17_6 := blk_frozen BK102.out 6; have hfz17_7 := blk_frozen BK102.out 7; have hfz17_8 := blk_frozen BK102.out 8))
                        go_ret
                        exact ⟨by first | rfl | (simp [errW_none, errW_some] <;> rfl) | (simp [*, errW_none, errW_some] <;> rfl), by repeat (first | (with_reducible first | exact HB.out | apply below_alloc | apply pw_below_drewN | apply below_drew1 | refine below_set ?_ GE102.out) | exact HB.out)⟩
                      · rw [if_neg c15] at H
                        have c15b0 : decide (1048576 < x5_2) = false := decide_eq_false c15
                        clear c15
                        replace H := Option.bind_eq_some_iff.mp H
                        obtain ⟨t103, A180, H⟩ := H
                        replace H : (laws_size.l0 k2 a1 (wrap64 (x5_2 + (wrap64 (1 + t103)))) l0 (l0.length : Int) (wrap64 (x17_2 + 1))) = some r := H
                        have A18 := Aside0.mk A180
                        clear A180
                        have H' := Aside0.mk H
                        clear H
                        have p101 : 0 ≤ (x17_2 : Int) := of_decide_eq_true (by first | (with_reducible assumption) | assumption)
                        have q101 : x17_2 < (l0.length : Int) := of_decide_eq_true (by first | (with_reducible assumption) | assumption)
                        obtain ⟨ad101, A101_8, c101_8, e101, hx101_0, hx101_1, hx101_2, hx101_3, hx101_4, hx101_5, hx101_6, hx101_7, hx101_8, hl101_8, hi101_8⟩ := at_T76 HR0.out x17_2 p101 q101
                        cases e101
                        replace hx101_0 := (HB.out.cell (World.block_lt_of_cell? w _ hx101_0)).trans hx101_0
                        replace hx101_1 := (HB.out.cell (World.block_lt_of_cell? w _ hx101_1)).trans hx101_1
                        replace hx101_2 := (HB.out.cell (World.block_lt_of_cell? w _ hx101_2)).trans hx101_2
                        replace hx101_3 := (HB.out.cell (World.block_lt_of_cell? w _ hx101_3)).trans hx101_3
                        replace hx101_4 := (HB.out.cell (World.block_lt_of_cell? w _ hx101_4)).trans hx101_4
                        replace hx101_5 := (HB.out.cell (World.block_lt_of_cell? w _ hx101_5)).trans hx101_5
                        replace hx101_6 := (HB.out.cell (World.block_lt_of_cell? w _ hx101_6)).trans hx101_6
                        replace hx101_7 := (HB.out.cell (World.block_lt_of_cell? w _ hx101_7)).trans hx101_7
                        replace hx101_8 := (HB.out.cell (World.block_lt_of_cell? w _ hx101_8)).trans hx101_8
                        have HR101_8 := Aside0.mk hi101_8
                        have HC101_8 := Aside0.mk hl101_8
                        clear hi101_8 hl101_8
                        replace p101 := eq_true p101
                        replace q101 := eq_true q101
                        go_wp2_with (first | ((with_reducible refine gate_dst (N := 7) rfl ?_); (try (refine gate_guard (by rfl) ?_; dsimp only)); refine box_event ?hg (N := 7) ?hd (cs := #[.string (⟨#[]⟩ : ByteArray), .int .u8 0, .bool false, .string (⟨#[]⟩ : ByteArray), .int .i64 0, .int .u64 0, .int .u64 0, .bool false, .slice none 0 0]) (t := 76) ?hr ?_; (case hd => rfl); (case hg => rfl); (case hr => first | (go_simp; done) | (go_simp; rfl)); intro gb102 hg w19 hbox hb; have n0_ := Aside0.mk (below_step (by repeat (first | (with_reducible first | exact HB.out | apply below_alloc | apply pw_below_drewN | apply below_drew1) | exact HB.out)) hb); have n1_ := Aside0.mk (hbox); have n2_ := Aside0.mk ((by rw [hg]; exact (below_size (by repeat (first | (with_reducible first | exact HB.out | apply below_alloc | apply pw_below_drewN | apply below_drew1) | exact HB.out))) : w.heap.size ≤ gb102)); have n3_ := Aside0.mk ((by rw [hg]; exact (below_size (by repeat (first | (with_reducible first | exact HB.out | apply below_alloc | apply pw_below_drewN | apply below_drew1) | exact HB.out))) : w.heap.size ≤ gb102)); clear HB; have HB := n0_; have BK102 := n1_; have GW102 := n2_; have GE102 := n3_; clear n0_ n1_ n2_ n3_; clear hb hbox hg; have hcz20_0 : w19.cell? ⟨gb102, 0, none⟩ = some (.string (⟨#[]⟩ : ByteArray)) := (blk_cell BK102.out 0).trans rfl; have hcz20_1 : w19.cell? ⟨gb102, 1, none⟩ = some (.int .u8 0) := (blk_cell BK102.out 1).trans rfl; have hcz20_2 : w19.cell? ⟨gb102, 2, none⟩ = some (.bool false) := (blk_cell BK102.out 2).trans rfl; have hcz20_3 : w19.cell? ⟨gb102, 3, none⟩ = some (.string (⟨#[]⟩ : ByteArray)) := (blk_cell BK102.out 3).trans rfl; have hcz20_4 : w19.cell? ⟨gb102, 4, none⟩ = some (.int .i64 0) := (blk_cell BK102.out 4).trans rfl; have hcz20_5 : w19.cell? ⟨gb102, 5, none⟩ = some (.int .u64 0) := (blk_cell BK102.out 5).trans rfl; have hcz20_6 : w19.cell? ⟨gb102, 6, none⟩ = some (.int .u64 0) := (blk_cell BK102.out 6).trans rfl; have hcz20_7 : w19.cell? ⟨gb102, 7, none⟩ = some (.bool false) := (blk_cell BK102.out 7).trans rfl; have hcz20_8 : w19.cell? ⟨gb102, 8, none⟩ = some (.slice none 0 0) := (blk_cell BK102.out 8).trans rfl; have hfz20_0 := blk_frozen BK102.out 0; have hfz20_1 := blk_frozen BK102.out 1; have hfz20_2 := blk_frozen BK102.out 2; have hfz20_3 := blk_frozen BK102.out 3; have hfz20_4 := blk_frozen BK102.out 4; have hfz20_5 := blk_frozen BK102.out 5; have hfz20_6 := blk_frozen BK102.out 6; have hfz20_7 := blk_frozen BK102.out 7; have hfz20_8 := blk_frozen BK102.out 8) | ((with_reducible refine gate_callee (f := 20) rfl ?_); refine goesL_ (some 40) rfl rfl Tryd.func20 (by kernel_rfl) rfl #[.slice A101_8 ((rd_T76 l0 x17_2).f8).length c101_8, .int .i64 (wrap64 (a1 - 1))] rfl (by (try simp only [List.map_toArray, List.map_cons, List.map_nil]); first | done | rfl | (simp only [List.length_drop, List.length_take]; rfl)) ?_; (with_reducible refine (ih k2 (by have := HJ2.out; have := HK2.out; omega) _ _ ((rd_T76 l0 x17_2).f8) (wrap64 (a1 - 1)) t103 _ ?side1 ?side2 A18.out).mono ?_); (case side1 => exact Kd.C_below HR101_8.out (by repeat (first | (with_reducible first | exact HB.out | apply below_alloc | apply pw_below_drewN | apply below_drew1 | refine below_set ?_ GE102.out) | exact HB.out))); (case side2 => exact HC101_8.out); rintro e w21 ⟨rfl, hb⟩; refine ⟨_, rfl, ?_⟩; have n0_ := Aside0.mk (blk_below (g := gb102) (o := .cells #[.string ((rd_T76 l0 x17_2).f0), .int .u8 ((rd_T76 l0 x17_2).f1), .bool ((rd_T76 l0 x17_2).f2), .string ((rd_T76 l0 x17_2).f3), .int .i64 ((rd_T76 l0 x17_2).f4), .int .u64 ((rd_T76 l0 x17_2).f5), .int .u64 ((rd_T76 l0 x17_2).f6), .bool ((rd_T76 l0 x17_2).f7), .slice A101_8 ((rd_T76 l0 x17_2).f8).length c101_8] 76 (0, 0)) (by (with_reducible repeat (first | refine blk_drewN ?_ _ | refine blk_drew ?_ | refine blk_alloc ?_ _)); refine blk_put (cs := #[.string ((rd_T76 l0 x17_2).f0), .int .u8 ((rd_T76 l0 x17_2).f1), .bool ((rd_T76 l0 x17_2).f2), .string ((rd_T76 l0 x17_2).f3), .int .i64 ((rd_T76 l0 x17_2).f4), .int .u64 ((rd_T76 l0 x17_2).f5), .int .u64 ((rd_T76 l0 x17_2).f6), .bool ((rd_T76 l0 x17_2).f7), .slice none 0 0]) ?_ 8 _ rfl; (with_reducible repeat (first | refine blk_drewN ?_ _ | refine blk_drew ?_ | refine blk_alloc ?_ _)); refine blk_put (cs := #[.string ((rd_T76 l0 x17_2).f0), .int .u8 ((rd_T76 l0 x17_2).f1), .bool ((rd_T76 l0 x17_2).f2), .string ((rd_T76 l0 x17_2).f3), .int .i64 ((rd_T76 l0 x17_2).f4), .int .u64 ((rd_T76 l0 x17_2).f5), .int .u64 ((rd_T76 l0 x17_2).f6), .bool false, .slice none 0 0]) ?_ 7 _ rfl; (with_reducible repeat (first | refine blk_drewN ?_ _ | refine blk_drew ?_ | refine blk_alloc ?_ _)); refine blk_put (cs := #[.string ((rd_T76 l0 x17_2).f0), .int .u8 ((rd_T76 l0 x17_2).f1), .bool ((rd_T76 l0 x17_2).f2), .string ((rd_T76 l0 x17_2).f3), .int .i64 ((rd_T76 l0 x17_2).f4), .int .u64 ((rd_T76 l0 x17_2).f5), .int .u64 0, .bool false, .slice none 0 0]) ?_ 6 _ rfl; (with_reducible repeat (first | refine blk_drewN ?_ _ | refine blk_drew ?_ | refine blk_alloc ?_ _)); refine blk_put (cs := #[.string ((rd_T76 l0 x17_2).f0), .int .u8 ((rd_T76 l0 x17_2).f1), .bool ((rd_T76 l0 x17_2).f2), .string ((rd_T76 l0 x17_2).f3), .int .i64 ((rd_T76 l0 x17_2).f4), .int .u64 0, .int .u64 0, .bool false, .slice none 0 0]) ?_ 5 _ rfl; (with_reducible repeat (first | refine blk_drewN ?_ _ | refine blk_drew ?_ | refine blk_alloc ?_ _)); refine blk_put (cs := #[.string ((rd_T76 l0 x17_2).f0), .int .u8 ((rd_T76 l0 x17_2).f1), .bool ((rd_T76 l0 x17_2).f2), .string ((rd_T76 l0 x17_2).f3), .int .i64 0, .int .u64 0, .int .u64 0, .bool false, .slice none 0 0]) ?_ 4 _ rfl; (with_reducible repeat (first | refine blk_drewN ?_ _ | refine blk_drew ?_ | refine blk_alloc ?_ _)); refine blk_put (cs := #[.string ((rd_T76 l0 x17_2).f0), .int .u8 ((rd_T76 l0 x17_2).f1), .bool ((rd_T76 l0 x17_2).f2), .string (⟨#[]⟩ : ByteArray), .int .i64 0, .int .u64 0, .int .u64 0, .bool false, .slice none 0 0]) ?_ 3 _ rfl; (with_reducible repeat (first | refine blk_drewN ?_ _ | refine blk_drew ?_ | refine blk_alloc ?_ _)); refine blk_put (cs := #[.string ((rd_T76 l0 x17_2).f0), .int .u8 ((rd_T76 l0 x17_2).f1), .bool false, .string (⟨#[]⟩ : ByteArray), .int .i64 0, .int .u64 0, .int .u64 0, .bool false, .slice none 0 0]) ?_ 2 _ rfl; (with_reducible repeat (first | refine blk_drewN ?_ _ | refine blk_drew ?_ | refine blk_alloc ?_ _)); refine blk_put (cs := #[.string ((rd_T76 l0 x17_2).f0), .int .u8 0, .bool false, .string (⟨#[]⟩ : ByteArray), .int .i64 0, .int .u64 0, .int .u64 0, .bool false, .slice none 0 0]) ?_ 1 _ rfl; (with_reducible repeat (first | refine blk_drewN ?_ _ | refine blk_drew ?_ | refine blk_alloc ?_ _)); refine blk_put (cs := #[.string (⟨#[]⟩ : ByteArray), .int .u8 0, .bool false, .string (⟨#[]⟩ : ByteArray), .int .i64 0, .int .u64 0, .int .u64 0, .bool false, .slice none 0 0]) ?_ 0 _ rfl; (with_reducible repeat (first | refine blk_drewN ?_ _ | refine blk_drew ?_ | refine blk_alloc ?_ _)); exact BK102.out) hb); have n1_ := Aside0.mk (below_step (by repeat (first | (with_reducible first | exact HB.out | apply below_alloc | apply pw_below_drewN | apply below_drew1 | refine below_set ?_ GE102.out) | exact HB.out)) hb); clear BK102; clear HB; have BK102 := n0_; have HB := n1_; clear n0_ n1_; (try clear hb); (try clear hb2); (try clear hk); (try clear hi)))
                        go_roundg k2
                        case measure => have := HJ2.out; have := HK2.out; omega
                        case rel => exact ⟨(wrap64 (x5_2 + (wrap64 (1 + t103)))), (wrap64 (x17_2 + 1)), (by first | rfl | (simp; done) | (simp [*]; done)), (by first | rfl | (simp; done) | (simp [*]; done)), H', ⟨by have := HJ2.out; have := HK2.out; omega⟩, ⟨by repeat (first | (with_reducible first | exact HB.out | apply below_alloc | apply pw_below_drewN | apply below_drew1 | refine below_set ?_ GE102.out) | exact HB.out)⟩⟩
                · rw [if_neg c8] at H
                  exact absurd H (by simp)
              · rw [if_neg c7] at H
                exact absurd H (by simp)
            · rw [if_neg c6] at H
              have c6b0 : decide (x17_2 < (l0.length : Int)) = false := decide_eq_false c6
              clear c6
              obtain rfl := Option.some.inj H
              go_wp2
              go_ret
              exact ⟨by first | rfl | (simp [errW_none, errW_some] <;> rfl) | (simp [*, errW_none, errW_some] <;> rfl), by repeat (first | (with_reducible first | exact HB.out | apply below_alloc | apply pw_below_drewN | apply below_drew1) | exact HB.out)⟩

/-! ### laws_few: function 9 -/
def laws_few.f (k : Nat) (l0 : List (S76)) (a1 : Int) (a2 : Int) : Option (Bool) := (laws_size.f k l0 a2).bind fun t104 => (some (decide (t104 ≤ a1)))
theorem laws_few.mono : ∀ a0 a1 a2 k, LeO (laws_few.f k a0 a1 a2) (laws_few.f (k + 1) a0 a1 a2) := by
  intro a0 a1 a2 k
  unfold laws_few.f
  repeat' first
      | (with_reducible exact laws_size.mono _ _ _)
      | (with_reducible exact LeO.refl _)
      | (with_reducible exact LeO.none _)
      | (with_reducible refine LeO.ite ?_ ?_)
      | (with_reducible refine LeO.bind ?_ (fun _ => ?_))
      | exact laws_size.mono _ _ _
      | exact LeO.none _
      | refine LeO.ite ?_ ?_
      | refine LeO.bind ?_ (fun _ => ?_)
set_option maxHeartbeats 8000000 in
set_option maxRecDepth 100000 in
theorem laws_few.calls (k : Nat) (A0 : Option Addr) (c0 : Nat) (l0 : List (S76)) (a1 : Int) (a2 : Int) (r : Bool) (w : World) (hr0 : Kd.C k76 w A0 l0.length l0) (hc0 : l0.length ≤ c0) (h : laws_few.f k l0 a1 a2 = some r) :
    Calls Tryd.prog 9 #[.slice A0 l0.length c0, .int .i64 a1, .int .i64 a2] w fun e w' => e = .returned (.bool r) ∧ Below w.heap.size w w' := by
  have HR0 := Aside0.mk hr0
  have HC0 := Aside0.mk hc0
  clear hr0 hc0
  have HB := Aside0.mk (Below.refl w.heap.size w)
  have H : ((laws_size.f k l0 a2).bind fun t104 => (some (decide (t104 ≤ a1)))) = some r := h
  clear h
  replace H := Option.bind_eq_some_iff.mp H
  obtain ⟨t104, A40, H⟩ := H
  replace H : (some (decide (t104 ≤ a1))) = some r := H
  have A4 := Aside0.mk A40
  clear A40
  obtain rfl := Option.some.inj H
  go_enter Tryd.func9, Tryd.ntmps9
  go_wp2_with (first | ((with_reducible refine gate_callee (f := 20) rfl ?_); refine goesL_ (some 9) rfl rfl Tryd.func20 (by kernel_rfl) rfl #[.slice A0 l0.length c0, .int .i64 a2] rfl (by (try simp only [List.map_toArray, List.map_cons, List.map_nil]); first | done | rfl | (simp only [List.length_drop, List.length_take]; rfl)) ?_; (with_reducible refine (laws_size.calls k _ _ l0 a2 t104 _ ?side1 ?side2 A4.out).mono ?_); (case side1 => repeat (first | exact HR0.out | (with_reducible refine Kd.C_alloc ?_ _) | (with_reducible refine Kd.C_drewN ?_ _) | (with_reducible refine Kd.C_drew ?_))); (case side2 => exact HC0.out); rintro e w5 ⟨rfl, hb⟩; refine ⟨_, rfl, ?_⟩; have n0_ := Aside0.mk (below_step (by repeat (first | (with_reducible first | exact HB.out | apply below_alloc | apply pw_below_drewN | apply below_drew1) | exact HB.out)) hb); clear HB; have HB := n0_; clear n0_; (try clear hb); (try clear hb2); (try clear hk); (try clear hi)))
  go_ret
  exact ⟨by first | rfl | (simp [errW_none, errW_some] <;> rfl) | (simp [*, errW_none, errW_some] <;> rfl), by repeat (first | (with_reducible first | exact HB.out | apply below_alloc | apply pw_below_drewN | apply below_drew1) | exact HB.out)⟩


/-! ### laws_blank: function 10 -/
def laws_blank.l0 : Nat → ByteArray → Int → Option (Bool)
  | 0, _, _ => none
  | k + 1, x0, x3 => if x3 < (x0.size : Int) then (if 0 ≤ x3 then (if (bt x0 x3) = 32 then (laws_blank.l0 k x0 (wrap64 (x3 + 1))) else (if (bt x0 x3) = 9 then (laws_blank.l0 k x0 (wrap64 (x3 + 1))) else (some false))) else (none)) else (some (decide ((x0.size : Int) ≤ 8)))
def laws_blank.f (k : Nat) (a0 : ByteArray) : Option (Bool) := laws_blank.l0 k a0 0
theorem laws_blank.mono_l : ∀ k, (∀ y0 y1, LeO (laws_blank.l0 k y0 y1) (laws_blank.l0 (k + 1) y0 y1))
  | 0 => fun _ _ r h => by simp [laws_blank.l0] at h
  | k + 1 => by
    have ih0 := laws_blank.mono_l k
    · intro y0 y1
      unfold laws_blank.l0
      repeat' first
      | (with_reducible exact ih0 _ _)
      | (with_reducible exact LeO.refl _)
      | (with_reducible exact LeO.none _)
      | (with_reducible refine LeO.ite ?_ ?_)
      | (with_reducible refine LeO.bind ?_ (fun _ => ?_))
      | exact ih0 _ _
      | exact LeO.none _
      | refine LeO.ite ?_ ?_
      | refine LeO.bind ?_ (fun _ => ?_)
theorem laws_blank.mono : ∀ a0 k, LeO (laws_blank.f k a0) (laws_blank.f (k + 1) a0) := by
  intro a0 k
  have ih0 := laws_blank.mono_l k
  unfold laws_blank.f
  repeat' first
      | (with_reducible exact ih0 _ _)
      | (with_reducible exact LeO.refl _)
      | (with_reducible exact LeO.none _)
      | (with_reducible refine LeO.ite ?_ ?_)
      | (with_reducible refine LeO.bind ?_ (fun _ => ?_))
      | exact ih0 _ _
      | exact LeO.none _
      | refine LeO.ite ?_ ?_
      | refine LeO.bind ?_ (fun _ => ?_)
set_option maxHeartbeats 8000000 in
set_option maxRecDepth 100000 in
theorem laws_blank.calls (k : Nat) (a0 : ByteArray) (r : Bool) (w : World) (h : laws_blank.f k a0 = some r) :
    Calls Tryd.prog 10 #[.string a0] w fun e w' => e = .returned (.bool r) ∧ Drawn0 w w' := by
  have H : (laws_blank.l0 k a0 0) = some r := h
  clear h
  have H' := Aside0.mk H
  clear H
  go_enter Tryd.func10, Tryd.ntmps10
  go_wp2
  go_loopg [3] k (fun kq v3 w' => ∃ (x3_1 : Int), v3 = .int .i64 x3_1 ∧ Aside0 (laws_blank.l0 kq a0 x3_1 = some r) ∧ Aside0 (kq ≤ k) ∧ Drawn0 w w')
  case atStart => exact ⟨(0), (by first | rfl | (simp; done) | (simp [*]; done)), H', ⟨Nat.le_refl _⟩, by repeat (first | exact Drawn0.refl _ | apply Drawn0.step)⟩
  case round =>
    clear H'
    try clear c1
    obtain ⟨x3_1, rfl, HA, HK1, ⟨m1, rfl⟩⟩ := hrel
    cases gk with
    | zero => exact absurd HA.out (by simp [laws_blank.l0])
    | succ k1 =>
      have H := HA.out
      clear HA
      simp only [laws_blank.l0] at H
      by_cases c2 : x3_1 < (a0.size : Int)
      · rw [if_pos c2] at H
        have c2b0 : decide (x3_1 < (a0.size : Int)) = true := decide_eq_true c2
        clear c2
        by_cases c3 : 0 ≤ x3_1
        · rw [if_pos c3] at H
          have c3b0 : decide (0 ≤ x3_1) = true := decide_eq_true c3
          clear c3
          by_cases c5 : (bt a0 x3_1) = 32
          · rw [if_pos c5] at H
            have c5b0 : ((bt a0 x3_1) == 32) = true := beq_iff_eq.mpr c5
            have c5b1 : ((bt a0 x3_1) != 32) = false := bne_eq_false_iff_eq.mpr c5
            clear c5
            have H' := Aside0.mk H
            clear H
            have p4 : 0 ≤ (x3_1 : Int) := of_decide_eq_true (by first | (with_reducible assumption) | assumption)
            have q4 : x3_1 < (a0.size : Int) := of_decide_eq_true (by first | (with_reducible assumption) | assumption)
            have hx4 := bt_at a0 x3_1
            replace p4 := eq_true p4
            replace q4 := eq_true q4
            go_wp2
            go_roundg k1
            case measure => have := HK1.out; omega
            case rel => exact ⟨(wrap64 (x3_1 + 1)), (by first | rfl | (simp; done) | (simp [*]; done)), H', ⟨by have := HK1.out; omega⟩, by repeat (first | exact Drawn0.refl _ | apply Drawn0.step)⟩
          · rw [if_neg c5] at H
            have c5b0 : ((bt a0 x3_1) == 32) = false := beq_eq_false_iff_ne.mpr c5
            have c5b1 : ((bt a0 x3_1) != 32) = true := bne_iff_ne.mpr c5
            by_cases c7 : (bt a0 x3_1) = 9
            · rw [if_pos c7] at H
              have c7b0 : ((bt a0 x3_1) == 9) = true := beq_iff_eq.mpr c7
              have c7b1 : ((bt a0 x3_1) != 9) = false := bne_eq_false_iff_eq.mpr c7
              clear c7
              have H' := Aside0.mk H
              clear H
              have p4 : 0 ≤ (x3_1 : Int) := of_decide_eq_true (by first | (with_reducible assumption) | assumption)
              have q4 : x3_1 < (a0.size : Int) := of_decide_eq_true (by first | (with_reducible assumption) | assumption)
              have hx4 := bt_at a0 x3_1
              replace p4 := eq_true p4
              replace q4 := eq_true q4
              have p6 : 0 ≤ (x3_1 : Int) := of_decide_eq_true (by first | (with_reducible assumption) | assumption)
              have q6 : x3_1 < (a0.size : Int) := of_decide_eq_true (by first | (with_reducible assumption) | assumption)
              have hx6 := bt_at a0 x3_1
              replace p6 := eq_true p6
              replace q6 := eq_true q6
              go_wp2
              go_roundg k1
              case measure => have := HK1.out; omega
              case rel => exact ⟨(wrap64 (x3_1 + 1)), (by first | rfl | (simp; done) | (simp [*]; done)), H', ⟨by have := HK1.out; omega⟩, by repeat (first | exact Drawn0.refl _ | apply Drawn0.step)⟩
            · rw [if_neg c7] at H
              have c7b0 : ((bt a0 x3_1) == 9) = false := beq_eq_false_iff_ne.mpr c7
              have c7b1 : ((bt a0 x3_1) != 9) = true := bne_iff_ne.mpr c7
              obtain rfl := Option.some.inj H
              have p4 : 0 ≤ (x3_1 : Int) := of_decide_eq_true (by first | (with_reducible assumption) | assumption)
              have q4 : x3_1 < (a0.size : Int) := of_decide_eq_true (by first | (with_reducible assumption) | assumption)
              have hx4 := bt_at a0 x3_1
              replace p4 := eq_true p4
              replace q4 := eq_true q4
              have p6 : 0 ≤ (x3_1 : Int) := of_decide_eq_true (by first | (with_reducible assumption) | assumption)
              have q6 : x3_1 < (a0.size : Int) := of_decide_eq_true (by first | (with_reducible assumption) | assumption)
              have hx6 := bt_at a0 x3_1
              replace p6 := eq_true p6
              replace q6 := eq_true q6
              go_wp2
              go_ret
              exact ⟨by first | rfl | (simp; done) | (simp [*]; done), by repeat (first | exact Drawn0.refl _ | apply Drawn0.step)⟩
        · rw [if_neg c3] at H
          exact absurd H (by simp)
      · rw [if_neg c2] at H
        have c2b0 : decide (x3_1 < (a0.size : Int)) = false := decide_eq_false c2
        clear c2
        obtain rfl := Option.some.inj H
        go_wp2
        go_ret
        exact ⟨by first | rfl | (simp; done) | (simp [*]; done), by repeat (first | exact Drawn0.refl _ | apply Drawn0.step)⟩

/-- THE ONE PURE STATEMENT of laws_blank: yours. -/
def laws_blank.Pure : Prop := ∀ (a0 : ByteArray), a0.size ≤ 140737488351232 → ∃ k, laws_blank.f k a0 = some true
theorem laws_blank.walk (P : laws_blank.Pure) (a0 : ByteArray) (w : World) (w0 : a0.size ≤ 140737488351232) :
    Calls Tryd.prog 10 #[.string a0] w fun e w' => e = .returned (.bool true) ∧ Below w.heap.size w w' := by
  obtain ⟨k, h⟩ := P a0 w0
  refine (laws_blank.calls k a0 true w h).mono ?_
  rintro e w' ⟨rfl, hd⟩
  exact ⟨rfl, hd.below⟩

end Go.Proofs.YtdggjpdhbailpaaDoor.Fw
