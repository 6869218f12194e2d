/- TextEncode: calls that open and close evenly are written as ASCII; what is written is not empty if there is a call. Conditions: as in Te1. -/
import Derived.Test.YticfdfomlcohpaaDoorZTe1
import Derived.Test.YticfdfomlcohpaaDoorZNe
import Derived.Deep.LoopGhost
namespace Go.Proofs.YticfdfomlcohpaaDoor.Te2
set_option linter.unusedSimpArgs false
set_option linter.unusedVariables false
open Go.RowKit Go.Proofs.YticfdfomlcohpaaDoorW.PrintWords Go.Proofs.YticfdfomlcohpaaDoorW.PrintLast Go.Proofs.YticfdfomlcohpaaDoorW.PrintMore Go.Proofs.YticfdfomlcohpaaDoor.As1 Go.Proofs.YticfdfomlcohpaaDoor.En0 Go.Proofs.YticfdfomlcohpaaDoor.Bl Go.Proofs.YticfdfomlcohpaaDoor.Pn2 Go.Proofs.YticfdfomlcohpaaDoor.Wr Go.Proofs.YticfdfomlcohpaaDoor.Td Go.Proofs.YticfdfomlcohpaaDoor.Td2 Go.Proofs.YticfdfomlcohpaaDoor.Ok Go.Proofs.YticfdfomlcohpaaDoor.Te Go.Proofs.YticfdfomlcohpaaDoor.Zt Go.Proofs.YticfdfomlcohpaaDoor.Ne Go.Proofs.YticfdfomlcohpaaDoor.Lf Go.Proofs.YticfdfomlcohpaaDoor.PFnTextAscii

theorem at_lower {w : World} {base base' b : Nat} {I : ByteArray} {d0 d1 : Int} {asc : Bool} {last : Int} {vI vO : Value} {ind out : List Int} (h : At w base' b I d0 d1 asc last vI vO ind out) (hb : base ≤ base') : At w base b I d0 d1 asc last vI vO ind out :=
  ⟨h.blk, Nat.le_trans hb h.le, Kd.R_lower h.hI hb, Kd.R_lower h.hO hb⟩

theorem bytes (w : World) (base b : Nat) (I : ByteArray) (d0 d1 : Int) (asc : Bool) (last : Int) (vI vO : Value) (ind out : List Int) (h : At w base b I d0 d1 asc last vI vO ind out) :
    Calls Tryd.prog 24 #[.pointer (some ⟨b, 0, none⟩)] w fun e w' => e = .returned vO ∧ w' = w := by
  have c2 := h.c2
  clear h
  go_enter Tryd.func24, Tryd.ntmps24
  go_wp2
  go_ret
  exact ⟨rfl, rfl⟩

theorem copy (A : Option Addr) (n c : Nat) (l : List Int) (w : World) (hr : Kd.C (Kd.int .u8) w A n l) (hc : n ≤ c) (hl : l.length < 140737488355328) :
    Calls Tryd.prog 23 #[.slice A n c] w fun e w' => ∃ v : Value, e = .returned v ∧ Kd.R (Kd.int .u8) 5 w' w.heap.size (fun _ => True) v l ∧ Below w.heap.size w w' := by
  obtain rfl : l.length = n := hr.1
  exact impl_copied.calls A c l l w hr hc (by simp [impl_copied.f, hl])

theorem asc_range {l : List Int} (h : Asc l) : ∀ x ∈ l, 0 ≤ x ∧ x < 128 := h

set_option maxHeartbeats 1000000 in
set_option maxRecDepth 100000 in
theorem enc (A : Option Addr) (c : Nat) (ops : List TOp) (I : ByteArray) (angle : Bool) (w0 : World) (hr : Kd.C kOp w0 A ops.length ops) (hc : ops.length ≤ c) (hI : Blanks I) (hI8 : I.size ≤ 8) (hIa : Asc (bytesOf I)) (hn : ops.length ≤ 2000) (hb : Bal ops) (hg : ∀ o ∈ ops, Td2.Good o) (hA : Apps w0) :
    Calls Tryd.prog 11 #[.slice A ops.length c, .string I, .bool angle, .bool true] w0 fun e w' => ∃ (v : Value) (r : List Int), e = .returned (.tuple #[v, .bool true]) ∧ Kd.R (Kd.int .u8) 5 w' w0.heap.size (fun _ => True) v r ∧ Asc r ∧ (ops ≠ [] → r ≠ []) ∧ r.length ≤ 240000000 ∧ Below w0.heap.size w0 w' := by
  have HR := Aside0.mk hr
  have HC := Aside0.mk hc
  have HI := Aside0.mk hI
  have HP := Aside0.mk (And.intro hI8 (And.intro hIa (And.intro hn (And.intro hb (And.intro hg hA)))))
  have hu71 := Tryd.underlying71
  clear hr hc hI hI8 hIa hn hb hg hA
  obtain ⟨d0, hd0⟩ : ∃ x : Int, x = if angle then 60 else 123 := ⟨_, rfl⟩
  obtain ⟨d1, hd1⟩ : ∃ x : Int, x = if angle then 62 else 125 := ⟨_, rfl⟩
  have HD := Aside0.mk (show 0 ≤ d0 ∧ d0 < 128 ∧ 0 ≤ d1 ∧ d1 < 128 by subst hd0 hd1; cases angle <;> decide)
  have HNew : ∀ W : World, Aside0 (Calls Tryd.prog 21 #[.slice none 0 0, .string I, .agg #[.int .u8 (if angle then 60 else 0), .int .u8 (if angle then 62 else 0)], .bool true] W fun e w' => e = .returned (.tuple #[.pointer (some ⟨W.heap.size + 1, 0, none⟩), .nilIface]) ∧
      At w' W.heap.size (W.heap.size + 1) I d0 d1 true 0 (.slice none 0 0) (.slice none 0 0) [] [] ∧ Below W.heap.size W w') := fun W => Aside0.mk (by rw [hd0, hd1]; exact new I HI.out angle true W)
  clear hd0 hd1
  cases angle
  all_goals go_enter Tryd.func11, Tryd.ntmps11
  all_goals go_wp2_with (go_at_call 21; go_must (refine (HNew _).out.mono ?_; rintro e1 w1 ⟨rfl, hA1, hB1⟩; have HA1 := Aside0.mk hA1; have HB1 := Aside0.mk hB1; clear hA1 hB1))
  all_goals (
    have hA2 : At w1 w0.heap.size (w0.heap.size + 1 + 1) I d0 d1 true 0 (.slice none 0 0) (.slice none 0 0) [] [] := by
      have h := HA1.out
      rw [show (w0.alloc _).heap.size = w0.heap.size + 1 from by simp] at h
      exact at_lower h (Nat.le_succ _)
    have hB2 : Below w0.heap.size w0 w1 := below_then (below_alloc (Below.refl _ _) _) (by simp) HB1.out
    obtain ⟨t, ht, -, -⟩ := Bal.runs HP.out.2.2.2.1 (bytesOf I) 0 [] (.inl rfl)
    have HS0 := Aside0.mk (show St w0 w1 (w0.heap.size + 1 + 1) I d0 d1 ops 0 from ⟨hB2, 0, [], [], _, _, t, hA2, .inl rfl, ht, fun x hx => (by cases hx), fun x hx => (by cases hx), by simp, by simp, fun h => absurd h (Nat.lt_irrefl 0)⟩)
    clear hA2 hB2 HA1 HB1 ht HNew
    go_loopg [28] ops.length (fun k v28 w' => ∃ i : Nat, v28 = .int .i64 (i : Int) ∧ Aside0 (i + k = ops.length) ∧ Aside0 (St w0 w' (w0.heap.size + 1 + 1) I d0 d1 ops i))
    case atStart => exact ⟨0, rfl, ⟨by omega⟩, HS0⟩
    case round =>
      clear HS0
      obtain ⟨i, rfl, HK, HS⟩ := hrel
      by_cases hi : i < ops.length
      · obtain ⟨ad, e, x0, x1, x2, x3, x4, x5, x6⟩ := at_op HR.out (i : Int) (by omega) (by omega)
        cases e
        rw [Int.toNat_natCast] at x0 x1 x2 x3 x4 x5 x6
        have hB := HS.out.1
        replace x0 := (hB.cell (World.block_lt_of_cell? w0 _ x0)).trans x0
        replace x1 := (hB.cell (World.block_lt_of_cell? w0 _ x1)).trans x1
        replace x2 := (hB.cell (World.block_lt_of_cell? w0 _ x2)).trans x2
        replace x3 := (hB.cell (World.block_lt_of_cell? w0 _ x3)).trans x3
        replace x4 := (hB.cell (World.block_lt_of_cell? w0 _ x4)).trans x4
        replace x5 := (hB.cell (World.block_lt_of_cell? w0 _ x5)).trans x5
        replace x6 := (hB.cell (World.block_lt_of_cell? w0 _ x6)).trans x6
        have hgo : Td2.Good (rdOp ops (i : Int)) := by
          refine HP.out.2.2.2.2.1 _ ?_
          simp [rdOp, List.getD_eq_getElem?_getD, hi]
        have HTD : Aside0 (∀ W, Below wr.heap.size wr W → Calls Tryd.prog 22 #[.pointer (some ⟨w0.heap.size + 1 + 1, 0, none⟩), opV (rdOp ops (i : Int))] W fun e w' => e = .returned (.tuple #[]) ∧ St w0 w' (w0.heap.size + 1 + 1) I d0 d1 ops (i + 1)) := Aside0.mk (by
          intro W hW
          have hS2 : St w0 W (w0.heap.size + 1 + 1) I d0 d1 ops i := by
            obtain ⟨q1, last, ind, out, vI, vO, t, q2, q3⟩ := HS.out
            exact ⟨below_then q1 q1.size hW, last, ind, out, vI, vO, t, q2.below hW, q3⟩
          obtain ⟨last, ind, out, p1, p2⟩ := st_pre hS2 hi HP.out.2.2.1 HP.out.1 HP.out.2.1 HP.out.2.2.2.1
          exact (td _ hgo _ last I d0 d1 ind out w0 W HP.out.2.2.2.2.2 HD.out.1 HD.out.2.1 HD.out.2.2.1 HD.out.2.2.2 p1).mono fun e w' hh => p2 e w' hh)
        have HI2 := Aside0.mk hi
        have c0 : decide ((i : Int) < (ops.length : Int)) = true := decide_eq_true (by omega)
        have c1 := eq_true (show (0 : Int) ≤ (i : Int) by omega)
        have c2 := eq_true (show (i : Int) < (ops.length : Int) by omega)
        have c3 : IntKind.i64.wrap ((i : Int) + 1) = ((i + 1 : Nat) : Int) := by have := HP.out.2.2.1; rw [IntKind.wrap_i64]; omega
        have c4 : wrap64 ((i : Int) + 1) = ((i + 1 : Nat) : Int) := by have := HP.out.2.2.1; unfold wrap64; omega
        clear hB hi hgo
        go_wp2_with (go_at_call 22; go_must (refine (HTD.out _ (below_alloc (Below.refl _ _) _)).mono ?_; rintro e2 w2 ⟨rfl, hS2⟩; have HS2 := Aside0.mk hS2; clear hS2))
        go_roundg (ops.length - (i + 1))
        case measure => have := HK.out; have := HI2.out; omega
        case rel => exact ⟨i + 1, by first | rfl | (simp; done) | (simp [c4]; done), ⟨by have := HI2.out; omega⟩, HS2⟩
      · have hin : i = ops.length := by have := HK.out; omega
        subst hin
        have c0 : decide ((ops.length : Int) < (ops.length : Int)) = false := decide_eq_false (by omega)
        obtain ⟨hB, last, ind, out, vI, vO, t, hA, -, -, -, a2, -, l2, l3⟩ := HS.out
        obtain ⟨AO, cO, rfl, hle, hC⟩ := Kd.R_reads hA.hO
        have HA := Aside0.mk hA
        have HC2 := Aside0.mk (And.intro hC (And.intro hle (And.intro a2 (And.intro l2 l3))))
        have HB := Aside0.mk hB
        clear hA hC hle a2 l2 l3 hB hi
        go_wp2_with (first
          | (go_at_call 24; go_must (refine (bytes _ _ _ _ _ _ _ _ _ _ _ _ HA.out).mono ?_; rintro e2 w2 ⟨rfl, rfl⟩))
          | (go_at_call 23; go_must (refine (copy AO out.length cO out _ HC2.out.1 HC2.out.2.1 (by have := HC2.out.2.2.2.1; have := HP.out.2.2.1; omega)).mono ?_; rintro e3 w3 ⟨v, rfl, hR, hB3⟩; have HR3 := Aside0.mk hR; have HB3 := Aside0.mk hB3; clear hR hB3)))
        go_ret2
        exact ⟨v, out, rfl, Kd.R_lower HR3.out HB.out.size, HC2.out.2.2.1, fun h => HC2.out.2.2.2.2 (List.length_pos_iff.2 h), (by have := HC2.out.2.2.2.1; have := HP.out.2.2.1; omega), below_then HB.out HB.out.size HB3.out⟩)

end Go.Proofs.YticfdfomlcohpaaDoor.Te2
