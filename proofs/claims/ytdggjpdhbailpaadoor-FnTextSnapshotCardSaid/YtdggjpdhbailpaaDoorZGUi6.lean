/- AppendInt at base 10 at every number, the public one: the same digits in whatever world. Conditions: as in Ui4. -/
import Derived.Test.YtdggjpdhbailpaaDoorZGUi5
import Derived.Test.YtdggjpdhbailpaaDoorZGEs0
namespace Go.Proofs.YtdggjpdhbailpaaDoor.Ui6
set_option linter.unusedSimpArgs false
set_option linter.unusedVariables false
open Go.RowKit Go.Proofs.YtdggjpdhbailpaaDoorW.PrintWords Go.Proofs.YtdggjpdhbailpaaDoorW.PrintLast Go.Proofs.YtdggjpdhbailpaaDoorW.PrintMore Go.Proofs.YtdggjpdhbailpaaDoor.As1 Go.Proofs.YtdggjpdhbailpaaDoor.Es Go.Proofs.YtdggjpdhbailpaaDoor.Uh Go.Proofs.YtdggjpdhbailpaaDoor.Ui1 Go.Proofs.YtdggjpdhbailpaaDoor.Ui2 Go.Proofs.YtdggjpdhbailpaaDoor.Ui4 Go.Proofs.YtdggjpdhbailpaaDoor.Ui5 Go.Proofs.YtdggjpdhbailpaaDoor.PFnTextAscii

/-- The digits, with their sign. -/
def ints (i : Int) : List Int := if 0 ≤ i then bytesOf (decs i.toNat) else [45] ++ bytesOf (decs (-i).toNat)
theorem dig_lt (d : Nat) (h : d < 10) : (UInt8.ofNat (48 + d)).toNat < 128 := by
  rw [UInt8.toNat_ofNat']
  omega
theorem decs_lt (u : Nat) : ∀ x ∈ Lib.decDigits u, x.toNat < 128 := by
  induction u using Nat.strongRecOn with
  | _ u ih =>
    intro x hx
    rw [Lib.decDigits] at hx
    by_cases h : u < 10
    · rw [dif_pos h] at hx
      rw [List.mem_singleton.1 hx]
      exact dig_lt u h
    · rw [dif_neg h] at hx
      rcases List.mem_append.1 hx with hx | hx
      · exact ih (u / 10) (by omega) x hx
      · rw [List.mem_singleton.1 hx]
        exact dig_lt _ (by omega)
theorem decs_ok (u : Nat) (hu : u < 18446744073709551616) : (∀ x ∈ bytesOf (decs u), 0 ≤ x ∧ x < 128) ∧ (bytesOf (decs u)).length ≤ 20 := by
  refine ⟨fun x hx => ?_, by rw [bytesOf_length]; exact @small_size (Gho.mk (.slice none 0 0) []) u hu⟩
  unfold bytesOf decs at hx
  obtain ⟨y, hy, rfl⟩ := List.mem_map.1 hx
  have := decs_lt u y (by simpa using hy)
  omega

theorem ints_len (i : Int) (h0 : -9223372036854775808 ≤ i) (h1 : i ≤ 9223372036854775807) : (ints i).length ≤ 30 := by
  unfold ints
  split
  · have := (decs_ok i.toNat (by omega)).2; omega
  · have := (decs_ok (-i).toNat (by omega)).2
    rw [List.length_append]
    simp only [List.length_cons, List.length_nil]
    omega
section
variable [γ_ : Gho]
set_option maxHeartbeats 1000000 in
set_option maxRecDepth 100000 in
theorem ai_neg (i : Int) (u : Nat) (hi : i = -(u : Int)) (hu0 : 0 < u) (hu : u ≤ 9223372036854775808) (P0 : Nat → Prop) (v : Value) (l : List Int) (w0 w : World) (hl : l.length + 4700 < 140737488355328) (hB : Below w0.heap.size w0 w) (ho : Kd.G (Kd.int .u8) 5 w w0.heap.size P0 v l) (hT2 : Ft1.Tab w0) :
    Calls Tryd.prog 94 #[v, .int .i64 i, .int .i64 10] w (AddP w0 w P0 l ([45] ++ bytesOf (decs u))) := by
  obtain ⟨m, hm⟩ : ∃ m : Int, m = 18446744073709551616 - u := ⟨_, rfl⟩
  obtain ⟨U, hU⟩ : ∃ U : Int, U = (u : Int) := ⟨_, rfl⟩
  have n1 : IntKind.u64.wrap i = m := by rw [IntKind.wrap_u64]; omega
  have n3 : IntKind.u64.wrap (-m) = U := by rw [IntKind.wrap_u64]; omega
  have n2 : decide (i < 0) = true := decide_eq_true (by omega)
  have Q0 := Aside0.mk (Qr.start (P0 := P0) hB ho)
  have HAU : Aside0 (∀ W v l2, Qr w0 w W P0 v l2 → l2.length + 4600 < 140737488355328 → Calls Tryd.prog 95 #[v, .int .u64 U, .int .i64 10] W fun e w' => ∃ v', e = .returned v' ∧ Kd.G (Kd.int .u8) 5 w' w0.heap.size (fun k => (P0 k ∨ w.heap.size ≤ k) ∨ W.heap.size ≤ k) v' (l2 ++ bytesOf (decs u)) ∧ Below w0.heap.size w0 w' ∧ Kept W w' (fun k => P0 k ∨ w.heap.size ≤ k)) :=
    Aside0.mk (fun W v l2 hq hl2 => by rw [hU]; exact au u (by omega) _ v l2 w0 W hl2 hq.B hq.R (hT2.on hq.B))
  have HD := Aside0.mk (decs_ok u (by omega))
  have HLEN := Aside0.mk hl
  clear hm hi hu0 hu hl hB ho hT2 hU
  go_enter Tryd.func94, Tryd.ntmps94
  go_wp2_with (first
    | (at_builtin; refine Kd.G_append (Kd.int .u8) (w0 := w0) w0.heap.size rfl (.tmp 12) (.tmp 13) 29 5 (.int .u8 0) 1 rfl Tryd.underlying29 info5 rfl (by decide) (by omega) v l 45 [.int .u8 45] (fun k => P0 k ∨ w.heap.size ≤ k) (fun _ => False) rfl rfl rfl (fun _ hk => hk.elim) (fun k hk => Q0.out.fresh k hk) Q0.out.R Q0.out.B Q0.out.B.size (by have := HLEN.out; omega) ?_; intro v2 w2 hR hB hG hat; have Q2 := Aside0.mk (Q0.out.grown hR hB hG); clear hR hB hG hat)
    | (go_at_call 95; go_must (refine (HAU.out _ v2 (l ++ [45]) Q2.out (by have := HLEN.out; rw [List.length_append]; simp only [List.length_cons, List.length_nil]; omega)).mono ?_; rintro e3 w3 ⟨v3, rfl, hR, hB, hK⟩; have Q3 := Aside0.mk (Q2.out.kept hR hB hK); clear hR hB hK)))
  go_ret
  exact ⟨v3, rfl, by have h := Q3.out.R; rwa [List.append_assoc] at h, Q3.out.B, Q3.out.K⟩

theorem ai (i : Int) (h0 : -9223372036854775808 ≤ i) (h1 : i ≤ 9223372036854775807) (P0 : Nat → Prop) (v : Value) (l : List Int) (w0 w : World) (hl : l.length + 4700 < 140737488355328) (hB : Below w0.heap.size w0 w) (ho : Kd.G (Kd.int .u8) 5 w w0.heap.size P0 v l) (hT2 : Ft1.Tab w0) :
    Calls Tryd.prog 94 #[v, .int .i64 i, .int .i64 10] w (AddP w0 w P0 l (ints i)) := by
  unfold ints
  by_cases h : 0 ≤ i
  · rw [if_pos h]
    obtain ⟨u, rfl⟩ := Int.eq_ofNat_of_zero_le h
    exact ai_pos u (by omega) P0 v l w0 w (by omega) hB ho (hT2.on hB)
  · rw [if_neg h]
    exact ai_neg i (-i).toNat (by omega) (by omega) (by omega) P0 v l w0 w hl hB ho hT2

theorem aip (i : Int) (h0 : -9223372036854775808 ≤ i) (h1 : i ≤ 9223372036854775807) (P0 : Nat → Prop) (v : Value) (l : List Int) (w0 w : World) (hl : l.length + 4700 < 140737488355328) (hB : Below w0.heap.size w0 w) (ho : Kd.G (Kd.int .u8) 5 w w0.heap.size P0 v l) (hT2 : Ft1.Tab w0) :
    Calls Tryd.prog 80 #[v, .int .i64 i, .int .i64 10] w (AddP w0 w P0 l (ints i)) := by
  have HC := Aside0.mk (ai i h0 h1 P0 v l w0 w hl hB ho hT2)
  clear h0 h1 hl hB ho hT2
  generalize ints i = r at HC
  go_enter Tryd.func80, Tryd.ntmps80
  go_wp2_with (go_at_call 94; go_must (refine HC.out.mono ?_; rintro e4 w4 ⟨v', rfl, h3, h4, h5⟩; have H := Aside0.mk (And.intro h3 (And.intro h4 h5)); clear h3 h4 h5))
  go_ret
  exact ⟨v', rfl, H.out.1, H.out.2.1, H.out.2.2⟩
end

end Go.Proofs.YtdggjpdhbailpaaDoor.Ui6
