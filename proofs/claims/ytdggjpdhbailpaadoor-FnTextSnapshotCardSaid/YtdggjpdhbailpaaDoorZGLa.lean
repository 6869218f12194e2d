/- The law FnTextSnapshot returns true. Conditions: the numbers of the items are of their kinds; each call writes the same bytes in whatever world in which the tables read as laid (T, R). -/
import Derived.Test.YtdggjpdhbailpaaDoorZGTs
import Derived.Test.YtdggjpdhbailpaaDoorZGTo1
import Derived.Test.YtdggjpdhbailpaaDoorZFp
import Derived.Test.YtdggjpdhbailpaaDoorZEq
namespace Go.Proofs.YtdggjpdhbailpaaDoor.La
set_option linter.unusedSimpArgs false
set_option linter.unusedVariables false
open Go.RowKit Go.Proofs.YtdggjpdhbailpaaDoorW.PrintWords Go.Proofs.YtdggjpdhbailpaaDoorW.PrintLast Go.Proofs.YtdggjpdhbailpaaDoorW.PrintMore Go.Proofs.YtdggjpdhbailpaaDoor.Bl Go.Proofs.YtdggjpdhbailpaaDoor.Ok Go.Proofs.YtdggjpdhbailpaaDoor.It Go.Proofs.YtdggjpdhbailpaaDoor.Fp Go.Proofs.YtdggjpdhbailpaaDoor.Pn2 Go.Proofs.YtdggjpdhbailpaaDoor.Wr Go.Proofs.YtdggjpdhbailpaaDoor.Td2 Go.Proofs.YtdggjpdhbailpaaDoor.St Go.Proofs.YtdggjpdhbailpaaDoor.PFnTextAscii

/-- An item's numbers are of their kinds. -/
def Rg (x : S76) : Prop := (0 ≤ x.f1 ∧ x.f1 < 256) ∧ (-9223372036854775808 ≤ x.f4 ∧ x.f4 ≤ 9223372036854775807) ∧ (0 ≤ x.f5 ∧ x.f5 < 18446744073709551616) ∧ (0 ≤ x.f6 ∧ x.f6 < 18446744073709551616)
theorem one_of (x : S76) (h : Rg x) (k : Sh x) : One x := ⟨k.1, k.2, h.1.1, h.1.2, h.2.1.1, h.2.1.2, h.2.2.1.1, h.2.2.1.2, h.2.2.2.1, h.2.2.2.2⟩

/-- What textOps does. -/
def OpsP (l : List S76) (W : World) (e : Ending) (w' : World) : Prop := ∃ (A : Option Addr) (c : Nat) (ops : List TOp), e = .returned (.slice A ops.length c) ∧ ops.length ≤ c ∧ Kd.C kOp w' A ops.length ops ∧ Bal ops ∧ (∀ o ∈ ops, Td2.Good o) ∧ ops.length ≤ 1200 ∧ (l ≠ [] → ops ≠ []) ∧ ops.length = To1.olen l ∧ Below W.heap.size W w'
theorem ops_ok (l : List S76) (hl : count l ≤ 300) (h1 : All One l) (A : Option Addr) (n c : Nat) (w : World) (hr : Kd.C k76 w A l.length l) (hn : l.length = n) (hc : n ≤ c) : Calls Tryd.prog 12 #[.slice A n c] w (OpsP l w) := by
  subst hn
  refine (To1.ops (count l) l (Nat.le_refl _) hl h1 A c w hr hc).mono ?_
  rintro e w' ⟨v, ops, rfl, hR, hb, hg, hn, hne, hE, hB⟩
  obtain ⟨A2, c2, rfl, h2, h3⟩ := Kd.R_reads hR
  exact ⟨A2, c2, ops, rfl, h2, h3, hb, hg, by omega, hne, hE, hB⟩

theorem bal_head {ops : List TOp} (h : Bal ops) (o : TOp) (r : List TOp) (e : ops = o :: r) : o.d = 1 := by
  cases h with
  | nil => cases e
  | leaf n v r h1 => injection e with e _; rw [← e]; exact h1
  | msg n s e' k r h1 => injection e with e _; rw [← e]; exact h1
/-- Something is written if and only if there is an item. -/
theorem some_out {T : World → Prop} {R : TOp → List Int} (hd : ∀ o, Td2.Good o → Does T o (R o)) {l : List S76} {ops : List TOp} (hb : Bal ops) (hg : ∀ o ∈ ops, Td2.Good o) (hne : l ≠ [] → ops ≠ []) (hE : ops.length = To1.olen l) :
    decide (0 < (run R (0, []) ops).2.length) = decide (0 < l.length) := by
  cases l with
  | nil =>
    have : ops = [] := List.eq_nil_of_length_eq_zero (by rw [hE]; simp [To1.olen])
    subst this
    rfl
  | cons x r =>
    cases ops with
    | nil => exact absurd rfl (hne (by simp))
    | cons o q =>
      have h1 := run_ne R o q (0, []) ((hd o (hg o List.mem_cons_self)).1 (bal_head hb o q rfl))
      rw [decide_eq_true (List.length_pos_iff.2 h1), decide_eq_true (by simp)]

theorem eq_ok (A A2 : Option Addr) (c c2 : Nat) (F : List Int) (w : World) (h1 : Kd.C (Kd.int .u8) w A F.length F) (hc : F.length ≤ c) (h2 : Kd.C (Kd.int .u8) w A2 F.length F) (hc2 : F.length ≤ c2) :
    Calls Tryd.prog 13 #[.slice A F.length c, .slice A2 F.length c2] w fun e w' => e = .returned (.bool true) ∧ Drawn0 w w' :=
  Eq.laws_eq.calls A c F A2 c2 F true w h1 hc h2 hc2 (by simp [Eq.laws_eq.f])

set_option maxHeartbeats 4000000 in
set_option maxRecDepth 100000 in
theorem size1 (l oth : List S76) (A A2 : Option Addr) (c c2 : Nat) (w : World) (at_ : Int) (b1 : 2147483647 < l.length) :
    Calls Tryd.prog 5 #[.slice A l.length c, .slice A2 oth.length c2, .int .i64 at_] w fun e w' => e = .returned (.bool true) ∧ Below w.heap.size w w' := by
  have c1 : decide ((2147483647 : Int) < (l.length : Int)) = true := decide_eq_true (by omega)
  have c1b : decide (2147483647 < l.length) = true := decide_eq_true b1
  clear b1
  go_enter Tryd.func5, Tryd.ntmps5
  go_wp2_with fail
  go_ret
  exact ⟨rfl, Below.refl _ _⟩

set_option maxHeartbeats 4000000 in
set_option maxRecDepth 100000 in
theorem size2 (l oth : List S76) (A A2 : Option Addr) (c c2 : Nat) (w : World) (at_ : Int) (b1 : ¬ 2147483647 < l.length) (b2 : 2147483647 < oth.length) :
    Calls Tryd.prog 5 #[.slice A l.length c, .slice A2 oth.length c2, .int .i64 at_] w fun e w' => e = .returned (.bool true) ∧ Below w.heap.size w w' := by
  have c1 : decide ((2147483647 : Int) < (l.length : Int)) = false := decide_eq_false (by omega)
  have c1b : decide (2147483647 < l.length) = false := decide_eq_false b1
  have c3 : decide ((2147483647 : Int) < (oth.length : Int)) = true := decide_eq_true (by omega)
  have c4 : decide (2147483647 < oth.length) = true := decide_eq_true b2
  clear b1 b2
  go_enter Tryd.func5, Tryd.ntmps5
  go_wp2_with fail
  go_ret
  exact ⟨rfl, Below.refl _ _⟩

set_option maxHeartbeats 4000000 in
set_option maxRecDepth 100000 in
theorem few1 (l oth : List S76) (A A2 : Option Addr) (c c2 : Nat) (w : World) (at_ : Int) (b1 : ¬ 2147483647 < l.length) (b2 : ¬ 2147483647 < oth.length) (HFEW : Aside0 (Calls Tryd.prog 9 #[.slice A l.length c, .int .i64 300, .int .i64 20] w fun e w' => e = .returned (.bool false) ∧ Below w.heap.size w w')) :
    Calls Tryd.prog 5 #[.slice A l.length c, .slice A2 oth.length c2, .int .i64 at_] w fun e w' => e = .returned (.bool true) ∧ Below w.heap.size w w' := by
  have c1 : decide ((2147483647 : Int) < (l.length : Int)) = false := decide_eq_false (by omega)
  have c1b : decide (2147483647 < l.length) = false := decide_eq_false (by omega)
  have c3 : decide ((2147483647 : Int) < (oth.length : Int)) = false := decide_eq_false (by omega)
  have c4 : decide (2147483647 < oth.length) = false := decide_eq_false (by omega)
  clear b1 b2
  go_enter Tryd.func5, Tryd.ntmps5
  go_wp2_with (go_at_call_of 9 (l.length); go_must (refine HFEW.out.mono ?_; rintro e1 w1 ⟨rfl, hb1⟩; have HB1 := Aside0.mk hb1; clear hb1))
  go_ret
  exact ⟨rfl, HB1.out⟩

set_option maxHeartbeats 4000000 in
set_option maxRecDepth 100000 in
theorem few2 (l oth : List S76) (A A2 : Option Addr) (c c2 : Nat) (w : World) (at_ : Int) (b1 : ¬ 2147483647 < l.length) (b2 : ¬ 2147483647 < oth.length) (HFEW : Aside0 (Calls Tryd.prog 9 #[.slice A l.length c, .int .i64 300, .int .i64 20] w fun e w' => e = .returned (.bool true) ∧ Below w.heap.size w w')) (HFEW2 : Aside0 (∀ W, Below w.heap.size w W → Calls Tryd.prog 9 #[.slice A2 oth.length c2, .int .i64 300, .int .i64 20] W fun e w' => e = .returned (.bool false) ∧ Below W.heap.size W w')) :
    Calls Tryd.prog 5 #[.slice A l.length c, .slice A2 oth.length c2, .int .i64 at_] w fun e w' => e = .returned (.bool true) ∧ Below w.heap.size w w' := by
  have c1 : decide ((2147483647 : Int) < (l.length : Int)) = false := decide_eq_false (by omega)
  have c1b : decide (2147483647 < l.length) = false := decide_eq_false (by omega)
  have c3 : decide ((2147483647 : Int) < (oth.length : Int)) = false := decide_eq_false (by omega)
  have c4 : decide (2147483647 < oth.length) = false := decide_eq_false (by omega)
  clear b1 b2
  go_enter Tryd.func5, Tryd.ntmps5
  go_wp2_with (first
    | (go_at_call_of 9 (l.length); go_must (refine HFEW.out.mono ?_; rintro e1 w1 ⟨rfl, hb1⟩; have HB1 := Aside0.mk hb1; clear hb1))
    | (go_at_call_of 9 (oth.length); go_must (refine (HFEW2.out _ HB1.out).mono ?_; rintro e2 w2 ⟨rfl, hb2⟩; have HB2 := Aside0.mk (below_then HB1.out HB1.out.size hb2); clear hb2)))
  go_ret
  exact ⟨rfl, HB2.out⟩

set_option maxHeartbeats 4000000 in
set_option maxRecDepth 100000 in
theorem at1 (l oth : List S76) (A A2 : Option Addr) (c c2 : Nat) (w : World) (at_ : Int) (b1 : ¬ 2147483647 < l.length) (b2 : ¬ 2147483647 < oth.length) (HFEW : Aside0 (Calls Tryd.prog 9 #[.slice A l.length c, .int .i64 300, .int .i64 20] w fun e w' => e = .returned (.bool true) ∧ Below w.heap.size w w')) (HFEW2 : Aside0 (∀ W, Below w.heap.size w W → Calls Tryd.prog 9 #[.slice A2 oth.length c2, .int .i64 300, .int .i64 20] W fun e w' => e = .returned (.bool true) ∧ Below W.heap.size W w')) (HOPS : Aside0 (∀ W, Below w.heap.size w W → Calls Tryd.prog 12 #[.slice A l.length c] W (OpsP l W))) (b3 : at_ < 0) :
    Calls Tryd.prog 5 #[.slice A l.length c, .slice A2 oth.length c2, .int .i64 at_] w fun e w' => e = .returned (.bool true) ∧ Below w.heap.size w w' := by
  have c1 : decide ((2147483647 : Int) < (l.length : Int)) = false := decide_eq_false (by omega)
  have c1b : decide (2147483647 < l.length) = false := decide_eq_false (by omega)
  have c3 : decide ((2147483647 : Int) < (oth.length : Int)) = false := decide_eq_false (by omega)
  have c4 : decide (2147483647 < oth.length) = false := decide_eq_false (by omega)
  clear b1 b2
  have d1 : decide (at_ < 0) = true := decide_eq_true b3
  clear b3
  go_enter Tryd.func5, Tryd.ntmps5
  go_wp2_with (first
    | (go_at_call_of 9 (l.length); go_must (refine HFEW.out.mono ?_; rintro e1 w1 ⟨rfl, hb1⟩; have HB1 := Aside0.mk hb1; clear hb1))
    | (go_at_call_of 9 (oth.length); go_must (refine (HFEW2.out _ HB1.out).mono ?_; rintro e2 w2 ⟨rfl, hb2⟩; have HB2 := Aside0.mk (below_then HB1.out HB1.out.size hb2); clear hb2))
    | (go_at_call_of 12 (l.length); go_must (refine (HOPS.out _ HB2.out).mono ?_; rintro e3 w3 ⟨AK3, cK3, ops3, rfl, hkl, hkc, hb, hgo, hn, hne, hE, hb3⟩; have HN3 := Aside0.mk hb3; have HB3 := Aside0.mk (below_then HB2.out HB2.out.size hb3); have HO3 := Aside0.mk (And.intro hkl (And.intro hkc (And.intro hb (And.intro hgo (And.intro hn (And.intro hne hE)))))); clear hkl hkc hb hgo hn hne hE hb3)))
  go_ret
  exact ⟨rfl, HB3.out⟩

set_option maxHeartbeats 4000000 in
set_option maxRecDepth 100000 in
theorem at2 (l oth : List S76) (A A2 : Option Addr) (c c2 : Nat) (w : World) (n : Nat) (b1 : ¬ 2147483647 < l.length) (b2 : ¬ 2147483647 < oth.length) (HFEW : Aside0 (Calls Tryd.prog 9 #[.slice A l.length c, .int .i64 300, .int .i64 20] w fun e w' => e = .returned (.bool true) ∧ Below w.heap.size w w')) (HFEW2 : Aside0 (∀ W, Below w.heap.size w W → Calls Tryd.prog 9 #[.slice A2 oth.length c2, .int .i64 300, .int .i64 20] W fun e w' => e = .returned (.bool true) ∧ Below W.heap.size W w')) (HOPS : Aside0 (∀ W, Below w.heap.size w W → Calls Tryd.prog 12 #[.slice A l.length c] W (OpsP l W))) (b4 : l.length < n) :
    Calls Tryd.prog 5 #[.slice A l.length c, .slice A2 oth.length c2, .int .i64 (n : Int)] w fun e w' => e = .returned (.bool true) ∧ Below w.heap.size w w' := by
  have c1 : decide ((2147483647 : Int) < (l.length : Int)) = false := decide_eq_false (by omega)
  have c1b : decide (2147483647 < l.length) = false := decide_eq_false (by omega)
  have c3 : decide ((2147483647 : Int) < (oth.length : Int)) = false := decide_eq_false (by omega)
  have c4 : decide (2147483647 < oth.length) = false := decide_eq_false (by omega)
  clear b1 b2
  have d1 : decide ((n : Int) < 0) = false := decide_eq_false (by omega)
  have d2 : decide ((l.length : Int) < (n : Int)) = true := decide_eq_true (by omega)
  have d3 : decide (l.length < n) = true := decide_eq_true b4
  clear b4
  go_enter Tryd.func5, Tryd.ntmps5
  go_wp2_with (first
    | (go_at_call_of 9 (l.length); go_must (refine HFEW.out.mono ?_; rintro e1 w1 ⟨rfl, hb1⟩; have HB1 := Aside0.mk hb1; clear hb1))
    | (go_at_call_of 9 (oth.length); go_must (refine (HFEW2.out _ HB1.out).mono ?_; rintro e2 w2 ⟨rfl, hb2⟩; have HB2 := Aside0.mk (below_then HB1.out HB1.out.size hb2); clear hb2))
    | (go_at_call_of 12 (l.length); go_must (refine (HOPS.out _ HB2.out).mono ?_; rintro e3 w3 ⟨AK3, cK3, ops3, rfl, hkl, hkc, hb, hgo, hn, hne, hE, hb3⟩; have HN3 := Aside0.mk hb3; have HB3 := Aside0.mk (below_then HB2.out HB2.out.size hb3); have HO3 := Aside0.mk (And.intro hkl (And.intro hkc (And.intro hb (And.intro hgo (And.intro hn (And.intro hne hE)))))); clear hkl hkc hb hgo hn hne hE hb3)))
  go_ret
  exact ⟨rfl, HB3.out⟩

set_option maxHeartbeats 4000000 in
set_option maxRecDepth 100000 in
theorem main_true (l oth : List S76) (A A2 : Option Addr) (c c2 : Nat) (w : World) (n : Nat) (T : World → Prop) (HTON : Aside0 (∀ w', Below w.heap.size w w' → T w')) (R : TOp → List Int) (HD : Aside0 (∀ o, Td2.Good o → Does T o (R o))) (b1 : ¬ 2147483647 < l.length) (b2 : ¬ 2147483647 < oth.length) (HFEW : Aside0 (Calls Tryd.prog 9 #[.slice A l.length c, .int .i64 300, .int .i64 20] w fun e w' => e = .returned (.bool true) ∧ Below w.heap.size w w')) (HFEW2 : Aside0 (∀ W, Below w.heap.size w W → Calls Tryd.prog 9 #[.slice A2 oth.length c2, .int .i64 300, .int .i64 20] W fun e w' => e = .returned (.bool true) ∧ Below W.heap.size W w')) (HOPS : Aside0 (∀ W, Below w.heap.size w W → Calls Tryd.prog 12 #[.slice A l.length c] W (OpsP l W))) (HOPS2 : Aside0 (∀ W, Below w.heap.size w W → Calls Tryd.prog 12 #[.slice A2 oth.length c2] W (OpsP oth W))) (HOPSP : Aside0 (∀ W, Below w.heap.size w W → Calls Tryd.prog 12 #[.slice A n c] W (OpsP (l.take n) W))) (b4 : ¬ l.length < n) (hc : l.length ≤ c) (bb : decide (0 < l.length) = true) :
    Calls Tryd.prog 5 #[.slice A l.length c, .slice A2 oth.length c2, .int .i64 (n : Int)] w fun e w' => e = .returned (.bool true) ∧ Below w.heap.size w w' := by
  have c1 : decide ((2147483647 : Int) < (l.length : Int)) = false := decide_eq_false (by omega)
  have c1b : decide (2147483647 < l.length) = false := decide_eq_false (by omega)
  have c3 : decide ((2147483647 : Int) < (oth.length : Int)) = false := decide_eq_false (by omega)
  have c4 : decide (2147483647 < oth.length) = false := decide_eq_false (by omega)
  clear b1 b2
  have d1 : decide ((n : Int) < 0) = false := decide_eq_false (by omega)
  have d2 : decide ((l.length : Int) < (n : Int)) = false := decide_eq_false (by omega)
  have d3 : decide (l.length < n) = false := decide_eq_false (by omega)
  have p1 : (0 : Int) ≤ (n : Int) := by omega
  have p2 : (n : Int) ≤ (c : Int) := by omega
  have p3 : n ≤ c := by omega
  have p4 : (n : Int) ≤ (l.length : Int) := by omega
  clear b4 hc
  have q2 : decide ((0 : Int) < (l.length : Int)) = true := (decide_eq_decide.2 (by omega)).trans bb
  have HBB := Aside0.mk bb
  go_enter Tryd.func5, Tryd.ntmps5
  go_wp2_with (first
    | (go_at_call_of 9 (l.length); go_must (refine HFEW.out.mono ?_; rintro e1 w1 ⟨rfl, hb1⟩; have HB1 := Aside0.mk hb1; clear hb1))
    | (go_at_call_of 9 (oth.length); go_must (refine (HFEW2.out _ HB1.out).mono ?_; rintro e2 w2 ⟨rfl, hb2⟩; have HB2 := Aside0.mk (below_then HB1.out HB1.out.size hb2); clear hb2))
    | (go_at_call_of 12 (l.length); go_must (refine (HOPS.out _ HB2.out).mono ?_; rintro e3 w3 ⟨AK3, cK3, ops3, rfl, hkl, hkc, hb, hgo, hn, hne, hE, hb3⟩; have HN3 := Aside0.mk hb3; have HB3 := Aside0.mk (below_then HB2.out HB2.out.size hb3); have HO3 := Aside0.mk (And.intro hkl (And.intro hkc (And.intro hb (And.intro hgo (And.intro hn (And.intro hne hE)))))); clear hkl hkc hb hgo hn hne hE hb3))
    | (go_at_call_of 12 (n); go_must (refine (HOPSP.out _ HB3.out).mono ?_; rintro e4 w4 ⟨AK4, cK4, ops4, rfl, hkl, hkc, hb, hgo, hn, hne, hE, hb3⟩; have HN4 := Aside0.mk hb3; have HB4 := Aside0.mk (below_then HB3.out HB3.out.size hb3); have HO4 := Aside0.mk (And.intro hkl (And.intro hkc (And.intro hb (And.intro hgo (And.intro hn (And.intro hne hE)))))); clear hkl hkc hb hgo hn hne hE hb3))
    | (go_at_call 11; go_must (refine (Te2.enc T R HD.out AK3 cK3 ops3 _ (HTON.out _ HB4.out) (Kd.C_below HO3.out.2.1 HN4.out) HO3.out.1 (by have := HO3.out.2.2.2.2.1; omega) HO3.out.2.2.2.1).mono ?_; rintro e5 w5 ⟨v5, rfl, hR5, hl5, hb5⟩; have hso := (some_out HD.out HO3.out.2.2.1 HO3.out.2.2.2.1 HO3.out.2.2.2.2.2.1 HO3.out.2.2.2.2.2.2).trans HBB.out; obtain ⟨F, hF⟩ : ∃ F, F = (run R (0, []) ops3).2 := ⟨_, rfl⟩; rw [← hF] at hso hR5 hl5; have q1 : decide ((0 : Int) < (F.length : Int)) = true := (decide_eq_decide.2 (by omega)).trans hso; have HF := Aside0.mk hF; obtain ⟨AO, cO, rfl, hol, hoc⟩ := Kd.R_reads hR5; have HB5 := Aside0.mk (below_then HB4.out HB4.out.size hb5); have HN5 := Aside0.mk hb5; have HQ := Aside0.mk (And.intro hol hoc); clear hol hoc hb5 hR5 hl5 hF))
    | (go_at_call_of 12 (oth.length); go_must (refine (HOPS2.out _ HB5.out).mono ?_; rintro e6 w6 ⟨AK6, cK6, ops6, rfl, hkl, hkc, hb, hgo, hn, hne, hE, hb3⟩; have HN6 := Aside0.mk hb3; have HB6 := Aside0.mk (below_then HB5.out HB5.out.size hb3); have HO6 := Aside0.mk (And.intro hkl (And.intro hkc (And.intro hb (And.intro hgo (And.intro hn (And.intro hne hE)))))); clear hkl hkc hb hgo hn hne hE hb3))
    | (go_at_call 14; go_must (refine (Ts.snap T R HD.out AK3 cK3 ops3 AK6 cK6 ops6 ops4.length _ (HTON.out _ HB6.out) (Kd.C_below (Kd.C_below (Kd.C_below HO3.out.2.1 HN4.out) HN5.out) HN6.out) HO3.out.1 HO6.out.2.1 HO6.out.1 (by rw [HO4.out.2.2.2.2.2.2, HO3.out.2.2.2.2.2.2]; exact To1.olen_take l n) (by have := HO3.out.2.2.2.2.1; omega) (by have := HO6.out.2.2.2.2.1; omega) HO3.out.2.2.2.1 HO6.out.2.2.2.1).mono ?_; rintro e7 w7 ⟨v7, rfl, hR7, hb7⟩; rw [← HF.out] at hR7; obtain ⟨AS, cS, rfl, hsl, hsc⟩ := Kd.R_reads hR7; have HB7 := Aside0.mk (below_then HB6.out HB6.out.size hb7); have HN7 := Aside0.mk hb7; have HS := Aside0.mk (And.intro hsl hsc); clear hsl hsc hb7 hR7))
    | (go_at_call 13; go_must (refine (eq_ok AS AO cS cO F _ HS.out.2 HS.out.1 (Kd.C_below (Kd.C_below HQ.out.2 HN6.out) HN7.out) HQ.out.1).mono ?_; rintro e8 w8 ⟨rfl, hb8⟩; have HB8 := Aside0.mk (below_then HB7.out HB7.out.size hb8.below); clear hb8)))
  go_ret
  exact ⟨rfl, HB8.out⟩

set_option maxHeartbeats 4000000 in
set_option maxRecDepth 100000 in
theorem main_false (l oth : List S76) (A A2 : Option Addr) (c c2 : Nat) (w : World) (n : Nat) (T : World → Prop) (HTON : Aside0 (∀ w', Below w.heap.size w w' → T w')) (R : TOp → List Int) (HD : Aside0 (∀ o, Td2.Good o → Does T o (R o))) (b1 : ¬ 2147483647 < l.length) (b2 : ¬ 2147483647 < oth.length) (HFEW : Aside0 (Calls Tryd.prog 9 #[.slice A l.length c, .int .i64 300, .int .i64 20] w fun e w' => e = .returned (.bool true) ∧ Below w.heap.size w w')) (HFEW2 : Aside0 (∀ W, Below w.heap.size w W → Calls Tryd.prog 9 #[.slice A2 oth.length c2, .int .i64 300, .int .i64 20] W fun e w' => e = .returned (.bool true) ∧ Below W.heap.size W w')) (HOPS : Aside0 (∀ W, Below w.heap.size w W → Calls Tryd.prog 12 #[.slice A l.length c] W (OpsP l W))) (HOPS2 : Aside0 (∀ W, Below w.heap.size w W → Calls Tryd.prog 12 #[.slice A2 oth.length c2] W (OpsP oth W))) (HOPSP : Aside0 (∀ W, Below w.heap.size w W → Calls Tryd.prog 12 #[.slice A n c] W (OpsP (l.take n) W))) (b4 : ¬ l.length < n) (hc : l.length ≤ c) (bb : decide (0 < l.length) = false) :
    Calls Tryd.prog 5 #[.slice A l.length c, .slice A2 oth.length c2, .int .i64 (n : Int)] w fun e w' => e = .returned (.bool true) ∧ Below w.heap.size w w' := by
  have c1 : decide ((2147483647 : Int) < (l.length : Int)) = false := decide_eq_false (by omega)
  have c1b : decide (2147483647 < l.length) = false := decide_eq_false (by omega)
  have c3 : decide ((2147483647 : Int) < (oth.length : Int)) = false := decide_eq_false (by omega)
  have c4 : decide (2147483647 < oth.length) = false := decide_eq_false (by omega)
  clear b1 b2
  have d1 : decide ((n : Int) < 0) = false := decide_eq_false (by omega)
  have d2 : decide ((l.length : Int) < (n : Int)) = false := decide_eq_false (by omega)
  have d3 : decide (l.length < n) = false := decide_eq_false (by omega)
  have p1 : (0 : Int) ≤ (n : Int) := by omega
  have p2 : (n : Int) ≤ (c : Int) := by omega
  have p3 : n ≤ c := by omega
  have p4 : (n : Int) ≤ (l.length : Int) := by omega
  clear b4 hc
  have q2 : decide ((0 : Int) < (l.length : Int)) = false := (decide_eq_decide.2 (by omega)).trans bb
  have HBB := Aside0.mk bb
  go_enter Tryd.func5, Tryd.ntmps5
  go_wp2_with (first
    | (go_at_call_of 9 (l.length); go_must (refine HFEW.out.mono ?_; rintro e1 w1 ⟨rfl, hb1⟩; have HB1 := Aside0.mk hb1; clear hb1))
    | (go_at_call_of 9 (oth.length); go_must (refine (HFEW2.out _ HB1.out).mono ?_; rintro e2 w2 ⟨rfl, hb2⟩; have HB2 := Aside0.mk (below_then HB1.out HB1.out.size hb2); clear hb2))
    | (go_at_call_of 12 (l.length); go_must (refine (HOPS.out _ HB2.out).mono ?_; rintro e3 w3 ⟨AK3, cK3, ops3, rfl, hkl, hkc, hb, hgo, hn, hne, hE, hb3⟩; have HN3 := Aside0.mk hb3; have HB3 := Aside0.mk (below_then HB2.out HB2.out.size hb3); have HO3 := Aside0.mk (And.intro hkl (And.intro hkc (And.intro hb (And.intro hgo (And.intro hn (And.intro hne hE)))))); clear hkl hkc hb hgo hn hne hE hb3))
    | (go_at_call_of 12 (n); go_must (refine (HOPSP.out _ HB3.out).mono ?_; rintro e4 w4 ⟨AK4, cK4, ops4, rfl, hkl, hkc, hb, hgo, hn, hne, hE, hb3⟩; have HN4 := Aside0.mk hb3; have HB4 := Aside0.mk (below_then HB3.out HB3.out.size hb3); have HO4 := Aside0.mk (And.intro hkl (And.intro hkc (And.intro hb (And.intro hgo (And.intro hn (And.intro hne hE)))))); clear hkl hkc hb hgo hn hne hE hb3))
    | (go_at_call 11; go_must (refine (Te2.enc T R HD.out AK3 cK3 ops3 _ (HTON.out _ HB4.out) (Kd.C_below HO3.out.2.1 HN4.out) HO3.out.1 (by have := HO3.out.2.2.2.2.1; omega) HO3.out.2.2.2.1).mono ?_; rintro e5 w5 ⟨v5, rfl, hR5, hl5, hb5⟩; have hso := (some_out HD.out HO3.out.2.2.1 HO3.out.2.2.2.1 HO3.out.2.2.2.2.2.1 HO3.out.2.2.2.2.2.2).trans HBB.out; obtain ⟨F, hF⟩ : ∃ F, F = (run R (0, []) ops3).2 := ⟨_, rfl⟩; rw [← hF] at hso hR5 hl5; have q1 : decide ((0 : Int) < (F.length : Int)) = false := (decide_eq_decide.2 (by omega)).trans hso; have HF := Aside0.mk hF; obtain ⟨AO, cO, rfl, hol, hoc⟩ := Kd.R_reads hR5; have HB5 := Aside0.mk (below_then HB4.out HB4.out.size hb5); have HN5 := Aside0.mk hb5; have HQ := Aside0.mk (And.intro hol hoc); clear hol hoc hb5 hR5 hl5 hF))
    | (go_at_call_of 12 (oth.length); go_must (refine (HOPS2.out _ HB5.out).mono ?_; rintro e6 w6 ⟨AK6, cK6, ops6, rfl, hkl, hkc, hb, hgo, hn, hne, hE, hb3⟩; have HN6 := Aside0.mk hb3; have HB6 := Aside0.mk (below_then HB5.out HB5.out.size hb3); have HO6 := Aside0.mk (And.intro hkl (And.intro hkc (And.intro hb (And.intro hgo (And.intro hn (And.intro hne hE)))))); clear hkl hkc hb hgo hn hne hE hb3))
    | (go_at_call 14; go_must (refine (Ts.snap T R HD.out AK3 cK3 ops3 AK6 cK6 ops6 ops4.length _ (HTON.out _ HB6.out) (Kd.C_below (Kd.C_below (Kd.C_below HO3.out.2.1 HN4.out) HN5.out) HN6.out) HO3.out.1 HO6.out.2.1 HO6.out.1 (by rw [HO4.out.2.2.2.2.2.2, HO3.out.2.2.2.2.2.2]; exact To1.olen_take l n) (by have := HO3.out.2.2.2.2.1; omega) (by have := HO6.out.2.2.2.2.1; omega) HO3.out.2.2.2.1 HO6.out.2.2.2.1).mono ?_; rintro e7 w7 ⟨v7, rfl, hR7, hb7⟩; rw [← HF.out] at hR7; obtain ⟨AS, cS, rfl, hsl, hsc⟩ := Kd.R_reads hR7; have HB7 := Aside0.mk (below_then HB6.out HB6.out.size hb7); have HN7 := Aside0.mk hb7; have HS := Aside0.mk (And.intro hsl hsc); clear hsl hsc hb7 hR7))
    | (go_at_call 13; go_must (refine (eq_ok AS AO cS cO F _ HS.out.2 HS.out.1 (Kd.C_below (Kd.C_below HQ.out.2 HN6.out) HN7.out) HQ.out.1).mono ?_; rintro e8 w8 ⟨rfl, hb8⟩; have HB8 := Aside0.mk (below_then HB7.out HB7.out.size hb8.below); clear hb8)))
  go_ret
  exact ⟨rfl, HB8.out⟩

theorem law (T : World → Prop) (hTon : ∀ w w', T w → Below w.heap.size w w' → T w') (R : TOp → List Int) (hd : ∀ o, Td2.Good o → Does T o (R o)) (l : List S76) (A : Option Addr) (c : Nat) (oth : List S76) (A2 : Option Addr) (c2 : Nat) (at_ : Int) (w : World) (hr : Kd.C k76 w A l.length l) (hc : l.length ≤ c) (hr2 : Kd.C k76 w A2 oth.length oth) (hc2 : oth.length ≤ c2) (hg : All Rg l) (hg2 : All Rg oth) (hT : T w) :
    Calls Tryd.prog 5 #[.slice A l.length c, .slice A2 oth.length c2, .int .i64 at_] w fun e w' => e = .returned (.bool true) ∧ Below w.heap.size w w' := by
  by_cases b1 : 2147483647 < l.length
  · exact size1 l oth A A2 c c2 w at_ b1
  by_cases b2 : 2147483647 < oth.length
  · exact size2 l oth A A2 c c2 w at_ b1 b2
  obtain ⟨bf, hbf, hfew⟩ := few_ok l
  obtain ⟨bg, hbg, hfew2⟩ := few_ok oth
  have HFEW := Aside0.mk (hfew A c w hr hc)
  cases bf
  · exact few1 l oth A A2 c c2 w at_ b1 b2 HFEW
  cases bg
  · exact few2 l oth A A2 c c2 w at_ b1 b2 HFEW ⟨fun W hW => hfew2 A2 c2 W (Kd.C_below hr2 hW) hc2⟩
  have HFEW2 : Aside0 (∀ W, Below w.heap.size w W → Calls Tryd.prog 9 #[.slice A2 oth.length c2, .int .i64 300, .int .i64 20] W fun e w' => e = .returned (.bool true) ∧ Below W.heap.size W w') := ⟨fun W hW => hfew2 A2 c2 W (Kd.C_below hr2 hW) hc2⟩
  obtain ⟨hcount, hsh⟩ := hbf rfl
  obtain ⟨hcount2, hsh2⟩ := hbg rfl
  have hone : All One l := all_imp (P := Rg) (Q := Sh) (R := One) one_of (count l) l (Nat.le_refl _) hg hsh
  have hone2 : All One oth := all_imp (P := Rg) (Q := Sh) (R := One) one_of (count oth) oth (Nat.le_refl _) hg2 hsh2
  have HOPS : Aside0 (∀ W, Below w.heap.size w W → Calls Tryd.prog 12 #[.slice A l.length c] W (OpsP l W)) :=
    ⟨fun W hW => ops_ok l hcount hone A l.length c W (Kd.C_below hr hW) rfl hc⟩
  by_cases b3 : at_ < 0
  · exact at1 l oth A A2 c c2 w at_ b1 b2 HFEW HFEW2 HOPS b3
  obtain ⟨n, rfl⟩ := Int.eq_ofNat_of_zero_le (show 0 ≤ at_ by omega)
  by_cases b4 : l.length < n
  · exact at2 l oth A A2 c c2 w n b1 b2 HFEW HFEW2 HOPS b4
  have HOPS2 : Aside0 (∀ W, Below w.heap.size w W → Calls Tryd.prog 12 #[.slice A2 oth.length c2] W (OpsP oth W)) :=
    ⟨fun W hW => ops_ok oth hcount2 hone2 A2 oth.length c2 W (Kd.C_below hr2 hW) rfl hc2⟩
  have HOPSP : Aside0 (∀ W, Below w.heap.size w W → Calls Tryd.prog 12 #[.slice A n c] W (OpsP (l.take n) W)) :=
    ⟨fun W hW => ops_ok (l.take n) (Nat.le_trans (To1.count_take l n) hcount) (To1.all_take _ l hone n) A n c W (Kd.C_take (Kd.C_below hr hW) (by omega)) (by rw [List.length_take]; omega) (by omega)⟩
  cases hbb : decide (0 < l.length)
  · exact main_false l oth A A2 c c2 w n T ⟨fun w' h => hTon w w' hT h⟩ R ⟨hd⟩ b1 b2 HFEW HFEW2 HOPS HOPS2 HOPSP b4 hc hbb
  · exact main_true l oth A A2 c c2 w n T ⟨fun w' h => hTon w w' hT h⟩ R ⟨hd⟩ b1 b2 HFEW HFEW2 HOPS HOPS2 HOPSP b4 hc hbb

end Go.Proofs.YtdggjpdhbailpaaDoor.La
