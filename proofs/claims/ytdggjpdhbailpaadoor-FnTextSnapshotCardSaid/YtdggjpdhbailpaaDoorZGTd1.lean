/- textDo: each call is the method's. Conditions: the method's contract in every later world. -/
import Derived.Test.YtdggjpdhbailpaaDoorZGWr1
namespace Go.Proofs.YtdggjpdhbailpaaDoor.Td
set_option linter.unusedSimpArgs false
set_option linter.unusedVariables false
open Go.RowKit Go.Proofs.YtdggjpdhbailpaaDoorW.PrintWords Go.Proofs.YtdggjpdhbailpaaDoorW.PrintLast Go.Proofs.YtdggjpdhbailpaaDoorW.PrintMore Go.Proofs.YtdggjpdhbailpaaDoor.As1 Go.Proofs.YtdggjpdhbailpaaDoor.En0 Go.Proofs.YtdggjpdhbailpaaDoor.Bl Go.Proofs.YtdggjpdhbailpaaDoor.Wr Go.Proofs.YtdggjpdhbailpaaDoor.PFnTextAscii

def opV (o : TOp) : Value := .agg #[.int .i64 o.d, .string o.s, .bool o.b, .int .i64 o.i, .int .u64 o.u, .int .u64 o.f, .int .i64 o.z]
theorem ofb (n : Nat) (W : World) : (callFunc 51 #[.int .u64 (n : Int)]).run Tryd.prog W = .ok (.value (.float .f64 n)) W := by kernel_rfl

set_option maxRecDepth 100000 in
theorem td1 (b : Nat) (s : ByteArray) (b1 : Bool) (i u f z : Int) (w : World) (Q : Ending → World → Prop)
    (hc : ∀ W, Below w.heap.size w W → Calls Tryd.prog 56 #[.pointer (some ⟨b, 0, none⟩), .string s] W fun e w' => e = .returned (.tuple #[]) ∧ Q e w') :
    Calls Tryd.prog 22 #[.pointer (some ⟨b, 0, none⟩), .agg #[.int .i64 1, .string s, .bool b1, .int .i64 i, .int .u64 u, .int .u64 f, .int .i64 z]] w Q := by
  have HC := Aside0.mk hc
  clear hc
  go_enter Tryd.func22, Tryd.ntmps22
  go_wp2_with (go_at_call 56; go_must (refine (HC.out _ (below_alloc (Below.refl _ _) _)).mono ?_; rintro e1 w1 ⟨rfl, h1⟩; have H1 := Aside0.mk h1; clear h1))
  go_end0
  exact H1.out

set_option maxRecDepth 100000 in
theorem td2 (b : Nat) (s : ByteArray) (b1 : Bool) (i u f z : Int) (w : World) (Q : Ending → World → Prop)
    (hc : ∀ W, Below w.heap.size w W → Calls Tryd.prog 57 #[.pointer (some ⟨b, 0, none⟩), .bool b1] W fun e w' => e = .returned (.tuple #[]) ∧ Q e w') :
    Calls Tryd.prog 22 #[.pointer (some ⟨b, 0, none⟩), .agg #[.int .i64 2, .string s, .bool b1, .int .i64 i, .int .u64 u, .int .u64 f, .int .i64 z]] w Q := by
  have HC := Aside0.mk hc
  clear hc
  go_enter Tryd.func22, Tryd.ntmps22
  go_wp2_with (go_at_call 57; go_must (refine (HC.out _ (below_alloc (Below.refl _ _) _)).mono ?_; rintro e1 w1 ⟨rfl, h1⟩; have H1 := Aside0.mk h1; clear h1))
  go_end0
  exact H1.out

set_option maxRecDepth 100000 in
theorem td3 (b : Nat) (s : ByteArray) (b1 : Bool) (i u f z : Int) (w : World) (Q : Ending → World → Prop)
    (hc : ∀ W, Below w.heap.size w W → Calls Tryd.prog 58 #[.pointer (some ⟨b, 0, none⟩), .string s] W fun e w' => e = .returned (.tuple #[]) ∧ Q e w') :
    Calls Tryd.prog 22 #[.pointer (some ⟨b, 0, none⟩), .agg #[.int .i64 3, .string s, .bool b1, .int .i64 i, .int .u64 u, .int .u64 f, .int .i64 z]] w Q := by
  have HC := Aside0.mk hc
  clear hc
  go_enter Tryd.func22, Tryd.ntmps22
  go_wp2_with (go_at_call 58; go_must (refine (HC.out _ (below_alloc (Below.refl _ _) _)).mono ?_; rintro e1 w1 ⟨rfl, h1⟩; have H1 := Aside0.mk h1; clear h1))
  go_end0
  exact H1.out

set_option maxRecDepth 100000 in
theorem td5 (b : Nat) (s : ByteArray) (b1 : Bool) (i u f z : Int) (w : World) (Q : Ending → World → Prop)
    (hc : ∀ W, Below w.heap.size w W → Calls Tryd.prog 60 #[.pointer (some ⟨b, 0, none⟩), .int .i64 i] W fun e w' => e = .returned (.tuple #[]) ∧ Q e w') :
    Calls Tryd.prog 22 #[.pointer (some ⟨b, 0, none⟩), .agg #[.int .i64 5, .string s, .bool b1, .int .i64 i, .int .u64 u, .int .u64 f, .int .i64 z]] w Q := by
  have HC := Aside0.mk hc
  clear hc
  go_enter Tryd.func22, Tryd.ntmps22
  go_wp2_with (go_at_call 60; go_must (refine (HC.out _ (below_alloc (Below.refl _ _) _)).mono ?_; rintro e1 w1 ⟨rfl, h1⟩; have H1 := Aside0.mk h1; clear h1))
  go_end0
  exact H1.out

set_option maxRecDepth 100000 in
theorem td6 (b : Nat) (s : ByteArray) (b1 : Bool) (i u f z : Int) (w : World) (Q : Ending → World → Prop)
    (hc : ∀ W, Below w.heap.size w W → Calls Tryd.prog 61 #[.pointer (some ⟨b, 0, none⟩), .int .u64 u] W fun e w' => e = .returned (.tuple #[]) ∧ Q e w') :
    Calls Tryd.prog 22 #[.pointer (some ⟨b, 0, none⟩), .agg #[.int .i64 6, .string s, .bool b1, .int .i64 i, .int .u64 u, .int .u64 f, .int .i64 z]] w Q := by
  have HC := Aside0.mk hc
  clear hc
  go_enter Tryd.func22, Tryd.ntmps22
  go_wp2_with (go_at_call 61; go_must (refine (HC.out _ (below_alloc (Below.refl _ _) _)).mono ?_; rintro e1 w1 ⟨rfl, h1⟩; have H1 := Aside0.mk h1; clear h1))
  go_end0
  exact H1.out

set_option maxRecDepth 100000 in
theorem td7 (b : Nat) (s : ByteArray) (b1 : Bool) (i u f z : Int) (w : World) (Q : Ending → World → Prop)
    (hc : ∀ W, Below w.heap.size w W → Calls Tryd.prog 62 #[.pointer (some ⟨b, 0, none⟩), .string s] W fun e w' => e = .returned (.tuple #[]) ∧ Q e w') :
    Calls Tryd.prog 22 #[.pointer (some ⟨b, 0, none⟩), .agg #[.int .i64 7, .string s, .bool b1, .int .i64 i, .int .u64 u, .int .u64 f, .int .i64 z]] w Q := by
  have HC := Aside0.mk hc
  clear hc
  go_enter Tryd.func22, Tryd.ntmps22
  go_wp2_with (go_at_call 62; go_must (refine (HC.out _ (below_alloc (Below.refl _ _) _)).mono ?_; rintro e1 w1 ⟨rfl, h1⟩; have H1 := Aside0.mk h1; clear h1))
  go_end0
  exact H1.out

set_option maxRecDepth 100000 in
theorem td8 (b : Nat) (s : ByteArray) (b1 : Bool) (i u f z : Int) (w : World) (Q : Ending → World → Prop)
    (hc : ∀ W, Below w.heap.size w W → Calls Tryd.prog 63 #[.pointer (some ⟨b, 0, none⟩)] W fun e w' => e = .returned (.tuple #[]) ∧ Q e w') :
    Calls Tryd.prog 22 #[.pointer (some ⟨b, 0, none⟩), .agg #[.int .i64 8, .string s, .bool b1, .int .i64 i, .int .u64 u, .int .u64 f, .int .i64 z]] w Q := by
  have HC := Aside0.mk hc
  clear hc
  go_enter Tryd.func22, Tryd.ntmps22
  go_wp2_with (go_at_call 63; go_must (refine (HC.out _ (below_alloc (Below.refl _ _) _)).mono ?_; rintro e1 w1 ⟨rfl, h1⟩; have H1 := Aside0.mk h1; clear h1))
  go_end0
  exact H1.out

set_option maxRecDepth 100000 in
theorem td9 (b : Nat) (s : ByteArray) (b1 : Bool) (i u f z : Int) (w : World) (Q : Ending → World → Prop)
    (hc : ∀ W, Below w.heap.size w W → Calls Tryd.prog 64 #[.pointer (some ⟨b, 0, none⟩)] W fun e w' => e = .returned (.tuple #[]) ∧ Q e w') :
    Calls Tryd.prog 22 #[.pointer (some ⟨b, 0, none⟩), .agg #[.int .i64 9, .string s, .bool b1, .int .i64 i, .int .u64 u, .int .u64 f, .int .i64 z]] w Q := by
  have HC := Aside0.mk hc
  clear hc
  go_enter Tryd.func22, Tryd.ntmps22
  go_wp2_with (go_at_call 64; go_must (refine (HC.out _ (below_alloc (Below.refl _ _) _)).mono ?_; rintro e1 w1 ⟨rfl, h1⟩; have H1 := Aside0.mk h1; clear h1))
  go_end0
  exact H1.out

set_option maxRecDepth 100000 in
theorem td4 (b : Nat) (s : ByteArray) (b1 : Bool) (i u : Int) (n : Nat) (z : Int) (w : World) (Q : Ending → World → Prop)
    (hc : ∀ W, Below w.heap.size w W → Calls Tryd.prog 59 #[.pointer (some ⟨b, 0, none⟩), .float .f64 n, .int .i64 z] W fun e w' => e = .returned (.tuple #[]) ∧ Q e w') :
    Calls Tryd.prog 22 #[.pointer (some ⟨b, 0, none⟩), .agg #[.int .i64 4, .string s, .bool b1, .int .i64 i, .int .u64 u, .int .u64 (n : Int), .int .i64 z]] w Q := by
  have HC := Aside0.mk hc
  clear hc
  have ho := ofb n
  go_enter Tryd.func22, Tryd.ntmps22
  go_wp2_with fail
  apply reg_cut3 (R := fun W_ => Q (.returned (.tuple #[])) W_)
  case h =>
    have hbw := Aside0.mk (below_drew (below_alloc (Below.refl _ w) (Obj.cells #[Value.int .i64 4, .string s, .bool b1, .int .i64 i, .int .u64 u, .int .u64 (n : Int), .int .i64 z] 71)))
    refine start_ (n := 7) (S := fun w' => w'.cell? ⟨w.heap.size, 5, none⟩ = some (.int .u64 (n : Int)) ∧ w'.cell? ⟨w.heap.size, 6, none⟩ = some (.int .i64 z)) (ds := [6]) #[false, false, false, false, false, false, false] (by kernel_rfl) rfl rfl ⟨(by rw [blk_cell (blk_drew (blk_new w _))]; rfl), (by rw [blk_cell (blk_drew (blk_new w _))]; rfl)⟩ (fun hHeld => ?_)
    refine pure_ (i := 0) (N := some 26) (v := ?_) (a' := ?_) #[true, false, false, false, false, false, false] rfl rfl (by kernel_rfl) (fun _ _ _ h => h) (Or.inl ⟨by rfl, ?_⟩) ?_ ?_
    rotate_left
    · intro w'
      go_simp
      with_reducible rfl
    rotate_left
    · simp only [Act.put, List.setIfInBounds_toArray, List.set_cons_zero, List.set_cons_succ, i64_w, i32_w]
      rfl
    refine pure_ (i := 1) (N := some 27) (v := ?_) (a' := ?_) #[true, true, false, false, false, false, false] rfl rfl (by kernel_rfl) (fun _ _ _ h => h) (Or.inl ⟨by rfl, ?_⟩) ?_ ?_
    rotate_left
    · intro w'
      go_simp
      with_reducible rfl
    rotate_left
    · simp only [Act.put, List.setIfInBounds_toArray, List.set_cons_zero, List.set_cons_succ, i64_w, i32_w]
      rfl
    refine pure_ (i := 4) (N := some 30) (v := ?_) (a' := ?_) #[true, true, false, false, true, false, false] rfl rfl (by kernel_rfl) (fun _ _ _ h => h) (Or.inl ⟨by rfl, ?_⟩) ?_ ?_
    rotate_left
    · intro w'
      go_simp
      with_reducible rfl
    rotate_left
    · simp only [Act.put, List.setIfInBounds_toArray, List.set_cons_zero, List.set_cons_succ, i64_w, i32_w]
      rfl
    refine take_ (i := 2) (N := some 28) (v := ?_) (a' := ?_) #[true, true, true, false, true, false, false] rfl rfl (by kernel_rfl) (fun _ _ _ h => h) (Or.inl ⟨by rfl, ?_⟩) hHeld ?_ ?_
    rotate_left
    · rintro w' ⟨s0, s1⟩
      go_simp
      with_reducible rfl
    rotate_left
    · simp only [Act.put, List.setIfInBounds_toArray, List.set_cons_zero, List.set_cons_succ, i64_w, i32_w]
      rfl
    refine take_ (i := 5) (N := some 31) (v := ?_) (a' := ?_) #[true, true, true, false, true, true, false] rfl rfl (by kernel_rfl) (fun _ _ _ h => h) (Or.inl ⟨by rfl, ?_⟩) hHeld ?_ ?_
    rotate_left
    · rintro w' ⟨s0, s1⟩
      go_simp
      with_reducible rfl
    rotate_left
    · simp only [Act.put, List.setIfInBounds_toArray, List.set_cons_zero, List.set_cons_succ, i64_w, i32_w]
      rfl
    refine one_ (i := 3) (N := some 29) #[true, true, true, true, true, true, false] rfl rfl (by kernel_rfl) (by decide) (fun K hK => ?_)
    refine value_ (w1 := ?_) (v := ?_) (by rfl) rfl ?_ ?_
    rotate_left 2
    · go_simp
      constructor
      · rfl
      · rfl
    refine hK.out _ _ ⟨hHeld.1, hHeld.2⟩ (fun hHeld => ?_)
    clear hK K
    refine norm_ (a' := ?_) ?_ ?_
    rotate_left
    · show Act.put _ (some 29) _ = _
      simp only [Act.put, List.setIfInBounds_toArray, List.set_cons_zero, List.set_cons_succ, i64_w, i32_w]
      rfl
    refine last_ (i := 6) (N := some 32) #[true, true, true, true, true, true, true] rfl rfl (by kernel_rfl) (by decide) (fun K hK => ?_)
    refine goes_ Tryd.func59 (by kernel_rfl) rfl #[.pointer (some ⟨b, 0, none⟩), .float .f64 n, .int .i64 z] (by rfl) rfl rfl (by simp only [List.map_toArray, List.map_cons, List.map_nil]; rfl) ?_
    with_reducible refine (HC.out _ hbw.out).mono ?_
    rintro e1 w3 ⟨rfl, h1⟩
    refine ⟨_, rfl, ?_⟩
    have H1 := Aside0.mk h1
    clear h1
    refine hK.out _ _ ?_
    clear hK K
    refine norm_ (a' := ?_) ?_ ?_
    rotate_left
    · show Act.put _ (some 32) _ = _
      simp only [Act.put, List.setIfInBounds_toArray, List.set_cons_zero, List.set_cons_succ, i64_w, i32_w]
      rfl
    refine done_ (by kernel_rfl) ?_
    have A3 : Option Addr := none
    have n3 : Nat := 0
    have m3 : Nat := 0
    refine ⟨A3, n3, m3, rfl, H1⟩
  case k =>
    intro A4 n4 m4 W4 hR4
    go_wp2_with fail
    go_end0
    exact hR4.out

end Go.Proofs.YtdggjpdhbailpaaDoor.Td
