/- prepareNext of an encoder without an indent. Conditions: the encoder is the call's own. -/
import Derived.Test.YtdggjpdhbailpaaDoorZGEn0
import Derived.Defers
import Derived.Recover
import Derived.Laws.NewBlocks
import Derived.Laws.Pointers
import Derived.RegionTactic
namespace Go.Proofs.YtdggjpdhbailpaaDoor.Pn
set_option linter.unusedSimpArgs false
set_option linter.unusedVariables false
open Go.RowKit Go.Proofs.YtdggjpdhbailpaaDoorW.PrintWords Go.Proofs.YtdggjpdhbailpaaDoorW.PrintLast Go.Proofs.YtdggjpdhbailpaaDoorW.PrintMore Go.Proofs.YtdggjpdhbailpaaDoor.As1 Go.Proofs.YtdggjpdhbailpaaDoor.En0 Go.Proofs.YtdggjpdhbailpaaDoor.PFnTextAscii

set_option linter.unusedSectionVars false
theorem clo (g h b : Nat) (nx last : Int) (u : FrameMode) (w : World) (hg : w.cell? ⟨g, 0, none⟩ = some (.int .u8 nx)) (hh : w.cell? ⟨h, 0, none⟩ = some (.pointer (some ⟨b, 0, none⟩)))
    (hb : w.cell? ⟨b, 0, none⟩ = some (.int .u8 last)) (hf : w.frozen? ⟨b, 0, none⟩ = false) :
    CallsD Tryd.prog 89 #[.pointer (some ⟨g, 0, none⟩), .pointer (some ⟨h, 0, none⟩)] u w fun e u' w' => u' = u ∧ (e = .returned (.tuple #[]) ∧ w' = w.setCell ⟨b, 0, none⟩ (.int .u8 nx)) := by
  go_enter_d Tryd.func89, Tryd.ntmps89
  go_wp2
  go_end0
  exact ⟨rfl, rfl⟩

/-- The two variables that the closure holds: the encoder's pointer and the next type. -/
structure Bx (W : World) (g b : Nat) (nx : Int) : Prop where
  p : W.heap[g]? = some (.cells #[.pointer (some ⟨b, 0, none⟩)] 67 (0, 0))
  n : W.heap[g + 1]? = some (.cells #[.int .u8 nx] 80 (0, 0))
section
variable {W w1 : World} {g b base : Nat} {nx : Int} {ok : Nat → Prop} {v : Value} {xs : List Int}
theorem Bx.below (h : Bx W g b nx) (hb : Below W.heap.size W w1) : Bx w1 g b nx := ⟨blk_below h.p hb, blk_below h.n hb⟩
theorem Bx.grown (h : Bx W g b nx) (hR : Kd.R (Kd.int .u8) 5 W base ok v xs) (hG : W.grownBy w1 v.ownBlock) : Bx w1 g b nx :=
  ⟨blk_grown h.p hG (Kd.R_ne hR h.p (by decide)), blk_grown h.n hG (Kd.R_ne hR h.n (by decide))⟩
theorem Bx.okR (h : Bx W g b nx) (hR : Kd.R (Kd.int .u8) 5 W base ok v xs) : Kd.R (Kd.int .u8) 5 W base (fun k => ok k ∧ k ≠ g ∧ k ≠ g + 1) v xs := by
  have h1 := Kd.R_types (Kd.R_types hR h.p (by intro q hq; simp [Kd.int, Kd.scalar] at hq; subst hq; decide)) h.n (by intro q hq; simp [Kd.int, Kd.scalar] at hq; subst hq; decide)
  exact Kd.R_mono h1 (fun k hk => ⟨hk.1.1, hk.1.2, hk.2⟩)
theorem Bx.fresh (h : Bx W g b nx) (k : Nat) (hk : W.heap.size ≤ k) : k ≠ g ∧ k ≠ g + 1 := by
  have h1 := blk_lt h.p
  have h2 := blk_lt h.n
  exact ⟨by omega, by omega⟩
theorem Bx.kept (h : Bx W g b nx) (hk : Kept W w1 (fun k => ok k ∧ k ≠ g ∧ k ≠ g + 1)) : Bx w1 g b nx :=
  ⟨blk_kept h.p hk (fun hs => hs.2.1 rfl), blk_kept h.n hk (fun hs => hs.2.2 rfl)⟩
theorem Bx.set (h : Bx W g b nx) (hg : b < g) (i : Nat) (u : Value) : Bx (W.setCell ⟨b, i, none⟩ u) g b nx :=
  ⟨blk_far h.p (by show g ≠ b; omega) _, blk_far h.n (by show g + 1 ≠ b; omega) _⟩
theorem Bx.cp (h : Bx W g b nx) : W.cell? ⟨g, 0, none⟩ = some (.pointer (some ⟨b, 0, none⟩)) := by rw [blk_cell h.p]; rfl
theorem Bx.cn (h : Bx W g b nx) : W.cell? ⟨g + 1, 0, none⟩ = some (.int .u8 nx) := by rw [blk_cell h.n]; rfl
theorem Bx.mk0 (w : World) (b : Nat) (nx : Int) : Bx ((w.alloc (Obj.cells #[Value.pointer (some ⟨b, 0, none⟩)] 67)).alloc (Obj.cells #[Value.int .u8 nx] 80)) w.heap.size b nx := by
  refine ⟨blk_alloc (blk_new _ _) _, ?_⟩
  have := blk_new (w.alloc (Obj.cells #[Value.pointer (some ⟨b, 0, none⟩)] 67)) (Obj.cells #[Value.int .u8 nx] 80)
  simpa using this
end
theorem grown_kept {W w1 : World} {base : Nat} {ok : Nat → Prop} {v : Value} {xs : List Int} (hR : Kd.R (Kd.int .u8) 5 W base ok v xs) (hG : W.grownBy w1 v.ownBlock) : Kept W w1 ok :=
  Kept.of_grown hG (Kept.refl W ok) (fun k hk => .inl (hR.1 k hk))

/-- A region is walked by itself: it ends in a state that is known but for one slice, in a world of which R is known. -/
theorem reg_cut {P : Program} {c : Code} {Q : Exit → Act → World → Prop} {a : Act} {w : World} (act : Option Addr → Nat → Act) (R : World → Prop)
    (h : c.wp P (fun x a' w' => match x with | .normal => ∃ A m, a' = act A m ∧ Aside0 (R w') | _ => False) a w) (k : ∀ A m w', Aside0 (R w') → Q .normal (act A m) w') : c.wp P Q a w :=
  Code.wp_mono (fun x a' w' hx => by
    cases x <;> first | exact hx.elim | (obtain ⟨A, m, rfl, hR⟩ := hx; exact k A m w' hR)) h

variable [γ_ : Gho] [η_ : Hel]
structure Sx (w0 W : World) (g b : Nat) (nx : Int) (I : ByteArray) (d0 d1 : Int) (asc : Bool) (last : Int) (ind out : List Int) : Prop where
  e : ∃ vI vO, At W w0.heap.size b I d0 d1 asc last vI vO ind out
  x : Bx W g b nx
  lt : b < g
  below : Below w0.heap.size w0 W

theorem mf (fn : Fn) (first cap : Array Value) (w : World) : (Instr.makeFunc fn first cap).run Tryd.prog w = .ok (.func fn first cap) w := rfl


theorem door {tmps : Array Value} {R : Ending → World → Prop} (g h b : Nat) (nx last : Int) (W : World) (hg : W.cell? ⟨g, 0, none⟩ = some (.int .u8 nx)) (hh : W.cell? ⟨h, 0, none⟩ = some (.pointer (some ⟨b, 0, none⟩)))
    (hb : W.cell? ⟨b, 0, none⟩ = some (.int .u8 last)) (hf : W.frozen? ⟨b, 0, none⟩ = false) (hR : R (.returned (.tuple #[])) (W.setCell ⟨b, 0, none⟩ (.int .u8 nx))) :
    bodyPostD Tryd.prog Tryd.f77 R Exit.ret { tmps := tmps, defers := [{ target := Target.fn (Fn.func 89) #[.pointer (some ⟨g, 0, none⟩), .pointer (some ⟨h, 0, none⟩)], args := #[] }] } W := by
  refine leaves_cons (f := 89) (args := #[.pointer (some ⟨g, 0, none⟩), .pointer (some ⟨h, 0, none⟩)]) (by simp) (by simp [go_sem]) ?_
  refine (clo g h b nx last .returning W hg hh hb hf).mono ?_
  rintro e u' w'' ⟨rfl, rfl, rfl⟩
  exact ⟨_, results_none rfl _ _ _, hR⟩

theorem Sx.start {w0 w : World} {b : Nat} {I : ByteArray} {d0 d1 : Int} {asc : Bool} {last : Int} {vI vO : Value} {ind out : List Int} (nx : Int) (h : At w w0.heap.size b I d0 d1 asc last vI vO ind out) (hB : Below w0.heap.size w0 w) :
    Sx w0 ((w.alloc (Obj.cells #[Value.pointer (some ⟨b, 0, none⟩)] 67)).alloc (Obj.cells #[Value.int .u8 nx] 80)) w.heap.size b nx I d0 d1 asc last ind out := by
  have hb2 := below_alloc (below_alloc (Below.refl _ w) (Obj.cells #[Value.pointer (some ⟨b, 0, none⟩)] 67)) (Obj.cells #[Value.int .u8 nx] 80)
  exact ⟨⟨_, _, h.below hb2⟩, Bx.mk0 w b nx, h.lt, below_then hB hB.size hb2⟩

set_option maxHeartbeats 4000000 in
set_option maxRecDepth 100000 in
theorem pn_space (b : Nat) (last : Int) (vI0 vO0 : Value) (I : ByteArray) (d0 d1 : Int) (asc : Bool) (ind0 out0 : List Int) (w0 w : World) (hI : I.size = 0) (f1 : (Go.bits .and .u8 last 10 != 0) = true)
    (hB0 : Below w0.heap.size w0 w) (h : At w w0.heap.size b I d0 d1 asc last vI0 vO0 ind0 out0) (hl : out0.length + 4 * ind0.length + 4 * I.size + 10 ≤ 140737488355328) :
    Calls Tryd.prog 77 #[.pointer (some ⟨b, 0, none⟩), .int .u8 1] w fun e w' => e = .returned (.tuple #[]) ∧ (∃ vI vO, At w' w0.heap.size b I d0 d1 asc 1 vI vO (ind0) (out0 ++ [32])) ∧ Below w0.heap.size w0 w' := by
  have hmf := mf
  have c0 := h.c0
  have c3 := h.c3
  have hlt := h.lt
  have HA := Aside0.mk h
  have HB0 := Aside0.mk hB0
  have HL := Aside0.mk hl
  clear h hB0 hl
  go_enter_defers Tryd.func77, Tryd.ntmps77
  go_wp2_with fail
  have HS0 := Aside0.mk (Sx.start 1 HA.out HB0.out)
  generalize ((w.alloc (Obj.cells #[Value.pointer (some ⟨b, 0, none⟩)] 67)).alloc (Obj.cells #[Value.int .u8 1] 80)) = Wn at HS0 ⊢
  obtain ⟨⟨vI, vO, hA⟩, hX, hL, hB⟩ := HS0.out
  obtain ⟨AI, cI, rfl, hIle, hIC⟩ := Kd.R_reads hA.hI
  obtain ⟨AO, cO, rfl, hOle, hOC⟩ := Kd.G_reads hA.hO
  have hAd := Aside0.mk (hA.below (below_drew (Below.refl _ _)))
  have hXd := Aside0.mk (hX.below (below_drew (Below.refl _ _)))
  have hBd := Aside0.mk hB.drew
  have hIC := Aside0.mk hIC
  have hOC := Aside0.mk hOC
  clear hA hX hB
  apply reg_cut (R := fun W_ => Sx w0 W_ w.heap.size b 1 I d0 d1 asc last (ind0) (out0 ++ [32]))
  case h =>
    refine start_ (n := 12) (S := fun w' => w'.cell? ⟨w.heap.size, 0, none⟩ = some (.pointer (some ⟨b, 0, none⟩)) ∧ w'.cell? ⟨b, 2, none⟩ = some (.slice AO out0.length cO)) (ds := [11]) #[false, false, false, false, false, false, false, false, false, false, false, false] (by kernel_rfl) rfl rfl ⟨hXd.out.cp, hAd.out.c2⟩ (fun hHeld => ?_)
    refine take_ (i := 0) (N := some 22) (v := ?_) (a' := ?_) #[true, false, false, false, false, false, false, false, false, false, false, false] rfl rfl (by kernel_rfl) (fun _ _ _ h => h) (Or.inl ⟨by rfl, ?_⟩) hHeld ?_ ?_
    rotate_left
    · rintro w' ⟨s0, s1⟩
      go_simp
      with_reducible rfl
    rotate_left
    · simp only [Act.put, List.setIfInBounds_toArray, List.set_cons_zero, List.set_cons_succ, i64_w, i32_w]
      rfl
    refine take_ (i := 1) (N := some 23) (v := ?_) (a' := ?_) #[true, true, false, false, false, false, false, false, false, false, false, false] rfl rfl (by kernel_rfl) (fun _ _ _ h => h) (Or.inl ⟨by rfl, ?_⟩) hHeld ?_ ?_
    rotate_left
    · rintro w' ⟨s0, s1⟩
      go_simp
      with_reducible rfl
    rotate_left
    · simp only [Act.put, List.setIfInBounds_toArray, List.set_cons_zero, List.set_cons_succ, i64_w, i32_w]
      rfl
    refine pure_ (i := 2) (N := some 24) (v := ?_) (a' := ?_) #[true, true, true, false, false, false, false, false, false, false, false, false] rfl rfl (by kernel_rfl) (fun _ _ _ h => h) (Or.inl ⟨by rfl, ?_⟩) ?_ ?_
    rotate_left
    · intro w'
      go_simp
      with_reducible rfl
    rotate_left
    · simp only [Act.put, List.setIfInBounds_toArray, List.set_cons_zero, List.set_cons_succ, i64_w, i32_w]
      rfl
    refine pure_ (i := 3) (N := some 25) (v := ?_) (a' := ?_) #[true, true, true, true, false, false, false, false, false, false, false, false] rfl rfl (by kernel_rfl) (fun _ _ _ h => h) (Or.inl ⟨by rfl, ?_⟩) ?_ ?_
    rotate_left
    · intro w'
      go_simp
      with_reducible rfl
    rotate_left
    · simp only [Act.put, List.setIfInBounds_toArray, List.set_cons_zero, List.set_cons_succ, i64_w, i32_w]
      rfl
    refine pure_ (i := 4) (N := some 26) (v := ?_) (a' := ?_) #[true, true, true, true, true, false, false, false, false, false, false, false] rfl rfl (by kernel_rfl) (fun _ _ _ h => h) (Or.inl ⟨by rfl, ?_⟩) ?_ ?_
    rotate_left
    · intro w'
      go_simp
      with_reducible rfl
    rotate_left
    · simp only [Act.put, List.setIfInBounds_toArray, List.set_cons_zero, List.set_cons_succ, i64_w, i32_w]
      rfl
    refine take_ (i := 5) (N := some 27) (v := ?_) (a' := ?_) #[true, true, true, true, true, true, false, false, false, false, false, false] rfl rfl (by kernel_rfl) (fun _ _ _ h => h) (Or.inl ⟨by rfl, ?_⟩) hHeld ?_ ?_
    rotate_left
    · rintro w' ⟨s0, s1⟩
      go_simp
      with_reducible rfl
    rotate_left
    · simp only [Act.put, List.setIfInBounds_toArray, List.set_cons_zero, List.set_cons_succ, i64_w, i32_w]
      rfl
    refine one_ (i := 6) (N := some 28) #[true, true, true, true, true, true, true, false, false, false, false, false] rfl rfl (by kernel_rfl) (by decide) (fun K hK => ?_)
    refine value_ (w1 := ?_) (v := ?_) (by rfl) rfl ?_ ?_
    rotate_left 2
    · go_simp
      constructor
      · rfl
      · rfl
    refine hK.out _ _ ⟨(hXd.out.below (below_alloc (Below.refl _ _) _)).cp, (hAd.out.below (below_alloc (Below.refl _ _) _)).c2⟩ (fun hHeld => ?_)
    clear hK K
    refine norm_ (a' := ?_) ?_ ?_
    rotate_left
    · show Act.put _ (some 28) _ = _
      simp only [Act.put, List.setIfInBounds_toArray, List.set_cons_zero, List.set_cons_succ, i64_w, i32_w]
      rfl
    refine one_ (i := 7) (N := some 29) #[true, true, true, true, true, true, true, true, false, false, false, false] rfl rfl (by kernel_rfl) (by decide) (fun K hK => ?_)
    refine Kd.G_append_step (Kd.int .u8) (w0 := w0) w0.heap.size (by rfl) (.tmp 27) (.tmp 28) 29 5 (.int .u8 0) 1 (by rfl) Tryd.underlying29 info5 rfl (by decide) (by omega) (.slice AO out0.length cO) out0 32 [.int .u8 32] (fun k => k ≠ b ∧ some k ≠ Hel.b) (fun _ => False) (by rfl) (by rfl) (by rfl) (fun _ hk => hk.elim) (fun k hk => freshO hAd.out k hk) hAd.out.hO hBd.out hBd.out.size (by rw [Nat.mul_one]; have := HL.out; omega) ?_
    intro v1 w3 hR hB3 hG hat; have hK3 := Aside0.mk (grown_kept hAd.out.hO.row hG); have hg2 := hXd.out.grown hAd.out.hO.row hG; clear hat hG
    obtain ⟨A3, m3, hv⟩ := Kd.G_slice hR; rw [List.length_append, show ([32] : List Int).length = 1 from rfl] at hv; subst hv; have HO := Aside0.mk (hAd.out.toOut hR hK3.out); have HX3 := Aside0.mk hg2; have HB3 := Aside0.mk hB3; clear hR hB3 hK3 hg2; have d2 := HO.out.c2; have dz2 := HO.out.fz 2
    refine hK.out _ _ ⟨HX3.out.cp, HO.out.c2⟩ (fun hHeld => ?_)
    clear hK K
    refine norm_ (a' := ?_) ?_ ?_
    rotate_left
    · show Act.put _ (some 29) _ = _
      simp only [Act.put, List.setIfInBounds_toArray, List.set_cons_zero, List.set_cons_succ, i64_w, i32_w]
      rfl
    refine pure_ (i := 8) (N := some 30) (v := ?_) (a' := ?_) #[true, true, true, true, true, true, true, true, true, false, false, false] rfl rfl (by kernel_rfl) (fun _ _ _ h => h) (Or.inl ⟨by rfl, ?_⟩) ?_ ?_
    rotate_left
    · intro w'
      go_simp
      with_reducible rfl
    rotate_left
    · simp only [Act.put, List.setIfInBounds_toArray, List.set_cons_zero, List.set_cons_succ, i64_w, i32_w]
      rfl
    refine pure_ (i := 9) (N := some 31) (v := ?_) (a' := ?_) #[true, true, true, true, true, true, true, true, true, true, false, false] rfl rfl (by kernel_rfl) (fun _ _ _ h => h) (Or.inl ⟨by rfl, ?_⟩) ?_ ?_
    rotate_left
    · intro w'
      go_simp
      with_reducible rfl
    rotate_left
    · simp only [Act.put, List.setIfInBounds_toArray, List.set_cons_zero, List.set_cons_succ, i64_w, i32_w]
      rfl
    refine pure_ (i := 10) (N := some 32) (v := ?_) (a' := ?_) #[true, true, true, true, true, true, true, true, true, true, true, false] rfl rfl (by kernel_rfl) (fun _ _ _ h => h) (Or.inl ⟨by rfl, ?_⟩) ?_ ?_
    rotate_left
    · intro w'
      go_simp
      with_reducible rfl
    rotate_left
    · simp only [Act.put, List.setIfInBounds_toArray, List.set_cons_zero, List.set_cons_succ, i64_w, i32_w]
      rfl
    refine last_ (i := 11) (N := none) #[true, true, true, true, true, true, true, true, true, true, true, true] rfl rfl (by kernel_rfl) (by decide) (fun K hK => ?_)
    refine skip_ (w1 := ?_) (by rfl) rfl ?_ ?_
    rotate_left
    · go_simp
      rfl
    refine hK.out _ _ ?_
    clear hK K
    refine done_ (by kernel_rfl) ?_
    refine ⟨A3, m3, rfl, Aside0.mk ⟨⟨_, _, HO.out.set⟩, HX3.out.set hL 2 _, hL, HB3.out.setCell HA.out.le _⟩⟩
  case k =>
    clear HS0 hL hAd hXd hBd hIC hOC hIle hOle
    clear c0 c3
    intro A4 m4 Wm HS1
    obtain ⟨ind1, hind1⟩ : ∃ x, x = ind0 := ⟨_, rfl⟩
    obtain ⟨out1, hout1⟩ : ∃ x, x = out0 ++ [32] := ⟨_, rfl⟩
    rw [← hout1, ← hind1] at HS1
    have HE1 := Aside0.mk (show out1.length = out0.length + 1 ∧ ind1.length = ind0.length from ⟨by simp [hout1], by simp [hind1]⟩)
    have HI1 := Aside0.mk hind1; have HO1 := Aside0.mk hout1; clear hind1 hout1
    have hx := HS1.out
    obtain ⟨⟨vI, vO, hA⟩, hX, hL, hB⟩ := hx
    have c0 := hA.c0; have c1 := hA.c1; have c2 := hA.c2; have c3 := hA.c3; have cp := hX.cp; have cn := hX.cn
    clear hA hX hL hB
    go_wp2_with fail
    obtain ⟨⟨vI, vO, hA⟩, hX, hL, hB⟩ := HS1.out
    refine door _ _ b 1 _ _ hX.cn hX.cp hA.c0 (hA.fz 0) ⟨rfl, ⟨vI, vO, ?_⟩, hB.setCell HA.out.le _⟩
    have hind1 := HI1.out; have hout1 := HO1.out; subst hind1 hout1
    exact hA.set_last 1

set_option maxHeartbeats 4000000 in
set_option maxRecDepth 100000 in
theorem pn_none0 (b : Nat) (last : Int) (nx : Int) (vI0 vO0 : Value) (I : ByteArray) (d0 d1 : Int) (asc : Bool) (ind0 out0 : List Int) (w0 w : World) (hI : I.size = 0) (f1 : (Go.bits .and .u8 last 10 != 0) = false)
    (hB0 : Below w0.heap.size w0 w) (h : At w w0.heap.size b I d0 d1 asc last vI0 vO0 ind0 out0) (hl : out0.length + 4 * ind0.length + 4 * I.size + 10 ≤ 140737488355328) :
    Calls Tryd.prog 77 #[.pointer (some ⟨b, 0, none⟩), .int .u8 nx] w fun e w' => e = .returned (.tuple #[]) ∧ (∃ vI vO, At w' w0.heap.size b I d0 d1 asc nx vI vO (ind0) (out0)) ∧ Below w0.heap.size w0 w' := by
  have hmf := mf
  have c0 := h.c0
  have c3 := h.c3
  have hlt := h.lt
  have HA := Aside0.mk h
  have HB0 := Aside0.mk hB0
  have HL := Aside0.mk hl
  clear h hB0 hl
  go_enter_defers Tryd.func77, Tryd.ntmps77
  go_wp2_with fail
  have HS0 := Aside0.mk (Sx.start nx HA.out HB0.out)
  generalize ((w.alloc (Obj.cells #[Value.pointer (some ⟨b, 0, none⟩)] 67)).alloc (Obj.cells #[Value.int .u8 nx] 80)) = Wn at HS0 ⊢
  obtain ⟨⟨vI, vO, hA⟩, hX, hL, hB⟩ := HS0.out
  refine door _ _ b nx _ _ hX.cn hX.cp hA.c0 (hA.fz 0) ⟨rfl, ⟨vI, vO, ?_⟩, hB.setCell HA.out.le _⟩
  exact hA.set_last nx

set_option maxHeartbeats 4000000 in
set_option maxRecDepth 100000 in
theorem pn_none1 (b : Nat) (last : Int) (nx : Int) (vI0 vO0 : Value) (I : ByteArray) (d0 d1 : Int) (asc : Bool) (ind0 out0 : List Int) (w0 w : World) (hI : I.size = 0) (f1 : (Go.bits .and .u8 last 10 != 0) = true) (hn : (nx == 1) = false)
    (hB0 : Below w0.heap.size w0 w) (h : At w w0.heap.size b I d0 d1 asc last vI0 vO0 ind0 out0) (hl : out0.length + 4 * ind0.length + 4 * I.size + 10 ≤ 140737488355328) :
    Calls Tryd.prog 77 #[.pointer (some ⟨b, 0, none⟩), .int .u8 nx] w fun e w' => e = .returned (.tuple #[]) ∧ (∃ vI vO, At w' w0.heap.size b I d0 d1 asc nx vI vO (ind0) (out0)) ∧ Below w0.heap.size w0 w' := by
  have hmf := mf
  have c0 := h.c0
  have c3 := h.c3
  have hlt := h.lt
  have HA := Aside0.mk h
  have HB0 := Aside0.mk hB0
  have HL := Aside0.mk hl
  clear h hB0 hl
  go_enter_defers Tryd.func77, Tryd.ntmps77
  go_wp2_with fail
  have HS0 := Aside0.mk (Sx.start nx HA.out HB0.out)
  generalize ((w.alloc (Obj.cells #[Value.pointer (some ⟨b, 0, none⟩)] 67)).alloc (Obj.cells #[Value.int .u8 nx] 80)) = Wn at HS0 ⊢
  obtain ⟨⟨vI, vO, hA⟩, hX, hL, hB⟩ := HS0.out
  refine door _ _ b nx _ _ hX.cn hX.cp hA.c0 (hA.fz 0) ⟨rfl, ⟨vI, vO, ?_⟩, hB.setCell HA.out.le _⟩
  exact hA.set_last nx


end Go.Proofs.YtdggjpdhbailpaaDoor.Pn

/- prepareNext without an indent: what it writes. Conditions: the encoder is the call's own. -/
namespace Go.Proofs.YtdggjpdhbailpaaDoor.Pn2
open Go.RowKit Go.Proofs.YtdggjpdhbailpaaDoorW.PrintWords Go.Proofs.YtdggjpdhbailpaaDoorW.PrintLast Go.Proofs.YtdggjpdhbailpaaDoorW.PrintMore Go.Proofs.YtdggjpdhbailpaaDoor.As1 Go.Proofs.YtdggjpdhbailpaaDoor.En0 Go.Proofs.YtdggjpdhbailpaaDoor.Bl Go.Proofs.YtdggjpdhbailpaaDoor.Pn Go.Proofs.YtdggjpdhbailpaaDoor.PFnTextAscii

/-- What prepareNext writes. -/
def preOf (I : List Int) (last nx : Int) (ind : List Int) : List Int :=
  if I = [] then (if (last = 2 ∨ last = 8) ∧ nx = 1 then [32] else [])
  else if last = 1 then [32] else if last = 4 ∧ nx ≠ 8 then [10] ++ (ind ++ I)
  else if last = 2 ∨ last = 8 then [10] ++ indOf I last nx ind else []

def Asc (l : List Int) : Prop := ∀ x ∈ l, 0 ≤ x ∧ x < 128
theorem Asc.append {a b : List Int} (h : Asc a) (k : Asc b) : Asc (a ++ b) := fun x hx => (List.mem_append.1 hx).elim (h x) (k x)
theorem indOf_asc {I : List Int} {last nx : Int} {ind : List Int} (h : Asc ind) (k : Asc I) : Asc (indOf I last nx ind) := by
  unfold indOf
  split
  · exact h
  split
  · exact h
  split
  · exact h.append k
  split
  · exact fun x hx => h x (List.mem_of_mem_take hx)
  · exact h
theorem indOf_le {I : List Int} {last nx : Int} {ind : List Int} : (indOf I last nx ind).length ≤ ind.length + I.length := by
  unfold indOf
  split
  · omega
  split
  · omega
  split
  · simp
  split
  · simp; omega
  · omega
theorem preOf_asc {I : List Int} {last nx : Int} {ind : List Int} (h : Asc ind) (k : Asc I) : Asc (preOf I last nx ind) := by
  have h10 : Asc [10] := by intro x hx; simp at hx; subst hx; decide
  have h32 : Asc [32] := by intro x hx; simp at hx; subst hx; decide
  have h0 : Asc [] := by intro x hx; cases hx
  unfold preOf
  split
  · split
    · exact h32
    · exact h0
  split
  · exact h32
  split
  · exact h10.append (h.append k)
  split
  · exact h10.append (indOf_asc h k)
  · exact h0
theorem preOf_le {I : List Int} {last nx : Int} {ind : List Int} : (preOf I last nx ind).length ≤ 1 + ind.length + I.length := by
  have := indOf_le (I := I) (last := last) (nx := nx) (ind := ind)
  unfold preOf
  split
  · split
    · simp; omega
    · simp
  split
  · simp; omega
  split
  · simp; omega
  split
  · simp; omega
  · simp

set_option linter.unusedSectionVars false
variable [γ_ : Gho] [η_ : Hel]
theorem pn (b : Nat) (last nx : Int) (vI vO : Value) (I : ByteArray) (d0 d1 : Int) (asc : Bool) (ind out : List Int) (w0 w : World) (hla : last = 0 ∨ last = 1 ∨ last = 2 ∨ last = 4 ∨ last = 8) (_hnx : nx = 1 ∨ nx = 2 ∨ nx = 4 ∨ nx = 8) (_hok : okAt (bytesOf I) last nx ind) (hI : I.size = 0)
    (hB : Below w0.heap.size w0 w) (h : At w w0.heap.size b I d0 d1 asc last vI vO ind out) (hl : out.length + 4 * ind.length + 4 * I.size + 10 ≤ 140737488355328) :
    Calls Tryd.prog 77 #[.pointer (some ⟨b, 0, none⟩), .int .u8 nx] w fun e w' => e = .returned (.tuple #[]) ∧
      (∃ vI vO, At w' w0.heap.size b I d0 d1 asc nx vI vO (indOf (bytesOf I) last nx ind) (out ++ preOf (bytesOf I) last nx ind)) ∧ Below w0.heap.size w0 w' := by
  have hz : (bytesOf I).length = I.size := bytesOf_length I
  have hn : bytesOf I = [] := List.eq_nil_of_length_eq_zero (hz.trans hI)
  have e1 : indOf (bytesOf I) last nx ind = ind := by unfold indOf; rw [if_pos hn]
  rw [e1]
  have e2 : preOf (bytesOf I) last nx ind = if (last = 2 ∨ last = 8) ∧ nx = 1 then [32] else [] := by unfold preOf; rw [if_pos hn]
  rw [e2]
  by_cases hf : last = 2 ∨ last = 8
  · have f1 : (Go.bits .and .u8 last 10 != 0) = true := by rcases hf with rfl | rfl <;> decide
    by_cases h1 : nx = 1
    · subst h1
      rw [if_pos ⟨hf, rfl⟩]
      exact pn_space b last vI vO I d0 d1 asc ind out w0 w hI f1 hB h hl
    · rw [if_neg (fun h => h1 h.2), List.append_nil]
      exact pn_none1 b last nx vI vO I d0 d1 asc ind out w0 w hI f1 (beq_eq_false_iff_ne.mpr h1) hB h hl
  · have f1 : (Go.bits .and .u8 last 10 != 0) = false := by rcases hla with rfl | rfl | rfl | rfl | rfl <;> first | decide | omega
    rw [if_neg (fun h => hf h.1), List.append_nil]
    exact pn_none0 b last nx vI vO I d0 d1 asc ind out w0 w hI f1 hB h hl

end Go.Proofs.YtdggjpdhbailpaaDoor.Pn2
