/- prepareNext of an encoder without an indent. Conditions: the encoder is the call's own. -/
import Derived.Test.YticfdfomlcohpaaDoorZEn0
import Derived.Defers
import Derived.Recover
import Derived.Laws.NewBlocks
import Derived.Laws.Pointers
import Derived.RegionTactic
namespace Go.Proofs.YticfdfomlcohpaaDoor.Pn
set_option linter.unusedSimpArgs false
set_option linter.unusedVariables false
open Go.RowKit Go.Proofs.YticfdfomlcohpaaDoorW.PrintWords Go.Proofs.YticfdfomlcohpaaDoorW.PrintLast Go.Proofs.YticfdfomlcohpaaDoorW.PrintMore Go.Proofs.YticfdfomlcohpaaDoor.As1 Go.Proofs.YticfdfomlcohpaaDoor.En0 Go.Proofs.YticfdfomlcohpaaDoor.PFnTextAscii

theorem clo (g h b : Nat) (nx last : Int) (u : FrameMode) (w : World) (hg : w.cell? ⟨g, 0, none⟩ = some (.int .u8 nx)) (hh : w.cell? ⟨h, 0, none⟩ = some (.pointer (some ⟨b, 0, none⟩)))
    (hb : w.cell? ⟨b, 0, none⟩ = some (.int .u8 last)) (hf : w.frozen? ⟨b, 0, none⟩ = false) :
    CallsD Tryd.prog 89 #[.pointer (some ⟨g, 0, none⟩), .pointer (some ⟨h, 0, none⟩)] u w fun e u' w' => u' = u ∧ (e = .returned (.tuple #[]) ∧ w' = w.setCell ⟨b, 0, none⟩ (.int .u8 nx)) := by
  go_enter_d Tryd.func89, Tryd.ntmps89
  go_wp2
  go_end0
  exact ⟨rfl, rfl⟩

/-- The two variables that the closure holds: the encoder's pointer and the next type. -/
structure Bx (W : World) (g b : Nat) (nx : Int) : Prop where
  p : W.heap[g]? = some (.cells #[.pointer (some ⟨b, 0, none⟩)] 67 (0, 0))
  n : W.heap[g + 1]? = some (.cells #[.int .u8 nx] 80 (0, 0))
section
variable {W w1 : World} {g b base : Nat} {nx : Int} {ok : Nat → Prop} {v : Value} {xs : List Int}
theorem Bx.below (h : Bx W g b nx) (hb : Below W.heap.size W w1) : Bx w1 g b nx := ⟨blk_below h.p hb, blk_below h.n hb⟩
theorem Bx.grown (h : Bx W g b nx) (hR : Kd.R (Kd.int .u8) 5 W base ok v xs) (hG : W.grownBy w1 v.ownBlock) : Bx w1 g b nx :=
  ⟨blk_grown h.p hG (Kd.R_ne hR h.p (by decide)), blk_grown h.n hG (Kd.R_ne hR h.n (by decide))⟩
theorem Bx.okR (h : Bx W g b nx) (hR : Kd.R (Kd.int .u8) 5 W base ok v xs) : Kd.R (Kd.int .u8) 5 W base (fun k => ok k ∧ k ≠ g ∧ k ≠ g + 1) v xs := by
  have h1 := Kd.R_types (Kd.R_types hR h.p (by intro q hq; simp [Kd.int, Kd.scalar] at hq; subst hq; decide)) h.n (by intro q hq; simp [Kd.int, Kd.scalar] at hq; subst hq; decide)
  exact Kd.R_mono h1 (fun k hk => ⟨hk.1.1, hk.1.2, hk.2⟩)
theorem Bx.fresh (h : Bx W g b nx) (k : Nat) (hk : W.heap.size ≤ k) : k ≠ g ∧ k ≠ g + 1 := by
  have h1 := blk_lt h.p
  have h2 := blk_lt h.n
  exact ⟨by omega, by omega⟩
theorem Bx.kept (h : Bx W g b nx) (hk : Kept W w1 (fun k => ok k ∧ k ≠ g ∧ k ≠ g + 1)) : Bx w1 g b nx :=
  ⟨blk_kept h.p hk (fun hs => hs.2.1 rfl), blk_kept h.n hk (fun hs => hs.2.2 rfl)⟩
theorem Bx.set (h : Bx W g b nx) (hg : b < g) (i : Nat) (u : Value) : Bx (W.setCell ⟨b, i, none⟩ u) g b nx :=
  ⟨blk_far h.p (by show g ≠ b; omega) _, blk_far h.n (by show g + 1 ≠ b; omega) _⟩
theorem Bx.cp (h : Bx W g b nx) : W.cell? ⟨g, 0, none⟩ = some (.pointer (some ⟨b, 0, none⟩)) := by rw [blk_cell h.p]; rfl
theorem Bx.cn (h : Bx W g b nx) : W.cell? ⟨g + 1, 0, none⟩ = some (.int .u8 nx) := by rw [blk_cell h.n]; rfl
theorem Bx.mk0 (w : World) (b : Nat) (nx : Int) : Bx ((w.alloc (Obj.cells #[Value.pointer (some ⟨b, 0, none⟩)] 67)).alloc (Obj.cells #[Value.int .u8 nx] 80)) w.heap.size b nx := by
  refine ⟨blk_alloc (blk_new _ _) _, ?_⟩
  have := blk_new (w.alloc (Obj.cells #[Value.pointer (some ⟨b, 0, none⟩)] 67)) (Obj.cells #[Value.int .u8 nx] 80)
  simpa using this
end
theorem grown_kept {W w1 : World} {base : Nat} {ok : Nat → Prop} {v : Value} {xs : List Int} (hR : Kd.R (Kd.int .u8) 5 W base ok v xs) (hG : W.grownBy w1 v.ownBlock) : Kept W w1 ok :=
  Kept.of_grown hG (Kept.refl W ok) (fun k hk => .inl (hR.1 k hk))

/-- A region is walked by itself: it ends in a state that is known but for one slice, in a world of which R is known. -/
theorem reg_cut {P : Program} {c : Code} {Q : Exit → Act → World → Prop} {a : Act} {w : World} (act : Option Addr → Nat → Act) (R : World → Prop)
    (h : c.wp P (fun x a' w' => match x with | .normal => ∃ A m, a' = act A m ∧ Aside0 (R w') | _ => False) a w) (k : ∀ A m w', Aside0 (R w') → Q .normal (act A m) w') : c.wp P Q a w :=
  Code.wp_mono (fun x a' w' hx => by
    cases x <;> first | exact hx.elim | (obtain ⟨A, m, rfl, hR⟩ := hx; exact k A m w' hR)) h

structure Sx (w0 W : World) (g b : Nat) (nx : Int) (I : ByteArray) (d0 d1 : Int) (asc : Bool) (last : Int) (ind out : List Int) : Prop where
  e : ∃ vI vO, At W w0.heap.size b I d0 d1 asc last vI vO ind out
  x : Bx W g b nx
  lt : b < g
  below : Below w0.heap.size w0 W

theorem mf (fn : Fn) (first cap : Array Value) (w : World) : (Instr.makeFunc fn first cap).run Tryd.prog w = .ok (.func fn first cap) w := rfl


theorem door {tmps : Array Value} {R : Ending → World → Prop} (g h b : Nat) (nx last : Int) (W : World) (hg : W.cell? ⟨g, 0, none⟩ = some (.int .u8 nx)) (hh : W.cell? ⟨h, 0, none⟩ = some (.pointer (some ⟨b, 0, none⟩)))
    (hb : W.cell? ⟨b, 0, none⟩ = some (.int .u8 last)) (hf : W.frozen? ⟨b, 0, none⟩ = false) (hR : R (.returned (.tuple #[])) (W.setCell ⟨b, 0, none⟩ (.int .u8 nx))) :
    bodyPostD Tryd.prog Tryd.f77 R Exit.ret { tmps := tmps, defers := [{ target := Target.fn (Fn.func 89) #[.pointer (some ⟨g, 0, none⟩), .pointer (some ⟨h, 0, none⟩)], args := #[] }] } W := by
  refine leaves_cons (f := 89) (args := #[.pointer (some ⟨g, 0, none⟩), .pointer (some ⟨h, 0, none⟩)]) (by simp) (by simp [go_sem]) ?_
  refine (clo g h b nx last .returning W hg hh hb hf).mono ?_
  rintro e u' w'' ⟨rfl, rfl, rfl⟩
  exact ⟨_, results_none rfl _ _ _, hR⟩

theorem Sx.start {w0 w : World} {b : Nat} {I : ByteArray} {d0 d1 : Int} {asc : Bool} {last : Int} {vI vO : Value} {ind out : List Int} (nx : Int) (h : At w w0.heap.size b I d0 d1 asc last vI vO ind out) (hB : Below w0.heap.size w0 w) :
    Sx w0 ((w.alloc (Obj.cells #[Value.pointer (some ⟨b, 0, none⟩)] 67)).alloc (Obj.cells #[Value.int .u8 nx] 80)) w.heap.size b nx I d0 d1 asc last ind out := by
  have hb2 := below_alloc (below_alloc (Below.refl _ w) (Obj.cells #[Value.pointer (some ⟨b, 0, none⟩)] 67)) (Obj.cells #[Value.int .u8 nx] 80)
  exact ⟨⟨_, _, h.below hb2⟩, Bx.mk0 w b nx, h.lt, below_then hB hB.size hb2⟩

set_option maxHeartbeats 4000000 in
set_option maxRecDepth 100000 in
theorem pn_space (b : Nat) (last : Int) (vI0 vO0 : Value) (I : ByteArray) (d0 d1 : Int) (asc : Bool) (ind0 out0 : List Int) (w0 w : World) (hI : I.size = 0) (f1 : (Go.bits .and .u8 last 10 != 0) = true)
    (hB0 : Below w0.heap.size w0 w) (h : At w w0.heap.size b I d0 d1 asc last vI0 vO0 ind0 out0) (hl : out0.length + 4 * ind0.length + 4 * I.size + 10 ≤ 140737488355328) :
    Calls Tryd.prog 77 #[.pointer (some ⟨b, 0, none⟩), .int .u8 1] w fun e w' => e = .returned (.tuple #[]) ∧ (∃ vI vO, At w' w0.heap.size b I d0 d1 asc 1 vI vO (ind0) (out0 ++ [32])) ∧ Below w0.heap.size w0 w' := by
  have hmf := mf
  have c0 := h.c0
  have c3 := h.c3
  have hlt := h.lt
  have HA := Aside0.mk h
  have HB0 := Aside0.mk hB0
  have HL := Aside0.mk hl
  clear h hB0 hl
  go_enter_defers Tryd.func77, Tryd.ntmps77
  go_wp2_with fail
  have HS0 := Aside0.mk (Sx.start 1 HA.out HB0.out)
  generalize ((w.alloc (Obj.cells #[Value.pointer (some ⟨b, 0, none⟩)] 67)).alloc (Obj.cells #[Value.int .u8 1] 80)) = Wn at HS0 ⊢
  obtain ⟨⟨vI, vO, hA⟩, hX, hL, hB⟩ := HS0.out
  obtain ⟨AI, cI, rfl, hIle, hIC⟩ := Kd.R_reads hA.hI
  obtain ⟨AO, cO, rfl, hOle, hOC⟩ := Kd.R_reads hA.hO
  have hAd := Aside0.mk (hA.below (below_drew (Below.refl _ _)))
  have hXd := Aside0.mk (hX.below (below_drew (Below.refl _ _)))
  have hBd := Aside0.mk hB.drew
  have hIC := Aside0.mk hIC
  have hOC := Aside0.mk hOC
  clear hA hX hB
  apply reg_cut (R := fun W_ => Sx w0 W_ w.heap.size b 1 I d0 d1 asc last (ind0) (out0 ++ [32]))
  case h =>
    refine start_ (n := 12) (S := fun w' => w'.cell? ⟨w.heap.size, 0, none⟩ = some (.pointer (some ⟨b, 0, none⟩)) ∧ w'.cell? ⟨b, 2, none⟩ = some (.slice AO out0.length cO)) (ds := [11]) #[false, false, false, false, false, false, false, false, false, false, false, false] (by kernel_rfl) rfl rfl ⟨hXd.out.cp, hAd.out.c2⟩ (fun hHeld => ?_)
    refine take_ (i := 0) (N := some 22) (v := ?_) (a' := ?_) #[true, false, false, false, false, false, false, false, false, false, false, false] rfl rfl (by kernel_rfl) (fun _ _ _ h => h) (Or.inl ⟨by rfl, ?_⟩) hHeld ?_ ?_
    rotate_left
    · rintro w' ⟨s0, s1⟩
      go_simp
      with_reducible rfl
    rotate_left
    · simp only [Act.put, List.setIfInBounds_toArray, List.set_cons_zero, List.set_cons_succ, i64_w, i32_w]
      rfl
    refine take_ (i := 1) (N := some 23) (v := ?_) (a' := ?_) #[true, true, false, false, false, false, false, false, false, false, false, false] rfl rfl (by kernel_rfl) (fun _ _ _ h => h) (Or.inl ⟨by rfl, ?_⟩) hHeld ?_ ?_
    rotate_left
    · rintro w' ⟨s0, s1⟩
      go_simp
      with_reducible rfl
    rotate_left
    · simp only [Act.put, List.setIfInBounds_toArray, List.set_cons_zero, List.set_cons_succ, i64_w, i32_w]
      rfl
    refine pure_ (i := 2) (N := some 24) (v := ?_) (a' := ?_) #[true, true, true, false, false, false, false, false, false, false, false, false] rfl rfl (by kernel_rfl) (fun _ _ _ h => h) (Or.inl ⟨by rfl, ?_⟩) ?_ ?_
    rotate_left
    · intro w'
      go_simp
      with_reducible rfl
    rotate_left
    · simp only [Act.put, List.setIfInBounds_toArray, List.set_cons_zero, List.set_cons_succ, i64_w, i32_w]
      rfl
    refine pure_ (i := 3) (N := some 25) (v := ?_) (a' := ?_) #[true, true, true, true, false, false, false, false, false, false, false, false] rfl rfl (by kernel_rfl) (fun _ _ _ h => h) (Or.inl ⟨by rfl, ?_⟩) ?_ ?_
    rotate_left
    · intro w'
      go_simp
      with_reducible rfl
    rotate_left
    · simp only [Act.put, List.setIfInBounds_toArray, List.set_cons_zero, List.set_cons_succ, i64_w, i32_w]
      rfl
    refine pure_ (i := 4) (N := some 26) (v := ?_) (a' := ?_) #[true, true, true, true, true, false, false, false, false, false, false, false] rfl rfl (by kernel_rfl) (fun _ _ _ h => h) (Or.inl ⟨by rfl, ?_⟩) ?_ ?_
    rotate_left
    · intro w'
      go_simp
      with_reducible rfl
    rotate_left
    · simp only [Act.put, List.setIfInBounds_toArray, List.set_cons_zero, List.set_cons_succ, i64_w, i32_w]
      rfl
    refine take_ (i := 5) (N := some 27) (v := ?_) (a' := ?_) #[true, true, true, true, true, true, false, false, false, false, false, false] rfl rfl (by kernel_rfl) (fun _ _ _ h => h) (Or.inl ⟨by rfl, ?_⟩) hHeld ?_ ?_
    rotate_left
    · rintro w' ⟨s0, s1⟩
      go_simp
      with_reducible rfl
    rotate_left
    · simp only [Act.put, List.setIfInBounds_toArray, List.set_cons_zero, List.set_cons_succ, i64_w, i32_w]
      rfl
    refine one_ (i := 6) (N := some 28) #[true, true, true, true, true, true, true, false, false, false, false, false] rfl rfl (by kernel_rfl) (by decide) (fun K hK => ?_)
    refine value_ (w1 := ?_) (v := ?_) (by rfl) rfl ?_ ?_
    rotate_left 2
    · go_simp
      constructor
      · rfl
      · rfl
    refine hK.out _ _ ⟨(hXd.out.below (below_alloc (Below.refl _ _) _)).cp, (hAd.out.below (below_alloc (Below.refl _ _) _)).c2⟩ (fun hHeld => ?_)
    clear hK K
    refine norm_ (a' := ?_) ?_ ?_
    rotate_left
    · show Act.put _ (some 28) _ = _
      simp only [Act.put, List.setIfInBounds_toArray, List.set_cons_zero, List.set_cons_succ, i64_w, i32_w]
      rfl
    refine one_ (i := 7) (N := some 29) #[true, true, true, true, true, true, true, true, false, false, false, false] rfl rfl (by kernel_rfl) (by decide) (fun K hK => ?_)
    refine Kd.R_append_step (Kd.int .u8) (w0 := w0) w0.heap.size (by rfl) (.tmp 27) (.tmp 28) 29 5 (.int .u8 0) 1 (by rfl) Tryd.underlying29 info5 rfl (by decide) (by omega) (.slice AO out0.length cO) out0 32 [.int .u8 32] (fun k => k ≠ b ∧ some k ≠ (Value.slice AI ind0.length cI).ownBlock) (fun _ => False) (by rfl) (by rfl) (by rfl) (fun _ hk => hk.elim) (fun k hk => freshO hAd.out k hk) hAd.out.hO hBd.out hBd.out.size (by rw [Nat.mul_one]; have := HL.out; omega) ?_
    intro v1 w3 hR hB3 hG hat; have hK3 := Aside0.mk (grown_kept hAd.out.hO hG); have hg2 := hXd.out.grown hAd.out.hO hG; clear hat hG
    obtain ⟨A3, m3, hv⟩ := Kd.R_slice hR; rw [List.length_append, show ([32] : List Int).length = 1 from rfl] at hv; subst hv; have HO := Aside0.mk (hAd.out.toOut hR hK3.out); have HX3 := Aside0.mk hg2; have HB3 := Aside0.mk hB3; clear hR hB3 hK3 hg2; have d2 := HO.out.c2; have dz2 := HO.out.fz 2
    refine hK.out _ _ ⟨HX3.out.cp, HO.out.c2⟩ (fun hHeld => ?_)
    clear hK K
    refine norm_ (a' := ?_) ?_ ?_
    rotate_left
    · show Act.put _ (some 29) _ = _
      simp only [Act.put, List.setIfInBounds_toArray, List.set_cons_zero, List.set_cons_succ, i64_w, i32_w]
      rfl
    refine pure_ (i := 8) (N := some 30) (v := ?_) (a' := ?_) #[true, true, true, true, true, true, true, true, true, false, false, false] rfl rfl (by kernel_rfl) (fun _ _ _ h => h) (Or.inl ⟨by rfl, ?_⟩) ?_ ?_
    rotate_left
    · intro w'
      go_simp
      with_reducible rfl
    rotate_left
    · simp only [Act.put, List.setIfInBounds_toArray, List.set_cons_zero, List.set_cons_succ, i64_w, i32_w]
      rfl
    refine pure_ (i := 9) (N := some 31) (v := ?_) (a' := ?_) #[true, true, true, true, true, true, true, true, true, true, false, false] rfl rfl (by kernel_rfl) (fun _ _ _ h => h) (Or.inl ⟨by rfl, ?_⟩) ?_ ?_
    rotate_left
    · intro w'
      go_simp
      with_reducible rfl
    rotate_left
    · simp only [Act.put, List.setIfInBounds_toArray, List.set_cons_zero, List.set_cons_succ, i64_w, i32_w]
      rfl
    refine pure_ (i := 10) (N := some 32) (v := ?_) (a' := ?_) #[true, true, true, true, true, true, true, true, true, true, true, false] rfl rfl (by kernel_rfl) (fun _ _ _ h => h) (Or.inl ⟨by rfl, ?_⟩) ?_ ?_
    rotate_left
    · intro w'
      go_simp
      with_reducible rfl
    rotate_left
    · simp only [Act.put, List.setIfInBounds_toArray, List.set_cons_zero, List.set_cons_succ, i64_w, i32_w]
      rfl
    refine last_ (i := 11) (N := none) #[true, true, true, true, true, true, true, true, true, true, true, true] rfl rfl (by kernel_rfl) (by decide) (fun K hK => ?_)
    refine skip_ (w1 := ?_) (by rfl) rfl ?_ ?_
    rotate_left
    · go_simp
      rfl
    refine hK.out _ _ ?_
    clear hK K
    refine done_ (by kernel_rfl) ?_
    refine ⟨A3, m3, rfl, Aside0.mk ⟨⟨_, _, HO.out.set⟩, HX3.out.set hL 2 _, hL, HB3.out.setCell HA.out.le _⟩⟩
  case k =>
    clear HS0 hL hAd hXd hBd hIC hOC hIle hOle
    clear c0 c3
    intro A4 m4 Wm HS1
    obtain ⟨ind1, hind1⟩ : ∃ x, x = ind0 := ⟨_, rfl⟩
    obtain ⟨out1, hout1⟩ : ∃ x, x = out0 ++ [32] := ⟨_, rfl⟩
    rw [← hout1, ← hind1] at HS1
    have HE1 := Aside0.mk (show out1.length = out0.length + 1 ∧ ind1.length = ind0.length from ⟨by simp [hout1], by simp [hind1]⟩)
    have HI1 := Aside0.mk hind1; have HO1 := Aside0.mk hout1; clear hind1 hout1
    have hx := HS1.out
    obtain ⟨⟨vI, vO, hA⟩, hX, hL, hB⟩ := hx
    have c0 := hA.c0; have c1 := hA.c1; have c2 := hA.c2; have c3 := hA.c3; have cp := hX.cp; have cn := hX.cn
    clear hA hX hL hB
    go_wp2_with fail
    obtain ⟨⟨vI, vO, hA⟩, hX, hL, hB⟩ := HS1.out
    refine door _ _ b 1 _ _ hX.cn hX.cp hA.c0 (hA.fz 0) ⟨rfl, ⟨vI, vO, ?_⟩, hB.setCell HA.out.le _⟩
    have hind1 := HI1.out; have hout1 := HO1.out; subst hind1 hout1
    exact hA.set_last 1

set_option maxHeartbeats 4000000 in
set_option maxRecDepth 100000 in
theorem pn_name (b : Nat) (nx : Int) (vI0 vO0 : Value) (I : ByteArray) (d0 d1 : Int) (asc : Bool) (ind0 out0 : List Int) (w0 w : World) (hI : ¬ I.size = 0)
    (hB0 : Below w0.heap.size w0 w) (h : At w w0.heap.size b I d0 d1 asc 1 vI0 vO0 ind0 out0) (hl : out0.length + 4 * ind0.length + 4 * I.size + 10 ≤ 140737488355328) :
    Calls Tryd.prog 77 #[.pointer (some ⟨b, 0, none⟩), .int .u8 nx] w fun e w' => e = .returned (.tuple #[]) ∧ (∃ vI vO, At w' w0.heap.size b I d0 d1 asc nx vI vO (ind0) (out0 ++ [32])) ∧ Below w0.heap.size w0 w' := by
  have hmf := mf
  have c0 := h.c0
  have c3 := h.c3
  have hlt := h.lt
  have HA := Aside0.mk h
  have HB0 := Aside0.mk hB0
  have HL := Aside0.mk hl
  clear h hB0 hl
  go_enter_defers Tryd.func77, Tryd.ntmps77
  go_wp2_with fail
  have HS0 := Aside0.mk (Sx.start nx HA.out HB0.out)
  generalize ((w.alloc (Obj.cells #[Value.pointer (some ⟨b, 0, none⟩)] 67)).alloc (Obj.cells #[Value.int .u8 nx] 80)) = Wn at HS0 ⊢
  obtain ⟨⟨vI, vO, hA⟩, hX, hL, hB⟩ := HS0.out
  obtain ⟨AI, cI, rfl, hIle, hIC⟩ := Kd.R_reads hA.hI
  obtain ⟨AO, cO, rfl, hOle, hOC⟩ := Kd.R_reads hA.hO
  have hAd := Aside0.mk (hA.below (below_drew (Below.refl _ _)))
  have hXd := Aside0.mk (hX.below (below_drew (Below.refl _ _)))
  have hBd := Aside0.mk hB.drew
  have hIC := Aside0.mk hIC
  have hOC := Aside0.mk hOC
  clear hA hX hB
  apply reg_cut (R := fun W_ => Sx w0 W_ w.heap.size b nx I d0 d1 asc 1 (ind0) (out0 ++ [32]))
  case h =>
    refine start_ (n := 12) (S := fun w' => w'.cell? ⟨w.heap.size, 0, none⟩ = some (.pointer (some ⟨b, 0, none⟩)) ∧ w'.cell? ⟨b, 2, none⟩ = some (.slice AO out0.length cO)) (ds := [11]) #[false, false, false, false, false, false, false, false, false, false, false, false] (by kernel_rfl) rfl rfl ⟨hXd.out.cp, hAd.out.c2⟩ (fun hHeld => ?_)
    refine take_ (i := 0) (N := some 40) (v := ?_) (a' := ?_) #[true, false, false, false, false, false, false, false, false, false, false, false] rfl rfl (by kernel_rfl) (fun _ _ _ h => h) (Or.inl ⟨by rfl, ?_⟩) hHeld ?_ ?_
    rotate_left
    · rintro w' ⟨s0, s1⟩
      go_simp
      with_reducible rfl
    rotate_left
    · simp only [Act.put, List.setIfInBounds_toArray, List.set_cons_zero, List.set_cons_succ, i64_w, i32_w]
      rfl
    refine take_ (i := 1) (N := some 41) (v := ?_) (a' := ?_) #[true, true, false, false, false, false, false, false, false, false, false, false] rfl rfl (by kernel_rfl) (fun _ _ _ h => h) (Or.inl ⟨by rfl, ?_⟩) hHeld ?_ ?_
    rotate_left
    · rintro w' ⟨s0, s1⟩
      go_simp
      with_reducible rfl
    rotate_left
    · simp only [Act.put, List.setIfInBounds_toArray, List.set_cons_zero, List.set_cons_succ, i64_w, i32_w]
      rfl
    refine pure_ (i := 2) (N := some 42) (v := ?_) (a' := ?_) #[true, true, true, false, false, false, false, false, false, false, false, false] rfl rfl (by kernel_rfl) (fun _ _ _ h => h) (Or.inl ⟨by rfl, ?_⟩) ?_ ?_
    rotate_left
    · intro w'
      go_simp
      with_reducible rfl
    rotate_left
    · simp only [Act.put, List.setIfInBounds_toArray, List.set_cons_zero, List.set_cons_succ, i64_w, i32_w]
      rfl
    refine pure_ (i := 3) (N := some 43) (v := ?_) (a' := ?_) #[true, true, true, true, false, false, false, false, false, false, false, false] rfl rfl (by kernel_rfl) (fun _ _ _ h => h) (Or.inl ⟨by rfl, ?_⟩) ?_ ?_
    rotate_left
    · intro w'
      go_simp
      with_reducible rfl
    rotate_left
    · simp only [Act.put, List.setIfInBounds_toArray, List.set_cons_zero, List.set_cons_succ, i64_w, i32_w]
      rfl
    refine pure_ (i := 4) (N := some 44) (v := ?_) (a' := ?_) #[true, true, true, true, true, false, false, false, false, false, false, false] rfl rfl (by kernel_rfl) (fun _ _ _ h => h) (Or.inl ⟨by rfl, ?_⟩) ?_ ?_
    rotate_left
    · intro w'
      go_simp
      with_reducible rfl
    rotate_left
    · simp only [Act.put, List.setIfInBounds_toArray, List.set_cons_zero, List.set_cons_succ, i64_w, i32_w]
      rfl
    refine take_ (i := 5) (N := some 45) (v := ?_) (a' := ?_) #[true, true, true, true, true, true, false, false, false, false, false, false] rfl rfl (by kernel_rfl) (fun _ _ _ h => h) (Or.inl ⟨by rfl, ?_⟩) hHeld ?_ ?_
    rotate_left
    · rintro w' ⟨s0, s1⟩
      go_simp
      with_reducible rfl
    rotate_left
    · simp only [Act.put, List.setIfInBounds_toArray, List.set_cons_zero, List.set_cons_succ, i64_w, i32_w]
      rfl
    refine one_ (i := 6) (N := some 46) #[true, true, true, true, true, true, true, false, false, false, false, false] rfl rfl (by kernel_rfl) (by decide) (fun K hK => ?_)
    refine value_ (w1 := ?_) (v := ?_) (by rfl) rfl ?_ ?_
    rotate_left 2
    · go_simp
      constructor
      · rfl
      · rfl
    refine hK.out _ _ ⟨(hXd.out.below (below_alloc (Below.refl _ _) _)).cp, (hAd.out.below (below_alloc (Below.refl _ _) _)).c2⟩ (fun hHeld => ?_)
    clear hK K
    refine norm_ (a' := ?_) ?_ ?_
    rotate_left
    · show Act.put _ (some 46) _ = _
      simp only [Act.put, List.setIfInBounds_toArray, List.set_cons_zero, List.set_cons_succ, i64_w, i32_w]
      rfl
    refine one_ (i := 7) (N := some 47) #[true, true, true, true, true, true, true, true, false, false, false, false] rfl rfl (by kernel_rfl) (by decide) (fun K hK => ?_)
    refine Kd.R_append_step (Kd.int .u8) (w0 := w0) w0.heap.size (by rfl) (.tmp 45) (.tmp 46) 29 5 (.int .u8 0) 1 (by rfl) Tryd.underlying29 info5 rfl (by decide) (by omega) (.slice AO out0.length cO) out0 32 [.int .u8 32] (fun k => k ≠ b ∧ some k ≠ (Value.slice AI ind0.length cI).ownBlock) (fun _ => False) (by rfl) (by rfl) (by rfl) (fun _ hk => hk.elim) (fun k hk => freshO hAd.out k hk) hAd.out.hO hBd.out hBd.out.size (by rw [Nat.mul_one]; have := HL.out; omega) ?_
    intro v1 w3 hR hB3 hG hat; have hK3 := Aside0.mk (grown_kept hAd.out.hO hG); have hg2 := hXd.out.grown hAd.out.hO hG; clear hat hG
    obtain ⟨A3, m3, hv⟩ := Kd.R_slice hR; rw [List.length_append, show ([32] : List Int).length = 1 from rfl] at hv; subst hv; have HO := Aside0.mk (hAd.out.toOut hR hK3.out); have HX3 := Aside0.mk hg2; have HB3 := Aside0.mk hB3; clear hR hB3 hK3 hg2; have d2 := HO.out.c2; have dz2 := HO.out.fz 2
    refine hK.out _ _ ⟨HX3.out.cp, HO.out.c2⟩ (fun hHeld => ?_)
    clear hK K
    refine norm_ (a' := ?_) ?_ ?_
    rotate_left
    · show Act.put _ (some 47) _ = _
      simp only [Act.put, List.setIfInBounds_toArray, List.set_cons_zero, List.set_cons_succ, i64_w, i32_w]
      rfl
    refine pure_ (i := 8) (N := some 48) (v := ?_) (a' := ?_) #[true, true, true, true, true, true, true, true, true, false, false, false] rfl rfl (by kernel_rfl) (fun _ _ _ h => h) (Or.inl ⟨by rfl, ?_⟩) ?_ ?_
    rotate_left
    · intro w'
      go_simp
      with_reducible rfl
    rotate_left
    · simp only [Act.put, List.setIfInBounds_toArray, List.set_cons_zero, List.set_cons_succ, i64_w, i32_w]
      rfl
    refine pure_ (i := 9) (N := some 49) (v := ?_) (a' := ?_) #[true, true, true, true, true, true, true, true, true, true, false, false] rfl rfl (by kernel_rfl) (fun _ _ _ h => h) (Or.inl ⟨by rfl, ?_⟩) ?_ ?_
    rotate_left
    · intro w'
      go_simp
      with_reducible rfl
    rotate_left
    · simp only [Act.put, List.setIfInBounds_toArray, List.set_cons_zero, List.set_cons_succ, i64_w, i32_w]
      rfl
    refine pure_ (i := 10) (N := some 50) (v := ?_) (a' := ?_) #[true, true, true, true, true, true, true, true, true, true, true, false] rfl rfl (by kernel_rfl) (fun _ _ _ h => h) (Or.inl ⟨by rfl, ?_⟩) ?_ ?_
    rotate_left
    · intro w'
      go_simp
      with_reducible rfl
    rotate_left
    · simp only [Act.put, List.setIfInBounds_toArray, List.set_cons_zero, List.set_cons_succ, i64_w, i32_w]
      rfl
    refine last_ (i := 11) (N := none) #[true, true, true, true, true, true, true, true, true, true, true, true] rfl rfl (by kernel_rfl) (by decide) (fun K hK => ?_)
    refine skip_ (w1 := ?_) (by rfl) rfl ?_ ?_
    rotate_left
    · go_simp
      rfl
    refine hK.out _ _ ?_
    clear hK K
    refine done_ (by kernel_rfl) ?_
    refine ⟨A3, m3, rfl, Aside0.mk ⟨⟨_, _, HO.out.set⟩, HX3.out.set hL 2 _, hL, HB3.out.setCell HA.out.le _⟩⟩
  case k =>
    clear HS0 hL hAd hXd hBd hIC hOC hIle hOle
    clear c0 c3
    intro A4 m4 Wm HS1
    obtain ⟨ind1, hind1⟩ : ∃ x, x = ind0 := ⟨_, rfl⟩
    obtain ⟨out1, hout1⟩ : ∃ x, x = out0 ++ [32] := ⟨_, rfl⟩
    rw [← hout1, ← hind1] at HS1
    have HE1 := Aside0.mk (show out1.length = out0.length + 1 ∧ ind1.length = ind0.length from ⟨by simp [hout1], by simp [hind1]⟩)
    have HI1 := Aside0.mk hind1; have HO1 := Aside0.mk hout1; clear hind1 hout1
    have hx := HS1.out
    obtain ⟨⟨vI, vO, hA⟩, hX, hL, hB⟩ := hx
    have c0 := hA.c0; have c1 := hA.c1; have c2 := hA.c2; have c3 := hA.c3; have cp := hX.cp; have cn := hX.cn
    clear hA hX hL hB
    go_wp2_with fail
    obtain ⟨⟨vI, vO, hA⟩, hX, hL, hB⟩ := HS1.out
    refine door _ _ b nx _ _ hX.cn hX.cp hA.c0 (hA.fz 0) ⟨rfl, ⟨vI, vO, ?_⟩, hB.setCell HA.out.le _⟩
    have hind1 := HI1.out; have hout1 := HO1.out; subst hind1 hout1
    exact hA.set_last nx

set_option maxHeartbeats 4000000 in
set_option maxRecDepth 100000 in
theorem pn_open (b : Nat) (nx : Int) (vI0 vO0 : Value) (I : ByteArray) (d0 d1 : Int) (asc : Bool) (ind0 out0 : List Int) (w0 w : World) (hI : ¬ I.size = 0) (hn : (nx != 8) = true)
    (hB0 : Below w0.heap.size w0 w) (h : At w w0.heap.size b I d0 d1 asc 4 vI0 vO0 ind0 out0) (hl : out0.length + 4 * ind0.length + 4 * I.size + 10 ≤ 140737488355328) :
    Calls Tryd.prog 77 #[.pointer (some ⟨b, 0, none⟩), .int .u8 nx] w fun e w' => e = .returned (.tuple #[]) ∧ (∃ vI vO, At w' w0.heap.size b I d0 d1 asc nx vI vO (((ind0 ++ bytesOf I))) (((out0) ++ [10]) ++ ((ind0 ++ bytesOf I)))) ∧ Below w0.heap.size w0 w' := by
  have hmf := mf
  have c0 := h.c0
  have c3 := h.c3
  have hlt := h.lt
  have HA := Aside0.mk h
  have HB0 := Aside0.mk hB0
  have HL := Aside0.mk hl
  clear h hB0 hl
  go_enter_defers Tryd.func77, Tryd.ntmps77
  go_wp2_with fail
  have HS0 := Aside0.mk (Sx.start nx HA.out HB0.out)
  generalize ((w.alloc (Obj.cells #[Value.pointer (some ⟨b, 0, none⟩)] 67)).alloc (Obj.cells #[Value.int .u8 nx] 80)) = Wn at HS0 ⊢
  obtain ⟨⟨vI, vO, hA⟩, hX, hL, hB⟩ := HS0.out
  obtain ⟨AI, cI, rfl, hIle, hIC⟩ := Kd.R_reads hA.hI
  obtain ⟨AO, cO, rfl, hOle, hOC⟩ := Kd.R_reads hA.hO
  have hAd := Aside0.mk (hA.below (below_drew (Below.refl _ _)))
  have hXd := Aside0.mk (hX.below (below_drew (Below.refl _ _)))
  have hBd := Aside0.mk hB.drew
  have hIC := Aside0.mk hIC
  have hOC := Aside0.mk hOC
  clear hA hX hB
  apply reg_cut (R := fun W_ => Sx w0 W_ w.heap.size b nx I d0 d1 asc 4 (ind0 ++ bytesOf I) (out0))
  case h =>
    refine start_ (n := 15) (S := fun w' => w'.cell? ⟨w.heap.size, 0, none⟩ = some (.pointer (some ⟨b, 0, none⟩)) ∧ w'.cell? ⟨b, 1, none⟩ = some (.slice AI ind0.length cI) ∧ w'.cell? ⟨b, 3, none⟩ = some (.string I)) (ds := [14]) #[false, false, false, false, false, false, false, false, false, false, false, false, false, false, false] (by kernel_rfl) rfl rfl ⟨hXd.out.cp, hAd.out.c1, hAd.out.c3⟩ (fun hHeld => ?_)
    refine take_ (i := 0) (N := some 62) (v := ?_) (a' := ?_) #[true, false, false, false, false, false, false, false, false, false, false, false, false, false, false] rfl rfl (by kernel_rfl) (fun _ _ _ h => h) (Or.inl ⟨by rfl, ?_⟩) hHeld ?_ ?_
    rotate_left
    · rintro w' ⟨s0, s1, s2⟩
      go_simp
      with_reducible rfl
    rotate_left
    · simp only [Act.put, List.setIfInBounds_toArray, List.set_cons_zero, List.set_cons_succ, i64_w, i32_w]
      rfl
    refine take_ (i := 1) (N := some 63) (v := ?_) (a' := ?_) #[true, true, false, false, false, false, false, false, false, false, false, false, false, false, false] rfl rfl (by kernel_rfl) (fun _ _ _ h => h) (Or.inl ⟨by rfl, ?_⟩) hHeld ?_ ?_
    rotate_left
    · rintro w' ⟨s0, s1, s2⟩
      go_simp
      with_reducible rfl
    rotate_left
    · simp only [Act.put, List.setIfInBounds_toArray, List.set_cons_zero, List.set_cons_succ, i64_w, i32_w]
      rfl
    refine pure_ (i := 2) (N := some 64) (v := ?_) (a' := ?_) #[true, true, true, false, false, false, false, false, false, false, false, false, false, false, false] rfl rfl (by kernel_rfl) (fun _ _ _ h => h) (Or.inl ⟨by rfl, ?_⟩) ?_ ?_
    rotate_left
    · intro w'
      go_simp
      with_reducible rfl
    rotate_left
    · simp only [Act.put, List.setIfInBounds_toArray, List.set_cons_zero, List.set_cons_succ, i64_w, i32_w]
      rfl
    refine pure_ (i := 3) (N := some 65) (v := ?_) (a' := ?_) #[true, true, true, true, false, false, false, false, false, false, false, false, false, false, false] rfl rfl (by kernel_rfl) (fun _ _ _ h => h) (Or.inl ⟨by rfl, ?_⟩) ?_ ?_
    rotate_left
    · intro w'
      go_simp
      with_reducible rfl
    rotate_left
    · simp only [Act.put, List.setIfInBounds_toArray, List.set_cons_zero, List.set_cons_succ, i64_w, i32_w]
      rfl
    refine pure_ (i := 4) (N := some 66) (v := ?_) (a' := ?_) #[true, true, true, true, true, false, false, false, false, false, false, false, false, false, false] rfl rfl (by kernel_rfl) (fun _ _ _ h => h) (Or.inl ⟨by rfl, ?_⟩) ?_ ?_
    rotate_left
    · intro w'
      go_simp
      with_reducible rfl
    rotate_left
    · simp only [Act.put, List.setIfInBounds_toArray, List.set_cons_zero, List.set_cons_succ, i64_w, i32_w]
      rfl
    refine take_ (i := 5) (N := some 67) (v := ?_) (a' := ?_) #[true, true, true, true, true, true, false, false, false, false, false, false, false, false, false] rfl rfl (by kernel_rfl) (fun _ _ _ h => h) (Or.inl ⟨by rfl, ?_⟩) hHeld ?_ ?_
    rotate_left
    · rintro w' ⟨s0, s1, s2⟩
      go_simp
      with_reducible rfl
    rotate_left
    · simp only [Act.put, List.setIfInBounds_toArray, List.set_cons_zero, List.set_cons_succ, i64_w, i32_w]
      rfl
    refine take_ (i := 6) (N := some 68) (v := ?_) (a' := ?_) #[true, true, true, true, true, true, true, false, false, false, false, false, false, false, false] rfl rfl (by kernel_rfl) (fun _ _ _ h => h) (Or.inl ⟨by rfl, ?_⟩) hHeld ?_ ?_
    rotate_left
    · rintro w' ⟨s0, s1, s2⟩
      go_simp
      with_reducible rfl
    rotate_left
    · simp only [Act.put, List.setIfInBounds_toArray, List.set_cons_zero, List.set_cons_succ, i64_w, i32_w]
      rfl
    refine pure_ (i := 7) (N := some 69) (v := ?_) (a' := ?_) #[true, true, true, true, true, true, true, true, false, false, false, false, false, false, false] rfl rfl (by kernel_rfl) (fun _ _ _ h => h) (Or.inl ⟨by rfl, ?_⟩) ?_ ?_
    rotate_left
    · intro w'
      go_simp
      with_reducible rfl
    rotate_left
    · simp only [Act.put, List.setIfInBounds_toArray, List.set_cons_zero, List.set_cons_succ, i64_w, i32_w]
      rfl
    refine pure_ (i := 8) (N := some 70) (v := ?_) (a' := ?_) #[true, true, true, true, true, true, true, true, true, false, false, false, false, false, false] rfl rfl (by kernel_rfl) (fun _ _ _ h => h) (Or.inl ⟨by rfl, ?_⟩) ?_ ?_
    rotate_left
    · intro w'
      go_simp
      with_reducible rfl
    rotate_left
    · simp only [Act.put, List.setIfInBounds_toArray, List.set_cons_zero, List.set_cons_succ, i64_w, i32_w]
      rfl
    refine take_ (i := 9) (N := some 71) (v := ?_) (a' := ?_) #[true, true, true, true, true, true, true, true, true, true, false, false, false, false, false] rfl rfl (by kernel_rfl) (fun _ _ _ h => h) (Or.inl ⟨by rfl, ?_⟩) hHeld ?_ ?_
    rotate_left
    · rintro w' ⟨s0, s1, s2⟩
      go_simp
      with_reducible rfl
    rotate_left
    · simp only [Act.put, List.setIfInBounds_toArray, List.set_cons_zero, List.set_cons_succ, i64_w, i32_w]
      rfl
    refine one_ (i := 10) (N := some 72) #[true, true, true, true, true, true, true, true, true, true, true, false, false, false, false] rfl rfl (by kernel_rfl) (by decide) (fun K hK => ?_)
    refine step_app_str (w0 := w0) w0.heap.size (by rfl) (.tmp 67) (.tmp 71) 29 9 5 (by rfl) Tryd.underlying29 Tryd.underlying9 info5 (fun k => (fun k => k ≠ b ∧ some k ≠ (Value.slice AO out0.length cO).ownBlock) k ∧ k ≠ w.heap.size ∧ k ≠ w.heap.size + 1) (.slice AI ind0.length cI) ind0 I (by rfl) (by rfl) (fun k hk => ⟨freshI hAd.out k hk, hXd.out.fresh k hk⟩) (hXd.out.okR hAd.out.apart) hBd.out hBd.out.size (by have := HL.out; omega) ?_
    intro v1 w3 hR hB3 hK
    have hg2 := hXd.out.kept hK
    obtain ⟨A3, m3, hv⟩ := Kd.R_slice hR; rw [List.length_append, bytesOf_length] at hv; subst hv; have HO := Aside0.mk (hAd.out.toInd (Kd.R_mono hR (fun _ h => h.1)) (hK.mono (fun _ h => h.1))); have HX3 := Aside0.mk hg2; have HB3 := Aside0.mk hB3; clear hR hB3 hK hg2; have d2 := HO.out.c1; have dz2 := HO.out.fz 1
    refine hK.out _ _ ⟨HX3.out.cp, HO.out.c1, HO.out.c3⟩ (fun hHeld => ?_)
    clear hK K
    refine norm_ (a' := ?_) ?_ ?_
    rotate_left
    · show Act.put _ (some 72) _ = _
      simp only [Act.put, List.setIfInBounds_toArray, List.set_cons_zero, List.set_cons_succ, i64_w, i32_w]
      rfl
    refine pure_ (i := 11) (N := some 73) (v := ?_) (a' := ?_) #[true, true, true, true, true, true, true, true, true, true, true, true, false, false, false] rfl rfl (by kernel_rfl) (fun _ _ _ h => h) (Or.inl ⟨by rfl, ?_⟩) ?_ ?_
    rotate_left
    · intro w'
      go_simp
      with_reducible rfl
    rotate_left
    · simp only [Act.put, List.setIfInBounds_toArray, List.set_cons_zero, List.set_cons_succ, i64_w, i32_w]
      rfl
    refine pure_ (i := 12) (N := some 74) (v := ?_) (a' := ?_) #[true, true, true, true, true, true, true, true, true, true, true, true, true, false, false] rfl rfl (by kernel_rfl) (fun _ _ _ h => h) (Or.inl ⟨by rfl, ?_⟩) ?_ ?_
    rotate_left
    · intro w'
      go_simp
      with_reducible rfl
    rotate_left
    · simp only [Act.put, List.setIfInBounds_toArray, List.set_cons_zero, List.set_cons_succ, i64_w, i32_w]
      rfl
    refine pure_ (i := 13) (N := some 75) (v := ?_) (a' := ?_) #[true, true, true, true, true, true, true, true, true, true, true, true, true, true, false] rfl rfl (by kernel_rfl) (fun _ _ _ h => h) (Or.inl ⟨by rfl, ?_⟩) ?_ ?_
    rotate_left
    · intro w'
      go_simp
      with_reducible rfl
    rotate_left
    · simp only [Act.put, List.setIfInBounds_toArray, List.set_cons_zero, List.set_cons_succ, i64_w, i32_w]
      rfl
    refine last_ (i := 14) (N := none) #[true, true, true, true, true, true, true, true, true, true, true, true, true, true, true] rfl rfl (by kernel_rfl) (by decide) (fun K hK => ?_)
    refine skip_ (w1 := ?_) (by rfl) rfl ?_ ?_
    rotate_left
    · go_simp
      rfl
    refine hK.out _ _ ?_
    clear hK K
    refine done_ (by kernel_rfl) ?_
    refine ⟨A3, m3, rfl, Aside0.mk ⟨⟨_, _, HO.out.set⟩, HX3.out.set hL 1 _, hL, HB3.out.setCell HA.out.le _⟩⟩
  case k =>
    clear HS0 hL hAd hXd hBd hIC hOC hIle hOle
    clear c0 c3
    intro A4 m4 Wm HS1
    obtain ⟨ind1, hind1⟩ : ∃ x, x = ind0 ++ bytesOf I := ⟨_, rfl⟩
    obtain ⟨out1, hout1⟩ : ∃ x, x = out0 := ⟨_, rfl⟩
    rw [← hout1, ← hind1] at HS1
    have HE1 := Aside0.mk (show out1.length = out0.length ∧ ind1.length = ind0.length + I.size from ⟨by simp [hout1], by simp [hind1, bytesOf_length]⟩)
    have HI1 := Aside0.mk hind1; have HO1 := Aside0.mk hout1; clear hind1 hout1
    have hx := HS1.out
    obtain ⟨⟨vI, vO, hA⟩, hX, hL, hB⟩ := hx
    have c0 := hA.c0; have c1 := hA.c1; have c2 := hA.c2; have c3 := hA.c3; have cp := hX.cp; have cn := hX.cn
    clear hA hX hL hB
    go_wp2_with fail
    obtain ⟨⟨vI, vO, hA⟩, hX, hL, hB⟩ := HS1.out
    obtain ⟨AI, cI, rfl, hIle, hIC⟩ := Kd.R_reads hA.hI
    obtain ⟨AO, cO, rfl, hOle, hOC⟩ := Kd.R_reads hA.hO
    have hAd := Aside0.mk (hA.below (below_drew (Below.refl _ _)))
    have hXd := Aside0.mk (hX.below (below_drew (Below.refl _ _)))
    have hBd := Aside0.mk hB.drew
    have hIC := Aside0.mk hIC
    have hOC := Aside0.mk hOC
    clear hA hX hB
    apply reg_cut (R := fun W_ => Sx w0 W_ w.heap.size b nx I d0 d1 asc 4 (ind1) (out1 ++ [10]))
    case h =>
      refine start_ (n := 12) (S := fun w' => w'.cell? ⟨w.heap.size, 0, none⟩ = some (.pointer (some ⟨b, 0, none⟩)) ∧ w'.cell? ⟨b, 2, none⟩ = some (.slice AO out1.length cO)) (ds := [11]) #[false, false, false, false, false, false, false, false, false, false, false, false] (by kernel_rfl) rfl rfl ⟨hXd.out.cp, hAd.out.c2⟩ (fun hHeld => ?_)
      refine take_ (i := 0) (N := some 76) (v := ?_) (a' := ?_) #[true, false, false, false, false, false, false, false, false, false, false, false] rfl rfl (by kernel_rfl) (fun _ _ _ h => h) (Or.inl ⟨by rfl, ?_⟩) hHeld ?_ ?_
      rotate_left
      · rintro w' ⟨s0, s1⟩
        go_simp
        with_reducible rfl
      rotate_left
      · simp only [Act.put, List.setIfInBounds_toArray, List.set_cons_zero, List.set_cons_succ, i64_w, i32_w]
        rfl
      refine take_ (i := 1) (N := some 77) (v := ?_) (a' := ?_) #[true, true, false, false, false, false, false, false, false, false, false, false] rfl rfl (by kernel_rfl) (fun _ _ _ h => h) (Or.inl ⟨by rfl, ?_⟩) hHeld ?_ ?_
      rotate_left
      · rintro w' ⟨s0, s1⟩
        go_simp
        with_reducible rfl
      rotate_left
      · simp only [Act.put, List.setIfInBounds_toArray, List.set_cons_zero, List.set_cons_succ, i64_w, i32_w]
        rfl
      refine pure_ (i := 2) (N := some 78) (v := ?_) (a' := ?_) #[true, true, true, false, false, false, false, false, false, false, false, false] rfl rfl (by kernel_rfl) (fun _ _ _ h => h) (Or.inl ⟨by rfl, ?_⟩) ?_ ?_
      rotate_left
      · intro w'
        go_simp
        with_reducible rfl
      rotate_left
      · simp only [Act.put, List.setIfInBounds_toArray, List.set_cons_zero, List.set_cons_succ, i64_w, i32_w]
        rfl
      refine pure_ (i := 3) (N := some 79) (v := ?_) (a' := ?_) #[true, true, true, true, false, false, false, false, false, false, false, false] rfl rfl (by kernel_rfl) (fun _ _ _ h => h) (Or.inl ⟨by rfl, ?_⟩) ?_ ?_
      rotate_left
      · intro w'
        go_simp
        with_reducible rfl
      rotate_left
      · simp only [Act.put, List.setIfInBounds_toArray, List.set_cons_zero, List.set_cons_succ, i64_w, i32_w]
        rfl
      refine pure_ (i := 4) (N := some 80) (v := ?_) (a' := ?_) #[true, true, true, true, true, false, false, false, false, false, false, false] rfl rfl (by kernel_rfl) (fun _ _ _ h => h) (Or.inl ⟨by rfl, ?_⟩) ?_ ?_
      rotate_left
      · intro w'
        go_simp
        with_reducible rfl
      rotate_left
      · simp only [Act.put, List.setIfInBounds_toArray, List.set_cons_zero, List.set_cons_succ, i64_w, i32_w]
        rfl
      refine take_ (i := 5) (N := some 81) (v := ?_) (a' := ?_) #[true, true, true, true, true, true, false, false, false, false, false, false] rfl rfl (by kernel_rfl) (fun _ _ _ h => h) (Or.inl ⟨by rfl, ?_⟩) hHeld ?_ ?_
      rotate_left
      · rintro w' ⟨s0, s1⟩
        go_simp
        with_reducible rfl
      rotate_left
      · simp only [Act.put, List.setIfInBounds_toArray, List.set_cons_zero, List.set_cons_succ, i64_w, i32_w]
        rfl
      refine one_ (i := 6) (N := some 82) #[true, true, true, true, true, true, true, false, false, false, false, false] rfl rfl (by kernel_rfl) (by decide) (fun K hK => ?_)
      refine value_ (w1 := ?_) (v := ?_) (by rfl) rfl ?_ ?_
      rotate_left 2
      · go_simp
        constructor
        · rfl
        · rfl
      refine hK.out _ _ ⟨(hXd.out.below (below_alloc (Below.refl _ _) _)).cp, (hAd.out.below (below_alloc (Below.refl _ _) _)).c2⟩ (fun hHeld => ?_)
      clear hK K
      refine norm_ (a' := ?_) ?_ ?_
      rotate_left
      · show Act.put _ (some 82) _ = _
        simp only [Act.put, List.setIfInBounds_toArray, List.set_cons_zero, List.set_cons_succ, i64_w, i32_w]
        rfl
      refine one_ (i := 7) (N := some 83) #[true, true, true, true, true, true, true, true, false, false, false, false] rfl rfl (by kernel_rfl) (by decide) (fun K hK => ?_)
      refine Kd.R_append_step (Kd.int .u8) (w0 := w0) w0.heap.size (by rfl) (.tmp 81) (.tmp 82) 29 5 (.int .u8 0) 1 (by rfl) Tryd.underlying29 info5 rfl (by decide) (by omega) (.slice AO out1.length cO) out1 10 [.int .u8 10] (fun k => k ≠ b ∧ some k ≠ (Value.slice AI ind1.length cI).ownBlock) (fun _ => False) (by rfl) (by rfl) (by rfl) (fun _ hk => hk.elim) (fun k hk => freshO hAd.out k hk) hAd.out.hO hBd.out hBd.out.size (by rw [Nat.mul_one]; have := HL.out; have := HE1.out; omega) ?_
      intro v1 w3 hR hB3 hG hat; have hK3 := Aside0.mk (grown_kept hAd.out.hO hG); have hg2 := hXd.out.grown hAd.out.hO hG; clear hat hG
      obtain ⟨A3, m3, hv⟩ := Kd.R_slice hR; rw [List.length_append, show ([10] : List Int).length = 1 from rfl] at hv; subst hv; have HO := Aside0.mk (hAd.out.toOut hR hK3.out); have HX3 := Aside0.mk hg2; have HB3 := Aside0.mk hB3; clear hR hB3 hK3 hg2; have d2 := HO.out.c2; have dz2 := HO.out.fz 2
      refine hK.out _ _ ⟨HX3.out.cp, HO.out.c2⟩ (fun hHeld => ?_)
      clear hK K
      refine norm_ (a' := ?_) ?_ ?_
      rotate_left
      · show Act.put _ (some 83) _ = _
        simp only [Act.put, List.setIfInBounds_toArray, List.set_cons_zero, List.set_cons_succ, i64_w, i32_w]
        rfl
      refine pure_ (i := 8) (N := some 84) (v := ?_) (a' := ?_) #[true, true, true, true, true, true, true, true, true, false, false, false] rfl rfl (by kernel_rfl) (fun _ _ _ h => h) (Or.inl ⟨by rfl, ?_⟩) ?_ ?_
      rotate_left
      · intro w'
        go_simp
        with_reducible rfl
      rotate_left
      · simp only [Act.put, List.setIfInBounds_toArray, List.set_cons_zero, List.set_cons_succ, i64_w, i32_w]
        rfl
      refine pure_ (i := 9) (N := some 85) (v := ?_) (a' := ?_) #[true, true, true, true, true, true, true, true, true, true, false, false] rfl rfl (by kernel_rfl) (fun _ _ _ h => h) (Or.inl ⟨by rfl, ?_⟩) ?_ ?_
      rotate_left
      · intro w'
        go_simp
        with_reducible rfl
      rotate_left
      · simp only [Act.put, List.setIfInBounds_toArray, List.set_cons_zero, List.set_cons_succ, i64_w, i32_w]
        rfl
      refine pure_ (i := 10) (N := some 86) (v := ?_) (a' := ?_) #[true, true, true, true, true, true, true, true, true, true, true, false] rfl rfl (by kernel_rfl) (fun _ _ _ h => h) (Or.inl ⟨by rfl, ?_⟩) ?_ ?_
      rotate_left
      · intro w'
        go_simp
        with_reducible rfl
      rotate_left
      · simp only [Act.put, List.setIfInBounds_toArray, List.set_cons_zero, List.set_cons_succ, i64_w, i32_w]
        rfl
      refine last_ (i := 11) (N := none) #[true, true, true, true, true, true, true, true, true, true, true, true] rfl rfl (by kernel_rfl) (by decide) (fun K hK => ?_)
      refine skip_ (w1 := ?_) (by rfl) rfl ?_ ?_
      rotate_left
      · go_simp
        rfl
      refine hK.out _ _ ?_
      clear hK K
      refine done_ (by kernel_rfl) ?_
      refine ⟨A3, m3, rfl, Aside0.mk ⟨⟨_, _, HO.out.set⟩, HX3.out.set hL 2 _, hL, HB3.out.setCell HA.out.le _⟩⟩
    case k =>
      clear HS1 hL hAd hXd hBd hIC hOC hIle hOle
      clear c0 c1 c2 c3 cp cn
      intro A4 m4 Wm HS2
      obtain ⟨ind2, hind2⟩ : ∃ x, x = ind1 := ⟨_, rfl⟩
      obtain ⟨out2, hout2⟩ : ∃ x, x = out1 ++ [10] := ⟨_, rfl⟩
      rw [← hout2, ← hind2] at HS2
      have HE2 := Aside0.mk (show out2.length = out1.length + 1 ∧ ind2.length = ind1.length from ⟨by simp [hout2], by simp [hind2]⟩)
      have HI2 := Aside0.mk hind2; have HO2 := Aside0.mk hout2; clear hind2 hout2
      have hx := HS2.out
      obtain ⟨⟨vI, vO, hA⟩, hX, hL, hB⟩ := hx
      have c0 := hA.c0; have c1 := hA.c1; have c2 := hA.c2; have c3 := hA.c3; have cp := hX.cp; have cn := hX.cn
      clear hA hX hL hB
      go_wp2_with fail
      obtain ⟨⟨vI, vO, hA⟩, hX, hL, hB⟩ := HS2.out
      obtain ⟨AI, cI, rfl, hIle, hIC⟩ := Kd.R_reads hA.hI
      obtain ⟨AO, cO, rfl, hOle, hOC⟩ := Kd.R_reads hA.hO
      have hAd := Aside0.mk (hA.below (below_drew (Below.refl _ _)))
      have hXd := Aside0.mk (hX.below (below_drew (Below.refl _ _)))
      have hBd := Aside0.mk hB.drew
      have hIC := Aside0.mk hIC
      have hOC := Aside0.mk hOC
      clear hA hX hB
      apply reg_cut (R := fun W_ => Sx w0 W_ w.heap.size b nx I d0 d1 asc 4 (ind2) (out2 ++ ind2))
      case h =>
        refine start_ (n := 16) (S := fun w' => w'.cell? ⟨w.heap.size, 0, none⟩ = some (.pointer (some ⟨b, 0, none⟩)) ∧ w'.cell? ⟨b, 2, none⟩ = some (.slice AO out2.length cO) ∧ w'.cell? ⟨b, 1, none⟩ = some (.slice AI ind2.length cI)) (ds := [15]) #[false, false, false, false, false, false, false, false, false, false, false, false, false, false, false, false] (by kernel_rfl) rfl rfl ⟨hXd.out.cp, hAd.out.c2, hAd.out.c1⟩ (fun hHeld => ?_)
        refine take_ (i := 0) (N := some 87) (v := ?_) (a' := ?_) #[true, false, false, false, false, false, false, false, false, false, false, false, false, false, false, false] rfl rfl (by kernel_rfl) (fun _ _ _ h => h) (Or.inl ⟨by rfl, ?_⟩) hHeld ?_ ?_
        rotate_left
        · rintro w' ⟨s0, s1, s2⟩
          go_simp
          with_reducible rfl
        rotate_left
        · simp only [Act.put, List.setIfInBounds_toArray, List.set_cons_zero, List.set_cons_succ, i64_w, i32_w]
          rfl
        refine take_ (i := 1) (N := some 88) (v := ?_) (a' := ?_) #[true, true, false, false, false, false, false, false, false, false, false, false, false, false, false, false] rfl rfl (by kernel_rfl) (fun _ _ _ h => h) (Or.inl ⟨by rfl, ?_⟩) hHeld ?_ ?_
        rotate_left
        · rintro w' ⟨s0, s1, s2⟩
          go_simp
          with_reducible rfl
        rotate_left
        · simp only [Act.put, List.setIfInBounds_toArray, List.set_cons_zero, List.set_cons_succ, i64_w, i32_w]
          rfl
        refine pure_ (i := 2) (N := some 89) (v := ?_) (a' := ?_) #[true, true, true, false, false, false, false, false, false, false, false, false, false, false, false, false] rfl rfl (by kernel_rfl) (fun _ _ _ h => h) (Or.inl ⟨by rfl, ?_⟩) ?_ ?_
        rotate_left
        · intro w'
          go_simp
          with_reducible rfl
        rotate_left
        · simp only [Act.put, List.setIfInBounds_toArray, List.set_cons_zero, List.set_cons_succ, i64_w, i32_w]
          rfl
        refine pure_ (i := 3) (N := some 90) (v := ?_) (a' := ?_) #[true, true, true, true, false, false, false, false, false, false, false, false, false, false, false, false] rfl rfl (by kernel_rfl) (fun _ _ _ h => h) (Or.inl ⟨by rfl, ?_⟩) ?_ ?_
        rotate_left
        · intro w'
          go_simp
          with_reducible rfl
        rotate_left
        · simp only [Act.put, List.setIfInBounds_toArray, List.set_cons_zero, List.set_cons_succ, i64_w, i32_w]
          rfl
        refine pure_ (i := 4) (N := some 91) (v := ?_) (a' := ?_) #[true, true, true, true, true, false, false, false, false, false, false, false, false, false, false, false] rfl rfl (by kernel_rfl) (fun _ _ _ h => h) (Or.inl ⟨by rfl, ?_⟩) ?_ ?_
        rotate_left
        · intro w'
          go_simp
          with_reducible rfl
        rotate_left
        · simp only [Act.put, List.setIfInBounds_toArray, List.set_cons_zero, List.set_cons_succ, i64_w, i32_w]
          rfl
        refine take_ (i := 5) (N := some 92) (v := ?_) (a' := ?_) #[true, true, true, true, true, true, false, false, false, false, false, false, false, false, false, false] rfl rfl (by kernel_rfl) (fun _ _ _ h => h) (Or.inl ⟨by rfl, ?_⟩) hHeld ?_ ?_
        rotate_left
        · rintro w' ⟨s0, s1, s2⟩
          go_simp
          with_reducible rfl
        rotate_left
        · simp only [Act.put, List.setIfInBounds_toArray, List.set_cons_zero, List.set_cons_succ, i64_w, i32_w]
          rfl
        refine take_ (i := 6) (N := some 93) (v := ?_) (a' := ?_) #[true, true, true, true, true, true, true, false, false, false, false, false, false, false, false, false] rfl rfl (by kernel_rfl) (fun _ _ _ h => h) (Or.inl ⟨by rfl, ?_⟩) hHeld ?_ ?_
        rotate_left
        · rintro w' ⟨s0, s1, s2⟩
          go_simp
          with_reducible rfl
        rotate_left
        · simp only [Act.put, List.setIfInBounds_toArray, List.set_cons_zero, List.set_cons_succ, i64_w, i32_w]
          rfl
        refine pure_ (i := 7) (N := some 94) (v := ?_) (a' := ?_) #[true, true, true, true, true, true, true, true, false, false, false, false, false, false, false, false] rfl rfl (by kernel_rfl) (fun _ _ _ h => h) (Or.inl ⟨by rfl, ?_⟩) ?_ ?_
        rotate_left
        · intro w'
          go_simp
          with_reducible rfl
        rotate_left
        · simp only [Act.put, List.setIfInBounds_toArray, List.set_cons_zero, List.set_cons_succ, i64_w, i32_w]
          rfl
        refine pure_ (i := 8) (N := some 95) (v := ?_) (a' := ?_) #[true, true, true, true, true, true, true, true, true, false, false, false, false, false, false, false] rfl rfl (by kernel_rfl) (fun _ _ _ h => h) (Or.inl ⟨by rfl, ?_⟩) ?_ ?_
        rotate_left
        · intro w'
          go_simp
          with_reducible rfl
        rotate_left
        · simp only [Act.put, List.setIfInBounds_toArray, List.set_cons_zero, List.set_cons_succ, i64_w, i32_w]
          rfl
        refine pure_ (i := 9) (N := some 96) (v := ?_) (a' := ?_) #[true, true, true, true, true, true, true, true, true, true, false, false, false, false, false, false] rfl rfl (by kernel_rfl) (fun _ _ _ h => h) (Or.inl ⟨by rfl, ?_⟩) ?_ ?_
        rotate_left
        · intro w'
          go_simp
          with_reducible rfl
        rotate_left
        · simp only [Act.put, List.setIfInBounds_toArray, List.set_cons_zero, List.set_cons_succ, i64_w, i32_w]
          rfl
        refine take_ (i := 10) (N := some 97) (v := ?_) (a' := ?_) #[true, true, true, true, true, true, true, true, true, true, true, false, false, false, false, false] rfl rfl (by kernel_rfl) (fun _ _ _ h => h) (Or.inl ⟨by rfl, ?_⟩) hHeld ?_ ?_
        rotate_left
        · rintro w' ⟨s0, s1, s2⟩
          go_simp
          with_reducible rfl
        rotate_left
        · simp only [Act.put, List.setIfInBounds_toArray, List.set_cons_zero, List.set_cons_succ, i64_w, i32_w]
          rfl
        refine one_ (i := 11) (N := some 98) #[true, true, true, true, true, true, true, true, true, true, true, true, false, false, false, false] rfl rfl (by kernel_rfl) (by decide) (fun K hK => ?_)
        refine Kd.R_append_rows_step (Kd.int .u8) (Rr := (Kd.int .u8).K Wn.drew) (w0 := w0) w0.heap.size (by rfl) (.tmp 92) (.tmp 97) 29 5 (.int .u8 0) 1 (by rfl) Tryd.underlying29 info5 rfl (by decide) (by omega) (.slice AO out2.length cO) out2 ind2 AI ind2.length cI (fun k => k ≠ b ∧ some k ≠ (Value.slice AI ind2.length cI).ownBlock) (fun _ => False) (by rfl) (by rfl) hAd.out.hO (Kd.C_below hIC.out (below_drew (Below.refl _ _))) (fun _ _ h => h) (fun _ hk => hk.elim) (fun k hk => freshO hAd.out k hk) hBd.out hBd.out.size (by rw [Nat.mul_one]; have := HL.out; have := HE1.out; have := HE2.out; omega) ?_
        intro v1 w3 hR hB3 hG hat; have hK3 := Aside0.mk (grown_kept hAd.out.hO hG); have hg2 := hXd.out.grown hAd.out.hO hG; clear hat hG
        obtain ⟨A3, m3, hv⟩ := Kd.R_slice hR; rw [List.length_append] at hv; subst hv; have HO := Aside0.mk (hAd.out.toOut hR hK3.out); have HX3 := Aside0.mk hg2; have HB3 := Aside0.mk hB3; clear hR hB3 hK3 hg2; have d2 := HO.out.c2; have dz2 := HO.out.fz 2
        refine hK.out _ _ ⟨HX3.out.cp, HO.out.c2, HO.out.c1⟩ (fun hHeld => ?_)
        clear hK K
        refine norm_ (a' := ?_) ?_ ?_
        rotate_left
        · show Act.put _ (some 98) _ = _
          simp only [Act.put, List.setIfInBounds_toArray, List.set_cons_zero, List.set_cons_succ, i64_w, i32_w]
          rfl
        refine pure_ (i := 12) (N := some 99) (v := ?_) (a' := ?_) #[true, true, true, true, true, true, true, true, true, true, true, true, true, false, false, false] rfl rfl (by kernel_rfl) (fun _ _ _ h => h) (Or.inl ⟨by rfl, ?_⟩) ?_ ?_
        rotate_left
        · intro w'
          go_simp
          with_reducible rfl
        rotate_left
        · simp only [Act.put, List.setIfInBounds_toArray, List.set_cons_zero, List.set_cons_succ, i64_w, i32_w]
          rfl
        refine pure_ (i := 13) (N := some 100) (v := ?_) (a' := ?_) #[true, true, true, true, true, true, true, true, true, true, true, true, true, true, false, false] rfl rfl (by kernel_rfl) (fun _ _ _ h => h) (Or.inl ⟨by rfl, ?_⟩) ?_ ?_
        rotate_left
        · intro w'
          go_simp
          with_reducible rfl
        rotate_left
        · simp only [Act.put, List.setIfInBounds_toArray, List.set_cons_zero, List.set_cons_succ, i64_w, i32_w]
          rfl
        refine pure_ (i := 14) (N := some 101) (v := ?_) (a' := ?_) #[true, true, true, true, true, true, true, true, true, true, true, true, true, true, true, false] rfl rfl (by kernel_rfl) (fun _ _ _ h => h) (Or.inl ⟨by rfl, ?_⟩) ?_ ?_
        rotate_left
        · intro w'
          go_simp
          with_reducible rfl
        rotate_left
        · simp only [Act.put, List.setIfInBounds_toArray, List.set_cons_zero, List.set_cons_succ, i64_w, i32_w]
          rfl
        refine last_ (i := 15) (N := none) #[true, true, true, true, true, true, true, true, true, true, true, true, true, true, true, true] rfl rfl (by kernel_rfl) (by decide) (fun K hK => ?_)
        refine skip_ (w1 := ?_) (by rfl) rfl ?_ ?_
        rotate_left
        · go_simp
          rfl
        refine hK.out _ _ ?_
        clear hK K
        refine done_ (by kernel_rfl) ?_
        refine ⟨A3, m3, rfl, Aside0.mk ⟨⟨_, _, HO.out.set⟩, HX3.out.set hL 2 _, hL, HB3.out.setCell HA.out.le _⟩⟩
      case k =>
        clear HS2 hL hAd hXd hBd hIC hOC hIle hOle
        clear c0 c1 c2 c3 cp cn
        intro A4 m4 Wm HS3
        obtain ⟨ind3, hind3⟩ : ∃ x, x = ind2 := ⟨_, rfl⟩
        obtain ⟨out3, hout3⟩ : ∃ x, x = out2 ++ ind2 := ⟨_, rfl⟩
        rw [← hout3, ← hind3] at HS3
        have HE3 := Aside0.mk (show out3.length = out2.length + ind2.length ∧ ind3.length = ind2.length from ⟨by simp [hout3], by simp [hind3]⟩)
        have HI3 := Aside0.mk hind3; have HO3 := Aside0.mk hout3; clear hind3 hout3
        have hx := HS3.out
        obtain ⟨⟨vI, vO, hA⟩, hX, hL, hB⟩ := hx
        have c0 := hA.c0; have c1 := hA.c1; have c2 := hA.c2; have c3 := hA.c3; have cp := hX.cp; have cn := hX.cn
        clear hA hX hL hB
        go_wp2_with fail
        obtain ⟨⟨vI, vO, hA⟩, hX, hL, hB⟩ := HS3.out
        refine door _ _ b nx _ _ hX.cn hX.cp hA.c0 (hA.fz 0) ⟨rfl, ⟨vI, vO, ?_⟩, hB.setCell HA.out.le _⟩
        have hind3 := HI3.out; have hout3 := HO3.out; subst hind3 hout3
        have hind2 := HI2.out; have hout2 := HO2.out; subst hind2 hout2
        have hind1 := HI1.out; have hout1 := HO1.out; subst hind1 hout1
        exact hA.set_last nx

set_option maxHeartbeats 4000000 in
set_option maxRecDepth 100000 in
theorem pn_line (b : Nat) (last : Int) (nx : Int) (vI0 vO0 : Value) (I : ByteArray) (d0 d1 : Int) (asc : Bool) (ind0 out0 : List Int) (w0 w : World) (hI : ¬ I.size = 0) (f0 : (last == 1) = false) (f4 : (last == 4) = false) (f1 : (Go.bits .and .u8 last 10 != 0) = true) (hn : (nx == 8) = false)
    (hB0 : Below w0.heap.size w0 w) (h : At w w0.heap.size b I d0 d1 asc last vI0 vO0 ind0 out0) (hl : out0.length + 4 * ind0.length + 4 * I.size + 10 ≤ 140737488355328) :
    Calls Tryd.prog 77 #[.pointer (some ⟨b, 0, none⟩), .int .u8 nx] w fun e w' => e = .returned (.tuple #[]) ∧ (∃ vI vO, At w' w0.heap.size b I d0 d1 asc nx vI vO ((ind0)) ((out0 ++ [10]) ++ (ind0))) ∧ Below w0.heap.size w0 w' := by
  have hmf := mf
  have c0 := h.c0
  have c3 := h.c3
  have hlt := h.lt
  have HA := Aside0.mk h
  have HB0 := Aside0.mk hB0
  have HL := Aside0.mk hl
  clear h hB0 hl
  go_enter_defers Tryd.func77, Tryd.ntmps77
  go_wp2_with fail
  have HS0 := Aside0.mk (Sx.start nx HA.out HB0.out)
  generalize ((w.alloc (Obj.cells #[Value.pointer (some ⟨b, 0, none⟩)] 67)).alloc (Obj.cells #[Value.int .u8 nx] 80)) = Wn at HS0 ⊢
  obtain ⟨⟨vI, vO, hA⟩, hX, hL, hB⟩ := HS0.out
  obtain ⟨AI, cI, rfl, hIle, hIC⟩ := Kd.R_reads hA.hI
  obtain ⟨AO, cO, rfl, hOle, hOC⟩ := Kd.R_reads hA.hO
  have hAd := Aside0.mk (hA.below (below_drew (Below.refl _ _)))
  have hXd := Aside0.mk (hX.below (below_drew (Below.refl _ _)))
  have hBd := Aside0.mk hB.drew
  have hIC := Aside0.mk hIC
  have hOC := Aside0.mk hOC
  clear hA hX hB
  apply reg_cut (R := fun W_ => Sx w0 W_ w.heap.size b nx I d0 d1 asc last (ind0) (out0 ++ [10]))
  case h =>
    refine start_ (n := 12) (S := fun w' => w'.cell? ⟨w.heap.size, 0, none⟩ = some (.pointer (some ⟨b, 0, none⟩)) ∧ w'.cell? ⟨b, 2, none⟩ = some (.slice AO out0.length cO)) (ds := [11]) #[false, false, false, false, false, false, false, false, false, false, false, false] (by kernel_rfl) rfl rfl ⟨hXd.out.cp, hAd.out.c2⟩ (fun hHeld => ?_)
    refine take_ (i := 0) (N := some 134) (v := ?_) (a' := ?_) #[true, false, false, false, false, false, false, false, false, false, false, false] rfl rfl (by kernel_rfl) (fun _ _ _ h => h) (Or.inl ⟨by rfl, ?_⟩) hHeld ?_ ?_
    rotate_left
    · rintro w' ⟨s0, s1⟩
      go_simp
      with_reducible rfl
    rotate_left
    · simp only [Act.put, List.setIfInBounds_toArray, List.set_cons_zero, List.set_cons_succ, i64_w, i32_w]
      rfl
    refine take_ (i := 1) (N := some 135) (v := ?_) (a' := ?_) #[true, true, false, false, false, false, false, false, false, false, false, false] rfl rfl (by kernel_rfl) (fun _ _ _ h => h) (Or.inl ⟨by rfl, ?_⟩) hHeld ?_ ?_
    rotate_left
    · rintro w' ⟨s0, s1⟩
      go_simp
      with_reducible rfl
    rotate_left
    · simp only [Act.put, List.setIfInBounds_toArray, List.set_cons_zero, List.set_cons_succ, i64_w, i32_w]
      rfl
    refine pure_ (i := 2) (N := some 136) (v := ?_) (a' := ?_) #[true, true, true, false, false, false, false, false, false, false, false, false] rfl rfl (by kernel_rfl) (fun _ _ _ h => h) (Or.inl ⟨by rfl, ?_⟩) ?_ ?_
    rotate_left
    · intro w'
      go_simp
      with_reducible rfl
    rotate_left
    · simp only [Act.put, List.setIfInBounds_toArray, List.set_cons_zero, List.set_cons_succ, i64_w, i32_w]
      rfl
    refine pure_ (i := 3) (N := some 137) (v := ?_) (a' := ?_) #[true, true, true, true, false, false, false, false, false, false, false, false] rfl rfl (by kernel_rfl) (fun _ _ _ h => h) (Or.inl ⟨by rfl, ?_⟩) ?_ ?_
    rotate_left
    · intro w'
      go_simp
      with_reducible rfl
    rotate_left
    · simp only [Act.put, List.setIfInBounds_toArray, List.set_cons_zero, List.set_cons_succ, i64_w, i32_w]
      rfl
    refine pure_ (i := 4) (N := some 138) (v := ?_) (a' := ?_) #[true, true, true, true, true, false, false, false, false, false, false, false] rfl rfl (by kernel_rfl) (fun _ _ _ h => h) (Or.inl ⟨by rfl, ?_⟩) ?_ ?_
    rotate_left
    · intro w'
      go_simp
      with_reducible rfl
    rotate_left
    · simp only [Act.put, List.setIfInBounds_toArray, List.set_cons_zero, List.set_cons_succ, i64_w, i32_w]
      rfl
    refine take_ (i := 5) (N := some 139) (v := ?_) (a' := ?_) #[true, true, true, true, true, true, false, false, false, false, false, false] rfl rfl (by kernel_rfl) (fun _ _ _ h => h) (Or.inl ⟨by rfl, ?_⟩) hHeld ?_ ?_
    rotate_left
    · rintro w' ⟨s0, s1⟩
      go_simp
      with_reducible rfl
    rotate_left
    · simp only [Act.put, List.setIfInBounds_toArray, List.set_cons_zero, List.set_cons_succ, i64_w, i32_w]
      rfl
    refine one_ (i := 6) (N := some 140) #[true, true, true, true, true, true, true, false, false, false, false, false] rfl rfl (by kernel_rfl) (by decide) (fun K hK => ?_)
    refine value_ (w1 := ?_) (v := ?_) (by rfl) rfl ?_ ?_
    rotate_left 2
    · go_simp
      constructor
      · rfl
      · rfl
    refine hK.out _ _ ⟨(hXd.out.below (below_alloc (Below.refl _ _) _)).cp, (hAd.out.below (below_alloc (Below.refl _ _) _)).c2⟩ (fun hHeld => ?_)
    clear hK K
    refine norm_ (a' := ?_) ?_ ?_
    rotate_left
    · show Act.put _ (some 140) _ = _
      simp only [Act.put, List.setIfInBounds_toArray, List.set_cons_zero, List.set_cons_succ, i64_w, i32_w]
      rfl
    refine one_ (i := 7) (N := some 141) #[true, true, true, true, true, true, true, true, false, false, false, false] rfl rfl (by kernel_rfl) (by decide) (fun K hK => ?_)
    refine Kd.R_append_step (Kd.int .u8) (w0 := w0) w0.heap.size (by rfl) (.tmp 139) (.tmp 140) 29 5 (.int .u8 0) 1 (by rfl) Tryd.underlying29 info5 rfl (by decide) (by omega) (.slice AO out0.length cO) out0 10 [.int .u8 10] (fun k => k ≠ b ∧ some k ≠ (Value.slice AI ind0.length cI).ownBlock) (fun _ => False) (by rfl) (by rfl) (by rfl) (fun _ hk => hk.elim) (fun k hk => freshO hAd.out k hk) hAd.out.hO hBd.out hBd.out.size (by rw [Nat.mul_one]; have := HL.out; omega) ?_
    intro v1 w3 hR hB3 hG hat; have hK3 := Aside0.mk (grown_kept hAd.out.hO hG); have hg2 := hXd.out.grown hAd.out.hO hG; clear hat hG
    obtain ⟨A3, m3, hv⟩ := Kd.R_slice hR; rw [List.length_append, show ([10] : List Int).length = 1 from rfl] at hv; subst hv; have HO := Aside0.mk (hAd.out.toOut hR hK3.out); have HX3 := Aside0.mk hg2; have HB3 := Aside0.mk hB3; clear hR hB3 hK3 hg2; have d2 := HO.out.c2; have dz2 := HO.out.fz 2
    refine hK.out _ _ ⟨HX3.out.cp, HO.out.c2⟩ (fun hHeld => ?_)
    clear hK K
    refine norm_ (a' := ?_) ?_ ?_
    rotate_left
    · show Act.put _ (some 141) _ = _
      simp only [Act.put, List.setIfInBounds_toArray, List.set_cons_zero, List.set_cons_succ, i64_w, i32_w]
      rfl
    refine pure_ (i := 8) (N := some 142) (v := ?_) (a' := ?_) #[true, true, true, true, true, true, true, true, true, false, false, false] rfl rfl (by kernel_rfl) (fun _ _ _ h => h) (Or.inl ⟨by rfl, ?_⟩) ?_ ?_
    rotate_left
    · intro w'
      go_simp
      with_reducible rfl
    rotate_left
    · simp only [Act.put, List.setIfInBounds_toArray, List.set_cons_zero, List.set_cons_succ, i64_w, i32_w]
      rfl
    refine pure_ (i := 9) (N := some 143) (v := ?_) (a' := ?_) #[true, true, true, true, true, true, true, true, true, true, false, false] rfl rfl (by kernel_rfl) (fun _ _ _ h => h) (Or.inl ⟨by rfl, ?_⟩) ?_ ?_
    rotate_left
    · intro w'
      go_simp
      with_reducible rfl
    rotate_left
    · simp only [Act.put, List.setIfInBounds_toArray, List.set_cons_zero, List.set_cons_succ, i64_w, i32_w]
      rfl
    refine pure_ (i := 10) (N := some 144) (v := ?_) (a' := ?_) #[true, true, true, true, true, true, true, true, true, true, true, false] rfl rfl (by kernel_rfl) (fun _ _ _ h => h) (Or.inl ⟨by rfl, ?_⟩) ?_ ?_
    rotate_left
    · intro w'
      go_simp
      with_reducible rfl
    rotate_left
    · simp only [Act.put, List.setIfInBounds_toArray, List.set_cons_zero, List.set_cons_succ, i64_w, i32_w]
      rfl
    refine last_ (i := 11) (N := none) #[true, true, true, true, true, true, true, true, true, true, true, true] rfl rfl (by kernel_rfl) (by decide) (fun K hK => ?_)
    refine skip_ (w1 := ?_) (by rfl) rfl ?_ ?_
    rotate_left
    · go_simp
      rfl
    refine hK.out _ _ ?_
    clear hK K
    refine done_ (by kernel_rfl) ?_
    refine ⟨A3, m3, rfl, Aside0.mk ⟨⟨_, _, HO.out.set⟩, HX3.out.set hL 2 _, hL, HB3.out.setCell HA.out.le _⟩⟩
  case k =>
    clear HS0 hL hAd hXd hBd hIC hOC hIle hOle
    clear c0 c3
    intro A4 m4 Wm HS1
    obtain ⟨ind1, hind1⟩ : ∃ x, x = ind0 := ⟨_, rfl⟩
    obtain ⟨out1, hout1⟩ : ∃ x, x = out0 ++ [10] := ⟨_, rfl⟩
    rw [← hout1, ← hind1] at HS1
    have HE1 := Aside0.mk (show out1.length = out0.length + 1 ∧ ind1.length = ind0.length from ⟨by simp [hout1], by simp [hind1]⟩)
    have HI1 := Aside0.mk hind1; have HO1 := Aside0.mk hout1; clear hind1 hout1
    have hx := HS1.out
    obtain ⟨⟨vI, vO, hA⟩, hX, hL, hB⟩ := hx
    have c0 := hA.c0; have c1 := hA.c1; have c2 := hA.c2; have c3 := hA.c3; have cp := hX.cp; have cn := hX.cn
    clear hA hX hL hB
    go_wp2_with fail
    obtain ⟨⟨vI, vO, hA⟩, hX, hL, hB⟩ := HS1.out
    obtain ⟨AI, cI, rfl, hIle, hIC⟩ := Kd.R_reads hA.hI
    obtain ⟨AO, cO, rfl, hOle, hOC⟩ := Kd.R_reads hA.hO
    have hAd := Aside0.mk (hA.below (below_drew (Below.refl _ _)))
    have hXd := Aside0.mk (hX.below (below_drew (Below.refl _ _)))
    have hBd := Aside0.mk hB.drew
    have hIC := Aside0.mk hIC
    have hOC := Aside0.mk hOC
    clear hA hX hB
    apply reg_cut (R := fun W_ => Sx w0 W_ w.heap.size b nx I d0 d1 asc last (ind1) (out1 ++ ind1))
    case h =>
      refine start_ (n := 16) (S := fun w' => w'.cell? ⟨w.heap.size, 0, none⟩ = some (.pointer (some ⟨b, 0, none⟩)) ∧ w'.cell? ⟨b, 2, none⟩ = some (.slice AO out1.length cO) ∧ w'.cell? ⟨b, 1, none⟩ = some (.slice AI ind1.length cI)) (ds := [15]) #[false, false, false, false, false, false, false, false, false, false, false, false, false, false, false, false] (by kernel_rfl) rfl rfl ⟨hXd.out.cp, hAd.out.c2, hAd.out.c1⟩ (fun hHeld => ?_)
      refine take_ (i := 0) (N := some 145) (v := ?_) (a' := ?_) #[true, false, false, false, false, false, false, false, false, false, false, false, false, false, false, false] rfl rfl (by kernel_rfl) (fun _ _ _ h => h) (Or.inl ⟨by rfl, ?_⟩) hHeld ?_ ?_
      rotate_left
      · rintro w' ⟨s0, s1, s2⟩
        go_simp
        with_reducible rfl
      rotate_left
      · simp only [Act.put, List.setIfInBounds_toArray, List.set_cons_zero, List.set_cons_succ, i64_w, i32_w]
        rfl
      refine take_ (i := 1) (N := some 146) (v := ?_) (a' := ?_) #[true, true, false, false, false, false, false, false, false, false, false, false, false, false, false, false] rfl rfl (by kernel_rfl) (fun _ _ _ h => h) (Or.inl ⟨by rfl, ?_⟩) hHeld ?_ ?_
      rotate_left
      · rintro w' ⟨s0, s1, s2⟩
        go_simp
        with_reducible rfl
      rotate_left
      · simp only [Act.put, List.setIfInBounds_toArray, List.set_cons_zero, List.set_cons_succ, i64_w, i32_w]
        rfl
      refine pure_ (i := 2) (N := some 147) (v := ?_) (a' := ?_) #[true, true, true, false, false, false, false, false, false, false, false, false, false, false, false, false] rfl rfl (by kernel_rfl) (fun _ _ _ h => h) (Or.inl ⟨by rfl, ?_⟩) ?_ ?_
      rotate_left
      · intro w'
        go_simp
        with_reducible rfl
      rotate_left
      · simp only [Act.put, List.setIfInBounds_toArray, List.set_cons_zero, List.set_cons_succ, i64_w, i32_w]
        rfl
      refine pure_ (i := 3) (N := some 148) (v := ?_) (a' := ?_) #[true, true, true, true, false, false, false, false, false, false, false, false, false, false, false, false] rfl rfl (by kernel_rfl) (fun _ _ _ h => h) (Or.inl ⟨by rfl, ?_⟩) ?_ ?_
      rotate_left
      · intro w'
        go_simp
        with_reducible rfl
      rotate_left
      · simp only [Act.put, List.setIfInBounds_toArray, List.set_cons_zero, List.set_cons_succ, i64_w, i32_w]
        rfl
      refine pure_ (i := 4) (N := some 149) (v := ?_) (a' := ?_) #[true, true, true, true, true, false, false, false, false, false, false, false, false, false, false, false] rfl rfl (by kernel_rfl) (fun _ _ _ h => h) (Or.inl ⟨by rfl, ?_⟩) ?_ ?_
      rotate_left
      · intro w'
        go_simp
        with_reducible rfl
      rotate_left
      · simp only [Act.put, List.setIfInBounds_toArray, List.set_cons_zero, List.set_cons_succ, i64_w, i32_w]
        rfl
      refine take_ (i := 5) (N := some 150) (v := ?_) (a' := ?_) #[true, true, true, true, true, true, false, false, false, false, false, false, false, false, false, false] rfl rfl (by kernel_rfl) (fun _ _ _ h => h) (Or.inl ⟨by rfl, ?_⟩) hHeld ?_ ?_
      rotate_left
      · rintro w' ⟨s0, s1, s2⟩
        go_simp
        with_reducible rfl
      rotate_left
      · simp only [Act.put, List.setIfInBounds_toArray, List.set_cons_zero, List.set_cons_succ, i64_w, i32_w]
        rfl
      refine take_ (i := 6) (N := some 151) (v := ?_) (a' := ?_) #[true, true, true, true, true, true, true, false, false, false, false, false, false, false, false, false] rfl rfl (by kernel_rfl) (fun _ _ _ h => h) (Or.inl ⟨by rfl, ?_⟩) hHeld ?_ ?_
      rotate_left
      · rintro w' ⟨s0, s1, s2⟩
        go_simp
        with_reducible rfl
      rotate_left
      · simp only [Act.put, List.setIfInBounds_toArray, List.set_cons_zero, List.set_cons_succ, i64_w, i32_w]
        rfl
      refine pure_ (i := 7) (N := some 152) (v := ?_) (a' := ?_) #[true, true, true, true, true, true, true, true, false, false, false, false, false, false, false, false] rfl rfl (by kernel_rfl) (fun _ _ _ h => h) (Or.inl ⟨by rfl, ?_⟩) ?_ ?_
      rotate_left
      · intro w'
        go_simp
        with_reducible rfl
      rotate_left
      · simp only [Act.put, List.setIfInBounds_toArray, List.set_cons_zero, List.set_cons_succ, i64_w, i32_w]
        rfl
      refine pure_ (i := 8) (N := some 153) (v := ?_) (a' := ?_) #[true, true, true, true, true, true, true, true, true, false, false, false, false, false, false, false] rfl rfl (by kernel_rfl) (fun _ _ _ h => h) (Or.inl ⟨by rfl, ?_⟩) ?_ ?_
      rotate_left
      · intro w'
        go_simp
        with_reducible rfl
      rotate_left
      · simp only [Act.put, List.setIfInBounds_toArray, List.set_cons_zero, List.set_cons_succ, i64_w, i32_w]
        rfl
      refine pure_ (i := 9) (N := some 154) (v := ?_) (a' := ?_) #[true, true, true, true, true, true, true, true, true, true, false, false, false, false, false, false] rfl rfl (by kernel_rfl) (fun _ _ _ h => h) (Or.inl ⟨by rfl, ?_⟩) ?_ ?_
      rotate_left
      · intro w'
        go_simp
        with_reducible rfl
      rotate_left
      · simp only [Act.put, List.setIfInBounds_toArray, List.set_cons_zero, List.set_cons_succ, i64_w, i32_w]
        rfl
      refine take_ (i := 10) (N := some 155) (v := ?_) (a' := ?_) #[true, true, true, true, true, true, true, true, true, true, true, false, false, false, false, false] rfl rfl (by kernel_rfl) (fun _ _ _ h => h) (Or.inl ⟨by rfl, ?_⟩) hHeld ?_ ?_
      rotate_left
      · rintro w' ⟨s0, s1, s2⟩
        go_simp
        with_reducible rfl
      rotate_left
      · simp only [Act.put, List.setIfInBounds_toArray, List.set_cons_zero, List.set_cons_succ, i64_w, i32_w]
        rfl
      refine one_ (i := 11) (N := some 156) #[true, true, true, true, true, true, true, true, true, true, true, true, false, false, false, false] rfl rfl (by kernel_rfl) (by decide) (fun K hK => ?_)
      refine Kd.R_append_rows_step (Kd.int .u8) (Rr := (Kd.int .u8).K Wn.drew) (w0 := w0) w0.heap.size (by rfl) (.tmp 150) (.tmp 155) 29 5 (.int .u8 0) 1 (by rfl) Tryd.underlying29 info5 rfl (by decide) (by omega) (.slice AO out1.length cO) out1 ind1 AI ind1.length cI (fun k => k ≠ b ∧ some k ≠ (Value.slice AI ind1.length cI).ownBlock) (fun _ => False) (by rfl) (by rfl) hAd.out.hO (Kd.C_below hIC.out (below_drew (Below.refl _ _))) (fun _ _ h => h) (fun _ hk => hk.elim) (fun k hk => freshO hAd.out k hk) hBd.out hBd.out.size (by rw [Nat.mul_one]; have := HL.out; have := HE1.out; omega) ?_
      intro v1 w3 hR hB3 hG hat; have hK3 := Aside0.mk (grown_kept hAd.out.hO hG); have hg2 := hXd.out.grown hAd.out.hO hG; clear hat hG
      obtain ⟨A3, m3, hv⟩ := Kd.R_slice hR; rw [List.length_append] at hv; subst hv; have HO := Aside0.mk (hAd.out.toOut hR hK3.out); have HX3 := Aside0.mk hg2; have HB3 := Aside0.mk hB3; clear hR hB3 hK3 hg2; have d2 := HO.out.c2; have dz2 := HO.out.fz 2
      refine hK.out _ _ ⟨HX3.out.cp, HO.out.c2, HO.out.c1⟩ (fun hHeld => ?_)
      clear hK K
      refine norm_ (a' := ?_) ?_ ?_
      rotate_left
      · show Act.put _ (some 156) _ = _
        simp only [Act.put, List.setIfInBounds_toArray, List.set_cons_zero, List.set_cons_succ, i64_w, i32_w]
        rfl
      refine pure_ (i := 12) (N := some 157) (v := ?_) (a' := ?_) #[true, true, true, true, true, true, true, true, true, true, true, true, true, false, false, false] rfl rfl (by kernel_rfl) (fun _ _ _ h => h) (Or.inl ⟨by rfl, ?_⟩) ?_ ?_
      rotate_left
      · intro w'
        go_simp
        with_reducible rfl
      rotate_left
      · simp only [Act.put, List.setIfInBounds_toArray, List.set_cons_zero, List.set_cons_succ, i64_w, i32_w]
        rfl
      refine pure_ (i := 13) (N := some 158) (v := ?_) (a' := ?_) #[true, true, true, true, true, true, true, true, true, true, true, true, true, true, false, false] rfl rfl (by kernel_rfl) (fun _ _ _ h => h) (Or.inl ⟨by rfl, ?_⟩) ?_ ?_
      rotate_left
      · intro w'
        go_simp
        with_reducible rfl
      rotate_left
      · simp only [Act.put, List.setIfInBounds_toArray, List.set_cons_zero, List.set_cons_succ, i64_w, i32_w]
        rfl
      refine pure_ (i := 14) (N := some 159) (v := ?_) (a' := ?_) #[true, true, true, true, true, true, true, true, true, true, true, true, true, true, true, false] rfl rfl (by kernel_rfl) (fun _ _ _ h => h) (Or.inl ⟨by rfl, ?_⟩) ?_ ?_
      rotate_left
      · intro w'
        go_simp
        with_reducible rfl
      rotate_left
      · simp only [Act.put, List.setIfInBounds_toArray, List.set_cons_zero, List.set_cons_succ, i64_w, i32_w]
        rfl
      refine last_ (i := 15) (N := none) #[true, true, true, true, true, true, true, true, true, true, true, true, true, true, true, true] rfl rfl (by kernel_rfl) (by decide) (fun K hK => ?_)
      refine skip_ (w1 := ?_) (by rfl) rfl ?_ ?_
      rotate_left
      · go_simp
        rfl
      refine hK.out _ _ ?_
      clear hK K
      refine done_ (by kernel_rfl) ?_
      refine ⟨A3, m3, rfl, Aside0.mk ⟨⟨_, _, HO.out.set⟩, HX3.out.set hL 2 _, hL, HB3.out.setCell HA.out.le _⟩⟩
    case k =>
      clear HS1 hL hAd hXd hBd hIC hOC hIle hOle
      clear c0 c1 c2 c3 cp cn
      intro A4 m4 Wm HS2
      obtain ⟨ind2, hind2⟩ : ∃ x, x = ind1 := ⟨_, rfl⟩
      obtain ⟨out2, hout2⟩ : ∃ x, x = out1 ++ ind1 := ⟨_, rfl⟩
      rw [← hout2, ← hind2] at HS2
      have HE2 := Aside0.mk (show out2.length = out1.length + ind1.length ∧ ind2.length = ind1.length from ⟨by simp [hout2], by simp [hind2]⟩)
      have HI2 := Aside0.mk hind2; have HO2 := Aside0.mk hout2; clear hind2 hout2
      have hx := HS2.out
      obtain ⟨⟨vI, vO, hA⟩, hX, hL, hB⟩ := hx
      have c0 := hA.c0; have c1 := hA.c1; have c2 := hA.c2; have c3 := hA.c3; have cp := hX.cp; have cn := hX.cn
      clear hA hX hL hB
      go_wp2_with fail
      obtain ⟨⟨vI, vO, hA⟩, hX, hL, hB⟩ := HS2.out
      refine door _ _ b nx _ _ hX.cn hX.cp hA.c0 (hA.fz 0) ⟨rfl, ⟨vI, vO, ?_⟩, hB.setCell HA.out.le _⟩
      have hind2 := HI2.out; have hout2 := HO2.out; subst hind2 hout2
      have hind1 := HI1.out; have hout1 := HO1.out; subst hind1 hout1
      exact hA.set_last nx

set_option maxHeartbeats 4000000 in
set_option maxRecDepth 100000 in
theorem pn_cut (b : Nat) (last : Int) (vI0 vO0 : Value) (I : ByteArray) (d0 d1 : Int) (asc : Bool) (ind0 out0 : List Int) (w0 w : World) (hI : ¬ I.size = 0) (f0 : (last == 1) = false) (f4 : (last == 4) = false) (f1 : (Go.bits .and .u8 last 10 != 0) = true)
    (hB0 : Below w0.heap.size w0 w) (h : At w w0.heap.size b I d0 d1 asc last vI0 vO0 ind0 out0) (hl : out0.length + 4 * ind0.length + 4 * I.size + 10 ≤ 140737488355328) (hc : I.size ≤ ind0.length) :
    Calls Tryd.prog 77 #[.pointer (some ⟨b, 0, none⟩), .int .u8 8] w fun e w' => e = .returned (.tuple #[]) ∧ (∃ vI vO, At w' w0.heap.size b I d0 d1 asc 8 vI vO (((ind0.take (ind0.length - I.size)))) (((out0) ++ [10]) ++ ((ind0.take (ind0.length - I.size))))) ∧ Below w0.heap.size w0 w' := by
  have hmf := mf
  have c0 := h.c0
  have c3 := h.c3
  have hlt := h.lt
  have HA := Aside0.mk h
  have HB0 := Aside0.mk hB0
  have HL := Aside0.mk hl
  have HC := Aside0.mk hc
  clear h hB0 hl hc
  go_enter_defers Tryd.func77, Tryd.ntmps77
  go_wp2_with fail
  have HS0 := Aside0.mk (Sx.start 8 HA.out HB0.out)
  generalize ((w.alloc (Obj.cells #[Value.pointer (some ⟨b, 0, none⟩)] 67)).alloc (Obj.cells #[Value.int .u8 8] 80)) = Wn at HS0 ⊢
  obtain ⟨⟨vI, vO, hA⟩, hX, hL, hB⟩ := HS0.out
  obtain ⟨AI, cI, rfl, hIle, hIC⟩ := Kd.R_reads hA.hI
  obtain ⟨AO, cO, rfl, hOle, hOC⟩ := Kd.R_reads hA.hO
  have hAd := Aside0.mk (hA.below (below_drew (Below.refl _ _)))
  have hXd := Aside0.mk (hX.below (below_drew (Below.refl _ _)))
  have hBd := Aside0.mk hB.drew
  have hIC := Aside0.mk hIC
  have hOC := Aside0.mk hOC
  clear hA hX hB
  obtain ⟨q, hq, hqw⟩ : ∃ q : Nat, q = ind0.length - I.size ∧ IntKind.i64.wrap ((ind0.length : Int) - (I.size : Int)) = (q : Int) := ⟨_, rfl, by have := HL.out; have := HC.out; rw [IntKind.wrap_i64]; omega⟩
  have hq0 : (0 : Int) ≤ (q : Int) := by omega
  have hqc : (q : Int) ≤ (cI : Int) := by omega
  have hqn : q ≤ cI := by omega
  have hqt : ((q : Int)).toNat = q := by omega
  have d2 := hAd.out.c1
  have dz2 := hAd.out.fz 1
  have HT := Aside0.mk (hAd.out.cut q (by omega))
  have HQ := Aside0.mk hq
  clear hq
  apply reg_cut (R := fun W_ => Sx w0 W_ w.heap.size b 8 I d0 d1 asc last (ind0.take q) (out0))
  case h =>
    refine start_ (n := 23) (S := fun w' => w'.cell? ⟨w.heap.size, 0, none⟩ = some (.pointer (some ⟨b, 0, none⟩)) ∧ w'.cell? ⟨b, 1, none⟩ = some (.slice AI ind0.length cI) ∧ w'.cell? ⟨b, 3, none⟩ = some (.string I)) (ds := [22]) #[false, false, false, false, false, false, false, false, false, false, false, false, false, false, false, false, false, false, false, false, false, false, false] (by kernel_rfl) rfl rfl ⟨hXd.out.cp, hAd.out.c1, hAd.out.c3⟩ (fun hHeld => ?_)
    refine take_ (i := 0) (N := some 112) (v := ?_) (a' := ?_) #[true, false, false, false, false, false, false, false, false, false, false, false, false, false, false, false, false, false, false, false, false, false, false] rfl rfl (by kernel_rfl) (fun _ _ _ h => h) (Or.inl ⟨by rfl, ?_⟩) hHeld ?_ ?_
    rotate_left
    · rintro w' ⟨s0, s1, s2⟩
      go_simp
      with_reducible rfl
    rotate_left
    · simp only [Act.put, List.setIfInBounds_toArray, List.set_cons_zero, List.set_cons_succ, i64_w, i32_w]
      rfl
    refine take_ (i := 1) (N := some 113) (v := ?_) (a' := ?_) #[true, true, false, false, false, false, false, false, false, false, false, false, false, false, false, false, false, false, false, false, false, false, false] rfl rfl (by kernel_rfl) (fun _ _ _ h => h) (Or.inl ⟨by rfl, ?_⟩) hHeld ?_ ?_
    rotate_left
    · rintro w' ⟨s0, s1, s2⟩
      go_simp
      with_reducible rfl
    rotate_left
    · simp only [Act.put, List.setIfInBounds_toArray, List.set_cons_zero, List.set_cons_succ, i64_w, i32_w]
      rfl
    refine pure_ (i := 2) (N := some 114) (v := ?_) (a' := ?_) #[true, true, true, false, false, false, false, false, false, false, false, false, false, false, false, false, false, false, false, false, false, false, false] rfl rfl (by kernel_rfl) (fun _ _ _ h => h) (Or.inl ⟨by rfl, ?_⟩) ?_ ?_
    rotate_left
    · intro w'
      go_simp
      with_reducible rfl
    rotate_left
    · simp only [Act.put, List.setIfInBounds_toArray, List.set_cons_zero, List.set_cons_succ, i64_w, i32_w]
      rfl
    refine pure_ (i := 3) (N := some 115) (v := ?_) (a' := ?_) #[true, true, true, true, false, false, false, false, false, false, false, false, false, false, false, false, false, false, false, false, false, false, false] rfl rfl (by kernel_rfl) (fun _ _ _ h => h) (Or.inl ⟨by rfl, ?_⟩) ?_ ?_
    rotate_left
    · intro w'
      go_simp
      with_reducible rfl
    rotate_left
    · simp only [Act.put, List.setIfInBounds_toArray, List.set_cons_zero, List.set_cons_succ, i64_w, i32_w]
      rfl
    refine pure_ (i := 4) (N := some 116) (v := ?_) (a' := ?_) #[true, true, true, true, true, false, false, false, false, false, false, false, false, false, false, false, false, false, false, false, false, false, false] rfl rfl (by kernel_rfl) (fun _ _ _ h => h) (Or.inl ⟨by rfl, ?_⟩) ?_ ?_
    rotate_left
    · intro w'
      go_simp
      with_reducible rfl
    rotate_left
    · simp only [Act.put, List.setIfInBounds_toArray, List.set_cons_zero, List.set_cons_succ, i64_w, i32_w]
      rfl
    refine take_ (i := 5) (N := some 117) (v := ?_) (a' := ?_) #[true, true, true, true, true, true, false, false, false, false, false, false, false, false, false, false, false, false, false, false, false, false, false] rfl rfl (by kernel_rfl) (fun _ _ _ h => h) (Or.inl ⟨by rfl, ?_⟩) hHeld ?_ ?_
    rotate_left
    · rintro w' ⟨s0, s1, s2⟩
      go_simp
      with_reducible rfl
    rotate_left
    · simp only [Act.put, List.setIfInBounds_toArray, List.set_cons_zero, List.set_cons_succ, i64_w, i32_w]
      rfl
    refine take_ (i := 6) (N := some 118) (v := ?_) (a' := ?_) #[true, true, true, true, true, true, true, false, false, false, false, false, false, false, false, false, false, false, false, false, false, false, false] rfl rfl (by kernel_rfl) (fun _ _ _ h => h) (Or.inl ⟨by rfl, ?_⟩) hHeld ?_ ?_
    rotate_left
    · rintro w' ⟨s0, s1, s2⟩
      go_simp
      with_reducible rfl
    rotate_left
    · simp only [Act.put, List.setIfInBounds_toArray, List.set_cons_zero, List.set_cons_succ, i64_w, i32_w]
      rfl
    refine pure_ (i := 7) (N := some 119) (v := ?_) (a' := ?_) #[true, true, true, true, true, true, true, true, false, false, false, false, false, false, false, false, false, false, false, false, false, false, false] rfl rfl (by kernel_rfl) (fun _ _ _ h => h) (Or.inl ⟨by rfl, ?_⟩) ?_ ?_
    rotate_left
    · intro w'
      go_simp
      with_reducible rfl
    rotate_left
    · simp only [Act.put, List.setIfInBounds_toArray, List.set_cons_zero, List.set_cons_succ, i64_w, i32_w]
      rfl
    refine pure_ (i := 8) (N := some 120) (v := ?_) (a' := ?_) #[true, true, true, true, true, true, true, true, true, false, false, false, false, false, false, false, false, false, false, false, false, false, false] rfl rfl (by kernel_rfl) (fun _ _ _ h => h) (Or.inl ⟨by rfl, ?_⟩) ?_ ?_
    rotate_left
    · intro w'
      go_simp
      with_reducible rfl
    rotate_left
    · simp only [Act.put, List.setIfInBounds_toArray, List.set_cons_zero, List.set_cons_succ, i64_w, i32_w]
      rfl
    refine pure_ (i := 9) (N := some 121) (v := ?_) (a' := ?_) #[true, true, true, true, true, true, true, true, true, true, false, false, false, false, false, false, false, false, false, false, false, false, false] rfl rfl (by kernel_rfl) (fun _ _ _ h => h) (Or.inl ⟨by rfl, ?_⟩) ?_ ?_
    rotate_left
    · intro w'
      go_simp
      with_reducible rfl
    rotate_left
    · simp only [Act.put, List.setIfInBounds_toArray, List.set_cons_zero, List.set_cons_succ, i64_w, i32_w]
      rfl
    refine take_ (i := 10) (N := some 122) (v := ?_) (a' := ?_) #[true, true, true, true, true, true, true, true, true, true, true, false, false, false, false, false, false, false, false, false, false, false, false] rfl rfl (by kernel_rfl) (fun _ _ _ h => h) (Or.inl ⟨by rfl, ?_⟩) hHeld ?_ ?_
    rotate_left
    · rintro w' ⟨s0, s1, s2⟩
      go_simp
      with_reducible rfl
    rotate_left
    · simp only [Act.put, List.setIfInBounds_toArray, List.set_cons_zero, List.set_cons_succ, i64_w, i32_w]
      rfl
    refine pure_ (i := 11) (N := some 123) (v := ?_) (a' := ?_) #[true, true, true, true, true, true, true, true, true, true, true, true, false, false, false, false, false, false, false, false, false, false, false] rfl rfl (by kernel_rfl) (fun _ _ _ h => h) (Or.inl ⟨by rfl, ?_⟩) ?_ ?_
    rotate_left
    · intro w'
      go_simp
      with_reducible rfl
    rotate_left
    · simp only [Act.put, List.setIfInBounds_toArray, List.set_cons_zero, List.set_cons_succ, i64_w, i32_w]
      rfl
    refine take_ (i := 12) (N := some 124) (v := ?_) (a' := ?_) #[true, true, true, true, true, true, true, true, true, true, true, true, true, false, false, false, false, false, false, false, false, false, false] rfl rfl (by kernel_rfl) (fun _ _ _ h => h) (Or.inl ⟨by rfl, ?_⟩) hHeld ?_ ?_
    rotate_left
    · rintro w' ⟨s0, s1, s2⟩
      go_simp
      with_reducible rfl
    rotate_left
    · simp only [Act.put, List.setIfInBounds_toArray, List.set_cons_zero, List.set_cons_succ, i64_w, i32_w]
      rfl
    refine pure_ (i := 13) (N := some 125) (v := ?_) (a' := ?_) #[true, true, true, true, true, true, true, true, true, true, true, true, true, true, false, false, false, false, false, false, false, false, false] rfl rfl (by kernel_rfl) (fun _ _ _ h => h) (Or.inl ⟨by rfl, ?_⟩) ?_ ?_
    rotate_left
    · intro w'
      go_simp
      with_reducible rfl
    rotate_left
    · simp only [Act.put, List.setIfInBounds_toArray, List.set_cons_zero, List.set_cons_succ, i64_w, i32_w]
      rfl
    refine pure_ (i := 14) (N := some 126) (v := ?_) (a' := ?_) #[true, true, true, true, true, true, true, true, true, true, true, true, true, true, true, false, false, false, false, false, false, false, false] rfl rfl (by kernel_rfl) (fun _ _ _ h => h) (Or.inl ⟨by rfl, ?_⟩) ?_ ?_
    rotate_left
    · intro w'
      go_simp
      with_reducible rfl
    rotate_left
    · simp only [Act.put, List.setIfInBounds_toArray, List.set_cons_zero, List.set_cons_succ, i64_w, i32_w]
      rfl
    refine take_ (i := 15) (N := some 127) (v := ?_) (a' := ?_) #[true, true, true, true, true, true, true, true, true, true, true, true, true, true, true, true, false, false, false, false, false, false, false] rfl rfl (by kernel_rfl) (fun _ _ _ h => h) (Or.inl ⟨by rfl, ?_⟩) hHeld ?_ ?_
    rotate_left
    · rintro w' ⟨s0, s1, s2⟩
      go_simp
      with_reducible rfl
    rotate_left
    · simp only [Act.put, List.setIfInBounds_toArray, List.set_cons_zero, List.set_cons_succ, i64_w, i32_w]
      rfl
    refine pure_ (i := 16) (N := some 128) (v := ?_) (a' := ?_) #[true, true, true, true, true, true, true, true, true, true, true, true, true, true, true, true, true, false, false, false, false, false, false] rfl rfl (by kernel_rfl) (fun _ _ _ h => h) (Or.inl ⟨by rfl, ?_⟩) ?_ ?_
    rotate_left
    · intro w'
      go_simp
      with_reducible rfl
    rotate_left
    · simp only [Act.put, List.setIfInBounds_toArray, List.set_cons_zero, List.set_cons_succ, i64_w, i32_w]
      rfl
    refine pure_ (i := 17) (N := some 129) (v := ?_) (a' := ?_) #[true, true, true, true, true, true, true, true, true, true, true, true, true, true, true, true, true, true, false, false, false, false, false] rfl rfl (by kernel_rfl) (fun _ _ _ h => h) (Or.inl ⟨by rfl, ?_⟩) ?_ ?_
    rotate_left
    · intro w'
      go_simp
      with_reducible rfl
    rotate_left
    · simp only [Act.put, List.setIfInBounds_toArray, List.set_cons_zero, List.set_cons_succ, i64_w, i32_w]
      rfl
    refine pure_ (i := 18) (N := some 130) (v := ?_) (a' := ?_) #[true, true, true, true, true, true, true, true, true, true, true, true, true, true, true, true, true, true, true, false, false, false, false] rfl rfl (by kernel_rfl) (fun _ _ _ h => h) (Or.inl ⟨by rfl, ?_⟩) ?_ ?_
    rotate_left
    · intro w'
      go_simp
      with_reducible rfl
    rotate_left
    · simp only [Act.put, List.setIfInBounds_toArray, List.set_cons_zero, List.set_cons_succ, i64_w, i32_w]
      rfl
    refine pure_ (i := 19) (N := some 131) (v := ?_) (a' := ?_) #[true, true, true, true, true, true, true, true, true, true, true, true, true, true, true, true, true, true, true, true, false, false, false] rfl rfl (by kernel_rfl) (fun _ _ _ h => h) (Or.inl ⟨by rfl, ?_⟩) ?_ ?_
    rotate_left
    · intro w'
      go_simp
      with_reducible rfl
    rotate_left
    · simp only [Act.put, List.setIfInBounds_toArray, List.set_cons_zero, List.set_cons_succ, i64_w, i32_w]
      rfl
    refine pure_ (i := 20) (N := some 132) (v := ?_) (a' := ?_) #[true, true, true, true, true, true, true, true, true, true, true, true, true, true, true, true, true, true, true, true, true, false, false] rfl rfl (by kernel_rfl) (fun _ _ _ h => h) (Or.inl ⟨by rfl, ?_⟩) ?_ ?_
    rotate_left
    · intro w'
      go_simp
      with_reducible rfl
    rotate_left
    · simp only [Act.put, List.setIfInBounds_toArray, List.set_cons_zero, List.set_cons_succ, i64_w, i32_w]
      rfl
    refine pure_ (i := 21) (N := some 133) (v := ?_) (a' := ?_) #[true, true, true, true, true, true, true, true, true, true, true, true, true, true, true, true, true, true, true, true, true, true, false] rfl rfl (by kernel_rfl) (fun _ _ _ h => h) (Or.inl ⟨by rfl, ?_⟩) ?_ ?_
    rotate_left
    · intro w'
      go_simp
      with_reducible rfl
    rotate_left
    · simp only [Act.put, List.setIfInBounds_toArray, List.set_cons_zero, List.set_cons_succ, i64_w, i32_w]
      rfl
    refine last_ (i := 22) (N := none) #[true, true, true, true, true, true, true, true, true, true, true, true, true, true, true, true, true, true, true, true, true, true, true] rfl rfl (by kernel_rfl) (by decide) (fun K hK => ?_)
    refine skip_ (w1 := ?_) (by rfl) rfl ?_ ?_
    rotate_left
    · go_simp
      rfl
    refine hK.out _ _ ?_
    clear hK K
    refine done_ (by kernel_rfl) ?_
    have A3 : Option Addr := none
    have m3 : Nat := 0
    refine ⟨A3, m3, rfl, Aside0.mk ⟨⟨_, _, HT.out⟩, hXd.out.set hL 1 _, hL, hBd.out.setCell HA.out.le _⟩⟩
  case k =>
    clear HS0 hL hAd hXd hBd hIC hOC hIle hOle
    clear c0 c3
    intro A4 m4 Wm HS1
    obtain ⟨ind1, hind1⟩ : ∃ x, x = ind0.take q := ⟨_, rfl⟩
    obtain ⟨out1, hout1⟩ : ∃ x, x = out0 := ⟨_, rfl⟩
    rw [← hout1, ← hind1] at HS1
    have HE1 := Aside0.mk (show out1.length = out0.length ∧ ind1.length ≤ ind0.length from ⟨by simp [hout1], by simp [hind1]; omega⟩)
    have HI1 := Aside0.mk hind1; have HO1 := Aside0.mk hout1; clear hind1 hout1
    have hx := HS1.out
    obtain ⟨⟨vI, vO, hA⟩, hX, hL, hB⟩ := hx
    have c0 := hA.c0; have c1 := hA.c1; have c2 := hA.c2; have c3 := hA.c3; have cp := hX.cp; have cn := hX.cn
    clear hA hX hL hB
    go_wp2_with fail
    obtain ⟨⟨vI, vO, hA⟩, hX, hL, hB⟩ := HS1.out
    obtain ⟨AI, cI, rfl, hIle, hIC⟩ := Kd.R_reads hA.hI
    obtain ⟨AO, cO, rfl, hOle, hOC⟩ := Kd.R_reads hA.hO
    have hAd := Aside0.mk (hA.below (below_drew (Below.refl _ _)))
    have hXd := Aside0.mk (hX.below (below_drew (Below.refl _ _)))
    have hBd := Aside0.mk hB.drew
    have hIC := Aside0.mk hIC
    have hOC := Aside0.mk hOC
    clear hA hX hB
    apply reg_cut (R := fun W_ => Sx w0 W_ w.heap.size b 8 I d0 d1 asc last (ind1) (out1 ++ [10]))
    case h =>
      refine start_ (n := 12) (S := fun w' => w'.cell? ⟨w.heap.size, 0, none⟩ = some (.pointer (some ⟨b, 0, none⟩)) ∧ w'.cell? ⟨b, 2, none⟩ = some (.slice AO out1.length cO)) (ds := [11]) #[false, false, false, false, false, false, false, false, false, false, false, false] (by kernel_rfl) rfl rfl ⟨hXd.out.cp, hAd.out.c2⟩ (fun hHeld => ?_)
      refine take_ (i := 0) (N := some 134) (v := ?_) (a' := ?_) #[true, false, false, false, false, false, false, false, false, false, false, false] rfl rfl (by kernel_rfl) (fun _ _ _ h => h) (Or.inl ⟨by rfl, ?_⟩) hHeld ?_ ?_
      rotate_left
      · rintro w' ⟨s0, s1⟩
        go_simp
        with_reducible rfl
      rotate_left
      · simp only [Act.put, List.setIfInBounds_toArray, List.set_cons_zero, List.set_cons_succ, i64_w, i32_w]
        rfl
      refine take_ (i := 1) (N := some 135) (v := ?_) (a' := ?_) #[true, true, false, false, false, false, false, false, false, false, false, false] rfl rfl (by kernel_rfl) (fun _ _ _ h => h) (Or.inl ⟨by rfl, ?_⟩) hHeld ?_ ?_
      rotate_left
      · rintro w' ⟨s0, s1⟩
        go_simp
        with_reducible rfl
      rotate_left
      · simp only [Act.put, List.setIfInBounds_toArray, List.set_cons_zero, List.set_cons_succ, i64_w, i32_w]
        rfl
      refine pure_ (i := 2) (N := some 136) (v := ?_) (a' := ?_) #[true, true, true, false, false, false, false, false, false, false, false, false] rfl rfl (by kernel_rfl) (fun _ _ _ h => h) (Or.inl ⟨by rfl, ?_⟩) ?_ ?_
      rotate_left
      · intro w'
        go_simp
        with_reducible rfl
      rotate_left
      · simp only [Act.put, List.setIfInBounds_toArray, List.set_cons_zero, List.set_cons_succ, i64_w, i32_w]
        rfl
      refine pure_ (i := 3) (N := some 137) (v := ?_) (a' := ?_) #[true, true, true, true, false, false, false, false, false, false, false, false] rfl rfl (by kernel_rfl) (fun _ _ _ h => h) (Or.inl ⟨by rfl, ?_⟩) ?_ ?_
      rotate_left
      · intro w'
        go_simp
        with_reducible rfl
      rotate_left
      · simp only [Act.put, List.setIfInBounds_toArray, List.set_cons_zero, List.set_cons_succ, i64_w, i32_w]
        rfl
      refine pure_ (i := 4) (N := some 138) (v := ?_) (a' := ?_) #[true, true, true, true, true, false, false, false, false, false, false, false] rfl rfl (by kernel_rfl) (fun _ _ _ h => h) (Or.inl ⟨by rfl, ?_⟩) ?_ ?_
      rotate_left
      · intro w'
        go_simp
        with_reducible rfl
      rotate_left
      · simp only [Act.put, List.setIfInBounds_toArray, List.set_cons_zero, List.set_cons_succ, i64_w, i32_w]
        rfl
      refine take_ (i := 5) (N := some 139) (v := ?_) (a' := ?_) #[true, true, true, true, true, true, false, false, false, false, false, false] rfl rfl (by kernel_rfl) (fun _ _ _ h => h) (Or.inl ⟨by rfl, ?_⟩) hHeld ?_ ?_
      rotate_left
      · rintro w' ⟨s0, s1⟩
        go_simp
        with_reducible rfl
      rotate_left
      · simp only [Act.put, List.setIfInBounds_toArray, List.set_cons_zero, List.set_cons_succ, i64_w, i32_w]
        rfl
      refine one_ (i := 6) (N := some 140) #[true, true, true, true, true, true, true, false, false, false, false, false] rfl rfl (by kernel_rfl) (by decide) (fun K hK => ?_)
      refine value_ (w1 := ?_) (v := ?_) (by rfl) rfl ?_ ?_
      rotate_left 2
      · go_simp
        constructor
        · rfl
        · rfl
      refine hK.out _ _ ⟨(hXd.out.below (below_alloc (Below.refl _ _) _)).cp, (hAd.out.below (below_alloc (Below.refl _ _) _)).c2⟩ (fun hHeld => ?_)
      clear hK K
      refine norm_ (a' := ?_) ?_ ?_
      rotate_left
      · show Act.put _ (some 140) _ = _
        simp only [Act.put, List.setIfInBounds_toArray, List.set_cons_zero, List.set_cons_succ, i64_w, i32_w]
        rfl
      refine one_ (i := 7) (N := some 141) #[true, true, true, true, true, true, true, true, false, false, false, false] rfl rfl (by kernel_rfl) (by decide) (fun K hK => ?_)
      refine Kd.R_append_step (Kd.int .u8) (w0 := w0) w0.heap.size (by rfl) (.tmp 139) (.tmp 140) 29 5 (.int .u8 0) 1 (by rfl) Tryd.underlying29 info5 rfl (by decide) (by omega) (.slice AO out1.length cO) out1 10 [.int .u8 10] (fun k => k ≠ b ∧ some k ≠ (Value.slice AI ind1.length cI).ownBlock) (fun _ => False) (by rfl) (by rfl) (by rfl) (fun _ hk => hk.elim) (fun k hk => freshO hAd.out k hk) hAd.out.hO hBd.out hBd.out.size (by rw [Nat.mul_one]; have := HL.out; have := HE1.out; omega) ?_
      intro v1 w3 hR hB3 hG hat; have hK3 := Aside0.mk (grown_kept hAd.out.hO hG); have hg2 := hXd.out.grown hAd.out.hO hG; clear hat hG
      obtain ⟨A3, m3, hv⟩ := Kd.R_slice hR; rw [List.length_append, show ([10] : List Int).length = 1 from rfl] at hv; subst hv; have HO := Aside0.mk (hAd.out.toOut hR hK3.out); have HX3 := Aside0.mk hg2; have HB3 := Aside0.mk hB3; clear hR hB3 hK3 hg2; have d2 := HO.out.c2; have dz2 := HO.out.fz 2
      refine hK.out _ _ ⟨HX3.out.cp, HO.out.c2⟩ (fun hHeld => ?_)
      clear hK K
      refine norm_ (a' := ?_) ?_ ?_
      rotate_left
      · show Act.put _ (some 141) _ = _
        simp only [Act.put, List.setIfInBounds_toArray, List.set_cons_zero, List.set_cons_succ, i64_w, i32_w]
        rfl
      refine pure_ (i := 8) (N := some 142) (v := ?_) (a' := ?_) #[true, true, true, true, true, true, true, true, true, false, false, false] rfl rfl (by kernel_rfl) (fun _ _ _ h => h) (Or.inl ⟨by rfl, ?_⟩) ?_ ?_
      rotate_left
      · intro w'
        go_simp
        with_reducible rfl
      rotate_left
      · simp only [Act.put, List.setIfInBounds_toArray, List.set_cons_zero, List.set_cons_succ, i64_w, i32_w]
        rfl
      refine pure_ (i := 9) (N := some 143) (v := ?_) (a' := ?_) #[true, true, true, true, true, true, true, true, true, true, false, false] rfl rfl (by kernel_rfl) (fun _ _ _ h => h) (Or.inl ⟨by rfl, ?_⟩) ?_ ?_
      rotate_left
      · intro w'
        go_simp
        with_reducible rfl
      rotate_left
      · simp only [Act.put, List.setIfInBounds_toArray, List.set_cons_zero, List.set_cons_succ, i64_w, i32_w]
        rfl
      refine pure_ (i := 10) (N := some 144) (v := ?_) (a' := ?_) #[true, true, true, true, true, true, true, true, true, true, true, false] rfl rfl (by kernel_rfl) (fun _ _ _ h => h) (Or.inl ⟨by rfl, ?_⟩) ?_ ?_
      rotate_left
      · intro w'
        go_simp
        with_reducible rfl
      rotate_left
      · simp only [Act.put, List.setIfInBounds_toArray, List.set_cons_zero, List.set_cons_succ, i64_w, i32_w]
        rfl
      refine last_ (i := 11) (N := none) #[true, true, true, true, true, true, true, true, true, true, true, true] rfl rfl (by kernel_rfl) (by decide) (fun K hK => ?_)
      refine skip_ (w1 := ?_) (by rfl) rfl ?_ ?_
      rotate_left
      · go_simp
        rfl
      refine hK.out _ _ ?_
      clear hK K
      refine done_ (by kernel_rfl) ?_
      refine ⟨A3, m3, rfl, Aside0.mk ⟨⟨_, _, HO.out.set⟩, HX3.out.set hL 2 _, hL, HB3.out.setCell HA.out.le _⟩⟩
    case k =>
      clear HS1 hL hAd hXd hBd hIC hOC hIle hOle
      clear c0 c1 c2 c3 cp cn
      intro A4 m4 Wm HS2
      obtain ⟨ind2, hind2⟩ : ∃ x, x = ind1 := ⟨_, rfl⟩
      obtain ⟨out2, hout2⟩ : ∃ x, x = out1 ++ [10] := ⟨_, rfl⟩
      rw [← hout2, ← hind2] at HS2
      have HE2 := Aside0.mk (show out2.length = out1.length + 1 ∧ ind2.length = ind1.length from ⟨by simp [hout2], by simp [hind2]⟩)
      have HI2 := Aside0.mk hind2; have HO2 := Aside0.mk hout2; clear hind2 hout2
      have hx := HS2.out
      obtain ⟨⟨vI, vO, hA⟩, hX, hL, hB⟩ := hx
      have c0 := hA.c0; have c1 := hA.c1; have c2 := hA.c2; have c3 := hA.c3; have cp := hX.cp; have cn := hX.cn
      clear hA hX hL hB
      go_wp2_with fail
      obtain ⟨⟨vI, vO, hA⟩, hX, hL, hB⟩ := HS2.out
      obtain ⟨AI, cI, rfl, hIle, hIC⟩ := Kd.R_reads hA.hI
      obtain ⟨AO, cO, rfl, hOle, hOC⟩ := Kd.R_reads hA.hO
      have hAd := Aside0.mk (hA.below (below_drew (Below.refl _ _)))
      have hXd := Aside0.mk (hX.below (below_drew (Below.refl _ _)))
      have hBd := Aside0.mk hB.drew
      have hIC := Aside0.mk hIC
      have hOC := Aside0.mk hOC
      clear hA hX hB
      apply reg_cut (R := fun W_ => Sx w0 W_ w.heap.size b 8 I d0 d1 asc last (ind2) (out2 ++ ind2))
      case h =>
        refine start_ (n := 16) (S := fun w' => w'.cell? ⟨w.heap.size, 0, none⟩ = some (.pointer (some ⟨b, 0, none⟩)) ∧ w'.cell? ⟨b, 2, none⟩ = some (.slice AO out2.length cO) ∧ w'.cell? ⟨b, 1, none⟩ = some (.slice AI ind2.length cI)) (ds := [15]) #[false, false, false, false, false, false, false, false, false, false, false, false, false, false, false, false] (by kernel_rfl) rfl rfl ⟨hXd.out.cp, hAd.out.c2, hAd.out.c1⟩ (fun hHeld => ?_)
        refine take_ (i := 0) (N := some 145) (v := ?_) (a' := ?_) #[true, false, false, false, false, false, false, false, false, false, false, false, false, false, false, false] rfl rfl (by kernel_rfl) (fun _ _ _ h => h) (Or.inl ⟨by rfl, ?_⟩) hHeld ?_ ?_
        rotate_left
        · rintro w' ⟨s0, s1, s2⟩
          go_simp
          with_reducible rfl
        rotate_left
        · simp only [Act.put, List.setIfInBounds_toArray, List.set_cons_zero, List.set_cons_succ, i64_w, i32_w]
          rfl
        refine take_ (i := 1) (N := some 146) (v := ?_) (a' := ?_) #[true, true, false, false, false, false, false, false, false, false, false, false, false, false, false, false] rfl rfl (by kernel_rfl) (fun _ _ _ h => h) (Or.inl ⟨by rfl, ?_⟩) hHeld ?_ ?_
        rotate_left
        · rintro w' ⟨s0, s1, s2⟩
          go_simp
          with_reducible rfl
        rotate_left
        · simp only [Act.put, List.setIfInBounds_toArray, List.set_cons_zero, List.set_cons_succ, i64_w, i32_w]
          rfl
        refine pure_ (i := 2) (N := some 147) (v := ?_) (a' := ?_) #[true, true, true, false, false, false, false, false, false, false, false, false, false, false, false, false] rfl rfl (by kernel_rfl) (fun _ _ _ h => h) (Or.inl ⟨by rfl, ?_⟩) ?_ ?_
        rotate_left
        · intro w'
          go_simp
          with_reducible rfl
        rotate_left
        · simp only [Act.put, List.setIfInBounds_toArray, List.set_cons_zero, List.set_cons_succ, i64_w, i32_w]
          rfl
        refine pure_ (i := 3) (N := some 148) (v := ?_) (a' := ?_) #[true, true, true, true, false, false, false, false, false, false, false, false, false, false, false, false] rfl rfl (by kernel_rfl) (fun _ _ _ h => h) (Or.inl ⟨by rfl, ?_⟩) ?_ ?_
        rotate_left
        · intro w'
          go_simp
          with_reducible rfl
        rotate_left
        · simp only [Act.put, List.setIfInBounds_toArray, List.set_cons_zero, List.set_cons_succ, i64_w, i32_w]
          rfl
        refine pure_ (i := 4) (N := some 149) (v := ?_) (a' := ?_) #[true, true, true, true, true, false, false, false, false, false, false, false, false, false, false, false] rfl rfl (by kernel_rfl) (fun _ _ _ h => h) (Or.inl ⟨by rfl, ?_⟩) ?_ ?_
        rotate_left
        · intro w'
          go_simp
          with_reducible rfl
        rotate_left
        · simp only [Act.put, List.setIfInBounds_toArray, List.set_cons_zero, List.set_cons_succ, i64_w, i32_w]
          rfl
        refine take_ (i := 5) (N := some 150) (v := ?_) (a' := ?_) #[true, true, true, true, true, true, false, false, false, false, false, false, false, false, false, false] rfl rfl (by kernel_rfl) (fun _ _ _ h => h) (Or.inl ⟨by rfl, ?_⟩) hHeld ?_ ?_
        rotate_left
        · rintro w' ⟨s0, s1, s2⟩
          go_simp
          with_reducible rfl
        rotate_left
        · simp only [Act.put, List.setIfInBounds_toArray, List.set_cons_zero, List.set_cons_succ, i64_w, i32_w]
          rfl
        refine take_ (i := 6) (N := some 151) (v := ?_) (a' := ?_) #[true, true, true, true, true, true, true, false, false, false, false, false, false, false, false, false] rfl rfl (by kernel_rfl) (fun _ _ _ h => h) (Or.inl ⟨by rfl, ?_⟩) hHeld ?_ ?_
        rotate_left
        · rintro w' ⟨s0, s1, s2⟩
          go_simp
          with_reducible rfl
        rotate_left
        · simp only [Act.put, List.setIfInBounds_toArray, List.set_cons_zero, List.set_cons_succ, i64_w, i32_w]
          rfl
        refine pure_ (i := 7) (N := some 152) (v := ?_) (a' := ?_) #[true, true, true, true, true, true, true, true, false, false, false, false, false, false, false, false] rfl rfl (by kernel_rfl) (fun _ _ _ h => h) (Or.inl ⟨by rfl, ?_⟩) ?_ ?_
        rotate_left
        · intro w'
          go_simp
          with_reducible rfl
        rotate_left
        · simp only [Act.put, List.setIfInBounds_toArray, List.set_cons_zero, List.set_cons_succ, i64_w, i32_w]
          rfl
        refine pure_ (i := 8) (N := some 153) (v := ?_) (a' := ?_) #[true, true, true, true, true, true, true, true, true, false, false, false, false, false, false, false] rfl rfl (by kernel_rfl) (fun _ _ _ h => h) (Or.inl ⟨by rfl, ?_⟩) ?_ ?_
        rotate_left
        · intro w'
          go_simp
          with_reducible rfl
        rotate_left
        · simp only [Act.put, List.setIfInBounds_toArray, List.set_cons_zero, List.set_cons_succ, i64_w, i32_w]
          rfl
        refine pure_ (i := 9) (N := some 154) (v := ?_) (a' := ?_) #[true, true, true, true, true, true, true, true, true, true, false, false, false, false, false, false] rfl rfl (by kernel_rfl) (fun _ _ _ h => h) (Or.inl ⟨by rfl, ?_⟩) ?_ ?_
        rotate_left
        · intro w'
          go_simp
          with_reducible rfl
        rotate_left
        · simp only [Act.put, List.setIfInBounds_toArray, List.set_cons_zero, List.set_cons_succ, i64_w, i32_w]
          rfl
        refine take_ (i := 10) (N := some 155) (v := ?_) (a' := ?_) #[true, true, true, true, true, true, true, true, true, true, true, false, false, false, false, false] rfl rfl (by kernel_rfl) (fun _ _ _ h => h) (Or.inl ⟨by rfl, ?_⟩) hHeld ?_ ?_
        rotate_left
        · rintro w' ⟨s0, s1, s2⟩
          go_simp
          with_reducible rfl
        rotate_left
        · simp only [Act.put, List.setIfInBounds_toArray, List.set_cons_zero, List.set_cons_succ, i64_w, i32_w]
          rfl
        refine one_ (i := 11) (N := some 156) #[true, true, true, true, true, true, true, true, true, true, true, true, false, false, false, false] rfl rfl (by kernel_rfl) (by decide) (fun K hK => ?_)
        refine Kd.R_append_rows_step (Kd.int .u8) (Rr := (Kd.int .u8).K Wn.drew) (w0 := w0) w0.heap.size (by rfl) (.tmp 150) (.tmp 155) 29 5 (.int .u8 0) 1 (by rfl) Tryd.underlying29 info5 rfl (by decide) (by omega) (.slice AO out2.length cO) out2 ind2 AI ind2.length cI (fun k => k ≠ b ∧ some k ≠ (Value.slice AI ind2.length cI).ownBlock) (fun _ => False) (by rfl) (by rfl) hAd.out.hO (Kd.C_below hIC.out (below_drew (Below.refl _ _))) (fun _ _ h => h) (fun _ hk => hk.elim) (fun k hk => freshO hAd.out k hk) hBd.out hBd.out.size (by rw [Nat.mul_one]; have := HL.out; have := HE1.out; have := HE2.out; omega) ?_
        intro v1 w3 hR hB3 hG hat; have hK3 := Aside0.mk (grown_kept hAd.out.hO hG); have hg2 := hXd.out.grown hAd.out.hO hG; clear hat hG
        obtain ⟨A3, m3, hv⟩ := Kd.R_slice hR; rw [List.length_append] at hv; subst hv; have HO := Aside0.mk (hAd.out.toOut hR hK3.out); have HX3 := Aside0.mk hg2; have HB3 := Aside0.mk hB3; clear hR hB3 hK3 hg2; have d2 := HO.out.c2; have dz2 := HO.out.fz 2
        refine hK.out _ _ ⟨HX3.out.cp, HO.out.c2, HO.out.c1⟩ (fun hHeld => ?_)
        clear hK K
        refine norm_ (a' := ?_) ?_ ?_
        rotate_left
        · show Act.put _ (some 156) _ = _
          simp only [Act.put, List.setIfInBounds_toArray, List.set_cons_zero, List.set_cons_succ, i64_w, i32_w]
          rfl
        refine pure_ (i := 12) (N := some 157) (v := ?_) (a' := ?_) #[true, true, true, true, true, true, true, true, true, true, true, true, true, false, false, false] rfl rfl (by kernel_rfl) (fun _ _ _ h => h) (Or.inl ⟨by rfl, ?_⟩) ?_ ?_
        rotate_left
        · intro w'
          go_simp
          with_reducible rfl
        rotate_left
        · simp only [Act.put, List.setIfInBounds_toArray, List.set_cons_zero, List.set_cons_succ, i64_w, i32_w]
          rfl
        refine pure_ (i := 13) (N := some 158) (v := ?_) (a' := ?_) #[true, true, true, true, true, true, true, true, true, true, true, true, true, true, false, false] rfl rfl (by kernel_rfl) (fun _ _ _ h => h) (Or.inl ⟨by rfl, ?_⟩) ?_ ?_
        rotate_left
        · intro w'
          go_simp
          with_reducible rfl
        rotate_left
        · simp only [Act.put, List.setIfInBounds_toArray, List.set_cons_zero, List.set_cons_succ, i64_w, i32_w]
          rfl
        refine pure_ (i := 14) (N := some 159) (v := ?_) (a' := ?_) #[true, true, true, true, true, true, true, true, true, true, true, true, true, true, true, false] rfl rfl (by kernel_rfl) (fun _ _ _ h => h) (Or.inl ⟨by rfl, ?_⟩) ?_ ?_
        rotate_left
        · intro w'
          go_simp
          with_reducible rfl
        rotate_left
        · simp only [Act.put, List.setIfInBounds_toArray, List.set_cons_zero, List.set_cons_succ, i64_w, i32_w]
          rfl
        refine last_ (i := 15) (N := none) #[true, true, true, true, true, true, true, true, true, true, true, true, true, true, true, true] rfl rfl (by kernel_rfl) (by decide) (fun K hK => ?_)
        refine skip_ (w1 := ?_) (by rfl) rfl ?_ ?_
        rotate_left
        · go_simp
          rfl
        refine hK.out _ _ ?_
        clear hK K
        refine done_ (by kernel_rfl) ?_
        refine ⟨A3, m3, rfl, Aside0.mk ⟨⟨_, _, HO.out.set⟩, HX3.out.set hL 2 _, hL, HB3.out.setCell HA.out.le _⟩⟩
      case k =>
        clear HS2 hL hAd hXd hBd hIC hOC hIle hOle
        clear c0 c1 c2 c3 cp cn
        intro A4 m4 Wm HS3
        obtain ⟨ind3, hind3⟩ : ∃ x, x = ind2 := ⟨_, rfl⟩
        obtain ⟨out3, hout3⟩ : ∃ x, x = out2 ++ ind2 := ⟨_, rfl⟩
        rw [← hout3, ← hind3] at HS3
        have HE3 := Aside0.mk (show out3.length = out2.length + ind2.length ∧ ind3.length = ind2.length from ⟨by simp [hout3], by simp [hind3]⟩)
        have HI3 := Aside0.mk hind3; have HO3 := Aside0.mk hout3; clear hind3 hout3
        have hx := HS3.out
        obtain ⟨⟨vI, vO, hA⟩, hX, hL, hB⟩ := hx
        have c0 := hA.c0; have c1 := hA.c1; have c2 := hA.c2; have c3 := hA.c3; have cp := hX.cp; have cn := hX.cn
        clear hA hX hL hB
        go_wp2_with fail
        obtain ⟨⟨vI, vO, hA⟩, hX, hL, hB⟩ := HS3.out
        refine door _ _ b 8 _ _ hX.cn hX.cp hA.c0 (hA.fz 0) ⟨rfl, ⟨vI, vO, ?_⟩, hB.setCell HA.out.le _⟩
        have hind3 := HI3.out; have hout3 := HO3.out; subst hind3 hout3
        have hind2 := HI2.out; have hout2 := HO2.out; subst hind2 hout2
        have hind1 := HI1.out; have hout1 := HO1.out; subst hind1 hout1
        have hq := HQ.out; subst hq
        exact hA.set_last 8

set_option maxHeartbeats 4000000 in
set_option maxRecDepth 100000 in
theorem pn_none0 (b : Nat) (last : Int) (nx : Int) (vI0 vO0 : Value) (I : ByteArray) (d0 d1 : Int) (asc : Bool) (ind0 out0 : List Int) (w0 w : World) (hI : I.size = 0) (f1 : (Go.bits .and .u8 last 10 != 0) = false)
    (hB0 : Below w0.heap.size w0 w) (h : At w w0.heap.size b I d0 d1 asc last vI0 vO0 ind0 out0) (hl : out0.length + 4 * ind0.length + 4 * I.size + 10 ≤ 140737488355328) :
    Calls Tryd.prog 77 #[.pointer (some ⟨b, 0, none⟩), .int .u8 nx] w fun e w' => e = .returned (.tuple #[]) ∧ (∃ vI vO, At w' w0.heap.size b I d0 d1 asc nx vI vO (ind0) (out0)) ∧ Below w0.heap.size w0 w' := by
  have hmf := mf
  have c0 := h.c0
  have c3 := h.c3
  have hlt := h.lt
  have HA := Aside0.mk h
  have HB0 := Aside0.mk hB0
  have HL := Aside0.mk hl
  clear h hB0 hl
  go_enter_defers Tryd.func77, Tryd.ntmps77
  go_wp2_with fail
  have HS0 := Aside0.mk (Sx.start nx HA.out HB0.out)
  generalize ((w.alloc (Obj.cells #[Value.pointer (some ⟨b, 0, none⟩)] 67)).alloc (Obj.cells #[Value.int .u8 nx] 80)) = Wn at HS0 ⊢
  obtain ⟨⟨vI, vO, hA⟩, hX, hL, hB⟩ := HS0.out
  refine door _ _ b nx _ _ hX.cn hX.cp hA.c0 (hA.fz 0) ⟨rfl, ⟨vI, vO, ?_⟩, hB.setCell HA.out.le _⟩
  exact hA.set_last nx

set_option maxHeartbeats 4000000 in
set_option maxRecDepth 100000 in
theorem pn_none1 (b : Nat) (last : Int) (nx : Int) (vI0 vO0 : Value) (I : ByteArray) (d0 d1 : Int) (asc : Bool) (ind0 out0 : List Int) (w0 w : World) (hI : I.size = 0) (f1 : (Go.bits .and .u8 last 10 != 0) = true) (hn : (nx == 1) = false)
    (hB0 : Below w0.heap.size w0 w) (h : At w w0.heap.size b I d0 d1 asc last vI0 vO0 ind0 out0) (hl : out0.length + 4 * ind0.length + 4 * I.size + 10 ≤ 140737488355328) :
    Calls Tryd.prog 77 #[.pointer (some ⟨b, 0, none⟩), .int .u8 nx] w fun e w' => e = .returned (.tuple #[]) ∧ (∃ vI vO, At w' w0.heap.size b I d0 d1 asc nx vI vO (ind0) (out0)) ∧ Below w0.heap.size w0 w' := by
  have hmf := mf
  have c0 := h.c0
  have c3 := h.c3
  have hlt := h.lt
  have HA := Aside0.mk h
  have HB0 := Aside0.mk hB0
  have HL := Aside0.mk hl
  clear h hB0 hl
  go_enter_defers Tryd.func77, Tryd.ntmps77
  go_wp2_with fail
  have HS0 := Aside0.mk (Sx.start nx HA.out HB0.out)
  generalize ((w.alloc (Obj.cells #[Value.pointer (some ⟨b, 0, none⟩)] 67)).alloc (Obj.cells #[Value.int .u8 nx] 80)) = Wn at HS0 ⊢
  obtain ⟨⟨vI, vO, hA⟩, hX, hL, hB⟩ := HS0.out
  refine door _ _ b nx _ _ hX.cn hX.cp hA.c0 (hA.fz 0) ⟨rfl, ⟨vI, vO, ?_⟩, hB.setCell HA.out.le _⟩
  exact hA.set_last nx

set_option maxHeartbeats 4000000 in
set_option maxRecDepth 100000 in
theorem pn_none2 (b : Nat) (nx : Int) (vI0 vO0 : Value) (I : ByteArray) (d0 d1 : Int) (asc : Bool) (ind0 out0 : List Int) (w0 w : World) (hI : ¬ I.size = 0) (f1 : (Go.bits .and .u8 0 10 != 0) = false)
    (hB0 : Below w0.heap.size w0 w) (h : At w w0.heap.size b I d0 d1 asc 0 vI0 vO0 ind0 out0) (hl : out0.length + 4 * ind0.length + 4 * I.size + 10 ≤ 140737488355328) :
    Calls Tryd.prog 77 #[.pointer (some ⟨b, 0, none⟩), .int .u8 nx] w fun e w' => e = .returned (.tuple #[]) ∧ (∃ vI vO, At w' w0.heap.size b I d0 d1 asc nx vI vO (ind0) (out0)) ∧ Below w0.heap.size w0 w' := by
  have hmf := mf
  have c0 := h.c0
  have c3 := h.c3
  have hlt := h.lt
  have HA := Aside0.mk h
  have HB0 := Aside0.mk hB0
  have HL := Aside0.mk hl
  clear h hB0 hl
  go_enter_defers Tryd.func77, Tryd.ntmps77
  go_wp2_with fail
  have HS0 := Aside0.mk (Sx.start nx HA.out HB0.out)
  generalize ((w.alloc (Obj.cells #[Value.pointer (some ⟨b, 0, none⟩)] 67)).alloc (Obj.cells #[Value.int .u8 nx] 80)) = Wn at HS0 ⊢
  obtain ⟨⟨vI, vO, hA⟩, hX, hL, hB⟩ := HS0.out
  refine door _ _ b nx _ _ hX.cn hX.cp hA.c0 (hA.fz 0) ⟨rfl, ⟨vI, vO, ?_⟩, hB.setCell HA.out.le _⟩
  exact hA.set_last nx

set_option maxHeartbeats 4000000 in
set_option maxRecDepth 100000 in
theorem pn_none3 (b : Nat) (vI0 vO0 : Value) (I : ByteArray) (d0 d1 : Int) (asc : Bool) (ind0 out0 : List Int) (w0 w : World) (hI : ¬ I.size = 0) (f1 : (Go.bits .and .u8 4 10 != 0) = false)
    (hB0 : Below w0.heap.size w0 w) (h : At w w0.heap.size b I d0 d1 asc 4 vI0 vO0 ind0 out0) (hl : out0.length + 4 * ind0.length + 4 * I.size + 10 ≤ 140737488355328) :
    Calls Tryd.prog 77 #[.pointer (some ⟨b, 0, none⟩), .int .u8 8] w fun e w' => e = .returned (.tuple #[]) ∧ (∃ vI vO, At w' w0.heap.size b I d0 d1 asc 8 vI vO (ind0) (out0)) ∧ Below w0.heap.size w0 w' := by
  have hmf := mf
  have c0 := h.c0
  have c3 := h.c3
  have hlt := h.lt
  have HA := Aside0.mk h
  have HB0 := Aside0.mk hB0
  have HL := Aside0.mk hl
  clear h hB0 hl
  go_enter_defers Tryd.func77, Tryd.ntmps77
  go_wp2_with fail
  have HS0 := Aside0.mk (Sx.start 8 HA.out HB0.out)
  generalize ((w.alloc (Obj.cells #[Value.pointer (some ⟨b, 0, none⟩)] 67)).alloc (Obj.cells #[Value.int .u8 8] 80)) = Wn at HS0 ⊢
  obtain ⟨⟨vI, vO, hA⟩, hX, hL, hB⟩ := HS0.out
  refine door _ _ b 8 _ _ hX.cn hX.cp hA.c0 (hA.fz 0) ⟨rfl, ⟨vI, vO, ?_⟩, hB.setCell HA.out.le _⟩
  exact hA.set_last 8

end Go.Proofs.YticfdfomlcohpaaDoor.Pn
