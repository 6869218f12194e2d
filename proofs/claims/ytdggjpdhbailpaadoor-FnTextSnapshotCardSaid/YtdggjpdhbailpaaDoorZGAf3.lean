/- appendFloat: bytes of ASCII are appended; at 64 bits the same ones whatever stands ahead. Conditions: as in Ft3. -/
import Derived.Test.YtdggjpdhbailpaaDoorZGFl
import Derived.Test.YtdggjpdhbailpaaDoorZGFt3
import Derived.Test.YtdggjpdhbailpaaDoorZGTd2
namespace Go.Proofs.YtdggjpdhbailpaaDoor.Af1
open Go.RowKit Go.Proofs.YtdggjpdhbailpaaDoorW.PrintWords Go.Proofs.YtdggjpdhbailpaaDoorW.PrintLast Go.Proofs.YtdggjpdhbailpaaDoorW.PrintMore Go.Proofs.YtdggjpdhbailpaaDoor.Ft3 Go.Proofs.YtdggjpdhbailpaaDoor.As1 Go.Proofs.YtdggjpdhbailpaaDoor.PFnTextAscii
set_option linter.unusedSectionVars false
set_option linter.unusedVariables false
variable [γ_ : Gho]

theorem c4 (W : World) (b : Nat) : (convert 92 108 (.float .f64 b)).run Tryd.prog W = .ok (.float .f32 (Fl.cvN W .f64 b .f32)) (Fl.cvW W .f64 b .f32) :=
  Fl.run_cv Tryd.prog 92 108 .f64 .f32 b (by rw [Tryd.underlying92]; rfl) Tryd.underlying108 (by decide) W

theorem af64 (n : Nat) (P0 : Nat → Prop) (v : Value) (l r : List Int) (w0 w : World)
    (hc : Calls Tryd.prog 87 #[v, .float .f64 n, .int .u8 103, .int .i64 (-1)] w fun e w' => ∃ v', e = .returned v' ∧ Kd.G (Kd.int .u8) 5 w' w0.heap.size (fun k => P0 k ∨ w.heap.size ≤ k) v' (l ++ r) ∧ Below w0.heap.size w0 w' ∧ Kept w w' P0) :
    Calls Tryd.prog 93 #[v, .float .f64 n, .int .u8 103, .int .i64 (-1), .int .i64 64] w fun e w' => ∃ v', e = .returned v' ∧ Kd.G (Kd.int .u8) 5 w' w0.heap.size (fun k => P0 k ∨ w.heap.size ≤ k) v' (l ++ r) ∧ Below w0.heap.size w0 w' ∧ Kept w w' P0 := by
  have hi : Aside0 (Calls Tryd.prog 114 #[v, .float .f64 n, .int .u8 103, .int .i64 (-1), .int .i64 64] w fun e w' => ∃ v', e = .returned v' ∧ Kd.G (Kd.int .u8) 5 w' w0.heap.size (fun k => P0 k ∨ w.heap.size ≤ k) v' (l ++ r) ∧ Below w0.heap.size w0 w' ∧ Kept w w' P0) := Aside0.mk (by
    have HC := Aside0.mk hc
    clear hc
    go_enter Tryd.func114, Tryd.ntmps114
    go_wp2_with (go_at_call 87; go_must (refine HC.out.mono ?_; rintro en w4 ⟨v', rfl, hR, hB4, hK4⟩))
    go_ret
    exact ⟨v', rfl, hR, hB4, hK4⟩)
  clear hc
  go_enter Tryd.func93, Tryd.ntmps93
  go_wp2_with (go_at_call 114; go_must (refine hi.out.mono ?_; rintro en w4 ⟨v', rfl, hR, hB4, hK4⟩))
  go_ret
  exact ⟨v', rfl, hR, hB4, hK4⟩

end Go.Proofs.YtdggjpdhbailpaaDoor.Af1

/- appendFloat: bytes of ASCII are appended; at 64 bits the same ones whatever stands ahead. Conditions: as in Ft3. -/
namespace Go.Proofs.YtdggjpdhbailpaaDoor.Af2
open Go.RowKit Go.Proofs.YtdggjpdhbailpaaDoorW.PrintWords Go.Proofs.YtdggjpdhbailpaaDoorW.PrintLast Go.Proofs.YtdggjpdhbailpaaDoorW.PrintMore Go.Proofs.YtdggjpdhbailpaaDoor.Ft3 Go.Proofs.YtdggjpdhbailpaaDoor.As1 Go.Proofs.YtdggjpdhbailpaaDoor.PFnTextAscii
set_option linter.unusedSectionVars false
set_option linter.unusedVariables false
variable [γ_ : Gho]

/-- The word of a float that is no number or an infinity, if it is one. -/
def word (a b c : Bool) : Option (List Int) := if c = true then some [110, 97, 110] else if b = true then some [105, 110, 102] else if a = true then some [45, 105, 110, 102] else none

set_option maxHeartbeats 2000000 in
theorem apf (n : Nat) (sz : Int) (P0 : Nat → Prop) (v : Value) (l r : List Int) (w0 w : World) (hl : l.length + 4600 < 140737488355328) (hB : Below w0.heap.size w0 w) (ho : Kd.G (Kd.int .u8) 5 w w0.heap.size P0 v l)
    (hr : word (Fl.gtM (Op.negFloat .f64 n)) (Fl.gtM n) (Fl.nanB n) = some r ∨ (word (Fl.gtM (Op.negFloat .f64 n)) (Fl.gtM n) (Fl.nanB n) = none ∧ Calls Tryd.prog 93 #[v, .float .f64 n, .int .u8 103, .int .i64 (-1), .int .i64 sz] w fun e w' => ∃ v', e = .returned v' ∧ Kd.G (Kd.int .u8) 5 w' w0.heap.size (fun k => P0 k ∨ w.heap.size ≤ k) v' (l ++ r) ∧ Below w0.heap.size w0 w' ∧ Kept w w' P0)) :
    Calls Tryd.prog 79 #[v, .float .f64 n, .int .i64 sz] w fun e w' => ∃ v', e = .returned v' ∧ Kd.G (Kd.int .u8) 5 w' w0.heap.size (fun k => P0 k ∨ w.heap.size ≤ k) v' (l ++ r) ∧ Below w0.heap.size w0 w' ∧ Kept w w' P0 := by
  have hA := Aside0.mk (fun w => Fl.isinf_m n w)
  have hI := Aside0.mk (fun w => Fl.isinf_p n w)
  have hC := Aside0.mk (fun w => Fl.isnan n w)
  generalize Fl.gtM (Op.negFloat .f64 n) = a at hA hr
  generalize Fl.gtM n = b at hI hr
  generalize Fl.nanB n = c at hC hr
  have hD : Aside0 (∀ (s : Int) (w : World), s = 1 ∨ s = -1 → Calls Tryd.prog 37 #[.float .f64 n, .int .i64 s] w fun e w' => e = .returned (.bool (if s = 1 then b else a)) ∧ w = w') :=
    Aside0.mk (fun s w h => by
      rcases h with rfl | rfl
      · exact hI.out w
      · exact hA.out w)
  clear hA hI
  have HO := Aside0.mk ho
  have HB := Aside0.mk hB
  have HL := Aside0.mk hl
  have HR := Aside0.mk hr
  clear ho hB hl hr
  cases c <;> cases b <;> cases a
  all_goals
    go_enter Tryd.func79, Tryd.ntmps79
    go_wp2_with (first
    | (go_at_call 37; go_must (refine (hD.out _ _ (by decide)).mono ?_; rintro e w1 ⟨rfl, rfl⟩))
    | (go_at_call 38; go_must (refine (hC.out _).mono ?_; rintro e w3 ⟨rfl, rfl⟩))
    | (go_at_call 93; go_must (refine ((HR.out.resolve_left (by simp [word])).2).mono ?_; rintro en w4 ⟨v1, rfl, hR, hB1, hK1⟩))
    | (at_builtin; refine wpList_app_str (w0 := w0) w0.heap.size rfl (.tmp 14) _ 29 9 5 rfl Tryd.underlying29 Tryd.underlying9 info5 P0 v l (⟨#[110, 97, 110]⟩ : ByteArray) rfl rfl ?aO ?aB ?aS ?aL ?_; (case aO => exact HO.out); (case aB => exact HB.out); (case aS => exact HB.out.size); (case aL => have := HL.out; simp [ByteArray.size]; omega); intro v1 w1 hR hB1 hK1)
    | (at_builtin; refine wpList_app_str (w0 := w0) w0.heap.size rfl (.tmp 19) _ 29 9 5 rfl Tryd.underlying29 Tryd.underlying9 info5 P0 v l (⟨#[105, 110, 102]⟩ : ByteArray) rfl rfl ?aO ?aB ?aS ?aL ?_; (case aO => exact HO.out); (case aB => exact HB.out); (case aS => exact HB.out.size); (case aL => have := HL.out; simp [ByteArray.size]; omega); intro v1 w1 hR hB1 hK1)
    | (at_builtin; refine wpList_app_str (w0 := w0) w0.heap.size rfl (.tmp 24) _ 29 9 5 rfl Tryd.underlying29 Tryd.underlying9 info5 P0 v l (⟨#[45, 105, 110, 102]⟩ : ByteArray) rfl rfl ?aO ?aB ?aS ?aL ?_; (case aO => exact HO.out); (case aB => exact HB.out); (case aS => exact HB.out.size); (case aL => have := HL.out; simp [ByteArray.size]; omega); intro v1 w1 hR hB1 hK1))
    go_ret
    have h := HR.out
    simp [word] at h
    first | (subst h; exact ⟨v1, rfl, hR, hB1, hK1⟩) | exact ⟨v1, rfl, hR, hB1, hK1⟩

end Go.Proofs.YtdggjpdhbailpaaDoor.Af2

/- appendFloat at either size appends the same bytes of ASCII in whatever world, the conversion to 32 bits drawing nothing. Conditions: as in Ft3. -/
namespace Go.Proofs.YtdggjpdhbailpaaDoor.Af3
set_option linter.unusedVariables false
set_option linter.unusedSectionVars false
open Go.RowKit Go.Proofs.YtdggjpdhbailpaaDoorW.PrintWords Go.Proofs.YtdggjpdhbailpaaDoorW.PrintLast Go.Proofs.YtdggjpdhbailpaaDoorW.PrintMore Go.Proofs.YtdggjpdhbailpaaDoor.Ft3 Go.Proofs.YtdggjpdhbailpaaDoor.As1 Go.Proofs.YtdggjpdhbailpaaDoor.Af1 Go.Proofs.YtdggjpdhbailpaaDoor.Af2 Go.Proofs.YtdggjpdhbailpaaDoor.PFnTextAscii

theorem cut32b (q : Question) (b : Nat) (t : Nat) (hq : q = .nanConv .f32 b) : q.cut t < 4294967296 := by
  subst hq
  simp only [Question.cut]
  have hc : t / 2 % (2 ^ 23 - 1) < 2 ^ 23 - 1 := Nat.mod_lt _ (by decide)
  generalize t / 2 % (2 ^ 23 - 1) = c at hc
  rcases (by omega : t % 2 = 0 ∨ t % 2 = 1) with h | h <;> rw [h] <;> omega
theorem cv32_lt (W : World) (b : Nat) : Fl.cvN W .f64 b .f32 < 4294967296 := by
  unfold Fl.cvN
  split
  · exact cut32b _ b _ rfl
  · exact FloatKind.f32.format.write_lt _
  · split
    · simp only [Question.cut]
      omega
    · exact FloatKind.f32.format.write_lt _

attribute [local irreducible] Fl.cvW Fl.cvN

/-- What a call at 32 bits appends, its number known. -/
def Does32 (x : Nat) (r : List Int) : Prop := ∀ (γ_ : Gho) (P0 : Nat → Prop) (v : Value) (l : List Int) (w0 w : World), l.length + 4600 < 140737488355328 → Below w0.heap.size w0 w → Kd.G (Kd.int .u8) 5 w w0.heap.size P0 v l → (∀ k, P0 k → k < w.heap.size) → Sf2.Pow w → Ft1.Tab w →
  Calls Tryd.prog 86 #[v, .float .f32 x, .int .u8 103, .int .i64 (-1)] w fun e w' => ∃ v', e = .returned v' ∧ Kd.G (Kd.int .u8) 5 w' w0.heap.size (fun k => P0 k ∨ w.heap.size ≤ k) v' (l ++ r) ∧ Below w0.heap.size w0 w' ∧ Kept w w' P0

theorem af32 (γ_ : Gho) (n : Nat) (P0 : Nat → Prop) (v : Value) (l r : List Int) (w0 w : World) (r3 : Does32 (Fl.cvN w .f64 n .f32) r) (hl : l.length + 4600 < 140737488355328) (hB : Below w0.heap.size w0 w) (ho : Kd.G (Kd.int .u8) 5 w w0.heap.size P0 v l) (hP : ∀ k, P0 k → k < w.heap.size) (hT : Sf2.Pow w) (hT2 : Ft1.Tab w) :
    Calls Tryd.prog 93 #[v, .float .f64 n, .int .u8 103, .int .i64 (-1), .int .i64 32] w fun e w' => ∃ v', e = .returned v' ∧ Kd.G (Kd.int .u8) 5 w' w0.heap.size (fun k => P0 k ∨ w.heap.size ≤ k) v' (l ++ r) ∧ Below w0.heap.size w0 w' ∧ Kept w w' P0 := by
  have hb : Below w.heap.size w (Fl.cvW w .f64 n .f32) := Fl.cvW_below (Below.refl _ _) _ _ _
  have hz : (Fl.cvW w .f64 n .f32).heap.size = w.heap.size := by rw [Fl.cvW_heap]
  have hc := r3 γ_ P0 v l w0 (Fl.cvW w .f64 n .f32) hl (hB.trans (hb.mono hB.size)) (Kd.G_below ho hb) (fun k hk => by rw [hz]; exact hP k hk) (hT.on hb) (hT2.on hb)
  rw [hz] at hc
  have hi : Aside0 (Calls Tryd.prog 114 #[v, .float .f64 n, .int .u8 103, .int .i64 (-1), .int .i64 32] w fun e w' => ∃ v', e = .returned v' ∧ Kd.G (Kd.int .u8) 5 w' w0.heap.size (fun k => P0 k ∨ w.heap.size ≤ k) v' (l ++ r) ∧ Below w0.heap.size w0 w' ∧ Kept w w' P0) := Aside0.mk (by
    have HC := Aside0.mk hc
    have HK := Aside0.mk hb
    have h4 := c4
    clear hc hb hz r3
    go_enter Tryd.func114, Tryd.ntmps114
    go_wp2_with (go_at_call 86; go_must (refine HC.out.mono ?_; rintro en w4 ⟨v', rfl, hR, hB4, hK4⟩))
    go_ret
    exact ⟨v', rfl, hR, hB4, (Kept.of_below HK.out P0).then_ hK4 (fun _ h => .inl h)⟩)
  clear hc r3
  go_enter Tryd.func93, Tryd.ntmps93
  go_wp2_with (go_at_call 114; go_must (refine hi.out.mono ?_; rintro en w4 ⟨v', rfl, hR, hB4, hK4⟩))
  go_ret
  exact ⟨v', rfl, hR, hB4, hK4⟩

theorem word_ok {a b c : Bool} {r : List Int} (h : word a b c = some r) : (∀ x ∈ r, 0 ≤ x ∧ x < 128) ∧ r.length ≤ 4600 := by
  cases a <;> cases b <;> cases c <;> simp [word] at h <;> subst h <;> exact ⟨by decide, by decide⟩
theorem word_no {a b c : Bool} (h : word a b c = none) : (c || b || a) = false := by
  cases a <;> cases b <;> cases c <;> first | rfl | (simp [word] at h)

/-- appendFloat at either size. -/
theorem float_out (n : Nat) (hn : n < 18446744073709551616) (sz : Int) (hs : sz = 32 ∨ sz = 64) (hf : sz = 32 → Td2.wordB n = false → Td2.Fix n) :
    ∃ r : List Int, r.length ≤ 4600 ∧ ∀ (γ_ : Gho) (P0 : Nat → Prop) (v : Value) (l : List Int) (w0 w : World), l.length + 4600 < 140737488355328 → Below w0.heap.size w0 w → Kd.G (Kd.int .u8) 5 w w0.heap.size P0 v l → (∀ k, P0 k → k < w.heap.size) → Sf2.Pow w → Ft1.Tab w →
    Calls Tryd.prog 79 #[v, .float .f64 n, .int .i64 sz] w fun e w' => ∃ v', e = .returned v' ∧ Kd.G (Kd.int .u8) 5 w' w0.heap.size (fun k => P0 k ∨ w.heap.size ≤ k) v' (l ++ r) ∧ Below w0.heap.size w0 w' ∧ Kept w w' P0 := by
  cases hw : word (Fl.gtM (Op.negFloat .f64 n)) (Fl.gtM n) (Fl.nanB n) with
  | some r => exact ⟨r, (word_ok hw).2, fun γ_ P0 v l w0 w hl hB ho _ _ _ => apf n sz P0 v l r w0 w hl hB ho (.inl hw)⟩
  | none =>
    rcases hs with rfl | rfl
    · obtain ⟨m, hm⟩ := hf rfl (word_no hw)
      by_cases hlt : m < 4294967296
      · obtain ⟨r, _, r2, r3⟩ := ft32 m hlt
        refine ⟨r, r2, fun γ_ P0 v l w0 w hl hB ho hP hT hT2 => apf n 32 P0 v l r w0 w hl hB ho (.inr ⟨hw, ?_⟩)⟩
        exact af32 γ_ n P0 v l r w0 w (by rw [hm w]; exact r3) hl hB ho hP hT hT2
      · exact ⟨[], by simp, fun γ_ P0 v l w0 w => absurd (hm w ▸ cv32_lt w n) hlt⟩
    · obtain ⟨r, _, r2, r3⟩ := ft64 n hn
      exact ⟨r, r2, fun γ_ P0 v l w0 w hl hB ho hP hT hT2 => apf n 64 P0 v l r w0 w hl hB ho (.inr ⟨hw, af64 n P0 v l r w0 w (r3 γ_ P0 v l w0 w hl hB ho hP hT hT2)⟩)⟩

end Go.Proofs.YtdggjpdhbailpaaDoor.Af3
