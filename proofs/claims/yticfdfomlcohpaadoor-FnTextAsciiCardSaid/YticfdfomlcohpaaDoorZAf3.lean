/- appendFloat at either size appends bytes of ASCII. Conditions: as in Ft3. -/
import Derived.Test.YticfdfomlcohpaaDoorZAf2
namespace Go.Proofs.YticfdfomlcohpaaDoor.Af3
open Go.RowKit Go.Proofs.YticfdfomlcohpaaDoorW.PrintWords Go.Proofs.YticfdfomlcohpaaDoorW.PrintLast Go.Proofs.YticfdfomlcohpaaDoorW.PrintMore Go.Proofs.YticfdfomlcohpaaDoor.Ft3 Go.Proofs.YticfdfomlcohpaaDoor.As1 Go.Proofs.YticfdfomlcohpaaDoor.Af1 Go.Proofs.YticfdfomlcohpaaDoor.Af2 Go.Proofs.YticfdfomlcohpaaDoor.PFnTextAscii

theorem cut32b (q : Question) (b : Nat) (t : Nat) (hq : q = .nanConv .f32 b) : q.cut t < 4294967296 := by
  subst hq
  simp only [Question.cut]
  have hc : t / 2 % (2 ^ 23 - 1) < 2 ^ 23 - 1 := Nat.mod_lt _ (by decide)
  generalize t / 2 % (2 ^ 23 - 1) = c at hc
  rcases (by omega : t % 2 = 0 ∨ t % 2 = 1) with h | h <;> rw [h] <;> omega
theorem cv32_lt (W : World) (b : Nat) : Fl.cvN W .f64 b .f32 < 4294967296 := by
  unfold Fl.cvN
  split
  · exact cut32b _ b _ rfl
  · exact FloatKind.f32.format.write_lt _
  · split
    · simp only [Question.cut]
      omega
    · exact FloatKind.f32.format.write_lt _

def Post (w0 w : World) (P0 : Nat → Prop) (l : List Int) (e : Ending) (w' : World) : Prop :=
  ∃ (r : List Int) (v' : Value), (∀ c ∈ r, 0 ≤ c ∧ c < 128) ∧ r.length ≤ 4600 ∧ e = .returned v' ∧ Kd.R (Kd.int .u8) 5 w' w0.heap.size (fun k => P0 k ∨ w.heap.size ≤ k) v' (l ++ r) ∧ Below w0.heap.size w0 w' ∧ Kept w w' P0

attribute [local irreducible] Fl.cvW Fl.cvN

theorem af32 (n : Nat) (P0 : Nat → Prop) (v : Value) (l : List Int) (w0 w : World) (hl : l.length + 4600 < 140737488355328) (hB : Below w0.heap.size w0 w) (ho : Kd.R (Kd.int .u8) 5 w w0.heap.size P0 v l) (hP : ∀ k, P0 k → k < w.heap.size) (hT : Sf2.Pow w) (hT2 : Ft1.Tab w) :
    ∃ r : List Int, (∀ c ∈ r, 0 ≤ c ∧ c < 128) ∧ r.length ≤ 4600 ∧ Calls Tryd.prog 93 #[v, .float .f64 n, .int .u8 103, .int .i64 (-1), .int .i64 32] w fun e w' => ∃ v', e = .returned v' ∧ Kd.R (Kd.int .u8) 5 w' w0.heap.size (fun k => P0 k ∨ w.heap.size ≤ k) v' (l ++ r) ∧ Below w0.heap.size w0 w' ∧ Kept w w' P0 := by
  obtain ⟨r, r1, r2, r3⟩ := ft32 (Fl.cvN w .f64 n .f32) (cv32_lt w n)
  refine ⟨r, r1, r2, ?_⟩
  have hb : Below w.heap.size w (Fl.cvW w .f64 n .f32) := Fl.cvW_below (Below.refl _ _) _ _ _
  have hz : (Fl.cvW w .f64 n .f32).heap.size = w.heap.size := by rw [Fl.cvW_heap]
  have hc := r3 P0 v l w0 (Fl.cvW w .f64 n .f32) hl (hB.trans (hb.mono hB.size)) (Kd.R_below ho hb) (fun k hk => by rw [hz]; exact hP k hk) (hT.on hb) (hT2.on hb)
  rw [hz] at hc
  have hi : Aside0 (Calls Tryd.prog 114 #[v, .float .f64 n, .int .u8 103, .int .i64 (-1), .int .i64 32] w fun e w' => ∃ v', e = .returned v' ∧ Kd.R (Kd.int .u8) 5 w' w0.heap.size (fun k => P0 k ∨ w.heap.size ≤ k) v' (l ++ r) ∧ Below w0.heap.size w0 w' ∧ Kept w w' P0) := Aside0.mk (by
    have HC := Aside0.mk hc
    have HK := Aside0.mk hb
    have h4 := c4
    clear hc hb hz
    go_enter Tryd.func114, Tryd.ntmps114
    go_wp2_with (go_at_call 86; go_must (refine HC.out.mono ?_; rintro en w4 ⟨v', rfl, hR, hB4, hK4⟩))
    go_ret
    exact ⟨v', rfl, hR, hB4, (Kept.of_below HK.out P0).then_ hK4 (fun _ h => .inl h)⟩)
  clear hc
  go_enter Tryd.func93, Tryd.ntmps93
  go_wp2_with (go_at_call 114; go_must (refine hi.out.mono ?_; rintro en w4 ⟨v', rfl, hR, hB4, hK4⟩))
  go_ret
  exact ⟨v', rfl, hR, hB4, hK4⟩

theorem word_ok {a b c : Bool} {r : List Int} (h : word a b c = some r) : (∀ x ∈ r, 0 ≤ x ∧ x < 128) ∧ r.length ≤ 4600 := by
  cases a <;> cases b <;> cases c <;> simp [word] at h <;> subst h <;> exact ⟨by decide, by decide⟩

/-- appendFloat at either size. -/
theorem float_out (n : Nat) (hn : n < 18446744073709551616) (sz : Int) (hs : sz = 32 ∨ sz = 64) (P0 : Nat → Prop) (v : Value) (l : List Int) (w0 w : World) (hl : l.length + 4600 < 140737488355328) (hB : Below w0.heap.size w0 w) (ho : Kd.R (Kd.int .u8) 5 w w0.heap.size P0 v l) (hP : ∀ k, P0 k → k < w.heap.size) (hT : Sf2.Pow w) (hT2 : Ft1.Tab w) :
    Calls Tryd.prog 79 #[v, .float .f64 n, .int .i64 sz] w (Post w0 w P0 l) := by
  cases hw : word (Fl.gtM (Op.negFloat .f64 n)) (Fl.gtM n) (Fl.nanB n) with
  | some r =>
    obtain ⟨r1, r2⟩ := word_ok hw
    exact (apf n sz P0 v l r w0 w hl hB ho (.inl hw)).mono fun e w' ⟨v', h1, h2, h3, h4⟩ => ⟨r, v', r1, r2, h1, h2, h3, h4⟩
  | none =>
    rcases hs with rfl | rfl
    · obtain ⟨r, r1, r2, r3⟩ := af32 n P0 v l w0 w hl hB ho hP hT hT2
      exact (apf n 32 P0 v l r w0 w hl hB ho (.inr ⟨hw, r3⟩)).mono fun e w' ⟨v', h1, h2, h3, h4⟩ => ⟨r, v', r1, r2, h1, h2, h3, h4⟩
    · obtain ⟨r, r1, r2, r3⟩ := ft64 n hn
      exact (apf n 64 P0 v l r w0 w hl hB ho (.inr ⟨hw, af64 n P0 v l r w0 w (r3 P0 v l w0 w hl hB ho hP hT hT2)⟩)).mono fun e w' ⟨v', h1, h2, h3, h4⟩ => ⟨r, v', r1, r2, h1, h2, h3, h4⟩

end Go.Proofs.YticfdfomlcohpaaDoor.Af3
