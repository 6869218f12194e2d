/- zzTrim of a text of blanks and tabs is empty. Conditions: none on the world. -/
import Derived.Test.YtdggjpdhbailpaaDoorZIx
import Derived.Laws.RangeString
import Derived.Laws.RangeAny
import Derived.Lib.OthersKept
import Derived.LoopTactic
import Derived.Outline
import Derived.Deep.DeepMust
namespace Go.Proofs.YtdggjpdhbailpaaDoor.Zt
open Go.RowKit Go.Proofs.YtdggjpdhbailpaaDoorW.PrintWords Go.Proofs.YtdggjpdhbailpaaDoorW.PrintLast Go.Proofs.YtdggjpdhbailpaaDoorW.PrintMore Go.Proofs.YtdggjpdhbailpaaDoor.Ix Go.Proofs.YtdggjpdhbailpaaDoor.PFnTextAscii

set_option maxRecDepth 100000 in
theorem inset (c : Int) (hc : c = 32 ∨ c = 9) (w : World) : Calls Tryd.prog 88 #[.int .i32 c, .string ⟨#[32, 9]⟩] w fun e w' => e = .returned (.bool true) ∧ Below w.heap.size w w' := by
  go_enter Tryd.func88, Tryd.ntmps88
  go_wp2
  go_loopw [6] (fun v w' => ∃ pos : Nat, w'.heap[w.heap.size]? = some (.stringIter ⟨#[32, 9]⟩ pos) ∧ Below w.heap.size w w' ∧ (pos = 0 ∨ (pos = 1 ∧ c = 9))) (fun _ w' => 2 - w'.iterPos w.heap.size)
  case atStart => exact ⟨0, by simp [World.iter_heap], below_alloc (Below.refl _ _) _, .inl rfl⟩
  case round =>
    obtain ⟨pos, hk, hB, hp⟩ := hrel
    have HB := Aside0.mk hB
    clear hB
    rcases hp with rfl | ⟨rfl, rfl⟩
    · have hnx : ∀ ty, (Instr.next (.pointer (some ⟨w.heap.size, 0, none⟩)) true ty).run Tryd.prog wr = .ok (.tuple #[.bool true, .int .i64 0, .int .i32 32]) (wr.iterAt w.heap.size ⟨#[32, 9]⟩ 1) := fun ty => Lib.run_next_any_at wr w.heap.size ⟨#[32, 9]⟩ 0 ty hk (by decide)
      have HK := Aside0.mk hk
      clear hk
      by_cases h32 : c = 32
      · subst h32
        go_wp2
        go_ret
        exact ⟨rfl, Lib.below_iterAt HB.out (Nat.le_refl _) _ _⟩
      · have h9 : c = 9 := by omega
        subst h9
        go_wp2
        go_roundw
        case rel => exact ⟨1, Lib.iterAt_heap _ _ _ 0 _ HK.out, Lib.below_iterAt HB.out (Nat.le_refl _) _ _, .inr (by simp)⟩
        case measure =>
          have h1 := Lib.iterAt_heap wr w.heap.size ⟨#[32, 9]⟩ 0 1 HK.out
          have h2 := HK.out
          simp only [World.iterPos, h1, h2]
          omega
    · have hnx : ∀ ty, (Instr.next (.pointer (some ⟨w.heap.size, 0, none⟩)) true ty).run Tryd.prog wr = .ok (.tuple #[.bool true, .int .i64 1, .int .i32 9]) (wr.iterAt w.heap.size ⟨#[32, 9]⟩ 2) := fun ty => Lib.run_next_any_at wr w.heap.size ⟨#[32, 9]⟩ 1 ty hk (by decide)
      clear hk
      go_wp2
      go_ret
      exact ⟨rfl, Lib.below_iterAt HB.out (Nat.le_refl _) _ _⟩

theorem drawn_below {w w' : World} (h : Drawn0 w w') : Below w.heap.size w w' := h.below

/-- A text of blanks and tabs alone. -/
def Blanks (s : ByteArray) : Prop := ∀ (i : Nat) (h : i < s.size), (s[i]'h).toNat = 32 ∨ (s[i]'h).toNat = 9

set_option maxRecDepth 100000 in
theorem left (s : ByteArray) (hs : Blanks s) (w : World) : Calls Tryd.prog 76 #[.string s, .string ⟨#[32, 9]⟩] w fun e w' => e = .returned (.string ⟨#[]⟩) ∧ Below w.heap.size w w' := by
  go_enter Tryd.func76, Tryd.ntmps76
  go_wp2_with fail
  go_loopw [6] (fun v w' => ∃ pos : Nat, w'.heap[w.heap.size]? = some (.stringIter s pos) ∧ Below w.heap.size w w') (fun _ w' => s.size - w'.iterPos w.heap.size)
  case atStart => exact ⟨0, by simp [World.iter_heap], below_alloc (Below.refl _ _) _⟩
  case round =>
    obtain ⟨pos, hk, hB⟩ := hrel
    have HB := Aside0.mk hB
    clear hB
    by_cases hp : pos < s.size
    · have hb := hs pos hp
      have hnx : ∀ ty, (Instr.next (.pointer (some ⟨w.heap.size, 0, none⟩)) true ty).run Tryd.prog wr = .ok (.tuple #[.bool true, .int .i64 pos, .int .i32 (s[pos]'hp).toNat]) (wr.iterAt w.heap.size s (pos + 1)) := fun ty => Lib.run_next_ascii_at wr w.heap.size s pos ty hk hp (by omega)
      generalize (s[pos]'hp).toNat = c at hb hnx
      have HK := Aside0.mk hk
      have HC := Aside0.mk (show (c : Int) = 32 ∨ (c : Int) = 9 by omega)
      have HP := Aside0.mk hp
      clear hk hb hs hp
      go_wp2_with (go_at_call 88; go_must (refine (inset c HC.out _).mono ?_; rintro e1 w1 ⟨rfl, hb1⟩; have HB1 := Aside0.mk hb1; clear hb1))
      have hlt : w.heap.size < (wr.iterAt w.heap.size s (pos + 1)).heap.size := by rw [Lib.iterAt_size]; exact (Array.getElem?_eq_some_iff.1 HK.out).1
      have hk1 : w1.heap[w.heap.size]? = some (.stringIter s (pos + 1)) := (HB1.out.block _ hlt).trans (Lib.iterAt_heap _ _ _ pos _ HK.out)
      go_roundw
      case rel => exact ⟨pos + 1, hk1, below_then (Lib.below_iterAt HB.out (Nat.le_refl _) _ _) (by omega) HB1.out⟩
      case measure =>
        have h2 := HK.out
        have h3 := HP.out
        simp only [World.iterPos, hk1, h2]
        omega
    · have hnx : ∀ ty, (Instr.next (.pointer (some ⟨w.heap.size, 0, none⟩)) true ty).run Tryd.prog wr = .ok (.tuple #[.bool false]) wr := fun ty => Lib.run_next_end_at wr w.heap.size s pos ty hk hp
      clear hk hs hp
      go_wp2_with fail
      go_ret
      exact ⟨rfl, HB.out⟩

theorem right_nil (w : World) : Calls Tryd.prog 75 #[.string ⟨#[]⟩, .string ⟨#[32, 9]⟩] w fun e w' => e = .returned (.string ⟨#[]⟩) ∧ Below w.heap.size w w' := by
  have h : text_zzTrimRight.f 2 ⟨#[]⟩ ⟨#[32, 9]⟩ = some ⟨#[]⟩ := by decide
  exact (text_zzTrimRight.calls 2 _ _ _ w h).mono fun e w' hh => ⟨hh.1, hh.2.below⟩

theorem trim (s : ByteArray) (hs : Blanks s) (w : World) : Calls Tryd.prog 55 #[.string s, .string ⟨#[32, 9]⟩] w fun e w' => e = .returned (.string ⟨#[]⟩) ∧ Below w.heap.size w w' := by
  have HL := Aside0.mk (left s hs w)
  clear hs
  go_enter Tryd.func55, Tryd.ntmps55
  go_wp2_with (first
    | (go_at_call 76; go_must (refine HL.out.mono ?_; rintro e1 w1 ⟨rfl, hb1⟩; have HB1 := Aside0.mk hb1; clear hb1))
    | (go_at_call 75; go_must (refine (right_nil _).mono ?_; rintro e2 w2 ⟨rfl, hb2⟩; have HB2 := Aside0.mk hb2; clear hb2)))
  go_ret
  exact ⟨rfl, below_then HB1.out HB1.out.size HB2.out⟩

end Go.Proofs.YtdggjpdhbailpaaDoor.Zt
