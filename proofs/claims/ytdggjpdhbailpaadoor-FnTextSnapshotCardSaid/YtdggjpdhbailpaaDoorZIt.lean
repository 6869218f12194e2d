/- Items: how many there are, and that their fields are of their kinds and short. Conditions: none. -/
import Derived.Test.YtdggjpdhbailpaaDoorZWords
namespace Go.Proofs.YtdggjpdhbailpaaDoor.It
open Go.RowKit Go.Proofs.YtdggjpdhbailpaaDoorW.PrintWords Go.Proofs.YtdggjpdhbailpaaDoorW.PrintLast Go.Proofs.YtdggjpdhbailpaaDoorW.PrintMore Go.Proofs.YtdggjpdhbailpaaDoor.PFnTextAscii

def count : List S76 → Nat
  | [] => 0
  | ⟨_, _, _, _, _, _, _, _, k⟩ :: r => 1 + count k + count r
theorem count_cons (x : S76) (r : List S76) : count (x :: r) = 1 + count x.f8 + count r := by
  cases x
  rw [count]

/-- One item's own fields. -/
structure One (x : S76) : Prop where
  n : x.f0.size ≤ 1000
  s : x.f3.size ≤ 1000
  k0 : 0 ≤ x.f1
  k1 : x.f1 < 256
  i0 : -9223372036854775808 ≤ x.f4
  i1 : x.f4 ≤ 9223372036854775807
  u0 : 0 ≤ x.f5
  u1 : x.f5 < 18446744073709551616
  f0 : 0 ≤ x.f6
  f1 : x.f6 < 18446744073709551616
def All (P : S76 → Prop) : List S76 → Prop
  | [] => True
  | ⟨f0, f1, f2, f3, f4, f5, f6, f7, k⟩ :: r => P ⟨f0, f1, f2, f3, f4, f5, f6, f7, k⟩ ∧ All P k ∧ All P r
theorem all_cons (P : S76 → Prop) (x : S76) (r : List S76) : All P (x :: r) ↔ P x ∧ All P x.f8 ∧ All P r := by
  cases x
  rw [All]
theorem all_nil (P : S76 → Prop) : All P [] := by rw [All]; trivial
theorem all_imp {P Q R : S76 → Prop} (h : ∀ x, P x → Q x → R x) : ∀ (n : Nat) (l : List S76), count l ≤ n → All P l → All Q l → All R l := by
  intro n
  induction n with
  | zero =>
    intro l hl _ _
    cases l with
    | nil => exact all_nil R
    | cons x r => rw [count_cons] at hl; omega
  | succ n ih =>
    intro l
    induction l with
    | nil => intro _ _ _; exact all_nil R
    | cons x r ihr =>
      intro hl hp hq
      rw [count_cons] at hl
      rw [all_cons] at hp hq ⊢
      exact ⟨h x hp.1 hq.1, ih _ (by omega) hp.2.1 hq.2.1, ihr (by omega) hp.2.2 hq.2.2⟩

end Go.Proofs.YtdggjpdhbailpaaDoor.It
