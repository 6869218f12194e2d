/- A row of numbers that reads, in the words of the printed texts. Conditions: none. -/
import Derived.Test.YtdggjpdhbailpaaDoorZWords
namespace Go.Proofs.YtdggjpdhbailpaaDoor.Db
open Go.RowKit Go.Proofs.YtdggjpdhbailpaaDoorW.PrintWords Go.Proofs.YtdggjpdhbailpaaDoorW.PrintLast Go.Proofs.YtdggjpdhbailpaaDoorW.PrintMore
theorem C_int_of {w : World} {k : IntKind} {A : Option Addr} {n : Nat} {xs : List Int} (h : ReadsInt w k A n xs) : Kd.C (Kd.int k) w A n xs := by
  refine ⟨h.1, h.2.1, fun hn => ?_⟩
  obtain ⟨ad, e, hc⟩ := h.2.2 hn
  refine ⟨ad, e, fun j p hp => ⟨[.int k p], rfl, rfl, fun i u hu => ?_⟩⟩
  have hj : j < n := by
    have := (List.getElem?_eq_some_iff.1 hp).1
    have := h.1
    omega
  match i, hu with
  | 0, hu =>
    have e1 : u = .int k p := by simpa using hu.symm
    have e2 : xs.getD j 0 = p := by simp [List.getD_eq_getElem?_getD, hp]
    show w.cell? (ad.add (j * 1 + 0)) = some u
    rw [e1, Nat.mul_one, Nat.add_zero, hc j hj, e2]
end Go.Proofs.YtdggjpdhbailpaaDoor.Db
