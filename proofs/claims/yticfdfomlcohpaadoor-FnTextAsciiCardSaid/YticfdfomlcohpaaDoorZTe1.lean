/- The encoder over the rounds of TextEncode: the state between two calls. Conditions: as in Td2; at most 2000 calls that open and close evenly, an indent of at most 8. -/
import Derived.Test.YticfdfomlcohpaaDoorZTd2
import Derived.Test.YticfdfomlcohpaaDoorZOk
import Derived.Test.YticfdfomlcohpaaDoorZLf
namespace Go.Proofs.YticfdfomlcohpaaDoor.Te
open Go.RowKit Go.Proofs.YticfdfomlcohpaaDoorW.PrintWords Go.Proofs.YticfdfomlcohpaaDoorW.PrintLast Go.Proofs.YticfdfomlcohpaaDoorW.PrintMore Go.Proofs.YticfdfomlcohpaaDoor.As1 Go.Proofs.YticfdfomlcohpaaDoor.En0 Go.Proofs.YticfdfomlcohpaaDoor.Bl Go.Proofs.YticfdfomlcohpaaDoor.Pn2 Go.Proofs.YticfdfomlcohpaaDoor.Wr Go.Proofs.YticfdfomlcohpaaDoor.Td Go.Proofs.YticfdfomlcohpaaDoor.Td2 Go.Proofs.YticfdfomlcohpaaDoor.Ok Go.Proofs.YticfdfomlcohpaaDoor.PFnTextAscii

def St (w0 w : World) (b : Nat) (I : ByteArray) (d0 d1 : Int) (ops : List TOp) (i : Nat) : Prop :=
  Below w0.heap.size w0 w ∧ ∃ last ind out vI vO t, At w w0.heap.size b I d0 d1 true last vI vO ind out ∧ (last = 0 ∨ last = 1 ∨ last = 2 ∨ last = 4 ∨ last = 8) ∧ Runs (bytesOf I) (last, ind) (ops.drop i) t ∧ Asc ind ∧ Asc out ∧ ind.length ≤ 8 * i ∧ out.length ≤ 120000 * i ∧ (0 < i → out ≠ [])

theorem bal_head {ops : List TOp} (h : Bal ops) (o : TOp) (r : List TOp) (e : ops = o :: r) : o.d = 1 := by
  cases h with
  | nil => cases e
  | leaf n v r h1 => injection e with e _; rw [← e]; exact h1
  | msg n s e' k r h1 => injection e with e _; rw [← e]; exact h1

theorem lastOf_la (d : Int) : lastOf d = 0 ∨ lastOf d = 1 ∨ lastOf d = 2 ∨ lastOf d = 4 ∨ lastOf d = 8 := by
  unfold lastOf
  split
  · exact .inr (.inl rfl)
  split
  · exact .inr (.inr (.inr (.inl rfl)))
  split
  · exact .inr (.inr (.inr (.inr rfl)))
  · exact .inr (.inr (.inl rfl))

theorem st_pre {w0 w : World} {b : Nat} {I : ByteArray} {d0 d1 : Int} {ops : List TOp} {i : Nat} (h : St w0 w b I d0 d1 ops i) (hi : i < ops.length) (hn : ops.length ≤ 2000) (hI : I.size ≤ 8) (hIa : Asc (bytesOf I)) (hb : Bal ops) :
    ∃ last ind out, Pre w0 w b I d0 d1 true last (lastOf (rdOp ops i).d) ind out ∧
      ∀ e w', WrP w0 b I d0 d1 true (lastOf (rdOp ops i).d) (indOf (bytesOf I) last (lastOf (rdOp ops i).d) ind) (out ++ preOf (bytesOf I) last (lastOf (rdOp ops i).d) ind) (TR (rdOp ops i)) e w' → e = .returned (.tuple #[]) ∧ St w0 w' b I d0 d1 ops (i + 1) := by
  obtain ⟨hB, last, ind, out, vI, vO, t, hA, la, hr, a1, a2, l1, l2, l3⟩ := h
  have hd : ops.drop i = rdOp ops i :: ops.drop (i + 1) := by
    rw [List.drop_eq_getElem_cons hi]
    congr 1
    simp [rdOp, List.getD_eq_getElem?_getD, hi]
  rw [hd] at hr
  cases hr with
  | cons _ _ _ _ hok hr =>
    have hz : (bytesOf I).length = I.size := bytesOf_length I
    refine ⟨last, ind, out, ⟨⟨vI, vO, hA⟩, la, hok, hB, by omega⟩, ?_⟩
    rintro e w' ⟨rfl, ⟨r, vI', vO', ⟨q1, q2, q3⟩, hA'⟩, hB'⟩
    have p1 := preOf_le (I := bytesOf I) (last := last) (nx := lastOf (rdOp ops i).d) (ind := ind)
    have p2 := indOf_le (I := bytesOf I) (last := last) (nx := lastOf (rdOp ops i).d) (ind := ind)
    refine ⟨rfl, hB', _, _, _, vI', vO', t, hA', lastOf_la _, hr, indOf_asc a1 hIa, (a2.append (preOf_asc a1 hIa)).append q1, by omega, by rw [List.length_append, List.length_append]; omega, fun _ => ?_⟩
    by_cases h0 : i = 0
    · subst h0
      have := q3 (bal_head hb _ _ hd)
      intro e
      rw [List.append_eq_nil_iff] at e
      exact this e.2
    · intro e
      rw [List.append_eq_nil_iff, List.append_eq_nil_iff] at e
      exact l3 (by omega) e.1.1

end Go.Proofs.YticfdfomlcohpaaDoor.Te
