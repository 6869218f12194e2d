/- prepareNext: what it writes and what it makes of the indents, at whatever last type and next type. Conditions: the encoder is the call's own; an indent that is cut is there. -/
import Derived.Test.YticfdfomlcohpaaDoorZPn1
namespace Go.Proofs.YticfdfomlcohpaaDoor.Pn2
open Go.RowKit Go.Proofs.YticfdfomlcohpaaDoorW.PrintWords Go.Proofs.YticfdfomlcohpaaDoorW.PrintLast Go.Proofs.YticfdfomlcohpaaDoorW.PrintMore Go.Proofs.YticfdfomlcohpaaDoor.As1 Go.Proofs.YticfdfomlcohpaaDoor.En0 Go.Proofs.YticfdfomlcohpaaDoor.Bl Go.Proofs.YticfdfomlcohpaaDoor.Pn Go.Proofs.YticfdfomlcohpaaDoor.PFnTextAscii

/-- What prepareNext writes. -/
def preOf (I : List Int) (last nx : Int) (ind : List Int) : List Int :=
  if I = [] then (if (last = 2 ∨ last = 8) ∧ nx = 1 then [32] else [])
  else if last = 1 then [32] else if last = 4 ∧ nx ≠ 8 then [10] ++ (ind ++ I)
  else if last = 2 ∨ last = 8 then [10] ++ indOf I last nx ind else []

def Asc (l : List Int) : Prop := ∀ x ∈ l, 0 ≤ x ∧ x < 128
theorem Asc.append {a b : List Int} (h : Asc a) (k : Asc b) : Asc (a ++ b) := fun x hx => (List.mem_append.1 hx).elim (h x) (k x)
theorem indOf_asc {I : List Int} {last nx : Int} {ind : List Int} (h : Asc ind) (k : Asc I) : Asc (indOf I last nx ind) := by
  unfold indOf
  split
  · exact h
  split
  · exact h
  split
  · exact h.append k
  split
  · exact fun x hx => h x (List.mem_of_mem_take hx)
  · exact h
theorem indOf_le {I : List Int} {last nx : Int} {ind : List Int} : (indOf I last nx ind).length ≤ ind.length + I.length := by
  unfold indOf
  split
  · omega
  split
  · omega
  split
  · simp
  split
  · simp; omega
  · omega
theorem preOf_asc {I : List Int} {last nx : Int} {ind : List Int} (h : Asc ind) (k : Asc I) : Asc (preOf I last nx ind) := by
  have h10 : Asc [10] := by intro x hx; simp at hx; subst hx; decide
  have h32 : Asc [32] := by intro x hx; simp at hx; subst hx; decide
  have h0 : Asc [] := by intro x hx; cases hx
  unfold preOf
  split
  · split
    · exact h32
    · exact h0
  split
  · exact h32
  split
  · exact h10.append (h.append k)
  split
  · exact h10.append (indOf_asc h k)
  · exact h0
theorem preOf_le {I : List Int} {last nx : Int} {ind : List Int} : (preOf I last nx ind).length ≤ 1 + ind.length + I.length := by
  have := indOf_le (I := I) (last := last) (nx := nx) (ind := ind)
  unfold preOf
  split
  · split
    · simp; omega
    · simp
  split
  · simp; omega
  split
  · simp; omega
  split
  · simp; omega
  · simp

theorem pn (b : Nat) (last nx : Int) (vI vO : Value) (I : ByteArray) (d0 d1 : Int) (asc : Bool) (ind out : List Int) (w0 w : World) (hla : last = 0 ∨ last = 1 ∨ last = 2 ∨ last = 4 ∨ last = 8) (hnx : nx = 1 ∨ nx = 2 ∨ nx = 4 ∨ nx = 8) (hok : okAt (bytesOf I) last nx ind)
    (hB : Below w0.heap.size w0 w) (h : At w w0.heap.size b I d0 d1 asc last vI vO ind out) (hl : out.length + 4 * ind.length + 4 * I.size + 10 ≤ 140737488355328) :
    Calls Tryd.prog 77 #[.pointer (some ⟨b, 0, none⟩), .int .u8 nx] w fun e w' => e = .returned (.tuple #[]) ∧
      (∃ vI vO, At w' w0.heap.size b I d0 d1 asc nx vI vO (indOf (bytesOf I) last nx ind) (out ++ preOf (bytesOf I) last nx ind)) ∧ Below w0.heap.size w0 w' := by
  have hz : (bytesOf I).length = I.size := bytesOf_length I
  by_cases hI : I.size = 0
  · have hn : bytesOf I = [] := List.eq_nil_of_length_eq_zero (hz.trans hI)
    have e1 : indOf (bytesOf I) last nx ind = ind := by unfold indOf; rw [if_pos hn]
    rw [e1]
    have e2 : preOf (bytesOf I) last nx ind = if (last = 2 ∨ last = 8) ∧ nx = 1 then [32] else [] := by unfold preOf; rw [if_pos hn]
    rw [e2]
    by_cases hf : last = 2 ∨ last = 8
    · have f1 : (Go.bits .and .u8 last 10 != 0) = true := by rcases hf with rfl | rfl <;> decide
      by_cases h1 : nx = 1
      · subst h1
        rw [if_pos ⟨hf, rfl⟩]
        exact pn_space b last vI vO I d0 d1 asc ind out w0 w hI f1 hB h hl
      · rw [if_neg (fun h => h1 h.2), List.append_nil]
        exact pn_none1 b last nx vI vO I d0 d1 asc ind out w0 w hI f1 (beq_eq_false_iff_ne.mpr h1) hB h hl
    · have f1 : (Go.bits .and .u8 last 10 != 0) = false := by rcases hla with rfl | rfl | rfl | rfl | rfl <;> first | decide | omega
      rw [if_neg (fun h => hf h.1), List.append_nil]
      exact pn_none0 b last nx vI vO I d0 d1 asc ind out w0 w hI f1 hB h hl
  · have hn : bytesOf I ≠ [] := fun e => hI (by rw [← hz, e]; rfl)
    by_cases l1 : last = 1
    · subst l1
      simp only [preOf, indOf, if_neg hn, if_true]
      exact pn_name b nx vI vO I d0 d1 asc ind out w0 w hI hB h hl
    by_cases l4 : last = 4
    · have k2 : ¬ (last = 2 ∨ last = 8) := by omega
      have k3 : ¬ ((last = 2 ∨ last = 8) ∧ nx = 8) := fun h => k2 h.1
      by_cases n8 : nx = 8
      · have k1 : ¬ (last = 4 ∧ nx ≠ 8) := fun h => h.2 n8
        simp only [preOf, indOf, if_neg hn, if_neg l1, if_neg k1, if_neg k2, if_neg k3, List.append_nil]
        subst n8
        subst l4
        exact pn_none3 b vI vO I d0 d1 asc ind out w0 w hI (by decide) hB h hl
      · have k1 : last = 4 ∧ nx ≠ 8 := ⟨l4, n8⟩
        simp only [preOf, indOf, if_neg hn, if_neg l1, if_pos k1]
        subst l4
        have hh := pn_open b nx vI vO I d0 d1 asc ind out w0 w hI (by simpa using n8) hB h hl
        simpa only [List.append_assoc] using hh
    have k1 : ¬ (last = 4 ∧ nx ≠ 8) := fun h => l4 h.1
    by_cases hf : last = 2 ∨ last = 8
    · have f1 : (Go.bits .and .u8 last 10 != 0) = true := by rcases hf with rfl | rfl <;> decide
      by_cases n8 : nx = 8
      · have k2 : (last = 2 ∨ last = 8) ∧ nx = 8 := ⟨hf, n8⟩
        simp only [preOf, indOf, if_neg hn, if_neg l1, if_neg k1, if_pos hf, if_pos k2, hz]
        subst n8
        have hc : I.size ≤ ind.length := by
          rcases hok with e | e | e
          · exact absurd e hn
          · exact absurd ⟨hf, rfl⟩ e
          · rwa [hz] at e
        have hh := pn_cut b last vI vO I d0 d1 asc ind out w0 w hI (beq_eq_false_iff_ne.mpr l1) (beq_eq_false_iff_ne.mpr l4) f1 hB h hl hc
        simpa only [List.append_assoc] using hh
      · have k2 : ¬ ((last = 2 ∨ last = 8) ∧ nx = 8) := fun h => n8 h.2
        simp only [preOf, indOf, if_neg hn, if_neg l1, if_neg k1, if_pos hf, if_neg k2]
        have hh := pn_line b last nx vI vO I d0 d1 asc ind out w0 w hI (beq_eq_false_iff_ne.mpr l1) (beq_eq_false_iff_ne.mpr l4) f1 (beq_eq_false_iff_ne.mpr n8) hB h hl
        simpa only [List.append_assoc] using hh
    · have l0 : last = 0 := by omega
      have k2 : ¬ ((last = 2 ∨ last = 8) ∧ nx = 8) := fun h => hf h.1
      simp only [preOf, indOf, if_neg hn, if_neg l1, if_neg k1, if_neg hf, if_neg k2, List.append_nil]
      subst l0
      exact pn_none2 b nx vI vO I d0 d1 asc ind out w0 w hI (by decide) hB h hl

end Go.Proofs.YticfdfomlcohpaaDoor.Pn2
