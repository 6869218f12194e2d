/- The plain law: both ways of escaping bytes give the same text, and it is ASCII that can be seen. -/
import Derived.Test.YticfdfomlcohpaaGreatDoorMb
import Derived.Test.YticfdfomlcohpaaGreatDoorPCEscapex
namespace Go.Proofs.YticfdfomlcohpaaGreatDoor.Dbp
open Go.RowKit Go.Proofs.YticfdfomlcohpaaGreatDoorW.PrintWords Go.Proofs.YticfdfomlcohpaaGreatDoorW.PrintLast Go.Proofs.YticfdfomlcohpaaGreatDoorW.PrintMore

def oct (c : Int) : List Int := [92, (48 + c / 64) % 256, (48 + Go.bits .and .u8 (c / 8) 7) % 256, (48 + Go.bits .and .u8 c 7) % 256]
def esc1 (c : Int) : List Int :=
  if c = 10 then [92, 110] else if c = 13 then [92, 114] else if c = 9 then [92, 116] else if c = 34 then [92, 34] else if c = 39 then [92, 39] else if c = 92 then [92, 92]
  else if 32 ≤ c ∧ c ≤ 126 then [c] else oct c
def escL (l : List Int) : List Int := l.flatMap esc1

theorem esc1_len (c : Int) : (esc1 c).length ≤ 4 := by
  unfold esc1 oct
  repeat' split
  all_goals simp

theorem escL_len (l : List Int) : (escL l).length ≤ 4 * l.length := by
  induction l with
  | nil => simp [escL]
  | cons c r ih =>
    have := esc1_len c
    simp only [escL, List.flatMap_cons, List.length_append, List.length_cons] at *
    omega

theorem wrap_succ (i : Nat) (h : i ≤ 1000000) : wrap64 ((i : Int) + 1) = ((i + 1 : Nat) : Int) := by
  unfold wrap64
  omega

theorem rd_nat (l : List Int) (i : Nat) : rd l (i : Int) = l.getD i 0 := by simp [rd]

theorem step_m (k : Nat) (x l : List Int) (i : Nat) (hi : i < l.length) (hl : l.length ≤ 1000000) (hx : x.length ≤ 10000000) :
    Mb.defval_marshalBytes.l0 (k + 1) x l (l.length : Int) (i : Int) = Mb.defval_marshalBytes.l0 k (x ++ esc1 (l.getD i 0)) l (l.length : Int) ((i + 1 : Nat) : Int) := by
  simp only [Mb.defval_marshalBytes.l0]
  rw [if_pos (by omega), if_pos (by omega), if_pos (by omega), wrap_succ i (by omega), rd_nat]
  generalize l.getD i 0 = c
  unfold esc1
  by_cases h1 : c = 10
  · rw [if_pos h1, if_pos h1, if_pos (by omega)]; rfl
  rw [if_neg h1, if_neg h1]
  by_cases h2 : c = 13
  · rw [if_pos h2, if_pos h2, if_pos (by omega)]; rfl
  rw [if_neg h2, if_neg h2]
  by_cases h3 : c = 9
  · rw [if_pos h3, if_pos h3, if_pos (by omega)]; rfl
  rw [if_neg h3, if_neg h3]
  by_cases h4 : c = 34
  · rw [if_pos h4, if_pos h4, if_pos (by omega)]; rfl
  rw [if_neg h4, if_neg h4]
  by_cases h5 : c = 39
  · rw [if_pos h5, if_pos h5, if_pos (by omega)]; rfl
  rw [if_neg h5, if_neg h5]
  by_cases h6 : c = 92
  · rw [if_pos h6, if_pos h6, if_pos (by omega)]; rfl
  rw [if_neg h6, if_neg h6]
  simp only [Option.bind_some]
  by_cases h7 : c ≥ 32
  · rw [if_pos h7]
    by_cases h8 : c ≤ 126
    · rw [if_pos h8, if_pos (by omega), if_pos ⟨h7, h8⟩]
    · rw [if_neg h8, if_pos (by simp; omega), if_neg (fun h => h8 h.2)]; rfl
  · rw [if_neg h7, if_pos (by simp; omega), if_neg (fun h => h7 h.1)]; rfl

theorem drop_cons (l : List Int) (i : Nat) (hi : i < l.length) : l.drop i = l.getD i 0 :: l.drop (i + 1) := by
  rw [List.drop_eq_getElem_cons hi]
  simp [List.getD_eq_getElem?_getD, hi]

theorem marsh (l : List Int) (hl : l.length ≤ 2000) (d : Nat) : ∀ (k i : Nat) (x : List Int), i + d = l.length → d < k → x.length ≤ 4 * i →
    Mb.defval_marshalBytes.l0 k x l (l.length : Int) (i : Int) = some (strOfNums (x ++ escL (l.drop i)), true) := by
  induction d with
  | zero =>
    intro k i x hi hk hx
    obtain ⟨k, rfl⟩ : ∃ m, k = m + 1 := ⟨k - 1, by omega⟩
    simp only [Mb.defval_marshalBytes.l0]
    rw [if_neg (by omega), List.drop_of_length_le (by omega)]
    simp [escL]
  | succ d ih =>
    intro k i x hi hk hx
    obtain ⟨k, rfl⟩ : ∃ m, k = m + 1 := ⟨k - 1, by omega⟩
    have h4 := esc1_len (l.getD i 0)
    rw [step_m k x l i (by omega) (by omega) (by omega), ih k (i + 1) _ (by omega) (by omega) (by rw [List.length_append]; omega), drop_cons l i (by omega)]
    simp [escL, List.append_assoc]

theorem marsh_f (l : List Int) (hl : l.length ≤ 2000) : Mb.defval_marshalBytes.f (l.length + 1) l = some (strOfNums (escL l), true) := by
  have h := marsh l hl l.length (l.length + 1) 0 [] (by omega) (by omega) (by simp)
  simpa [Mb.defval_marshalBytes.f] using h

theorem strOfNums_append (x y : List Int) : strOfNums (x ++ y) = strOfNums x ++ strOfNums y := by
  apply ByteArray.ext
  simp [strOfNums]
theorem strOfNums_size (x : List Int) : (strOfNums x).size = x.length := by
  show (strOfNums x).data.size = _
  simp [strOfNums]

theorem step_c (k : Nat) (x l : List Int) (i : Nat) (hi : i < l.length) (hl : l.length ≤ 1000000) (hx : x.length ≤ 10000000) :
    ∃ k', k ≤ k' ∧ PCEscape.spec_CEscape.l0 (k + 2) l (strOfNums x) (i : Int) = PCEscape.spec_CEscape.l0 k' l (strOfNums (x ++ esc1 (l.getD i 0))) ((i + 1 : Nat) : Int) := by
  rw [strOfNums_append]
  simp only [PCEscape.spec_CEscape.l0]
  rw [if_pos (by omega), if_pos (by omega), wrap_succ i (by omega), rd_nat]
  generalize l.getD i 0 = c
  have hs := strOfNums_size x
  unfold esc1
  by_cases h1 : c = 10
  · exact ⟨k + 1, by omega, by rw [if_pos h1, if_pos h1, if_pos (by omega)]; rfl⟩
  rw [if_neg h1, if_neg h1]
  by_cases h2 : c = 13
  · exact ⟨k + 1, by omega, by rw [if_pos h2, if_pos h2, if_pos (by omega)]; rfl⟩
  rw [if_neg h2, if_neg h2]
  by_cases h3 : c = 9
  · exact ⟨k + 1, by omega, by rw [if_pos h3, if_pos h3, if_pos (by omega)]; rfl⟩
  rw [if_neg h3, if_neg h3]
  refine ⟨k, Nat.le_refl _, ?_⟩
  simp only [PCEscape.spec_CEscape.j1, Option.bind_some, PCEscape.spec_octalByte.f]
  rw [wrap_succ i (by omega)]
  by_cases h4 : c = 34
  · subst h4; simp only [if_true, strOfNums_size, hs, List.length_cons, List.length_nil]; rw [if_pos (by omega)]
  rw [if_neg h4, if_neg h4]
  by_cases h5 : c = 39
  · subst h5; simp only [if_true, strOfNums_size, hs, List.length_cons, List.length_nil]; rw [if_pos (by omega)]
  rw [if_neg h5, if_neg h5]
  by_cases h6 : c = 92
  · subst h6; simp only [BEq.rfl, if_true, strOfNums_size, hs, List.length_cons, List.length_nil]; rw [if_pos (by omega)]
  rw [if_neg h6, if_neg (by simpa using h6)]
  simp only [strOfNums_size, hs, List.length_cons, List.length_nil]
  by_cases h7 : c ≥ 32
  · rw [if_pos h7]
    by_cases h8 : c ≤ 126
    · rw [if_pos (by omega), if_pos (by omega), if_pos ⟨h7, h8⟩]
    · rw [if_neg (by omega), if_pos (by omega), if_neg (fun h => h8 h.2)]; rfl
  · rw [if_neg h7, if_pos (by omega), if_neg (fun h => h7 h.1)]; rfl

theorem cesc (l : List Int) (hl : l.length ≤ 2000) (d : Nat) : ∀ (k i : Nat) (x : List Int), i + d = l.length → 2 * d < k → x.length ≤ 4 * i →
    PCEscape.spec_CEscape.l0 k l (strOfNums x) (i : Int) = some (strOfNums (x ++ escL (l.drop i))) := by
  induction d with
  | zero =>
    intro k i x hi hk hx
    obtain ⟨k, rfl⟩ : ∃ m, k = m + 1 := ⟨k - 1, by omega⟩
    simp only [PCEscape.spec_CEscape.l0]
    rw [if_neg (by omega), List.drop_of_length_le (by omega)]
    simp [escL]
  | succ d ih =>
    intro k i x hi hk hx
    obtain ⟨k, rfl⟩ : ∃ m, k = m + 2 := ⟨k - 2, by omega⟩
    have h4 := esc1_len (l.getD i 0)
    obtain ⟨k', hk', e⟩ := step_c k x l i (by omega) (by omega) (by omega)
    rw [e, ih k' (i + 1) _ (by omega) (by omega) (by rw [List.length_append]; omega), drop_cons l i (by omega)]
    simp [escL, List.append_assoc]

theorem cesc_f (l : List Int) (hl : l.length ≤ 2000) : PCEscape.spec_CEscape.f (2 * l.length + 1) l = some (strOfNums (escL l)) := by
  have h := cesc l hl l.length (2 * l.length + 1) 0 [] (by omega) (by omega) (by simp)
  rw [List.nil_append, List.drop_zero] at h
  exact h

/-- Each letter written can be seen. -/
theorem esc1_seen (c : Int) (h0 : 0 ≤ c) (h1 : c < 256) : ∀ x ∈ esc1 c, 32 ≤ x ∧ x ≤ 126 := by
  have hb : ∀ c : Nat, c < 256 → ((oct (c : Int)).all fun x => decide (32 ≤ x ∧ x ≤ 126)) = true := by decide +kernel
  intro x hx
  unfold esc1 at hx
  repeat' split at hx
  · simp at hx; omega
  · simp at hx; omega
  · simp at hx; omega
  · simp at hx; omega
  · simp at hx; omega
  · simp at hx; omega
  · simp at hx; omega
  · have := hb c.toNat (by omega)
    rw [Int.toNat_of_nonneg h0] at this
    have := List.all_eq_true.1 this x hx
    simpa using this

theorem escL_seen (l : List Int) (hl : ∀ c ∈ l, 0 ≤ c ∧ c < 256) : ∀ x ∈ escL l, 32 ≤ x ∧ x ≤ 126 := by
  intro x hx
  obtain ⟨c, hc, hx⟩ := List.mem_flatMap.1 hx
  exact esc1_seen c (hl c hc).1 (hl c hc).2 x hx

theorem bytesOf_range (s : ByteArray) : ∀ c ∈ bytesOf s, 0 ≤ c ∧ c < 256 := by
  intro c hc
  simp only [bytesOf, List.mem_map] at hc
  obtain ⟨b, _, rfl⟩ := hc
  have := b.toNat_lt
  omega

theorem bt_strOfNums (x : List Int) (i : Int) (h : i.toNat < x.length) (hr : ∀ c ∈ x, 0 ≤ c ∧ c < 256) : bt (strOfNums x) i = x.getD i.toNat 0 := by
  have hs : i.toNat < (strOfNums x).size := by rw [strOfNums_size]; exact h
  unfold bt
  rw [dif_pos hs]
  have hg : x.getD i.toNat 0 = x[i.toNat] := by simp [List.getD_eq_getElem?_getD, h]
  have hc := hr x[i.toNat] (List.getElem_mem h)
  rw [hg]
  have : (strOfNums x)[i.toNat] = UInt8.ofNat (x[i.toNat]).toNat := by
    show (strOfNums x).data[i.toNat] = _
    simp [strOfNums]
  rw [this]
  simp
  omega

theorem out_seen (b : ByteArray) (i : Int) (h0 : 0 ≤ i) (h : i < (strOfNums (escL (bytesOf b))).size) : 32 ≤ bt (strOfNums (escL (bytesOf b))) i ∧ bt (strOfNums (escL (bytesOf b))) i ≤ 126 := by
  have hseen := escL_seen (bytesOf b) (bytesOf_range b)
  rw [strOfNums_size] at h
  have hl : i.toNat < (escL (bytesOf b)).length := by omega
  rw [bt_strOfNums _ _ hl (fun c hc => by have := hseen c hc; omega)]
  refine hseen _ ?_
  rw [List.getD_eq_getElem?_getD, List.getElem?_eq_getElem hl]
  exact List.getElem_mem hl

end Go.Proofs.YticfdfomlcohpaaGreatDoor.Dbp
