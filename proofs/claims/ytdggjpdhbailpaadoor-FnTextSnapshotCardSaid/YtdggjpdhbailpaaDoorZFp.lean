/- few and blank: what they answer, at every list and text. Conditions: none. -/
import Derived.Test.YtdggjpdhbailpaaDoorZFw
import Derived.Test.YtdggjpdhbailpaaDoorZIt
import Derived.Test.YtdggjpdhbailpaaDoorZZt
namespace Go.Proofs.YtdggjpdhbailpaaDoor.Fp
open Go.RowKit Go.Proofs.YtdggjpdhbailpaaDoorW.PrintWords Go.Proofs.YtdggjpdhbailpaaDoorW.PrintLast Go.Proofs.YtdggjpdhbailpaaDoorW.PrintMore Go.Proofs.YtdggjpdhbailpaaDoor.Fw Go.Proofs.YtdggjpdhbailpaaDoor.It Go.Proofs.YtdggjpdhbailpaaDoor.Zt Go.Proofs.YtdggjpdhbailpaaDoor.PFnTextAscii

def Sh (x : S76) : Prop := x.f0.size ≤ 1000 ∧ x.f3.size ≤ 1000

theorem loop_ev (l : List S76) (D : Nat) (B : Int) (hB : 0 ≤ B) (hB2 : B ≤ 2000000000) (hD : 1 ≤ D) (hD2 : D ≤ 20)
    (hk : ∀ q : List S76, ∃ K n, (∀ k, K ≤ k → laws_size.f k q ((D : Int) - 1) = some n) ∧ 0 ≤ n ∧ n ≤ B ∧ (n ≤ 300 → (count q : Int) ≤ n ∧ All Sh q)) :
    ∀ (m i : Nat) (n0 : Int), i + m = l.length → (i : Int) ≤ n0 → n0 ≤ 1048577 + B →
    ∃ K n, (∀ k, K ≤ k → laws_size.l0 k (D : Int) n0 l (l.length : Int) (i : Int) = some n) ∧ 0 ≤ n ∧ (n ≤ 1073741824 ∨ n ≤ 1048577 + B) ∧ (n ≤ 300 → n0 + (count (l.drop i) : Int) ≤ n ∧ All Sh (l.drop i)) := by
  intro m
  induction m with
  | zero =>
    intro i n0 hi h1 h2
    have hd : l.drop i = [] := List.drop_eq_nil_of_le (by omega)
    refine ⟨1, n0, fun k hk => ?_, by omega, .inr h2, fun _ => ?_⟩
    · obtain ⟨k, rfl⟩ : ∃ q, k = q + 1 := ⟨k - 1, by omega⟩
      simp only [laws_size.l0]
      rw [if_neg (by omega)]
    · rw [hd]
      exact ⟨by simp [count], all_nil _⟩
  | succ m ih =>
    intro i n0 hi h1 h2
    have hlt : i < l.length := by omega
    obtain ⟨x, hx⟩ : ∃ x, x = rd_T76 l (i : Int) := ⟨_, rfl⟩
    have hd : l.drop i = x :: l.drop (i + 1) := by
      rw [List.drop_eq_getElem_cons hlt, hx]
      congr 1
      simp [rd_T76, List.getD_eq_getElem?_getD, hlt]
    by_cases c1 : (x.f0.size : Int) > 1000
    · refine ⟨1, 1073741824, fun k hk => ?_, by omega, .inl (by omega), fun h => by omega⟩
      obtain ⟨k, rfl⟩ : ∃ q, k = q + 1 := ⟨k - 1, by omega⟩
      simp only [laws_size.l0]
      rw [← hx, if_pos (by omega), if_pos (by omega), if_pos (by omega), if_pos c1]
    by_cases c2 : (x.f3.size : Int) > 1000
    · refine ⟨1, 1073741824, fun k hk => ?_, by omega, .inl (by omega), fun h => by omega⟩
      obtain ⟨k, rfl⟩ : ∃ q, k = q + 1 := ⟨k - 1, by omega⟩
      simp only [laws_size.l0]
      rw [← hx, if_pos (by omega), if_pos (by omega), if_pos (by omega), if_neg c1, if_pos c2]
    by_cases c3 : n0 > 1048576
    · refine ⟨1, 1073741824, fun k hk => ?_, by omega, .inl (by omega), fun h => by omega⟩
      obtain ⟨k, rfl⟩ : ∃ q, k = q + 1 := ⟨k - 1, by omega⟩
      simp only [laws_size.l0]
      rw [← hx, if_pos (by omega), if_pos (by omega), if_pos (by omega), if_neg c1, if_neg c2, if_pos c3]
    obtain ⟨K1, n1, k1, k2, k3, k4⟩ := hk x.f8
    obtain ⟨K2, n2, p1, p2, p3, p4⟩ := ih (i + 1) (n0 + (1 + n1)) (by omega) (by omega) (by omega)
    refine ⟨K1 + K2 + 1, n2, fun k hk => ?_, p2, p3, fun h => ?_⟩
    · obtain ⟨k, rfl⟩ : ∃ q, k = q + 1 := ⟨k - 1, by omega⟩
      simp only [laws_size.l0]
      rw [← hx, if_pos (by omega), if_pos (by omega), if_pos (by omega), if_neg c1, if_neg c2, if_neg c3]
      have w1 : wrap64 ((D : Int) - 1) = (D : Int) - 1 := by unfold wrap64; omega
      rw [w1, k1 k (by omega)]
      simp only [Option.bind_some]
      have w2 : wrap64 (n0 + wrap64 (1 + n1)) = n0 + (1 + n1) := by
        have : wrap64 (1 + n1) = 1 + n1 := by unfold wrap64; omega
        rw [this]
        unfold wrap64
        omega
      have w3 : wrap64 ((i : Int) + 1) = ((i + 1 : Nat) : Int) := by unfold wrap64; omega
      rw [w2, w3]
      exact p1 k (by omega)
    · have q := p4 h
      have hn1 : n1 ≤ 300 := by have := q.1; omega
      have r := k4 hn1
      rw [hd, count_cons, all_cons]
      exact ⟨by have := q.1; have := r.1; omega, ⟨by omega, by omega⟩, r.2, q.2⟩

theorem size_ev : ∀ (D : Nat), D ≤ 20 → ∀ l : List S76, ∃ K n, (∀ k, K ≤ k → laws_size.f k l (D : Int) = some n) ∧ 0 ≤ n ∧ n ≤ 1073741824 + 2000000 * (D : Int) ∧ (n ≤ 300 → (count l : Int) ≤ n ∧ All Sh l) := by
  intro D
  induction D with
  | zero =>
    intro _ l
    cases l with
    | nil =>
      refine ⟨3, 0, fun k hk => ?_, by omega, by omega, fun _ => ⟨by simp [count], all_nil _⟩⟩
      obtain ⟨k, rfl⟩ : ∃ q, k = q + 3 := ⟨k - 3, by omega⟩
      simp [laws_size.f, laws_size.j0, laws_size.l0]
    | cons x r =>
      refine ⟨2, 1073741824, fun k hk => ?_, by omega, by omega, fun h => by omega⟩
      obtain ⟨k, rfl⟩ : ∃ q, k = q + 2 := ⟨k - 2, by omega⟩
      simp only [laws_size.f]
      rw [if_pos (by rfl)]
      simp only [laws_size.j0]
      rw [if_pos (by simp)]
  | succ D ih =>
    intro hD l
    have hk : ∀ q : List S76, ∃ K n, (∀ k, K ≤ k → laws_size.f k q (((D + 1 : Nat) : Int) - 1) = some n) ∧ 0 ≤ n ∧ n ≤ 1073741824 + 2000000 * (D : Int) ∧ (n ≤ 300 → (count q : Int) ≤ n ∧ All Sh q) := by
      intro q
      obtain ⟨K, n, a, b⟩ := ih (by omega) q
      exact ⟨K, n, fun k h => by rw [show ((D + 1 : Nat) : Int) - 1 = (D : Int) by omega]; exact a k h, b⟩
    obtain ⟨K, n, a, b, c, d⟩ := loop_ev l (D + 1) (1073741824 + 2000000 * (D : Int)) (by omega) (by omega) (by omega) hD hk l.length 0 0 (by omega) (by omega) (by omega)
    refine ⟨K + 2, n, fun k hk2 => ?_, b, by omega, fun h => ?_⟩
    · obtain ⟨k, rfl⟩ : ∃ q, k = q + 2 := ⟨k - 2, by omega⟩
      simp only [laws_size.f]
      rw [if_neg (by omega)]
      simp only [laws_size.j0]
      rw [if_neg (by simp)]
      exact a k (by omega)
    · have q := d h
      rw [List.drop_zero] at q
      exact ⟨by have := q.1; omega, q.2⟩

theorem few_ok (l : List S76) : ∃ b : Bool, (b = true → count l ≤ 300 ∧ All Sh l) ∧ ∀ (A : Option Addr) (c : Nat) (w : World), Kd.C k76 w A l.length l → l.length ≤ c →
    Calls Tryd.prog 9 #[.slice A l.length c, .int .i64 300, .int .i64 20] w fun e w' => e = .returned (.bool b) ∧ Below w.heap.size w w' := by
  obtain ⟨K, n, a, b, c, d⟩ := size_ev 20 (Nat.le_refl _) l
  refine ⟨decide (n ≤ 300), fun h => ?_, fun A cc w hr hc => ?_⟩
  · have q := d (of_decide_eq_true h)
    have := of_decide_eq_true h
    exact ⟨by have := q.1; omega, q.2⟩
  · refine laws_few.calls K A cc l 300 20 _ w hr hc ?_
    unfold laws_few.f
    have h := a K (Nat.le_refl _)
    rw [show ((20 : Nat) : Int) = 20 from rfl] at h
    rw [h]
    rfl

theorem blank_l (s : ByteArray) (hs : s.size < 9223372036854775807) : ∀ (d k i : Nat), i + d = s.size → d < k → (∀ q, q < i → bt s (q : Int) = 32 ∨ bt s (q : Int) = 9) →
    ∃ b : Bool, laws_blank.l0 k s (i : Int) = some b ∧ (b = true → s.size ≤ 8 ∧ ∀ q, q < s.size → bt s (q : Int) = 32 ∨ bt s (q : Int) = 9) := by
  intro d
  induction d with
  | zero =>
    intro k i hi hk hq
    obtain ⟨k, rfl⟩ : ∃ m, k = m + 1 := ⟨k - 1, by omega⟩
    refine ⟨decide ((s.size : Int) ≤ 8), ?_, fun h => ⟨by have := of_decide_eq_true h; omega, fun q h2 => hq q (by omega)⟩⟩
    simp only [laws_blank.l0]
    rw [if_neg (by omega)]
  | succ d ih =>
    intro k i hi hk hq
    obtain ⟨k, rfl⟩ : ∃ m, k = m + 1 := ⟨k - 1, by omega⟩
    have hw : wrap64 ((i : Int) + 1) = ((i + 1 : Nat) : Int) := by unfold wrap64; omega
    simp only [laws_blank.l0]
    rw [if_pos (by omega), if_pos (by omega), hw]
    have hn : bt s (i : Int) = 32 ∨ bt s (i : Int) = 9 → ∃ b : Bool, laws_blank.l0 k s ((i + 1 : Nat) : Int) = some b ∧ (b = true → s.size ≤ 8 ∧ ∀ q, q < s.size → bt s (q : Int) = 32 ∨ bt s (q : Int) = 9) := fun h =>
      ih k (i + 1) (by omega) (by omega) (fun q h2 => by
        by_cases e : q = i
        · subst e; exact h
        · exact hq q (by omega))
    by_cases h32 : bt s (i : Int) = 32
    · rw [if_pos h32]
      exact hn (.inl h32)
    rw [if_neg h32]
    by_cases h9 : bt s (i : Int) = 9
    · rw [if_pos h9]
      exact hn (.inr h9)
    rw [if_neg h9]
    exact ⟨false, rfl, fun h => by cases h⟩

theorem blank_ok (s : ByteArray) (hs : s.size < 9223372036854775807) : ∃ b : Bool, (b = true → s.size ≤ 8 ∧ Blanks s ∧ ∀ x ∈ bytesOf s, 0 ≤ x ∧ x < 128) ∧ ∀ w : World, Calls Tryd.prog 10 #[.string s] w fun e w' => e = .returned (.bool b) ∧ Drawn0 w w' := by
  obtain ⟨b, h1, h2⟩ := blank_l s hs s.size (s.size + 1) 0 (by omega) (by omega) (fun q h => absurd h (Nat.not_lt_zero q))
  refine ⟨b, fun h => ?_, fun w => laws_blank.calls (s.size + 1) s b w h1⟩
  obtain ⟨h3, h4⟩ := h2 h
  refine ⟨h3, fun i hi => ?_, fun x hx => ?_⟩
  · have := h4 i hi
    simp only [bt, Int.toNat_natCast, hi, dif_pos] at this
    omega
  · obtain ⟨q, hq, e⟩ := List.mem_iff_getElem.1 hx
    rw [bytesOf_length] at hq
    have h5 : (bytesOf s)[q]'(by rw [bytesOf_length]; omega) = bt s (q : Int) := by
      have := rd_bytesOf s (q : Int)
      rw [← this]
      simp [rd, List.getD_eq_getElem?_getD, bytesOf_length, hq]
    rw [h5] at e
    have := h4 q hq
    omega

end Go.Proofs.YtdggjpdhbailpaaDoor.Fp
