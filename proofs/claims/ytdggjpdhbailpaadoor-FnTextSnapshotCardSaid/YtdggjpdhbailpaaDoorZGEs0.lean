/- appendString not as ASCII: the words of its walk, and what it writes (strB). Conditions: each theorem's own. -/
import Derived.Test.YtdggjpdhbailpaaDoorZGUh1
import Derived.Test.YtdggjpdhbailpaaDoorZIx
import Derived.Test.YtdggjpdhbailpaaDoorZShD
import Derived.Lib.QuoteLoop
import Derived.Lib.TrimUEq
namespace Go.Proofs.YtdggjpdhbailpaaDoor.Es
set_option linter.unusedSimpArgs false
set_option linter.unusedVariables false
set_option linter.unusedSectionVars false
open Go.RowKit Go.Proofs.YtdggjpdhbailpaaDoorW.PrintWords Go.Proofs.YtdggjpdhbailpaaDoorW.PrintLast Go.Proofs.YtdggjpdhbailpaaDoorW.PrintMore Go.Proofs.YtdggjpdhbailpaaDoor.As1 Go.Proofs.YtdggjpdhbailpaaDoor.Ix Go.Proofs.YtdggjpdhbailpaaDoor.Uh Go.Proofs.YtdggjpdhbailpaaDoor.PFnTextAscii

section
variable [γ_ : Gho]
/-- A row that is appended to, from w on. -/
structure Qr (w0 w W : World) (P0 : Nat → Prop) (v : Value) (l : List Int) : Prop where
  R : Kd.G (Kd.int .u8) 5 W w0.heap.size (fun k => P0 k ∨ w.heap.size ≤ k) v l
  B : Below w0.heap.size w0 W
  K : Kept w W P0
variable {w0 w W W2 : World} {P0 : Nat → Prop} {v v2 : Value} {l l2 r : List Int}
theorem Qr.below (h : Qr w0 w W P0 v l) (hb : Below W.heap.size W W2) : Qr w0 w W2 P0 v l :=
  ⟨Kd.G_below h.R hb, below_then h.B h.B.size hb, h.K.below hb⟩
theorem Qr.le (h : Qr w0 w W P0 v l) : w.heap.size ≤ W.heap.size := h.K.1
theorem Qr.fresh (h : Qr w0 w W P0 v l) (k : Nat) (hk : W.heap.size ≤ k) : P0 k ∨ w.heap.size ≤ k := .inr (Nat.le_trans h.le hk)
theorem Qr.grown (h : Qr w0 w W P0 v l) (hR : Kd.G (Kd.int .u8) 5 W2 w0.heap.size (fun k => P0 k ∨ w.heap.size ≤ k) v2 l2) (hB : Below w0.heap.size w0 W2) (hG : W.grownBy W2 v.ownBlock) : Qr w0 w W2 P0 v2 l2 :=
  ⟨hR, hB, Kept.of_grown hG h.K (fun k hk => h.R.1 k hk)⟩
theorem Qr.kept (h : Qr w0 w W P0 v l) (hR : Kd.G (Kd.int .u8) 5 W2 w0.heap.size (fun k => (P0 k ∨ w.heap.size ≤ k) ∨ W.heap.size ≤ k) v2 l2) (hB : Below w0.heap.size w0 W2) (hK : Kept W W2 (fun k => P0 k ∨ w.heap.size ≤ k)) : Qr w0 w W2 P0 v2 l2 :=
  ⟨Kd.G_mono hR (fun k hk => hk.elim id (h.fresh k)), hB, h.K.then_ hK (fun _ hk => hk)⟩
theorem Qr.start (hB : Below w0.heap.size w0 w) (ho : Kd.G (Kd.int .u8) 5 w w0.heap.size P0 v l) : Qr w0 w w P0 v l :=
  ⟨Kd.G_mono ho (fun _ h => .inl h), hB, Kept.refl _ _⟩
end

/-- The first rune and its width. -/
theorem dec_facts (s : ByteArray) (h : 0 < s.size) : ∃ r n : Nat, Lib.decodeGo s = (r, n) ∧ 1 ≤ n ∧ n ≤ s.size ∧ r ≤ 1114111 ∧ (r < 128 → n = 1 ∧ bt s 0 = (r : Int)) ∧ (r = 65533 ∧ n = 1 → 128 ≤ bt s 0) := by
  refine ⟨(Utf8.decode s 0).1, (Utf8.decode s 0).2, ?_, Lib.width_pos s 0, Lib.width_le s h, Lib.rune_le s 0, ?_, ?_⟩
  · unfold Lib.decodeGo
    rw [if_neg (by omega)]
  · intro hr
    by_cases ha : (s[0]'h).toNat < 128
    · rw [decode_ascii s 0 h ha] at hr ⊢
      refine ⟨rfl, ?_⟩
      simp [bt, h]
    · exfalso
      have h2 := (decode_high s 0 h (by omega)).1
      omega
  · rintro ⟨h1, h2⟩
    by_cases ha : (s[0]'h).toNat < 128
    · rw [decode_ascii s 0 h ha] at h1
      have h3 : (s[0]'h).toNat = 65533 := h1
      omega
    · simp only [bt, Int.toNat_zero, h, dif_pos]
      omega

/-- A byte that is written as it is. -/
def Plain (c : Int) : Prop := 32 ≤ c ∧ c < 127
theorem bytesOf_take (s : ByteArray) (i : Nat) (h : i ≤ s.size) : bytesOf (s.extract 0 i) = (bytesOf s).take i := by
  have e : (s.extract 0 i).data = s.data.extract 0 i := ByteArray.data_extract
  unfold bytesOf
  rw [e, Array.toList_extract]
  simp [List.extract_eq_take_drop]

theorem ix_l (s : ByteArray) (hs : s.size < 9223372036854775807) : ∀ (d k i : Nat), i + d = s.size → d < k → ∃ j : Nat, text_indexNeedEscapeInString.l0 k s (i : Int) = some (j : Int) ∧ i ≤ j ∧ j ≤ s.size ∧ ∀ q, i ≤ q → q < j → Plain (bt s (q : Int)) := by
  intro d
  induction d with
  | zero =>
    intro k i hi hk
    obtain ⟨k, rfl⟩ : ∃ m, k = m + 1 := ⟨k - 1, by omega⟩
    refine ⟨i, ?_, Nat.le_refl _, by omega, fun q h1 h2 => absurd h1 (by omega)⟩
    simp only [text_indexNeedEscapeInString.l0]
    rw [if_neg (by omega)]
    first | rfl | (congr 1; omega)
  | succ d ih =>
    intro k i hi hk
    obtain ⟨k, rfl⟩ : ∃ m, k = m + 1 := ⟨k - 1, by omega⟩
    have hw : wrap64 ((i : Int) + 1) = ((i + 1 : Nat) : Int) := by unfold wrap64; omega
    obtain ⟨j, hj, h1, h2, h3⟩ := ih k (i + 1) (by omega) (by omega)
    simp only [text_indexNeedEscapeInString.l0]
    rw [if_pos (by omega), if_pos (by omega), hw]
    by_cases hp : Plain (bt s (i : Int))
    · by_cases hq : bt s (i : Int) = 34 ∨ bt s (i : Int) = 39 ∨ bt s (i : Int) = 92
      · refine ⟨i, ?_, Nat.le_refl _, by omega, fun q a b => absurd a (by omega)⟩
        repeat' split
        all_goals first | rfl | (exfalso; omega)
      · refine ⟨j, ?_, by omega, h2, fun q a b => ?_⟩
        · have hp2 : 32 ≤ bt s (i : Int) ∧ bt s (i : Int) < 127 := hp
          repeat' split
          all_goals first | exact hj | (exfalso; omega)
        · by_cases e : q = i
          · subst e; exact hp
          · exact h3 q (by omega) b
    · refine ⟨i, ?_, Nat.le_refl _, by omega, fun q a b => absurd a (by omega)⟩
      have hp2 : ¬ (32 ≤ bt s (i : Int) ∧ bt s (i : Int) < 127) := hp
      repeat' split
      all_goals first | rfl | (exfalso; omega)

/-- How far the text goes without an escape. -/
def ixN (s : ByteArray) : Nat := ((text_indexNeedEscapeInString.l0 (s.size + 1) s 0).getD 0).toNat
theorem ix (s : ByteArray) (hs : s.size < 9223372036854775807) : ixN s ≤ s.size ∧ ∀ w : World, Calls Tryd.prog 90 #[.string s] w fun e w' => e = .returned (.int .i64 (ixN s : Int)) ∧ Drawn0 w w' := by
  obtain ⟨j, hj, _, h2, h3⟩ := ix_l s hs s.size (s.size + 1) 0 (by omega) (by omega)
  have e : ixN s = j := by
    have hj2 : text_indexNeedEscapeInString.l0 (s.size + 1) s 0 = some (j : Int) := hj
    unfold ixN
    rw [hj2]
    rfl
  rw [e]
  exact ⟨h2, fun w => text_indexNeedEscapeInString.calls (s.size + 1) s j w hj⟩

/-- The noughts ahead of a number at base 16. -/
def zf2 (c : Int) : List Int := bytesOf ((⟨#[48, 48]⟩ : ByteArray).extract (1 + (((Lib.bitLen c.toNat : Nat) : Int) - 1).tdiv 4).toNat 2)
def zf4 (c : Int) : List Int := bytesOf ((⟨#[48, 48, 48, 48]⟩ : ByteArray).extract (1 + (((Lib.bitLen c.toNat : Nat) : Int) - 1).tdiv 4).toNat 4)

/-- What one round writes, and what is left. -/
def pcs (t : ByteArray) (r : Int) (n : Nat) : List Int × ByteArray :=
  if r = 65533 ∧ n = 1 then ([92] ++ [120] ++ zf2 (bt t 0) ++ hexL 6 (bt t 0).toNat, t.extract n t.size)
  else if r = 34 then ([92] ++ [34], t.extract n t.size)
  else if r = 92 then ([92] ++ [92], t.extract n t.size)
  else if r = 10 then ([92] ++ [110], t.extract n t.size)
  else if r = 13 then ([92] ++ [114], t.extract n t.size)
  else if r = 9 then ([92] ++ [116], t.extract n t.size)
  else if r = 127 then ([92] ++ [120] ++ zf2 r ++ hexL 6 r.toNat, t.extract n t.size)
  else if r < 32 then ([92] ++ [120] ++ zf2 r ++ hexL 6 r.toNat, t.extract n t.size)
  else if 128 ≤ r ∧ r ≤ 159 then ([92] ++ [117] ++ zf4 r ++ hexL 6 r.toNat, t.extract n t.size)
  else (bytesOf (t.extract 0 (n + ixN (t.extract n t.size))), t.extract (n + ixN (t.extract n t.size)) t.size)
def pc (t : ByteArray) : List Int × ByteArray := pcs t ((Lib.decodeGo t).1 : Int) (Lib.decodeGo t).2
def restB : Nat → ByteArray → List Int
  | 0, _ => []
  | k + 1, t => if t.size = 0 then [] else (pc t).1 ++ restB k (pc t).2
/-- What appendString writes. -/
def headB (s : ByteArray) : List Int := [34] ++ bytesOf (s.extract 0 (ixN s)) ++ restB s.size (s.extract (ixN s) s.size)
def strB (s : ByteArray) : List Int := headB s ++ [34]

/-- r has been written, t is left. -/
def Lft (F0 : List Int) (t : ByteArray) (r : List Int) : Prop := ∃ q, t.size ≤ q ∧ r ++ restB q t = F0
theorem Lft.step {F0 r b : List Int} {t t' : ByteArray} (h : Lft F0 t r) (ht : 0 < t.size) (hp : pc t = (b, t')) (hl : t'.size < t.size) : Lft F0 t' (r ++ b) := by
  obtain ⟨q, hq, he⟩ := h
  obtain ⟨q, rfl⟩ : ∃ m, q = m + 1 := ⟨q - 1, by omega⟩
  rw [restB, if_neg (by omega), hp] at he
  exact ⟨q, by omega, by rw [List.append_assoc]; exact he⟩
theorem Lft.done {F0 r : List Int} {t : ByteArray} (h : Lft F0 t r) (ht : ¬ 0 < t.size) : r = F0 := by
  obtain ⟨q, hq, he⟩ := h
  have h0 : restB q t = [] := by
    cases q with
    | zero => rfl
    | succ q => rw [restB, if_pos (by omega)]
  rw [h0, List.append_nil] at he
  exact he

end Go.Proofs.YtdggjpdhbailpaaDoor.Es
