/- ident writes letters and digits alone; float gives a number of 64 bits. Conditions: a name of at most 1000 bytes. -/
import Derived.Test.YtdggjpdhbailpaaDoorZLf
import Derived.Test.YtdggjpdhbailpaaDoorZGFx
import Derived.Test.YtdggjpdhbailpaaDoorZGPn2
namespace Go.Proofs.YtdggjpdhbailpaaDoor.To0
set_option linter.unusedSimpArgs false
set_option linter.unusedVariables false
open Go.RowKit Go.Proofs.YtdggjpdhbailpaaDoorW.PrintWords Go.Proofs.YtdggjpdhbailpaaDoorW.PrintLast Go.Proofs.YtdggjpdhbailpaaDoorW.PrintMore Go.Proofs.YtdggjpdhbailpaaDoor.Lf Go.Proofs.YtdggjpdhbailpaaDoor.Pn2 Go.Proofs.YtdggjpdhbailpaaDoor.PFnTextAscii

theorem bytesOf_app (a b : ByteArray) : bytesOf (a ++ b) = bytesOf a ++ bytesOf b := by
  unfold bytesOf
  rw [ByteArray.data_append, Array.toList_append, List.map_append]
theorem bytesOf_one (s : ByteArray) (i : Nat) (h : i < s.size) : bytesOf (s.extract i (i + 1)) = [bt s i] := by
  have e : (s.extract i (i + 1)).data = s.data.extract i (i + 1) := ByteArray.data_extract
  unfold bytesOf
  rw [e]
  have h' : i < s.data.size := h
  have e2 : (s.data.extract i (i + 1)).toList = [s.data[i]] := by
    apply List.ext_getElem?
    intro j
    rw [Array.getElem?_toList, Array.getElem?_extract]
    rcases j with _ | j
    · have h2 : i < s.size := h
      simp [h']
      omega
    · rw [if_neg (by omega)]
      simp
  rw [e2]
  simp [bt, h]
  rfl

theorem letter_ok (c : Int) (h : laws_letter.f c = some true) (h0 : 0 ≤ c) : c < 128 := by
  unfold laws_letter.f at h
  repeat' split at h
  all_goals first | omega | (simp at h; omega)
theorem letter_some (c : Int) : ∃ r, laws_letter.f c = some r := by
  unfold laws_letter.f
  repeat' split
  all_goals exact ⟨_, rfl⟩

theorem ident_l (s : ByteArray) (hs : s.size ≤ 1000) : ∀ (d k i : Nat) (x : ByteArray), i + d = s.size → d < k → Asc (bytesOf x) → x.size ≤ 1 + i →
    ∃ r, laws_ident.l0 k s x (i : Int) = some r ∧ Asc (bytesOf r) ∧ r.size ≤ 1 + s.size := by
  intro d
  induction d with
  | zero =>
    intro k i x hi hk ha hx
    obtain ⟨k, rfl⟩ : ∃ m, k = m + 1 := ⟨k - 1, by omega⟩
    refine ⟨x, ?_, ha, by omega⟩
    simp only [laws_ident.l0]
    rw [if_neg (by omega)]
  | succ d ih =>
    intro k i x hi hk ha hx
    obtain ⟨k, rfl⟩ : ∃ m, k = m + 1 := ⟨k - 1, by omega⟩
    have hlt : i < s.size := by omega
    have hw : wrap64 ((i : Int) + 1) = ((i + 1 : Nat) : Int) := by unfold wrap64; omega
    have hb := bt_range s (i : Int)
    have h1 := bytesOf_one s i hlt
    have hz : (s.extract i (i + 1)).size = 1 := by rw [← bytesOf_length, h1]; rfl
    have hkeep := ih k (i + 1) x (by omega) (by omega) ha (by omega)
    have hmore : 0 ≤ bt s (i : Int) → bt s (i : Int) < 128 → ∃ r, laws_ident.l0 k s (x ++ s.extract i (i + 1)) ((i + 1 : Nat) : Int) = some r ∧ Asc (bytesOf r) ∧ r.size ≤ 1 + s.size := by
      intro p q
      refine ih k (i + 1) _ (by omega) (by omega) ?_ (by rw [ByteArray.size_append, hz]; omega)
      rw [bytesOf_app, h1]
      refine ha.append ?_
      intro c hc
      simp only [List.mem_singleton] at hc
      subst hc
      exact ⟨p, q⟩
    obtain ⟨lb, hlb⟩ := letter_some (bt s (i : Int))
    simp only [laws_ident.l0]
    rw [if_pos (by omega), if_pos (by omega), hlb]
    simp only [Option.bind_some, hw, Int.toNat_natCast]
    have p1 : (i : Int) ≤ ((i + 1 : Nat) : Int) := by omega
    have p2 : ((i + 1 : Nat) : Int) ≤ (s.size : Int) := by omega
    have p3 : x.size + (s.extract i (i + 1)).size ≤ 9223372036854775807 := by rw [hz]; omega
    simp only [if_pos p1, if_pos p2, if_pos p3]
    by_cases hl : lb = true
    · subst hl
      rw [if_pos rfl]
      exact hmore hb.1 (letter_ok _ hlb hb.1)
    · rw [if_neg hl]
      by_cases h48 : bt s (i : Int) ≥ 48
      · rw [if_pos h48]
        by_cases h57 : bt s (i : Int) ≤ 57
        · rw [if_pos h57]
          exact hmore hb.1 (by omega)
        · rw [if_neg h57]
          exact hkeep
      · rw [if_neg h48]
        exact hkeep

theorem ident_ok (s : ByteArray) (hs : s.size ≤ 1000) (w : World) : ∃ r : ByteArray, Asc (bytesOf r) ∧ r.size ≤ 1001 ∧ ∀ w : World, Calls Tryd.prog 25 #[.string s] w fun e w' => e = .returned (.string r) ∧ Drawn0 w w' := by
  obtain ⟨r, h1, h2, h3⟩ := ident_l s hs s.size (s.size + 1) 0 ⟨#[110]⟩ (by omega) (by omega) (by intro x hx; revert x; decide) (by decide)
  exact ⟨r, h2, by omega, fun w => laws_ident.calls (s.size + 1) s r w h1⟩

theorem ofb (n : Nat) (W : World) : (callFunc 51 #[.int .u64 (n : Int)]).run Tryd.prog W = .ok (.value (.float .f64 n)) W := by kernel_rfl
theorem tob (n : Nat) (W : World) : (callFunc 66 #[.float .f64 n]).run Tryd.prog W = .ok (.value (.int .u64 (n : Int))) W := by kernel_rfl
theorem c4 (W : World) (b : Nat) : (convert 92 108 (.float .f64 b)).run Tryd.prog W = .ok (.float .f32 (Fl.cvN W .f64 b .f32)) (Fl.cvW W .f64 b .f32) :=
  Fl.run_cv Tryd.prog 92 108 .f64 .f32 b (by rw [Tryd.underlying92]; rfl) Tryd.underlying108 (by decide) W
theorem c5 (W : World) (b : Nat) : (convert 108 92 (.float .f32 b)).run Tryd.prog W = .ok (.float .f64 (Fl.cvN W .f32 b .f64)) (Fl.cvW W .f32 b .f64) :=
  Fl.run_cv Tryd.prog 108 92 .f32 .f64 b (by rw [Tryd.underlying108]; rfl) Tryd.underlying92 (by decide) W

attribute [local irreducible] Fl.cvW Fl.cvN

theorem float_ok (s0 : ByteArray) (k : Int) (b1 : Bool) (s3 : ByteArray) (i u : Int) (n : Nat) (short : Bool) (v : Value) (hn : n < 18446744073709551616) (hv : ∃ A m c, v = .slice A m c) (w : World) :
    Calls Tryd.prog 26 #[.agg #[.string s0, .int .u8 k, .bool b1, .string s3, .int .i64 i, .int .u64 u, .int .u64 (n : Int), .bool short, v]] w fun e w' => ∃ m : Nat, m < 18446744073709551616 ∧ (short = true → Td2.wordB m = false → Td2.Fix m) ∧ e = .returned (.int .u64 (m : Int)) ∧ Below w.heap.size w w' := by
  have k1 := ofb
  have k2 := tob
  have k3 := c4
  have k4 := c5
  have hu := Tryd.underlying76
  obtain ⟨A, m, c, rfl⟩ := hv
  cases short
  · go_enter Tryd.func26, Tryd.ntmps26
    go_wp2
    go_ret
    exact ⟨n, hn, fun h => (by cases h), rfl, below_alloc (Below.refl _ _) _⟩
  · go_enter Tryd.func26, Tryd.ntmps26
    go_wp2
    go_ret
    exact ⟨_, Fl.cv64_lt _ _, fun _ h => Fx.fix _ _ h, rfl, Fl.cvW_below (Fl.cvW_below (below_alloc (Below.refl _ _) _) _ _ _) _ _ _⟩

end Go.Proofs.YtdggjpdhbailpaaDoor.To0
