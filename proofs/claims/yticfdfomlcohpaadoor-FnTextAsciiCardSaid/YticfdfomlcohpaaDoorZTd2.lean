/- textDo, whatever call: bytes of ASCII are written behind prepareNext's. Conditions: the appenders append ASCII (premises); the call's fields are of their kinds. -/
import Derived.Test.YticfdfomlcohpaaDoorZTd1
namespace Go.Proofs.YticfdfomlcohpaaDoor.Td2
open Go.RowKit Go.Proofs.YticfdfomlcohpaaDoorW.PrintWords Go.Proofs.YticfdfomlcohpaaDoorW.PrintLast Go.Proofs.YticfdfomlcohpaaDoorW.PrintMore Go.Proofs.YticfdfomlcohpaaDoor.As1 Go.Proofs.YticfdfomlcohpaaDoor.En0 Go.Proofs.YticfdfomlcohpaaDoor.Bl Go.Proofs.YticfdfomlcohpaaDoor.Pn2 Go.Proofs.YticfdfomlcohpaaDoor.Wr Go.Proofs.YticfdfomlcohpaaDoor.Td Go.Proofs.YticfdfomlcohpaaDoor.PFnTextAscii

/-- A call as the law makes them. -/
structure Good (o : TOp) : Prop where
  d0 : 1 ≤ o.d
  d1 : o.d ≤ 9
  sa : o.d = 1 ∨ o.d = 7 → Asc (bytesOf o.s)
  sl : o.s.size ≤ 1001
  i0 : -9223372036854775808 ≤ o.i
  i1 : o.i ≤ 9223372036854775807
  u0 : 0 ≤ o.u
  u1 : o.u < 18446744073709551616
  f0 : 0 ≤ o.f
  f1 : o.f < 18446744073709551616
  z : o.d = 4 → o.z = 32 ∨ o.z = 64
def RS (r : List Int) : Prop := Asc r ∧ r.length ≤ 80000
/-- The appenders. -/
def App (w0 : World) (f : Nat) (args : List Value) : Prop :=
  ∀ (w1 : World) (v : Value) (l : List Int) (P0 : Nat → Prop), Below w0.heap.size w0 w1 → Kd.R (Kd.int .u8) 5 w1 w0.heap.size P0 v l → (∀ k, P0 k → k < w1.heap.size) → l.length + 90000 ≤ 140737488355328 → Calls Tryd.prog f (v :: args).toArray w1 (AppR w0 w1 P0 l RS)
structure Apps (w0 : World) : Prop where
  fl : ∀ (n : Nat) (sz : Int), n < 18446744073709551616 → sz = 32 ∨ sz = 64 → App w0 79 [.float .f64 n, .int .i64 sz]
  it : ∀ (i : Int), -9223372036854775808 ≤ i → i ≤ 9223372036854775807 → App w0 80 [.int .i64 i, .int .i64 10]
  ut : ∀ (u : Int), 0 ≤ u → u < 18446744073709551616 → App w0 81 [.int .u64 u, .int .i64 10]
  st : ∀ (s : ByteArray), s.size ≤ 1001 → App w0 78 [.string s, .bool true]

def TR (o : TOp) (r : List Int) : Prop := Asc r ∧ r.length ≤ 90000 ∧ (o.d = 1 → r ≠ [])

theorem pre_on {w0 w W : World} {b : Nat} {I : ByteArray} {d0 d1 : Int} {asc : Bool} {last nx : Int} {ind out : List Int} (h : Pre w0 w b I d0 d1 asc last nx ind out) (hb : Below w.heap.size w W) : Pre w0 W b I d0 d1 asc last nx ind out := by
  obtain ⟨vI, vO, hA⟩ := h.e
  exact ⟨⟨vI, vO, hA.below hb⟩, h.la, h.ok, below_then h.below h.below.size hb, h.len⟩
theorem wrp_mono {w0 : World} {b : Nat} {I : ByteArray} {d0 d1 : Int} {asc : Bool} {nx : Int} {ind out : List Int} {rs rs' : List Int → Prop} {e : Ending} {w' : World} (h : WrP w0 b I d0 d1 asc nx ind out rs e w') (hr : ∀ r, rs r → rs' r) : WrP w0 b I d0 d1 asc nx ind out rs' e w' := by
  obtain ⟨h1, ⟨r, vI, vO, h2, h3⟩, h4⟩ := h
  exact ⟨h1, ⟨r, vI, vO, hr r h2, h3⟩, h4⟩
theorem asc_one {c : Int} (h0 : 0 ≤ c) (h1 : c < 128) : Asc [c] := by
  intro x hx
  simp only [List.mem_singleton] at hx
  subst hx
  exact ⟨h0, h1⟩

theorem td (o : TOp) (hg : Good o) (b : Nat) (last : Int) (I : ByteArray) (d0 d1 : Int) (ind out : List Int) (w0 w : World) (hA : Apps w0) (a0 : 0 ≤ d0) (a1 : d0 < 128) (e0 : 0 ≤ d1) (e1 : d1 < 128)
    (h : Pre w0 w b I d0 d1 true last (lastOf o.d) ind out) :
    Calls Tryd.prog 22 #[.pointer (some ⟨b, 0, none⟩), opV o] w (WrP w0 b I d0 d1 true (lastOf o.d) (indOf (bytesOf I) last (lastOf o.d) ind) (out ++ preOf (bytesOf I) last (lastOf o.d) ind) (TR o)) := by
  obtain ⟨d, s, b1, i, u, f, z⟩ := o
  have hs : s.size ≤ 1001 := hg.sl
  have hd0 : 1 ≤ d := hg.d0
  have hd1 : d ≤ 9 := hg.d1
  obtain ⟨n, rfl⟩ : ∃ n : Nat, f = (n : Int) := Int.eq_ofNat_of_zero_le hg.f0
  rcases (show d = 1 ∨ d = 2 ∨ d = 3 ∨ d = 4 ∨ d = 5 ∨ d = 6 ∨ d = 7 ∨ d = 8 ∨ d = 9 by omega) with rfl | rfl | rfl | rfl | rfl | rfl | rfl | rfl | rfl
  · refine td1 b s b1 i u n z w _ fun W hW => (wName b last I d0 d1 true ind out w0 W (pre_on h hW) s (by omega)).mono fun e w' hh => ⟨hh.1, wrp_mono hh ?_⟩
    rintro r rfl
    exact ⟨Asc.append (hg.sa (.inl rfl)) (asc_one (by decide) (by decide)), by rw [List.length_append, bytesOf_length]; simp; omega, fun _ => by simp⟩
  · refine td2 b s b1 i u n z w _ fun W hW => (wBool b last I d0 d1 true ind out w0 W (pre_on h hW) b1).mono fun e w' hh => ⟨hh.1, wrp_mono hh ?_⟩
    rintro r rfl
    refine ⟨?_, ?_, fun h => by cases h⟩
    · cases b1
      · intro x hx; revert x; decide
      · intro x hx; revert x; decide
    · rw [bytesOf_length]; cases b1 <;> decide
  · refine td3 b s b1 i u n z w _ fun W hW => (wString b last I d0 d1 true ind out w0 W (pre_on h hW) RS s (hA.st s hs)).mono fun e w' hh => ⟨hh.1, wrp_mono hh ?_⟩
    exact fun r hr => ⟨hr.1, by have := hr.2; omega, fun h => by cases h⟩
  · refine td4 b s b1 i u n z w _ fun W hW => (wFloat b last I d0 d1 true ind out w0 W (pre_on h hW) RS n z (hA.fl n z (by have := hg.f1; simp only at this; omega) (hg.z rfl))).mono fun e w' hh => ⟨hh.1, wrp_mono hh ?_⟩
    exact fun r hr => ⟨hr.1, by have := hr.2; omega, fun h => by cases h⟩
  · refine td5 b s b1 i u n z w _ fun W hW => (wInt b last I d0 d1 true ind out w0 W (pre_on h hW) RS i (hA.it i hg.i0 hg.i1)).mono fun e w' hh => ⟨hh.1, wrp_mono hh ?_⟩
    exact fun r hr => ⟨hr.1, by have := hr.2; omega, fun h => by cases h⟩
  · refine td6 b s b1 i u n z w _ fun W hW => (wUint b last I d0 d1 true ind out w0 W (pre_on h hW) RS u (hA.ut u hg.u0 hg.u1)).mono fun e w' hh => ⟨hh.1, wrp_mono hh ?_⟩
    exact fun r hr => ⟨hr.1, by have := hr.2; omega, fun h => by cases h⟩
  · refine td7 b s b1 i u n z w _ fun W hW => (wLit b last I d0 d1 true ind out w0 W (pre_on h hW) s (by omega)).mono fun e w' hh => ⟨hh.1, wrp_mono hh ?_⟩
    rintro r rfl
    exact ⟨hg.sa (.inr rfl), by rw [bytesOf_length]; omega, fun h => by cases h⟩
  · refine td8 b s b1 i u n z w _ fun W hW => (wOpen b last I d0 d1 true ind out w0 W (pre_on h hW)).mono fun e w' hh => ⟨hh.1, wrp_mono hh ?_⟩
    rintro r rfl
    exact ⟨asc_one a0 a1, by simp, fun h => by cases h⟩
  · refine td9 b s b1 i u n z w _ fun W hW => (wClose b last I d0 d1 true ind out w0 W (pre_on h hW)).mono fun e w' hh => ⟨hh.1, wrp_mono hh ?_⟩
    rintro r rfl
    exact ⟨asc_one e0 e1, by simp, fun h => by cases h⟩

end Go.Proofs.YticfdfomlcohpaaDoor.Td2
