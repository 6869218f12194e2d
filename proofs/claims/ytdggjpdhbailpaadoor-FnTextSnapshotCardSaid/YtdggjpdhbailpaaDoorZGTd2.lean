/- textDo, whatever call: the same bytes are written behind prepareNext's, in whatever world. Conditions: the appenders append the same bytes in whatever world (premises); the call's fields are of their kinds; no indent. -/
import Derived.Test.YtdggjpdhbailpaaDoorZGTd1
import Derived.Test.YtdggjpdhbailpaaDoorZGFl
namespace Go.Proofs.YtdggjpdhbailpaaDoor.Td2
set_option linter.unusedVariables false
set_option linter.unusedSectionVars false
open Go.RowKit Go.Proofs.YtdggjpdhbailpaaDoorW.PrintWords Go.Proofs.YtdggjpdhbailpaaDoorW.PrintLast Go.Proofs.YtdggjpdhbailpaaDoorW.PrintMore Go.Proofs.YtdggjpdhbailpaaDoor.As1 Go.Proofs.YtdggjpdhbailpaaDoor.En0 Go.Proofs.YtdggjpdhbailpaaDoor.Bl Go.Proofs.YtdggjpdhbailpaaDoor.Pn2 Go.Proofs.YtdggjpdhbailpaaDoor.Wr Go.Proofs.YtdggjpdhbailpaaDoor.Td Go.Proofs.YtdggjpdhbailpaaDoor.PFnTextAscii

/-- The float is turned to 32 bits without a draw. -/
def Fix (n : Nat) : Prop := ∃ m, ∀ W, Fl.cvN W .f64 n .f32 = m
def wordB (n : Nat) : Bool := Fl.nanB n || Fl.gtM n || Fl.gtM (Op.negFloat .f64 n)
/-- A call as the law makes them. -/
structure Good (o : TOp) : Prop where
  d0 : 1 ≤ o.d
  d1 : o.d ≤ 9
  sa : o.d = 1 ∨ o.d = 7 → Asc (bytesOf o.s)
  sl : o.s.size ≤ 1001
  i0 : -9223372036854775808 ≤ o.i
  i1 : o.i ≤ 9223372036854775807
  u0 : 0 ≤ o.u
  u1 : o.u < 18446744073709551616
  f0 : 0 ≤ o.f
  f1 : o.f < 18446744073709551616
  z : o.d = 4 → o.z = 32 ∨ o.z = 64
  fin : o.d = 4 → o.z = 32 → wordB o.f.toNat = false → Fix o.f.toNat
/-- f appends r. -/
def AppE (γ_ : Gho) (w0 : World) (f : Nat) (args : List Value) (r : List Int) : Prop :=
  ∀ (w1 : World) (v : Value) (l : List Int) (P0 : Nat → Prop), Below w0.heap.size w0 w1 → Kd.G (Kd.int .u8) 5 w1 w0.heap.size P0 v l → (∀ k, P0 k → k < w1.heap.size) → l.length + 90000 ≤ 140737488355328 → Calls Tryd.prog f (v :: args).toArray w1 (AppR w0 w1 P0 l (fun x => x = r ∧ x.length ≤ 80000))
/-- The appenders. -/
structure Apps (T : World → Prop) : Prop where
  fl : ∀ (n : Nat) (sz : Int), n < 18446744073709551616 → sz = 32 ∨ sz = 64 → (sz = 32 → wordB n = false → Fix n) → ∃ r, ∀ γ w0, T w0 → AppE γ w0 79 [.float .f64 n, .int .i64 sz] r
  it : ∀ (i : Int), -9223372036854775808 ≤ i → i ≤ 9223372036854775807 → ∃ r, ∀ γ w0, T w0 → AppE γ w0 80 [.int .i64 i, .int .i64 10] r
  ut : ∀ (u : Int), 0 ≤ u → u < 18446744073709551616 → ∃ r, ∀ γ w0, T w0 → AppE γ w0 81 [.int .u64 u, .int .i64 10] r
  st : ∀ (s : ByteArray), s.size ≤ 1001 → ∃ r, ∀ γ w0, T w0 → AppE γ w0 78 [.string s, .bool false] r

section
variable [γ_ : Gho] [η_ : Hel]
theorem pre_on {w0 w W : World} {b : Nat} {I : ByteArray} {d0 d1 : Int} {asc : Bool} {last nx : Int} {ind out : List Int} (h : Pre w0 w b I d0 d1 asc last nx ind out) (hb : Below w.heap.size w W) : Pre w0 W b I d0 d1 asc last nx ind out := by
  obtain ⟨vI, vO, hA⟩ := h.e
  exact ⟨⟨vI, vO, hA.below hb⟩, h.la, h.ok, below_then h.below h.below.size hb, h.hz, h.len⟩
theorem wrp_mono {w0 : World} {b : Nat} {I : ByteArray} {d0 d1 : Int} {asc : Bool} {nx : Int} {ind out : List Int} {rs rs' : List Int → Prop} {e : Ending} {w' : World} (h : WrP w0 b I d0 d1 asc nx ind out rs e w') (hr : ∀ r, rs r → rs' r) : WrP w0 b I d0 d1 asc nx ind out rs' e w' := by
  obtain ⟨h1, ⟨r, vI, vO, h2, h3⟩, h4⟩ := h
  exact ⟨h1, ⟨r, vI, vO, hr r h2, h3⟩, h4⟩
end

/-- What a call writes. -/
def Does (T : World → Prop) (o : TOp) (R : List Int) : Prop :=
  (o.d = 1 → R ≠ []) ∧ ∀ (γ_ : Gho) (η_ : Hel) (w0 : World), T w0 → ∀ (b : Nat) (last : Int) (I : ByteArray) (ind out : List Int) (w : World), Pre w0 w b I 123 125 false last (lastOf o.d) ind out →
    Calls Tryd.prog 22 #[.pointer (some ⟨b, 0, none⟩), opV o] w (WrP w0 b I 123 125 false (lastOf o.d) (indOf (bytesOf I) last (lastOf o.d) ind) (out ++ preOf (bytesOf I) last (lastOf o.d) ind) (fun r => r = R ∧ r.length ≤ 90000))

theorem td (T : World → Prop) (hA : Apps T) (o : TOp) (hg : Good o) : ∃ R, Does T o R := by
  obtain ⟨d, s, b1, i, u, f, z⟩ := o
  have hs : s.size ≤ 1001 := hg.sl
  have hd0 : 1 ≤ d := hg.d0
  have hd1 : d ≤ 9 := hg.d1
  obtain ⟨n, rfl⟩ : ∃ n : Nat, f = (n : Int) := Int.eq_ofNat_of_zero_le hg.f0
  rcases (show d = 1 ∨ d = 2 ∨ d = 3 ∨ d = 4 ∨ d = 5 ∨ d = 6 ∨ d = 7 ∨ d = 8 ∨ d = 9 by omega) with rfl | rfl | rfl | rfl | rfl | rfl | rfl | rfl | rfl
  · refine ⟨bytesOf s ++ [58], fun _ => by simp, fun γ_ η_ w0 hT b last I ind out w h => ?_⟩
    refine td1 b s b1 i u n z w _ fun W hW => (wName b last I 123 125 false ind out w0 W (pre_on h hW) s (by omega)).mono fun e w' hh => ⟨hh.1, wrp_mono hh ?_⟩
    rintro r rfl
    exact ⟨rfl, by rw [List.length_append, bytesOf_length]; simp; omega⟩
  · refine ⟨bytesOf (if b1 then ⟨#[116, 114, 117, 101]⟩ else ⟨#[102, 97, 108, 115, 101]⟩), fun h => (by cases h), fun γ_ η_ w0 hT b last I ind out w h => ?_⟩
    refine td2 b s b1 i u n z w _ fun W hW => (wBool b last I 123 125 false ind out w0 W (pre_on h hW) b1).mono fun e w' hh => ⟨hh.1, wrp_mono hh ?_⟩
    rintro r rfl
    exact ⟨rfl, by rw [bytesOf_length]; cases b1 <;> decide⟩
  · obtain ⟨r, hr⟩ := hA.st s hs
    refine ⟨r, fun h => (by cases h), fun γ_ η_ w0 hT b last I ind out w h => ?_⟩
    refine td3 b s b1 i u n z w _ fun W hW => (wString b last I 123 125 false ind out w0 W (pre_on h hW) _ s (hr γ_ w0 hT)).mono fun e w' hh => ⟨hh.1, wrp_mono hh ?_⟩
    exact fun x hx => ⟨hx.1, by have := hx.2; omega⟩
  · obtain ⟨r, hr⟩ := hA.fl n z (by have := hg.f1; simp only at this; omega) (hg.z rfl) (fun hz => hg.fin rfl hz)
    refine ⟨r, fun h => (by cases h), fun γ_ η_ w0 hT b last I ind out w h => ?_⟩
    refine td4 b s b1 i u n z w _ fun W hW => (wFloat b last I 123 125 false ind out w0 W (pre_on h hW) _ n z (hr γ_ w0 hT)).mono fun e w' hh => ⟨hh.1, wrp_mono hh ?_⟩
    exact fun x hx => ⟨hx.1, by have := hx.2; omega⟩
  · obtain ⟨r, hr⟩ := hA.it i hg.i0 hg.i1
    refine ⟨r, fun h => (by cases h), fun γ_ η_ w0 hT b last I ind out w h => ?_⟩
    refine td5 b s b1 i u n z w _ fun W hW => (wInt b last I 123 125 false ind out w0 W (pre_on h hW) _ i (hr γ_ w0 hT)).mono fun e w' hh => ⟨hh.1, wrp_mono hh ?_⟩
    exact fun x hx => ⟨hx.1, by have := hx.2; omega⟩
  · obtain ⟨r, hr⟩ := hA.ut u hg.u0 hg.u1
    refine ⟨r, fun h => (by cases h), fun γ_ η_ w0 hT b last I ind out w h => ?_⟩
    refine td6 b s b1 i u n z w _ fun W hW => (wUint b last I 123 125 false ind out w0 W (pre_on h hW) _ u (hr γ_ w0 hT)).mono fun e w' hh => ⟨hh.1, wrp_mono hh ?_⟩
    exact fun x hx => ⟨hx.1, by have := hx.2; omega⟩
  · refine ⟨bytesOf s, fun h => (by cases h), fun γ_ η_ w0 hT b last I ind out w h => ?_⟩
    refine td7 b s b1 i u n z w _ fun W hW => (wLit b last I 123 125 false ind out w0 W (pre_on h hW) s (by omega)).mono fun e w' hh => ⟨hh.1, wrp_mono hh ?_⟩
    rintro r rfl
    exact ⟨rfl, by rw [bytesOf_length]; omega⟩
  · refine ⟨[123], fun h => (by cases h), fun γ_ η_ w0 hT b last I ind out w h => ?_⟩
    refine td8 b s b1 i u n z w _ fun W hW => (wOpen b last I 123 125 false ind out w0 W (pre_on h hW)).mono fun e w' hh => ⟨hh.1, wrp_mono hh ?_⟩
    rintro r rfl
    exact ⟨rfl, by simp⟩
  · refine ⟨[125], fun h => (by cases h), fun γ_ η_ w0 hT b last I ind out w h => ?_⟩
    refine td9 b s b1 i u n z w _ fun W hW => (wClose b last I 123 125 false ind out w0 W (pre_on h hW)).mono fun e w' hh => ⟨hh.1, wrp_mono hh ?_⟩
    rintro r rfl
    exact ⟨rfl, by simp⟩

/-- One choice of what the calls write. -/
theorem does (T : World → Prop) (hA : Apps T) : ∃ R : TOp → List Int, ∀ o, Good o → Does T o (R o) := by
  have h : ∀ o : TOp, ∃ R : List Int, Good o → Does T o R := by
    intro o
    by_cases hg : Good o
    · obtain ⟨R, hR⟩ := td T hA o hg
      exact ⟨R, fun _ => hR⟩
    · exact ⟨[], fun h => absurd h hg⟩
  exact Classical.axiomOfChoice h

end Go.Proofs.YtdggjpdhbailpaaDoor.Td2
