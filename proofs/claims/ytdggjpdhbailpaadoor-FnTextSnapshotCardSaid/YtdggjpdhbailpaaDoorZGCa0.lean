/- A list of items as it comes in: it reads as a list of items, its numbers are of their kinds. Conditions: none. -/
import Derived.Test.YtdggjpdhbailpaaDoorZGLa
import Derived.WalkKit
import Derived.ProofKit
import Derived.OpenShut
import Derived.ChangeArms
import Derived.Deep.Fields
namespace Go.Proofs.YtdggjpdhbailpaaDoor.Ca0
open Go.RowKit Go.Proofs.YtdggjpdhbailpaaDoorW.PrintWords Go.Proofs.YtdggjpdhbailpaaDoorW.PrintLast Go.Proofs.YtdggjpdhbailpaaDoorW.PrintMore Go.Proofs.YtdggjpdhbailpaaDoor.It Go.Proofs.YtdggjpdhbailpaaDoor.La Go.Proofs.YtdggjpdhbailpaaDoor.PFnTextAscii
open Go.Deep (oneCellFields hone_of)

section
variable {H : Type} {enc : TypeId × Value → H} {P : Program} {w : World} {base : Nat} {spare : Nat → Bool} {held : Bool}
theorem fields_at {t : TypeId} {fs : Array Field} {fuel : Nat} {cs : List Value} {x : DataW H × List MemPlace} (hs : P.underlying t = some (.struct fs)) (hone : oneCellFields P fs = true) (h : DataW.trod enc P w base spare held fuel t cs = some x) :
    ∃ n, fuel = n + 1 ∧ ∀ (i : Nat) (f : Field) (v : Value), fs[i]? = some f → cs[i]? = some v → ∃ y, DataW.trod enc P w base spare held n f.type [v] = some y := by
  obtain ⟨xs, n, hn, _, _, hxl, hg⟩ := DataW.trod_struct hs h
  refine ⟨n, hn, fun i f v hf hv => ?_⟩
  obtain ⟨ho, hk⟩ := hone_of hone i f hf
  have h1 := hg i f hf
  have hi : i < fs.size := (Array.getElem?_eq_some_iff.1 hf).1
  obtain ⟨hc, hcv⟩ := List.getElem?_eq_some_iff.1 hv
  have e : (cs.drop f.offset).take (P.cellsOf f.type) = [v] := by
    rw [ho, hk, List.drop_eq_getElem_cons hc, hcv]
    rfl
  rw [e, List.getElem?_eq_getElem (by omega)] at h1
  exact ⟨_, h1⟩
end

theorem all_of (P : S76 → Prop) : ∀ l : List S76, (∀ x ∈ l, P x ∧ All P x.f8) → All P l := by
  intro l
  induction l with
  | nil => intro _; exact all_nil P
  | cons x r ih =>
    intro h
    rw [all_cons]
    exact ⟨(h x List.mem_cons_self).1, (h x List.mem_cons_self).2, ih (fun y hy => h y (List.mem_cons_of_mem _ hy))⟩

theorem u8_of {n : Int} (h : (Lit.int .u8 n).wf = true) : 0 ≤ n ∧ n < 256 := by
  have := bounds_u8 h
  omega

set_option maxRecDepth 100000 in
theorem items {H : Type} {enc : TypeId × Value → H} {w : World} {base : Nat} {spare : Nat → Bool} {held : Bool} (fuel : Nat) : ∀ (v : Value) (x : DataW H × List MemPlace), DataW.trod enc Tryd.prog w base spare held fuel 31 [v] = some x →
    ∃ (A : Option Addr) (c : Nat) (l : List S76), v = .slice A l.length c ∧ l.length ≤ c ∧ Kd.C k76 w A l.length l ∧ All Rg l := by
  induction fuel using Nat.strongRecOn with
  | _ fuel ih =>
  intro v x h
  rcases DataW.trod_slice Tryd.underlying31 h with ⟨e, _⟩ | ⟨a, len, cap, elems, rest, n, hn, hcs, _, _, hl, hm, hel, hE, _, _⟩
  · injection e with e _
    exact ⟨none, 0, [], e, Nat.le_refl _, Kd.C_nil _ _, all_nil _⟩
  · injection hcs with e _
    have hC : Tryd.prog.cellsOf 76 = 9 := by kernel_rfl
    rw [hC] at hE
    have key : ∀ i, ∃ it : S76, i < len → ∃ cs, w.cells? base (a.add (i * 9)) 9 = some cs ∧ k76.K w it cs ∧ Rg it ∧ All Rg it.f8 := by
      intro i
      by_cases hi : i < len
      · have h1 := hE i hi
        rw [List.getElem?_eq_getElem (by omega)] at h1
        obtain ⟨cs, hcs, htr⟩ := Option.bind_eq_some_iff.1 h1
        obtain ⟨m, hm2, hat⟩ := fields_at Tryd.underlying76 (by kernel_rfl) htr
        have hlen := (World.cells?_some hcs).2.1
        match cs, hlen with
        | [c0, c1, c2, c3, c4, c5, c6, c7, c8], _ =>
          obtain ⟨_, g0⟩ := hat 0 _ c0 rfl rfl
          obtain ⟨_, g1⟩ := hat 1 _ c1 rfl rfl
          obtain ⟨_, g2⟩ := hat 2 _ c2 rfl rfl
          obtain ⟨_, g3⟩ := hat 3 _ c3 rfl rfl
          obtain ⟨_, g4⟩ := hat 4 _ c4 rfl rfl
          obtain ⟨_, g5⟩ := hat 5 _ c5 rfl rfl
          obtain ⟨_, g6⟩ := hat 6 _ c6 rfl rfl
          obtain ⟨_, g7⟩ := hat 7 _ c7 rfl rfl
          obtain ⟨_, g8⟩ := hat 8 _ c8 rfl rfl
          obtain ⟨s0, e0, _, _⟩ := DataW.trod_string Tryd.underlying9 g0
          obtain ⟨n1, e1, _, w1⟩ := DataW.trod_int Tryd.underlying5 g1
          obtain ⟨b2, e2, _⟩ := DataW.trod_bool Tryd.underlying4 g2
          obtain ⟨s3, e3, _, _⟩ := DataW.trod_string Tryd.underlying9 g3
          obtain ⟨n4, e4, _, w4⟩ := DataW.trod_int Tryd.underlying2 g4
          obtain ⟨n5, e5, _, w5⟩ := DataW.trod_int Tryd.underlying24 g5
          obtain ⟨n6, e6, _, w6⟩ := DataW.trod_int Tryd.underlying24 g6
          obtain ⟨b7, e7, _⟩ := DataW.trod_bool Tryd.underlying4 g7
          obtain ⟨A8, k8, l8, e8, q1, q2, q3⟩ := ih m (by omega) c8 _ g8
          simp only [List.cons.injEq, and_true] at e0 e1 e2 e3 e4 e5 e6 e7
          subst e0 e1 e2 e3 e4 e5 e6 e7 e8
          have i4 := bounds_i64 w4
          have i5 := bounds_u64 w5
          have i6 := bounds_u64 w6
          have i1 := u8_of w1
          exact ⟨⟨s0, n1, b2, s3, n4, n5, n6, b7, l8⟩, fun _ => ⟨_, hcs, k76_mk w ⟨s0, n1, b2, s3, n4, n5, n6, b7, l8⟩ q1 q2, ⟨i1, ⟨i4.1, i4.2⟩, ⟨i5.1, by show n5 < _; omega⟩, ⟨i6.1, by show n6 < _; omega⟩⟩, q3⟩⟩
      · exact ⟨z76, fun h => absurd h hi⟩
    obtain ⟨f, hf⟩ := Classical.axiomOfChoice key
    have hll : ((List.range len).map f).length = len := by simp
    refine ⟨some a, cap, (List.range len).map f, by rw [hll]; exact e, by rw [hll]; exact hl, ?_, all_of _ _ ?_⟩
    · rw [hll]
      refine ⟨hll, by simp only [maxLen] at hm; omega, fun _ => ⟨a, rfl, fun j p hp => ?_⟩⟩
      simp only [List.getElem?_map, Option.map_eq_some_iff] at hp
      obtain ⟨i, hi, rfl⟩ := hp
      obtain ⟨hlt, e2⟩ := List.getElem?_eq_some_iff.1 hi
      simp only [List.length_range] at hlt
      rw [List.getElem_range] at e2
      subst e2
      obtain ⟨cs, h1, h2, _, _⟩ := hf j hlt
      obtain ⟨_, h4, h5⟩ := World.cells?_some h1
      refine ⟨cs, h4, h2, fun i u hu => ?_⟩
      have h6 := h5 i (by have := (List.getElem?_eq_some_iff.1 hu).1; omega)
      rw [hu] at h6
      rw [show k76.sz = 9 from rfl, ← Addr.add_add]
      exact h6
    · intro y hy
      obtain ⟨i, hi, rfl⟩ := List.mem_map.1 hy
      obtain ⟨_, _, _, h7, h8⟩ := hf i (by simpa using hi)
      exact ⟨h7, h8⟩

end Go.Proofs.YtdggjpdhbailpaaDoor.Ca0
